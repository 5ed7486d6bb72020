import JvmDerived
import JvmDerived.Pilot.@@N@@Statement
import JvmDerived.Pilot.@@N@@Code
set_option linter.unusedVariables false
set_option linter.unusedSimpArgs false
namespace Jvm.RoadKit
open Sem ClassFile Op Lib Jvm.Stand Jvm.Free Jvm.LawKit
section New
variable {p : Program} {l : Launch} {e : Env} {R : Room} {s : State} {m : MethodId} {args : Array Value} {below : List Frame} {meth : Method} {c : Code} {T : State} {locs : List Loc} {cells slots : Nat}
theorem retI (X : Stand p l e R s m args below meth c T locs cells slots) (hx : p.tables.exec = Jvm.exec) {pc : Nat} {Ls : Array Slot} {z : Int32} {rest : List Value} (hret : meth.sig.returnType = some .int) (hd : decode c.code pc = .ok (.ireturn, 1)) {fs : List Frame}
    (hl : ∀ (f : JFrame) (acts : List Action), f.method = m → f.locked = none → f.entered = [] → (doReturn e (T.setTop f) acts (some (.int z))).1 = T.setFrames fs) : Steps p.tables e below (T.setTop (mkF m pc Ls (.int z :: rest))) (T.setFrames fs) := by
  have hm' : T.vm.method? m = some meth := X.method'
  have hn : narrow .int (.int z) = .int z := rfl
  show Steps p.tables e below (T.setTop { method := m, pc := pc, locals := Ls, stack := _ :: rest, locked := none }) _
  jvm_step X.here [X.here.top, hx, hd, hm', hret, hn]
  first | (intro acts; rw [hl _ acts rfl rfl rfl]) | rw [hl _ _ rfl rfl rfl]
  exact Steps.refl _
end New
theorem own_lc_tlt {a b : Int64} (h : a < b) : lcmpW a b < 0 := by rw [lcW]; exact (lc_lt _ _).2 h
theorem own_lc_flt {a b : Int64} (h : ¬ a < b) : ¬ lcmpW a b < 0 := by rw [lcW]; exact fun q => h ((lc_lt _ _).1 q)
theorem own_lc_tgt {a b : Int64} (h : b < a) : 0 < lcmpW a b := by rw [lcW]; exact (lc_gt _ _).2 h
theorem own_lc_fgt {a b : Int64} (h : ¬ b < a) : ¬ 0 < lcmpW a b := by rw [lcW]; exact fun q => h ((lc_gt _ _).1 q)
theorem own_lc_teq {a b : Int64} (h : a = b) : lcmpW a b = 0 := by rw [lcW]; exact (lc_eq _ _).2 h
theorem own_lc_feq {a b : Int64} (h : ¬ a = b) : ¬ lcmpW a b = 0 := by rw [lcW]; exact fun q => h ((lc_eq _ _).1 q)
end Jvm.RoadKit
namespace Jvm.Pilot.@@N@@
open Jvm Jvm.ClassFile Sem Op Lib Jvm.Free Jvm.Stand Jvm.LawKit Jvm.RoadKit Bundle Jvm.Pilot.@@N@@.Jvm.D

def own_A (Z : State) (h : Heap) (a : Addr) (ty : FieldType) (n : Int32) (y : Int32 → Value) : Prop := ∃ c : Cell, Arr Z h a c ty ∧ c.slots.size = n.toNatClampNeg ∧ ¬ n < 0 ∧ ∀ j : Int32, ¬ (j < 0 ∨ c.slots.size ≤ j.toNatClampNeg) → c.slots[j.toNatClampNeg]? = some (y j)
theorem own_A_lt {Z : State} {h : Heap} {a : Addr} {ty : FieldType} {n : Int32} {y : Int32 → Value} (F : own_A Z h a ty n y) : a < h.size := by obtain ⟨c, A, -⟩ := F; exact A.lt
theorem own_A_ext {Z : State} {h h' : Heap} {a : Addr} {ty : FieldType} {n : Int32} {y : Int32 → Value} (F : own_A Z h a ty n y) (E : Ext h h') : own_A Z h' a ty n y := by obtain ⟨c, A, r⟩ := F; exact ⟨c, A.ext E, r⟩
theorem own_A_other {Z : State} {h h' : Heap} {a b : Addr} {ty : FieldType} {n : Int32} {y : Int32 → Value} {sl : Nat} {v : Value} (F : own_A Z h b ty n y) (W : Wr h h' a sl v) (q : b ≠ a) : own_A Z h' b ty n y := by obtain ⟨c, A, r⟩ := F; exact ⟨c, A.other W q, r⟩
theorem own_A_keep {Z : State} {h h' : Heap} {a : Addr} {ty : FieldType} {n : Int32} {y : Int32 → Value} {ws : List Addr} (F : own_A Z h a ty n y) (K : Keep h h' ws) (q : a ∉ ws) : own_A Z h' a ty n y := by obtain ⟨c, A, r⟩ := F; exact ⟨c, ⟨K.2.1 a c A.1 q, A.2⟩, r⟩
theorem own_A_new {Z : State} {h : Heap} {a : Addr} {k : ClassId} {ty : FieldType} {n : Int32} (A : Arr Z h a (newA k ty n) ty) (q : ¬ n < 0) : own_A Z h a ty n (fun _ => defaultValue ty) := by
  obtain ⟨c, A', -, S, M, H, -⟩ := Arv.new A q
  exact ⟨c, A', S, M, fun j hj => (H _ (Nat.lt_of_not_le fun y => hj (Or.inr y))).trans (by simp)⟩
theorem own_A_set {Z : State} {h h' : Heap} {a : Addr} {ty : FieldType} {n j : Int32} {y z : Int32 → Value} {v : Value} {c : Cell} (A : Arr Z h a c ty) (S : c.slots.size = n.toNatClampNeg) (M : ¬ n < 0) (H : ∀ j : Int32, ¬ (j < 0 ∨ c.slots.size ≤ j.toNatClampNeg) → c.slots[j.toNatClampNeg]? = some (y j)) (hj : ¬ (j < 0 ∨ c.slots.size ≤ j.toNatClampNeg)) (W : Wr h h' a j.toNatClampNeg v) (hz : z j = v) (hz' : ∀ i, ¬ i = j → z i = y i) : own_A Z h' a ty n z := by
  refine ⟨_, A.same W, by rw [sz_set]; exact S, M, fun i hi => ?_⟩
  rw [sz_set] at hi
  have hs : (c.setSlot j.toNatClampNeg v).slots = c.slots.setIfInBounds j.toNatClampNeg v := rfl
  rw [hs, Array.getElem?_setIfInBounds]
  by_cases e : i = j
  · subst e
    rw [if_pos rfl, if_pos (Nat.lt_of_not_le fun q => hj (Or.inr q)), hz]
  · have e' : ¬ j.toNatClampNeg = i.toNatClampNeg := fun q => e (Int32.toInt_inj.mp (by rw [nat_of (fun z => hi (Or.inl z)), nat_of (fun z => hj (Or.inl z)), q]))
    rw [if_neg e', hz' i e]
    exact H i hi
theorem own_setI {y : Int32 → Int32} {j x : Int32} : Value.int ((fun i => if i = j then x else y i) j) = .int x := congrArg Value.int (if_pos rfl)
theorem own_setI' {y : Int32 → Int32} {j x : Int32} : ∀ i, ¬ i = j → Value.int ((fun i => if i = j then x else y i) i) = .int (y i) := fun i h => congrArg Value.int (if_neg h)
theorem own_setJ {y : Int32 → Int64} {j : Int32} {x : Int64} : Value.long ((fun i => if i = j then x else y i) j) = .long x := congrArg Value.long (if_pos rfl)
theorem own_setJ' {y : Int32 → Int64} {j : Int32} {x : Int64} : ∀ i, ¬ i = j → Value.long ((fun i => if i = j then x else y i) i) = .long (y i) := fun i h => congrArg Value.long (if_neg h)

theorem own_A_congr {Z : State} {h : Heap} {a : Addr} {ty : FieldType} {n : Int32} {y y' : Int32 → Value} (F : own_A Z h a ty n y) (e : ∀ i, y i = y' i) : own_A Z h a ty n y' := by
  have : y = y' := funext e
  subst this; exact F

theorem own_words (n : Int32) (h1 : 1 ≤ n.toInt) (h2 : n.toInt ≤ 128) : (((n + (63 : Int32)).toUInt32 >>> ((6 : Int32) &&& 31).toUInt32).toInt32).toInt = (n.toInt + 63) / 64 := by
  have e63 : (63 : Int32).toInt = 63 := by decide
  have s1 := c_iadd n 63
  have s2 := rng32 (n + 63)
  have s3 := c_iushr (n + 63) 6 6 (by decide) (by decide)
  omega
theorem own_len (n : Int32) (h1 : 1 ≤ n.toInt) (h2 : n.toInt ≤ 128) : (n * (((n + (63 : Int32)).toUInt32 >>> ((6 : Int32) &&& 31).toUInt32).toInt32)).toInt = n.toInt * ((n.toInt + 63) / 64) := by
  have w := own_words n h1 h2
  have s1 := c_imul n (((n + (63 : Int32)).toUInt32 >>> ((6 : Int32) &&& 31).toUInt32).toInt32)
  have s2 := rng32 (n * (((n + (63 : Int32)).toUInt32 >>> ((6 : Int32) &&& 31).toUInt32).toInt32))
  rw [w] at s1
  have h3 : 0 ≤ n.toInt * ((n.toInt + 63) / 64) := Int.mul_nonneg (by omega) (by omega)
  have h4 : n.toInt * ((n.toInt + 63) / 64) ≤ 128 * 2 := Int.mul_le_mul h2 (by omega) (by omega) (by omega)
  omega
theorem own_len0 (n : Int32) (h1 : 1 ≤ n.toInt) (h2 : n.toInt ≤ 128) : ¬ (n * (((n + (63 : Int32)).toUInt32 >>> ((6 : Int32) &&& 31).toUInt32).toInt32)) < 0 := by
  have l := own_len n h1 h2
  have e0 : (0 : Int32).toInt = 0 := by decide
  rw [Int32.lt_iff_toInt_lt, l, e0]
  have h3 : 0 ≤ n.toInt * ((n.toInt + 63) / 64) := Int.mul_nonneg (by omega) (by omega)
  omega
theorem own_cap (n : Int32) (h1 : 1 ≤ n.toInt) (h2 : n.toInt ≤ 128) : (n * (((n + (63 : Int32)).toUInt32 >>> ((6 : Int32) &&& 31).toUInt32).toInt32)).toNatClampNeg ≤ 256 := by
  have l := own_len n h1 h2
  have h4 : n.toInt * ((n.toInt + 63) / 64) ≤ 128 * 2 := Int.mul_le_mul h2 (by omega) (by omega) (by omega)
  have q := nat_of (own_len0 n h1 h2)
  omega


theorem own_bit (q : Int32) : ((1 : Int64) <<< (q &&& 0x3f).toInt64).toBitVec = BitVec.twoPow 64 (q.toBitVec.toNat % 64) := by
  show (1#64 <<< ((q &&& 0x3f).toInt64.toBitVec.smod 64)) = _
  rw [BitVec.shiftLeft_eq', (sm64 q _ rfl).1, smod64 _ (sm64 q _ rfl).2, BitVec.twoPow_eq]
def own_has (v : Int64) (t : Int32) : Prop := ¬ (v &&& ((1 : Int64) <<< (t &&& 0x3f).toInt64)) = (0 : Int64)
theorem own_has_iff (v : Int64) (t : Int32) : own_has v t ↔ v.toBitVec.getLsbD (t.toBitVec.toNat % 64) = true := by
  have e : (v &&& ((1 : Int64) <<< (t &&& 0x3f).toInt64)).toBitVec = if v.toBitVec.getLsbD (t.toBitVec.toNat % 64) then BitVec.twoPow 64 (t.toBitVec.toNat % 64) else 0#64 := by
    rw [Int64.toBitVec_and, own_bit, BitVec.and_twoPow]
  unfold own_has
  rw [← Int64.toBitVec_inj, e]
  have hz : (0 : Int64).toBitVec = 0#64 := rfl
  rw [hz]
  by_cases h : v.toBitVec.getLsbD (t.toBitVec.toNat % 64) = true
  · rw [if_pos h]
    refine ⟨fun _ => h, fun _ q => ?_⟩
    have q2 := congrArg (fun z => z.getLsbD (t.toBitVec.toNat % 64)) q
    have hk : t.toBitVec.toNat % 64 < 64 := Nat.mod_lt _ (by decide)
    simp [hk] at q2
  · rw [if_neg h]
    exact ⟨fun q => absurd rfl q, fun q => absurd q h⟩
theorem own_has_or (v : Int64) (b t : Int32) : own_has (v ||| ((1 : Int64) <<< (b &&& 0x3f).toInt64)) t ↔ own_has v t ∨ b.toBitVec.toNat % 64 = t.toBitVec.toNat % 64 := by
  rw [own_has_iff, own_has_iff, Int64.toBitVec_or, own_bit, BitVec.getLsbD_or, BitVec.getLsbD_twoPow]
  have hk : b.toBitVec.toNat % 64 < 64 := Nat.mod_lt _ (by decide)
  simp [hk]
theorem own_has_0 (t : Int32) : ¬ own_has 0 t := by
  rw [own_has_iff]; simp
theorem own_nn (t : Int32) (h : 0 ≤ t.toInt) : (t.toBitVec.toNat : Int) = t.toInt := by
  have h2 : t.toInt = if 2 * t.toBitVec.toNat < 2 ^ 32 then (t.toBitVec.toNat : Int) else (t.toBitVec.toNat : Int) - ((2 ^ 32 : Nat) : Int) := BitVec.toInt_eq_toNat_cond t.toBitVec
  have hb := t.toBitVec.isLt
  by_cases c : 2 * t.toBitVec.toNat < 2 ^ 32
  · rw [if_pos c] at h2; omega
  · rw [if_neg c] at h2; omega
def own_upd (y : Int32 → Int64) (j b : Int32) : Int32 → Int64 := fun i => if i = j then ((y j) ||| ((1 : Int64) <<< (b &&& 0x3f).toInt64)) else y i
theorem own_has_upd (y : Int32 → Int64) (j b k t : Int32) : own_has (own_upd y j b k) t ↔ own_has (y k) t ∨ (k = j ∧ b.toBitVec.toNat % 64 = t.toBitVec.toNat % 64) := by
  unfold own_upd
  by_cases h : k = j
  · subst h
    show own_has (if k = k then _ else _) t ↔ _
    rw [if_pos rfl, own_has_or]
    exact ⟨fun q => q.imp id fun r => ⟨rfl, r⟩, fun q => q.imp id fun r => r.2⟩
  · show own_has (if k = j then _ else _) t ↔ _
    rw [if_neg h]
    exact ⟨Or.inl, fun q => q.elim id fun r => absurd r.1 h⟩
theorem own_has_cupd (v : Int32) (y : Int32 → Int64) (j b k t : Int32) : own_has ((if v = (0 : Int32) then y else own_upd y j b) k) t ↔ own_has (y k) t ∨ (¬ v = 0 ∧ k = j ∧ b.toBitVec.toNat % 64 = t.toBitVec.toNat % 64) := by
  by_cases h : v = (0 : Int32)
  · rw [if_pos h]; exact ⟨Or.inl, fun q => q.elim id fun r => absurd h r.1⟩
  · rw [if_neg h, own_has_upd]; exact ⟨fun q => q.imp id fun r => ⟨h, r⟩, fun q => q.imp id fun r => r.2⟩
def own_W (N : Int32) : Int32 := (((N + (63 : Int32)).toUInt32 >>> ((6 : Int32) &&& 31).toUInt32).toInt32)
def own_I (N A B : Int32) : Int32 := ((A * own_W N) + ((B.toUInt32 >>> ((6 : Int32) &&& 31).toUInt32).toInt32))
theorem own_I_val {N A B : Int32} (h1 : 1 ≤ N.toInt) (h2 : N.toInt ≤ 128) (a : 0 ≤ A.toInt ∧ A.toInt < N.toInt) (b : 0 ≤ B.toInt ∧ B.toInt < N.toInt) : (own_I N A B).toInt = A.toInt * ((N.toInt + 63) / 64) + B.toInt / 64 ∧ 0 ≤ A.toInt * ((N.toInt + 63) / 64) ∧ (A.toInt + 1) * ((N.toInt + 63) / 64) ≤ N.toInt * ((N.toInt + 63) / 64) ∧ N.toInt * ((N.toInt + 63) / 64) ≤ 128 * 2 := by
  have w : (own_W N).toInt = (N.toInt + 63) / 64 := own_words N h1 h2
  have s := c_iushr B 6 6 (by decide) (by decide)
  have e64 : ((2 ^ 6 : Nat) : Int) = 64 := by decide
  rw [e64] at s
  have m := c_imul A (own_W N)
  rw [w] at m
  have m2 := rng32 (A * own_W N)
  have p0 : 0 ≤ A.toInt * ((N.toInt + 63) / 64) := Int.mul_nonneg a.1 (by omega)
  have p1 : (A.toInt + 1) * ((N.toInt + 63) / 64) ≤ N.toInt * ((N.toInt + 63) / 64) := Int.mul_le_mul_of_nonneg_right (by omega) (by omega)
  have p2 : N.toInt * ((N.toInt + 63) / 64) ≤ 128 * 2 := Int.mul_le_mul h2 (by omega) (by omega) (by omega)
  have p3 : (A.toInt + 1) * ((N.toInt + 63) / 64) = A.toInt * ((N.toInt + 63) / 64) + ((N.toInt + 63) / 64) := by rw [Int.add_mul, Int.one_mul]
  have m3 : (A * own_W N).toInt = A.toInt * ((N.toInt + 63) / 64) := by omega
  have q := c_iadd (A * own_W N) ((B.toUInt32 >>> ((6 : Int32) &&& 31).toUInt32).toInt32)
  have q2 := rng32 (own_I N A B)
  have q3 : own_I N A B = (A * own_W N) + ((B.toUInt32 >>> ((6 : Int32) &&& 31).toUInt32).toInt32) := rfl
  rw [← q3] at q
  have rb := rng32 B
  refine ⟨?_, p0, p1, p2⟩
  omega
theorem own_I_in {N A B : Int32} (h1 : 1 ≤ N.toInt) (h2 : N.toInt ≤ 128) (a : 0 ≤ A.toInt ∧ A.toInt < N.toInt) (b : 0 ≤ B.toInt ∧ B.toInt < N.toInt) : ¬ own_I N A B < 0 ∧ own_I N A B < N * own_W N := by
  have v := own_I_val h1 h2 a b
  have l : (N * own_W N).toInt = N.toInt * ((N.toInt + 63) / 64) := own_len N h1 h2
  have p3 : (A.toInt + 1) * ((N.toInt + 63) / 64) = A.toInt * ((N.toInt + 63) / 64) + ((N.toInt + 63) / 64) := by rw [Int.add_mul, Int.one_mul]
  have e0 : (0 : Int32).toInt = 0 := by decide
  rw [Int32.lt_iff_toInt_lt, Int32.lt_iff_toInt_lt, l, e0, v.1]
  omega
theorem own_I_inj {N A B A' B' : Int32} (h1 : 1 ≤ N.toInt) (h2 : N.toInt ≤ 128) (a : 0 ≤ A.toInt ∧ A.toInt < N.toInt) (b : 0 ≤ B.toInt ∧ B.toInt < N.toInt) (a' : 0 ≤ A'.toInt ∧ A'.toInt < N.toInt) (b' : 0 ≤ B'.toInt ∧ B'.toInt < N.toInt) : (own_I N A B = own_I N A' B' ∧ B'.toBitVec.toNat % 64 = B.toBitVec.toNat % 64) ↔ (A = A' ∧ B = B') := by
  constructor
  · rintro ⟨e, f⟩
    have v := own_I_val h1 h2 a b
    have v' := own_I_val h1 h2 a' b'
    have n1 := own_nn B b.1
    have n2 := own_nn B' b'.1
    rw [e] at v
    have ev := v.1.symm.trans v'.1
    have p3 : (A.toInt + 1) * ((N.toInt + 63) / 64) = A.toInt * ((N.toInt + 63) / 64) + ((N.toInt + 63) / 64) := by rw [Int.add_mul, Int.one_mul]
    have p3' : (A'.toInt + 1) * ((N.toInt + 63) / 64) = A'.toInt * ((N.toInt + 63) / 64) + ((N.toInt + 63) / 64) := by rw [Int.add_mul, Int.one_mul]
    have hA : A.toInt = A'.toInt := by
      rcases Int.lt_trichotomy A.toInt A'.toInt with q | q | q
      · have := Int.mul_le_mul_of_nonneg_right (a := A.toInt + 1) (b := A'.toInt) (c := (N.toInt + 63) / 64) (by omega) (by omega)
        omega
      · exact q
      · have := Int.mul_le_mul_of_nonneg_right (a := A'.toInt + 1) (b := A.toInt) (c := (N.toInt + 63) / 64) (by omega) (by omega)
        omega
    rw [hA] at ev
    exact ⟨Int32.toInt_inj.mp hA, Int32.toInt_inj.mp (by omega)⟩
  · rintro ⟨rfl, rfl⟩
    exact ⟨rfl, rfl⟩


def own_int (y z : Int32 → Int64) (i : Int32) : Nat → Int32
  | 0 => 0
  | k + 1 => if ((y i) &&& (z i)) = (0 : Int64) then own_int y z (i + 1) k else 1

theorem d4_2 : decode prog_78_method_9_code 2 = .ok (.iload_n 2, 1) := by decide +kernel
theorem d4_3 : decode prog_78_method_9_code 3 = .ok (.aload_n 0, 1) := by decide +kernel
theorem d4_4 : decode prog_78_method_9_code 4 = .ok (.getfield 16, 3) := by decide +kernel
theorem d4_7 : decode prog_78_method_9_code 7 = .ok (.arraylength, 1) := by decide +kernel
theorem d4_8 : decode prog_78_method_9_code 8 = .ok (.if_icmp .ge 29, 3) := by decide +kernel
theorem d4_11 : decode prog_78_method_9_code 11 = .ok (.aload_n 0, 1) := by decide +kernel
theorem d4_12 : decode prog_78_method_9_code 12 = .ok (.getfield 16, 3) := by decide +kernel
theorem d4_15 : decode prog_78_method_9_code 15 = .ok (.iload_n 2, 1) := by decide +kernel
theorem d4_16 : decode prog_78_method_9_code 16 = .ok (.laload, 1) := by decide +kernel
theorem d4_17 : decode prog_78_method_9_code 17 = .ok (.aload_n 1, 1) := by decide +kernel
theorem d4_18 : decode prog_78_method_9_code 18 = .ok (.getfield 16, 3) := by decide +kernel
theorem d4_21 : decode prog_78_method_9_code 21 = .ok (.iload_n 2, 1) := by decide +kernel
theorem d4_22 : decode prog_78_method_9_code 22 = .ok (.laload, 1) := by decide +kernel
theorem d4_23 : decode prog_78_method_9_code 23 = .ok (.land, 1) := by decide +kernel
theorem d4_24 : decode prog_78_method_9_code 24 = .ok (.lconst 0, 1) := by decide +kernel
theorem d4_25 : decode prog_78_method_9_code 25 = .ok (.lcmp, 1) := by decide +kernel
theorem d4_26 : decode prog_78_method_9_code 26 = .ok (.ifCond .eq 5, 3) := by decide +kernel
theorem d4_31 : decode prog_78_method_9_code 31 = .ok (.iinc 2 1, 3) := by decide +kernel
theorem d4_34 : decode prog_78_method_9_code 34 = .ok (.goto (-32), 3) := by decide +kernel
set_option maxRecDepth 65536 in
set_option maxHeartbeats 40000000 in
theorem loop4 {p : Program} {l : Launch} {e : Env} {R : Room} {s : State} {m : MethodId} {args : Array Value} {below : List Frame} {meth : Method} {c : Code} {locs : List Loc} {cells slots : Nat} {Z : State} {a0 : Array Value} {h0 : Heap} (hx : p.tables.exec = Jvm.exec) (hZ : Z.Warmed39 s.vm) (hw : ∀ d ∈ tables_1, d.before a0 Z = true) (hby : c.code = prog_78_method_9_code) (hown : s.vm.findClass "com/example/fenceline/fenceline/model/Relation" = some m.cls) {a1 a2 r1 r2 : Addr} {cl1 cl2 : Cell} {n : Int32} {y z : Int32 → Int64} (F1 : Fld Z h0 a1 "com/example/fenceline/fenceline/model/Relation" "rows" "[J" (.ref r1)) (F2 : Fld Z h0 a2 "com/example/fenceline/fenceline/model/Relation" "rows" "[J" (.ref r2)) (Ar1 : Arr Z h0 r1 cl1 .long) (Sz1 : cl1.slots.size = n.toNatClampNeg) (Mz1 : ¬ n < 0) (Hz1 : ∀ j : Int32, ¬ (j < 0 ∨ cl1.slots.size ≤ j.toNatClampNeg) → cl1.slots[j.toNatClampNeg]? = some (.long (y j))) (Ar2 : Arr Z h0 r2 cl2 .long) (Sz2 : cl2.slots.size = n.toNatClampNeg) (Hz2 : ∀ j : Int32, ¬ (j < 0 ∨ cl2.slots.size ≤ j.toNatClampNeg) → cl2.slots[j.toNatClampNeg]? = some (.long (z j))) :
    ∀ (k : Nat) (T : State) (i : Int32), Stand p l e R s m args below meth c T locs cells slots → T.heap = h0 → i.toInt + k = n.toInt → 0 ≤ i.toInt → ∃ T' i', Stand p l e R s m args below meth c T' locs cells slots ∧ T'.heap = h0 ∧ ((own_int y z i k = 1 ∧ ∀ t, Steps p.tables e below (T'.setTop (mkF m 29 #[.val (.ref a1), .val (.ref a2), .val (.int i')] [])) t → Steps p.tables e below (T.setTop (mkF m 2 #[.val (.ref a1), .val (.ref a2), .val (.int i)] [])) t) ∨ (own_int y z i k = 0 ∧ ∀ t, Steps p.tables e below (T'.setTop (mkF m 37 #[.val (.ref a1), .val (.ref a2), .val (.int i')] [])) t → Steps p.tables e below (T.setTop (mkF m 2 #[.val (.ref a1), .val (.ref a2), .val (.int i)] [])) t)) := by
  have e0 : (0 : Int32).toInt = 0 := by decide
  have e1 : (1 : Int32).toInt = 1 := by decide
  intro k
  induction k with
  | zero =>
    intro T i X eT hk h0i
    have pre0 : ∀ t, Steps p.tables e below (T.setTop (mkF m 2 #[.val (.ref a1), .val (.ref a2), .val (.int i)] [])) t → Steps p.tables e below (T.setTop (mkF m 2 #[.val (.ref a1), .val (.ref a2), .val (.int i)] [])) t := fun t k => k
    obtain ⟨T1, X1, e1, st1⟩ := getF X hx hZ hown (host := "") (Or.inl (hw _ (List.mem_of_getElem? (i := 19) rfl))) Via.refl eT F1 (g := (mkF m 4 #[.val (.ref a1), .val (.ref a2), .val (.int i)] [(.ref a1), (.int i)])) rfl rfl (hb hby d4_4)
    have pre2 : ∀ t, Steps p.tables e below (T1.setTop (mkF m 8 #[.val (.ref a1), .val (.ref a2), .val (.int i)] [(.int n), (.int i)])) t → Steps p.tables e below (T.setTop (mkF m 2 #[.val (.ref a1), .val (.ref a2), .val (.int i)] [])) t := fun t k => pre0 t (by
      show Steps p.tables e below (T.setTop (mkF m 2 #[.val (.ref a1), .val (.ref a2), .val (.int i)] [])) _
      refine XS.iloadN X.here hx rfl (hb hby d4_2) rfl ?_
      show Steps p.tables e below (T.setTop (mkF m 3 #[.val (.ref a1), .val (.ref a2), .val (.int i)] [(.int i)])) _
      refine XS.aloadN X.here hx rfl (hb hby d4_3) rfl rfl ?_
      show Steps p.tables e below (T.setTop (mkF m 4 #[.val (.ref a1), .val (.ref a2), .val (.int i)] [(.ref a1), (.int i)])) _
      refine st1 _ ?_
      show Steps p.tables e below (T1.setTop (mkF m 7 #[.val (.ref a1), .val (.ref a2), .val (.int i)] [(.ref r1), (.int i)])) _
      refine X1.arraylength hx (by rw [e1]; exact Ar1.1) (State.isArrayOf_alike hZ.alike Ar1.2.1) (g := (mkF m 7 #[.val (.ref a1), .val (.ref a2), .val (.int i)] [(.ref r1), (.int i)])) rfl rfl (hb hby d4_7) _ ?_
      rw [len_of Sz1 Mz1]
      exact k)
    by_cases hc3 : i < n
    · exact absurd ((Int32.lt_iff_toInt_lt).mp hc3) (by omega)
    · have pre4 : ∀ t, Steps p.tables e below (T1.setTop (mkF m 37 #[.val (.ref a1), .val (.ref a2), .val (.int i)] [])) t → Steps p.tables e below (T.setTop (mkF m 2 #[.val (.ref a1), .val (.ref a2), .val (.int i)] [])) t := fun t k => pre2 t (by
        show Steps p.tables e below (T1.setTop (mkF m 8 #[.val (.ref a1), .val (.ref a2), .val (.int i)] [(.int n), (.int i)])) _
        refine XS.icmpYes X1.here hx rfl (pc0 := 8) (pc' := 37) rfl (hb hby d4_8) rfl (flt hc3).2.1 (by decide) (by decide) ?_
        exact k)
      exact ⟨T1, i, X1, e1, Or.inr ⟨rfl, pre4⟩⟩
  | succ k ih =>
    intro T i X eT hk h0i
    have pre0 : ∀ t, Steps p.tables e below (T.setTop (mkF m 2 #[.val (.ref a1), .val (.ref a2), .val (.int i)] [])) t → Steps p.tables e below (T.setTop (mkF m 2 #[.val (.ref a1), .val (.ref a2), .val (.int i)] [])) t := fun t k => k
    have hrn := rng32 n
    have hi : ¬ i < 0 ∧ i < n := by rw [Int32.lt_iff_toInt_lt, Int32.lt_iff_toInt_lt]; omega
    obtain ⟨T5, X5, e5, st5⟩ := getF X hx hZ hown (host := "") (Or.inl (hw _ (List.mem_of_getElem? (i := 19) rfl))) Via.refl eT F1 (g := (mkF m 4 #[.val (.ref a1), .val (.ref a2), .val (.int i)] [(.ref a1), (.int i)])) rfl rfl (hb hby d4_4)
    have pre6 : ∀ t, Steps p.tables e below (T5.setTop (mkF m 8 #[.val (.ref a1), .val (.ref a2), .val (.int i)] [(.int n), (.int i)])) t → Steps p.tables e below (T.setTop (mkF m 2 #[.val (.ref a1), .val (.ref a2), .val (.int i)] [])) t := fun t k => pre0 t (by
      show Steps p.tables e below (T.setTop (mkF m 2 #[.val (.ref a1), .val (.ref a2), .val (.int i)] [])) _
      refine XS.iloadN X.here hx rfl (hb hby d4_2) rfl ?_
      show Steps p.tables e below (T.setTop (mkF m 3 #[.val (.ref a1), .val (.ref a2), .val (.int i)] [(.int i)])) _
      refine XS.aloadN X.here hx rfl (hb hby d4_3) rfl rfl ?_
      show Steps p.tables e below (T.setTop (mkF m 4 #[.val (.ref a1), .val (.ref a2), .val (.int i)] [(.ref a1), (.int i)])) _
      refine st5 _ ?_
      show Steps p.tables e below (T5.setTop (mkF m 7 #[.val (.ref a1), .val (.ref a2), .val (.int i)] [(.ref r1), (.int i)])) _
      refine X5.arraylength hx (by rw [e5]; exact Ar1.1) (State.isArrayOf_alike hZ.alike Ar1.2.1) (g := (mkF m 7 #[.val (.ref a1), .val (.ref a2), .val (.int i)] [(.ref r1), (.int i)])) rfl rfl (hb hby d4_7) _ ?_
      rw [len_of Sz1 Mz1]
      exact k)
    by_cases hc7 : i < n
    · obtain ⟨T8, X8, e8, st8⟩ := getF X5 hx hZ hown (host := "") (Or.inl (hw _ (List.mem_of_getElem? (i := 19) rfl))) Via.refl e5 F1 (g := (mkF m 12 #[.val (.ref a1), .val (.ref a2), .val (.int i)] [(.ref a1)])) rfl rfl (hb hby d4_12)
      obtain ⟨T9, X9, e9, st9⟩ := getF X8 hx hZ hown (host := "") (Or.inl (hw _ (List.mem_of_getElem? (i := 19) rfl))) Via.refl e8 F2 (g := (mkF m 18 #[.val (.ref a1), .val (.ref a2), .val (.int i)] [(.ref a2), (.long (y i))])) rfl rfl (hb hby d4_18)
      have pre10 : ∀ t, Steps p.tables e below (T9.setTop (mkF m 26 #[.val (.ref a1), .val (.ref a2), .val (.int i)] [(.int (lcmpW ((y i) &&& (z i)) (0 : Int64)))])) t → Steps p.tables e below (T.setTop (mkF m 2 #[.val (.ref a1), .val (.ref a2), .val (.int i)] [])) t := fun t k => pre6 t (by
        show Steps p.tables e below (T5.setTop (mkF m 8 #[.val (.ref a1), .val (.ref a2), .val (.int i)] [(.int n), (.int i)])) _
        refine XS.icmpNo X5.here hx rfl (hb hby d4_8) rfl (tlt hc7).2.1 ?_
        show Steps p.tables e below (T5.setTop (mkF m 11 #[.val (.ref a1), .val (.ref a2), .val (.int i)] [])) _
        refine XS.aloadN X5.here hx rfl (hb hby d4_11) rfl rfl ?_
        show Steps p.tables e below (T5.setTop (mkF m 12 #[.val (.ref a1), .val (.ref a2), .val (.int i)] [(.ref a1)])) _
        refine st8 _ ?_
        show Steps p.tables e below (T8.setTop (mkF m 15 #[.val (.ref a1), .val (.ref a2), .val (.int i)] [(.ref r1)])) _
        refine XS.iloadN X8.here hx rfl (hb hby d4_15) rfl ?_
        show Steps p.tables e below (T8.setTop (mkF m 16 #[.val (.ref a1), .val (.ref a2), .val (.int i)] [(.int i), (.ref r1)])) _
        refine X8.laload hx (j := i) (v := (.long (y i))) (by rw [e8]; exact Ar1.1) (State.isArrayOf_alike hZ.alike Ar1.2.1) Ar1.2.2 (inb_of Sz1 hi) (Hz1 _ (inb_of Sz1 hi)) (g := (mkF m 16 #[.val (.ref a1), .val (.ref a2), .val (.int i)] [(.int i), (.ref r1)])) rfl rfl (hb hby d4_16) _ ?_
        show Steps p.tables e below (T8.setTop (mkF m 17 #[.val (.ref a1), .val (.ref a2), .val (.int i)] [(.long (y i))])) _
        refine XS.aloadN X8.here hx rfl (hb hby d4_17) rfl rfl ?_
        show Steps p.tables e below (T8.setTop (mkF m 18 #[.val (.ref a1), .val (.ref a2), .val (.int i)] [(.ref a2), (.long (y i))])) _
        refine st9 _ ?_
        show Steps p.tables e below (T9.setTop (mkF m 21 #[.val (.ref a1), .val (.ref a2), .val (.int i)] [(.ref r2), (.long (y i))])) _
        refine XS.iloadN X9.here hx rfl (hb hby d4_21) rfl ?_
        show Steps p.tables e below (T9.setTop (mkF m 22 #[.val (.ref a1), .val (.ref a2), .val (.int i)] [(.int i), (.ref r2), (.long (y i))])) _
        refine X9.laload hx (j := i) (v := (.long (z i))) (by rw [e9]; exact Ar2.1) (State.isArrayOf_alike hZ.alike Ar2.2.1) Ar2.2.2 (inb_of Sz2 hi) (Hz2 _ (inb_of Sz2 hi)) (g := (mkF m 22 #[.val (.ref a1), .val (.ref a2), .val (.int i)] [(.int i), (.ref r2), (.long (y i))])) rfl rfl (hb hby d4_22) _ ?_
        show Steps p.tables e below (T9.setTop (mkF m 23 #[.val (.ref a1), .val (.ref a2), .val (.int i)] [(.long (z i)), (.long (y i))])) _
        refine XS.land X9.here hx rfl (hb hby d4_23) rfl ?_
        show Steps p.tables e below (T9.setTop (mkF m 24 #[.val (.ref a1), .val (.ref a2), .val (.int i)] [(.long ((y i) &&& (z i)))])) _
        refine XS.lconst X9.here hx rfl (hb hby d4_24) ?_
        show Steps p.tables e below (T9.setTop (mkF m 25 #[.val (.ref a1), .val (.ref a2), .val (.int i)] [(.long (0 : Int64)), (.long ((y i) &&& (z i)))])) _
        refine XS.lcmp X9.here hx rfl (hb hby d4_25) rfl ?_
        exact k)
      by_cases hc11 : ((y i) &&& (z i)) = (0 : Int64)
      · have pre12 : ∀ t, Steps p.tables e below (T9.setTop (mkF m 2 #[.val (.ref a1), .val (.ref a2), .val (.int (i + (1 : Int32)))] [])) t → Steps p.tables e below (T.setTop (mkF m 2 #[.val (.ref a1), .val (.ref a2), .val (.int i)] [])) t := fun t k => pre10 t (by
          show Steps p.tables e below (T9.setTop (mkF m 26 #[.val (.ref a1), .val (.ref a2), .val (.int i)] [(.int (lcmpW ((y i) &&& (z i)) (0 : Int64)))])) _
          refine XS.ifYes X9.here hx rfl (pc0 := 26) (pc' := 31) rfl (hb hby d4_26) rfl ((if0 _ _).trans (teq (own_lc_teq hc11)).1) (by decide) (by decide) ?_
          show Steps p.tables e below (T9.setTop (mkF m 31 #[.val (.ref a1), .val (.ref a2), .val (.int i)] [])) _
          refine XS.iinc X9.here hx rfl (hb hby d4_31) rfl (l' := #[.val (.ref a1), .val (.ref a2), .val (.int (i + (1 : Int32)))]) rfl ?_
          show Steps p.tables e below (T9.setTop (mkF m 34 #[.val (.ref a1), .val (.ref a2), .val (.int (i + (1 : Int32)))] [])) _
          refine XS.goto X9.here hx rfl (pc0 := 34) (pc' := 2) rfl (hb hby d4_34) (by decide) (by decide) ?_
          exact k)
        have hi1 := c_iadd i 1
        have hi2 := rng32 (i + 1)
        obtain ⟨T', i', X', e', hq⟩ := ih T9 (i + 1) X9 e9 (by omega) (by omega)
        refine ⟨T', i', X', e', ?_⟩
        rcases hq with ⟨q, st'⟩ | ⟨q, st'⟩
        · exact Or.inl ⟨(if_pos hc11).trans q, fun t k => pre12 t (st' t k)⟩
        · exact Or.inr ⟨(if_pos hc11).trans q, fun t k => pre12 t (st' t k)⟩
      · have pre13 : ∀ t, Steps p.tables e below (T9.setTop (mkF m 29 #[.val (.ref a1), .val (.ref a2), .val (.int i)] [])) t → Steps p.tables e below (T.setTop (mkF m 2 #[.val (.ref a1), .val (.ref a2), .val (.int i)] [])) t := fun t k => pre10 t (by
          show Steps p.tables e below (T9.setTop (mkF m 26 #[.val (.ref a1), .val (.ref a2), .val (.int i)] [(.int (lcmpW ((y i) &&& (z i)) (0 : Int64)))])) _
          refine XS.ifNo X9.here hx rfl (hb hby d4_26) rfl ((if0 _ _).trans (feq (own_lc_feq hc11)).1) ?_
          exact k)
        exact ⟨T9, i, X9, e9, Or.inl ⟨if_neg hc11, pre13⟩⟩
    · have pre14 : ∀ t, Steps p.tables e below (T5.setTop (mkF m 37 #[.val (.ref a1), .val (.ref a2), .val (.int i)] [])) t → Steps p.tables e below (T.setTop (mkF m 2 #[.val (.ref a1), .val (.ref a2), .val (.int i)] [])) t := fun t k => pre6 t (by
        show Steps p.tables e below (T5.setTop (mkF m 8 #[.val (.ref a1), .val (.ref a2), .val (.int i)] [(.int n), (.int i)])) _
        refine XS.icmpYes X5.here hx rfl (pc0 := 8) (pc' := 37) rfl (hb hby d4_8) rfl (flt hc7).2.1 (by decide) (by decide) ?_
        exact k)
      exact absurd ((Int32.lt_iff_toInt_lt).mpr (by omega)) hc7

theorem own_zn {n : Int32} (h : ¬ n < 0) : (0 : Int32).toInt + (n.toInt.toNat : Int) = n.toInt := by
  have e0 : (0 : Int32).toInt = 0 := by decide
  rw [Int32.lt_iff_toInt_lt] at h; omega

theorem d1_0 : decode method_2_code 0 = .ok (.lload_n 0, 1) := by decide +kernel
theorem d1_1 : decode method_2_code 1 = .ok (.iload_n 2, 1) := by decide +kernel
theorem d1_2 : decode method_2_code 2 = .ok (.lushr, 1) := by decide +kernel
theorem d1_3 : decode method_2_code 3 = .ok (.ldc2_w 7, 3) := by decide +kernel
theorem d1_6 : decode method_2_code 6 = .ok (.land, 1) := by decide +kernel
theorem d1_7 : decode method_2_code 7 = .ok (.iload_n 3, 1) := by decide +kernel
theorem d1_8 : decode method_2_code 8 = .ok (.i2l, 1) := by decide +kernel
theorem d1_9 : decode method_2_code 9 = .ok (.lrem, 1) := by decide +kernel
theorem d1_10 : decode method_2_code 10 = .ok (.l2i, 1) := by decide +kernel
theorem d1_11 : decode method_2_code 11 = .ok (.ireturn, 1) := by decide +kernel
theorem pn_1 : plainName "com/example/fenceline/fenceline/model/RelationIntersectsPinLaw" = true := by first | (simp [plainName, overriddenIn]; done) | decide +kernel
theorem ef_1 (m : MethodId) (q1 : Int64) (p2 : Int32) (p3 : Int32) : entryFrame m #[(.long q1), (.int p2), (.int p3)] 4 = mkF m 0 #[.val (.long q1), .second, .val (.int p2), .val (.int p3)] [] := by first | (simp [entryFrame, mkF, argsToLocals, Value.category]; done) | rfl
def f1 (q1 : Int64) (p2 : Int32) (p3 : Int32) : Int32 :=
  (((((q1.toUInt64 >>> (p2 &&& 0x3f).toInt64.toUInt64).toInt64) &&& (255 : Int64)) - ((((q1.toUInt64 >>> (p2 &&& 0x3f).toInt64.toUInt64).toInt64) &&& (255 : Int64)) / (p3.toInt64)) * (p3.toInt64)).toInt32)
def Q1 (Z : State) (q1 : Int64) (p2 : Int32) (p3 : Int32)  (h0 : Heap) (n0 : Nat) (v : Option Value) (h : Heap) (L : List Loc) : Prop := v = some (.int (f1 q1 p2 p3)) ∧ Fr n0 L ∧ h = h0
set_option maxRecDepth 65536 in
set_option maxHeartbeats 40000000 in
theorem rm1 (l : Launch) (Z : State) (a0 : Array Value) (hw : ∀ d ∈ tables_1, d.before a0 Z = true) (ws : List Jvm.Cond) (q1 : Int64) (p2 : Int32) (p3 : Int32)  (h0 : Heap) (n0 : Nat) (Z0 : n0 ≤ h0.size) (hnz : ¬ (p3.toInt64) = (0 : Int64)) :
    MetFree l (⟨"com/example/fenceline/fenceline/model/RelationIntersectsPinLaw", "idx", "(JII)I"⟩ : MethodName) (head1 (Jvm.Cond.code (⟨"com/example/fenceline/fenceline/model/RelationIntersectsPinLaw", "idx", "(JII)I"⟩ : MethodName) method_2_code 4 (some .int) :: ws) ({ frames := 0, cells := 0, slots := 0, locals := 0 } : Room)) (fun a U => a = #[(.long q1), (.int p2), (.int p3)] ∧ Z.Warmed39 U.vm ∧ U.heap = h0) (fun _ _ _ _ _ => True) (fun _ U o U' => ∃ v L, o = .returned v ∧ Q1 Z q1 p2 p3 h0 n0 v U'.heap L ∧ FrameEnd U o U' L ({ frames := 0, cells := 0, slots := 0, locals := 0 } : Room).cells ({ frames := 0, cells := 0, slots := 0, locals := 0 } : Room).slots) := by
  refine MetFree.of_bodySF (plainFor_of_name pn_1) hisR ?_
  intro p e s m args below meth c s₁ Bd hml0 hP hK
  obtain ⟨rfl, hZ, hh⟩ := hP
  have hx := Bd.exec
  have hby := Bd.bytes
  have hml : c.maxLocals = 4 := hml0
  have hown : s.vm.findClass "com/example/fenceline/fenceline/model/RelationIntersectsPinLaw" = some m.cls := findClass_of_methodNamed Bd.named
  have hnm := (name_of_methodNamed Bd.named Bd.method).1
  have X0 : Stand p l e ({ frames := 0, cells := 0, slots := 0, locals := 0 } : Room) s m #[(.long q1), (.int p2), (.int p3)] below meth c s₁ [] 0 0 := Stand.of_body Bd
  have e0 : s₁.heap = h0 := by rw [← hh, Bd.state]; rfl
  have N0 := Fr.nil n0
  have pre0 : ∀ t, Steps p.tables e below (s₁.setTop (mkF m 0 #[.val (.long q1), .second, .val (.int p2), .val (.int p3)] [])) t → Steps p.tables e below (s₁.setTop (entryFrame m #[(.long q1), (.int p2), (.int p3)] 4)) t := fun t k => castTop (ef_1 m q1 p2 p3) k
  have er : (f1 q1 p2 p3) = (((((q1.toUInt64 >>> (p2 &&& 0x3f).toInt64.toUInt64).toInt64) &&& (255 : Int64)) - ((((q1.toUInt64 >>> (p2 &&& 0x3f).toInt64.toUInt64).toInt64) &&& (255 : Int64)) / (p3.toInt64)) * (p3.toInt64)).toInt32) := by exact rfl
  obtain ⟨fs, hr, hrun, hended, hW, hsame⟩ := X0.leave (v := some (.int (((((q1.toUInt64 >>> (p2 &&& 0x3f).toInt64.toUInt64).toInt64) &&& (255 : Int64)) - ((((q1.toUInt64 >>> (p2 &&& 0x3f).toInt64.toUInt64).toInt64) &&& (255 : Int64)) / (p3.toInt64)) * (p3.toInt64)).toInt32))) (fun h => by rw [Bd.returns] at h; cases h)
  refine ⟨_, _, pre0 _ ?_, hrun, hended, _, _, rfl, ?_, ⟨_, rfl⟩, hW, hsame.mono (by decide) (by decide)⟩
  · show Steps p.tables e below (s₁.setTop (mkF m 0 #[.val (.long q1), .second, .val (.int p2), .val (.int p3)] [])) _
    refine XS.lloadN X0.here hx rfl (hb hby d1_0) rfl ?_
    show Steps p.tables e below (s₁.setTop (mkF m 1 #[.val (.long q1), .second, .val (.int p2), .val (.int p3)] [(.long q1)])) _
    refine XS.iloadN X0.here hx rfl (hb hby d1_1) rfl ?_
    show Steps p.tables e below (s₁.setTop (mkF m 2 #[.val (.long q1), .second, .val (.int p2), .val (.int p3)] [(.int p2), (.long q1)])) _
    refine XS.lushr X0.here hx rfl (hb hby d1_2) rfl ?_
    show Steps p.tables e below (s₁.setTop (mkF m 3 #[.val (.long q1), .second, .val (.int p2), .val (.int p3)] [(.long ((q1.toUInt64 >>> (p2 &&& 0x3f).toInt64.toUInt64).toInt64))])) _
    refine X0.ldc2Long hx hown (mvT hZ (hw _ (List.mem_of_getElem? (i := 4) rfl))) (g := (mkF m 3 #[.val (.long q1), .second, .val (.int p2), .val (.int p3)] [(.long ((q1.toUInt64 >>> (p2 &&& 0x3f).toInt64.toUInt64).toInt64))])) rfl (hb hby d1_3) _ ?_
    show Steps p.tables e below (s₁.setTop (mkF m 6 #[.val (.long q1), .second, .val (.int p2), .val (.int p3)] [(.long (255 : Int64)), (.long ((q1.toUInt64 >>> (p2 &&& 0x3f).toInt64.toUInt64).toInt64))])) _
    refine XS.land X0.here hx rfl (hb hby d1_6) rfl ?_
    show Steps p.tables e below (s₁.setTop (mkF m 7 #[.val (.long q1), .second, .val (.int p2), .val (.int p3)] [(.long (((q1.toUInt64 >>> (p2 &&& 0x3f).toInt64.toUInt64).toInt64) &&& (255 : Int64)))])) _
    refine XS.iloadN X0.here hx rfl (hb hby d1_7) rfl ?_
    show Steps p.tables e below (s₁.setTop (mkF m 8 #[.val (.long q1), .second, .val (.int p2), .val (.int p3)] [(.int p3), (.long (((q1.toUInt64 >>> (p2 &&& 0x3f).toInt64.toUInt64).toInt64) &&& (255 : Int64)))])) _
    refine XS.i2l X0.here hx rfl (hb hby d1_8) rfl ?_
    show Steps p.tables e below (s₁.setTop (mkF m 9 #[.val (.long q1), .second, .val (.int p2), .val (.int p3)] [(.long (p3.toInt64)), (.long (((q1.toUInt64 >>> (p2 &&& 0x3f).toInt64.toUInt64).toInt64) &&& (255 : Int64)))])) _
    refine XS.lrem X0.here hx rfl (hb hby d1_9) rfl hnz ?_
    show Steps p.tables e below (s₁.setTop (mkF m 10 #[.val (.long q1), .second, .val (.int p2), .val (.int p3)] [(.long ((((q1.toUInt64 >>> (p2 &&& 0x3f).toInt64.toUInt64).toInt64) &&& (255 : Int64)) - ((((q1.toUInt64 >>> (p2 &&& 0x3f).toInt64.toUInt64).toInt64) &&& (255 : Int64)) / (p3.toInt64)) * (p3.toInt64)))])) _
    refine XS.l2i X0.here hx rfl (hb hby d1_10) rfl ?_
    show Steps p.tables e below (s₁.setTop (mkF m 11 #[.val (.long q1), .second, .val (.int p2), .val (.int p3)] [(.int (((((q1.toUInt64 >>> (p2 &&& 0x3f).toInt64.toUInt64).toInt64) &&& (255 : Int64)) - ((((q1.toUInt64 >>> (p2 &&& 0x3f).toInt64.toUInt64).toInt64) &&& (255 : Int64)) / (p3.toInt64)) * (p3.toInt64)).toInt32))])) _
    exact retI X0 hx Bd.returns (hb hby d1_11) hr
  · show Q1 Z q1 p2 p3 h0 n0 _ s₁.heap _
    rw [e0]
    exact ⟨congrArg (fun z => some (Value.int z)) er.symm, N0, rfl⟩

theorem own_N1 {p1 N : Int32} (h : N = ((1 : Int32) + (p1 &&& (127 : Int32)))) : 1 ≤ N.toInt ∧ N.toInt ≤ 128 := by
  have hm := c_mask p1 127 7 (by decide) (by decide)
  have e : ((2 ^ 7 : Nat) : Int) = 128 := by decide
  rw [e] at hm
  have s1 := c_iadd 1 (p1 &&& (127 : Int32))
  have s2 := rng32 (1 + (p1 &&& (127 : Int32)))
  have e1 : (1 : Int32).toInt = 1 := by decide
  rw [← h] at s1 s2
  omega
theorem own_Nz {p1 N : Int32} (h : N = ((1 : Int32) + (p1 &&& (127 : Int32)))) : ¬ (N.toInt64) = (0 : Int64) := fun q => by
  have h1 := own_N1 h
  have h2 := c_i2l N
  rw [q] at h2
  have e0 : (0 : Int64).toInt = 0 := by decide
  omega
theorem own_rf {N A s : Int32} {q : Int64} (hN : 1 ≤ N.toInt ∧ N.toInt ≤ 128) (h : A = f1 q s N) : 0 ≤ A.toInt ∧ A.toInt < N.toInt := by
  unfold f1 at h
  generalize ((q.toUInt64 >>> (s &&& 0x3f).toInt64.toUInt64).toInt64) = z at h
  have hm := c_maskL z 255 8 (by decide) (by decide)
  have e : ((2 ^ 8 : Nat) : Int) = 256 := by decide
  rw [e] at hm
  have hr := (c_lrem (z &&& (255 : Int64)) N.toInt64 N.toInt (c_i2l N)).1 (by omega)
  have h6 := Int.emod_nonneg (z &&& (255 : Int64)).toInt (b := N.toInt) (by omega)
  have h7 := Int.emod_lt_of_pos (z &&& (255 : Int64)).toInt (b := N.toInt) (by omega)
  rw [← hr] at h6 h7
  have hl := c_l2i ((z &&& (255 : Int64)) - ((z &&& (255 : Int64)) / N.toInt64) * N.toInt64)
  rw [← h] at hl
  have ra := rng32 A
  omega
theorem own_if {c : Prop} [Decidable c] {v A B : Int32} {P : Int32 → Prop} (h : v = (if c then A else B)) (ha : P A) (hb : P B) : P v := by
  subst h
  by_cases q : c
  · rw [if_pos q]; exact ha
  · rw [if_neg q]; exact hb

theorem d2_0 : decode prog_78_method_1_code 0 = .ok (.aload_n 0, 1) := by decide +kernel
theorem d2_1 : decode prog_78_method_1_code 1 = .ok (.invokespecial 1, 3) := by decide +kernel
theorem d2_4 : decode prog_78_method_1_code 4 = .ok (.aload_n 0, 1) := by decide +kernel
theorem d2_5 : decode prog_78_method_1_code 5 = .ok (.iload_n 1, 1) := by decide +kernel
theorem d2_6 : decode prog_78_method_1_code 6 = .ok (.putfield 7, 3) := by decide +kernel
theorem d2_9 : decode prog_78_method_1_code 9 = .ok (.aload_n 0, 1) := by decide +kernel
theorem d2_10 : decode prog_78_method_1_code 10 = .ok (.iload_n 1, 1) := by decide +kernel
theorem d2_11 : decode prog_78_method_1_code 11 = .ok (.bipush 63, 2) := by decide +kernel
theorem d2_13 : decode prog_78_method_1_code 13 = .ok (.iadd, 1) := by decide +kernel
theorem d2_14 : decode prog_78_method_1_code 14 = .ok (.bipush 6, 2) := by decide +kernel
theorem d2_16 : decode prog_78_method_1_code 16 = .ok (.iushr, 1) := by decide +kernel
theorem d2_17 : decode prog_78_method_1_code 17 = .ok (.putfield 13, 3) := by decide +kernel
theorem d2_20 : decode prog_78_method_1_code 20 = .ok (.aload_n 0, 1) := by decide +kernel
theorem d2_21 : decode prog_78_method_1_code 21 = .ok (.iload_n 1, 1) := by decide +kernel
theorem d2_22 : decode prog_78_method_1_code 22 = .ok (.aload_n 0, 1) := by decide +kernel
theorem d2_23 : decode prog_78_method_1_code 23 = .ok (.getfield 13, 3) := by decide +kernel
theorem d2_26 : decode prog_78_method_1_code 26 = .ok (.imul, 1) := by decide +kernel
theorem d2_27 : decode prog_78_method_1_code 27 = .ok (.newarray .long, 2) := by decide +kernel
theorem d2_29 : decode prog_78_method_1_code 29 = .ok (.putfield 16, 3) := by decide +kernel
theorem d2_32 : decode prog_78_method_1_code 32 = .ok (.return_, 1) := by decide +kernel
theorem pn_2 : plainName "com/example/fenceline/fenceline/model/Relation" = true := by first | (simp [plainName, overriddenIn]; done) | decide +kernel
theorem ef_2 (m : MethodId) (a1 : Addr) (p2 : Int32) : entryFrame m #[(.ref a1), (.int p2)] 2 = mkF m 0 #[.val (.ref a1), .val (.int p2)] [] := by first | (simp [entryFrame, mkF, argsToLocals, Value.category]; done) | rfl
def Q2 (Z : State) (a1 : Addr) (p2 : Int32)  (h0 : Heap) (n0 : Nat) (v : Option Value) (h : Heap) (L : List Loc) : Prop := ∃ (b : Addr), v = none ∧ Fr n0 L ∧ Keep h0 h ([a1] : List Addr) ∧ h0.size ≤ b ∧ Exa Z h a1 "com/example/fenceline/fenceline/model/Relation" ∧ Fld Z h a1 "com/example/fenceline/fenceline/model/Relation" "size" "I" (.int p2) ∧ Fld Z h a1 "com/example/fenceline/fenceline/model/Relation" "words" "I" (.int (((p2 + (63 : Int32)).toUInt32 >>> ((6 : Int32) &&& 31).toUInt32).toInt32)) ∧ Fld Z h a1 "com/example/fenceline/fenceline/model/Relation" "rows" "[J" (.ref b) ∧ own_A Z h b .long (p2 * (((p2 + (63 : Int32)).toUInt32 >>> ((6 : Int32) &&& 31).toUInt32).toInt32)) (fun i => .long ((fun _ => (0 : Int64)) i))
set_option maxRecDepth 65536 in
set_option maxHeartbeats 40000000 in
theorem rm2 (l : Launch) (Z : State) (a0 : Array Value) (hw : ∀ d ∈ tables_1, d.before a0 Z = true) (ws : List Jvm.Cond) (a1 : Addr) (p2 : Int32)  (h0 : Heap) (n0 : Nat) (Z0 : n0 ≤ h0.size) (E_a1 : Exa Z h0 a1 "com/example/fenceline/fenceline/model/Relation") (F_size_a1 : Fld Z h0 a1 "com/example/fenceline/fenceline/model/Relation" "size" "I" (.int (0 : Int32))) (F_words_a1 : Fld Z h0 a1 "com/example/fenceline/fenceline/model/Relation" "words" "I" (.int (0 : Int32))) (F_rows_a1 : Fld Z h0 a1 "com/example/fenceline/fenceline/model/Relation" "rows" "[J" .null) (g_a1 : n0 ≤ a1) (hn1 : 1 ≤ p2.toInt) (hn2 : p2.toInt ≤ 128) :
    MetFree l (⟨"com/example/fenceline/fenceline/model/Relation", "<init>", "(I)V"⟩ : MethodName) (head1 (Jvm.Cond.code (⟨"com/example/fenceline/fenceline/model/Relation", "<init>", "(I)V"⟩ : MethodName) prog_78_method_1_code 2 none :: ws) ({ frames := 1, cells := 1, slots := 256, locals := 12 } : Room)) (fun a U => a = #[(.ref a1), (.int p2)] ∧ Z.Warmed39 U.vm ∧ U.heap = h0) (fun _ _ _ _ _ => True) (fun _ U o U' => ∃ v L, o = .returned v ∧ Q2 Z a1 p2 h0 n0 v U'.heap L ∧ FrameEnd U o U' L ({ frames := 1, cells := 1, slots := 256, locals := 12 } : Room).cells ({ frames := 1, cells := 1, slots := 256, locals := 12 } : Room).slots) := by
  refine MetFree.of_bodySF (plainFor_of_name pn_2) hisR ?_
  intro p e s m args below meth c s₁ Bd hml0 hP hK
  obtain ⟨rfl, hZ, hh⟩ := hP
  have hx := Bd.exec
  have hby := Bd.bytes
  have hml : c.maxLocals = 2 := hml0
  have hown : s.vm.findClass "com/example/fenceline/fenceline/model/Relation" = some m.cls := findClass_of_methodNamed Bd.named
  have hnm := (name_of_methodNamed Bd.named Bd.method).1
  have X0 : Stand p l e ({ frames := 1, cells := 1, slots := 256, locals := 12 } : Room) s m #[(.ref a1), (.int p2)] below meth c s₁ [] 0 0 := Stand.of_body Bd
  have e0 : s₁.heap = h0 := by rw [← hh, Bd.state]; rfl
  have N0 := Fr.nil n0
  have pre0 : ∀ t, Steps p.tables e below (s₁.setTop (mkF m 0 #[.val (.ref a1), .val (.int p2)] [])) t → Steps p.tables e below (s₁.setTop (entryFrame m #[(.ref a1), (.int p2)] 2)) t := fun t k => castTop (ef_2 m a1 p2) k
  have K0 := Keep.refl h0 ([a1] : List Addr)
  obtain ⟨T1, X1, e1, st1⟩ := initO X0 hx hZ hown (hw _ (List.mem_of_getElem? (i := 11) rfl)) (hw _ (List.mem_of_getElem? (i := 12) rfl)) (hw _ (List.mem_of_getElem? (i := 13) rfl)) e0 (g := (mkF m 1 #[.val (.ref a1), .val (.int p2)] [(.ref a1)])) rfl (by rw [hml]; rfl) rfl (hb hby d2_1) (by decide) (W := 0) (by show 2 * 0 + _ ≤ _; exact Nat.le_of_eq rfl) (by decide)
  obtain ⟨T2, h2, X2, e2, W2, st2⟩ := putF X1 hx hZ hown (host := "") (Or.inl (hw _ (List.mem_of_getElem? (i := 14) rfl))) Via.refl e1 F_size_a1 E_a1 (Or.inr ⟨(hw _ (List.mem_of_getElem? (i := 15) rfl)), rfl, hnm⟩) (hw _ (List.mem_of_getElem? (i := 6) rfl)) (ty := .int) (by decide) rfl rfl (g := (mkF m 6 #[.val (.ref a1), .val (.int p2)] [(.int p2), (.ref a1)])) rfl rfl (hb hby d2_6)
  have E_a1_2 : Exa Z h2 a1 "com/example/fenceline/fenceline/model/Relation" := E_a1.wr W2
  have F_words_a1_2 : Fld Z h2 a1 "com/example/fenceline/fenceline/model/Relation" "words" "I" (.int (0 : Int32)) := F_words_a1.other W2 (Or.inr (slot_ne (Or.inr (hw _ (List.mem_of_getElem? (i := 17) rfl))) (Or.inr (hw _ (List.mem_of_getElem? (i := 15) rfl))) (by decide) (t := .int) (t' := .int) (by decide) (by decide)))
  have F_rows_a1_2 : Fld Z h2 a1 "com/example/fenceline/fenceline/model/Relation" "rows" "[J" .null := F_rows_a1.other W2 (Or.inr (slot_ne (Or.inr (hw _ (List.mem_of_getElem? (i := 20) rfl))) (Or.inr (hw _ (List.mem_of_getElem? (i := 15) rfl))) (by decide) (t := (.array .long)) (t' := .int) (by decide) (by decide)))
  have K2 := K0.wr W2 (Or.inl (List.mem_of_getElem? (i := 0) rfl))
  have Zs2 := Nat.le_trans Z0 (Keep.of_wr W2).1
  have N2 := Fr.snoc X2 N0 g_a1
  have F_size_a1_2 : Fld Z h2 a1 "com/example/fenceline/fenceline/model/Relation" "size" "I" (.int p2) := F_size_a1.same W2
  obtain ⟨T3, h3, X3, e3, W3, st3⟩ := putF X2 hx hZ hown (host := "") (Or.inl (hw _ (List.mem_of_getElem? (i := 16) rfl))) Via.refl e2 F_words_a1_2 E_a1_2 (Or.inr ⟨(hw _ (List.mem_of_getElem? (i := 17) rfl)), rfl, hnm⟩) (hw _ (List.mem_of_getElem? (i := 6) rfl)) (ty := .int) (by decide) rfl rfl (g := (mkF m 17 #[.val (.ref a1), .val (.int p2)] [(.int (((p2 + (63 : Int32)).toUInt32 >>> ((6 : Int32) &&& 31).toUInt32).toInt32)), (.ref a1)])) rfl rfl (hb hby d2_17)
  have E_a1_3 : Exa Z h3 a1 "com/example/fenceline/fenceline/model/Relation" := E_a1_2.wr W3
  have F_rows_a1_3 : Fld Z h3 a1 "com/example/fenceline/fenceline/model/Relation" "rows" "[J" .null := F_rows_a1_2.other W3 (Or.inr (slot_ne (Or.inr (hw _ (List.mem_of_getElem? (i := 20) rfl))) (Or.inr (hw _ (List.mem_of_getElem? (i := 17) rfl))) (by decide) (t := (.array .long)) (t' := .int) (by decide) (by decide)))
  have F_size_a1_3 : Fld Z h3 a1 "com/example/fenceline/fenceline/model/Relation" "size" "I" (.int p2) := F_size_a1_2.other W3 (Or.inr (slot_ne (Or.inr (hw _ (List.mem_of_getElem? (i := 15) rfl))) (Or.inr (hw _ (List.mem_of_getElem? (i := 17) rfl))) (by decide) (t := .int) (t' := .int) (by decide) (by decide)))
  have K3 := K2.wr W3 (Or.inl (List.mem_of_getElem? (i := 0) rfl))
  have Zs3 := Nat.le_trans Zs2 (Keep.of_wr W3).1
  have N3 := Fr.snoc X3 N2 g_a1
  have F_words_a1_3 : Fld Z h3 a1 "com/example/fenceline/fenceline/model/Relation" "words" "I" (.int (((p2 + (63 : Int32)).toUInt32 >>> ((6 : Int32) &&& 31).toUInt32).toInt32)) := F_words_a1_2.same W3
  obtain ⟨T4, X4, e4, st4⟩ := getF X3 hx hZ hown (host := "") (Or.inl (hw _ (List.mem_of_getElem? (i := 16) rfl))) Via.refl e3 F_words_a1_3 (g := (mkF m 23 #[.val (.ref a1), .val (.int p2)] [(.ref a1), (.int p2), (.ref a1)])) rfl rfl (hb hby d2_23)
  obtain ⟨T5, h5, k5, X5, e5, E5, Ax5, st5⟩ := newP X4 hx hZ (hw _ (List.mem_of_getElem? (i := 18) rfl)) e4 (g := (mkF m 27 #[.val (.ref a1), .val (.int p2)] [(.int (p2 * (((p2 + (63 : Int32)).toUInt32 >>> ((6 : Int32) &&& 31).toUInt32).toInt32))), (.ref a1)])) rfl (hb hby d2_27) rfl (own_len0 p2 hn1 hn2) (cap := 256) (own_cap p2 hn1 hn2) (by decide) (by decide) (by decide)
  obtain ⟨b5, g5⟩ : ∃ z, z = h3.size := ⟨_, rfl⟩
  rw [← g5] at Ax5 st5
  have ne_a1_b5 : a1 ≠ b5 := Nat.ne_of_lt (Nat.lt_of_lt_of_le E_a1_3.lt (Nat.le_of_eq g5.symm))
  have g_b5 : n0 ≤ b5 := Nat.le_trans Zs3 (Nat.le_of_eq g5.symm)
  have sz_b5 : h0.size ≤ b5 := Nat.le_trans K3.1 (Nat.le_of_eq g5.symm)
  have E_a1_5 : Exa Z h5 a1 "com/example/fenceline/fenceline/model/Relation" := E_a1_3.ext E5
  have F_rows_a1_5 : Fld Z h5 a1 "com/example/fenceline/fenceline/model/Relation" "rows" "[J" .null := F_rows_a1_3.ext E5
  have F_size_a1_5 : Fld Z h5 a1 "com/example/fenceline/fenceline/model/Relation" "size" "I" (.int p2) := F_size_a1_3.ext E5
  have F_words_a1_5 : Fld Z h5 a1 "com/example/fenceline/fenceline/model/Relation" "words" "I" (.int (((p2 + (63 : Int32)).toUInt32 >>> ((6 : Int32) &&& 31).toUInt32).toInt32)) := F_words_a1_3.ext E5
  have K5 := K3.ext E5
  have Zs5 := Nat.le_trans Zs3 E5.1
  have A_b5_5 : own_A Z h5 b5 .long (p2 * (((p2 + (63 : Int32)).toUInt32 >>> ((6 : Int32) &&& 31).toUInt32).toInt32)) (fun i => .long ((fun _ => (0 : Int64)) i)) := own_A_new Ax5 (own_len0 p2 hn1 hn2)
  obtain ⟨T6, h6, X6, e6, W6, st6⟩ := putF X5 hx hZ hown (host := "") (Or.inl (hw _ (List.mem_of_getElem? (i := 19) rfl))) Via.refl e5 F_rows_a1_5 E_a1_5 (Or.inr ⟨(hw _ (List.mem_of_getElem? (i := 20) rfl)), rfl, hnm⟩) (hw _ (List.mem_of_getElem? (i := 6) rfl)) (ty := (.array .long)) (by decide) rfl rfl (g := (mkF m 29 #[.val (.ref a1), .val (.int p2)] [(.ref b5), (.ref a1)])) rfl rfl (hb hby d2_29)
  have E_a1_6 : Exa Z h6 a1 "com/example/fenceline/fenceline/model/Relation" := E_a1_5.wr W6
  have F_size_a1_6 : Fld Z h6 a1 "com/example/fenceline/fenceline/model/Relation" "size" "I" (.int p2) := F_size_a1_5.other W6 (Or.inr (slot_ne (Or.inr (hw _ (List.mem_of_getElem? (i := 15) rfl))) (Or.inr (hw _ (List.mem_of_getElem? (i := 20) rfl))) (by decide) (t := .int) (t' := (.array .long)) (by decide) (by decide)))
  have F_words_a1_6 : Fld Z h6 a1 "com/example/fenceline/fenceline/model/Relation" "words" "I" (.int (((p2 + (63 : Int32)).toUInt32 >>> ((6 : Int32) &&& 31).toUInt32).toInt32)) := F_words_a1_5.other W6 (Or.inr (slot_ne (Or.inr (hw _ (List.mem_of_getElem? (i := 17) rfl))) (Or.inr (hw _ (List.mem_of_getElem? (i := 20) rfl))) (by decide) (t := .int) (t' := (.array .long)) (by decide) (by decide)))
  have A_b5_6 : own_A Z h6 b5 .long (p2 * (((p2 + (63 : Int32)).toUInt32 >>> ((6 : Int32) &&& 31).toUInt32).toInt32)) (fun i => .long ((fun _ => (0 : Int64)) i)) := own_A_other A_b5_5 W6 (Ne.symm ne_a1_b5)
  have K6 := K5.wr W6 (Or.inl (List.mem_of_getElem? (i := 0) rfl))
  have Zs6 := Nat.le_trans Zs5 (Keep.of_wr W6).1
  have N6 := Fr.snoc X6 N3 g_a1
  have F_rows_a1_6 : Fld Z h6 a1 "com/example/fenceline/fenceline/model/Relation" "rows" "[J" (.ref b5) := F_rows_a1_5.same W6
  obtain ⟨fs, hr, hrun, hended, hW, hsame⟩ := X6.leave (v := none) (fun _ => rfl)
  refine ⟨_, _, pre0 _ ?_, hrun, hended, _, _, rfl, ?_, ⟨_, rfl⟩, hW, hsame.mono (by decide) (by decide)⟩
  · show Steps p.tables e below (s₁.setTop (mkF m 0 #[.val (.ref a1), .val (.int p2)] [])) _
    refine XS.aloadN X0.here hx rfl (hb hby d2_0) rfl rfl ?_
    show Steps p.tables e below (s₁.setTop (mkF m 1 #[.val (.ref a1), .val (.int p2)] [(.ref a1)])) _
    refine st1 _ ?_
    show Steps p.tables e below (T1.setTop (mkF m 4 #[.val (.ref a1), .val (.int p2)] [])) _
    refine XS.aloadN X1.here hx rfl (hb hby d2_4) rfl rfl ?_
    show Steps p.tables e below (T1.setTop (mkF m 5 #[.val (.ref a1), .val (.int p2)] [(.ref a1)])) _
    refine XS.iloadN X1.here hx rfl (hb hby d2_5) rfl ?_
    show Steps p.tables e below (T1.setTop (mkF m 6 #[.val (.ref a1), .val (.int p2)] [(.int p2), (.ref a1)])) _
    refine st2 _ ?_
    show Steps p.tables e below (T2.setTop (mkF m 9 #[.val (.ref a1), .val (.int p2)] [])) _
    refine XS.aloadN X2.here hx rfl (hb hby d2_9) rfl rfl ?_
    show Steps p.tables e below (T2.setTop (mkF m 10 #[.val (.ref a1), .val (.int p2)] [(.ref a1)])) _
    refine XS.iloadN X2.here hx rfl (hb hby d2_10) rfl ?_
    show Steps p.tables e below (T2.setTop (mkF m 11 #[.val (.ref a1), .val (.int p2)] [(.int p2), (.ref a1)])) _
    refine XS.bipush X2.here hx rfl (hb hby d2_11) ?_
    show Steps p.tables e below (T2.setTop (mkF m 13 #[.val (.ref a1), .val (.int p2)] [(.int (63 : Int32)), (.int p2), (.ref a1)])) _
    refine XS.iadd X2.here hx rfl (hb hby d2_13) rfl ?_
    show Steps p.tables e below (T2.setTop (mkF m 14 #[.val (.ref a1), .val (.int p2)] [(.int (p2 + (63 : Int32))), (.ref a1)])) _
    refine XS.bipush X2.here hx rfl (hb hby d2_14) ?_
    show Steps p.tables e below (T2.setTop (mkF m 16 #[.val (.ref a1), .val (.int p2)] [(.int (6 : Int32)), (.int (p2 + (63 : Int32))), (.ref a1)])) _
    refine XS.iushr X2.here hx rfl (hb hby d2_16) rfl ?_
    show Steps p.tables e below (T2.setTop (mkF m 17 #[.val (.ref a1), .val (.int p2)] [(.int (((p2 + (63 : Int32)).toUInt32 >>> ((6 : Int32) &&& 31).toUInt32).toInt32)), (.ref a1)])) _
    refine st3 _ ?_
    show Steps p.tables e below (T3.setTop (mkF m 20 #[.val (.ref a1), .val (.int p2)] [])) _
    refine XS.aloadN X3.here hx rfl (hb hby d2_20) rfl rfl ?_
    show Steps p.tables e below (T3.setTop (mkF m 21 #[.val (.ref a1), .val (.int p2)] [(.ref a1)])) _
    refine XS.iloadN X3.here hx rfl (hb hby d2_21) rfl ?_
    show Steps p.tables e below (T3.setTop (mkF m 22 #[.val (.ref a1), .val (.int p2)] [(.int p2), (.ref a1)])) _
    refine XS.aloadN X3.here hx rfl (hb hby d2_22) rfl rfl ?_
    show Steps p.tables e below (T3.setTop (mkF m 23 #[.val (.ref a1), .val (.int p2)] [(.ref a1), (.int p2), (.ref a1)])) _
    refine st4 _ ?_
    show Steps p.tables e below (T4.setTop (mkF m 26 #[.val (.ref a1), .val (.int p2)] [(.int (((p2 + (63 : Int32)).toUInt32 >>> ((6 : Int32) &&& 31).toUInt32).toInt32)), (.int p2), (.ref a1)])) _
    refine XS.imul X4.here hx rfl (hb hby d2_26) rfl ?_
    show Steps p.tables e below (T4.setTop (mkF m 27 #[.val (.ref a1), .val (.int p2)] [(.int (p2 * (((p2 + (63 : Int32)).toUInt32 >>> ((6 : Int32) &&& 31).toUInt32).toInt32))), (.ref a1)])) _
    refine st5 _ ?_
    show Steps p.tables e below (T5.setTop (mkF m 29 #[.val (.ref a1), .val (.int p2)] [(.ref b5), (.ref a1)])) _
    refine st6 _ ?_
    show Steps p.tables e below (T6.setTop (mkF m 32 #[.val (.ref a1), .val (.int p2)] [])) _
    exact X6.returnOut hx Bd.returns (hb hby d2_32) hr
  · show Q2 Z a1 p2 h0 n0 _ T6.heap _
    rw [e6]
    exact ⟨b5, rfl, N6, K6, sz_b5, E_a1_6, F_size_a1_6, F_words_a1_6, F_rows_a1_6, A_b5_6⟩
theorem d5_0 : decode prog_78_method_4_code 0 = .ok (.aload_n 0, 1) := by decide +kernel
theorem d5_1 : decode prog_78_method_4_code 1 = .ok (.getfield 16, 3) := by decide +kernel
theorem d5_4 : decode prog_78_method_4_code 4 = .ok (.iload_n 1, 1) := by decide +kernel
theorem d5_5 : decode prog_78_method_4_code 5 = .ok (.aload_n 0, 1) := by decide +kernel
theorem d5_6 : decode prog_78_method_4_code 6 = .ok (.getfield 13, 3) := by decide +kernel
theorem d5_9 : decode prog_78_method_4_code 9 = .ok (.imul, 1) := by decide +kernel
theorem d5_10 : decode prog_78_method_4_code 10 = .ok (.iload_n 2, 1) := by decide +kernel
theorem d5_11 : decode prog_78_method_4_code 11 = .ok (.bipush 6, 2) := by decide +kernel
theorem d5_13 : decode prog_78_method_4_code 13 = .ok (.iushr, 1) := by decide +kernel
theorem d5_14 : decode prog_78_method_4_code 14 = .ok (.iadd, 1) := by decide +kernel
theorem d5_15 : decode prog_78_method_4_code 15 = .ok (.dup2, 1) := by decide +kernel
theorem d5_16 : decode prog_78_method_4_code 16 = .ok (.laload, 1) := by decide +kernel
theorem d5_17 : decode prog_78_method_4_code 17 = .ok (.lconst 1, 1) := by decide +kernel
theorem d5_18 : decode prog_78_method_4_code 18 = .ok (.iload_n 2, 1) := by decide +kernel
theorem d5_19 : decode prog_78_method_4_code 19 = .ok (.lshl, 1) := by decide +kernel
theorem d5_20 : decode prog_78_method_4_code 20 = .ok (.lor, 1) := by decide +kernel
theorem d5_21 : decode prog_78_method_4_code 21 = .ok (.lastore, 1) := by decide +kernel
theorem d5_22 : decode prog_78_method_4_code 22 = .ok (.return_, 1) := by decide +kernel
theorem pn_5 : plainName "com/example/fenceline/fenceline/model/Relation" = true := by first | (simp [plainName, overriddenIn]; done) | decide +kernel
theorem ef_5 (m : MethodId) (a1 : Addr) (p2 : Int32) (p3 : Int32) : entryFrame m #[(.ref a1), (.int p2), (.int p3)] 3 = mkF m 0 #[.val (.ref a1), .val (.int p2), .val (.int p3)] [] := by first | (simp [entryFrame, mkF, argsToLocals, Value.category]; done) | rfl
def Q5 (Z : State) (a1 : Addr) (p2 : Int32) (p3 : Int32) (b : Addr) (w : Int32) (n : Int32) (y : Int32 → Int64) (h0 : Heap) (n0 : Nat) (v : Option Value) (h : Heap) (L : List Loc) : Prop := v = none ∧ Fr n0 L ∧ Keep h0 h ([b] : List Addr) ∧ own_A Z h b .long n (fun i => .long ((fun i => if i = ((p2 * w) + ((p3.toUInt32 >>> ((6 : Int32) &&& 31).toUInt32).toInt32)) then ((y ((p2 * w) + ((p3.toUInt32 >>> ((6 : Int32) &&& 31).toUInt32).toInt32))) ||| ((1 : Int64) <<< (p3 &&& 0x3f).toInt64)) else y i) i))
set_option maxRecDepth 65536 in
set_option maxHeartbeats 40000000 in
theorem rm5 (l : Launch) (Z : State) (a0 : Array Value) (hw : ∀ d ∈ tables_1, d.before a0 Z = true) (ws : List Jvm.Cond) (a1 : Addr) (p2 : Int32) (p3 : Int32) (b : Addr) (w : Int32) (n : Int32) (y : Int32 → Int64) (h0 : Heap) (n0 : Nat) (Z0 : n0 ≤ h0.size) (F_rows_a1 : Fld Z h0 a1 "com/example/fenceline/fenceline/model/Relation" "rows" "[J" (.ref b)) (F_words_a1 : Fld Z h0 a1 "com/example/fenceline/fenceline/model/Relation" "words" "I" (.int w)) (A_b : own_A Z h0 b .long n (fun i => .long (y i))) (ne_a1_b : a1 ≠ b) (g_b : n0 ≤ b) (hin : ¬ ((p2 * w) + ((p3.toUInt32 >>> ((6 : Int32) &&& 31).toUInt32).toInt32)) < 0 ∧ ((p2 * w) + ((p3.toUInt32 >>> ((6 : Int32) &&& 31).toUInt32).toInt32)) < n) :
    MetFree l (⟨"com/example/fenceline/fenceline/model/Relation", "add", "(II)V"⟩ : MethodName) (head1 (Jvm.Cond.code (⟨"com/example/fenceline/fenceline/model/Relation", "add", "(II)V"⟩ : MethodName) prog_78_method_4_code 3 none :: ws) ({ frames := 0, cells := 0, slots := 0, locals := 0 } : Room)) (fun a U => a = #[(.ref a1), (.int p2), (.int p3)] ∧ Z.Warmed39 U.vm ∧ U.heap = h0) (fun _ _ _ _ _ => True) (fun _ U o U' => ∃ v L, o = .returned v ∧ Q5 Z a1 p2 p3 b w n y h0 n0 v U'.heap L ∧ FrameEnd U o U' L ({ frames := 0, cells := 0, slots := 0, locals := 0 } : Room).cells ({ frames := 0, cells := 0, slots := 0, locals := 0 } : Room).slots) := by
  refine MetFree.of_bodySF (plainFor_of_name pn_5) hisR ?_
  intro p e s m args below meth c s₁ Bd hml0 hP hK
  obtain ⟨rfl, hZ, hh⟩ := hP
  have hx := Bd.exec
  have hby := Bd.bytes
  have hml : c.maxLocals = 3 := hml0
  have hown : s.vm.findClass "com/example/fenceline/fenceline/model/Relation" = some m.cls := findClass_of_methodNamed Bd.named
  have hnm := (name_of_methodNamed Bd.named Bd.method).1
  have X0 : Stand p l e ({ frames := 0, cells := 0, slots := 0, locals := 0 } : Room) s m #[(.ref a1), (.int p2), (.int p3)] below meth c s₁ [] 0 0 := Stand.of_body Bd
  have e0 : s₁.heap = h0 := by rw [← hh, Bd.state]; rfl
  have N0 := Fr.nil n0
  have pre0 : ∀ t, Steps p.tables e below (s₁.setTop (mkF m 0 #[.val (.ref a1), .val (.int p2), .val (.int p3)] [])) t → Steps p.tables e below (s₁.setTop (entryFrame m #[(.ref a1), (.int p2), (.int p3)] 3)) t := fun t k => castTop (ef_5 m a1 p2 p3) k
  have K0 := Keep.refl h0 ([b] : List Addr)
  obtain ⟨T1, X1, e1, st1⟩ := getF X0 hx hZ hown (host := "") (Or.inl (hw _ (List.mem_of_getElem? (i := 19) rfl))) Via.refl e0 F_rows_a1 (g := (mkF m 1 #[.val (.ref a1), .val (.int p2), .val (.int p3)] [(.ref a1)])) rfl rfl (hb hby d5_1)
  obtain ⟨cl2, Ar2, Sz2, Mz2, Hz2⟩ := id A_b
  obtain ⟨T3, X3, e3, st3⟩ := getF X1 hx hZ hown (host := "") (Or.inl (hw _ (List.mem_of_getElem? (i := 16) rfl))) Via.refl e1 F_words_a1 (g := (mkF m 6 #[.val (.ref a1), .val (.int p2), .val (.int p3)] [(.ref a1), (.int p2), (.ref b)])) rfl rfl (hb hby d5_6)
  have hin4 := inb_of (j := ((p2 * w) + ((p3.toUInt32 >>> ((6 : Int32) &&& 31).toUInt32).toInt32))) Sz2 hin
  obtain ⟨T4, h4, X4, e4, W4, st4⟩ := stJ X3 hx hZ e3 Ar2 (j := ((p2 * w) + ((p3.toUInt32 >>> ((6 : Int32) &&& 31).toUInt32).toInt32))) hin4 (g := (mkF m 21 #[.val (.ref a1), .val (.int p2), .val (.int p3)] [(.long ((y ((p2 * w) + ((p3.toUInt32 >>> ((6 : Int32) &&& 31).toUInt32).toInt32))) ||| ((1 : Int64) <<< (p3 &&& 0x3f).toInt64))), (.int ((p2 * w) + ((p3.toUInt32 >>> ((6 : Int32) &&& 31).toUInt32).toInt32))), (.ref b)])) rfl rfl (hb hby d5_21)
  obtain ⟨y4, hy4⟩ : ∃ yy_ : Int32 → Int64, yy_ = fun i => if i = ((p2 * w) + ((p3.toUInt32 >>> ((6 : Int32) &&& 31).toUInt32).toInt32)) then ((y ((p2 * w) + ((p3.toUInt32 >>> ((6 : Int32) &&& 31).toUInt32).toInt32))) ||| ((1 : Int64) <<< (p3 &&& 0x3f).toInt64)) else y i := ⟨_, rfl⟩
  have F_rows_a1_4 : Fld Z h4 a1 "com/example/fenceline/fenceline/model/Relation" "rows" "[J" (.ref b) := F_rows_a1.other W4 (Or.inl ne_a1_b)
  have F_words_a1_4 : Fld Z h4 a1 "com/example/fenceline/fenceline/model/Relation" "words" "I" (.int w) := F_words_a1.other W4 (Or.inl ne_a1_b)
  have K4 := K0.wr W4 (Or.inl (List.mem_of_getElem? (i := 0) rfl))
  have Zs4 := Nat.le_trans Z0 (Keep.of_wr W4).1
  have N4 := Fr.snoc X4 N0 g_b
  have A_b_4 : own_A Z h4 b .long n (fun i => .long (y4 i)) := by subst hy4; exact own_A_set Ar2 Sz2 Mz2 Hz2 hin4 W4 (own_setJ (y := y) (j := ((p2 * w) + ((p3.toUInt32 >>> ((6 : Int32) &&& 31).toUInt32).toInt32))) (x := ((y ((p2 * w) + ((p3.toUInt32 >>> ((6 : Int32) &&& 31).toUInt32).toInt32))) ||| ((1 : Int64) <<< (p3 &&& 0x3f).toInt64)))) (own_setJ' (y := y) (j := ((p2 * w) + ((p3.toUInt32 >>> ((6 : Int32) &&& 31).toUInt32).toInt32))) (x := ((y ((p2 * w) + ((p3.toUInt32 >>> ((6 : Int32) &&& 31).toUInt32).toInt32))) ||| ((1 : Int64) <<< (p3 &&& 0x3f).toInt64))))
  obtain ⟨fs, hr, hrun, hended, hW, hsame⟩ := X4.leave (v := none) (fun _ => rfl)
  refine ⟨_, _, pre0 _ ?_, hrun, hended, _, _, rfl, ?_, ⟨_, rfl⟩, hW, hsame.mono (by decide) (by decide)⟩
  · show Steps p.tables e below (s₁.setTop (mkF m 0 #[.val (.ref a1), .val (.int p2), .val (.int p3)] [])) _
    refine XS.aloadN X0.here hx rfl (hb hby d5_0) rfl rfl ?_
    show Steps p.tables e below (s₁.setTop (mkF m 1 #[.val (.ref a1), .val (.int p2), .val (.int p3)] [(.ref a1)])) _
    refine st1 _ ?_
    show Steps p.tables e below (T1.setTop (mkF m 4 #[.val (.ref a1), .val (.int p2), .val (.int p3)] [(.ref b)])) _
    refine XS.iloadN X1.here hx rfl (hb hby d5_4) rfl ?_
    show Steps p.tables e below (T1.setTop (mkF m 5 #[.val (.ref a1), .val (.int p2), .val (.int p3)] [(.int p2), (.ref b)])) _
    refine XS.aloadN X1.here hx rfl (hb hby d5_5) rfl rfl ?_
    show Steps p.tables e below (T1.setTop (mkF m 6 #[.val (.ref a1), .val (.int p2), .val (.int p3)] [(.ref a1), (.int p2), (.ref b)])) _
    refine st3 _ ?_
    show Steps p.tables e below (T3.setTop (mkF m 9 #[.val (.ref a1), .val (.int p2), .val (.int p3)] [(.int w), (.int p2), (.ref b)])) _
    refine XS.imul X3.here hx rfl (hb hby d5_9) rfl ?_
    show Steps p.tables e below (T3.setTop (mkF m 10 #[.val (.ref a1), .val (.int p2), .val (.int p3)] [(.int (p2 * w)), (.ref b)])) _
    refine XS.iloadN X3.here hx rfl (hb hby d5_10) rfl ?_
    show Steps p.tables e below (T3.setTop (mkF m 11 #[.val (.ref a1), .val (.int p2), .val (.int p3)] [(.int p3), (.int (p2 * w)), (.ref b)])) _
    refine XS.bipush X3.here hx rfl (hb hby d5_11) ?_
    show Steps p.tables e below (T3.setTop (mkF m 13 #[.val (.ref a1), .val (.int p2), .val (.int p3)] [(.int (6 : Int32)), (.int p3), (.int (p2 * w)), (.ref b)])) _
    refine XS.iushr X3.here hx rfl (hb hby d5_13) rfl ?_
    show Steps p.tables e below (T3.setTop (mkF m 14 #[.val (.ref a1), .val (.int p2), .val (.int p3)] [(.int ((p3.toUInt32 >>> ((6 : Int32) &&& 31).toUInt32).toInt32)), (.int (p2 * w)), (.ref b)])) _
    refine XS.iadd X3.here hx rfl (hb hby d5_14) rfl ?_
    show Steps p.tables e below (T3.setTop (mkF m 15 #[.val (.ref a1), .val (.int p2), .val (.int p3)] [(.int ((p2 * w) + ((p3.toUInt32 >>> ((6 : Int32) &&& 31).toUInt32).toInt32))), (.ref b)])) _
    refine XT.dup2 X3.here hx rfl (hb hby d5_15) rfl rfl rfl ?_
    show Steps p.tables e below (T3.setTop (mkF m 16 #[.val (.ref a1), .val (.int p2), .val (.int p3)] [(.int ((p2 * w) + ((p3.toUInt32 >>> ((6 : Int32) &&& 31).toUInt32).toInt32))), (.ref b), (.int ((p2 * w) + ((p3.toUInt32 >>> ((6 : Int32) &&& 31).toUInt32).toInt32))), (.ref b)])) _
    refine X3.laload hx (j := ((p2 * w) + ((p3.toUInt32 >>> ((6 : Int32) &&& 31).toUInt32).toInt32))) (v := (.long (y ((p2 * w) + ((p3.toUInt32 >>> ((6 : Int32) &&& 31).toUInt32).toInt32))))) (by rw [e3]; exact Ar2.1) (State.isArrayOf_alike hZ.alike Ar2.2.1) Ar2.2.2 (inb_of Sz2 hin) (Hz2 _ (inb_of Sz2 hin)) (g := (mkF m 16 #[.val (.ref a1), .val (.int p2), .val (.int p3)] [(.int ((p2 * w) + ((p3.toUInt32 >>> ((6 : Int32) &&& 31).toUInt32).toInt32))), (.ref b), (.int ((p2 * w) + ((p3.toUInt32 >>> ((6 : Int32) &&& 31).toUInt32).toInt32))), (.ref b)])) rfl rfl (hb hby d5_16) _ ?_
    show Steps p.tables e below (T3.setTop (mkF m 17 #[.val (.ref a1), .val (.int p2), .val (.int p3)] [(.long (y ((p2 * w) + ((p3.toUInt32 >>> ((6 : Int32) &&& 31).toUInt32).toInt32)))), (.int ((p2 * w) + ((p3.toUInt32 >>> ((6 : Int32) &&& 31).toUInt32).toInt32))), (.ref b)])) _
    refine XS.lconst X3.here hx rfl (hb hby d5_17) ?_
    show Steps p.tables e below (T3.setTop (mkF m 18 #[.val (.ref a1), .val (.int p2), .val (.int p3)] [(.long (1 : Int64)), (.long (y ((p2 * w) + ((p3.toUInt32 >>> ((6 : Int32) &&& 31).toUInt32).toInt32)))), (.int ((p2 * w) + ((p3.toUInt32 >>> ((6 : Int32) &&& 31).toUInt32).toInt32))), (.ref b)])) _
    refine XS.iloadN X3.here hx rfl (hb hby d5_18) rfl ?_
    show Steps p.tables e below (T3.setTop (mkF m 19 #[.val (.ref a1), .val (.int p2), .val (.int p3)] [(.int p3), (.long (1 : Int64)), (.long (y ((p2 * w) + ((p3.toUInt32 >>> ((6 : Int32) &&& 31).toUInt32).toInt32)))), (.int ((p2 * w) + ((p3.toUInt32 >>> ((6 : Int32) &&& 31).toUInt32).toInt32))), (.ref b)])) _
    refine XS.lshl X3.here hx rfl (hb hby d5_19) rfl ?_
    show Steps p.tables e below (T3.setTop (mkF m 20 #[.val (.ref a1), .val (.int p2), .val (.int p3)] [(.long ((1 : Int64) <<< (p3 &&& 0x3f).toInt64)), (.long (y ((p2 * w) + ((p3.toUInt32 >>> ((6 : Int32) &&& 31).toUInt32).toInt32)))), (.int ((p2 * w) + ((p3.toUInt32 >>> ((6 : Int32) &&& 31).toUInt32).toInt32))), (.ref b)])) _
    refine XS.lor X3.here hx rfl (hb hby d5_20) rfl ?_
    show Steps p.tables e below (T3.setTop (mkF m 21 #[.val (.ref a1), .val (.int p2), .val (.int p3)] [(.long ((y ((p2 * w) + ((p3.toUInt32 >>> ((6 : Int32) &&& 31).toUInt32).toInt32))) ||| ((1 : Int64) <<< (p3 &&& 0x3f).toInt64))), (.int ((p2 * w) + ((p3.toUInt32 >>> ((6 : Int32) &&& 31).toUInt32).toInt32))), (.ref b)])) _
    refine st4 _ ?_
    show Steps p.tables e below (T4.setTop (mkF m 22 #[.val (.ref a1), .val (.int p2), .val (.int p3)] [])) _
    exact X4.returnOut hx Bd.returns (hb hby d5_22) hr
  · show Q5 Z a1 p2 p3 b w n y h0 n0 _ T4.heap _
    rw [e4]
    subst hy4
    exact ⟨rfl, N4, K4, A_b_4⟩
theorem d4_0 : decode prog_78_method_9_code 0 = .ok (.iconst 0, 1) := by decide +kernel
theorem d4_1 : decode prog_78_method_9_code 1 = .ok (.istore_n 2, 1) := by decide +kernel
theorem d4_29 : decode prog_78_method_9_code 29 = .ok (.iconst 1, 1) := by decide +kernel
theorem d4_30 : decode prog_78_method_9_code 30 = .ok (.ireturn, 1) := by decide +kernel
theorem d4_37 : decode prog_78_method_9_code 37 = .ok (.iconst 0, 1) := by decide +kernel
theorem d4_38 : decode prog_78_method_9_code 38 = .ok (.ireturn, 1) := by decide +kernel
theorem pn_4 : plainName "com/example/fenceline/fenceline/model/Relation" = true := by first | (simp [plainName, overriddenIn]; done) | decide +kernel
theorem ef_4 (m : MethodId) (a1 : Addr) (a2 : Addr) : entryFrame m #[(.ref a1), (.ref a2)] 3 = mkF m 0 #[.val (.ref a1), .val (.ref a2), .unset] [] := by first | (simp [entryFrame, mkF, argsToLocals, Value.category]; done) | rfl
def f4 (n_f_rows_a1 : Int32) (y_f_rows_a1 : Int32 → Int64) (y_f_rows_a2 : Int32 → Int64) : Int32 :=
  (own_int y_f_rows_a1 y_f_rows_a2 (0 : Int32) n_f_rows_a1.toInt.toNat)
def Q4 (Z : State) (a1 : Addr) (a2 : Addr) (f_rows_a1 : Addr) (f_rows_a2 : Addr) (n_f_rows_a1 : Int32) (y_f_rows_a1 : Int32 → Int64) (n_f_rows_a2 : Int32) (y_f_rows_a2 : Int32 → Int64) (h0 : Heap) (n0 : Nat) (v : Option Value) (h : Heap) (L : List Loc) : Prop := v = some (.int (f4 n_f_rows_a1 y_f_rows_a1 y_f_rows_a2)) ∧ Fr n0 L ∧ h = h0
set_option maxRecDepth 65536 in
set_option maxHeartbeats 40000000 in
theorem rm4 (l : Launch) (Z : State) (a0 : Array Value) (hw : ∀ d ∈ tables_1, d.before a0 Z = true) (ws : List Jvm.Cond) (a1 : Addr) (a2 : Addr) (f_rows_a1 : Addr) (f_rows_a2 : Addr) (n_f_rows_a1 : Int32) (y_f_rows_a1 : Int32 → Int64) (n_f_rows_a2 : Int32) (y_f_rows_a2 : Int32 → Int64) (h0 : Heap) (n0 : Nat) (Z0 : n0 ≤ h0.size) (F_rows_a1 : Fld Z h0 a1 "com/example/fenceline/fenceline/model/Relation" "rows" "[J" (.ref f_rows_a1)) (F_rows_a2 : Fld Z h0 a2 "com/example/fenceline/fenceline/model/Relation" "rows" "[J" (.ref f_rows_a2)) (A_f_rows_a1 : own_A Z h0 f_rows_a1 .long n_f_rows_a1 (fun i => .long (y_f_rows_a1 i))) (A_f_rows_a2 : own_A Z h0 f_rows_a2 .long n_f_rows_a2 (fun i => .long (y_f_rows_a2 i))) (hnn : n_f_rows_a1 = n_f_rows_a2) :
    MetFree l (⟨"com/example/fenceline/fenceline/model/Relation", "intersects", "(Lcom/example/fenceline/fenceline/model/Relation;)Z"⟩ : MethodName) (head1 (Jvm.Cond.code (⟨"com/example/fenceline/fenceline/model/Relation", "intersects", "(Lcom/example/fenceline/fenceline/model/Relation;)Z"⟩ : MethodName) prog_78_method_9_code 3 (some .boolean) :: ws) ({ frames := 0, cells := 0, slots := 0, locals := 0 } : Room)) (fun a U => a = #[(.ref a1), (.ref a2)] ∧ Z.Warmed39 U.vm ∧ U.heap = h0) (fun _ _ _ _ _ => True) (fun _ U o U' => ∃ v L, o = .returned v ∧ Q4 Z a1 a2 f_rows_a1 f_rows_a2 n_f_rows_a1 y_f_rows_a1 n_f_rows_a2 y_f_rows_a2 h0 n0 v U'.heap L ∧ FrameEnd U o U' L ({ frames := 0, cells := 0, slots := 0, locals := 0 } : Room).cells ({ frames := 0, cells := 0, slots := 0, locals := 0 } : Room).slots) := by
  refine MetFree.of_bodySF (plainFor_of_name pn_4) hisR ?_
  intro p e s m args below meth c s₁ Bd hml0 hP hK
  obtain ⟨rfl, hZ, hh⟩ := hP
  have hx := Bd.exec
  have hby := Bd.bytes
  have hml : c.maxLocals = 3 := hml0
  have hown : s.vm.findClass "com/example/fenceline/fenceline/model/Relation" = some m.cls := findClass_of_methodNamed Bd.named
  have hnm := (name_of_methodNamed Bd.named Bd.method).1
  have X0 : Stand p l e ({ frames := 0, cells := 0, slots := 0, locals := 0 } : Room) s m #[(.ref a1), (.ref a2)] below meth c s₁ [] 0 0 := Stand.of_body Bd
  have e0 : s₁.heap = h0 := by rw [← hh, Bd.state]; rfl
  have N0 := Fr.nil n0
  have pre0 : ∀ t, Steps p.tables e below (s₁.setTop (mkF m 0 #[.val (.ref a1), .val (.ref a2), .unset] [])) t → Steps p.tables e below (s₁.setTop (entryFrame m #[(.ref a1), (.ref a2)] 3)) t := fun t k => castTop (ef_4 m a1 a2) k
  obtain ⟨cl1, Ar1, Sz1, Mz1, Hz1⟩ := id A_f_rows_a1
  obtain ⟨cl2, Ar2, Sz2, Mz2, Hz2⟩ := id A_f_rows_a2
  have pre3 : ∀ t, Steps p.tables e below (s₁.setTop (mkF m 2 #[.val (.ref a1), .val (.ref a2), .val (.int (0 : Int32))] [])) t → Steps p.tables e below (s₁.setTop (entryFrame m #[(.ref a1), (.ref a2)] 3)) t := fun t k => pre0 t (by
    show Steps p.tables e below (s₁.setTop (mkF m 0 #[.val (.ref a1), .val (.ref a2), .unset] [])) _
    refine XS.iconst X0.here hx rfl (hb hby d4_0) ?_
    show Steps p.tables e below (s₁.setTop (mkF m 1 #[.val (.ref a1), .val (.ref a2), .unset] [(.int (0 : Int32))])) _
    refine XS.istoreN X0.here hx rfl (hb hby d4_1) rfl (l' := #[.val (.ref a1), .val (.ref a2), .val (.int (0 : Int32))]) rfl ?_
    exact k)
  rw [← hnn] at Sz2
  obtain ⟨T', i', X', e', hq⟩ := loop4 hx hZ hw hby hown F_rows_a1 F_rows_a2 Ar1 Sz1 Mz1 Hz1 Ar2 Sz2 Hz2 n_f_rows_a1.toInt.toNat s₁ (0 : Int32) X0 e0 (own_zn Mz1) (by decide)
  rcases hq with ⟨q, st'⟩ | ⟨q, st'⟩
  · obtain ⟨fs, hr, hrun, hended, hW, hsame⟩ := X'.leave (v := some (.int (1 : Int32))) (fun h => by rw [Bd.returns] at h; cases h)
    refine ⟨_, _, pre3 _ (st' _ ?_), hrun, hended, _, _, rfl, ?_, ⟨_, rfl⟩, hW, hsame.mono (by decide) (by decide)⟩
    · show Steps p.tables e below (T'.setTop (mkF m 29 #[.val (.ref a1), .val (.ref a2), .val (.int i')] [])) _
      refine XS.iconst X'.here hx rfl (hb hby d4_29) ?_
      show Steps p.tables e below (T'.setTop (mkF m 30 #[.val (.ref a1), .val (.ref a2), .val (.int i')] [(.int (1 : Int32))])) _
      exact retN X' hx (t := .boolean) Bd.returns (by simp) (hb hby d4_30) hr
    · show Q4 Z a1 a2 f_rows_a1 f_rows_a2 n_f_rows_a1 y_f_rows_a1 n_f_rows_a2 y_f_rows_a2 h0 n0 _ T'.heap _
      rw [e']
      exact ⟨congrArg (fun z => some (Value.int z)) q.symm, N0, rfl⟩
  · obtain ⟨fs, hr, hrun, hended, hW, hsame⟩ := X'.leave (v := some (.int (0 : Int32))) (fun h => by rw [Bd.returns] at h; cases h)
    refine ⟨_, _, pre3 _ (st' _ ?_), hrun, hended, _, _, rfl, ?_, ⟨_, rfl⟩, hW, hsame.mono (by decide) (by decide)⟩
    · show Steps p.tables e below (T'.setTop (mkF m 37 #[.val (.ref a1), .val (.ref a2), .val (.int i')] [])) _
      refine XS.iconst X'.here hx rfl (hb hby d4_37) ?_
      show Steps p.tables e below (T'.setTop (mkF m 38 #[.val (.ref a1), .val (.ref a2), .val (.int i')] [(.int (0 : Int32))])) _
      exact retN X' hx (t := .boolean) Bd.returns (by simp) (hb hby d4_38) hr
    · show Q4 Z a1 a2 f_rows_a1 f_rows_a2 n_f_rows_a1 y_f_rows_a1 n_f_rows_a2 y_f_rows_a2 h0 n0 _ T'.heap _
      rw [e']
      exact ⟨congrArg (fun z => some (Value.int z)) q.symm, N0, rfl⟩
theorem pd_0 : parseMethodDescriptor "(JII)I" = some ⟨[.long, .int, .int], some .int⟩ := by decide +kernel
theorem pd_1 : parseMethodDescriptor "(I)V" = some ⟨[.int], none⟩ := by decide +kernel
theorem pd_2 : parseMethodDescriptor "(II)V" = some ⟨[.int, .int], none⟩ := by decide +kernel
theorem pd_3 : parseMethodDescriptor "(Lcom/example/fenceline/fenceline/model/Relation;)Z" = some ⟨[(.object "com/example/fenceline/fenceline/model/Relation")], some .boolean⟩ := by decide +kernel
theorem pn_0 : plainName "com/example/fenceline/fenceline/model/RelationIntersectsPinLaw" = true := by first | (simp [plainName, overriddenIn]; done) | decide +kernel
theorem ef_0 (m : MethodId) (p1 : Int32) (q2 : Int64) (q3 : Int64) (p4 : Int32) : entryFrame m #[(.int p1), (.long q2), (.long q3), (.int p4)] maxLocals = mkF m 0 #[.val (.int p1), .val (.long q2), .second, .val (.long q3), .second, .val (.int p4), .unset, .unset, .unset, .unset, .unset, .unset, .unset, .unset, .unset, .unset, .unset, .unset, .unset, .unset, .unset, .unset, .unset, .unset, .unset, .unset, .unset, .unset] [] := by first | (simp [entryFrame, mkF, argsToLocals, Value.category, maxLocals]; done) | rfl
def f0 (p1 : Int32) (q2 : Int64) (q3 : Int64) (p4 : Int32) : Int32 :=
  let N : Int32 := ((1 : Int32) + (p1 &&& (127 : Int32)));
  let A1F : Int32 := (f1 q2 (0 : Int32) N);
  let A1T : Int32 := (f1 q2 (8 : Int32) N);
  let A2F : Int32 := (f1 q2 (16 : Int32) N);
  let A2T : Int32 := (f1 q2 (24 : Int32) N);
  let C1F : Int32 := (f1 q3 (0 : Int32) N);
  let C1T : Int32 := (f1 q3 (8 : Int32) N);
  let C2F : Int32 := (f1 q3 (16 : Int32) N);
  let C2T : Int32 := (f1 q3 (24 : Int32) N);
  let v10 : Int32 := (if (p4 &&& (1 : Int32)) = (0 : Int32) then (0 : Int32) else (1 : Int32));
  let v13 : Int32 := (if (p4 &&& (2 : Int32)) = (0 : Int32) then (0 : Int32) else (1 : Int32));
  let v16 : Int32 := (if (p4 &&& (4 : Int32)) = (0 : Int32) then (0 : Int32) else (1 : Int32));
  let v19 : Int32 := (if (p4 &&& (8 : Int32)) = (0 : Int32) then (0 : Int32) else (1 : Int32));
  let v22 : Int32 := (if (p4 &&& (16 : Int32)) = (0 : Int32) then C1F else A2F);
  let v23 : Int32 := (if (p4 &&& (16 : Int32)) = (0 : Int32) then C1T else A2T);
  let y27 : Int32 → Int64 := (fun _ => (0 : Int64));
  let y30 : Int32 → Int64 := (fun _ => (0 : Int64));
  let y38 : Int32 → Int64 := (if v10 = (0 : Int32) then y27 else (fun i => if i = ((A1F * (((N + (63 : Int32)).toUInt32 >>> ((6 : Int32) &&& 31).toUInt32).toInt32)) + ((A1T.toUInt32 >>> ((6 : Int32) &&& 31).toUInt32).toInt32)) then ((y27 ((A1F * (((N + (63 : Int32)).toUInt32 >>> ((6 : Int32) &&& 31).toUInt32).toInt32)) + ((A1T.toUInt32 >>> ((6 : Int32) &&& 31).toUInt32).toInt32))) ||| ((1 : Int64) <<< (A1T &&& 0x3f).toInt64)) else y27 i));
  let y46 : Int32 → Int64 := (if v13 = (0 : Int32) then y38 else (fun i => if i = ((A2F * (((N + (63 : Int32)).toUInt32 >>> ((6 : Int32) &&& 31).toUInt32).toInt32)) + ((A2T.toUInt32 >>> ((6 : Int32) &&& 31).toUInt32).toInt32)) then ((y38 ((A2F * (((N + (63 : Int32)).toUInt32 >>> ((6 : Int32) &&& 31).toUInt32).toInt32)) + ((A2T.toUInt32 >>> ((6 : Int32) &&& 31).toUInt32).toInt32))) ||| ((1 : Int64) <<< (A2T &&& 0x3f).toInt64)) else y38 i));
  let y54 : Int32 → Int64 := (if v16 = (0 : Int32) then y30 else (fun i => if i = ((v22 * (((N + (63 : Int32)).toUInt32 >>> ((6 : Int32) &&& 31).toUInt32).toInt32)) + ((v23.toUInt32 >>> ((6 : Int32) &&& 31).toUInt32).toInt32)) then ((y30 ((v22 * (((N + (63 : Int32)).toUInt32 >>> ((6 : Int32) &&& 31).toUInt32).toInt32)) + ((v23.toUInt32 >>> ((6 : Int32) &&& 31).toUInt32).toInt32))) ||| ((1 : Int64) <<< (v23 &&& 0x3f).toInt64)) else y30 i));
  let y62 : Int32 → Int64 := (if v19 = (0 : Int32) then y54 else (fun i => if i = ((C2F * (((N + (63 : Int32)).toUInt32 >>> ((6 : Int32) &&& 31).toUInt32).toInt32)) + ((C2T.toUInt32 >>> ((6 : Int32) &&& 31).toUInt32).toInt32)) then ((y54 ((C2F * (((N + (63 : Int32)).toUInt32 >>> ((6 : Int32) &&& 31).toUInt32).toInt32)) + ((C2T.toUInt32 >>> ((6 : Int32) &&& 31).toUInt32).toInt32))) ||| ((1 : Int64) <<< (C2T &&& 0x3f).toInt64)) else y54 i));
  let v67 : Int32 := (if v10 = (0 : Int32) then (0 : Int32) else (if v16 = (0 : Int32) then (0 : Int32) else (if A1F = v22 then (if A1T = v23 then (1 : Int32) else (0 : Int32)) else (0 : Int32))));
  let v73 : Int32 := (if v10 = (0 : Int32) then (0 : Int32) else (if v19 = (0 : Int32) then (0 : Int32) else (if A1F = C2F then (if A1T = C2T then (1 : Int32) else (0 : Int32)) else (0 : Int32))));
  let v79 : Int32 := (if v13 = (0 : Int32) then (0 : Int32) else (if v16 = (0 : Int32) then (0 : Int32) else (if A2F = v22 then (if A2T = v23 then (1 : Int32) else (0 : Int32)) else (0 : Int32))));
  let v85 : Int32 := (if v13 = (0 : Int32) then (0 : Int32) else (if v19 = (0 : Int32) then (0 : Int32) else (if A2F = C2F then (if A2T = C2T then (1 : Int32) else (0 : Int32)) else (0 : Int32))));
  let v91 : Int32 := (if v67 = (0 : Int32) then (if v73 = (0 : Int32) then (if v79 = (0 : Int32) then (if v85 = (0 : Int32) then (0 : Int32) else (1 : Int32)) else (1 : Int32)) else (1 : Int32)) else (1 : Int32));
  let v97 : Int32 := (if (f4 (N * (((N + (63 : Int32)).toUInt32 >>> ((6 : Int32) &&& 31).toUInt32).toInt32)) y46 y62) = v91 then (if (f4 (N * (((N + (63 : Int32)).toUInt32 >>> ((6 : Int32) &&& 31).toUInt32).toInt32)) y62 y46) = v91 then (1 : Int32) else (0 : Int32)) else (0 : Int32));
  (nar .boolean v97)
def Q0 (Z : State) (p1 : Int32) (q2 : Int64) (q3 : Int64) (p4 : Int32)  (h0 : Heap) (n0 : Nat) (v : Option Value) (h : Heap) (L : List Loc) : Prop := v = some (.int (f0 p1 q2 q3 p4)) ∧ Fr n0 L ∧ True
set_option maxRecDepth 65536 in
set_option maxHeartbeats 40000000 in
theorem rm0 (l : Launch) (Z : State) (a0 : Array Value) (hw : ∀ d ∈ tables_1, d.before a0 Z = true) (ws : List Jvm.Cond) (p1 : Int32) (q2 : Int64) (q3 : Int64) (p4 : Int32)  (h0 : Heap) (n0 : Nat) (Z0 : n0 ≤ h0.size) (O0 : Old Z n0 h0) :
    MetFree l x (head1 (Jvm.Cond.code x code maxLocals ret :: ws) room_1) (fun a U => a = #[(.int p1), (.long q2), (.long q3), (.int p4)] ∧ Z.Warmed39 U.vm ∧ U.heap = h0) (fun _ _ _ _ _ => True) (fun _ U o U' => ∃ v L, o = .returned v ∧ Q0 Z p1 q2 q3 p4 h0 n0 v U'.heap L ∧ FrameEnd U o U' L room_1.cells room_1.slots) := by
  refine MetFree.of_bodySF (plainFor_of_name pn_0) hisR ?_
  intro p e s m args below meth c s₁ Bd hml0 hP hK
  obtain ⟨rfl, hZ, hh⟩ := hP
  have hx := Bd.exec
  have hby := Bd.bytes
  have hml : c.maxLocals = 28 := hml0
  have hown : s.vm.findClass "com/example/fenceline/fenceline/model/RelationIntersectsPinLaw" = some m.cls := findClass_of_methodNamed Bd.named
  have hnm := (name_of_methodNamed Bd.named Bd.method).1
  have X0 : Stand p l e room_1 s m #[(.int p1), (.long q2), (.long q3), (.int p4)] below meth c s₁ [] 0 0 := Stand.of_body Bd
  have e0 : s₁.heap = h0 := by rw [← hh, Bd.state]; rfl
  have N0 := Fr.nil n0
  have pre0 : ∀ t, Steps p.tables e below (s₁.setTop (mkF m 0 #[.val (.int p1), .val (.long q2), .second, .val (.long q3), .second, .val (.int p4), .unset, .unset, .unset, .unset, .unset, .unset, .unset, .unset, .unset, .unset, .unset, .unset, .unset, .unset, .unset, .unset, .unset, .unset, .unset, .unset, .unset, .unset] [])) t → Steps p.tables e below (s₁.setTop (entryFrame m #[(.int p1), (.long q2), (.long q3), (.int p4)] maxLocals)) t := fun t k => castTop (ef_0 m p1 q2 q3 p4) k
  have K0 := Keep.refl h0 ([] : List Addr)
  obtain ⟨N, hN⟩ : ∃ z : Int32, z = ((1 : Int32) + (p1 &&& (127 : Int32))) := ⟨_, rfl⟩
  obtain ⟨_, _, ⟨T1, L1, k1, n1⟩, -, X1, ⟨Lc1, hQ1, l1, y1, z1⟩, st1⟩ := Jvm.LawKit.callS X0 hx (y := (⟨"com/example/fenceline/fenceline/model/RelationIntersectsPinLaw", "idx", "(JII)I"⟩ : MethodName)) hown (mvT hZ (hw _ (List.mem_of_getElem? (i := 0) rfl))) (mvT hZ (hw _ (List.mem_of_getElem? (i := 1) rfl))) (mvT hZ (hw _ (List.mem_of_getElem? (i := 2) rfl))) (mvT hZ (hw _ (List.mem_of_getElem? (i := 3) rfl))) (by decide) (backOf (W := 0) (rm1 l Z a0 hw [] q2 (0 : Int32) N h0 n0 Z0 (own_Nz hN)) hZ (hw _ (List.mem_of_getElem? (i := 3) rfl)) (hw _ (List.mem_of_getElem? (i := 2) rfl)) (by decide) (by decide)) (g := (mkF m 12 #[.val (.int p1), .val (.long q2), .second, .val (.long q3), .second, .val (.int p4), .val (.int N), .unset, .unset, .unset, .unset, .unset, .unset, .unset, .unset, .unset, .unset, .unset, .unset, .unset, .unset, .unset, .unset, .unset, .unset, .unset, .unset, .unset] [(.int N), (.int (0 : Int32)), (.long q2)])) rfl (by rw [hml]; rfl) (argsL := [(.long q2), (.int (0 : Int32)), (.int N)]) (rest := []) (lenOf pd_0 rfl) rfl (by show 2 * 0 + _ ≤ _; exact Nat.le_of_eq rfl) (hb hby at_12) (fun _ _ => ⟨rfl, e0, (by decide : 0 + 0 ≤ _), (by decide : 0 + 0 ≤ _)⟩)
  dsimp only [Pt.U, Pt.locs, Pt.cells, Pt.slots] at X1 l1 y1 z1 st1 hQ1
  subst l1 y1 z1
  obtain ⟨rfl, N1q, e1⟩ := hQ1
  have N1 := Fr.app N0 N1q
  obtain ⟨A1F, hA1F⟩ : ∃ z : Int32, z = (f1 q2 (0 : Int32) N) := ⟨_, rfl⟩
  obtain ⟨_, _, ⟨T2, L2, k2, n2⟩, -, X2, ⟨Lc2, hQ2, l2, y2, z2⟩, st2⟩ := Jvm.LawKit.callS X1 hx (y := (⟨"com/example/fenceline/fenceline/model/RelationIntersectsPinLaw", "idx", "(JII)I"⟩ : MethodName)) hown (mvT hZ (hw _ (List.mem_of_getElem? (i := 0) rfl))) (mvT hZ (hw _ (List.mem_of_getElem? (i := 1) rfl))) (mvT hZ (hw _ (List.mem_of_getElem? (i := 2) rfl))) (mvT hZ (hw _ (List.mem_of_getElem? (i := 3) rfl))) (by decide) (backOf (W := 0) (rm1 l Z a0 hw [] q2 (8 : Int32) N h0 n0 Z0 (own_Nz hN)) hZ (hw _ (List.mem_of_getElem? (i := 3) rfl)) (hw _ (List.mem_of_getElem? (i := 2) rfl)) (by decide) (by decide)) (g := (mkF m 22 #[.val (.int p1), .val (.long q2), .second, .val (.long q3), .second, .val (.int p4), .val (.int N), .val (.int A1F), .unset, .unset, .unset, .unset, .unset, .unset, .unset, .unset, .unset, .unset, .unset, .unset, .unset, .unset, .unset, .unset, .unset, .unset, .unset, .unset] [(.int N), (.int (8 : Int32)), (.long q2)])) rfl (by rw [hml]; rfl) (argsL := [(.long q2), (.int (8 : Int32)), (.int N)]) (rest := []) (lenOf pd_0 rfl) rfl (by show 2 * 0 + _ ≤ _; exact Nat.le_of_eq rfl) (hb hby at_22) (fun _ _ => ⟨rfl, e1, (by decide : 0 + 0 ≤ _), (by decide : 0 + 0 ≤ _)⟩)
  dsimp only [Pt.U, Pt.locs, Pt.cells, Pt.slots] at X2 l2 y2 z2 st2 hQ2
  subst l2 y2 z2
  obtain ⟨rfl, N2q, e2⟩ := hQ2
  have N2 := Fr.app N1 N2q
  obtain ⟨A1T, hA1T⟩ : ∃ z : Int32, z = (f1 q2 (8 : Int32) N) := ⟨_, rfl⟩
  obtain ⟨_, _, ⟨T3, L3, k3, n3⟩, -, X3, ⟨Lc3, hQ3, l3, y3, z3⟩, st3⟩ := Jvm.LawKit.callS X2 hx (y := (⟨"com/example/fenceline/fenceline/model/RelationIntersectsPinLaw", "idx", "(JII)I"⟩ : MethodName)) hown (mvT hZ (hw _ (List.mem_of_getElem? (i := 0) rfl))) (mvT hZ (hw _ (List.mem_of_getElem? (i := 1) rfl))) (mvT hZ (hw _ (List.mem_of_getElem? (i := 2) rfl))) (mvT hZ (hw _ (List.mem_of_getElem? (i := 3) rfl))) (by decide) (backOf (W := 0) (rm1 l Z a0 hw [] q2 (16 : Int32) N h0 n0 Z0 (own_Nz hN)) hZ (hw _ (List.mem_of_getElem? (i := 3) rfl)) (hw _ (List.mem_of_getElem? (i := 2) rfl)) (by decide) (by decide)) (g := (mkF m 32 #[.val (.int p1), .val (.long q2), .second, .val (.long q3), .second, .val (.int p4), .val (.int N), .val (.int A1F), .val (.int A1T), .unset, .unset, .unset, .unset, .unset, .unset, .unset, .unset, .unset, .unset, .unset, .unset, .unset, .unset, .unset, .unset, .unset, .unset, .unset] [(.int N), (.int (16 : Int32)), (.long q2)])) rfl (by rw [hml]; rfl) (argsL := [(.long q2), (.int (16 : Int32)), (.int N)]) (rest := []) (lenOf pd_0 rfl) rfl (by show 2 * 0 + _ ≤ _; exact Nat.le_of_eq rfl) (hb hby at_32) (fun _ _ => ⟨rfl, e2, (by decide : 0 + 0 ≤ _), (by decide : 0 + 0 ≤ _)⟩)
  dsimp only [Pt.U, Pt.locs, Pt.cells, Pt.slots] at X3 l3 y3 z3 st3 hQ3
  subst l3 y3 z3
  obtain ⟨rfl, N3q, e3⟩ := hQ3
  have N3 := Fr.app N2 N3q
  obtain ⟨A2F, hA2F⟩ : ∃ z : Int32, z = (f1 q2 (16 : Int32) N) := ⟨_, rfl⟩
  obtain ⟨_, _, ⟨T4, L4, k4, n4⟩, -, X4, ⟨Lc4, hQ4, l4, y4, z4⟩, st4⟩ := Jvm.LawKit.callS X3 hx (y := (⟨"com/example/fenceline/fenceline/model/RelationIntersectsPinLaw", "idx", "(JII)I"⟩ : MethodName)) hown (mvT hZ (hw _ (List.mem_of_getElem? (i := 0) rfl))) (mvT hZ (hw _ (List.mem_of_getElem? (i := 1) rfl))) (mvT hZ (hw _ (List.mem_of_getElem? (i := 2) rfl))) (mvT hZ (hw _ (List.mem_of_getElem? (i := 3) rfl))) (by decide) (backOf (W := 0) (rm1 l Z a0 hw [] q2 (24 : Int32) N h0 n0 Z0 (own_Nz hN)) hZ (hw _ (List.mem_of_getElem? (i := 3) rfl)) (hw _ (List.mem_of_getElem? (i := 2) rfl)) (by decide) (by decide)) (g := (mkF m 42 #[.val (.int p1), .val (.long q2), .second, .val (.long q3), .second, .val (.int p4), .val (.int N), .val (.int A1F), .val (.int A1T), .val (.int A2F), .unset, .unset, .unset, .unset, .unset, .unset, .unset, .unset, .unset, .unset, .unset, .unset, .unset, .unset, .unset, .unset, .unset, .unset] [(.int N), (.int (24 : Int32)), (.long q2)])) rfl (by rw [hml]; rfl) (argsL := [(.long q2), (.int (24 : Int32)), (.int N)]) (rest := []) (lenOf pd_0 rfl) rfl (by show 2 * 0 + _ ≤ _; exact Nat.le_of_eq rfl) (hb hby at_42) (fun _ _ => ⟨rfl, e3, (by decide : 0 + 0 ≤ _), (by decide : 0 + 0 ≤ _)⟩)
  dsimp only [Pt.U, Pt.locs, Pt.cells, Pt.slots] at X4 l4 y4 z4 st4 hQ4
  subst l4 y4 z4
  obtain ⟨rfl, N4q, e4⟩ := hQ4
  have N4 := Fr.app N3 N4q
  obtain ⟨A2T, hA2T⟩ : ∃ z : Int32, z = (f1 q2 (24 : Int32) N) := ⟨_, rfl⟩
  obtain ⟨_, _, ⟨T5, L5, k5, n5⟩, -, X5, ⟨Lc5, hQ5, l5, y5, z5⟩, st5⟩ := Jvm.LawKit.callS X4 hx (y := (⟨"com/example/fenceline/fenceline/model/RelationIntersectsPinLaw", "idx", "(JII)I"⟩ : MethodName)) hown (mvT hZ (hw _ (List.mem_of_getElem? (i := 0) rfl))) (mvT hZ (hw _ (List.mem_of_getElem? (i := 1) rfl))) (mvT hZ (hw _ (List.mem_of_getElem? (i := 2) rfl))) (mvT hZ (hw _ (List.mem_of_getElem? (i := 3) rfl))) (by decide) (backOf (W := 0) (rm1 l Z a0 hw [] q3 (0 : Int32) N h0 n0 Z0 (own_Nz hN)) hZ (hw _ (List.mem_of_getElem? (i := 3) rfl)) (hw _ (List.mem_of_getElem? (i := 2) rfl)) (by decide) (by decide)) (g := (mkF m 51 #[.val (.int p1), .val (.long q2), .second, .val (.long q3), .second, .val (.int p4), .val (.int N), .val (.int A1F), .val (.int A1T), .val (.int A2F), .val (.int A2T), .unset, .unset, .unset, .unset, .unset, .unset, .unset, .unset, .unset, .unset, .unset, .unset, .unset, .unset, .unset, .unset, .unset] [(.int N), (.int (0 : Int32)), (.long q3)])) rfl (by rw [hml]; rfl) (argsL := [(.long q3), (.int (0 : Int32)), (.int N)]) (rest := []) (lenOf pd_0 rfl) rfl (by show 2 * 0 + _ ≤ _; exact Nat.le_of_eq rfl) (hb hby at_51) (fun _ _ => ⟨rfl, e4, (by decide : 0 + 0 ≤ _), (by decide : 0 + 0 ≤ _)⟩)
  dsimp only [Pt.U, Pt.locs, Pt.cells, Pt.slots] at X5 l5 y5 z5 st5 hQ5
  subst l5 y5 z5
  obtain ⟨rfl, N5q, e5⟩ := hQ5
  have N5 := Fr.app N4 N5q
  obtain ⟨C1F, hC1F⟩ : ∃ z : Int32, z = (f1 q3 (0 : Int32) N) := ⟨_, rfl⟩
  obtain ⟨_, _, ⟨T6, L6, k6, n6⟩, -, X6, ⟨Lc6, hQ6, l6, y6, z6⟩, st6⟩ := Jvm.LawKit.callS X5 hx (y := (⟨"com/example/fenceline/fenceline/model/RelationIntersectsPinLaw", "idx", "(JII)I"⟩ : MethodName)) hown (mvT hZ (hw _ (List.mem_of_getElem? (i := 0) rfl))) (mvT hZ (hw _ (List.mem_of_getElem? (i := 1) rfl))) (mvT hZ (hw _ (List.mem_of_getElem? (i := 2) rfl))) (mvT hZ (hw _ (List.mem_of_getElem? (i := 3) rfl))) (by decide) (backOf (W := 0) (rm1 l Z a0 hw [] q3 (8 : Int32) N h0 n0 Z0 (own_Nz hN)) hZ (hw _ (List.mem_of_getElem? (i := 3) rfl)) (hw _ (List.mem_of_getElem? (i := 2) rfl)) (by decide) (by decide)) (g := (mkF m 61 #[.val (.int p1), .val (.long q2), .second, .val (.long q3), .second, .val (.int p4), .val (.int N), .val (.int A1F), .val (.int A1T), .val (.int A2F), .val (.int A2T), .val (.int C1F), .unset, .unset, .unset, .unset, .unset, .unset, .unset, .unset, .unset, .unset, .unset, .unset, .unset, .unset, .unset, .unset] [(.int N), (.int (8 : Int32)), (.long q3)])) rfl (by rw [hml]; rfl) (argsL := [(.long q3), (.int (8 : Int32)), (.int N)]) (rest := []) (lenOf pd_0 rfl) rfl (by show 2 * 0 + _ ≤ _; exact Nat.le_of_eq rfl) (hb hby at_61) (fun _ _ => ⟨rfl, e5, (by decide : 0 + 0 ≤ _), (by decide : 0 + 0 ≤ _)⟩)
  dsimp only [Pt.U, Pt.locs, Pt.cells, Pt.slots] at X6 l6 y6 z6 st6 hQ6
  subst l6 y6 z6
  obtain ⟨rfl, N6q, e6⟩ := hQ6
  have N6 := Fr.app N5 N6q
  obtain ⟨C1T, hC1T⟩ : ∃ z : Int32, z = (f1 q3 (8 : Int32) N) := ⟨_, rfl⟩
  obtain ⟨_, _, ⟨T7, L7, k7, n7⟩, -, X7, ⟨Lc7, hQ7, l7, y7, z7⟩, st7⟩ := Jvm.LawKit.callS X6 hx (y := (⟨"com/example/fenceline/fenceline/model/RelationIntersectsPinLaw", "idx", "(JII)I"⟩ : MethodName)) hown (mvT hZ (hw _ (List.mem_of_getElem? (i := 0) rfl))) (mvT hZ (hw _ (List.mem_of_getElem? (i := 1) rfl))) (mvT hZ (hw _ (List.mem_of_getElem? (i := 2) rfl))) (mvT hZ (hw _ (List.mem_of_getElem? (i := 3) rfl))) (by decide) (backOf (W := 0) (rm1 l Z a0 hw [] q3 (16 : Int32) N h0 n0 Z0 (own_Nz hN)) hZ (hw _ (List.mem_of_getElem? (i := 3) rfl)) (hw _ (List.mem_of_getElem? (i := 2) rfl)) (by decide) (by decide)) (g := (mkF m 71 #[.val (.int p1), .val (.long q2), .second, .val (.long q3), .second, .val (.int p4), .val (.int N), .val (.int A1F), .val (.int A1T), .val (.int A2F), .val (.int A2T), .val (.int C1F), .val (.int C1T), .unset, .unset, .unset, .unset, .unset, .unset, .unset, .unset, .unset, .unset, .unset, .unset, .unset, .unset, .unset] [(.int N), (.int (16 : Int32)), (.long q3)])) rfl (by rw [hml]; rfl) (argsL := [(.long q3), (.int (16 : Int32)), (.int N)]) (rest := []) (lenOf pd_0 rfl) rfl (by show 2 * 0 + _ ≤ _; exact Nat.le_of_eq rfl) (hb hby at_71) (fun _ _ => ⟨rfl, e6, (by decide : 0 + 0 ≤ _), (by decide : 0 + 0 ≤ _)⟩)
  dsimp only [Pt.U, Pt.locs, Pt.cells, Pt.slots] at X7 l7 y7 z7 st7 hQ7
  subst l7 y7 z7
  obtain ⟨rfl, N7q, e7⟩ := hQ7
  have N7 := Fr.app N6 N7q
  obtain ⟨C2F, hC2F⟩ : ∃ z : Int32, z = (f1 q3 (16 : Int32) N) := ⟨_, rfl⟩
  obtain ⟨_, _, ⟨T8, L8, k8, n8⟩, -, X8, ⟨Lc8, hQ8, l8, y8, z8⟩, st8⟩ := Jvm.LawKit.callS X7 hx (y := (⟨"com/example/fenceline/fenceline/model/RelationIntersectsPinLaw", "idx", "(JII)I"⟩ : MethodName)) hown (mvT hZ (hw _ (List.mem_of_getElem? (i := 0) rfl))) (mvT hZ (hw _ (List.mem_of_getElem? (i := 1) rfl))) (mvT hZ (hw _ (List.mem_of_getElem? (i := 2) rfl))) (mvT hZ (hw _ (List.mem_of_getElem? (i := 3) rfl))) (by decide) (backOf (W := 0) (rm1 l Z a0 hw [] q3 (24 : Int32) N h0 n0 Z0 (own_Nz hN)) hZ (hw _ (List.mem_of_getElem? (i := 3) rfl)) (hw _ (List.mem_of_getElem? (i := 2) rfl)) (by decide) (by decide)) (g := (mkF m 81 #[.val (.int p1), .val (.long q2), .second, .val (.long q3), .second, .val (.int p4), .val (.int N), .val (.int A1F), .val (.int A1T), .val (.int A2F), .val (.int A2T), .val (.int C1F), .val (.int C1T), .val (.int C2F), .unset, .unset, .unset, .unset, .unset, .unset, .unset, .unset, .unset, .unset, .unset, .unset, .unset, .unset] [(.int N), (.int (24 : Int32)), (.long q3)])) rfl (by rw [hml]; rfl) (argsL := [(.long q3), (.int (24 : Int32)), (.int N)]) (rest := []) (lenOf pd_0 rfl) rfl (by show 2 * 0 + _ ≤ _; exact Nat.le_of_eq rfl) (hb hby at_81) (fun _ _ => ⟨rfl, e7, (by decide : 0 + 0 ≤ _), (by decide : 0 + 0 ≤ _)⟩)
  dsimp only [Pt.U, Pt.locs, Pt.cells, Pt.slots] at X8 l8 y8 z8 st8 hQ8
  subst l8 y8 z8
  obtain ⟨rfl, N8q, e8⟩ := hQ8
  have N8 := Fr.app N7 N8q
  obtain ⟨C2T, hC2T⟩ : ∃ z : Int32, z = (f1 q3 (24 : Int32) N) := ⟨_, rfl⟩
  obtain ⟨v10, hv10⟩ : ∃ z : Int32, z = (if (p4 &&& (1 : Int32)) = (0 : Int32) then (0 : Int32) else (1 : Int32)) := ⟨_, rfl⟩
  have pre11 : ∀ t, Steps p.tables e below (T8.setTop (mkF m 98 #[.val (.int p1), .val (.long q2), .second, .val (.long q3), .second, .val (.int p4), .val (.int N), .val (.int A1F), .val (.int A1T), .val (.int A2F), .val (.int A2T), .val (.int C1F), .val (.int C1T), .val (.int C2F), .val (.int C2T), .unset, .unset, .unset, .unset, .unset, .unset, .unset, .unset, .unset, .unset, .unset, .unset, .unset] [(.int v10)])) t → Steps p.tables e below (s₁.setTop (entryFrame m #[(.int p1), (.long q2), (.long q3), (.int p4)] maxLocals)) t := fun t k => pre0 t (by
    show Steps p.tables e below (s₁.setTop (mkF m 0 #[.val (.int p1), .val (.long q2), .second, .val (.long q3), .second, .val (.int p4), .unset, .unset, .unset, .unset, .unset, .unset, .unset, .unset, .unset, .unset, .unset, .unset, .unset, .unset, .unset, .unset, .unset, .unset, .unset, .unset, .unset, .unset] [])) _
    refine XS.iconst X0.here hx rfl (hb hby at_0) ?_
    show Steps p.tables e below (s₁.setTop (mkF m 1 #[.val (.int p1), .val (.long q2), .second, .val (.long q3), .second, .val (.int p4), .unset, .unset, .unset, .unset, .unset, .unset, .unset, .unset, .unset, .unset, .unset, .unset, .unset, .unset, .unset, .unset, .unset, .unset, .unset, .unset, .unset, .unset] [(.int (1 : Int32))])) _
    refine XS.iloadN X0.here hx rfl (hb hby at_1) rfl ?_
    show Steps p.tables e below (s₁.setTop (mkF m 2 #[.val (.int p1), .val (.long q2), .second, .val (.long q3), .second, .val (.int p4), .unset, .unset, .unset, .unset, .unset, .unset, .unset, .unset, .unset, .unset, .unset, .unset, .unset, .unset, .unset, .unset, .unset, .unset, .unset, .unset, .unset, .unset] [(.int p1), (.int (1 : Int32))])) _
    refine XS.bipush X0.here hx rfl (hb hby at_2) ?_
    show Steps p.tables e below (s₁.setTop (mkF m 4 #[.val (.int p1), .val (.long q2), .second, .val (.long q3), .second, .val (.int p4), .unset, .unset, .unset, .unset, .unset, .unset, .unset, .unset, .unset, .unset, .unset, .unset, .unset, .unset, .unset, .unset, .unset, .unset, .unset, .unset, .unset, .unset] [(.int (127 : Int32)), (.int p1), (.int (1 : Int32))])) _
    refine XS.iand X0.here hx rfl (hb hby at_4) rfl ?_
    show Steps p.tables e below (s₁.setTop (mkF m 5 #[.val (.int p1), .val (.long q2), .second, .val (.long q3), .second, .val (.int p4), .unset, .unset, .unset, .unset, .unset, .unset, .unset, .unset, .unset, .unset, .unset, .unset, .unset, .unset, .unset, .unset, .unset, .unset, .unset, .unset, .unset, .unset] [(.int (p1 &&& (127 : Int32))), (.int (1 : Int32))])) _
    refine XS.iadd X0.here hx rfl (hb hby at_5) rfl ?_
    show Steps p.tables e below (s₁.setTop (mkF m 6 #[.val (.int p1), .val (.long q2), .second, .val (.long q3), .second, .val (.int p4), .unset, .unset, .unset, .unset, .unset, .unset, .unset, .unset, .unset, .unset, .unset, .unset, .unset, .unset, .unset, .unset, .unset, .unset, .unset, .unset, .unset, .unset] [(.int ((1 : Int32) + (p1 &&& (127 : Int32))))])) _
    rw [← hN]
    show Steps p.tables e below (s₁.setTop (mkF m 6 #[.val (.int p1), .val (.long q2), .second, .val (.long q3), .second, .val (.int p4), .unset, .unset, .unset, .unset, .unset, .unset, .unset, .unset, .unset, .unset, .unset, .unset, .unset, .unset, .unset, .unset, .unset, .unset, .unset, .unset, .unset, .unset] [(.int N)])) _
    refine XS.istore X0.here hx rfl (hb hby at_6) rfl (l' := #[.val (.int p1), .val (.long q2), .second, .val (.long q3), .second, .val (.int p4), .val (.int N), .unset, .unset, .unset, .unset, .unset, .unset, .unset, .unset, .unset, .unset, .unset, .unset, .unset, .unset, .unset, .unset, .unset, .unset, .unset, .unset, .unset]) rfl ?_
    show Steps p.tables e below (s₁.setTop (mkF m 8 #[.val (.int p1), .val (.long q2), .second, .val (.long q3), .second, .val (.int p4), .val (.int N), .unset, .unset, .unset, .unset, .unset, .unset, .unset, .unset, .unset, .unset, .unset, .unset, .unset, .unset, .unset, .unset, .unset, .unset, .unset, .unset, .unset] [])) _
    refine XS.lloadN X0.here hx rfl (hb hby at_8) rfl ?_
    show Steps p.tables e below (s₁.setTop (mkF m 9 #[.val (.int p1), .val (.long q2), .second, .val (.long q3), .second, .val (.int p4), .val (.int N), .unset, .unset, .unset, .unset, .unset, .unset, .unset, .unset, .unset, .unset, .unset, .unset, .unset, .unset, .unset, .unset, .unset, .unset, .unset, .unset, .unset] [(.long q2)])) _
    refine XS.iconst X0.here hx rfl (hb hby at_9) ?_
    show Steps p.tables e below (s₁.setTop (mkF m 10 #[.val (.int p1), .val (.long q2), .second, .val (.long q3), .second, .val (.int p4), .val (.int N), .unset, .unset, .unset, .unset, .unset, .unset, .unset, .unset, .unset, .unset, .unset, .unset, .unset, .unset, .unset, .unset, .unset, .unset, .unset, .unset, .unset] [(.int (0 : Int32)), (.long q2)])) _
    refine XS.iload X0.here hx rfl (hb hby at_10) rfl ?_
    show Steps p.tables e below (s₁.setTop (mkF m 12 #[.val (.int p1), .val (.long q2), .second, .val (.long q3), .second, .val (.int p4), .val (.int N), .unset, .unset, .unset, .unset, .unset, .unset, .unset, .unset, .unset, .unset, .unset, .unset, .unset, .unset, .unset, .unset, .unset, .unset, .unset, .unset, .unset] [(.int N), (.int (0 : Int32)), (.long q2)])) _
    refine st1 _ ?_
    show Steps p.tables e below (T1.setTop (mkF m 15 #[.val (.int p1), .val (.long q2), .second, .val (.long q3), .second, .val (.int p4), .val (.int N), .unset, .unset, .unset, .unset, .unset, .unset, .unset, .unset, .unset, .unset, .unset, .unset, .unset, .unset, .unset, .unset, .unset, .unset, .unset, .unset, .unset] [(.int (f1 q2 (0 : Int32) N))])) _
    rw [← hA1F]
    show Steps p.tables e below (T1.setTop (mkF m 15 #[.val (.int p1), .val (.long q2), .second, .val (.long q3), .second, .val (.int p4), .val (.int N), .unset, .unset, .unset, .unset, .unset, .unset, .unset, .unset, .unset, .unset, .unset, .unset, .unset, .unset, .unset, .unset, .unset, .unset, .unset, .unset, .unset] [(.int A1F)])) _
    refine XS.istore X1.here hx rfl (hb hby at_15) rfl (l' := #[.val (.int p1), .val (.long q2), .second, .val (.long q3), .second, .val (.int p4), .val (.int N), .val (.int A1F), .unset, .unset, .unset, .unset, .unset, .unset, .unset, .unset, .unset, .unset, .unset, .unset, .unset, .unset, .unset, .unset, .unset, .unset, .unset, .unset]) rfl ?_
    show Steps p.tables e below (T1.setTop (mkF m 17 #[.val (.int p1), .val (.long q2), .second, .val (.long q3), .second, .val (.int p4), .val (.int N), .val (.int A1F), .unset, .unset, .unset, .unset, .unset, .unset, .unset, .unset, .unset, .unset, .unset, .unset, .unset, .unset, .unset, .unset, .unset, .unset, .unset, .unset] [])) _
    refine XS.lloadN X1.here hx rfl (hb hby at_17) rfl ?_
    show Steps p.tables e below (T1.setTop (mkF m 18 #[.val (.int p1), .val (.long q2), .second, .val (.long q3), .second, .val (.int p4), .val (.int N), .val (.int A1F), .unset, .unset, .unset, .unset, .unset, .unset, .unset, .unset, .unset, .unset, .unset, .unset, .unset, .unset, .unset, .unset, .unset, .unset, .unset, .unset] [(.long q2)])) _
    refine XS.bipush X1.here hx rfl (hb hby at_18) ?_
    show Steps p.tables e below (T1.setTop (mkF m 20 #[.val (.int p1), .val (.long q2), .second, .val (.long q3), .second, .val (.int p4), .val (.int N), .val (.int A1F), .unset, .unset, .unset, .unset, .unset, .unset, .unset, .unset, .unset, .unset, .unset, .unset, .unset, .unset, .unset, .unset, .unset, .unset, .unset, .unset] [(.int (8 : Int32)), (.long q2)])) _
    refine XS.iload X1.here hx rfl (hb hby at_20) rfl ?_
    show Steps p.tables e below (T1.setTop (mkF m 22 #[.val (.int p1), .val (.long q2), .second, .val (.long q3), .second, .val (.int p4), .val (.int N), .val (.int A1F), .unset, .unset, .unset, .unset, .unset, .unset, .unset, .unset, .unset, .unset, .unset, .unset, .unset, .unset, .unset, .unset, .unset, .unset, .unset, .unset] [(.int N), (.int (8 : Int32)), (.long q2)])) _
    refine st2 _ ?_
    show Steps p.tables e below (T2.setTop (mkF m 25 #[.val (.int p1), .val (.long q2), .second, .val (.long q3), .second, .val (.int p4), .val (.int N), .val (.int A1F), .unset, .unset, .unset, .unset, .unset, .unset, .unset, .unset, .unset, .unset, .unset, .unset, .unset, .unset, .unset, .unset, .unset, .unset, .unset, .unset] [(.int (f1 q2 (8 : Int32) N))])) _
    rw [← hA1T]
    show Steps p.tables e below (T2.setTop (mkF m 25 #[.val (.int p1), .val (.long q2), .second, .val (.long q3), .second, .val (.int p4), .val (.int N), .val (.int A1F), .unset, .unset, .unset, .unset, .unset, .unset, .unset, .unset, .unset, .unset, .unset, .unset, .unset, .unset, .unset, .unset, .unset, .unset, .unset, .unset] [(.int A1T)])) _
    refine XS.istore X2.here hx rfl (hb hby at_25) rfl (l' := #[.val (.int p1), .val (.long q2), .second, .val (.long q3), .second, .val (.int p4), .val (.int N), .val (.int A1F), .val (.int A1T), .unset, .unset, .unset, .unset, .unset, .unset, .unset, .unset, .unset, .unset, .unset, .unset, .unset, .unset, .unset, .unset, .unset, .unset, .unset]) rfl ?_
    show Steps p.tables e below (T2.setTop (mkF m 27 #[.val (.int p1), .val (.long q2), .second, .val (.long q3), .second, .val (.int p4), .val (.int N), .val (.int A1F), .val (.int A1T), .unset, .unset, .unset, .unset, .unset, .unset, .unset, .unset, .unset, .unset, .unset, .unset, .unset, .unset, .unset, .unset, .unset, .unset, .unset] [])) _
    refine XS.lloadN X2.here hx rfl (hb hby at_27) rfl ?_
    show Steps p.tables e below (T2.setTop (mkF m 28 #[.val (.int p1), .val (.long q2), .second, .val (.long q3), .second, .val (.int p4), .val (.int N), .val (.int A1F), .val (.int A1T), .unset, .unset, .unset, .unset, .unset, .unset, .unset, .unset, .unset, .unset, .unset, .unset, .unset, .unset, .unset, .unset, .unset, .unset, .unset] [(.long q2)])) _
    refine XS.bipush X2.here hx rfl (hb hby at_28) ?_
    show Steps p.tables e below (T2.setTop (mkF m 30 #[.val (.int p1), .val (.long q2), .second, .val (.long q3), .second, .val (.int p4), .val (.int N), .val (.int A1F), .val (.int A1T), .unset, .unset, .unset, .unset, .unset, .unset, .unset, .unset, .unset, .unset, .unset, .unset, .unset, .unset, .unset, .unset, .unset, .unset, .unset] [(.int (16 : Int32)), (.long q2)])) _
    refine XS.iload X2.here hx rfl (hb hby at_30) rfl ?_
    show Steps p.tables e below (T2.setTop (mkF m 32 #[.val (.int p1), .val (.long q2), .second, .val (.long q3), .second, .val (.int p4), .val (.int N), .val (.int A1F), .val (.int A1T), .unset, .unset, .unset, .unset, .unset, .unset, .unset, .unset, .unset, .unset, .unset, .unset, .unset, .unset, .unset, .unset, .unset, .unset, .unset] [(.int N), (.int (16 : Int32)), (.long q2)])) _
    refine st3 _ ?_
    show Steps p.tables e below (T3.setTop (mkF m 35 #[.val (.int p1), .val (.long q2), .second, .val (.long q3), .second, .val (.int p4), .val (.int N), .val (.int A1F), .val (.int A1T), .unset, .unset, .unset, .unset, .unset, .unset, .unset, .unset, .unset, .unset, .unset, .unset, .unset, .unset, .unset, .unset, .unset, .unset, .unset] [(.int (f1 q2 (16 : Int32) N))])) _
    rw [← hA2F]
    show Steps p.tables e below (T3.setTop (mkF m 35 #[.val (.int p1), .val (.long q2), .second, .val (.long q3), .second, .val (.int p4), .val (.int N), .val (.int A1F), .val (.int A1T), .unset, .unset, .unset, .unset, .unset, .unset, .unset, .unset, .unset, .unset, .unset, .unset, .unset, .unset, .unset, .unset, .unset, .unset, .unset] [(.int A2F)])) _
    refine XS.istore X3.here hx rfl (hb hby at_35) rfl (l' := #[.val (.int p1), .val (.long q2), .second, .val (.long q3), .second, .val (.int p4), .val (.int N), .val (.int A1F), .val (.int A1T), .val (.int A2F), .unset, .unset, .unset, .unset, .unset, .unset, .unset, .unset, .unset, .unset, .unset, .unset, .unset, .unset, .unset, .unset, .unset, .unset]) rfl ?_
    show Steps p.tables e below (T3.setTop (mkF m 37 #[.val (.int p1), .val (.long q2), .second, .val (.long q3), .second, .val (.int p4), .val (.int N), .val (.int A1F), .val (.int A1T), .val (.int A2F), .unset, .unset, .unset, .unset, .unset, .unset, .unset, .unset, .unset, .unset, .unset, .unset, .unset, .unset, .unset, .unset, .unset, .unset] [])) _
    refine XS.lloadN X3.here hx rfl (hb hby at_37) rfl ?_
    show Steps p.tables e below (T3.setTop (mkF m 38 #[.val (.int p1), .val (.long q2), .second, .val (.long q3), .second, .val (.int p4), .val (.int N), .val (.int A1F), .val (.int A1T), .val (.int A2F), .unset, .unset, .unset, .unset, .unset, .unset, .unset, .unset, .unset, .unset, .unset, .unset, .unset, .unset, .unset, .unset, .unset, .unset] [(.long q2)])) _
    refine XS.bipush X3.here hx rfl (hb hby at_38) ?_
    show Steps p.tables e below (T3.setTop (mkF m 40 #[.val (.int p1), .val (.long q2), .second, .val (.long q3), .second, .val (.int p4), .val (.int N), .val (.int A1F), .val (.int A1T), .val (.int A2F), .unset, .unset, .unset, .unset, .unset, .unset, .unset, .unset, .unset, .unset, .unset, .unset, .unset, .unset, .unset, .unset, .unset, .unset] [(.int (24 : Int32)), (.long q2)])) _
    refine XS.iload X3.here hx rfl (hb hby at_40) rfl ?_
    show Steps p.tables e below (T3.setTop (mkF m 42 #[.val (.int p1), .val (.long q2), .second, .val (.long q3), .second, .val (.int p4), .val (.int N), .val (.int A1F), .val (.int A1T), .val (.int A2F), .unset, .unset, .unset, .unset, .unset, .unset, .unset, .unset, .unset, .unset, .unset, .unset, .unset, .unset, .unset, .unset, .unset, .unset] [(.int N), (.int (24 : Int32)), (.long q2)])) _
    refine st4 _ ?_
    show Steps p.tables e below (T4.setTop (mkF m 45 #[.val (.int p1), .val (.long q2), .second, .val (.long q3), .second, .val (.int p4), .val (.int N), .val (.int A1F), .val (.int A1T), .val (.int A2F), .unset, .unset, .unset, .unset, .unset, .unset, .unset, .unset, .unset, .unset, .unset, .unset, .unset, .unset, .unset, .unset, .unset, .unset] [(.int (f1 q2 (24 : Int32) N))])) _
    rw [← hA2T]
    show Steps p.tables e below (T4.setTop (mkF m 45 #[.val (.int p1), .val (.long q2), .second, .val (.long q3), .second, .val (.int p4), .val (.int N), .val (.int A1F), .val (.int A1T), .val (.int A2F), .unset, .unset, .unset, .unset, .unset, .unset, .unset, .unset, .unset, .unset, .unset, .unset, .unset, .unset, .unset, .unset, .unset, .unset] [(.int A2T)])) _
    refine XS.istore X4.here hx rfl (hb hby at_45) rfl (l' := #[.val (.int p1), .val (.long q2), .second, .val (.long q3), .second, .val (.int p4), .val (.int N), .val (.int A1F), .val (.int A1T), .val (.int A2F), .val (.int A2T), .unset, .unset, .unset, .unset, .unset, .unset, .unset, .unset, .unset, .unset, .unset, .unset, .unset, .unset, .unset, .unset, .unset]) rfl ?_
    show Steps p.tables e below (T4.setTop (mkF m 47 #[.val (.int p1), .val (.long q2), .second, .val (.long q3), .second, .val (.int p4), .val (.int N), .val (.int A1F), .val (.int A1T), .val (.int A2F), .val (.int A2T), .unset, .unset, .unset, .unset, .unset, .unset, .unset, .unset, .unset, .unset, .unset, .unset, .unset, .unset, .unset, .unset, .unset] [])) _
    refine XS.lloadN X4.here hx rfl (hb hby at_47) rfl ?_
    show Steps p.tables e below (T4.setTop (mkF m 48 #[.val (.int p1), .val (.long q2), .second, .val (.long q3), .second, .val (.int p4), .val (.int N), .val (.int A1F), .val (.int A1T), .val (.int A2F), .val (.int A2T), .unset, .unset, .unset, .unset, .unset, .unset, .unset, .unset, .unset, .unset, .unset, .unset, .unset, .unset, .unset, .unset, .unset] [(.long q3)])) _
    refine XS.iconst X4.here hx rfl (hb hby at_48) ?_
    show Steps p.tables e below (T4.setTop (mkF m 49 #[.val (.int p1), .val (.long q2), .second, .val (.long q3), .second, .val (.int p4), .val (.int N), .val (.int A1F), .val (.int A1T), .val (.int A2F), .val (.int A2T), .unset, .unset, .unset, .unset, .unset, .unset, .unset, .unset, .unset, .unset, .unset, .unset, .unset, .unset, .unset, .unset, .unset] [(.int (0 : Int32)), (.long q3)])) _
    refine XS.iload X4.here hx rfl (hb hby at_49) rfl ?_
    show Steps p.tables e below (T4.setTop (mkF m 51 #[.val (.int p1), .val (.long q2), .second, .val (.long q3), .second, .val (.int p4), .val (.int N), .val (.int A1F), .val (.int A1T), .val (.int A2F), .val (.int A2T), .unset, .unset, .unset, .unset, .unset, .unset, .unset, .unset, .unset, .unset, .unset, .unset, .unset, .unset, .unset, .unset, .unset] [(.int N), (.int (0 : Int32)), (.long q3)])) _
    refine st5 _ ?_
    show Steps p.tables e below (T5.setTop (mkF m 54 #[.val (.int p1), .val (.long q2), .second, .val (.long q3), .second, .val (.int p4), .val (.int N), .val (.int A1F), .val (.int A1T), .val (.int A2F), .val (.int A2T), .unset, .unset, .unset, .unset, .unset, .unset, .unset, .unset, .unset, .unset, .unset, .unset, .unset, .unset, .unset, .unset, .unset] [(.int (f1 q3 (0 : Int32) N))])) _
    rw [← hC1F]
    show Steps p.tables e below (T5.setTop (mkF m 54 #[.val (.int p1), .val (.long q2), .second, .val (.long q3), .second, .val (.int p4), .val (.int N), .val (.int A1F), .val (.int A1T), .val (.int A2F), .val (.int A2T), .unset, .unset, .unset, .unset, .unset, .unset, .unset, .unset, .unset, .unset, .unset, .unset, .unset, .unset, .unset, .unset, .unset] [(.int C1F)])) _
    refine XS.istore X5.here hx rfl (hb hby at_54) rfl (l' := #[.val (.int p1), .val (.long q2), .second, .val (.long q3), .second, .val (.int p4), .val (.int N), .val (.int A1F), .val (.int A1T), .val (.int A2F), .val (.int A2T), .val (.int C1F), .unset, .unset, .unset, .unset, .unset, .unset, .unset, .unset, .unset, .unset, .unset, .unset, .unset, .unset, .unset, .unset]) rfl ?_
    show Steps p.tables e below (T5.setTop (mkF m 56 #[.val (.int p1), .val (.long q2), .second, .val (.long q3), .second, .val (.int p4), .val (.int N), .val (.int A1F), .val (.int A1T), .val (.int A2F), .val (.int A2T), .val (.int C1F), .unset, .unset, .unset, .unset, .unset, .unset, .unset, .unset, .unset, .unset, .unset, .unset, .unset, .unset, .unset, .unset] [])) _
    refine XS.lloadN X5.here hx rfl (hb hby at_56) rfl ?_
    show Steps p.tables e below (T5.setTop (mkF m 57 #[.val (.int p1), .val (.long q2), .second, .val (.long q3), .second, .val (.int p4), .val (.int N), .val (.int A1F), .val (.int A1T), .val (.int A2F), .val (.int A2T), .val (.int C1F), .unset, .unset, .unset, .unset, .unset, .unset, .unset, .unset, .unset, .unset, .unset, .unset, .unset, .unset, .unset, .unset] [(.long q3)])) _
    refine XS.bipush X5.here hx rfl (hb hby at_57) ?_
    show Steps p.tables e below (T5.setTop (mkF m 59 #[.val (.int p1), .val (.long q2), .second, .val (.long q3), .second, .val (.int p4), .val (.int N), .val (.int A1F), .val (.int A1T), .val (.int A2F), .val (.int A2T), .val (.int C1F), .unset, .unset, .unset, .unset, .unset, .unset, .unset, .unset, .unset, .unset, .unset, .unset, .unset, .unset, .unset, .unset] [(.int (8 : Int32)), (.long q3)])) _
    refine XS.iload X5.here hx rfl (hb hby at_59) rfl ?_
    show Steps p.tables e below (T5.setTop (mkF m 61 #[.val (.int p1), .val (.long q2), .second, .val (.long q3), .second, .val (.int p4), .val (.int N), .val (.int A1F), .val (.int A1T), .val (.int A2F), .val (.int A2T), .val (.int C1F), .unset, .unset, .unset, .unset, .unset, .unset, .unset, .unset, .unset, .unset, .unset, .unset, .unset, .unset, .unset, .unset] [(.int N), (.int (8 : Int32)), (.long q3)])) _
    refine st6 _ ?_
    show Steps p.tables e below (T6.setTop (mkF m 64 #[.val (.int p1), .val (.long q2), .second, .val (.long q3), .second, .val (.int p4), .val (.int N), .val (.int A1F), .val (.int A1T), .val (.int A2F), .val (.int A2T), .val (.int C1F), .unset, .unset, .unset, .unset, .unset, .unset, .unset, .unset, .unset, .unset, .unset, .unset, .unset, .unset, .unset, .unset] [(.int (f1 q3 (8 : Int32) N))])) _
    rw [← hC1T]
    show Steps p.tables e below (T6.setTop (mkF m 64 #[.val (.int p1), .val (.long q2), .second, .val (.long q3), .second, .val (.int p4), .val (.int N), .val (.int A1F), .val (.int A1T), .val (.int A2F), .val (.int A2T), .val (.int C1F), .unset, .unset, .unset, .unset, .unset, .unset, .unset, .unset, .unset, .unset, .unset, .unset, .unset, .unset, .unset, .unset] [(.int C1T)])) _
    refine XS.istore X6.here hx rfl (hb hby at_64) rfl (l' := #[.val (.int p1), .val (.long q2), .second, .val (.long q3), .second, .val (.int p4), .val (.int N), .val (.int A1F), .val (.int A1T), .val (.int A2F), .val (.int A2T), .val (.int C1F), .val (.int C1T), .unset, .unset, .unset, .unset, .unset, .unset, .unset, .unset, .unset, .unset, .unset, .unset, .unset, .unset, .unset]) rfl ?_
    show Steps p.tables e below (T6.setTop (mkF m 66 #[.val (.int p1), .val (.long q2), .second, .val (.long q3), .second, .val (.int p4), .val (.int N), .val (.int A1F), .val (.int A1T), .val (.int A2F), .val (.int A2T), .val (.int C1F), .val (.int C1T), .unset, .unset, .unset, .unset, .unset, .unset, .unset, .unset, .unset, .unset, .unset, .unset, .unset, .unset, .unset] [])) _
    refine XS.lloadN X6.here hx rfl (hb hby at_66) rfl ?_
    show Steps p.tables e below (T6.setTop (mkF m 67 #[.val (.int p1), .val (.long q2), .second, .val (.long q3), .second, .val (.int p4), .val (.int N), .val (.int A1F), .val (.int A1T), .val (.int A2F), .val (.int A2T), .val (.int C1F), .val (.int C1T), .unset, .unset, .unset, .unset, .unset, .unset, .unset, .unset, .unset, .unset, .unset, .unset, .unset, .unset, .unset] [(.long q3)])) _
    refine XS.bipush X6.here hx rfl (hb hby at_67) ?_
    show Steps p.tables e below (T6.setTop (mkF m 69 #[.val (.int p1), .val (.long q2), .second, .val (.long q3), .second, .val (.int p4), .val (.int N), .val (.int A1F), .val (.int A1T), .val (.int A2F), .val (.int A2T), .val (.int C1F), .val (.int C1T), .unset, .unset, .unset, .unset, .unset, .unset, .unset, .unset, .unset, .unset, .unset, .unset, .unset, .unset, .unset] [(.int (16 : Int32)), (.long q3)])) _
    refine XS.iload X6.here hx rfl (hb hby at_69) rfl ?_
    show Steps p.tables e below (T6.setTop (mkF m 71 #[.val (.int p1), .val (.long q2), .second, .val (.long q3), .second, .val (.int p4), .val (.int N), .val (.int A1F), .val (.int A1T), .val (.int A2F), .val (.int A2T), .val (.int C1F), .val (.int C1T), .unset, .unset, .unset, .unset, .unset, .unset, .unset, .unset, .unset, .unset, .unset, .unset, .unset, .unset, .unset] [(.int N), (.int (16 : Int32)), (.long q3)])) _
    refine st7 _ ?_
    show Steps p.tables e below (T7.setTop (mkF m 74 #[.val (.int p1), .val (.long q2), .second, .val (.long q3), .second, .val (.int p4), .val (.int N), .val (.int A1F), .val (.int A1T), .val (.int A2F), .val (.int A2T), .val (.int C1F), .val (.int C1T), .unset, .unset, .unset, .unset, .unset, .unset, .unset, .unset, .unset, .unset, .unset, .unset, .unset, .unset, .unset] [(.int (f1 q3 (16 : Int32) N))])) _
    rw [← hC2F]
    show Steps p.tables e below (T7.setTop (mkF m 74 #[.val (.int p1), .val (.long q2), .second, .val (.long q3), .second, .val (.int p4), .val (.int N), .val (.int A1F), .val (.int A1T), .val (.int A2F), .val (.int A2T), .val (.int C1F), .val (.int C1T), .unset, .unset, .unset, .unset, .unset, .unset, .unset, .unset, .unset, .unset, .unset, .unset, .unset, .unset, .unset] [(.int C2F)])) _
    refine XS.istore X7.here hx rfl (hb hby at_74) rfl (l' := #[.val (.int p1), .val (.long q2), .second, .val (.long q3), .second, .val (.int p4), .val (.int N), .val (.int A1F), .val (.int A1T), .val (.int A2F), .val (.int A2T), .val (.int C1F), .val (.int C1T), .val (.int C2F), .unset, .unset, .unset, .unset, .unset, .unset, .unset, .unset, .unset, .unset, .unset, .unset, .unset, .unset]) rfl ?_
    show Steps p.tables e below (T7.setTop (mkF m 76 #[.val (.int p1), .val (.long q2), .second, .val (.long q3), .second, .val (.int p4), .val (.int N), .val (.int A1F), .val (.int A1T), .val (.int A2F), .val (.int A2T), .val (.int C1F), .val (.int C1T), .val (.int C2F), .unset, .unset, .unset, .unset, .unset, .unset, .unset, .unset, .unset, .unset, .unset, .unset, .unset, .unset] [])) _
    refine XS.lloadN X7.here hx rfl (hb hby at_76) rfl ?_
    show Steps p.tables e below (T7.setTop (mkF m 77 #[.val (.int p1), .val (.long q2), .second, .val (.long q3), .second, .val (.int p4), .val (.int N), .val (.int A1F), .val (.int A1T), .val (.int A2F), .val (.int A2T), .val (.int C1F), .val (.int C1T), .val (.int C2F), .unset, .unset, .unset, .unset, .unset, .unset, .unset, .unset, .unset, .unset, .unset, .unset, .unset, .unset] [(.long q3)])) _
    refine XS.bipush X7.here hx rfl (hb hby at_77) ?_
    show Steps p.tables e below (T7.setTop (mkF m 79 #[.val (.int p1), .val (.long q2), .second, .val (.long q3), .second, .val (.int p4), .val (.int N), .val (.int A1F), .val (.int A1T), .val (.int A2F), .val (.int A2T), .val (.int C1F), .val (.int C1T), .val (.int C2F), .unset, .unset, .unset, .unset, .unset, .unset, .unset, .unset, .unset, .unset, .unset, .unset, .unset, .unset] [(.int (24 : Int32)), (.long q3)])) _
    refine XS.iload X7.here hx rfl (hb hby at_79) rfl ?_
    show Steps p.tables e below (T7.setTop (mkF m 81 #[.val (.int p1), .val (.long q2), .second, .val (.long q3), .second, .val (.int p4), .val (.int N), .val (.int A1F), .val (.int A1T), .val (.int A2F), .val (.int A2T), .val (.int C1F), .val (.int C1T), .val (.int C2F), .unset, .unset, .unset, .unset, .unset, .unset, .unset, .unset, .unset, .unset, .unset, .unset, .unset, .unset] [(.int N), (.int (24 : Int32)), (.long q3)])) _
    refine st8 _ ?_
    show Steps p.tables e below (T8.setTop (mkF m 84 #[.val (.int p1), .val (.long q2), .second, .val (.long q3), .second, .val (.int p4), .val (.int N), .val (.int A1F), .val (.int A1T), .val (.int A2F), .val (.int A2T), .val (.int C1F), .val (.int C1T), .val (.int C2F), .unset, .unset, .unset, .unset, .unset, .unset, .unset, .unset, .unset, .unset, .unset, .unset, .unset, .unset] [(.int (f1 q3 (24 : Int32) N))])) _
    rw [← hC2T]
    show Steps p.tables e below (T8.setTop (mkF m 84 #[.val (.int p1), .val (.long q2), .second, .val (.long q3), .second, .val (.int p4), .val (.int N), .val (.int A1F), .val (.int A1T), .val (.int A2F), .val (.int A2T), .val (.int C1F), .val (.int C1T), .val (.int C2F), .unset, .unset, .unset, .unset, .unset, .unset, .unset, .unset, .unset, .unset, .unset, .unset, .unset, .unset] [(.int C2T)])) _
    refine XS.istore X8.here hx rfl (hb hby at_84) rfl (l' := #[.val (.int p1), .val (.long q2), .second, .val (.long q3), .second, .val (.int p4), .val (.int N), .val (.int A1F), .val (.int A1T), .val (.int A2F), .val (.int A2T), .val (.int C1F), .val (.int C1T), .val (.int C2F), .val (.int C2T), .unset, .unset, .unset, .unset, .unset, .unset, .unset, .unset, .unset, .unset, .unset, .unset, .unset]) rfl ?_
    show Steps p.tables e below (T8.setTop (mkF m 86 #[.val (.int p1), .val (.long q2), .second, .val (.long q3), .second, .val (.int p4), .val (.int N), .val (.int A1F), .val (.int A1T), .val (.int A2F), .val (.int A2T), .val (.int C1F), .val (.int C1T), .val (.int C2F), .val (.int C2T), .unset, .unset, .unset, .unset, .unset, .unset, .unset, .unset, .unset, .unset, .unset, .unset, .unset] [])) _
    refine XS.iload X8.here hx rfl (hb hby at_86) rfl ?_
    show Steps p.tables e below (T8.setTop (mkF m 88 #[.val (.int p1), .val (.long q2), .second, .val (.long q3), .second, .val (.int p4), .val (.int N), .val (.int A1F), .val (.int A1T), .val (.int A2F), .val (.int A2T), .val (.int C1F), .val (.int C1T), .val (.int C2F), .val (.int C2T), .unset, .unset, .unset, .unset, .unset, .unset, .unset, .unset, .unset, .unset, .unset, .unset, .unset] [(.int p4)])) _
    refine XS.iconst X8.here hx rfl (hb hby at_88) ?_
    show Steps p.tables e below (T8.setTop (mkF m 89 #[.val (.int p1), .val (.long q2), .second, .val (.long q3), .second, .val (.int p4), .val (.int N), .val (.int A1F), .val (.int A1T), .val (.int A2F), .val (.int A2T), .val (.int C1F), .val (.int C1T), .val (.int C2F), .val (.int C2T), .unset, .unset, .unset, .unset, .unset, .unset, .unset, .unset, .unset, .unset, .unset, .unset, .unset] [(.int (1 : Int32)), (.int p4)])) _
    refine XS.iand X8.here hx rfl (hb hby at_89) rfl ?_
    show Steps p.tables e below (T8.setTop (mkF m 90 #[.val (.int p1), .val (.long q2), .second, .val (.long q3), .second, .val (.int p4), .val (.int N), .val (.int A1F), .val (.int A1T), .val (.int A2F), .val (.int A2T), .val (.int C1F), .val (.int C1T), .val (.int C2F), .val (.int C2T), .unset, .unset, .unset, .unset, .unset, .unset, .unset, .unset, .unset, .unset, .unset, .unset, .unset] [(.int (p4 &&& (1 : Int32)))])) _
    by_cases hc9 : (p4 &&& (1 : Int32)) = (0 : Int32)
    · refine XS.ifYes X8.here hx rfl (pc0 := 90) (pc' := 97) rfl (hb hby at_90) rfl ((if0 _ _).trans (teq hc9).1) (by decide) (by decide) ?_
      show Steps p.tables e below (T8.setTop (mkF m 97 #[.val (.int p1), .val (.long q2), .second, .val (.long q3), .second, .val (.int p4), .val (.int N), .val (.int A1F), .val (.int A1T), .val (.int A2F), .val (.int A2T), .val (.int C1F), .val (.int C1T), .val (.int C2F), .val (.int C2T), .unset, .unset, .unset, .unset, .unset, .unset, .unset, .unset, .unset, .unset, .unset, .unset, .unset] [])) _
      refine XS.iconst X8.here hx rfl (hb hby at_97) ?_
      rw [show v10 = (0 : Int32) from hv10.trans (if_pos hc9)] at k
      exact k
    · refine XS.ifNo X8.here hx rfl (hb hby at_90) rfl ((if0 _ _).trans (feq hc9).1) ?_
      show Steps p.tables e below (T8.setTop (mkF m 93 #[.val (.int p1), .val (.long q2), .second, .val (.long q3), .second, .val (.int p4), .val (.int N), .val (.int A1F), .val (.int A1T), .val (.int A2F), .val (.int A2T), .val (.int C1F), .val (.int C1T), .val (.int C2F), .val (.int C2T), .unset, .unset, .unset, .unset, .unset, .unset, .unset, .unset, .unset, .unset, .unset, .unset, .unset] [])) _
      refine XS.iconst X8.here hx rfl (hb hby at_93) ?_
      show Steps p.tables e below (T8.setTop (mkF m 94 #[.val (.int p1), .val (.long q2), .second, .val (.long q3), .second, .val (.int p4), .val (.int N), .val (.int A1F), .val (.int A1T), .val (.int A2F), .val (.int A2T), .val (.int C1F), .val (.int C1T), .val (.int C2F), .val (.int C2T), .unset, .unset, .unset, .unset, .unset, .unset, .unset, .unset, .unset, .unset, .unset, .unset, .unset] [(.int (1 : Int32))])) _
      refine XS.goto X8.here hx rfl (pc0 := 94) (pc' := 98) rfl (hb hby at_94) (by decide) (by decide) ?_
      rw [show v10 = (1 : Int32) from hv10.trans (if_neg hc9)] at k
      exact k)
  obtain ⟨v13, hv13⟩ : ∃ z : Int32, z = (if (p4 &&& (2 : Int32)) = (0 : Int32) then (0 : Int32) else (1 : Int32)) := ⟨_, rfl⟩
  have pre14 : ∀ t, Steps p.tables e below (T8.setTop (mkF m 112 #[.val (.int p1), .val (.long q2), .second, .val (.long q3), .second, .val (.int p4), .val (.int N), .val (.int A1F), .val (.int A1T), .val (.int A2F), .val (.int A2T), .val (.int C1F), .val (.int C1T), .val (.int C2F), .val (.int C2T), .val (.int v10), .unset, .unset, .unset, .unset, .unset, .unset, .unset, .unset, .unset, .unset, .unset, .unset] [(.int v13)])) t → Steps p.tables e below (s₁.setTop (entryFrame m #[(.int p1), (.long q2), (.long q3), (.int p4)] maxLocals)) t := fun t k => pre11 t (by
    show Steps p.tables e below (T8.setTop (mkF m 98 #[.val (.int p1), .val (.long q2), .second, .val (.long q3), .second, .val (.int p4), .val (.int N), .val (.int A1F), .val (.int A1T), .val (.int A2F), .val (.int A2T), .val (.int C1F), .val (.int C1T), .val (.int C2F), .val (.int C2T), .unset, .unset, .unset, .unset, .unset, .unset, .unset, .unset, .unset, .unset, .unset, .unset, .unset] [(.int v10)])) _
    refine XS.istore X8.here hx rfl (hb hby at_98) rfl (l' := #[.val (.int p1), .val (.long q2), .second, .val (.long q3), .second, .val (.int p4), .val (.int N), .val (.int A1F), .val (.int A1T), .val (.int A2F), .val (.int A2T), .val (.int C1F), .val (.int C1T), .val (.int C2F), .val (.int C2T), .val (.int v10), .unset, .unset, .unset, .unset, .unset, .unset, .unset, .unset, .unset, .unset, .unset, .unset]) rfl ?_
    show Steps p.tables e below (T8.setTop (mkF m 100 #[.val (.int p1), .val (.long q2), .second, .val (.long q3), .second, .val (.int p4), .val (.int N), .val (.int A1F), .val (.int A1T), .val (.int A2F), .val (.int A2T), .val (.int C1F), .val (.int C1T), .val (.int C2F), .val (.int C2T), .val (.int v10), .unset, .unset, .unset, .unset, .unset, .unset, .unset, .unset, .unset, .unset, .unset, .unset] [])) _
    refine XS.iload X8.here hx rfl (hb hby at_100) rfl ?_
    show Steps p.tables e below (T8.setTop (mkF m 102 #[.val (.int p1), .val (.long q2), .second, .val (.long q3), .second, .val (.int p4), .val (.int N), .val (.int A1F), .val (.int A1T), .val (.int A2F), .val (.int A2T), .val (.int C1F), .val (.int C1T), .val (.int C2F), .val (.int C2T), .val (.int v10), .unset, .unset, .unset, .unset, .unset, .unset, .unset, .unset, .unset, .unset, .unset, .unset] [(.int p4)])) _
    refine XS.iconst X8.here hx rfl (hb hby at_102) ?_
    show Steps p.tables e below (T8.setTop (mkF m 103 #[.val (.int p1), .val (.long q2), .second, .val (.long q3), .second, .val (.int p4), .val (.int N), .val (.int A1F), .val (.int A1T), .val (.int A2F), .val (.int A2T), .val (.int C1F), .val (.int C1T), .val (.int C2F), .val (.int C2T), .val (.int v10), .unset, .unset, .unset, .unset, .unset, .unset, .unset, .unset, .unset, .unset, .unset, .unset] [(.int (2 : Int32)), (.int p4)])) _
    refine XS.iand X8.here hx rfl (hb hby at_103) rfl ?_
    show Steps p.tables e below (T8.setTop (mkF m 104 #[.val (.int p1), .val (.long q2), .second, .val (.long q3), .second, .val (.int p4), .val (.int N), .val (.int A1F), .val (.int A1T), .val (.int A2F), .val (.int A2T), .val (.int C1F), .val (.int C1T), .val (.int C2F), .val (.int C2T), .val (.int v10), .unset, .unset, .unset, .unset, .unset, .unset, .unset, .unset, .unset, .unset, .unset, .unset] [(.int (p4 &&& (2 : Int32)))])) _
    by_cases hc12 : (p4 &&& (2 : Int32)) = (0 : Int32)
    · refine XS.ifYes X8.here hx rfl (pc0 := 104) (pc' := 111) rfl (hb hby at_104) rfl ((if0 _ _).trans (teq hc12).1) (by decide) (by decide) ?_
      show Steps p.tables e below (T8.setTop (mkF m 111 #[.val (.int p1), .val (.long q2), .second, .val (.long q3), .second, .val (.int p4), .val (.int N), .val (.int A1F), .val (.int A1T), .val (.int A2F), .val (.int A2T), .val (.int C1F), .val (.int C1T), .val (.int C2F), .val (.int C2T), .val (.int v10), .unset, .unset, .unset, .unset, .unset, .unset, .unset, .unset, .unset, .unset, .unset, .unset] [])) _
      refine XS.iconst X8.here hx rfl (hb hby at_111) ?_
      rw [show v13 = (0 : Int32) from hv13.trans (if_pos hc12)] at k
      exact k
    · refine XS.ifNo X8.here hx rfl (hb hby at_104) rfl ((if0 _ _).trans (feq hc12).1) ?_
      show Steps p.tables e below (T8.setTop (mkF m 107 #[.val (.int p1), .val (.long q2), .second, .val (.long q3), .second, .val (.int p4), .val (.int N), .val (.int A1F), .val (.int A1T), .val (.int A2F), .val (.int A2T), .val (.int C1F), .val (.int C1T), .val (.int C2F), .val (.int C2T), .val (.int v10), .unset, .unset, .unset, .unset, .unset, .unset, .unset, .unset, .unset, .unset, .unset, .unset] [])) _
      refine XS.iconst X8.here hx rfl (hb hby at_107) ?_
      show Steps p.tables e below (T8.setTop (mkF m 108 #[.val (.int p1), .val (.long q2), .second, .val (.long q3), .second, .val (.int p4), .val (.int N), .val (.int A1F), .val (.int A1T), .val (.int A2F), .val (.int A2T), .val (.int C1F), .val (.int C1T), .val (.int C2F), .val (.int C2T), .val (.int v10), .unset, .unset, .unset, .unset, .unset, .unset, .unset, .unset, .unset, .unset, .unset, .unset] [(.int (1 : Int32))])) _
      refine XS.goto X8.here hx rfl (pc0 := 108) (pc' := 112) rfl (hb hby at_108) (by decide) (by decide) ?_
      rw [show v13 = (1 : Int32) from hv13.trans (if_neg hc12)] at k
      exact k)
  obtain ⟨v16, hv16⟩ : ∃ z : Int32, z = (if (p4 &&& (4 : Int32)) = (0 : Int32) then (0 : Int32) else (1 : Int32)) := ⟨_, rfl⟩
  have pre17 : ∀ t, Steps p.tables e below (T8.setTop (mkF m 126 #[.val (.int p1), .val (.long q2), .second, .val (.long q3), .second, .val (.int p4), .val (.int N), .val (.int A1F), .val (.int A1T), .val (.int A2F), .val (.int A2T), .val (.int C1F), .val (.int C1T), .val (.int C2F), .val (.int C2T), .val (.int v10), .val (.int v13), .unset, .unset, .unset, .unset, .unset, .unset, .unset, .unset, .unset, .unset, .unset] [(.int v16)])) t → Steps p.tables e below (s₁.setTop (entryFrame m #[(.int p1), (.long q2), (.long q3), (.int p4)] maxLocals)) t := fun t k => pre14 t (by
    show Steps p.tables e below (T8.setTop (mkF m 112 #[.val (.int p1), .val (.long q2), .second, .val (.long q3), .second, .val (.int p4), .val (.int N), .val (.int A1F), .val (.int A1T), .val (.int A2F), .val (.int A2T), .val (.int C1F), .val (.int C1T), .val (.int C2F), .val (.int C2T), .val (.int v10), .unset, .unset, .unset, .unset, .unset, .unset, .unset, .unset, .unset, .unset, .unset, .unset] [(.int v13)])) _
    refine XS.istore X8.here hx rfl (hb hby at_112) rfl (l' := #[.val (.int p1), .val (.long q2), .second, .val (.long q3), .second, .val (.int p4), .val (.int N), .val (.int A1F), .val (.int A1T), .val (.int A2F), .val (.int A2T), .val (.int C1F), .val (.int C1T), .val (.int C2F), .val (.int C2T), .val (.int v10), .val (.int v13), .unset, .unset, .unset, .unset, .unset, .unset, .unset, .unset, .unset, .unset, .unset]) rfl ?_
    show Steps p.tables e below (T8.setTop (mkF m 114 #[.val (.int p1), .val (.long q2), .second, .val (.long q3), .second, .val (.int p4), .val (.int N), .val (.int A1F), .val (.int A1T), .val (.int A2F), .val (.int A2T), .val (.int C1F), .val (.int C1T), .val (.int C2F), .val (.int C2T), .val (.int v10), .val (.int v13), .unset, .unset, .unset, .unset, .unset, .unset, .unset, .unset, .unset, .unset, .unset] [])) _
    refine XS.iload X8.here hx rfl (hb hby at_114) rfl ?_
    show Steps p.tables e below (T8.setTop (mkF m 116 #[.val (.int p1), .val (.long q2), .second, .val (.long q3), .second, .val (.int p4), .val (.int N), .val (.int A1F), .val (.int A1T), .val (.int A2F), .val (.int A2T), .val (.int C1F), .val (.int C1T), .val (.int C2F), .val (.int C2T), .val (.int v10), .val (.int v13), .unset, .unset, .unset, .unset, .unset, .unset, .unset, .unset, .unset, .unset, .unset] [(.int p4)])) _
    refine XS.iconst X8.here hx rfl (hb hby at_116) ?_
    show Steps p.tables e below (T8.setTop (mkF m 117 #[.val (.int p1), .val (.long q2), .second, .val (.long q3), .second, .val (.int p4), .val (.int N), .val (.int A1F), .val (.int A1T), .val (.int A2F), .val (.int A2T), .val (.int C1F), .val (.int C1T), .val (.int C2F), .val (.int C2T), .val (.int v10), .val (.int v13), .unset, .unset, .unset, .unset, .unset, .unset, .unset, .unset, .unset, .unset, .unset] [(.int (4 : Int32)), (.int p4)])) _
    refine XS.iand X8.here hx rfl (hb hby at_117) rfl ?_
    show Steps p.tables e below (T8.setTop (mkF m 118 #[.val (.int p1), .val (.long q2), .second, .val (.long q3), .second, .val (.int p4), .val (.int N), .val (.int A1F), .val (.int A1T), .val (.int A2F), .val (.int A2T), .val (.int C1F), .val (.int C1T), .val (.int C2F), .val (.int C2T), .val (.int v10), .val (.int v13), .unset, .unset, .unset, .unset, .unset, .unset, .unset, .unset, .unset, .unset, .unset] [(.int (p4 &&& (4 : Int32)))])) _
    by_cases hc15 : (p4 &&& (4 : Int32)) = (0 : Int32)
    · refine XS.ifYes X8.here hx rfl (pc0 := 118) (pc' := 125) rfl (hb hby at_118) rfl ((if0 _ _).trans (teq hc15).1) (by decide) (by decide) ?_
      show Steps p.tables e below (T8.setTop (mkF m 125 #[.val (.int p1), .val (.long q2), .second, .val (.long q3), .second, .val (.int p4), .val (.int N), .val (.int A1F), .val (.int A1T), .val (.int A2F), .val (.int A2T), .val (.int C1F), .val (.int C1T), .val (.int C2F), .val (.int C2T), .val (.int v10), .val (.int v13), .unset, .unset, .unset, .unset, .unset, .unset, .unset, .unset, .unset, .unset, .unset] [])) _
      refine XS.iconst X8.here hx rfl (hb hby at_125) ?_
      rw [show v16 = (0 : Int32) from hv16.trans (if_pos hc15)] at k
      exact k
    · refine XS.ifNo X8.here hx rfl (hb hby at_118) rfl ((if0 _ _).trans (feq hc15).1) ?_
      show Steps p.tables e below (T8.setTop (mkF m 121 #[.val (.int p1), .val (.long q2), .second, .val (.long q3), .second, .val (.int p4), .val (.int N), .val (.int A1F), .val (.int A1T), .val (.int A2F), .val (.int A2T), .val (.int C1F), .val (.int C1T), .val (.int C2F), .val (.int C2T), .val (.int v10), .val (.int v13), .unset, .unset, .unset, .unset, .unset, .unset, .unset, .unset, .unset, .unset, .unset] [])) _
      refine XS.iconst X8.here hx rfl (hb hby at_121) ?_
      show Steps p.tables e below (T8.setTop (mkF m 122 #[.val (.int p1), .val (.long q2), .second, .val (.long q3), .second, .val (.int p4), .val (.int N), .val (.int A1F), .val (.int A1T), .val (.int A2F), .val (.int A2T), .val (.int C1F), .val (.int C1T), .val (.int C2F), .val (.int C2T), .val (.int v10), .val (.int v13), .unset, .unset, .unset, .unset, .unset, .unset, .unset, .unset, .unset, .unset, .unset] [(.int (1 : Int32))])) _
      refine XS.goto X8.here hx rfl (pc0 := 122) (pc' := 126) rfl (hb hby at_122) (by decide) (by decide) ?_
      rw [show v16 = (1 : Int32) from hv16.trans (if_neg hc15)] at k
      exact k)
  obtain ⟨v19, hv19⟩ : ∃ z : Int32, z = (if (p4 &&& (8 : Int32)) = (0 : Int32) then (0 : Int32) else (1 : Int32)) := ⟨_, rfl⟩
  have pre20 : ∀ t, Steps p.tables e below (T8.setTop (mkF m 141 #[.val (.int p1), .val (.long q2), .second, .val (.long q3), .second, .val (.int p4), .val (.int N), .val (.int A1F), .val (.int A1T), .val (.int A2F), .val (.int A2T), .val (.int C1F), .val (.int C1T), .val (.int C2F), .val (.int C2T), .val (.int v10), .val (.int v13), .val (.int v16), .unset, .unset, .unset, .unset, .unset, .unset, .unset, .unset, .unset, .unset] [(.int v19)])) t → Steps p.tables e below (s₁.setTop (entryFrame m #[(.int p1), (.long q2), (.long q3), (.int p4)] maxLocals)) t := fun t k => pre17 t (by
    show Steps p.tables e below (T8.setTop (mkF m 126 #[.val (.int p1), .val (.long q2), .second, .val (.long q3), .second, .val (.int p4), .val (.int N), .val (.int A1F), .val (.int A1T), .val (.int A2F), .val (.int A2T), .val (.int C1F), .val (.int C1T), .val (.int C2F), .val (.int C2T), .val (.int v10), .val (.int v13), .unset, .unset, .unset, .unset, .unset, .unset, .unset, .unset, .unset, .unset, .unset] [(.int v16)])) _
    refine XS.istore X8.here hx rfl (hb hby at_126) rfl (l' := #[.val (.int p1), .val (.long q2), .second, .val (.long q3), .second, .val (.int p4), .val (.int N), .val (.int A1F), .val (.int A1T), .val (.int A2F), .val (.int A2T), .val (.int C1F), .val (.int C1T), .val (.int C2F), .val (.int C2T), .val (.int v10), .val (.int v13), .val (.int v16), .unset, .unset, .unset, .unset, .unset, .unset, .unset, .unset, .unset, .unset]) rfl ?_
    show Steps p.tables e below (T8.setTop (mkF m 128 #[.val (.int p1), .val (.long q2), .second, .val (.long q3), .second, .val (.int p4), .val (.int N), .val (.int A1F), .val (.int A1T), .val (.int A2F), .val (.int A2T), .val (.int C1F), .val (.int C1T), .val (.int C2F), .val (.int C2T), .val (.int v10), .val (.int v13), .val (.int v16), .unset, .unset, .unset, .unset, .unset, .unset, .unset, .unset, .unset, .unset] [])) _
    refine XS.iload X8.here hx rfl (hb hby at_128) rfl ?_
    show Steps p.tables e below (T8.setTop (mkF m 130 #[.val (.int p1), .val (.long q2), .second, .val (.long q3), .second, .val (.int p4), .val (.int N), .val (.int A1F), .val (.int A1T), .val (.int A2F), .val (.int A2T), .val (.int C1F), .val (.int C1T), .val (.int C2F), .val (.int C2T), .val (.int v10), .val (.int v13), .val (.int v16), .unset, .unset, .unset, .unset, .unset, .unset, .unset, .unset, .unset, .unset] [(.int p4)])) _
    refine XS.bipush X8.here hx rfl (hb hby at_130) ?_
    show Steps p.tables e below (T8.setTop (mkF m 132 #[.val (.int p1), .val (.long q2), .second, .val (.long q3), .second, .val (.int p4), .val (.int N), .val (.int A1F), .val (.int A1T), .val (.int A2F), .val (.int A2T), .val (.int C1F), .val (.int C1T), .val (.int C2F), .val (.int C2T), .val (.int v10), .val (.int v13), .val (.int v16), .unset, .unset, .unset, .unset, .unset, .unset, .unset, .unset, .unset, .unset] [(.int (8 : Int32)), (.int p4)])) _
    refine XS.iand X8.here hx rfl (hb hby at_132) rfl ?_
    show Steps p.tables e below (T8.setTop (mkF m 133 #[.val (.int p1), .val (.long q2), .second, .val (.long q3), .second, .val (.int p4), .val (.int N), .val (.int A1F), .val (.int A1T), .val (.int A2F), .val (.int A2T), .val (.int C1F), .val (.int C1T), .val (.int C2F), .val (.int C2T), .val (.int v10), .val (.int v13), .val (.int v16), .unset, .unset, .unset, .unset, .unset, .unset, .unset, .unset, .unset, .unset] [(.int (p4 &&& (8 : Int32)))])) _
    by_cases hc18 : (p4 &&& (8 : Int32)) = (0 : Int32)
    · refine XS.ifYes X8.here hx rfl (pc0 := 133) (pc' := 140) rfl (hb hby at_133) rfl ((if0 _ _).trans (teq hc18).1) (by decide) (by decide) ?_
      show Steps p.tables e below (T8.setTop (mkF m 140 #[.val (.int p1), .val (.long q2), .second, .val (.long q3), .second, .val (.int p4), .val (.int N), .val (.int A1F), .val (.int A1T), .val (.int A2F), .val (.int A2T), .val (.int C1F), .val (.int C1T), .val (.int C2F), .val (.int C2T), .val (.int v10), .val (.int v13), .val (.int v16), .unset, .unset, .unset, .unset, .unset, .unset, .unset, .unset, .unset, .unset] [])) _
      refine XS.iconst X8.here hx rfl (hb hby at_140) ?_
      rw [show v19 = (0 : Int32) from hv19.trans (if_pos hc18)] at k
      exact k
    · refine XS.ifNo X8.here hx rfl (hb hby at_133) rfl ((if0 _ _).trans (feq hc18).1) ?_
      show Steps p.tables e below (T8.setTop (mkF m 136 #[.val (.int p1), .val (.long q2), .second, .val (.long q3), .second, .val (.int p4), .val (.int N), .val (.int A1F), .val (.int A1T), .val (.int A2F), .val (.int A2T), .val (.int C1F), .val (.int C1T), .val (.int C2F), .val (.int C2T), .val (.int v10), .val (.int v13), .val (.int v16), .unset, .unset, .unset, .unset, .unset, .unset, .unset, .unset, .unset, .unset] [])) _
      refine XS.iconst X8.here hx rfl (hb hby at_136) ?_
      show Steps p.tables e below (T8.setTop (mkF m 137 #[.val (.int p1), .val (.long q2), .second, .val (.long q3), .second, .val (.int p4), .val (.int N), .val (.int A1F), .val (.int A1T), .val (.int A2F), .val (.int A2T), .val (.int C1F), .val (.int C1T), .val (.int C2F), .val (.int C2T), .val (.int v10), .val (.int v13), .val (.int v16), .unset, .unset, .unset, .unset, .unset, .unset, .unset, .unset, .unset, .unset] [(.int (1 : Int32))])) _
      refine XS.goto X8.here hx rfl (pc0 := 137) (pc' := 141) rfl (hb hby at_137) (by decide) (by decide) ?_
      rw [show v19 = (1 : Int32) from hv19.trans (if_neg hc18)] at k
      exact k)
  obtain ⟨v22, hv22⟩ : ∃ z : Int32, z = (if (p4 &&& (16 : Int32)) = (0 : Int32) then C1F else A2F) := ⟨_, rfl⟩
  obtain ⟨v23, hv23⟩ : ∃ z : Int32, z = (if (p4 &&& (16 : Int32)) = (0 : Int32) then C1T else A2T) := ⟨_, rfl⟩
  have pre24 : ∀ t, Steps p.tables e below (T8.setTop (mkF m 159 #[.val (.int p1), .val (.long q2), .second, .val (.long q3), .second, .val (.int p4), .val (.int N), .val (.int A1F), .val (.int A1T), .val (.int A2F), .val (.int A2T), .val (.int v22), .val (.int v23), .val (.int C2F), .val (.int C2T), .val (.int v10), .val (.int v13), .val (.int v16), .val (.int v19), .unset, .unset, .unset, .unset, .unset, .unset, .unset, .unset, .unset] [])) t → Steps p.tables e below (s₁.setTop (entryFrame m #[(.int p1), (.long q2), (.long q3), (.int p4)] maxLocals)) t := fun t k => pre20 t (by
    show Steps p.tables e below (T8.setTop (mkF m 141 #[.val (.int p1), .val (.long q2), .second, .val (.long q3), .second, .val (.int p4), .val (.int N), .val (.int A1F), .val (.int A1T), .val (.int A2F), .val (.int A2T), .val (.int C1F), .val (.int C1T), .val (.int C2F), .val (.int C2T), .val (.int v10), .val (.int v13), .val (.int v16), .unset, .unset, .unset, .unset, .unset, .unset, .unset, .unset, .unset, .unset] [(.int v19)])) _
    refine XS.istore X8.here hx rfl (hb hby at_141) rfl (l' := #[.val (.int p1), .val (.long q2), .second, .val (.long q3), .second, .val (.int p4), .val (.int N), .val (.int A1F), .val (.int A1T), .val (.int A2F), .val (.int A2T), .val (.int C1F), .val (.int C1T), .val (.int C2F), .val (.int C2T), .val (.int v10), .val (.int v13), .val (.int v16), .val (.int v19), .unset, .unset, .unset, .unset, .unset, .unset, .unset, .unset, .unset]) rfl ?_
    show Steps p.tables e below (T8.setTop (mkF m 143 #[.val (.int p1), .val (.long q2), .second, .val (.long q3), .second, .val (.int p4), .val (.int N), .val (.int A1F), .val (.int A1T), .val (.int A2F), .val (.int A2T), .val (.int C1F), .val (.int C1T), .val (.int C2F), .val (.int C2T), .val (.int v10), .val (.int v13), .val (.int v16), .val (.int v19), .unset, .unset, .unset, .unset, .unset, .unset, .unset, .unset, .unset] [])) _
    refine XS.iload X8.here hx rfl (hb hby at_143) rfl ?_
    show Steps p.tables e below (T8.setTop (mkF m 145 #[.val (.int p1), .val (.long q2), .second, .val (.long q3), .second, .val (.int p4), .val (.int N), .val (.int A1F), .val (.int A1T), .val (.int A2F), .val (.int A2T), .val (.int C1F), .val (.int C1T), .val (.int C2F), .val (.int C2T), .val (.int v10), .val (.int v13), .val (.int v16), .val (.int v19), .unset, .unset, .unset, .unset, .unset, .unset, .unset, .unset, .unset] [(.int p4)])) _
    refine XS.bipush X8.here hx rfl (hb hby at_145) ?_
    show Steps p.tables e below (T8.setTop (mkF m 147 #[.val (.int p1), .val (.long q2), .second, .val (.long q3), .second, .val (.int p4), .val (.int N), .val (.int A1F), .val (.int A1T), .val (.int A2F), .val (.int A2T), .val (.int C1F), .val (.int C1T), .val (.int C2F), .val (.int C2T), .val (.int v10), .val (.int v13), .val (.int v16), .val (.int v19), .unset, .unset, .unset, .unset, .unset, .unset, .unset, .unset, .unset] [(.int (16 : Int32)), (.int p4)])) _
    refine XS.iand X8.here hx rfl (hb hby at_147) rfl ?_
    show Steps p.tables e below (T8.setTop (mkF m 148 #[.val (.int p1), .val (.long q2), .second, .val (.long q3), .second, .val (.int p4), .val (.int N), .val (.int A1F), .val (.int A1T), .val (.int A2F), .val (.int A2T), .val (.int C1F), .val (.int C1T), .val (.int C2F), .val (.int C2T), .val (.int v10), .val (.int v13), .val (.int v16), .val (.int v19), .unset, .unset, .unset, .unset, .unset, .unset, .unset, .unset, .unset] [(.int (p4 &&& (16 : Int32)))])) _
    by_cases hc21 : (p4 &&& (16 : Int32)) = (0 : Int32)
    · refine XS.ifYes X8.here hx rfl (pc0 := 148) (pc' := 159) rfl (hb hby at_148) rfl ((if0 _ _).trans (teq hc21).1) (by decide) (by decide) ?_
      rw [show v22 = C1F from hv22.trans (if_pos hc21)] at k
      rw [show v23 = C1T from hv23.trans (if_pos hc21)] at k
      exact k
    · refine XS.ifNo X8.here hx rfl (hb hby at_148) rfl ((if0 _ _).trans (feq hc21).1) ?_
      show Steps p.tables e below (T8.setTop (mkF m 151 #[.val (.int p1), .val (.long q2), .second, .val (.long q3), .second, .val (.int p4), .val (.int N), .val (.int A1F), .val (.int A1T), .val (.int A2F), .val (.int A2T), .val (.int C1F), .val (.int C1T), .val (.int C2F), .val (.int C2T), .val (.int v10), .val (.int v13), .val (.int v16), .val (.int v19), .unset, .unset, .unset, .unset, .unset, .unset, .unset, .unset, .unset] [])) _
      refine XS.iload X8.here hx rfl (hb hby at_151) rfl ?_
      show Steps p.tables e below (T8.setTop (mkF m 153 #[.val (.int p1), .val (.long q2), .second, .val (.long q3), .second, .val (.int p4), .val (.int N), .val (.int A1F), .val (.int A1T), .val (.int A2F), .val (.int A2T), .val (.int C1F), .val (.int C1T), .val (.int C2F), .val (.int C2T), .val (.int v10), .val (.int v13), .val (.int v16), .val (.int v19), .unset, .unset, .unset, .unset, .unset, .unset, .unset, .unset, .unset] [(.int A2F)])) _
      refine XS.istore X8.here hx rfl (hb hby at_153) rfl (l' := #[.val (.int p1), .val (.long q2), .second, .val (.long q3), .second, .val (.int p4), .val (.int N), .val (.int A1F), .val (.int A1T), .val (.int A2F), .val (.int A2T), .val (.int A2F), .val (.int C1T), .val (.int C2F), .val (.int C2T), .val (.int v10), .val (.int v13), .val (.int v16), .val (.int v19), .unset, .unset, .unset, .unset, .unset, .unset, .unset, .unset, .unset]) rfl ?_
      show Steps p.tables e below (T8.setTop (mkF m 155 #[.val (.int p1), .val (.long q2), .second, .val (.long q3), .second, .val (.int p4), .val (.int N), .val (.int A1F), .val (.int A1T), .val (.int A2F), .val (.int A2T), .val (.int A2F), .val (.int C1T), .val (.int C2F), .val (.int C2T), .val (.int v10), .val (.int v13), .val (.int v16), .val (.int v19), .unset, .unset, .unset, .unset, .unset, .unset, .unset, .unset, .unset] [])) _
      refine XS.iload X8.here hx rfl (hb hby at_155) rfl ?_
      show Steps p.tables e below (T8.setTop (mkF m 157 #[.val (.int p1), .val (.long q2), .second, .val (.long q3), .second, .val (.int p4), .val (.int N), .val (.int A1F), .val (.int A1T), .val (.int A2F), .val (.int A2T), .val (.int A2F), .val (.int C1T), .val (.int C2F), .val (.int C2T), .val (.int v10), .val (.int v13), .val (.int v16), .val (.int v19), .unset, .unset, .unset, .unset, .unset, .unset, .unset, .unset, .unset] [(.int A2T)])) _
      refine XS.istore X8.here hx rfl (hb hby at_157) rfl (l' := #[.val (.int p1), .val (.long q2), .second, .val (.long q3), .second, .val (.int p4), .val (.int N), .val (.int A1F), .val (.int A1T), .val (.int A2F), .val (.int A2T), .val (.int A2F), .val (.int A2T), .val (.int C2F), .val (.int C2T), .val (.int v10), .val (.int v13), .val (.int v16), .val (.int v19), .unset, .unset, .unset, .unset, .unset, .unset, .unset, .unset, .unset]) rfl ?_
      rw [show v22 = A2F from hv22.trans (if_neg hc21)] at k
      rw [show v23 = A2T from hv23.trans (if_neg hc21)] at k
      exact k)
  obtain ⟨T25, h25, X25, e25, E25, Ax25, D25, -, st25⟩ := newO X8 hx hZ hown (hw _ (List.mem_of_getElem? (i := 5) rfl)) (hw _ (List.mem_of_getElem? (i := 6) rfl)) (hw _ (List.mem_of_getElem? (i := 7) rfl)) e8 (g := (mkF m 159 #[.val (.int p1), .val (.long q2), .second, .val (.long q3), .second, .val (.int p4), .val (.int N), .val (.int A1F), .val (.int A1T), .val (.int A2F), .val (.int A2T), .val (.int v22), .val (.int v23), .val (.int C2F), .val (.int C2T), .val (.int v10), .val (.int v13), .val (.int v16), .val (.int v19), .unset, .unset, .unset, .unset, .unset, .unset, .unset, .unset, .unset] [])) rfl (hb hby at_159) (by decide) (by decide)
  obtain ⟨b25, g25⟩ : ∃ z, z = h0.size := ⟨_, rfl⟩
  rw [← g25] at Ax25 D25 st25
  have g_b25 : n0 ≤ b25 := Nat.le_trans Z0 (Nat.le_of_eq g25.symm)
  have sz_b25 : h0.size ≤ b25 := Nat.le_trans K0.1 (Nat.le_of_eq g25.symm)
  have K25 := K0.ext E25
  have Zs25 := Nat.le_trans Z0 E25.1
  have O25 := O0.ext E25
  have E_b25_25 : Exa Z h25 b25 "com/example/fenceline/fenceline/model/Relation" := Ax25
  have F_size_b25_25 : Fld Z h25 b25 "com/example/fenceline/fenceline/model/Relation" "size" "I" (.int (0 : Int32)) := D25 (Or.inr (hw _ (List.mem_of_getElem? (i := 15) rfl))) (ty := .int) (by decide)
  have F_words_b25_25 : Fld Z h25 b25 "com/example/fenceline/fenceline/model/Relation" "words" "I" (.int (0 : Int32)) := D25 (Or.inr (hw _ (List.mem_of_getElem? (i := 17) rfl))) (ty := .int) (by decide)
  have F_rows_b25_25 : Fld Z h25 b25 "com/example/fenceline/fenceline/model/Relation" "rows" "[J" .null := D25 (Or.inr (hw _ (List.mem_of_getElem? (i := 20) rfl))) (ty := (.array .long)) (by decide)
  obtain ⟨_, _, ⟨T26, L26, k26, n26⟩, -, X26, ⟨Lc26, hQ26, l26, y26, z26⟩, st26⟩ := X25.specialBack hx (y := (⟨"com/example/fenceline/fenceline/model/Relation", "<init>", "(I)V"⟩ : MethodName)) rfl hown (mvT hZ (hw _ (List.mem_of_getElem? (i := 8) rfl))) (mvT hZ (hw _ (List.mem_of_getElem? (i := 9) rfl))) (mvT hZ (hw _ (List.mem_of_getElem? (i := 10) rfl))) (by decide) (backOf (W := 1) (rm2 l Z a0 hw [] b25 N h25 n0 Zs25 E_b25_25 F_size_b25_25 F_words_b25_25 F_rows_b25_25 g_b25 (own_N1 hN).1 (own_N1 hN).2) hZ (hw _ (List.mem_of_getElem? (i := 10) rfl)) (hw _ (List.mem_of_getElem? (i := 7) rfl)) (by decide) (by decide)) (g := (mkF m 165 #[.val (.int p1), .val (.long q2), .second, .val (.long q3), .second, .val (.int p4), .val (.int N), .val (.int A1F), .val (.int A1T), .val (.int A2F), .val (.int A2T), .val (.int v22), .val (.int v23), .val (.int C2F), .val (.int C2T), .val (.int v10), .val (.int v13), .val (.int v16), .val (.int v19), .unset, .unset, .unset, .unset, .unset, .unset, .unset, .unset, .unset] [(.int N), (.ref b25), (.ref b25)])) rfl (by rw [hml]; rfl) (Steps.refl _) (a := b25) (argsL := [(.int N)]) (rest := [(.ref b25)]) (lenOf pd_1 rfl) rfl (by show 2 * 0 + _ ≤ _; exact Nat.le_of_eq rfl) (hb hby at_165) (fun _ _ => ⟨rfl, e25, (by decide : 1 + 1 ≤ _), (by decide : 3 + 256 ≤ _)⟩)
  dsimp only [Pt.U, Pt.locs, Pt.cells, Pt.slots] at X26 l26 y26 z26 st26 hQ26
  subst l26 y26 z26
  obtain ⟨h26, e26⟩ : ∃ z, T26.heap = z := ⟨_, rfl⟩
  rw [e26] at hQ26
  obtain ⟨b26, rfl, N26q, Kc26, szc_b26, E_b25_26q, F_size_b25_26q, F_words_b25_26q, F_rows_b25_26q, A_b26_26q⟩ := hQ26
  have ne_b25_b26 : b25 ≠ b26 := Nat.ne_of_lt (Nat.lt_of_lt_of_le E_b25_25.lt szc_b26)
  have g_b26 : n0 ≤ b26 := Nat.le_trans Zs25 szc_b26
  have sz_b26 : h0.size ≤ b26 := Nat.le_trans K25.1 szc_b26
  have K26 := K25.trans Kc26 (allS (Or.inr sz_b25) all0)
  have Zs26 := Nat.le_trans Zs25 Kc26.1
  have O26 := O25.keep Kc26 (allS g_b25 all0)
  have E_b25_26 : Exa Z h26 b25 "com/example/fenceline/fenceline/model/Relation" := E_b25_26q
  have F_size_b25_26 : Fld Z h26 b25 "com/example/fenceline/fenceline/model/Relation" "size" "I" (.int N) := F_size_b25_26q
  have F_words_b25_26 : Fld Z h26 b25 "com/example/fenceline/fenceline/model/Relation" "words" "I" (.int (((N + (63 : Int32)).toUInt32 >>> ((6 : Int32) &&& 31).toUInt32).toInt32)) := F_words_b25_26q
  have F_rows_b25_26 : Fld Z h26 b25 "com/example/fenceline/fenceline/model/Relation" "rows" "[J" (.ref b26) := F_rows_b25_26q
  obtain ⟨y27, hy27⟩ : ∃ yy_ : Int32 → Int64, yy_ = (fun _ => (0 : Int64)) := ⟨_, rfl⟩
  have A_b26_26 : own_A Z h26 b26 .long (N * (((N + (63 : Int32)).toUInt32 >>> ((6 : Int32) &&& 31).toUInt32).toInt32)) (fun i => .long (y27 i)) := by subst hy27; exact A_b26_26q
  have N26 := Fr.app N8 N26q
  obtain ⟨T28, h28, X28, e28, E28, Ax28, D28, -, st28⟩ := newO X26 hx hZ hown (hw _ (List.mem_of_getElem? (i := 5) rfl)) (hw _ (List.mem_of_getElem? (i := 6) rfl)) (hw _ (List.mem_of_getElem? (i := 7) rfl)) e26 (g := (mkF m 170 #[.val (.int p1), .val (.long q2), .second, .val (.long q3), .second, .val (.int p4), .val (.int N), .val (.int A1F), .val (.int A1T), .val (.int A2F), .val (.int A2T), .val (.int v22), .val (.int v23), .val (.int C2F), .val (.int C2T), .val (.int v10), .val (.int v13), .val (.int v16), .val (.int v19), .val (.ref b25), .unset, .unset, .unset, .unset, .unset, .unset, .unset, .unset] [])) rfl (hb hby at_170) (by decide) (by decide)
  obtain ⟨b28, g28⟩ : ∃ z, z = h26.size := ⟨_, rfl⟩
  rw [← g28] at Ax28 D28 st28
  have ne_b25_b28 : b25 ≠ b28 := Nat.ne_of_lt (Nat.lt_of_lt_of_le E_b25_26.lt (Nat.le_of_eq g28.symm))
  have ne_b26_b28 : b26 ≠ b28 := Nat.ne_of_lt (Nat.lt_of_lt_of_le (own_A_lt A_b26_26) (Nat.le_of_eq g28.symm))
  have g_b28 : n0 ≤ b28 := Nat.le_trans Zs26 (Nat.le_of_eq g28.symm)
  have sz_b28 : h0.size ≤ b28 := Nat.le_trans K26.1 (Nat.le_of_eq g28.symm)
  have E_b25_28 : Exa Z h28 b25 "com/example/fenceline/fenceline/model/Relation" := E_b25_26.ext E28
  have F_size_b25_28 : Fld Z h28 b25 "com/example/fenceline/fenceline/model/Relation" "size" "I" (.int N) := F_size_b25_26.ext E28
  have F_words_b25_28 : Fld Z h28 b25 "com/example/fenceline/fenceline/model/Relation" "words" "I" (.int (((N + (63 : Int32)).toUInt32 >>> ((6 : Int32) &&& 31).toUInt32).toInt32)) := F_words_b25_26.ext E28
  have F_rows_b25_28 : Fld Z h28 b25 "com/example/fenceline/fenceline/model/Relation" "rows" "[J" (.ref b26) := F_rows_b25_26.ext E28
  have A_b26_28 : own_A Z h28 b26 .long (N * (((N + (63 : Int32)).toUInt32 >>> ((6 : Int32) &&& 31).toUInt32).toInt32)) (fun i => .long (y27 i)) := own_A_ext A_b26_26 E28
  have K28 := K26.ext E28
  have Zs28 := Nat.le_trans Zs26 E28.1
  have O28 := O26.ext E28
  have E_b28_28 : Exa Z h28 b28 "com/example/fenceline/fenceline/model/Relation" := Ax28
  have F_size_b28_28 : Fld Z h28 b28 "com/example/fenceline/fenceline/model/Relation" "size" "I" (.int (0 : Int32)) := D28 (Or.inr (hw _ (List.mem_of_getElem? (i := 15) rfl))) (ty := .int) (by decide)
  have F_words_b28_28 : Fld Z h28 b28 "com/example/fenceline/fenceline/model/Relation" "words" "I" (.int (0 : Int32)) := D28 (Or.inr (hw _ (List.mem_of_getElem? (i := 17) rfl))) (ty := .int) (by decide)
  have F_rows_b28_28 : Fld Z h28 b28 "com/example/fenceline/fenceline/model/Relation" "rows" "[J" .null := D28 (Or.inr (hw _ (List.mem_of_getElem? (i := 20) rfl))) (ty := (.array .long)) (by decide)
  obtain ⟨_, _, ⟨T29, L29, k29, n29⟩, -, X29, ⟨Lc29, hQ29, l29, y29, z29⟩, st29⟩ := X28.specialBack hx (y := (⟨"com/example/fenceline/fenceline/model/Relation", "<init>", "(I)V"⟩ : MethodName)) rfl hown (mvT hZ (hw _ (List.mem_of_getElem? (i := 8) rfl))) (mvT hZ (hw _ (List.mem_of_getElem? (i := 9) rfl))) (mvT hZ (hw _ (List.mem_of_getElem? (i := 10) rfl))) (by decide) (backOf (W := 1) (rm2 l Z a0 hw [] b28 N h28 n0 Zs28 E_b28_28 F_size_b28_28 F_words_b28_28 F_rows_b28_28 g_b28 (own_N1 hN).1 (own_N1 hN).2) hZ (hw _ (List.mem_of_getElem? (i := 10) rfl)) (hw _ (List.mem_of_getElem? (i := 7) rfl)) (by decide) (by decide)) (g := (mkF m 176 #[.val (.int p1), .val (.long q2), .second, .val (.long q3), .second, .val (.int p4), .val (.int N), .val (.int A1F), .val (.int A1T), .val (.int A2F), .val (.int A2T), .val (.int v22), .val (.int v23), .val (.int C2F), .val (.int C2T), .val (.int v10), .val (.int v13), .val (.int v16), .val (.int v19), .val (.ref b25), .unset, .unset, .unset, .unset, .unset, .unset, .unset, .unset] [(.int N), (.ref b28), (.ref b28)])) rfl (by rw [hml]; rfl) (Steps.refl _) (a := b28) (argsL := [(.int N)]) (rest := [(.ref b28)]) (lenOf pd_1 rfl) rfl (by show 2 * 0 + _ ≤ _; exact Nat.le_of_eq rfl) (hb hby at_176) (fun _ _ => ⟨rfl, e28, (by decide : 3 + 1 ≤ _), (by decide : 262 + 256 ≤ _)⟩)
  dsimp only [Pt.U, Pt.locs, Pt.cells, Pt.slots] at X29 l29 y29 z29 st29 hQ29
  subst l29 y29 z29
  obtain ⟨h29, e29⟩ : ∃ z, T29.heap = z := ⟨_, rfl⟩
  rw [e29] at hQ29
  obtain ⟨b29, rfl, N29q, Kc29, szc_b29, E_b28_29q, F_size_b28_29q, F_words_b28_29q, F_rows_b28_29q, A_b29_29q⟩ := hQ29
  have ne_b25_b29 : b25 ≠ b29 := Nat.ne_of_lt (Nat.lt_of_lt_of_le E_b25_28.lt szc_b29)
  have ne_b26_b29 : b26 ≠ b29 := Nat.ne_of_lt (Nat.lt_of_lt_of_le (own_A_lt A_b26_28) szc_b29)
  have ne_b28_b29 : b28 ≠ b29 := Nat.ne_of_lt (Nat.lt_of_lt_of_le E_b28_28.lt szc_b29)
  have g_b29 : n0 ≤ b29 := Nat.le_trans Zs28 szc_b29
  have sz_b29 : h0.size ≤ b29 := Nat.le_trans K28.1 szc_b29
  have E_b25_29 : Exa Z h29 b25 "com/example/fenceline/fenceline/model/Relation" := E_b25_28.keep Kc29
  have F_size_b25_29 : Fld Z h29 b25 "com/example/fenceline/fenceline/model/Relation" "size" "I" (.int N) := F_size_b25_28.keep Kc29 (ninS ne_b25_b28 nin0)
  have F_words_b25_29 : Fld Z h29 b25 "com/example/fenceline/fenceline/model/Relation" "words" "I" (.int (((N + (63 : Int32)).toUInt32 >>> ((6 : Int32) &&& 31).toUInt32).toInt32)) := F_words_b25_28.keep Kc29 (ninS ne_b25_b28 nin0)
  have F_rows_b25_29 : Fld Z h29 b25 "com/example/fenceline/fenceline/model/Relation" "rows" "[J" (.ref b26) := F_rows_b25_28.keep Kc29 (ninS ne_b25_b28 nin0)
  have A_b26_29 : own_A Z h29 b26 .long (N * (((N + (63 : Int32)).toUInt32 >>> ((6 : Int32) &&& 31).toUInt32).toInt32)) (fun i => .long (y27 i)) := own_A_keep A_b26_28 Kc29 (ninS ne_b26_b28 nin0)
  have K29 := K28.trans Kc29 (allS (Or.inr sz_b28) all0)
  have Zs29 := Nat.le_trans Zs28 Kc29.1
  have O29 := O28.keep Kc29 (allS g_b28 all0)
  have E_b28_29 : Exa Z h29 b28 "com/example/fenceline/fenceline/model/Relation" := E_b28_29q
  have F_size_b28_29 : Fld Z h29 b28 "com/example/fenceline/fenceline/model/Relation" "size" "I" (.int N) := F_size_b28_29q
  have F_words_b28_29 : Fld Z h29 b28 "com/example/fenceline/fenceline/model/Relation" "words" "I" (.int (((N + (63 : Int32)).toUInt32 >>> ((6 : Int32) &&& 31).toUInt32).toInt32)) := F_words_b28_29q
  have F_rows_b28_29 : Fld Z h29 b28 "com/example/fenceline/fenceline/model/Relation" "rows" "[J" (.ref b29) := F_rows_b28_29q
  obtain ⟨y30, hy30⟩ : ∃ yy_ : Int32 → Int64, yy_ = (fun _ => (0 : Int64)) := ⟨_, rfl⟩
  have A_b29_29 : own_A Z h29 b29 .long (N * (((N + (63 : Int32)).toUInt32 >>> ((6 : Int32) &&& 31).toUInt32).toInt32)) (fun i => .long (y30 i)) := by subst hy30; exact A_b29_29q
  have N29 := Fr.app N26 N29q
  obtain ⟨y38, hy38⟩ : ∃ z : Int32 → Int64, z = (if v10 = (0 : Int32) then y27 else (fun i => if i = ((A1F * (((N + (63 : Int32)).toUInt32 >>> ((6 : Int32) &&& 31).toUInt32).toInt32)) + ((A1T.toUInt32 >>> ((6 : Int32) &&& 31).toUInt32).toInt32)) then ((y27 ((A1F * (((N + (63 : Int32)).toUInt32 >>> ((6 : Int32) &&& 31).toUInt32).toInt32)) + ((A1T.toUInt32 >>> ((6 : Int32) &&& 31).toUInt32).toInt32))) ||| ((1 : Int64) <<< (A1T &&& 0x3f).toInt64)) else y27 i)) := ⟨_, rfl⟩
  have pre31 : ∀ t, Steps p.tables e below (T29.setTop (mkF m 183 #[.val (.int p1), .val (.long q2), .second, .val (.long q3), .second, .val (.int p4), .val (.int N), .val (.int A1F), .val (.int A1T), .val (.int A2F), .val (.int A2T), .val (.int v22), .val (.int v23), .val (.int C2F), .val (.int C2T), .val (.int v10), .val (.int v13), .val (.int v16), .val (.int v19), .val (.ref b25), .val (.ref b28), .unset, .unset, .unset, .unset, .unset, .unset, .unset] [(.int v10)])) t → Steps p.tables e below (s₁.setTop (entryFrame m #[(.int p1), (.long q2), (.long q3), (.int p4)] maxLocals)) t := fun t k => pre24 t (by
    show Steps p.tables e below (T8.setTop (mkF m 159 #[.val (.int p1), .val (.long q2), .second, .val (.long q3), .second, .val (.int p4), .val (.int N), .val (.int A1F), .val (.int A1T), .val (.int A2F), .val (.int A2T), .val (.int v22), .val (.int v23), .val (.int C2F), .val (.int C2T), .val (.int v10), .val (.int v13), .val (.int v16), .val (.int v19), .unset, .unset, .unset, .unset, .unset, .unset, .unset, .unset, .unset] [])) _
    refine st25 _ ?_
    show Steps p.tables e below (T25.setTop (mkF m 162 #[.val (.int p1), .val (.long q2), .second, .val (.long q3), .second, .val (.int p4), .val (.int N), .val (.int A1F), .val (.int A1T), .val (.int A2F), .val (.int A2T), .val (.int v22), .val (.int v23), .val (.int C2F), .val (.int C2T), .val (.int v10), .val (.int v13), .val (.int v16), .val (.int v19), .unset, .unset, .unset, .unset, .unset, .unset, .unset, .unset, .unset] [(.ref b25)])) _
    refine XS.dup X25.here hx rfl (hb hby at_162) rfl rfl ?_
    show Steps p.tables e below (T25.setTop (mkF m 163 #[.val (.int p1), .val (.long q2), .second, .val (.long q3), .second, .val (.int p4), .val (.int N), .val (.int A1F), .val (.int A1T), .val (.int A2F), .val (.int A2T), .val (.int v22), .val (.int v23), .val (.int C2F), .val (.int C2T), .val (.int v10), .val (.int v13), .val (.int v16), .val (.int v19), .unset, .unset, .unset, .unset, .unset, .unset, .unset, .unset, .unset] [(.ref b25), (.ref b25)])) _
    refine XS.iload X25.here hx rfl (hb hby at_163) rfl ?_
    show Steps p.tables e below (T25.setTop (mkF m 165 #[.val (.int p1), .val (.long q2), .second, .val (.long q3), .second, .val (.int p4), .val (.int N), .val (.int A1F), .val (.int A1T), .val (.int A2F), .val (.int A2T), .val (.int v22), .val (.int v23), .val (.int C2F), .val (.int C2T), .val (.int v10), .val (.int v13), .val (.int v16), .val (.int v19), .unset, .unset, .unset, .unset, .unset, .unset, .unset, .unset, .unset] [(.int N), (.ref b25), (.ref b25)])) _
    refine st26.trans ?_
    show Steps p.tables e below (T26.setTop (mkF m 168 #[.val (.int p1), .val (.long q2), .second, .val (.long q3), .second, .val (.int p4), .val (.int N), .val (.int A1F), .val (.int A1T), .val (.int A2F), .val (.int A2T), .val (.int v22), .val (.int v23), .val (.int C2F), .val (.int C2T), .val (.int v10), .val (.int v13), .val (.int v16), .val (.int v19), .unset, .unset, .unset, .unset, .unset, .unset, .unset, .unset, .unset] [(.ref b25)])) _
    refine XS.astore X26.here hx rfl (hb hby at_168) rfl rfl (l' := #[.val (.int p1), .val (.long q2), .second, .val (.long q3), .second, .val (.int p4), .val (.int N), .val (.int A1F), .val (.int A1T), .val (.int A2F), .val (.int A2T), .val (.int v22), .val (.int v23), .val (.int C2F), .val (.int C2T), .val (.int v10), .val (.int v13), .val (.int v16), .val (.int v19), .val (.ref b25), .unset, .unset, .unset, .unset, .unset, .unset, .unset, .unset]) rfl ?_
    show Steps p.tables e below (T26.setTop (mkF m 170 #[.val (.int p1), .val (.long q2), .second, .val (.long q3), .second, .val (.int p4), .val (.int N), .val (.int A1F), .val (.int A1T), .val (.int A2F), .val (.int A2T), .val (.int v22), .val (.int v23), .val (.int C2F), .val (.int C2T), .val (.int v10), .val (.int v13), .val (.int v16), .val (.int v19), .val (.ref b25), .unset, .unset, .unset, .unset, .unset, .unset, .unset, .unset] [])) _
    refine st28 _ ?_
    show Steps p.tables e below (T28.setTop (mkF m 173 #[.val (.int p1), .val (.long q2), .second, .val (.long q3), .second, .val (.int p4), .val (.int N), .val (.int A1F), .val (.int A1T), .val (.int A2F), .val (.int A2T), .val (.int v22), .val (.int v23), .val (.int C2F), .val (.int C2T), .val (.int v10), .val (.int v13), .val (.int v16), .val (.int v19), .val (.ref b25), .unset, .unset, .unset, .unset, .unset, .unset, .unset, .unset] [(.ref b28)])) _
    refine XS.dup X28.here hx rfl (hb hby at_173) rfl rfl ?_
    show Steps p.tables e below (T28.setTop (mkF m 174 #[.val (.int p1), .val (.long q2), .second, .val (.long q3), .second, .val (.int p4), .val (.int N), .val (.int A1F), .val (.int A1T), .val (.int A2F), .val (.int A2T), .val (.int v22), .val (.int v23), .val (.int C2F), .val (.int C2T), .val (.int v10), .val (.int v13), .val (.int v16), .val (.int v19), .val (.ref b25), .unset, .unset, .unset, .unset, .unset, .unset, .unset, .unset] [(.ref b28), (.ref b28)])) _
    refine XS.iload X28.here hx rfl (hb hby at_174) rfl ?_
    show Steps p.tables e below (T28.setTop (mkF m 176 #[.val (.int p1), .val (.long q2), .second, .val (.long q3), .second, .val (.int p4), .val (.int N), .val (.int A1F), .val (.int A1T), .val (.int A2F), .val (.int A2T), .val (.int v22), .val (.int v23), .val (.int C2F), .val (.int C2T), .val (.int v10), .val (.int v13), .val (.int v16), .val (.int v19), .val (.ref b25), .unset, .unset, .unset, .unset, .unset, .unset, .unset, .unset] [(.int N), (.ref b28), (.ref b28)])) _
    refine st29.trans ?_
    show Steps p.tables e below (T29.setTop (mkF m 179 #[.val (.int p1), .val (.long q2), .second, .val (.long q3), .second, .val (.int p4), .val (.int N), .val (.int A1F), .val (.int A1T), .val (.int A2F), .val (.int A2T), .val (.int v22), .val (.int v23), .val (.int C2F), .val (.int C2T), .val (.int v10), .val (.int v13), .val (.int v16), .val (.int v19), .val (.ref b25), .unset, .unset, .unset, .unset, .unset, .unset, .unset, .unset] [(.ref b28)])) _
    refine XS.astore X29.here hx rfl (hb hby at_179) rfl rfl (l' := #[.val (.int p1), .val (.long q2), .second, .val (.long q3), .second, .val (.int p4), .val (.int N), .val (.int A1F), .val (.int A1T), .val (.int A2F), .val (.int A2T), .val (.int v22), .val (.int v23), .val (.int C2F), .val (.int C2T), .val (.int v10), .val (.int v13), .val (.int v16), .val (.int v19), .val (.ref b25), .val (.ref b28), .unset, .unset, .unset, .unset, .unset, .unset, .unset]) rfl ?_
    show Steps p.tables e below (T29.setTop (mkF m 181 #[.val (.int p1), .val (.long q2), .second, .val (.long q3), .second, .val (.int p4), .val (.int N), .val (.int A1F), .val (.int A1T), .val (.int A2F), .val (.int A2T), .val (.int v22), .val (.int v23), .val (.int C2F), .val (.int C2T), .val (.int v10), .val (.int v13), .val (.int v16), .val (.int v19), .val (.ref b25), .val (.ref b28), .unset, .unset, .unset, .unset, .unset, .unset, .unset] [])) _
    refine XS.iload X29.here hx rfl (hb hby at_181) rfl ?_
    exact k)
  obtain ⟨T37, L37, h37, X37, e37, N37, K37, Zs37, O37, E_b25_37, F_size_b25_37, F_words_b25_37, F_rows_b25_37, A_b26_37, E_b28_37, F_size_b28_37, F_words_b28_37, F_rows_b28_37, A_b29_37, pre37⟩ : ∃ (T' : State) (L' : List Loc) (h' : Heap), Stand p l e room_1 s m #[(.int p1), (.long q2), (.long q3), (.int p4)] below meth c T' L' 4 518 ∧ T'.heap = h' ∧ Fr n0 L' ∧ Keep h0 h' ([] : List Addr) ∧ n0 ≤ h'.size ∧ Old Z n0 h' ∧ Exa Z h' b25 "com/example/fenceline/fenceline/model/Relation" ∧ Fld Z h' b25 "com/example/fenceline/fenceline/model/Relation" "size" "I" (.int N) ∧ Fld Z h' b25 "com/example/fenceline/fenceline/model/Relation" "words" "I" (.int (((N + (63 : Int32)).toUInt32 >>> ((6 : Int32) &&& 31).toUInt32).toInt32)) ∧ Fld Z h' b25 "com/example/fenceline/fenceline/model/Relation" "rows" "[J" (.ref b26) ∧ own_A Z h' b26 .long (N * (((N + (63 : Int32)).toUInt32 >>> ((6 : Int32) &&& 31).toUInt32).toInt32)) (fun i => .long (y38 i)) ∧ Exa Z h' b28 "com/example/fenceline/fenceline/model/Relation" ∧ Fld Z h' b28 "com/example/fenceline/fenceline/model/Relation" "size" "I" (.int N) ∧ Fld Z h' b28 "com/example/fenceline/fenceline/model/Relation" "words" "I" (.int (((N + (63 : Int32)).toUInt32 >>> ((6 : Int32) &&& 31).toUInt32).toInt32)) ∧ Fld Z h' b28 "com/example/fenceline/fenceline/model/Relation" "rows" "[J" (.ref b29) ∧ own_A Z h' b29 .long (N * (((N + (63 : Int32)).toUInt32 >>> ((6 : Int32) &&& 31).toUInt32).toInt32)) (fun i => .long (y30 i)) ∧ ∀ t, Steps p.tables e below (T'.setTop (mkF m 195 #[.val (.int p1), .val (.long q2), .second, .val (.long q3), .second, .val (.int p4), .val (.int N), .val (.int A1F), .val (.int A1T), .val (.int A2F), .val (.int A2T), .val (.int v22), .val (.int v23), .val (.int C2F), .val (.int C2T), .val (.int v10), .val (.int v13), .val (.int v16), .val (.int v19), .val (.ref b25), .val (.ref b28), .unset, .unset, .unset, .unset, .unset, .unset, .unset] [])) t → Steps p.tables e below (s₁.setTop (entryFrame m #[(.int p1), (.long q2), (.long q3), (.int p4)] maxLocals)) t := by
    by_cases hc32 : v10 = (0 : Int32)
    · have pre33 : ∀ t, Steps p.tables e below (T29.setTop (mkF m 195 #[.val (.int p1), .val (.long q2), .second, .val (.long q3), .second, .val (.int p4), .val (.int N), .val (.int A1F), .val (.int A1T), .val (.int A2F), .val (.int A2T), .val (.int v22), .val (.int v23), .val (.int C2F), .val (.int C2T), .val (.int v10), .val (.int v13), .val (.int v16), .val (.int v19), .val (.ref b25), .val (.ref b28), .unset, .unset, .unset, .unset, .unset, .unset, .unset] [])) t → Steps p.tables e below (s₁.setTop (entryFrame m #[(.int p1), (.long q2), (.long q3), (.int p4)] maxLocals)) t := fun t k => pre31 t (by
        show Steps p.tables e below (T29.setTop (mkF m 183 #[.val (.int p1), .val (.long q2), .second, .val (.long q3), .second, .val (.int p4), .val (.int N), .val (.int A1F), .val (.int A1T), .val (.int A2F), .val (.int A2T), .val (.int v22), .val (.int v23), .val (.int C2F), .val (.int C2T), .val (.int v10), .val (.int v13), .val (.int v16), .val (.int v19), .val (.ref b25), .val (.ref b28), .unset, .unset, .unset, .unset, .unset, .unset, .unset] [(.int v10)])) _
        refine XS.ifYes X29.here hx rfl (pc0 := 183) (pc' := 195) rfl (hb hby at_183) rfl ((if0 _ _).trans (teq hc32).1) (by decide) (by decide) ?_
        exact k)
      have evy38 : y38 = y27 := by exact hy38.trans (if_pos hc32)
      subst evy38
      exact ⟨T29, _, h29, X29, e29, N29, K29, Zs29, O29, E_b25_29, F_size_b25_29, F_words_b25_29, F_rows_b25_29, A_b26_29, E_b28_29, F_size_b28_29, F_words_b28_29, F_rows_b28_29, A_b29_29, pre33⟩
    · obtain ⟨cq34, kq34, q34a, q34b, q34c⟩ := isOf hZ e29 E_b25_29
      obtain ⟨_, _, ⟨T34, L34, k34, n34⟩, -, X34, ⟨Lc34, hQ34, l34, y34, z34⟩, st34⟩ := X29.virtualBack hx (y := (⟨"com/example/fenceline/fenceline/model/Relation", "add", "(II)V"⟩ : MethodName)) (z := (⟨"com/example/fenceline/fenceline/model/Relation", "add", "(II)V"⟩ : MethodName)) hown (mvT hZ (hw _ (List.mem_of_getElem? (i := 26) rfl))) (mvT hZ (hw _ (List.mem_of_getElem? (i := 27) rfl))) (notFace_of_selects (args := #[]) (mvT hZ (hw _ (List.mem_of_getElem? (i := 29) rfl)))) (mvT hZ (hw _ (List.mem_of_getElem? (i := 29) rfl))) (mvT hZ (hw _ (List.mem_of_getElem? (i := 28) rfl))) (by decide) (backOf (W := 0) (rm5 l Z a0 hw [] b25 A1F A1T b26 (((N + (63 : Int32)).toUInt32 >>> ((6 : Int32) &&& 31).toUInt32).toInt32) (N * (((N + (63 : Int32)).toUInt32 >>> ((6 : Int32) &&& 31).toUInt32).toInt32)) y27 h29 n0 Zs29 F_rows_b25_29 F_words_b25_29 A_b26_29 ne_b25_b26 g_b26 (own_I_in (own_N1 hN).1 (own_N1 hN).2 (own_rf (own_N1 hN) hA1F) (own_rf (own_N1 hN) hA1T))) hZ (hw _ (List.mem_of_getElem? (i := 30) rfl)) (hw _ (List.mem_of_getElem? (i := 7) rfl)) (by decide) (by decide)) q34a q34c (g := (mkF m 192 #[.val (.int p1), .val (.long q2), .second, .val (.long q3), .second, .val (.int p4), .val (.int N), .val (.int A1F), .val (.int A1T), .val (.int A2F), .val (.int A2T), .val (.int v22), .val (.int v23), .val (.int C2F), .val (.int C2T), .val (.int v10), .val (.int v13), .val (.int v16), .val (.int v19), .val (.ref b25), .val (.ref b28), .unset, .unset, .unset, .unset, .unset, .unset, .unset] [(.int A1T), (.int A1F), (.ref b25)])) rfl (by rw [hml]; rfl) (Steps.refl _) (argsL := [(.int A1F), (.int A1T)]) (rest := []) (lenOf pd_2 rfl) rfl (by show 2 * 0 + _ ≤ _; exact Nat.le_of_eq rfl) (hb hby at_192) (fun _ _ => ⟨rfl, e29, (by decide : 4 + 0 ≤ _), (by decide : 518 + 0 ≤ _)⟩)
      dsimp only [Pt.U, Pt.locs, Pt.cells, Pt.slots] at X34 l34 y34 z34 st34 hQ34
      subst l34 y34 z34
      obtain ⟨h34, e34⟩ : ∃ z, T34.heap = z := ⟨_, rfl⟩
      rw [e34] at hQ34
      obtain ⟨rfl, N34q, Kc34, A_b26_34q⟩ := hQ34
      have E_b25_34 : Exa Z h34 b25 "com/example/fenceline/fenceline/model/Relation" := E_b25_29.keep Kc34
      have F_size_b25_34 : Fld Z h34 b25 "com/example/fenceline/fenceline/model/Relation" "size" "I" (.int N) := F_size_b25_29.keep Kc34 (ninS ne_b25_b26 nin0)
      have F_words_b25_34 : Fld Z h34 b25 "com/example/fenceline/fenceline/model/Relation" "words" "I" (.int (((N + (63 : Int32)).toUInt32 >>> ((6 : Int32) &&& 31).toUInt32).toInt32)) := F_words_b25_29.keep Kc34 (ninS ne_b25_b26 nin0)
      have F_rows_b25_34 : Fld Z h34 b25 "com/example/fenceline/fenceline/model/Relation" "rows" "[J" (.ref b26) := F_rows_b25_29.keep Kc34 (ninS ne_b25_b26 nin0)
      have E_b28_34 : Exa Z h34 b28 "com/example/fenceline/fenceline/model/Relation" := E_b28_29.keep Kc34
      have F_size_b28_34 : Fld Z h34 b28 "com/example/fenceline/fenceline/model/Relation" "size" "I" (.int N) := F_size_b28_29.keep Kc34 (ninS (Ne.symm ne_b26_b28) nin0)
      have F_words_b28_34 : Fld Z h34 b28 "com/example/fenceline/fenceline/model/Relation" "words" "I" (.int (((N + (63 : Int32)).toUInt32 >>> ((6 : Int32) &&& 31).toUInt32).toInt32)) := F_words_b28_29.keep Kc34 (ninS (Ne.symm ne_b26_b28) nin0)
      have F_rows_b28_34 : Fld Z h34 b28 "com/example/fenceline/fenceline/model/Relation" "rows" "[J" (.ref b29) := F_rows_b28_29.keep Kc34 (ninS (Ne.symm ne_b26_b28) nin0)
      have A_b29_34 : own_A Z h34 b29 .long (N * (((N + (63 : Int32)).toUInt32 >>> ((6 : Int32) &&& 31).toUInt32).toInt32)) (fun i => .long (y30 i)) := own_A_keep A_b29_29 Kc34 (ninS (Ne.symm ne_b26_b29) nin0)
      have K34 := K29.trans Kc34 (allS (Or.inr sz_b26) all0)
      have Zs34 := Nat.le_trans Zs29 Kc34.1
      have O34 := O29.keep Kc34 (allS g_b26 all0)
      obtain ⟨y35, hy35⟩ : ∃ yy_ : Int32 → Int64, yy_ = (fun i => if i = ((A1F * (((N + (63 : Int32)).toUInt32 >>> ((6 : Int32) &&& 31).toUInt32).toInt32)) + ((A1T.toUInt32 >>> ((6 : Int32) &&& 31).toUInt32).toInt32)) then ((y27 ((A1F * (((N + (63 : Int32)).toUInt32 >>> ((6 : Int32) &&& 31).toUInt32).toInt32)) + ((A1T.toUInt32 >>> ((6 : Int32) &&& 31).toUInt32).toInt32))) ||| ((1 : Int64) <<< (A1T &&& 0x3f).toInt64)) else y27 i) := ⟨_, rfl⟩
      have A_b26_34 : own_A Z h34 b26 .long (N * (((N + (63 : Int32)).toUInt32 >>> ((6 : Int32) &&& 31).toUInt32).toInt32)) (fun i => .long (y35 i)) := by subst hy35; exact A_b26_34q
      have N34 := Fr.app N29 N34q
      have pre36 : ∀ t, Steps p.tables e below (T34.setTop (mkF m 195 #[.val (.int p1), .val (.long q2), .second, .val (.long q3), .second, .val (.int p4), .val (.int N), .val (.int A1F), .val (.int A1T), .val (.int A2F), .val (.int A2T), .val (.int v22), .val (.int v23), .val (.int C2F), .val (.int C2T), .val (.int v10), .val (.int v13), .val (.int v16), .val (.int v19), .val (.ref b25), .val (.ref b28), .unset, .unset, .unset, .unset, .unset, .unset, .unset] [])) t → Steps p.tables e below (s₁.setTop (entryFrame m #[(.int p1), (.long q2), (.long q3), (.int p4)] maxLocals)) t := fun t k => pre31 t (by
        show Steps p.tables e below (T29.setTop (mkF m 183 #[.val (.int p1), .val (.long q2), .second, .val (.long q3), .second, .val (.int p4), .val (.int N), .val (.int A1F), .val (.int A1T), .val (.int A2F), .val (.int A2T), .val (.int v22), .val (.int v23), .val (.int C2F), .val (.int C2T), .val (.int v10), .val (.int v13), .val (.int v16), .val (.int v19), .val (.ref b25), .val (.ref b28), .unset, .unset, .unset, .unset, .unset, .unset, .unset] [(.int v10)])) _
        refine XS.ifNo X29.here hx rfl (hb hby at_183) rfl ((if0 _ _).trans (feq hc32).1) ?_
        show Steps p.tables e below (T29.setTop (mkF m 186 #[.val (.int p1), .val (.long q2), .second, .val (.long q3), .second, .val (.int p4), .val (.int N), .val (.int A1F), .val (.int A1T), .val (.int A2F), .val (.int A2T), .val (.int v22), .val (.int v23), .val (.int C2F), .val (.int C2T), .val (.int v10), .val (.int v13), .val (.int v16), .val (.int v19), .val (.ref b25), .val (.ref b28), .unset, .unset, .unset, .unset, .unset, .unset, .unset] [])) _
        refine XS.aload X29.here hx rfl (hb hby at_186) rfl rfl ?_
        show Steps p.tables e below (T29.setTop (mkF m 188 #[.val (.int p1), .val (.long q2), .second, .val (.long q3), .second, .val (.int p4), .val (.int N), .val (.int A1F), .val (.int A1T), .val (.int A2F), .val (.int A2T), .val (.int v22), .val (.int v23), .val (.int C2F), .val (.int C2T), .val (.int v10), .val (.int v13), .val (.int v16), .val (.int v19), .val (.ref b25), .val (.ref b28), .unset, .unset, .unset, .unset, .unset, .unset, .unset] [(.ref b25)])) _
        refine XS.iload X29.here hx rfl (hb hby at_188) rfl ?_
        show Steps p.tables e below (T29.setTop (mkF m 190 #[.val (.int p1), .val (.long q2), .second, .val (.long q3), .second, .val (.int p4), .val (.int N), .val (.int A1F), .val (.int A1T), .val (.int A2F), .val (.int A2T), .val (.int v22), .val (.int v23), .val (.int C2F), .val (.int C2T), .val (.int v10), .val (.int v13), .val (.int v16), .val (.int v19), .val (.ref b25), .val (.ref b28), .unset, .unset, .unset, .unset, .unset, .unset, .unset] [(.int A1F), (.ref b25)])) _
        refine XS.iload X29.here hx rfl (hb hby at_190) rfl ?_
        show Steps p.tables e below (T29.setTop (mkF m 192 #[.val (.int p1), .val (.long q2), .second, .val (.long q3), .second, .val (.int p4), .val (.int N), .val (.int A1F), .val (.int A1T), .val (.int A2F), .val (.int A2T), .val (.int v22), .val (.int v23), .val (.int C2F), .val (.int C2T), .val (.int v10), .val (.int v13), .val (.int v16), .val (.int v19), .val (.ref b25), .val (.ref b28), .unset, .unset, .unset, .unset, .unset, .unset, .unset] [(.int A1T), (.int A1F), (.ref b25)])) _
        refine st34.trans ?_
        exact k)
      have evy38 : y38 = y35 := by subst hy35; exact hy38.trans (if_neg hc32)
      subst evy38
      exact ⟨T34, _, h34, X34, e34, N34, K34, Zs34, O34, E_b25_34, F_size_b25_34, F_words_b25_34, F_rows_b25_34, A_b26_34, E_b28_34, F_size_b28_34, F_words_b28_34, F_rows_b28_34, A_b29_34, pre36⟩
  obtain ⟨y46, hy46⟩ : ∃ z : Int32 → Int64, z = (if v13 = (0 : Int32) then y38 else (fun i => if i = ((A2F * (((N + (63 : Int32)).toUInt32 >>> ((6 : Int32) &&& 31).toUInt32).toInt32)) + ((A2T.toUInt32 >>> ((6 : Int32) &&& 31).toUInt32).toInt32)) then ((y38 ((A2F * (((N + (63 : Int32)).toUInt32 >>> ((6 : Int32) &&& 31).toUInt32).toInt32)) + ((A2T.toUInt32 >>> ((6 : Int32) &&& 31).toUInt32).toInt32))) ||| ((1 : Int64) <<< (A2T &&& 0x3f).toInt64)) else y38 i)) := ⟨_, rfl⟩
  have pre39 : ∀ t, Steps p.tables e below (T37.setTop (mkF m 197 #[.val (.int p1), .val (.long q2), .second, .val (.long q3), .second, .val (.int p4), .val (.int N), .val (.int A1F), .val (.int A1T), .val (.int A2F), .val (.int A2T), .val (.int v22), .val (.int v23), .val (.int C2F), .val (.int C2T), .val (.int v10), .val (.int v13), .val (.int v16), .val (.int v19), .val (.ref b25), .val (.ref b28), .unset, .unset, .unset, .unset, .unset, .unset, .unset] [(.int v13)])) t → Steps p.tables e below (s₁.setTop (entryFrame m #[(.int p1), (.long q2), (.long q3), (.int p4)] maxLocals)) t := fun t k => pre37 t (by
    show Steps p.tables e below (T37.setTop (mkF m 195 #[.val (.int p1), .val (.long q2), .second, .val (.long q3), .second, .val (.int p4), .val (.int N), .val (.int A1F), .val (.int A1T), .val (.int A2F), .val (.int A2T), .val (.int v22), .val (.int v23), .val (.int C2F), .val (.int C2T), .val (.int v10), .val (.int v13), .val (.int v16), .val (.int v19), .val (.ref b25), .val (.ref b28), .unset, .unset, .unset, .unset, .unset, .unset, .unset] [])) _
    refine XS.iload X37.here hx rfl (hb hby at_195) rfl ?_
    exact k)
  obtain ⟨T45, L45, h45, X45, e45, N45, K45, Zs45, O45, E_b25_45, F_size_b25_45, F_words_b25_45, F_rows_b25_45, A_b26_45, E_b28_45, F_size_b28_45, F_words_b28_45, F_rows_b28_45, A_b29_45, pre45⟩ : ∃ (T' : State) (L' : List Loc) (h' : Heap), Stand p l e room_1 s m #[(.int p1), (.long q2), (.long q3), (.int p4)] below meth c T' L' 4 518 ∧ T'.heap = h' ∧ Fr n0 L' ∧ Keep h0 h' ([] : List Addr) ∧ n0 ≤ h'.size ∧ Old Z n0 h' ∧ Exa Z h' b25 "com/example/fenceline/fenceline/model/Relation" ∧ Fld Z h' b25 "com/example/fenceline/fenceline/model/Relation" "size" "I" (.int N) ∧ Fld Z h' b25 "com/example/fenceline/fenceline/model/Relation" "words" "I" (.int (((N + (63 : Int32)).toUInt32 >>> ((6 : Int32) &&& 31).toUInt32).toInt32)) ∧ Fld Z h' b25 "com/example/fenceline/fenceline/model/Relation" "rows" "[J" (.ref b26) ∧ own_A Z h' b26 .long (N * (((N + (63 : Int32)).toUInt32 >>> ((6 : Int32) &&& 31).toUInt32).toInt32)) (fun i => .long (y46 i)) ∧ Exa Z h' b28 "com/example/fenceline/fenceline/model/Relation" ∧ Fld Z h' b28 "com/example/fenceline/fenceline/model/Relation" "size" "I" (.int N) ∧ Fld Z h' b28 "com/example/fenceline/fenceline/model/Relation" "words" "I" (.int (((N + (63 : Int32)).toUInt32 >>> ((6 : Int32) &&& 31).toUInt32).toInt32)) ∧ Fld Z h' b28 "com/example/fenceline/fenceline/model/Relation" "rows" "[J" (.ref b29) ∧ own_A Z h' b29 .long (N * (((N + (63 : Int32)).toUInt32 >>> ((6 : Int32) &&& 31).toUInt32).toInt32)) (fun i => .long (y30 i)) ∧ ∀ t, Steps p.tables e below (T'.setTop (mkF m 209 #[.val (.int p1), .val (.long q2), .second, .val (.long q3), .second, .val (.int p4), .val (.int N), .val (.int A1F), .val (.int A1T), .val (.int A2F), .val (.int A2T), .val (.int v22), .val (.int v23), .val (.int C2F), .val (.int C2T), .val (.int v10), .val (.int v13), .val (.int v16), .val (.int v19), .val (.ref b25), .val (.ref b28), .unset, .unset, .unset, .unset, .unset, .unset, .unset] [])) t → Steps p.tables e below (s₁.setTop (entryFrame m #[(.int p1), (.long q2), (.long q3), (.int p4)] maxLocals)) t := by
    by_cases hc40 : v13 = (0 : Int32)
    · have pre41 : ∀ t, Steps p.tables e below (T37.setTop (mkF m 209 #[.val (.int p1), .val (.long q2), .second, .val (.long q3), .second, .val (.int p4), .val (.int N), .val (.int A1F), .val (.int A1T), .val (.int A2F), .val (.int A2T), .val (.int v22), .val (.int v23), .val (.int C2F), .val (.int C2T), .val (.int v10), .val (.int v13), .val (.int v16), .val (.int v19), .val (.ref b25), .val (.ref b28), .unset, .unset, .unset, .unset, .unset, .unset, .unset] [])) t → Steps p.tables e below (s₁.setTop (entryFrame m #[(.int p1), (.long q2), (.long q3), (.int p4)] maxLocals)) t := fun t k => pre39 t (by
        show Steps p.tables e below (T37.setTop (mkF m 197 #[.val (.int p1), .val (.long q2), .second, .val (.long q3), .second, .val (.int p4), .val (.int N), .val (.int A1F), .val (.int A1T), .val (.int A2F), .val (.int A2T), .val (.int v22), .val (.int v23), .val (.int C2F), .val (.int C2T), .val (.int v10), .val (.int v13), .val (.int v16), .val (.int v19), .val (.ref b25), .val (.ref b28), .unset, .unset, .unset, .unset, .unset, .unset, .unset] [(.int v13)])) _
        refine XS.ifYes X37.here hx rfl (pc0 := 197) (pc' := 209) rfl (hb hby at_197) rfl ((if0 _ _).trans (teq hc40).1) (by decide) (by decide) ?_
        exact k)
      have evy46 : y46 = y38 := by exact hy46.trans (if_pos hc40)
      subst evy46
      exact ⟨T37, _, h37, X37, e37, N37, K37, Zs37, O37, E_b25_37, F_size_b25_37, F_words_b25_37, F_rows_b25_37, A_b26_37, E_b28_37, F_size_b28_37, F_words_b28_37, F_rows_b28_37, A_b29_37, pre41⟩
    · obtain ⟨cq42, kq42, q42a, q42b, q42c⟩ := isOf hZ e37 E_b25_37
      obtain ⟨_, _, ⟨T42, L42, k42, n42⟩, -, X42, ⟨Lc42, hQ42, l42, y42, z42⟩, st42⟩ := X37.virtualBack hx (y := (⟨"com/example/fenceline/fenceline/model/Relation", "add", "(II)V"⟩ : MethodName)) (z := (⟨"com/example/fenceline/fenceline/model/Relation", "add", "(II)V"⟩ : MethodName)) hown (mvT hZ (hw _ (List.mem_of_getElem? (i := 26) rfl))) (mvT hZ (hw _ (List.mem_of_getElem? (i := 27) rfl))) (notFace_of_selects (args := #[]) (mvT hZ (hw _ (List.mem_of_getElem? (i := 29) rfl)))) (mvT hZ (hw _ (List.mem_of_getElem? (i := 29) rfl))) (mvT hZ (hw _ (List.mem_of_getElem? (i := 28) rfl))) (by decide) (backOf (W := 0) (rm5 l Z a0 hw [] b25 A2F A2T b26 (((N + (63 : Int32)).toUInt32 >>> ((6 : Int32) &&& 31).toUInt32).toInt32) (N * (((N + (63 : Int32)).toUInt32 >>> ((6 : Int32) &&& 31).toUInt32).toInt32)) y38 h37 n0 Zs37 F_rows_b25_37 F_words_b25_37 A_b26_37 ne_b25_b26 g_b26 (own_I_in (own_N1 hN).1 (own_N1 hN).2 (own_rf (own_N1 hN) hA2F) (own_rf (own_N1 hN) hA2T))) hZ (hw _ (List.mem_of_getElem? (i := 30) rfl)) (hw _ (List.mem_of_getElem? (i := 7) rfl)) (by decide) (by decide)) q42a q42c (g := (mkF m 206 #[.val (.int p1), .val (.long q2), .second, .val (.long q3), .second, .val (.int p4), .val (.int N), .val (.int A1F), .val (.int A1T), .val (.int A2F), .val (.int A2T), .val (.int v22), .val (.int v23), .val (.int C2F), .val (.int C2T), .val (.int v10), .val (.int v13), .val (.int v16), .val (.int v19), .val (.ref b25), .val (.ref b28), .unset, .unset, .unset, .unset, .unset, .unset, .unset] [(.int A2T), (.int A2F), (.ref b25)])) rfl (by rw [hml]; rfl) (Steps.refl _) (argsL := [(.int A2F), (.int A2T)]) (rest := []) (lenOf pd_2 rfl) rfl (by show 2 * 0 + _ ≤ _; exact Nat.le_of_eq rfl) (hb hby at_206) (fun _ _ => ⟨rfl, e37, (by decide : 4 + 0 ≤ _), (by decide : 518 + 0 ≤ _)⟩)
      dsimp only [Pt.U, Pt.locs, Pt.cells, Pt.slots] at X42 l42 y42 z42 st42 hQ42
      subst l42 y42 z42
      obtain ⟨h42, e42⟩ : ∃ z, T42.heap = z := ⟨_, rfl⟩
      rw [e42] at hQ42
      obtain ⟨rfl, N42q, Kc42, A_b26_42q⟩ := hQ42
      have E_b25_42 : Exa Z h42 b25 "com/example/fenceline/fenceline/model/Relation" := E_b25_37.keep Kc42
      have F_size_b25_42 : Fld Z h42 b25 "com/example/fenceline/fenceline/model/Relation" "size" "I" (.int N) := F_size_b25_37.keep Kc42 (ninS ne_b25_b26 nin0)
      have F_words_b25_42 : Fld Z h42 b25 "com/example/fenceline/fenceline/model/Relation" "words" "I" (.int (((N + (63 : Int32)).toUInt32 >>> ((6 : Int32) &&& 31).toUInt32).toInt32)) := F_words_b25_37.keep Kc42 (ninS ne_b25_b26 nin0)
      have F_rows_b25_42 : Fld Z h42 b25 "com/example/fenceline/fenceline/model/Relation" "rows" "[J" (.ref b26) := F_rows_b25_37.keep Kc42 (ninS ne_b25_b26 nin0)
      have E_b28_42 : Exa Z h42 b28 "com/example/fenceline/fenceline/model/Relation" := E_b28_37.keep Kc42
      have F_size_b28_42 : Fld Z h42 b28 "com/example/fenceline/fenceline/model/Relation" "size" "I" (.int N) := F_size_b28_37.keep Kc42 (ninS (Ne.symm ne_b26_b28) nin0)
      have F_words_b28_42 : Fld Z h42 b28 "com/example/fenceline/fenceline/model/Relation" "words" "I" (.int (((N + (63 : Int32)).toUInt32 >>> ((6 : Int32) &&& 31).toUInt32).toInt32)) := F_words_b28_37.keep Kc42 (ninS (Ne.symm ne_b26_b28) nin0)
      have F_rows_b28_42 : Fld Z h42 b28 "com/example/fenceline/fenceline/model/Relation" "rows" "[J" (.ref b29) := F_rows_b28_37.keep Kc42 (ninS (Ne.symm ne_b26_b28) nin0)
      have A_b29_42 : own_A Z h42 b29 .long (N * (((N + (63 : Int32)).toUInt32 >>> ((6 : Int32) &&& 31).toUInt32).toInt32)) (fun i => .long (y30 i)) := own_A_keep A_b29_37 Kc42 (ninS (Ne.symm ne_b26_b29) nin0)
      have K42 := K37.trans Kc42 (allS (Or.inr sz_b26) all0)
      have Zs42 := Nat.le_trans Zs37 Kc42.1
      have O42 := O37.keep Kc42 (allS g_b26 all0)
      obtain ⟨y43, hy43⟩ : ∃ yy_ : Int32 → Int64, yy_ = (fun i => if i = ((A2F * (((N + (63 : Int32)).toUInt32 >>> ((6 : Int32) &&& 31).toUInt32).toInt32)) + ((A2T.toUInt32 >>> ((6 : Int32) &&& 31).toUInt32).toInt32)) then ((y38 ((A2F * (((N + (63 : Int32)).toUInt32 >>> ((6 : Int32) &&& 31).toUInt32).toInt32)) + ((A2T.toUInt32 >>> ((6 : Int32) &&& 31).toUInt32).toInt32))) ||| ((1 : Int64) <<< (A2T &&& 0x3f).toInt64)) else y38 i) := ⟨_, rfl⟩
      have A_b26_42 : own_A Z h42 b26 .long (N * (((N + (63 : Int32)).toUInt32 >>> ((6 : Int32) &&& 31).toUInt32).toInt32)) (fun i => .long (y43 i)) := by subst hy43; exact A_b26_42q
      have N42 := Fr.app N37 N42q
      have pre44 : ∀ t, Steps p.tables e below (T42.setTop (mkF m 209 #[.val (.int p1), .val (.long q2), .second, .val (.long q3), .second, .val (.int p4), .val (.int N), .val (.int A1F), .val (.int A1T), .val (.int A2F), .val (.int A2T), .val (.int v22), .val (.int v23), .val (.int C2F), .val (.int C2T), .val (.int v10), .val (.int v13), .val (.int v16), .val (.int v19), .val (.ref b25), .val (.ref b28), .unset, .unset, .unset, .unset, .unset, .unset, .unset] [])) t → Steps p.tables e below (s₁.setTop (entryFrame m #[(.int p1), (.long q2), (.long q3), (.int p4)] maxLocals)) t := fun t k => pre39 t (by
        show Steps p.tables e below (T37.setTop (mkF m 197 #[.val (.int p1), .val (.long q2), .second, .val (.long q3), .second, .val (.int p4), .val (.int N), .val (.int A1F), .val (.int A1T), .val (.int A2F), .val (.int A2T), .val (.int v22), .val (.int v23), .val (.int C2F), .val (.int C2T), .val (.int v10), .val (.int v13), .val (.int v16), .val (.int v19), .val (.ref b25), .val (.ref b28), .unset, .unset, .unset, .unset, .unset, .unset, .unset] [(.int v13)])) _
        refine XS.ifNo X37.here hx rfl (hb hby at_197) rfl ((if0 _ _).trans (feq hc40).1) ?_
        show Steps p.tables e below (T37.setTop (mkF m 200 #[.val (.int p1), .val (.long q2), .second, .val (.long q3), .second, .val (.int p4), .val (.int N), .val (.int A1F), .val (.int A1T), .val (.int A2F), .val (.int A2T), .val (.int v22), .val (.int v23), .val (.int C2F), .val (.int C2T), .val (.int v10), .val (.int v13), .val (.int v16), .val (.int v19), .val (.ref b25), .val (.ref b28), .unset, .unset, .unset, .unset, .unset, .unset, .unset] [])) _
        refine XS.aload X37.here hx rfl (hb hby at_200) rfl rfl ?_
        show Steps p.tables e below (T37.setTop (mkF m 202 #[.val (.int p1), .val (.long q2), .second, .val (.long q3), .second, .val (.int p4), .val (.int N), .val (.int A1F), .val (.int A1T), .val (.int A2F), .val (.int A2T), .val (.int v22), .val (.int v23), .val (.int C2F), .val (.int C2T), .val (.int v10), .val (.int v13), .val (.int v16), .val (.int v19), .val (.ref b25), .val (.ref b28), .unset, .unset, .unset, .unset, .unset, .unset, .unset] [(.ref b25)])) _
        refine XS.iload X37.here hx rfl (hb hby at_202) rfl ?_
        show Steps p.tables e below (T37.setTop (mkF m 204 #[.val (.int p1), .val (.long q2), .second, .val (.long q3), .second, .val (.int p4), .val (.int N), .val (.int A1F), .val (.int A1T), .val (.int A2F), .val (.int A2T), .val (.int v22), .val (.int v23), .val (.int C2F), .val (.int C2T), .val (.int v10), .val (.int v13), .val (.int v16), .val (.int v19), .val (.ref b25), .val (.ref b28), .unset, .unset, .unset, .unset, .unset, .unset, .unset] [(.int A2F), (.ref b25)])) _
        refine XS.iload X37.here hx rfl (hb hby at_204) rfl ?_
        show Steps p.tables e below (T37.setTop (mkF m 206 #[.val (.int p1), .val (.long q2), .second, .val (.long q3), .second, .val (.int p4), .val (.int N), .val (.int A1F), .val (.int A1T), .val (.int A2F), .val (.int A2T), .val (.int v22), .val (.int v23), .val (.int C2F), .val (.int C2T), .val (.int v10), .val (.int v13), .val (.int v16), .val (.int v19), .val (.ref b25), .val (.ref b28), .unset, .unset, .unset, .unset, .unset, .unset, .unset] [(.int A2T), (.int A2F), (.ref b25)])) _
        refine st42.trans ?_
        exact k)
      have evy46 : y46 = y43 := by subst hy43; exact hy46.trans (if_neg hc40)
      subst evy46
      exact ⟨T42, _, h42, X42, e42, N42, K42, Zs42, O42, E_b25_42, F_size_b25_42, F_words_b25_42, F_rows_b25_42, A_b26_42, E_b28_42, F_size_b28_42, F_words_b28_42, F_rows_b28_42, A_b29_42, pre44⟩
  obtain ⟨y54, hy54⟩ : ∃ z : Int32 → Int64, z = (if v16 = (0 : Int32) then y30 else (fun i => if i = ((v22 * (((N + (63 : Int32)).toUInt32 >>> ((6 : Int32) &&& 31).toUInt32).toInt32)) + ((v23.toUInt32 >>> ((6 : Int32) &&& 31).toUInt32).toInt32)) then ((y30 ((v22 * (((N + (63 : Int32)).toUInt32 >>> ((6 : Int32) &&& 31).toUInt32).toInt32)) + ((v23.toUInt32 >>> ((6 : Int32) &&& 31).toUInt32).toInt32))) ||| ((1 : Int64) <<< (v23 &&& 0x3f).toInt64)) else y30 i)) := ⟨_, rfl⟩
  have pre47 : ∀ t, Steps p.tables e below (T45.setTop (mkF m 211 #[.val (.int p1), .val (.long q2), .second, .val (.long q3), .second, .val (.int p4), .val (.int N), .val (.int A1F), .val (.int A1T), .val (.int A2F), .val (.int A2T), .val (.int v22), .val (.int v23), .val (.int C2F), .val (.int C2T), .val (.int v10), .val (.int v13), .val (.int v16), .val (.int v19), .val (.ref b25), .val (.ref b28), .unset, .unset, .unset, .unset, .unset, .unset, .unset] [(.int v16)])) t → Steps p.tables e below (s₁.setTop (entryFrame m #[(.int p1), (.long q2), (.long q3), (.int p4)] maxLocals)) t := fun t k => pre45 t (by
    show Steps p.tables e below (T45.setTop (mkF m 209 #[.val (.int p1), .val (.long q2), .second, .val (.long q3), .second, .val (.int p4), .val (.int N), .val (.int A1F), .val (.int A1T), .val (.int A2F), .val (.int A2T), .val (.int v22), .val (.int v23), .val (.int C2F), .val (.int C2T), .val (.int v10), .val (.int v13), .val (.int v16), .val (.int v19), .val (.ref b25), .val (.ref b28), .unset, .unset, .unset, .unset, .unset, .unset, .unset] [])) _
    refine XS.iload X45.here hx rfl (hb hby at_209) rfl ?_
    exact k)
  obtain ⟨T53, L53, h53, X53, e53, N53, K53, Zs53, O53, E_b25_53, F_size_b25_53, F_words_b25_53, F_rows_b25_53, A_b26_53, E_b28_53, F_size_b28_53, F_words_b28_53, F_rows_b28_53, A_b29_53, pre53⟩ : ∃ (T' : State) (L' : List Loc) (h' : Heap), Stand p l e room_1 s m #[(.int p1), (.long q2), (.long q3), (.int p4)] below meth c T' L' 4 518 ∧ T'.heap = h' ∧ Fr n0 L' ∧ Keep h0 h' ([] : List Addr) ∧ n0 ≤ h'.size ∧ Old Z n0 h' ∧ Exa Z h' b25 "com/example/fenceline/fenceline/model/Relation" ∧ Fld Z h' b25 "com/example/fenceline/fenceline/model/Relation" "size" "I" (.int N) ∧ Fld Z h' b25 "com/example/fenceline/fenceline/model/Relation" "words" "I" (.int (((N + (63 : Int32)).toUInt32 >>> ((6 : Int32) &&& 31).toUInt32).toInt32)) ∧ Fld Z h' b25 "com/example/fenceline/fenceline/model/Relation" "rows" "[J" (.ref b26) ∧ own_A Z h' b26 .long (N * (((N + (63 : Int32)).toUInt32 >>> ((6 : Int32) &&& 31).toUInt32).toInt32)) (fun i => .long (y46 i)) ∧ Exa Z h' b28 "com/example/fenceline/fenceline/model/Relation" ∧ Fld Z h' b28 "com/example/fenceline/fenceline/model/Relation" "size" "I" (.int N) ∧ Fld Z h' b28 "com/example/fenceline/fenceline/model/Relation" "words" "I" (.int (((N + (63 : Int32)).toUInt32 >>> ((6 : Int32) &&& 31).toUInt32).toInt32)) ∧ Fld Z h' b28 "com/example/fenceline/fenceline/model/Relation" "rows" "[J" (.ref b29) ∧ own_A Z h' b29 .long (N * (((N + (63 : Int32)).toUInt32 >>> ((6 : Int32) &&& 31).toUInt32).toInt32)) (fun i => .long (y54 i)) ∧ ∀ t, Steps p.tables e below (T'.setTop (mkF m 223 #[.val (.int p1), .val (.long q2), .second, .val (.long q3), .second, .val (.int p4), .val (.int N), .val (.int A1F), .val (.int A1T), .val (.int A2F), .val (.int A2T), .val (.int v22), .val (.int v23), .val (.int C2F), .val (.int C2T), .val (.int v10), .val (.int v13), .val (.int v16), .val (.int v19), .val (.ref b25), .val (.ref b28), .unset, .unset, .unset, .unset, .unset, .unset, .unset] [])) t → Steps p.tables e below (s₁.setTop (entryFrame m #[(.int p1), (.long q2), (.long q3), (.int p4)] maxLocals)) t := by
    by_cases hc48 : v16 = (0 : Int32)
    · have pre49 : ∀ t, Steps p.tables e below (T45.setTop (mkF m 223 #[.val (.int p1), .val (.long q2), .second, .val (.long q3), .second, .val (.int p4), .val (.int N), .val (.int A1F), .val (.int A1T), .val (.int A2F), .val (.int A2T), .val (.int v22), .val (.int v23), .val (.int C2F), .val (.int C2T), .val (.int v10), .val (.int v13), .val (.int v16), .val (.int v19), .val (.ref b25), .val (.ref b28), .unset, .unset, .unset, .unset, .unset, .unset, .unset] [])) t → Steps p.tables e below (s₁.setTop (entryFrame m #[(.int p1), (.long q2), (.long q3), (.int p4)] maxLocals)) t := fun t k => pre47 t (by
        show Steps p.tables e below (T45.setTop (mkF m 211 #[.val (.int p1), .val (.long q2), .second, .val (.long q3), .second, .val (.int p4), .val (.int N), .val (.int A1F), .val (.int A1T), .val (.int A2F), .val (.int A2T), .val (.int v22), .val (.int v23), .val (.int C2F), .val (.int C2T), .val (.int v10), .val (.int v13), .val (.int v16), .val (.int v19), .val (.ref b25), .val (.ref b28), .unset, .unset, .unset, .unset, .unset, .unset, .unset] [(.int v16)])) _
        refine XS.ifYes X45.here hx rfl (pc0 := 211) (pc' := 223) rfl (hb hby at_211) rfl ((if0 _ _).trans (teq hc48).1) (by decide) (by decide) ?_
        exact k)
      have evy54 : y54 = y30 := by exact hy54.trans (if_pos hc48)
      subst evy54
      exact ⟨T45, _, h45, X45, e45, N45, K45, Zs45, O45, E_b25_45, F_size_b25_45, F_words_b25_45, F_rows_b25_45, A_b26_45, E_b28_45, F_size_b28_45, F_words_b28_45, F_rows_b28_45, A_b29_45, pre49⟩
    · obtain ⟨cq50, kq50, q50a, q50b, q50c⟩ := isOf hZ e45 E_b28_45
      obtain ⟨_, _, ⟨T50, L50, k50, n50⟩, -, X50, ⟨Lc50, hQ50, l50, y50, z50⟩, st50⟩ := X45.virtualBack hx (y := (⟨"com/example/fenceline/fenceline/model/Relation", "add", "(II)V"⟩ : MethodName)) (z := (⟨"com/example/fenceline/fenceline/model/Relation", "add", "(II)V"⟩ : MethodName)) hown (mvT hZ (hw _ (List.mem_of_getElem? (i := 26) rfl))) (mvT hZ (hw _ (List.mem_of_getElem? (i := 27) rfl))) (notFace_of_selects (args := #[]) (mvT hZ (hw _ (List.mem_of_getElem? (i := 29) rfl)))) (mvT hZ (hw _ (List.mem_of_getElem? (i := 29) rfl))) (mvT hZ (hw _ (List.mem_of_getElem? (i := 28) rfl))) (by decide) (backOf (W := 0) (rm5 l Z a0 hw [] b28 v22 v23 b29 (((N + (63 : Int32)).toUInt32 >>> ((6 : Int32) &&& 31).toUInt32).toInt32) (N * (((N + (63 : Int32)).toUInt32 >>> ((6 : Int32) &&& 31).toUInt32).toInt32)) y30 h45 n0 Zs45 F_rows_b28_45 F_words_b28_45 A_b29_45 ne_b28_b29 g_b29 (own_I_in (own_N1 hN).1 (own_N1 hN).2 (own_if (P := fun z => 0 ≤ z.toInt ∧ z.toInt < N.toInt) hv22 (own_rf (own_N1 hN) hC1F) (own_rf (own_N1 hN) hA2F)) (own_if (P := fun z => 0 ≤ z.toInt ∧ z.toInt < N.toInt) hv23 (own_rf (own_N1 hN) hC1T) (own_rf (own_N1 hN) hA2T)))) hZ (hw _ (List.mem_of_getElem? (i := 30) rfl)) (hw _ (List.mem_of_getElem? (i := 7) rfl)) (by decide) (by decide)) q50a q50c (g := (mkF m 220 #[.val (.int p1), .val (.long q2), .second, .val (.long q3), .second, .val (.int p4), .val (.int N), .val (.int A1F), .val (.int A1T), .val (.int A2F), .val (.int A2T), .val (.int v22), .val (.int v23), .val (.int C2F), .val (.int C2T), .val (.int v10), .val (.int v13), .val (.int v16), .val (.int v19), .val (.ref b25), .val (.ref b28), .unset, .unset, .unset, .unset, .unset, .unset, .unset] [(.int v23), (.int v22), (.ref b28)])) rfl (by rw [hml]; rfl) (Steps.refl _) (argsL := [(.int v22), (.int v23)]) (rest := []) (lenOf pd_2 rfl) rfl (by show 2 * 0 + _ ≤ _; exact Nat.le_of_eq rfl) (hb hby at_220) (fun _ _ => ⟨rfl, e45, (by decide : 4 + 0 ≤ _), (by decide : 518 + 0 ≤ _)⟩)
      dsimp only [Pt.U, Pt.locs, Pt.cells, Pt.slots] at X50 l50 y50 z50 st50 hQ50
      subst l50 y50 z50
      obtain ⟨h50, e50⟩ : ∃ z, T50.heap = z := ⟨_, rfl⟩
      rw [e50] at hQ50
      obtain ⟨rfl, N50q, Kc50, A_b29_50q⟩ := hQ50
      have E_b25_50 : Exa Z h50 b25 "com/example/fenceline/fenceline/model/Relation" := E_b25_45.keep Kc50
      have F_size_b25_50 : Fld Z h50 b25 "com/example/fenceline/fenceline/model/Relation" "size" "I" (.int N) := F_size_b25_45.keep Kc50 (ninS ne_b25_b29 nin0)
      have F_words_b25_50 : Fld Z h50 b25 "com/example/fenceline/fenceline/model/Relation" "words" "I" (.int (((N + (63 : Int32)).toUInt32 >>> ((6 : Int32) &&& 31).toUInt32).toInt32)) := F_words_b25_45.keep Kc50 (ninS ne_b25_b29 nin0)
      have F_rows_b25_50 : Fld Z h50 b25 "com/example/fenceline/fenceline/model/Relation" "rows" "[J" (.ref b26) := F_rows_b25_45.keep Kc50 (ninS ne_b25_b29 nin0)
      have A_b26_50 : own_A Z h50 b26 .long (N * (((N + (63 : Int32)).toUInt32 >>> ((6 : Int32) &&& 31).toUInt32).toInt32)) (fun i => .long (y46 i)) := own_A_keep A_b26_45 Kc50 (ninS ne_b26_b29 nin0)
      have E_b28_50 : Exa Z h50 b28 "com/example/fenceline/fenceline/model/Relation" := E_b28_45.keep Kc50
      have F_size_b28_50 : Fld Z h50 b28 "com/example/fenceline/fenceline/model/Relation" "size" "I" (.int N) := F_size_b28_45.keep Kc50 (ninS ne_b28_b29 nin0)
      have F_words_b28_50 : Fld Z h50 b28 "com/example/fenceline/fenceline/model/Relation" "words" "I" (.int (((N + (63 : Int32)).toUInt32 >>> ((6 : Int32) &&& 31).toUInt32).toInt32)) := F_words_b28_45.keep Kc50 (ninS ne_b28_b29 nin0)
      have F_rows_b28_50 : Fld Z h50 b28 "com/example/fenceline/fenceline/model/Relation" "rows" "[J" (.ref b29) := F_rows_b28_45.keep Kc50 (ninS ne_b28_b29 nin0)
      have K50 := K45.trans Kc50 (allS (Or.inr sz_b29) all0)
      have Zs50 := Nat.le_trans Zs45 Kc50.1
      have O50 := O45.keep Kc50 (allS g_b29 all0)
      obtain ⟨y51, hy51⟩ : ∃ yy_ : Int32 → Int64, yy_ = (fun i => if i = ((v22 * (((N + (63 : Int32)).toUInt32 >>> ((6 : Int32) &&& 31).toUInt32).toInt32)) + ((v23.toUInt32 >>> ((6 : Int32) &&& 31).toUInt32).toInt32)) then ((y30 ((v22 * (((N + (63 : Int32)).toUInt32 >>> ((6 : Int32) &&& 31).toUInt32).toInt32)) + ((v23.toUInt32 >>> ((6 : Int32) &&& 31).toUInt32).toInt32))) ||| ((1 : Int64) <<< (v23 &&& 0x3f).toInt64)) else y30 i) := ⟨_, rfl⟩
      have A_b29_50 : own_A Z h50 b29 .long (N * (((N + (63 : Int32)).toUInt32 >>> ((6 : Int32) &&& 31).toUInt32).toInt32)) (fun i => .long (y51 i)) := by subst hy51; exact A_b29_50q
      have N50 := Fr.app N45 N50q
      have pre52 : ∀ t, Steps p.tables e below (T50.setTop (mkF m 223 #[.val (.int p1), .val (.long q2), .second, .val (.long q3), .second, .val (.int p4), .val (.int N), .val (.int A1F), .val (.int A1T), .val (.int A2F), .val (.int A2T), .val (.int v22), .val (.int v23), .val (.int C2F), .val (.int C2T), .val (.int v10), .val (.int v13), .val (.int v16), .val (.int v19), .val (.ref b25), .val (.ref b28), .unset, .unset, .unset, .unset, .unset, .unset, .unset] [])) t → Steps p.tables e below (s₁.setTop (entryFrame m #[(.int p1), (.long q2), (.long q3), (.int p4)] maxLocals)) t := fun t k => pre47 t (by
        show Steps p.tables e below (T45.setTop (mkF m 211 #[.val (.int p1), .val (.long q2), .second, .val (.long q3), .second, .val (.int p4), .val (.int N), .val (.int A1F), .val (.int A1T), .val (.int A2F), .val (.int A2T), .val (.int v22), .val (.int v23), .val (.int C2F), .val (.int C2T), .val (.int v10), .val (.int v13), .val (.int v16), .val (.int v19), .val (.ref b25), .val (.ref b28), .unset, .unset, .unset, .unset, .unset, .unset, .unset] [(.int v16)])) _
        refine XS.ifNo X45.here hx rfl (hb hby at_211) rfl ((if0 _ _).trans (feq hc48).1) ?_
        show Steps p.tables e below (T45.setTop (mkF m 214 #[.val (.int p1), .val (.long q2), .second, .val (.long q3), .second, .val (.int p4), .val (.int N), .val (.int A1F), .val (.int A1T), .val (.int A2F), .val (.int A2T), .val (.int v22), .val (.int v23), .val (.int C2F), .val (.int C2T), .val (.int v10), .val (.int v13), .val (.int v16), .val (.int v19), .val (.ref b25), .val (.ref b28), .unset, .unset, .unset, .unset, .unset, .unset, .unset] [])) _
        refine XS.aload X45.here hx rfl (hb hby at_214) rfl rfl ?_
        show Steps p.tables e below (T45.setTop (mkF m 216 #[.val (.int p1), .val (.long q2), .second, .val (.long q3), .second, .val (.int p4), .val (.int N), .val (.int A1F), .val (.int A1T), .val (.int A2F), .val (.int A2T), .val (.int v22), .val (.int v23), .val (.int C2F), .val (.int C2T), .val (.int v10), .val (.int v13), .val (.int v16), .val (.int v19), .val (.ref b25), .val (.ref b28), .unset, .unset, .unset, .unset, .unset, .unset, .unset] [(.ref b28)])) _
        refine XS.iload X45.here hx rfl (hb hby at_216) rfl ?_
        show Steps p.tables e below (T45.setTop (mkF m 218 #[.val (.int p1), .val (.long q2), .second, .val (.long q3), .second, .val (.int p4), .val (.int N), .val (.int A1F), .val (.int A1T), .val (.int A2F), .val (.int A2T), .val (.int v22), .val (.int v23), .val (.int C2F), .val (.int C2T), .val (.int v10), .val (.int v13), .val (.int v16), .val (.int v19), .val (.ref b25), .val (.ref b28), .unset, .unset, .unset, .unset, .unset, .unset, .unset] [(.int v22), (.ref b28)])) _
        refine XS.iload X45.here hx rfl (hb hby at_218) rfl ?_
        show Steps p.tables e below (T45.setTop (mkF m 220 #[.val (.int p1), .val (.long q2), .second, .val (.long q3), .second, .val (.int p4), .val (.int N), .val (.int A1F), .val (.int A1T), .val (.int A2F), .val (.int A2T), .val (.int v22), .val (.int v23), .val (.int C2F), .val (.int C2T), .val (.int v10), .val (.int v13), .val (.int v16), .val (.int v19), .val (.ref b25), .val (.ref b28), .unset, .unset, .unset, .unset, .unset, .unset, .unset] [(.int v23), (.int v22), (.ref b28)])) _
        refine st50.trans ?_
        exact k)
      have evy54 : y54 = y51 := by subst hy51; exact hy54.trans (if_neg hc48)
      subst evy54
      exact ⟨T50, _, h50, X50, e50, N50, K50, Zs50, O50, E_b25_50, F_size_b25_50, F_words_b25_50, F_rows_b25_50, A_b26_50, E_b28_50, F_size_b28_50, F_words_b28_50, F_rows_b28_50, A_b29_50, pre52⟩
  obtain ⟨y62, hy62⟩ : ∃ z : Int32 → Int64, z = (if v19 = (0 : Int32) then y54 else (fun i => if i = ((C2F * (((N + (63 : Int32)).toUInt32 >>> ((6 : Int32) &&& 31).toUInt32).toInt32)) + ((C2T.toUInt32 >>> ((6 : Int32) &&& 31).toUInt32).toInt32)) then ((y54 ((C2F * (((N + (63 : Int32)).toUInt32 >>> ((6 : Int32) &&& 31).toUInt32).toInt32)) + ((C2T.toUInt32 >>> ((6 : Int32) &&& 31).toUInt32).toInt32))) ||| ((1 : Int64) <<< (C2T &&& 0x3f).toInt64)) else y54 i)) := ⟨_, rfl⟩
  have pre55 : ∀ t, Steps p.tables e below (T53.setTop (mkF m 225 #[.val (.int p1), .val (.long q2), .second, .val (.long q3), .second, .val (.int p4), .val (.int N), .val (.int A1F), .val (.int A1T), .val (.int A2F), .val (.int A2T), .val (.int v22), .val (.int v23), .val (.int C2F), .val (.int C2T), .val (.int v10), .val (.int v13), .val (.int v16), .val (.int v19), .val (.ref b25), .val (.ref b28), .unset, .unset, .unset, .unset, .unset, .unset, .unset] [(.int v19)])) t → Steps p.tables e below (s₁.setTop (entryFrame m #[(.int p1), (.long q2), (.long q3), (.int p4)] maxLocals)) t := fun t k => pre53 t (by
    show Steps p.tables e below (T53.setTop (mkF m 223 #[.val (.int p1), .val (.long q2), .second, .val (.long q3), .second, .val (.int p4), .val (.int N), .val (.int A1F), .val (.int A1T), .val (.int A2F), .val (.int A2T), .val (.int v22), .val (.int v23), .val (.int C2F), .val (.int C2T), .val (.int v10), .val (.int v13), .val (.int v16), .val (.int v19), .val (.ref b25), .val (.ref b28), .unset, .unset, .unset, .unset, .unset, .unset, .unset] [])) _
    refine XS.iload X53.here hx rfl (hb hby at_223) rfl ?_
    exact k)
  obtain ⟨T61, L61, h61, X61, e61, N61, K61, Zs61, O61, E_b25_61, F_size_b25_61, F_words_b25_61, F_rows_b25_61, A_b26_61, E_b28_61, F_size_b28_61, F_words_b28_61, F_rows_b28_61, A_b29_61, pre61⟩ : ∃ (T' : State) (L' : List Loc) (h' : Heap), Stand p l e room_1 s m #[(.int p1), (.long q2), (.long q3), (.int p4)] below meth c T' L' 4 518 ∧ T'.heap = h' ∧ Fr n0 L' ∧ Keep h0 h' ([] : List Addr) ∧ n0 ≤ h'.size ∧ Old Z n0 h' ∧ Exa Z h' b25 "com/example/fenceline/fenceline/model/Relation" ∧ Fld Z h' b25 "com/example/fenceline/fenceline/model/Relation" "size" "I" (.int N) ∧ Fld Z h' b25 "com/example/fenceline/fenceline/model/Relation" "words" "I" (.int (((N + (63 : Int32)).toUInt32 >>> ((6 : Int32) &&& 31).toUInt32).toInt32)) ∧ Fld Z h' b25 "com/example/fenceline/fenceline/model/Relation" "rows" "[J" (.ref b26) ∧ own_A Z h' b26 .long (N * (((N + (63 : Int32)).toUInt32 >>> ((6 : Int32) &&& 31).toUInt32).toInt32)) (fun i => .long (y46 i)) ∧ Exa Z h' b28 "com/example/fenceline/fenceline/model/Relation" ∧ Fld Z h' b28 "com/example/fenceline/fenceline/model/Relation" "size" "I" (.int N) ∧ Fld Z h' b28 "com/example/fenceline/fenceline/model/Relation" "words" "I" (.int (((N + (63 : Int32)).toUInt32 >>> ((6 : Int32) &&& 31).toUInt32).toInt32)) ∧ Fld Z h' b28 "com/example/fenceline/fenceline/model/Relation" "rows" "[J" (.ref b29) ∧ own_A Z h' b29 .long (N * (((N + (63 : Int32)).toUInt32 >>> ((6 : Int32) &&& 31).toUInt32).toInt32)) (fun i => .long (y62 i)) ∧ ∀ t, Steps p.tables e below (T'.setTop (mkF m 237 #[.val (.int p1), .val (.long q2), .second, .val (.long q3), .second, .val (.int p4), .val (.int N), .val (.int A1F), .val (.int A1T), .val (.int A2F), .val (.int A2T), .val (.int v22), .val (.int v23), .val (.int C2F), .val (.int C2T), .val (.int v10), .val (.int v13), .val (.int v16), .val (.int v19), .val (.ref b25), .val (.ref b28), .unset, .unset, .unset, .unset, .unset, .unset, .unset] [])) t → Steps p.tables e below (s₁.setTop (entryFrame m #[(.int p1), (.long q2), (.long q3), (.int p4)] maxLocals)) t := by
    by_cases hc56 : v19 = (0 : Int32)
    · have pre57 : ∀ t, Steps p.tables e below (T53.setTop (mkF m 237 #[.val (.int p1), .val (.long q2), .second, .val (.long q3), .second, .val (.int p4), .val (.int N), .val (.int A1F), .val (.int A1T), .val (.int A2F), .val (.int A2T), .val (.int v22), .val (.int v23), .val (.int C2F), .val (.int C2T), .val (.int v10), .val (.int v13), .val (.int v16), .val (.int v19), .val (.ref b25), .val (.ref b28), .unset, .unset, .unset, .unset, .unset, .unset, .unset] [])) t → Steps p.tables e below (s₁.setTop (entryFrame m #[(.int p1), (.long q2), (.long q3), (.int p4)] maxLocals)) t := fun t k => pre55 t (by
        show Steps p.tables e below (T53.setTop (mkF m 225 #[.val (.int p1), .val (.long q2), .second, .val (.long q3), .second, .val (.int p4), .val (.int N), .val (.int A1F), .val (.int A1T), .val (.int A2F), .val (.int A2T), .val (.int v22), .val (.int v23), .val (.int C2F), .val (.int C2T), .val (.int v10), .val (.int v13), .val (.int v16), .val (.int v19), .val (.ref b25), .val (.ref b28), .unset, .unset, .unset, .unset, .unset, .unset, .unset] [(.int v19)])) _
        refine XS.ifYes X53.here hx rfl (pc0 := 225) (pc' := 237) rfl (hb hby at_225) rfl ((if0 _ _).trans (teq hc56).1) (by decide) (by decide) ?_
        exact k)
      have evy62 : y62 = y54 := by exact hy62.trans (if_pos hc56)
      subst evy62
      exact ⟨T53, _, h53, X53, e53, N53, K53, Zs53, O53, E_b25_53, F_size_b25_53, F_words_b25_53, F_rows_b25_53, A_b26_53, E_b28_53, F_size_b28_53, F_words_b28_53, F_rows_b28_53, A_b29_53, pre57⟩
    · obtain ⟨cq58, kq58, q58a, q58b, q58c⟩ := isOf hZ e53 E_b28_53
      obtain ⟨_, _, ⟨T58, L58, k58, n58⟩, -, X58, ⟨Lc58, hQ58, l58, y58, z58⟩, st58⟩ := X53.virtualBack hx (y := (⟨"com/example/fenceline/fenceline/model/Relation", "add", "(II)V"⟩ : MethodName)) (z := (⟨"com/example/fenceline/fenceline/model/Relation", "add", "(II)V"⟩ : MethodName)) hown (mvT hZ (hw _ (List.mem_of_getElem? (i := 26) rfl))) (mvT hZ (hw _ (List.mem_of_getElem? (i := 27) rfl))) (notFace_of_selects (args := #[]) (mvT hZ (hw _ (List.mem_of_getElem? (i := 29) rfl)))) (mvT hZ (hw _ (List.mem_of_getElem? (i := 29) rfl))) (mvT hZ (hw _ (List.mem_of_getElem? (i := 28) rfl))) (by decide) (backOf (W := 0) (rm5 l Z a0 hw [] b28 C2F C2T b29 (((N + (63 : Int32)).toUInt32 >>> ((6 : Int32) &&& 31).toUInt32).toInt32) (N * (((N + (63 : Int32)).toUInt32 >>> ((6 : Int32) &&& 31).toUInt32).toInt32)) y54 h53 n0 Zs53 F_rows_b28_53 F_words_b28_53 A_b29_53 ne_b28_b29 g_b29 (own_I_in (own_N1 hN).1 (own_N1 hN).2 (own_rf (own_N1 hN) hC2F) (own_rf (own_N1 hN) hC2T))) hZ (hw _ (List.mem_of_getElem? (i := 30) rfl)) (hw _ (List.mem_of_getElem? (i := 7) rfl)) (by decide) (by decide)) q58a q58c (g := (mkF m 234 #[.val (.int p1), .val (.long q2), .second, .val (.long q3), .second, .val (.int p4), .val (.int N), .val (.int A1F), .val (.int A1T), .val (.int A2F), .val (.int A2T), .val (.int v22), .val (.int v23), .val (.int C2F), .val (.int C2T), .val (.int v10), .val (.int v13), .val (.int v16), .val (.int v19), .val (.ref b25), .val (.ref b28), .unset, .unset, .unset, .unset, .unset, .unset, .unset] [(.int C2T), (.int C2F), (.ref b28)])) rfl (by rw [hml]; rfl) (Steps.refl _) (argsL := [(.int C2F), (.int C2T)]) (rest := []) (lenOf pd_2 rfl) rfl (by show 2 * 0 + _ ≤ _; exact Nat.le_of_eq rfl) (hb hby at_234) (fun _ _ => ⟨rfl, e53, (by decide : 4 + 0 ≤ _), (by decide : 518 + 0 ≤ _)⟩)
      dsimp only [Pt.U, Pt.locs, Pt.cells, Pt.slots] at X58 l58 y58 z58 st58 hQ58
      subst l58 y58 z58
      obtain ⟨h58, e58⟩ : ∃ z, T58.heap = z := ⟨_, rfl⟩
      rw [e58] at hQ58
      obtain ⟨rfl, N58q, Kc58, A_b29_58q⟩ := hQ58
      have E_b25_58 : Exa Z h58 b25 "com/example/fenceline/fenceline/model/Relation" := E_b25_53.keep Kc58
      have F_size_b25_58 : Fld Z h58 b25 "com/example/fenceline/fenceline/model/Relation" "size" "I" (.int N) := F_size_b25_53.keep Kc58 (ninS ne_b25_b29 nin0)
      have F_words_b25_58 : Fld Z h58 b25 "com/example/fenceline/fenceline/model/Relation" "words" "I" (.int (((N + (63 : Int32)).toUInt32 >>> ((6 : Int32) &&& 31).toUInt32).toInt32)) := F_words_b25_53.keep Kc58 (ninS ne_b25_b29 nin0)
      have F_rows_b25_58 : Fld Z h58 b25 "com/example/fenceline/fenceline/model/Relation" "rows" "[J" (.ref b26) := F_rows_b25_53.keep Kc58 (ninS ne_b25_b29 nin0)
      have A_b26_58 : own_A Z h58 b26 .long (N * (((N + (63 : Int32)).toUInt32 >>> ((6 : Int32) &&& 31).toUInt32).toInt32)) (fun i => .long (y46 i)) := own_A_keep A_b26_53 Kc58 (ninS ne_b26_b29 nin0)
      have E_b28_58 : Exa Z h58 b28 "com/example/fenceline/fenceline/model/Relation" := E_b28_53.keep Kc58
      have F_size_b28_58 : Fld Z h58 b28 "com/example/fenceline/fenceline/model/Relation" "size" "I" (.int N) := F_size_b28_53.keep Kc58 (ninS ne_b28_b29 nin0)
      have F_words_b28_58 : Fld Z h58 b28 "com/example/fenceline/fenceline/model/Relation" "words" "I" (.int (((N + (63 : Int32)).toUInt32 >>> ((6 : Int32) &&& 31).toUInt32).toInt32)) := F_words_b28_53.keep Kc58 (ninS ne_b28_b29 nin0)
      have F_rows_b28_58 : Fld Z h58 b28 "com/example/fenceline/fenceline/model/Relation" "rows" "[J" (.ref b29) := F_rows_b28_53.keep Kc58 (ninS ne_b28_b29 nin0)
      have K58 := K53.trans Kc58 (allS (Or.inr sz_b29) all0)
      have Zs58 := Nat.le_trans Zs53 Kc58.1
      have O58 := O53.keep Kc58 (allS g_b29 all0)
      obtain ⟨y59, hy59⟩ : ∃ yy_ : Int32 → Int64, yy_ = (fun i => if i = ((C2F * (((N + (63 : Int32)).toUInt32 >>> ((6 : Int32) &&& 31).toUInt32).toInt32)) + ((C2T.toUInt32 >>> ((6 : Int32) &&& 31).toUInt32).toInt32)) then ((y54 ((C2F * (((N + (63 : Int32)).toUInt32 >>> ((6 : Int32) &&& 31).toUInt32).toInt32)) + ((C2T.toUInt32 >>> ((6 : Int32) &&& 31).toUInt32).toInt32))) ||| ((1 : Int64) <<< (C2T &&& 0x3f).toInt64)) else y54 i) := ⟨_, rfl⟩
      have A_b29_58 : own_A Z h58 b29 .long (N * (((N + (63 : Int32)).toUInt32 >>> ((6 : Int32) &&& 31).toUInt32).toInt32)) (fun i => .long (y59 i)) := by subst hy59; exact A_b29_58q
      have N58 := Fr.app N53 N58q
      have pre60 : ∀ t, Steps p.tables e below (T58.setTop (mkF m 237 #[.val (.int p1), .val (.long q2), .second, .val (.long q3), .second, .val (.int p4), .val (.int N), .val (.int A1F), .val (.int A1T), .val (.int A2F), .val (.int A2T), .val (.int v22), .val (.int v23), .val (.int C2F), .val (.int C2T), .val (.int v10), .val (.int v13), .val (.int v16), .val (.int v19), .val (.ref b25), .val (.ref b28), .unset, .unset, .unset, .unset, .unset, .unset, .unset] [])) t → Steps p.tables e below (s₁.setTop (entryFrame m #[(.int p1), (.long q2), (.long q3), (.int p4)] maxLocals)) t := fun t k => pre55 t (by
        show Steps p.tables e below (T53.setTop (mkF m 225 #[.val (.int p1), .val (.long q2), .second, .val (.long q3), .second, .val (.int p4), .val (.int N), .val (.int A1F), .val (.int A1T), .val (.int A2F), .val (.int A2T), .val (.int v22), .val (.int v23), .val (.int C2F), .val (.int C2T), .val (.int v10), .val (.int v13), .val (.int v16), .val (.int v19), .val (.ref b25), .val (.ref b28), .unset, .unset, .unset, .unset, .unset, .unset, .unset] [(.int v19)])) _
        refine XS.ifNo X53.here hx rfl (hb hby at_225) rfl ((if0 _ _).trans (feq hc56).1) ?_
        show Steps p.tables e below (T53.setTop (mkF m 228 #[.val (.int p1), .val (.long q2), .second, .val (.long q3), .second, .val (.int p4), .val (.int N), .val (.int A1F), .val (.int A1T), .val (.int A2F), .val (.int A2T), .val (.int v22), .val (.int v23), .val (.int C2F), .val (.int C2T), .val (.int v10), .val (.int v13), .val (.int v16), .val (.int v19), .val (.ref b25), .val (.ref b28), .unset, .unset, .unset, .unset, .unset, .unset, .unset] [])) _
        refine XS.aload X53.here hx rfl (hb hby at_228) rfl rfl ?_
        show Steps p.tables e below (T53.setTop (mkF m 230 #[.val (.int p1), .val (.long q2), .second, .val (.long q3), .second, .val (.int p4), .val (.int N), .val (.int A1F), .val (.int A1T), .val (.int A2F), .val (.int A2T), .val (.int v22), .val (.int v23), .val (.int C2F), .val (.int C2T), .val (.int v10), .val (.int v13), .val (.int v16), .val (.int v19), .val (.ref b25), .val (.ref b28), .unset, .unset, .unset, .unset, .unset, .unset, .unset] [(.ref b28)])) _
        refine XS.iload X53.here hx rfl (hb hby at_230) rfl ?_
        show Steps p.tables e below (T53.setTop (mkF m 232 #[.val (.int p1), .val (.long q2), .second, .val (.long q3), .second, .val (.int p4), .val (.int N), .val (.int A1F), .val (.int A1T), .val (.int A2F), .val (.int A2T), .val (.int v22), .val (.int v23), .val (.int C2F), .val (.int C2T), .val (.int v10), .val (.int v13), .val (.int v16), .val (.int v19), .val (.ref b25), .val (.ref b28), .unset, .unset, .unset, .unset, .unset, .unset, .unset] [(.int C2F), (.ref b28)])) _
        refine XS.iload X53.here hx rfl (hb hby at_232) rfl ?_
        show Steps p.tables e below (T53.setTop (mkF m 234 #[.val (.int p1), .val (.long q2), .second, .val (.long q3), .second, .val (.int p4), .val (.int N), .val (.int A1F), .val (.int A1T), .val (.int A2F), .val (.int A2T), .val (.int v22), .val (.int v23), .val (.int C2F), .val (.int C2T), .val (.int v10), .val (.int v13), .val (.int v16), .val (.int v19), .val (.ref b25), .val (.ref b28), .unset, .unset, .unset, .unset, .unset, .unset, .unset] [(.int C2T), (.int C2F), (.ref b28)])) _
        refine st58.trans ?_
        exact k)
      have evy62 : y62 = y59 := by subst hy59; exact hy62.trans (if_neg hc56)
      subst evy62
      exact ⟨T58, _, h58, X58, e58, N58, K58, Zs58, O58, E_b25_58, F_size_b25_58, F_words_b25_58, F_rows_b25_58, A_b26_58, E_b28_58, F_size_b28_58, F_words_b28_58, F_rows_b28_58, A_b29_58, pre60⟩
  obtain ⟨v67, hv67⟩ : ∃ z : Int32, z = (if v10 = (0 : Int32) then (0 : Int32) else (if v16 = (0 : Int32) then (0 : Int32) else (if A1F = v22 then (if A1T = v23 then (1 : Int32) else (0 : Int32)) else (0 : Int32)))) := ⟨_, rfl⟩
  have pre68 : ∀ t, Steps p.tables e below (T61.setTop (mkF m 266 #[.val (.int p1), .val (.long q2), .second, .val (.long q3), .second, .val (.int p4), .val (.int N), .val (.int A1F), .val (.int A1T), .val (.int A2F), .val (.int A2T), .val (.int v22), .val (.int v23), .val (.int C2F), .val (.int C2T), .val (.int v10), .val (.int v13), .val (.int v16), .val (.int v19), .val (.ref b25), .val (.ref b28), .unset, .unset, .unset, .unset, .unset, .unset, .unset] [(.int v67)])) t → Steps p.tables e below (s₁.setTop (entryFrame m #[(.int p1), (.long q2), (.long q3), (.int p4)] maxLocals)) t := fun t k => pre61 t (by
    show Steps p.tables e below (T61.setTop (mkF m 237 #[.val (.int p1), .val (.long q2), .second, .val (.long q3), .second, .val (.int p4), .val (.int N), .val (.int A1F), .val (.int A1T), .val (.int A2F), .val (.int A2T), .val (.int v22), .val (.int v23), .val (.int C2F), .val (.int C2T), .val (.int v10), .val (.int v13), .val (.int v16), .val (.int v19), .val (.ref b25), .val (.ref b28), .unset, .unset, .unset, .unset, .unset, .unset, .unset] [])) _
    refine XS.iload X61.here hx rfl (hb hby at_237) rfl ?_
    show Steps p.tables e below (T61.setTop (mkF m 239 #[.val (.int p1), .val (.long q2), .second, .val (.long q3), .second, .val (.int p4), .val (.int N), .val (.int A1F), .val (.int A1T), .val (.int A2F), .val (.int A2T), .val (.int v22), .val (.int v23), .val (.int C2F), .val (.int C2T), .val (.int v10), .val (.int v13), .val (.int v16), .val (.int v19), .val (.ref b25), .val (.ref b28), .unset, .unset, .unset, .unset, .unset, .unset, .unset] [(.int v10)])) _
    by_cases hc63 : v10 = (0 : Int32)
    · refine XS.ifYes X61.here hx rfl (pc0 := 239) (pc' := 265) rfl (hb hby at_239) rfl ((if0 _ _).trans (teq hc63).1) (by decide) (by decide) ?_
      show Steps p.tables e below (T61.setTop (mkF m 265 #[.val (.int p1), .val (.long q2), .second, .val (.long q3), .second, .val (.int p4), .val (.int N), .val (.int A1F), .val (.int A1T), .val (.int A2F), .val (.int A2T), .val (.int v22), .val (.int v23), .val (.int C2F), .val (.int C2T), .val (.int v10), .val (.int v13), .val (.int v16), .val (.int v19), .val (.ref b25), .val (.ref b28), .unset, .unset, .unset, .unset, .unset, .unset, .unset] [])) _
      refine XS.iconst X61.here hx rfl (hb hby at_265) ?_
      rw [show v67 = (0 : Int32) from hv67.trans (if_pos hc63)] at k
      exact k
    · refine XS.ifNo X61.here hx rfl (hb hby at_239) rfl ((if0 _ _).trans (feq hc63).1) ?_
      show Steps p.tables e below (T61.setTop (mkF m 242 #[.val (.int p1), .val (.long q2), .second, .val (.long q3), .second, .val (.int p4), .val (.int N), .val (.int A1F), .val (.int A1T), .val (.int A2F), .val (.int A2T), .val (.int v22), .val (.int v23), .val (.int C2F), .val (.int C2T), .val (.int v10), .val (.int v13), .val (.int v16), .val (.int v19), .val (.ref b25), .val (.ref b28), .unset, .unset, .unset, .unset, .unset, .unset, .unset] [])) _
      refine XS.iload X61.here hx rfl (hb hby at_242) rfl ?_
      show Steps p.tables e below (T61.setTop (mkF m 244 #[.val (.int p1), .val (.long q2), .second, .val (.long q3), .second, .val (.int p4), .val (.int N), .val (.int A1F), .val (.int A1T), .val (.int A2F), .val (.int A2T), .val (.int v22), .val (.int v23), .val (.int C2F), .val (.int C2T), .val (.int v10), .val (.int v13), .val (.int v16), .val (.int v19), .val (.ref b25), .val (.ref b28), .unset, .unset, .unset, .unset, .unset, .unset, .unset] [(.int v16)])) _
      by_cases hc64 : v16 = (0 : Int32)
      · refine XS.ifYes X61.here hx rfl (pc0 := 244) (pc' := 265) rfl (hb hby at_244) rfl ((if0 _ _).trans (teq hc64).1) (by decide) (by decide) ?_
        show Steps p.tables e below (T61.setTop (mkF m 265 #[.val (.int p1), .val (.long q2), .second, .val (.long q3), .second, .val (.int p4), .val (.int N), .val (.int A1F), .val (.int A1T), .val (.int A2F), .val (.int A2T), .val (.int v22), .val (.int v23), .val (.int C2F), .val (.int C2T), .val (.int v10), .val (.int v13), .val (.int v16), .val (.int v19), .val (.ref b25), .val (.ref b28), .unset, .unset, .unset, .unset, .unset, .unset, .unset] [])) _
        refine XS.iconst X61.here hx rfl (hb hby at_265) ?_
        rw [show v67 = (0 : Int32) from hv67.trans ((if_neg hc63).trans (if_pos hc64))] at k
        exact k
      · refine XS.ifNo X61.here hx rfl (hb hby at_244) rfl ((if0 _ _).trans (feq hc64).1) ?_
        show Steps p.tables e below (T61.setTop (mkF m 247 #[.val (.int p1), .val (.long q2), .second, .val (.long q3), .second, .val (.int p4), .val (.int N), .val (.int A1F), .val (.int A1T), .val (.int A2F), .val (.int A2T), .val (.int v22), .val (.int v23), .val (.int C2F), .val (.int C2T), .val (.int v10), .val (.int v13), .val (.int v16), .val (.int v19), .val (.ref b25), .val (.ref b28), .unset, .unset, .unset, .unset, .unset, .unset, .unset] [])) _
        refine XS.iload X61.here hx rfl (hb hby at_247) rfl ?_
        show Steps p.tables e below (T61.setTop (mkF m 249 #[.val (.int p1), .val (.long q2), .second, .val (.long q3), .second, .val (.int p4), .val (.int N), .val (.int A1F), .val (.int A1T), .val (.int A2F), .val (.int A2T), .val (.int v22), .val (.int v23), .val (.int C2F), .val (.int C2T), .val (.int v10), .val (.int v13), .val (.int v16), .val (.int v19), .val (.ref b25), .val (.ref b28), .unset, .unset, .unset, .unset, .unset, .unset, .unset] [(.int A1F)])) _
        refine XS.iload X61.here hx rfl (hb hby at_249) rfl ?_
        show Steps p.tables e below (T61.setTop (mkF m 251 #[.val (.int p1), .val (.long q2), .second, .val (.long q3), .second, .val (.int p4), .val (.int N), .val (.int A1F), .val (.int A1T), .val (.int A2F), .val (.int A2T), .val (.int v22), .val (.int v23), .val (.int C2F), .val (.int C2T), .val (.int v10), .val (.int v13), .val (.int v16), .val (.int v19), .val (.ref b25), .val (.ref b28), .unset, .unset, .unset, .unset, .unset, .unset, .unset] [(.int v22), (.int A1F)])) _
        by_cases hc65 : A1F = v22
        · refine XS.icmpNo X61.here hx rfl (hb hby at_251) rfl (teq hc65).2 ?_
          show Steps p.tables e below (T61.setTop (mkF m 254 #[.val (.int p1), .val (.long q2), .second, .val (.long q3), .second, .val (.int p4), .val (.int N), .val (.int A1F), .val (.int A1T), .val (.int A2F), .val (.int A2T), .val (.int v22), .val (.int v23), .val (.int C2F), .val (.int C2T), .val (.int v10), .val (.int v13), .val (.int v16), .val (.int v19), .val (.ref b25), .val (.ref b28), .unset, .unset, .unset, .unset, .unset, .unset, .unset] [])) _
          refine XS.iload X61.here hx rfl (hb hby at_254) rfl ?_
          show Steps p.tables e below (T61.setTop (mkF m 256 #[.val (.int p1), .val (.long q2), .second, .val (.long q3), .second, .val (.int p4), .val (.int N), .val (.int A1F), .val (.int A1T), .val (.int A2F), .val (.int A2T), .val (.int v22), .val (.int v23), .val (.int C2F), .val (.int C2T), .val (.int v10), .val (.int v13), .val (.int v16), .val (.int v19), .val (.ref b25), .val (.ref b28), .unset, .unset, .unset, .unset, .unset, .unset, .unset] [(.int A1T)])) _
          refine XS.iload X61.here hx rfl (hb hby at_256) rfl ?_
          show Steps p.tables e below (T61.setTop (mkF m 258 #[.val (.int p1), .val (.long q2), .second, .val (.long q3), .second, .val (.int p4), .val (.int N), .val (.int A1F), .val (.int A1T), .val (.int A2F), .val (.int A2T), .val (.int v22), .val (.int v23), .val (.int C2F), .val (.int C2T), .val (.int v10), .val (.int v13), .val (.int v16), .val (.int v19), .val (.ref b25), .val (.ref b28), .unset, .unset, .unset, .unset, .unset, .unset, .unset] [(.int v23), (.int A1T)])) _
          by_cases hc66 : A1T = v23
          · refine XS.icmpNo X61.here hx rfl (hb hby at_258) rfl (teq hc66).2 ?_
            show Steps p.tables e below (T61.setTop (mkF m 261 #[.val (.int p1), .val (.long q2), .second, .val (.long q3), .second, .val (.int p4), .val (.int N), .val (.int A1F), .val (.int A1T), .val (.int A2F), .val (.int A2T), .val (.int v22), .val (.int v23), .val (.int C2F), .val (.int C2T), .val (.int v10), .val (.int v13), .val (.int v16), .val (.int v19), .val (.ref b25), .val (.ref b28), .unset, .unset, .unset, .unset, .unset, .unset, .unset] [])) _
            refine XS.iconst X61.here hx rfl (hb hby at_261) ?_
            show Steps p.tables e below (T61.setTop (mkF m 262 #[.val (.int p1), .val (.long q2), .second, .val (.long q3), .second, .val (.int p4), .val (.int N), .val (.int A1F), .val (.int A1T), .val (.int A2F), .val (.int A2T), .val (.int v22), .val (.int v23), .val (.int C2F), .val (.int C2T), .val (.int v10), .val (.int v13), .val (.int v16), .val (.int v19), .val (.ref b25), .val (.ref b28), .unset, .unset, .unset, .unset, .unset, .unset, .unset] [(.int (1 : Int32))])) _
            refine XS.goto X61.here hx rfl (pc0 := 262) (pc' := 266) rfl (hb hby at_262) (by decide) (by decide) ?_
            rw [show v67 = (1 : Int32) from hv67.trans ((if_neg hc63).trans ((if_neg hc64).trans ((if_pos hc65).trans (if_pos hc66))))] at k
            exact k
          · refine XS.icmpYes X61.here hx rfl (pc0 := 258) (pc' := 265) rfl (hb hby at_258) rfl (feq hc66).2 (by decide) (by decide) ?_
            show Steps p.tables e below (T61.setTop (mkF m 265 #[.val (.int p1), .val (.long q2), .second, .val (.long q3), .second, .val (.int p4), .val (.int N), .val (.int A1F), .val (.int A1T), .val (.int A2F), .val (.int A2T), .val (.int v22), .val (.int v23), .val (.int C2F), .val (.int C2T), .val (.int v10), .val (.int v13), .val (.int v16), .val (.int v19), .val (.ref b25), .val (.ref b28), .unset, .unset, .unset, .unset, .unset, .unset, .unset] [])) _
            refine XS.iconst X61.here hx rfl (hb hby at_265) ?_
            rw [show v67 = (0 : Int32) from hv67.trans ((if_neg hc63).trans ((if_neg hc64).trans ((if_pos hc65).trans (if_neg hc66))))] at k
            exact k
        · refine XS.icmpYes X61.here hx rfl (pc0 := 251) (pc' := 265) rfl (hb hby at_251) rfl (feq hc65).2 (by decide) (by decide) ?_
          show Steps p.tables e below (T61.setTop (mkF m 265 #[.val (.int p1), .val (.long q2), .second, .val (.long q3), .second, .val (.int p4), .val (.int N), .val (.int A1F), .val (.int A1T), .val (.int A2F), .val (.int A2T), .val (.int v22), .val (.int v23), .val (.int C2F), .val (.int C2T), .val (.int v10), .val (.int v13), .val (.int v16), .val (.int v19), .val (.ref b25), .val (.ref b28), .unset, .unset, .unset, .unset, .unset, .unset, .unset] [])) _
          refine XS.iconst X61.here hx rfl (hb hby at_265) ?_
          rw [show v67 = (0 : Int32) from hv67.trans ((if_neg hc63).trans ((if_neg hc64).trans (if_neg hc65)))] at k
          exact k)
  obtain ⟨v73, hv73⟩ : ∃ z : Int32, z = (if v10 = (0 : Int32) then (0 : Int32) else (if v19 = (0 : Int32) then (0 : Int32) else (if A1F = C2F then (if A1T = C2T then (1 : Int32) else (0 : Int32)) else (0 : Int32)))) := ⟨_, rfl⟩
  have pre74 : ∀ t, Steps p.tables e below (T61.setTop (mkF m 297 #[.val (.int p1), .val (.long q2), .second, .val (.long q3), .second, .val (.int p4), .val (.int N), .val (.int A1F), .val (.int A1T), .val (.int A2F), .val (.int A2T), .val (.int v22), .val (.int v23), .val (.int C2F), .val (.int C2T), .val (.int v10), .val (.int v13), .val (.int v16), .val (.int v19), .val (.ref b25), .val (.ref b28), .val (.int v67), .unset, .unset, .unset, .unset, .unset, .unset] [(.int v73)])) t → Steps p.tables e below (s₁.setTop (entryFrame m #[(.int p1), (.long q2), (.long q3), (.int p4)] maxLocals)) t := fun t k => pre68 t (by
    show Steps p.tables e below (T61.setTop (mkF m 266 #[.val (.int p1), .val (.long q2), .second, .val (.long q3), .second, .val (.int p4), .val (.int N), .val (.int A1F), .val (.int A1T), .val (.int A2F), .val (.int A2T), .val (.int v22), .val (.int v23), .val (.int C2F), .val (.int C2T), .val (.int v10), .val (.int v13), .val (.int v16), .val (.int v19), .val (.ref b25), .val (.ref b28), .unset, .unset, .unset, .unset, .unset, .unset, .unset] [(.int v67)])) _
    refine XS.istore X61.here hx rfl (hb hby at_266) rfl (l' := #[.val (.int p1), .val (.long q2), .second, .val (.long q3), .second, .val (.int p4), .val (.int N), .val (.int A1F), .val (.int A1T), .val (.int A2F), .val (.int A2T), .val (.int v22), .val (.int v23), .val (.int C2F), .val (.int C2T), .val (.int v10), .val (.int v13), .val (.int v16), .val (.int v19), .val (.ref b25), .val (.ref b28), .val (.int v67), .unset, .unset, .unset, .unset, .unset, .unset]) rfl ?_
    show Steps p.tables e below (T61.setTop (mkF m 268 #[.val (.int p1), .val (.long q2), .second, .val (.long q3), .second, .val (.int p4), .val (.int N), .val (.int A1F), .val (.int A1T), .val (.int A2F), .val (.int A2T), .val (.int v22), .val (.int v23), .val (.int C2F), .val (.int C2T), .val (.int v10), .val (.int v13), .val (.int v16), .val (.int v19), .val (.ref b25), .val (.ref b28), .val (.int v67), .unset, .unset, .unset, .unset, .unset, .unset] [])) _
    refine XS.iload X61.here hx rfl (hb hby at_268) rfl ?_
    show Steps p.tables e below (T61.setTop (mkF m 270 #[.val (.int p1), .val (.long q2), .second, .val (.long q3), .second, .val (.int p4), .val (.int N), .val (.int A1F), .val (.int A1T), .val (.int A2F), .val (.int A2T), .val (.int v22), .val (.int v23), .val (.int C2F), .val (.int C2T), .val (.int v10), .val (.int v13), .val (.int v16), .val (.int v19), .val (.ref b25), .val (.ref b28), .val (.int v67), .unset, .unset, .unset, .unset, .unset, .unset] [(.int v10)])) _
    by_cases hc69 : v10 = (0 : Int32)
    · refine XS.ifYes X61.here hx rfl (pc0 := 270) (pc' := 296) rfl (hb hby at_270) rfl ((if0 _ _).trans (teq hc69).1) (by decide) (by decide) ?_
      show Steps p.tables e below (T61.setTop (mkF m 296 #[.val (.int p1), .val (.long q2), .second, .val (.long q3), .second, .val (.int p4), .val (.int N), .val (.int A1F), .val (.int A1T), .val (.int A2F), .val (.int A2T), .val (.int v22), .val (.int v23), .val (.int C2F), .val (.int C2T), .val (.int v10), .val (.int v13), .val (.int v16), .val (.int v19), .val (.ref b25), .val (.ref b28), .val (.int v67), .unset, .unset, .unset, .unset, .unset, .unset] [])) _
      refine XS.iconst X61.here hx rfl (hb hby at_296) ?_
      rw [show v73 = (0 : Int32) from hv73.trans (if_pos hc69)] at k
      exact k
    · refine XS.ifNo X61.here hx rfl (hb hby at_270) rfl ((if0 _ _).trans (feq hc69).1) ?_
      show Steps p.tables e below (T61.setTop (mkF m 273 #[.val (.int p1), .val (.long q2), .second, .val (.long q3), .second, .val (.int p4), .val (.int N), .val (.int A1F), .val (.int A1T), .val (.int A2F), .val (.int A2T), .val (.int v22), .val (.int v23), .val (.int C2F), .val (.int C2T), .val (.int v10), .val (.int v13), .val (.int v16), .val (.int v19), .val (.ref b25), .val (.ref b28), .val (.int v67), .unset, .unset, .unset, .unset, .unset, .unset] [])) _
      refine XS.iload X61.here hx rfl (hb hby at_273) rfl ?_
      show Steps p.tables e below (T61.setTop (mkF m 275 #[.val (.int p1), .val (.long q2), .second, .val (.long q3), .second, .val (.int p4), .val (.int N), .val (.int A1F), .val (.int A1T), .val (.int A2F), .val (.int A2T), .val (.int v22), .val (.int v23), .val (.int C2F), .val (.int C2T), .val (.int v10), .val (.int v13), .val (.int v16), .val (.int v19), .val (.ref b25), .val (.ref b28), .val (.int v67), .unset, .unset, .unset, .unset, .unset, .unset] [(.int v19)])) _
      by_cases hc70 : v19 = (0 : Int32)
      · refine XS.ifYes X61.here hx rfl (pc0 := 275) (pc' := 296) rfl (hb hby at_275) rfl ((if0 _ _).trans (teq hc70).1) (by decide) (by decide) ?_
        show Steps p.tables e below (T61.setTop (mkF m 296 #[.val (.int p1), .val (.long q2), .second, .val (.long q3), .second, .val (.int p4), .val (.int N), .val (.int A1F), .val (.int A1T), .val (.int A2F), .val (.int A2T), .val (.int v22), .val (.int v23), .val (.int C2F), .val (.int C2T), .val (.int v10), .val (.int v13), .val (.int v16), .val (.int v19), .val (.ref b25), .val (.ref b28), .val (.int v67), .unset, .unset, .unset, .unset, .unset, .unset] [])) _
        refine XS.iconst X61.here hx rfl (hb hby at_296) ?_
        rw [show v73 = (0 : Int32) from hv73.trans ((if_neg hc69).trans (if_pos hc70))] at k
        exact k
      · refine XS.ifNo X61.here hx rfl (hb hby at_275) rfl ((if0 _ _).trans (feq hc70).1) ?_
        show Steps p.tables e below (T61.setTop (mkF m 278 #[.val (.int p1), .val (.long q2), .second, .val (.long q3), .second, .val (.int p4), .val (.int N), .val (.int A1F), .val (.int A1T), .val (.int A2F), .val (.int A2T), .val (.int v22), .val (.int v23), .val (.int C2F), .val (.int C2T), .val (.int v10), .val (.int v13), .val (.int v16), .val (.int v19), .val (.ref b25), .val (.ref b28), .val (.int v67), .unset, .unset, .unset, .unset, .unset, .unset] [])) _
        refine XS.iload X61.here hx rfl (hb hby at_278) rfl ?_
        show Steps p.tables e below (T61.setTop (mkF m 280 #[.val (.int p1), .val (.long q2), .second, .val (.long q3), .second, .val (.int p4), .val (.int N), .val (.int A1F), .val (.int A1T), .val (.int A2F), .val (.int A2T), .val (.int v22), .val (.int v23), .val (.int C2F), .val (.int C2T), .val (.int v10), .val (.int v13), .val (.int v16), .val (.int v19), .val (.ref b25), .val (.ref b28), .val (.int v67), .unset, .unset, .unset, .unset, .unset, .unset] [(.int A1F)])) _
        refine XS.iload X61.here hx rfl (hb hby at_280) rfl ?_
        show Steps p.tables e below (T61.setTop (mkF m 282 #[.val (.int p1), .val (.long q2), .second, .val (.long q3), .second, .val (.int p4), .val (.int N), .val (.int A1F), .val (.int A1T), .val (.int A2F), .val (.int A2T), .val (.int v22), .val (.int v23), .val (.int C2F), .val (.int C2T), .val (.int v10), .val (.int v13), .val (.int v16), .val (.int v19), .val (.ref b25), .val (.ref b28), .val (.int v67), .unset, .unset, .unset, .unset, .unset, .unset] [(.int C2F), (.int A1F)])) _
        by_cases hc71 : A1F = C2F
        · refine XS.icmpNo X61.here hx rfl (hb hby at_282) rfl (teq hc71).2 ?_
          show Steps p.tables e below (T61.setTop (mkF m 285 #[.val (.int p1), .val (.long q2), .second, .val (.long q3), .second, .val (.int p4), .val (.int N), .val (.int A1F), .val (.int A1T), .val (.int A2F), .val (.int A2T), .val (.int v22), .val (.int v23), .val (.int C2F), .val (.int C2T), .val (.int v10), .val (.int v13), .val (.int v16), .val (.int v19), .val (.ref b25), .val (.ref b28), .val (.int v67), .unset, .unset, .unset, .unset, .unset, .unset] [])) _
          refine XS.iload X61.here hx rfl (hb hby at_285) rfl ?_
          show Steps p.tables e below (T61.setTop (mkF m 287 #[.val (.int p1), .val (.long q2), .second, .val (.long q3), .second, .val (.int p4), .val (.int N), .val (.int A1F), .val (.int A1T), .val (.int A2F), .val (.int A2T), .val (.int v22), .val (.int v23), .val (.int C2F), .val (.int C2T), .val (.int v10), .val (.int v13), .val (.int v16), .val (.int v19), .val (.ref b25), .val (.ref b28), .val (.int v67), .unset, .unset, .unset, .unset, .unset, .unset] [(.int A1T)])) _
          refine XS.iload X61.here hx rfl (hb hby at_287) rfl ?_
          show Steps p.tables e below (T61.setTop (mkF m 289 #[.val (.int p1), .val (.long q2), .second, .val (.long q3), .second, .val (.int p4), .val (.int N), .val (.int A1F), .val (.int A1T), .val (.int A2F), .val (.int A2T), .val (.int v22), .val (.int v23), .val (.int C2F), .val (.int C2T), .val (.int v10), .val (.int v13), .val (.int v16), .val (.int v19), .val (.ref b25), .val (.ref b28), .val (.int v67), .unset, .unset, .unset, .unset, .unset, .unset] [(.int C2T), (.int A1T)])) _
          by_cases hc72 : A1T = C2T
          · refine XS.icmpNo X61.here hx rfl (hb hby at_289) rfl (teq hc72).2 ?_
            show Steps p.tables e below (T61.setTop (mkF m 292 #[.val (.int p1), .val (.long q2), .second, .val (.long q3), .second, .val (.int p4), .val (.int N), .val (.int A1F), .val (.int A1T), .val (.int A2F), .val (.int A2T), .val (.int v22), .val (.int v23), .val (.int C2F), .val (.int C2T), .val (.int v10), .val (.int v13), .val (.int v16), .val (.int v19), .val (.ref b25), .val (.ref b28), .val (.int v67), .unset, .unset, .unset, .unset, .unset, .unset] [])) _
            refine XS.iconst X61.here hx rfl (hb hby at_292) ?_
            show Steps p.tables e below (T61.setTop (mkF m 293 #[.val (.int p1), .val (.long q2), .second, .val (.long q3), .second, .val (.int p4), .val (.int N), .val (.int A1F), .val (.int A1T), .val (.int A2F), .val (.int A2T), .val (.int v22), .val (.int v23), .val (.int C2F), .val (.int C2T), .val (.int v10), .val (.int v13), .val (.int v16), .val (.int v19), .val (.ref b25), .val (.ref b28), .val (.int v67), .unset, .unset, .unset, .unset, .unset, .unset] [(.int (1 : Int32))])) _
            refine XS.goto X61.here hx rfl (pc0 := 293) (pc' := 297) rfl (hb hby at_293) (by decide) (by decide) ?_
            rw [show v73 = (1 : Int32) from hv73.trans ((if_neg hc69).trans ((if_neg hc70).trans ((if_pos hc71).trans (if_pos hc72))))] at k
            exact k
          · refine XS.icmpYes X61.here hx rfl (pc0 := 289) (pc' := 296) rfl (hb hby at_289) rfl (feq hc72).2 (by decide) (by decide) ?_
            show Steps p.tables e below (T61.setTop (mkF m 296 #[.val (.int p1), .val (.long q2), .second, .val (.long q3), .second, .val (.int p4), .val (.int N), .val (.int A1F), .val (.int A1T), .val (.int A2F), .val (.int A2T), .val (.int v22), .val (.int v23), .val (.int C2F), .val (.int C2T), .val (.int v10), .val (.int v13), .val (.int v16), .val (.int v19), .val (.ref b25), .val (.ref b28), .val (.int v67), .unset, .unset, .unset, .unset, .unset, .unset] [])) _
            refine XS.iconst X61.here hx rfl (hb hby at_296) ?_
            rw [show v73 = (0 : Int32) from hv73.trans ((if_neg hc69).trans ((if_neg hc70).trans ((if_pos hc71).trans (if_neg hc72))))] at k
            exact k
        · refine XS.icmpYes X61.here hx rfl (pc0 := 282) (pc' := 296) rfl (hb hby at_282) rfl (feq hc71).2 (by decide) (by decide) ?_
          show Steps p.tables e below (T61.setTop (mkF m 296 #[.val (.int p1), .val (.long q2), .second, .val (.long q3), .second, .val (.int p4), .val (.int N), .val (.int A1F), .val (.int A1T), .val (.int A2F), .val (.int A2T), .val (.int v22), .val (.int v23), .val (.int C2F), .val (.int C2T), .val (.int v10), .val (.int v13), .val (.int v16), .val (.int v19), .val (.ref b25), .val (.ref b28), .val (.int v67), .unset, .unset, .unset, .unset, .unset, .unset] [])) _
          refine XS.iconst X61.here hx rfl (hb hby at_296) ?_
          rw [show v73 = (0 : Int32) from hv73.trans ((if_neg hc69).trans ((if_neg hc70).trans (if_neg hc71)))] at k
          exact k)
  obtain ⟨v79, hv79⟩ : ∃ z : Int32, z = (if v13 = (0 : Int32) then (0 : Int32) else (if v16 = (0 : Int32) then (0 : Int32) else (if A2F = v22 then (if A2T = v23 then (1 : Int32) else (0 : Int32)) else (0 : Int32)))) := ⟨_, rfl⟩
  have pre80 : ∀ t, Steps p.tables e below (T61.setTop (mkF m 328 #[.val (.int p1), .val (.long q2), .second, .val (.long q3), .second, .val (.int p4), .val (.int N), .val (.int A1F), .val (.int A1T), .val (.int A2F), .val (.int A2T), .val (.int v22), .val (.int v23), .val (.int C2F), .val (.int C2T), .val (.int v10), .val (.int v13), .val (.int v16), .val (.int v19), .val (.ref b25), .val (.ref b28), .val (.int v67), .val (.int v73), .unset, .unset, .unset, .unset, .unset] [(.int v79)])) t → Steps p.tables e below (s₁.setTop (entryFrame m #[(.int p1), (.long q2), (.long q3), (.int p4)] maxLocals)) t := fun t k => pre74 t (by
    show Steps p.tables e below (T61.setTop (mkF m 297 #[.val (.int p1), .val (.long q2), .second, .val (.long q3), .second, .val (.int p4), .val (.int N), .val (.int A1F), .val (.int A1T), .val (.int A2F), .val (.int A2T), .val (.int v22), .val (.int v23), .val (.int C2F), .val (.int C2T), .val (.int v10), .val (.int v13), .val (.int v16), .val (.int v19), .val (.ref b25), .val (.ref b28), .val (.int v67), .unset, .unset, .unset, .unset, .unset, .unset] [(.int v73)])) _
    refine XS.istore X61.here hx rfl (hb hby at_297) rfl (l' := #[.val (.int p1), .val (.long q2), .second, .val (.long q3), .second, .val (.int p4), .val (.int N), .val (.int A1F), .val (.int A1T), .val (.int A2F), .val (.int A2T), .val (.int v22), .val (.int v23), .val (.int C2F), .val (.int C2T), .val (.int v10), .val (.int v13), .val (.int v16), .val (.int v19), .val (.ref b25), .val (.ref b28), .val (.int v67), .val (.int v73), .unset, .unset, .unset, .unset, .unset]) rfl ?_
    show Steps p.tables e below (T61.setTop (mkF m 299 #[.val (.int p1), .val (.long q2), .second, .val (.long q3), .second, .val (.int p4), .val (.int N), .val (.int A1F), .val (.int A1T), .val (.int A2F), .val (.int A2T), .val (.int v22), .val (.int v23), .val (.int C2F), .val (.int C2T), .val (.int v10), .val (.int v13), .val (.int v16), .val (.int v19), .val (.ref b25), .val (.ref b28), .val (.int v67), .val (.int v73), .unset, .unset, .unset, .unset, .unset] [])) _
    refine XS.iload X61.here hx rfl (hb hby at_299) rfl ?_
    show Steps p.tables e below (T61.setTop (mkF m 301 #[.val (.int p1), .val (.long q2), .second, .val (.long q3), .second, .val (.int p4), .val (.int N), .val (.int A1F), .val (.int A1T), .val (.int A2F), .val (.int A2T), .val (.int v22), .val (.int v23), .val (.int C2F), .val (.int C2T), .val (.int v10), .val (.int v13), .val (.int v16), .val (.int v19), .val (.ref b25), .val (.ref b28), .val (.int v67), .val (.int v73), .unset, .unset, .unset, .unset, .unset] [(.int v13)])) _
    by_cases hc75 : v13 = (0 : Int32)
    · refine XS.ifYes X61.here hx rfl (pc0 := 301) (pc' := 327) rfl (hb hby at_301) rfl ((if0 _ _).trans (teq hc75).1) (by decide) (by decide) ?_
      show Steps p.tables e below (T61.setTop (mkF m 327 #[.val (.int p1), .val (.long q2), .second, .val (.long q3), .second, .val (.int p4), .val (.int N), .val (.int A1F), .val (.int A1T), .val (.int A2F), .val (.int A2T), .val (.int v22), .val (.int v23), .val (.int C2F), .val (.int C2T), .val (.int v10), .val (.int v13), .val (.int v16), .val (.int v19), .val (.ref b25), .val (.ref b28), .val (.int v67), .val (.int v73), .unset, .unset, .unset, .unset, .unset] [])) _
      refine XS.iconst X61.here hx rfl (hb hby at_327) ?_
      rw [show v79 = (0 : Int32) from hv79.trans (if_pos hc75)] at k
      exact k
    · refine XS.ifNo X61.here hx rfl (hb hby at_301) rfl ((if0 _ _).trans (feq hc75).1) ?_
      show Steps p.tables e below (T61.setTop (mkF m 304 #[.val (.int p1), .val (.long q2), .second, .val (.long q3), .second, .val (.int p4), .val (.int N), .val (.int A1F), .val (.int A1T), .val (.int A2F), .val (.int A2T), .val (.int v22), .val (.int v23), .val (.int C2F), .val (.int C2T), .val (.int v10), .val (.int v13), .val (.int v16), .val (.int v19), .val (.ref b25), .val (.ref b28), .val (.int v67), .val (.int v73), .unset, .unset, .unset, .unset, .unset] [])) _
      refine XS.iload X61.here hx rfl (hb hby at_304) rfl ?_
      show Steps p.tables e below (T61.setTop (mkF m 306 #[.val (.int p1), .val (.long q2), .second, .val (.long q3), .second, .val (.int p4), .val (.int N), .val (.int A1F), .val (.int A1T), .val (.int A2F), .val (.int A2T), .val (.int v22), .val (.int v23), .val (.int C2F), .val (.int C2T), .val (.int v10), .val (.int v13), .val (.int v16), .val (.int v19), .val (.ref b25), .val (.ref b28), .val (.int v67), .val (.int v73), .unset, .unset, .unset, .unset, .unset] [(.int v16)])) _
      by_cases hc76 : v16 = (0 : Int32)
      · refine XS.ifYes X61.here hx rfl (pc0 := 306) (pc' := 327) rfl (hb hby at_306) rfl ((if0 _ _).trans (teq hc76).1) (by decide) (by decide) ?_
        show Steps p.tables e below (T61.setTop (mkF m 327 #[.val (.int p1), .val (.long q2), .second, .val (.long q3), .second, .val (.int p4), .val (.int N), .val (.int A1F), .val (.int A1T), .val (.int A2F), .val (.int A2T), .val (.int v22), .val (.int v23), .val (.int C2F), .val (.int C2T), .val (.int v10), .val (.int v13), .val (.int v16), .val (.int v19), .val (.ref b25), .val (.ref b28), .val (.int v67), .val (.int v73), .unset, .unset, .unset, .unset, .unset] [])) _
        refine XS.iconst X61.here hx rfl (hb hby at_327) ?_
        rw [show v79 = (0 : Int32) from hv79.trans ((if_neg hc75).trans (if_pos hc76))] at k
        exact k
      · refine XS.ifNo X61.here hx rfl (hb hby at_306) rfl ((if0 _ _).trans (feq hc76).1) ?_
        show Steps p.tables e below (T61.setTop (mkF m 309 #[.val (.int p1), .val (.long q2), .second, .val (.long q3), .second, .val (.int p4), .val (.int N), .val (.int A1F), .val (.int A1T), .val (.int A2F), .val (.int A2T), .val (.int v22), .val (.int v23), .val (.int C2F), .val (.int C2T), .val (.int v10), .val (.int v13), .val (.int v16), .val (.int v19), .val (.ref b25), .val (.ref b28), .val (.int v67), .val (.int v73), .unset, .unset, .unset, .unset, .unset] [])) _
        refine XS.iload X61.here hx rfl (hb hby at_309) rfl ?_
        show Steps p.tables e below (T61.setTop (mkF m 311 #[.val (.int p1), .val (.long q2), .second, .val (.long q3), .second, .val (.int p4), .val (.int N), .val (.int A1F), .val (.int A1T), .val (.int A2F), .val (.int A2T), .val (.int v22), .val (.int v23), .val (.int C2F), .val (.int C2T), .val (.int v10), .val (.int v13), .val (.int v16), .val (.int v19), .val (.ref b25), .val (.ref b28), .val (.int v67), .val (.int v73), .unset, .unset, .unset, .unset, .unset] [(.int A2F)])) _
        refine XS.iload X61.here hx rfl (hb hby at_311) rfl ?_
        show Steps p.tables e below (T61.setTop (mkF m 313 #[.val (.int p1), .val (.long q2), .second, .val (.long q3), .second, .val (.int p4), .val (.int N), .val (.int A1F), .val (.int A1T), .val (.int A2F), .val (.int A2T), .val (.int v22), .val (.int v23), .val (.int C2F), .val (.int C2T), .val (.int v10), .val (.int v13), .val (.int v16), .val (.int v19), .val (.ref b25), .val (.ref b28), .val (.int v67), .val (.int v73), .unset, .unset, .unset, .unset, .unset] [(.int v22), (.int A2F)])) _
        by_cases hc77 : A2F = v22
        · refine XS.icmpNo X61.here hx rfl (hb hby at_313) rfl (teq hc77).2 ?_
          show Steps p.tables e below (T61.setTop (mkF m 316 #[.val (.int p1), .val (.long q2), .second, .val (.long q3), .second, .val (.int p4), .val (.int N), .val (.int A1F), .val (.int A1T), .val (.int A2F), .val (.int A2T), .val (.int v22), .val (.int v23), .val (.int C2F), .val (.int C2T), .val (.int v10), .val (.int v13), .val (.int v16), .val (.int v19), .val (.ref b25), .val (.ref b28), .val (.int v67), .val (.int v73), .unset, .unset, .unset, .unset, .unset] [])) _
          refine XS.iload X61.here hx rfl (hb hby at_316) rfl ?_
          show Steps p.tables e below (T61.setTop (mkF m 318 #[.val (.int p1), .val (.long q2), .second, .val (.long q3), .second, .val (.int p4), .val (.int N), .val (.int A1F), .val (.int A1T), .val (.int A2F), .val (.int A2T), .val (.int v22), .val (.int v23), .val (.int C2F), .val (.int C2T), .val (.int v10), .val (.int v13), .val (.int v16), .val (.int v19), .val (.ref b25), .val (.ref b28), .val (.int v67), .val (.int v73), .unset, .unset, .unset, .unset, .unset] [(.int A2T)])) _
          refine XS.iload X61.here hx rfl (hb hby at_318) rfl ?_
          show Steps p.tables e below (T61.setTop (mkF m 320 #[.val (.int p1), .val (.long q2), .second, .val (.long q3), .second, .val (.int p4), .val (.int N), .val (.int A1F), .val (.int A1T), .val (.int A2F), .val (.int A2T), .val (.int v22), .val (.int v23), .val (.int C2F), .val (.int C2T), .val (.int v10), .val (.int v13), .val (.int v16), .val (.int v19), .val (.ref b25), .val (.ref b28), .val (.int v67), .val (.int v73), .unset, .unset, .unset, .unset, .unset] [(.int v23), (.int A2T)])) _
          by_cases hc78 : A2T = v23
          · refine XS.icmpNo X61.here hx rfl (hb hby at_320) rfl (teq hc78).2 ?_
            show Steps p.tables e below (T61.setTop (mkF m 323 #[.val (.int p1), .val (.long q2), .second, .val (.long q3), .second, .val (.int p4), .val (.int N), .val (.int A1F), .val (.int A1T), .val (.int A2F), .val (.int A2T), .val (.int v22), .val (.int v23), .val (.int C2F), .val (.int C2T), .val (.int v10), .val (.int v13), .val (.int v16), .val (.int v19), .val (.ref b25), .val (.ref b28), .val (.int v67), .val (.int v73), .unset, .unset, .unset, .unset, .unset] [])) _
            refine XS.iconst X61.here hx rfl (hb hby at_323) ?_
            show Steps p.tables e below (T61.setTop (mkF m 324 #[.val (.int p1), .val (.long q2), .second, .val (.long q3), .second, .val (.int p4), .val (.int N), .val (.int A1F), .val (.int A1T), .val (.int A2F), .val (.int A2T), .val (.int v22), .val (.int v23), .val (.int C2F), .val (.int C2T), .val (.int v10), .val (.int v13), .val (.int v16), .val (.int v19), .val (.ref b25), .val (.ref b28), .val (.int v67), .val (.int v73), .unset, .unset, .unset, .unset, .unset] [(.int (1 : Int32))])) _
            refine XS.goto X61.here hx rfl (pc0 := 324) (pc' := 328) rfl (hb hby at_324) (by decide) (by decide) ?_
            rw [show v79 = (1 : Int32) from hv79.trans ((if_neg hc75).trans ((if_neg hc76).trans ((if_pos hc77).trans (if_pos hc78))))] at k
            exact k
          · refine XS.icmpYes X61.here hx rfl (pc0 := 320) (pc' := 327) rfl (hb hby at_320) rfl (feq hc78).2 (by decide) (by decide) ?_
            show Steps p.tables e below (T61.setTop (mkF m 327 #[.val (.int p1), .val (.long q2), .second, .val (.long q3), .second, .val (.int p4), .val (.int N), .val (.int A1F), .val (.int A1T), .val (.int A2F), .val (.int A2T), .val (.int v22), .val (.int v23), .val (.int C2F), .val (.int C2T), .val (.int v10), .val (.int v13), .val (.int v16), .val (.int v19), .val (.ref b25), .val (.ref b28), .val (.int v67), .val (.int v73), .unset, .unset, .unset, .unset, .unset] [])) _
            refine XS.iconst X61.here hx rfl (hb hby at_327) ?_
            rw [show v79 = (0 : Int32) from hv79.trans ((if_neg hc75).trans ((if_neg hc76).trans ((if_pos hc77).trans (if_neg hc78))))] at k
            exact k
        · refine XS.icmpYes X61.here hx rfl (pc0 := 313) (pc' := 327) rfl (hb hby at_313) rfl (feq hc77).2 (by decide) (by decide) ?_
          show Steps p.tables e below (T61.setTop (mkF m 327 #[.val (.int p1), .val (.long q2), .second, .val (.long q3), .second, .val (.int p4), .val (.int N), .val (.int A1F), .val (.int A1T), .val (.int A2F), .val (.int A2T), .val (.int v22), .val (.int v23), .val (.int C2F), .val (.int C2T), .val (.int v10), .val (.int v13), .val (.int v16), .val (.int v19), .val (.ref b25), .val (.ref b28), .val (.int v67), .val (.int v73), .unset, .unset, .unset, .unset, .unset] [])) _
          refine XS.iconst X61.here hx rfl (hb hby at_327) ?_
          rw [show v79 = (0 : Int32) from hv79.trans ((if_neg hc75).trans ((if_neg hc76).trans (if_neg hc77)))] at k
          exact k)
  obtain ⟨v85, hv85⟩ : ∃ z : Int32, z = (if v13 = (0 : Int32) then (0 : Int32) else (if v19 = (0 : Int32) then (0 : Int32) else (if A2F = C2F then (if A2T = C2T then (1 : Int32) else (0 : Int32)) else (0 : Int32)))) := ⟨_, rfl⟩
  have pre86 : ∀ t, Steps p.tables e below (T61.setTop (mkF m 359 #[.val (.int p1), .val (.long q2), .second, .val (.long q3), .second, .val (.int p4), .val (.int N), .val (.int A1F), .val (.int A1T), .val (.int A2F), .val (.int A2T), .val (.int v22), .val (.int v23), .val (.int C2F), .val (.int C2T), .val (.int v10), .val (.int v13), .val (.int v16), .val (.int v19), .val (.ref b25), .val (.ref b28), .val (.int v67), .val (.int v73), .val (.int v79), .unset, .unset, .unset, .unset] [(.int v85)])) t → Steps p.tables e below (s₁.setTop (entryFrame m #[(.int p1), (.long q2), (.long q3), (.int p4)] maxLocals)) t := fun t k => pre80 t (by
    show Steps p.tables e below (T61.setTop (mkF m 328 #[.val (.int p1), .val (.long q2), .second, .val (.long q3), .second, .val (.int p4), .val (.int N), .val (.int A1F), .val (.int A1T), .val (.int A2F), .val (.int A2T), .val (.int v22), .val (.int v23), .val (.int C2F), .val (.int C2T), .val (.int v10), .val (.int v13), .val (.int v16), .val (.int v19), .val (.ref b25), .val (.ref b28), .val (.int v67), .val (.int v73), .unset, .unset, .unset, .unset, .unset] [(.int v79)])) _
    refine XS.istore X61.here hx rfl (hb hby at_328) rfl (l' := #[.val (.int p1), .val (.long q2), .second, .val (.long q3), .second, .val (.int p4), .val (.int N), .val (.int A1F), .val (.int A1T), .val (.int A2F), .val (.int A2T), .val (.int v22), .val (.int v23), .val (.int C2F), .val (.int C2T), .val (.int v10), .val (.int v13), .val (.int v16), .val (.int v19), .val (.ref b25), .val (.ref b28), .val (.int v67), .val (.int v73), .val (.int v79), .unset, .unset, .unset, .unset]) rfl ?_
    show Steps p.tables e below (T61.setTop (mkF m 330 #[.val (.int p1), .val (.long q2), .second, .val (.long q3), .second, .val (.int p4), .val (.int N), .val (.int A1F), .val (.int A1T), .val (.int A2F), .val (.int A2T), .val (.int v22), .val (.int v23), .val (.int C2F), .val (.int C2T), .val (.int v10), .val (.int v13), .val (.int v16), .val (.int v19), .val (.ref b25), .val (.ref b28), .val (.int v67), .val (.int v73), .val (.int v79), .unset, .unset, .unset, .unset] [])) _
    refine XS.iload X61.here hx rfl (hb hby at_330) rfl ?_
    show Steps p.tables e below (T61.setTop (mkF m 332 #[.val (.int p1), .val (.long q2), .second, .val (.long q3), .second, .val (.int p4), .val (.int N), .val (.int A1F), .val (.int A1T), .val (.int A2F), .val (.int A2T), .val (.int v22), .val (.int v23), .val (.int C2F), .val (.int C2T), .val (.int v10), .val (.int v13), .val (.int v16), .val (.int v19), .val (.ref b25), .val (.ref b28), .val (.int v67), .val (.int v73), .val (.int v79), .unset, .unset, .unset, .unset] [(.int v13)])) _
    by_cases hc81 : v13 = (0 : Int32)
    · refine XS.ifYes X61.here hx rfl (pc0 := 332) (pc' := 358) rfl (hb hby at_332) rfl ((if0 _ _).trans (teq hc81).1) (by decide) (by decide) ?_
      show Steps p.tables e below (T61.setTop (mkF m 358 #[.val (.int p1), .val (.long q2), .second, .val (.long q3), .second, .val (.int p4), .val (.int N), .val (.int A1F), .val (.int A1T), .val (.int A2F), .val (.int A2T), .val (.int v22), .val (.int v23), .val (.int C2F), .val (.int C2T), .val (.int v10), .val (.int v13), .val (.int v16), .val (.int v19), .val (.ref b25), .val (.ref b28), .val (.int v67), .val (.int v73), .val (.int v79), .unset, .unset, .unset, .unset] [])) _
      refine XS.iconst X61.here hx rfl (hb hby at_358) ?_
      rw [show v85 = (0 : Int32) from hv85.trans (if_pos hc81)] at k
      exact k
    · refine XS.ifNo X61.here hx rfl (hb hby at_332) rfl ((if0 _ _).trans (feq hc81).1) ?_
      show Steps p.tables e below (T61.setTop (mkF m 335 #[.val (.int p1), .val (.long q2), .second, .val (.long q3), .second, .val (.int p4), .val (.int N), .val (.int A1F), .val (.int A1T), .val (.int A2F), .val (.int A2T), .val (.int v22), .val (.int v23), .val (.int C2F), .val (.int C2T), .val (.int v10), .val (.int v13), .val (.int v16), .val (.int v19), .val (.ref b25), .val (.ref b28), .val (.int v67), .val (.int v73), .val (.int v79), .unset, .unset, .unset, .unset] [])) _
      refine XS.iload X61.here hx rfl (hb hby at_335) rfl ?_
      show Steps p.tables e below (T61.setTop (mkF m 337 #[.val (.int p1), .val (.long q2), .second, .val (.long q3), .second, .val (.int p4), .val (.int N), .val (.int A1F), .val (.int A1T), .val (.int A2F), .val (.int A2T), .val (.int v22), .val (.int v23), .val (.int C2F), .val (.int C2T), .val (.int v10), .val (.int v13), .val (.int v16), .val (.int v19), .val (.ref b25), .val (.ref b28), .val (.int v67), .val (.int v73), .val (.int v79), .unset, .unset, .unset, .unset] [(.int v19)])) _
      by_cases hc82 : v19 = (0 : Int32)
      · refine XS.ifYes X61.here hx rfl (pc0 := 337) (pc' := 358) rfl (hb hby at_337) rfl ((if0 _ _).trans (teq hc82).1) (by decide) (by decide) ?_
        show Steps p.tables e below (T61.setTop (mkF m 358 #[.val (.int p1), .val (.long q2), .second, .val (.long q3), .second, .val (.int p4), .val (.int N), .val (.int A1F), .val (.int A1T), .val (.int A2F), .val (.int A2T), .val (.int v22), .val (.int v23), .val (.int C2F), .val (.int C2T), .val (.int v10), .val (.int v13), .val (.int v16), .val (.int v19), .val (.ref b25), .val (.ref b28), .val (.int v67), .val (.int v73), .val (.int v79), .unset, .unset, .unset, .unset] [])) _
        refine XS.iconst X61.here hx rfl (hb hby at_358) ?_
        rw [show v85 = (0 : Int32) from hv85.trans ((if_neg hc81).trans (if_pos hc82))] at k
        exact k
      · refine XS.ifNo X61.here hx rfl (hb hby at_337) rfl ((if0 _ _).trans (feq hc82).1) ?_
        show Steps p.tables e below (T61.setTop (mkF m 340 #[.val (.int p1), .val (.long q2), .second, .val (.long q3), .second, .val (.int p4), .val (.int N), .val (.int A1F), .val (.int A1T), .val (.int A2F), .val (.int A2T), .val (.int v22), .val (.int v23), .val (.int C2F), .val (.int C2T), .val (.int v10), .val (.int v13), .val (.int v16), .val (.int v19), .val (.ref b25), .val (.ref b28), .val (.int v67), .val (.int v73), .val (.int v79), .unset, .unset, .unset, .unset] [])) _
        refine XS.iload X61.here hx rfl (hb hby at_340) rfl ?_
        show Steps p.tables e below (T61.setTop (mkF m 342 #[.val (.int p1), .val (.long q2), .second, .val (.long q3), .second, .val (.int p4), .val (.int N), .val (.int A1F), .val (.int A1T), .val (.int A2F), .val (.int A2T), .val (.int v22), .val (.int v23), .val (.int C2F), .val (.int C2T), .val (.int v10), .val (.int v13), .val (.int v16), .val (.int v19), .val (.ref b25), .val (.ref b28), .val (.int v67), .val (.int v73), .val (.int v79), .unset, .unset, .unset, .unset] [(.int A2F)])) _
        refine XS.iload X61.here hx rfl (hb hby at_342) rfl ?_
        show Steps p.tables e below (T61.setTop (mkF m 344 #[.val (.int p1), .val (.long q2), .second, .val (.long q3), .second, .val (.int p4), .val (.int N), .val (.int A1F), .val (.int A1T), .val (.int A2F), .val (.int A2T), .val (.int v22), .val (.int v23), .val (.int C2F), .val (.int C2T), .val (.int v10), .val (.int v13), .val (.int v16), .val (.int v19), .val (.ref b25), .val (.ref b28), .val (.int v67), .val (.int v73), .val (.int v79), .unset, .unset, .unset, .unset] [(.int C2F), (.int A2F)])) _
        by_cases hc83 : A2F = C2F
        · refine XS.icmpNo X61.here hx rfl (hb hby at_344) rfl (teq hc83).2 ?_
          show Steps p.tables e below (T61.setTop (mkF m 347 #[.val (.int p1), .val (.long q2), .second, .val (.long q3), .second, .val (.int p4), .val (.int N), .val (.int A1F), .val (.int A1T), .val (.int A2F), .val (.int A2T), .val (.int v22), .val (.int v23), .val (.int C2F), .val (.int C2T), .val (.int v10), .val (.int v13), .val (.int v16), .val (.int v19), .val (.ref b25), .val (.ref b28), .val (.int v67), .val (.int v73), .val (.int v79), .unset, .unset, .unset, .unset] [])) _
          refine XS.iload X61.here hx rfl (hb hby at_347) rfl ?_
          show Steps p.tables e below (T61.setTop (mkF m 349 #[.val (.int p1), .val (.long q2), .second, .val (.long q3), .second, .val (.int p4), .val (.int N), .val (.int A1F), .val (.int A1T), .val (.int A2F), .val (.int A2T), .val (.int v22), .val (.int v23), .val (.int C2F), .val (.int C2T), .val (.int v10), .val (.int v13), .val (.int v16), .val (.int v19), .val (.ref b25), .val (.ref b28), .val (.int v67), .val (.int v73), .val (.int v79), .unset, .unset, .unset, .unset] [(.int A2T)])) _
          refine XS.iload X61.here hx rfl (hb hby at_349) rfl ?_
          show Steps p.tables e below (T61.setTop (mkF m 351 #[.val (.int p1), .val (.long q2), .second, .val (.long q3), .second, .val (.int p4), .val (.int N), .val (.int A1F), .val (.int A1T), .val (.int A2F), .val (.int A2T), .val (.int v22), .val (.int v23), .val (.int C2F), .val (.int C2T), .val (.int v10), .val (.int v13), .val (.int v16), .val (.int v19), .val (.ref b25), .val (.ref b28), .val (.int v67), .val (.int v73), .val (.int v79), .unset, .unset, .unset, .unset] [(.int C2T), (.int A2T)])) _
          by_cases hc84 : A2T = C2T
          · refine XS.icmpNo X61.here hx rfl (hb hby at_351) rfl (teq hc84).2 ?_
            show Steps p.tables e below (T61.setTop (mkF m 354 #[.val (.int p1), .val (.long q2), .second, .val (.long q3), .second, .val (.int p4), .val (.int N), .val (.int A1F), .val (.int A1T), .val (.int A2F), .val (.int A2T), .val (.int v22), .val (.int v23), .val (.int C2F), .val (.int C2T), .val (.int v10), .val (.int v13), .val (.int v16), .val (.int v19), .val (.ref b25), .val (.ref b28), .val (.int v67), .val (.int v73), .val (.int v79), .unset, .unset, .unset, .unset] [])) _
            refine XS.iconst X61.here hx rfl (hb hby at_354) ?_
            show Steps p.tables e below (T61.setTop (mkF m 355 #[.val (.int p1), .val (.long q2), .second, .val (.long q3), .second, .val (.int p4), .val (.int N), .val (.int A1F), .val (.int A1T), .val (.int A2F), .val (.int A2T), .val (.int v22), .val (.int v23), .val (.int C2F), .val (.int C2T), .val (.int v10), .val (.int v13), .val (.int v16), .val (.int v19), .val (.ref b25), .val (.ref b28), .val (.int v67), .val (.int v73), .val (.int v79), .unset, .unset, .unset, .unset] [(.int (1 : Int32))])) _
            refine XS.goto X61.here hx rfl (pc0 := 355) (pc' := 359) rfl (hb hby at_355) (by decide) (by decide) ?_
            rw [show v85 = (1 : Int32) from hv85.trans ((if_neg hc81).trans ((if_neg hc82).trans ((if_pos hc83).trans (if_pos hc84))))] at k
            exact k
          · refine XS.icmpYes X61.here hx rfl (pc0 := 351) (pc' := 358) rfl (hb hby at_351) rfl (feq hc84).2 (by decide) (by decide) ?_
            show Steps p.tables e below (T61.setTop (mkF m 358 #[.val (.int p1), .val (.long q2), .second, .val (.long q3), .second, .val (.int p4), .val (.int N), .val (.int A1F), .val (.int A1T), .val (.int A2F), .val (.int A2T), .val (.int v22), .val (.int v23), .val (.int C2F), .val (.int C2T), .val (.int v10), .val (.int v13), .val (.int v16), .val (.int v19), .val (.ref b25), .val (.ref b28), .val (.int v67), .val (.int v73), .val (.int v79), .unset, .unset, .unset, .unset] [])) _
            refine XS.iconst X61.here hx rfl (hb hby at_358) ?_
            rw [show v85 = (0 : Int32) from hv85.trans ((if_neg hc81).trans ((if_neg hc82).trans ((if_pos hc83).trans (if_neg hc84))))] at k
            exact k
        · refine XS.icmpYes X61.here hx rfl (pc0 := 344) (pc' := 358) rfl (hb hby at_344) rfl (feq hc83).2 (by decide) (by decide) ?_
          show Steps p.tables e below (T61.setTop (mkF m 358 #[.val (.int p1), .val (.long q2), .second, .val (.long q3), .second, .val (.int p4), .val (.int N), .val (.int A1F), .val (.int A1T), .val (.int A2F), .val (.int A2T), .val (.int v22), .val (.int v23), .val (.int C2F), .val (.int C2T), .val (.int v10), .val (.int v13), .val (.int v16), .val (.int v19), .val (.ref b25), .val (.ref b28), .val (.int v67), .val (.int v73), .val (.int v79), .unset, .unset, .unset, .unset] [])) _
          refine XS.iconst X61.here hx rfl (hb hby at_358) ?_
          rw [show v85 = (0 : Int32) from hv85.trans ((if_neg hc81).trans ((if_neg hc82).trans (if_neg hc83)))] at k
          exact k)
  obtain ⟨v91, hv91⟩ : ∃ z : Int32, z = (if v67 = (0 : Int32) then (if v73 = (0 : Int32) then (if v79 = (0 : Int32) then (if v85 = (0 : Int32) then (0 : Int32) else (1 : Int32)) else (1 : Int32)) else (1 : Int32)) else (1 : Int32)) := ⟨_, rfl⟩
  have pre92 : ∀ t, Steps p.tables e below (T61.setTop (mkF m 386 #[.val (.int p1), .val (.long q2), .second, .val (.long q3), .second, .val (.int p4), .val (.int N), .val (.int A1F), .val (.int A1T), .val (.int A2F), .val (.int A2T), .val (.int v22), .val (.int v23), .val (.int C2F), .val (.int C2T), .val (.int v10), .val (.int v13), .val (.int v16), .val (.int v19), .val (.ref b25), .val (.ref b28), .val (.int v67), .val (.int v73), .val (.int v79), .val (.int v85), .unset, .unset, .unset] [(.int v91)])) t → Steps p.tables e below (s₁.setTop (entryFrame m #[(.int p1), (.long q2), (.long q3), (.int p4)] maxLocals)) t := fun t k => pre86 t (by
    show Steps p.tables e below (T61.setTop (mkF m 359 #[.val (.int p1), .val (.long q2), .second, .val (.long q3), .second, .val (.int p4), .val (.int N), .val (.int A1F), .val (.int A1T), .val (.int A2F), .val (.int A2T), .val (.int v22), .val (.int v23), .val (.int C2F), .val (.int C2T), .val (.int v10), .val (.int v13), .val (.int v16), .val (.int v19), .val (.ref b25), .val (.ref b28), .val (.int v67), .val (.int v73), .val (.int v79), .unset, .unset, .unset, .unset] [(.int v85)])) _
    refine XS.istore X61.here hx rfl (hb hby at_359) rfl (l' := #[.val (.int p1), .val (.long q2), .second, .val (.long q3), .second, .val (.int p4), .val (.int N), .val (.int A1F), .val (.int A1T), .val (.int A2F), .val (.int A2T), .val (.int v22), .val (.int v23), .val (.int C2F), .val (.int C2T), .val (.int v10), .val (.int v13), .val (.int v16), .val (.int v19), .val (.ref b25), .val (.ref b28), .val (.int v67), .val (.int v73), .val (.int v79), .val (.int v85), .unset, .unset, .unset]) rfl ?_
    show Steps p.tables e below (T61.setTop (mkF m 361 #[.val (.int p1), .val (.long q2), .second, .val (.long q3), .second, .val (.int p4), .val (.int N), .val (.int A1F), .val (.int A1T), .val (.int A2F), .val (.int A2T), .val (.int v22), .val (.int v23), .val (.int C2F), .val (.int C2T), .val (.int v10), .val (.int v13), .val (.int v16), .val (.int v19), .val (.ref b25), .val (.ref b28), .val (.int v67), .val (.int v73), .val (.int v79), .val (.int v85), .unset, .unset, .unset] [])) _
    refine XS.iload X61.here hx rfl (hb hby at_361) rfl ?_
    show Steps p.tables e below (T61.setTop (mkF m 363 #[.val (.int p1), .val (.long q2), .second, .val (.long q3), .second, .val (.int p4), .val (.int N), .val (.int A1F), .val (.int A1T), .val (.int A2F), .val (.int A2T), .val (.int v22), .val (.int v23), .val (.int C2F), .val (.int C2T), .val (.int v10), .val (.int v13), .val (.int v16), .val (.int v19), .val (.ref b25), .val (.ref b28), .val (.int v67), .val (.int v73), .val (.int v79), .val (.int v85), .unset, .unset, .unset] [(.int v67)])) _
    by_cases hc87 : v67 = (0 : Int32)
    · refine XS.ifNo X61.here hx rfl (hb hby at_363) rfl ((if0 _ _).trans (teq hc87).2) ?_
      show Steps p.tables e below (T61.setTop (mkF m 366 #[.val (.int p1), .val (.long q2), .second, .val (.long q3), .second, .val (.int p4), .val (.int N), .val (.int A1F), .val (.int A1T), .val (.int A2F), .val (.int A2T), .val (.int v22), .val (.int v23), .val (.int C2F), .val (.int C2T), .val (.int v10), .val (.int v13), .val (.int v16), .val (.int v19), .val (.ref b25), .val (.ref b28), .val (.int v67), .val (.int v73), .val (.int v79), .val (.int v85), .unset, .unset, .unset] [])) _
      refine XS.iload X61.here hx rfl (hb hby at_366) rfl ?_
      show Steps p.tables e below (T61.setTop (mkF m 368 #[.val (.int p1), .val (.long q2), .second, .val (.long q3), .second, .val (.int p4), .val (.int N), .val (.int A1F), .val (.int A1T), .val (.int A2F), .val (.int A2T), .val (.int v22), .val (.int v23), .val (.int C2F), .val (.int C2T), .val (.int v10), .val (.int v13), .val (.int v16), .val (.int v19), .val (.ref b25), .val (.ref b28), .val (.int v67), .val (.int v73), .val (.int v79), .val (.int v85), .unset, .unset, .unset] [(.int v73)])) _
      by_cases hc88 : v73 = (0 : Int32)
      · refine XS.ifNo X61.here hx rfl (hb hby at_368) rfl ((if0 _ _).trans (teq hc88).2) ?_
        show Steps p.tables e below (T61.setTop (mkF m 371 #[.val (.int p1), .val (.long q2), .second, .val (.long q3), .second, .val (.int p4), .val (.int N), .val (.int A1F), .val (.int A1T), .val (.int A2F), .val (.int A2T), .val (.int v22), .val (.int v23), .val (.int C2F), .val (.int C2T), .val (.int v10), .val (.int v13), .val (.int v16), .val (.int v19), .val (.ref b25), .val (.ref b28), .val (.int v67), .val (.int v73), .val (.int v79), .val (.int v85), .unset, .unset, .unset] [])) _
        refine XS.iload X61.here hx rfl (hb hby at_371) rfl ?_
        show Steps p.tables e below (T61.setTop (mkF m 373 #[.val (.int p1), .val (.long q2), .second, .val (.long q3), .second, .val (.int p4), .val (.int N), .val (.int A1F), .val (.int A1T), .val (.int A2F), .val (.int A2T), .val (.int v22), .val (.int v23), .val (.int C2F), .val (.int C2T), .val (.int v10), .val (.int v13), .val (.int v16), .val (.int v19), .val (.ref b25), .val (.ref b28), .val (.int v67), .val (.int v73), .val (.int v79), .val (.int v85), .unset, .unset, .unset] [(.int v79)])) _
        by_cases hc89 : v79 = (0 : Int32)
        · refine XS.ifNo X61.here hx rfl (hb hby at_373) rfl ((if0 _ _).trans (teq hc89).2) ?_
          show Steps p.tables e below (T61.setTop (mkF m 376 #[.val (.int p1), .val (.long q2), .second, .val (.long q3), .second, .val (.int p4), .val (.int N), .val (.int A1F), .val (.int A1T), .val (.int A2F), .val (.int A2T), .val (.int v22), .val (.int v23), .val (.int C2F), .val (.int C2T), .val (.int v10), .val (.int v13), .val (.int v16), .val (.int v19), .val (.ref b25), .val (.ref b28), .val (.int v67), .val (.int v73), .val (.int v79), .val (.int v85), .unset, .unset, .unset] [])) _
          refine XS.iload X61.here hx rfl (hb hby at_376) rfl ?_
          show Steps p.tables e below (T61.setTop (mkF m 378 #[.val (.int p1), .val (.long q2), .second, .val (.long q3), .second, .val (.int p4), .val (.int N), .val (.int A1F), .val (.int A1T), .val (.int A2F), .val (.int A2T), .val (.int v22), .val (.int v23), .val (.int C2F), .val (.int C2T), .val (.int v10), .val (.int v13), .val (.int v16), .val (.int v19), .val (.ref b25), .val (.ref b28), .val (.int v67), .val (.int v73), .val (.int v79), .val (.int v85), .unset, .unset, .unset] [(.int v85)])) _
          by_cases hc90 : v85 = (0 : Int32)
          · refine XS.ifYes X61.here hx rfl (pc0 := 378) (pc' := 385) rfl (hb hby at_378) rfl ((if0 _ _).trans (teq hc90).1) (by decide) (by decide) ?_
            show Steps p.tables e below (T61.setTop (mkF m 385 #[.val (.int p1), .val (.long q2), .second, .val (.long q3), .second, .val (.int p4), .val (.int N), .val (.int A1F), .val (.int A1T), .val (.int A2F), .val (.int A2T), .val (.int v22), .val (.int v23), .val (.int C2F), .val (.int C2T), .val (.int v10), .val (.int v13), .val (.int v16), .val (.int v19), .val (.ref b25), .val (.ref b28), .val (.int v67), .val (.int v73), .val (.int v79), .val (.int v85), .unset, .unset, .unset] [])) _
            refine XS.iconst X61.here hx rfl (hb hby at_385) ?_
            rw [show v91 = (0 : Int32) from hv91.trans ((if_pos hc87).trans ((if_pos hc88).trans ((if_pos hc89).trans (if_pos hc90))))] at k
            exact k
          · refine XS.ifNo X61.here hx rfl (hb hby at_378) rfl ((if0 _ _).trans (feq hc90).1) ?_
            show Steps p.tables e below (T61.setTop (mkF m 381 #[.val (.int p1), .val (.long q2), .second, .val (.long q3), .second, .val (.int p4), .val (.int N), .val (.int A1F), .val (.int A1T), .val (.int A2F), .val (.int A2T), .val (.int v22), .val (.int v23), .val (.int C2F), .val (.int C2T), .val (.int v10), .val (.int v13), .val (.int v16), .val (.int v19), .val (.ref b25), .val (.ref b28), .val (.int v67), .val (.int v73), .val (.int v79), .val (.int v85), .unset, .unset, .unset] [])) _
            refine XS.iconst X61.here hx rfl (hb hby at_381) ?_
            show Steps p.tables e below (T61.setTop (mkF m 382 #[.val (.int p1), .val (.long q2), .second, .val (.long q3), .second, .val (.int p4), .val (.int N), .val (.int A1F), .val (.int A1T), .val (.int A2F), .val (.int A2T), .val (.int v22), .val (.int v23), .val (.int C2F), .val (.int C2T), .val (.int v10), .val (.int v13), .val (.int v16), .val (.int v19), .val (.ref b25), .val (.ref b28), .val (.int v67), .val (.int v73), .val (.int v79), .val (.int v85), .unset, .unset, .unset] [(.int (1 : Int32))])) _
            refine XS.goto X61.here hx rfl (pc0 := 382) (pc' := 386) rfl (hb hby at_382) (by decide) (by decide) ?_
            rw [show v91 = (1 : Int32) from hv91.trans ((if_pos hc87).trans ((if_pos hc88).trans ((if_pos hc89).trans (if_neg hc90))))] at k
            exact k
        · refine XS.ifYes X61.here hx rfl (pc0 := 373) (pc' := 381) rfl (hb hby at_373) rfl ((if0 _ _).trans (feq hc89).2) (by decide) (by decide) ?_
          show Steps p.tables e below (T61.setTop (mkF m 381 #[.val (.int p1), .val (.long q2), .second, .val (.long q3), .second, .val (.int p4), .val (.int N), .val (.int A1F), .val (.int A1T), .val (.int A2F), .val (.int A2T), .val (.int v22), .val (.int v23), .val (.int C2F), .val (.int C2T), .val (.int v10), .val (.int v13), .val (.int v16), .val (.int v19), .val (.ref b25), .val (.ref b28), .val (.int v67), .val (.int v73), .val (.int v79), .val (.int v85), .unset, .unset, .unset] [])) _
          refine XS.iconst X61.here hx rfl (hb hby at_381) ?_
          show Steps p.tables e below (T61.setTop (mkF m 382 #[.val (.int p1), .val (.long q2), .second, .val (.long q3), .second, .val (.int p4), .val (.int N), .val (.int A1F), .val (.int A1T), .val (.int A2F), .val (.int A2T), .val (.int v22), .val (.int v23), .val (.int C2F), .val (.int C2T), .val (.int v10), .val (.int v13), .val (.int v16), .val (.int v19), .val (.ref b25), .val (.ref b28), .val (.int v67), .val (.int v73), .val (.int v79), .val (.int v85), .unset, .unset, .unset] [(.int (1 : Int32))])) _
          refine XS.goto X61.here hx rfl (pc0 := 382) (pc' := 386) rfl (hb hby at_382) (by decide) (by decide) ?_
          rw [show v91 = (1 : Int32) from hv91.trans ((if_pos hc87).trans ((if_pos hc88).trans (if_neg hc89)))] at k
          exact k
      · refine XS.ifYes X61.here hx rfl (pc0 := 368) (pc' := 381) rfl (hb hby at_368) rfl ((if0 _ _).trans (feq hc88).2) (by decide) (by decide) ?_
        show Steps p.tables e below (T61.setTop (mkF m 381 #[.val (.int p1), .val (.long q2), .second, .val (.long q3), .second, .val (.int p4), .val (.int N), .val (.int A1F), .val (.int A1T), .val (.int A2F), .val (.int A2T), .val (.int v22), .val (.int v23), .val (.int C2F), .val (.int C2T), .val (.int v10), .val (.int v13), .val (.int v16), .val (.int v19), .val (.ref b25), .val (.ref b28), .val (.int v67), .val (.int v73), .val (.int v79), .val (.int v85), .unset, .unset, .unset] [])) _
        refine XS.iconst X61.here hx rfl (hb hby at_381) ?_
        show Steps p.tables e below (T61.setTop (mkF m 382 #[.val (.int p1), .val (.long q2), .second, .val (.long q3), .second, .val (.int p4), .val (.int N), .val (.int A1F), .val (.int A1T), .val (.int A2F), .val (.int A2T), .val (.int v22), .val (.int v23), .val (.int C2F), .val (.int C2T), .val (.int v10), .val (.int v13), .val (.int v16), .val (.int v19), .val (.ref b25), .val (.ref b28), .val (.int v67), .val (.int v73), .val (.int v79), .val (.int v85), .unset, .unset, .unset] [(.int (1 : Int32))])) _
        refine XS.goto X61.here hx rfl (pc0 := 382) (pc' := 386) rfl (hb hby at_382) (by decide) (by decide) ?_
        rw [show v91 = (1 : Int32) from hv91.trans ((if_pos hc87).trans (if_neg hc88))] at k
        exact k
    · refine XS.ifYes X61.here hx rfl (pc0 := 363) (pc' := 381) rfl (hb hby at_363) rfl ((if0 _ _).trans (feq hc87).2) (by decide) (by decide) ?_
      show Steps p.tables e below (T61.setTop (mkF m 381 #[.val (.int p1), .val (.long q2), .second, .val (.long q3), .second, .val (.int p4), .val (.int N), .val (.int A1F), .val (.int A1T), .val (.int A2F), .val (.int A2T), .val (.int v22), .val (.int v23), .val (.int C2F), .val (.int C2T), .val (.int v10), .val (.int v13), .val (.int v16), .val (.int v19), .val (.ref b25), .val (.ref b28), .val (.int v67), .val (.int v73), .val (.int v79), .val (.int v85), .unset, .unset, .unset] [])) _
      refine XS.iconst X61.here hx rfl (hb hby at_381) ?_
      show Steps p.tables e below (T61.setTop (mkF m 382 #[.val (.int p1), .val (.long q2), .second, .val (.long q3), .second, .val (.int p4), .val (.int N), .val (.int A1F), .val (.int A1T), .val (.int A2F), .val (.int A2T), .val (.int v22), .val (.int v23), .val (.int C2F), .val (.int C2T), .val (.int v10), .val (.int v13), .val (.int v16), .val (.int v19), .val (.ref b25), .val (.ref b28), .val (.int v67), .val (.int v73), .val (.int v79), .val (.int v85), .unset, .unset, .unset] [(.int (1 : Int32))])) _
      refine XS.goto X61.here hx rfl (pc0 := 382) (pc' := 386) rfl (hb hby at_382) (by decide) (by decide) ?_
      rw [show v91 = (1 : Int32) from hv91.trans (if_neg hc87)] at k
      exact k)
  obtain ⟨cq93, kq93, q93a, q93b, q93c⟩ := isOf hZ e61 E_b25_61
  obtain ⟨_, _, ⟨T93, L93, k93, n93⟩, -, X93, ⟨Lc93, hQ93, l93, y93, z93⟩, st93⟩ := X61.virtualBack hx (y := (⟨"com/example/fenceline/fenceline/model/Relation", "intersects", "(Lcom/example/fenceline/fenceline/model/Relation;)Z"⟩ : MethodName)) (z := (⟨"com/example/fenceline/fenceline/model/Relation", "intersects", "(Lcom/example/fenceline/fenceline/model/Relation;)Z"⟩ : MethodName)) hown (mvT hZ (hw _ (List.mem_of_getElem? (i := 21) rfl))) (mvT hZ (hw _ (List.mem_of_getElem? (i := 22) rfl))) (notFace_of_selects (args := #[]) (mvT hZ (hw _ (List.mem_of_getElem? (i := 24) rfl)))) (mvT hZ (hw _ (List.mem_of_getElem? (i := 24) rfl))) (mvT hZ (hw _ (List.mem_of_getElem? (i := 23) rfl))) (by decide) (backOf (W := 0) (rm4 l Z a0 hw [] b25 b28 b26 b29 (N * (((N + (63 : Int32)).toUInt32 >>> ((6 : Int32) &&& 31).toUInt32).toInt32)) y46 (N * (((N + (63 : Int32)).toUInt32 >>> ((6 : Int32) &&& 31).toUInt32).toInt32)) y62 h61 n0 Zs61 F_rows_b25_61 F_rows_b28_61 A_b26_61 A_b29_61 rfl) hZ (hw _ (List.mem_of_getElem? (i := 25) rfl)) (hw _ (List.mem_of_getElem? (i := 7) rfl)) (by decide) (by decide)) q93a q93c (g := (mkF m 392 #[.val (.int p1), .val (.long q2), .second, .val (.long q3), .second, .val (.int p4), .val (.int N), .val (.int A1F), .val (.int A1T), .val (.int A2F), .val (.int A2T), .val (.int v22), .val (.int v23), .val (.int C2F), .val (.int C2T), .val (.int v10), .val (.int v13), .val (.int v16), .val (.int v19), .val (.ref b25), .val (.ref b28), .val (.int v67), .val (.int v73), .val (.int v79), .val (.int v85), .val (.int v91), .unset, .unset] [(.ref b28), (.ref b25)])) rfl (by rw [hml]; rfl) (Steps.refl _) (argsL := [(.ref b28)]) (rest := []) (lenOf pd_3 rfl) rfl (by show 2 * 0 + _ ≤ _; exact Nat.le_of_eq rfl) (hb hby at_392) (fun _ _ => ⟨rfl, e61, (by decide : 4 + 0 ≤ _), (by decide : 518 + 0 ≤ _)⟩)
  dsimp only [Pt.U, Pt.locs, Pt.cells, Pt.slots] at X93 l93 y93 z93 st93 hQ93
  subst l93 y93 z93
  obtain ⟨rfl, N93q, e93⟩ := hQ93
  have N93 := Fr.app N61 N93q
  obtain ⟨cq94, kq94, q94a, q94b, q94c⟩ := isOf hZ e93 E_b28_61
  obtain ⟨_, _, ⟨T94, L94, k94, n94⟩, -, X94, ⟨Lc94, hQ94, l94, y94, z94⟩, st94⟩ := X93.virtualBack hx (y := (⟨"com/example/fenceline/fenceline/model/Relation", "intersects", "(Lcom/example/fenceline/fenceline/model/Relation;)Z"⟩ : MethodName)) (z := (⟨"com/example/fenceline/fenceline/model/Relation", "intersects", "(Lcom/example/fenceline/fenceline/model/Relation;)Z"⟩ : MethodName)) hown (mvT hZ (hw _ (List.mem_of_getElem? (i := 21) rfl))) (mvT hZ (hw _ (List.mem_of_getElem? (i := 22) rfl))) (notFace_of_selects (args := #[]) (mvT hZ (hw _ (List.mem_of_getElem? (i := 24) rfl)))) (mvT hZ (hw _ (List.mem_of_getElem? (i := 24) rfl))) (mvT hZ (hw _ (List.mem_of_getElem? (i := 23) rfl))) (by decide) (backOf (W := 0) (rm4 l Z a0 hw [] b28 b25 b29 b26 (N * (((N + (63 : Int32)).toUInt32 >>> ((6 : Int32) &&& 31).toUInt32).toInt32)) y62 (N * (((N + (63 : Int32)).toUInt32 >>> ((6 : Int32) &&& 31).toUInt32).toInt32)) y46 h61 n0 Zs61 F_rows_b28_61 F_rows_b25_61 A_b29_61 A_b26_61 rfl) hZ (hw _ (List.mem_of_getElem? (i := 25) rfl)) (hw _ (List.mem_of_getElem? (i := 7) rfl)) (by decide) (by decide)) q94a q94c (g := (mkF m 401 #[.val (.int p1), .val (.long q2), .second, .val (.long q3), .second, .val (.int p4), .val (.int N), .val (.int A1F), .val (.int A1T), .val (.int A2F), .val (.int A2T), .val (.int v22), .val (.int v23), .val (.int C2F), .val (.int C2T), .val (.int v10), .val (.int v13), .val (.int v16), .val (.int v19), .val (.ref b25), .val (.ref b28), .val (.int v67), .val (.int v73), .val (.int v79), .val (.int v85), .val (.int v91), .val (.int (f4 (N * (((N + (63 : Int32)).toUInt32 >>> ((6 : Int32) &&& 31).toUInt32).toInt32)) y46 y62)), .unset] [(.ref b25), (.ref b28)])) rfl (by rw [hml]; rfl) (Steps.refl _) (argsL := [(.ref b25)]) (rest := []) (lenOf pd_3 rfl) rfl (by show 2 * 0 + _ ≤ _; exact Nat.le_of_eq rfl) (hb hby at_401) (fun _ _ => ⟨rfl, e93, (by decide : 4 + 0 ≤ _), (by decide : 518 + 0 ≤ _)⟩)
  dsimp only [Pt.U, Pt.locs, Pt.cells, Pt.slots] at X94 l94 y94 z94 st94 hQ94
  subst l94 y94 z94
  obtain ⟨rfl, N94q, e94⟩ := hQ94
  have N94 := Fr.app N93 N94q
  obtain ⟨v97, hv97⟩ : ∃ z : Int32, z = (if (f4 (N * (((N + (63 : Int32)).toUInt32 >>> ((6 : Int32) &&& 31).toUInt32).toInt32)) y46 y62) = v91 then (if (f4 (N * (((N + (63 : Int32)).toUInt32 >>> ((6 : Int32) &&& 31).toUInt32).toInt32)) y62 y46) = v91 then (1 : Int32) else (0 : Int32)) else (0 : Int32)) := ⟨_, rfl⟩
  have pre98 : ∀ t, Steps p.tables e below (T94.setTop (mkF m 425 #[.val (.int p1), .val (.long q2), .second, .val (.long q3), .second, .val (.int p4), .val (.int N), .val (.int A1F), .val (.int A1T), .val (.int A2F), .val (.int A2T), .val (.int v22), .val (.int v23), .val (.int C2F), .val (.int C2T), .val (.int v10), .val (.int v13), .val (.int v16), .val (.int v19), .val (.ref b25), .val (.ref b28), .val (.int v67), .val (.int v73), .val (.int v79), .val (.int v85), .val (.int v91), .val (.int (f4 (N * (((N + (63 : Int32)).toUInt32 >>> ((6 : Int32) &&& 31).toUInt32).toInt32)) y46 y62)), .val (.int (f4 (N * (((N + (63 : Int32)).toUInt32 >>> ((6 : Int32) &&& 31).toUInt32).toInt32)) y62 y46))] [(.int v97)])) t → Steps p.tables e below (s₁.setTop (entryFrame m #[(.int p1), (.long q2), (.long q3), (.int p4)] maxLocals)) t := fun t k => pre92 t (by
    show Steps p.tables e below (T61.setTop (mkF m 386 #[.val (.int p1), .val (.long q2), .second, .val (.long q3), .second, .val (.int p4), .val (.int N), .val (.int A1F), .val (.int A1T), .val (.int A2F), .val (.int A2T), .val (.int v22), .val (.int v23), .val (.int C2F), .val (.int C2T), .val (.int v10), .val (.int v13), .val (.int v16), .val (.int v19), .val (.ref b25), .val (.ref b28), .val (.int v67), .val (.int v73), .val (.int v79), .val (.int v85), .unset, .unset, .unset] [(.int v91)])) _
    refine XS.istore X61.here hx rfl (hb hby at_386) rfl (l' := #[.val (.int p1), .val (.long q2), .second, .val (.long q3), .second, .val (.int p4), .val (.int N), .val (.int A1F), .val (.int A1T), .val (.int A2F), .val (.int A2T), .val (.int v22), .val (.int v23), .val (.int C2F), .val (.int C2T), .val (.int v10), .val (.int v13), .val (.int v16), .val (.int v19), .val (.ref b25), .val (.ref b28), .val (.int v67), .val (.int v73), .val (.int v79), .val (.int v85), .val (.int v91), .unset, .unset]) rfl ?_
    show Steps p.tables e below (T61.setTop (mkF m 388 #[.val (.int p1), .val (.long q2), .second, .val (.long q3), .second, .val (.int p4), .val (.int N), .val (.int A1F), .val (.int A1T), .val (.int A2F), .val (.int A2T), .val (.int v22), .val (.int v23), .val (.int C2F), .val (.int C2T), .val (.int v10), .val (.int v13), .val (.int v16), .val (.int v19), .val (.ref b25), .val (.ref b28), .val (.int v67), .val (.int v73), .val (.int v79), .val (.int v85), .val (.int v91), .unset, .unset] [])) _
    refine XS.aload X61.here hx rfl (hb hby at_388) rfl rfl ?_
    show Steps p.tables e below (T61.setTop (mkF m 390 #[.val (.int p1), .val (.long q2), .second, .val (.long q3), .second, .val (.int p4), .val (.int N), .val (.int A1F), .val (.int A1T), .val (.int A2F), .val (.int A2T), .val (.int v22), .val (.int v23), .val (.int C2F), .val (.int C2T), .val (.int v10), .val (.int v13), .val (.int v16), .val (.int v19), .val (.ref b25), .val (.ref b28), .val (.int v67), .val (.int v73), .val (.int v79), .val (.int v85), .val (.int v91), .unset, .unset] [(.ref b25)])) _
    refine XS.aload X61.here hx rfl (hb hby at_390) rfl rfl ?_
    show Steps p.tables e below (T61.setTop (mkF m 392 #[.val (.int p1), .val (.long q2), .second, .val (.long q3), .second, .val (.int p4), .val (.int N), .val (.int A1F), .val (.int A1T), .val (.int A2F), .val (.int A2T), .val (.int v22), .val (.int v23), .val (.int C2F), .val (.int C2T), .val (.int v10), .val (.int v13), .val (.int v16), .val (.int v19), .val (.ref b25), .val (.ref b28), .val (.int v67), .val (.int v73), .val (.int v79), .val (.int v85), .val (.int v91), .unset, .unset] [(.ref b28), (.ref b25)])) _
    refine st93.trans ?_
    show Steps p.tables e below (T93.setTop (mkF m 395 #[.val (.int p1), .val (.long q2), .second, .val (.long q3), .second, .val (.int p4), .val (.int N), .val (.int A1F), .val (.int A1T), .val (.int A2F), .val (.int A2T), .val (.int v22), .val (.int v23), .val (.int C2F), .val (.int C2T), .val (.int v10), .val (.int v13), .val (.int v16), .val (.int v19), .val (.ref b25), .val (.ref b28), .val (.int v67), .val (.int v73), .val (.int v79), .val (.int v85), .val (.int v91), .unset, .unset] [(.int (f4 (N * (((N + (63 : Int32)).toUInt32 >>> ((6 : Int32) &&& 31).toUInt32).toInt32)) y46 y62))])) _
    refine XS.istore X93.here hx rfl (hb hby at_395) rfl (l' := #[.val (.int p1), .val (.long q2), .second, .val (.long q3), .second, .val (.int p4), .val (.int N), .val (.int A1F), .val (.int A1T), .val (.int A2F), .val (.int A2T), .val (.int v22), .val (.int v23), .val (.int C2F), .val (.int C2T), .val (.int v10), .val (.int v13), .val (.int v16), .val (.int v19), .val (.ref b25), .val (.ref b28), .val (.int v67), .val (.int v73), .val (.int v79), .val (.int v85), .val (.int v91), .val (.int (f4 (N * (((N + (63 : Int32)).toUInt32 >>> ((6 : Int32) &&& 31).toUInt32).toInt32)) y46 y62)), .unset]) rfl ?_
    show Steps p.tables e below (T93.setTop (mkF m 397 #[.val (.int p1), .val (.long q2), .second, .val (.long q3), .second, .val (.int p4), .val (.int N), .val (.int A1F), .val (.int A1T), .val (.int A2F), .val (.int A2T), .val (.int v22), .val (.int v23), .val (.int C2F), .val (.int C2T), .val (.int v10), .val (.int v13), .val (.int v16), .val (.int v19), .val (.ref b25), .val (.ref b28), .val (.int v67), .val (.int v73), .val (.int v79), .val (.int v85), .val (.int v91), .val (.int (f4 (N * (((N + (63 : Int32)).toUInt32 >>> ((6 : Int32) &&& 31).toUInt32).toInt32)) y46 y62)), .unset] [])) _
    refine XS.aload X93.here hx rfl (hb hby at_397) rfl rfl ?_
    show Steps p.tables e below (T93.setTop (mkF m 399 #[.val (.int p1), .val (.long q2), .second, .val (.long q3), .second, .val (.int p4), .val (.int N), .val (.int A1F), .val (.int A1T), .val (.int A2F), .val (.int A2T), .val (.int v22), .val (.int v23), .val (.int C2F), .val (.int C2T), .val (.int v10), .val (.int v13), .val (.int v16), .val (.int v19), .val (.ref b25), .val (.ref b28), .val (.int v67), .val (.int v73), .val (.int v79), .val (.int v85), .val (.int v91), .val (.int (f4 (N * (((N + (63 : Int32)).toUInt32 >>> ((6 : Int32) &&& 31).toUInt32).toInt32)) y46 y62)), .unset] [(.ref b28)])) _
    refine XS.aload X93.here hx rfl (hb hby at_399) rfl rfl ?_
    show Steps p.tables e below (T93.setTop (mkF m 401 #[.val (.int p1), .val (.long q2), .second, .val (.long q3), .second, .val (.int p4), .val (.int N), .val (.int A1F), .val (.int A1T), .val (.int A2F), .val (.int A2T), .val (.int v22), .val (.int v23), .val (.int C2F), .val (.int C2T), .val (.int v10), .val (.int v13), .val (.int v16), .val (.int v19), .val (.ref b25), .val (.ref b28), .val (.int v67), .val (.int v73), .val (.int v79), .val (.int v85), .val (.int v91), .val (.int (f4 (N * (((N + (63 : Int32)).toUInt32 >>> ((6 : Int32) &&& 31).toUInt32).toInt32)) y46 y62)), .unset] [(.ref b25), (.ref b28)])) _
    refine st94.trans ?_
    show Steps p.tables e below (T94.setTop (mkF m 404 #[.val (.int p1), .val (.long q2), .second, .val (.long q3), .second, .val (.int p4), .val (.int N), .val (.int A1F), .val (.int A1T), .val (.int A2F), .val (.int A2T), .val (.int v22), .val (.int v23), .val (.int C2F), .val (.int C2T), .val (.int v10), .val (.int v13), .val (.int v16), .val (.int v19), .val (.ref b25), .val (.ref b28), .val (.int v67), .val (.int v73), .val (.int v79), .val (.int v85), .val (.int v91), .val (.int (f4 (N * (((N + (63 : Int32)).toUInt32 >>> ((6 : Int32) &&& 31).toUInt32).toInt32)) y46 y62)), .unset] [(.int (f4 (N * (((N + (63 : Int32)).toUInt32 >>> ((6 : Int32) &&& 31).toUInt32).toInt32)) y62 y46))])) _
    refine XS.istore X94.here hx rfl (hb hby at_404) rfl (l' := #[.val (.int p1), .val (.long q2), .second, .val (.long q3), .second, .val (.int p4), .val (.int N), .val (.int A1F), .val (.int A1T), .val (.int A2F), .val (.int A2T), .val (.int v22), .val (.int v23), .val (.int C2F), .val (.int C2T), .val (.int v10), .val (.int v13), .val (.int v16), .val (.int v19), .val (.ref b25), .val (.ref b28), .val (.int v67), .val (.int v73), .val (.int v79), .val (.int v85), .val (.int v91), .val (.int (f4 (N * (((N + (63 : Int32)).toUInt32 >>> ((6 : Int32) &&& 31).toUInt32).toInt32)) y46 y62)), .val (.int (f4 (N * (((N + (63 : Int32)).toUInt32 >>> ((6 : Int32) &&& 31).toUInt32).toInt32)) y62 y46))]) rfl ?_
    show Steps p.tables e below (T94.setTop (mkF m 406 #[.val (.int p1), .val (.long q2), .second, .val (.long q3), .second, .val (.int p4), .val (.int N), .val (.int A1F), .val (.int A1T), .val (.int A2F), .val (.int A2T), .val (.int v22), .val (.int v23), .val (.int C2F), .val (.int C2T), .val (.int v10), .val (.int v13), .val (.int v16), .val (.int v19), .val (.ref b25), .val (.ref b28), .val (.int v67), .val (.int v73), .val (.int v79), .val (.int v85), .val (.int v91), .val (.int (f4 (N * (((N + (63 : Int32)).toUInt32 >>> ((6 : Int32) &&& 31).toUInt32).toInt32)) y46 y62)), .val (.int (f4 (N * (((N + (63 : Int32)).toUInt32 >>> ((6 : Int32) &&& 31).toUInt32).toInt32)) y62 y46))] [])) _
    refine XS.iload X94.here hx rfl (hb hby at_406) rfl ?_
    show Steps p.tables e below (T94.setTop (mkF m 408 #[.val (.int p1), .val (.long q2), .second, .val (.long q3), .second, .val (.int p4), .val (.int N), .val (.int A1F), .val (.int A1T), .val (.int A2F), .val (.int A2T), .val (.int v22), .val (.int v23), .val (.int C2F), .val (.int C2T), .val (.int v10), .val (.int v13), .val (.int v16), .val (.int v19), .val (.ref b25), .val (.ref b28), .val (.int v67), .val (.int v73), .val (.int v79), .val (.int v85), .val (.int v91), .val (.int (f4 (N * (((N + (63 : Int32)).toUInt32 >>> ((6 : Int32) &&& 31).toUInt32).toInt32)) y46 y62)), .val (.int (f4 (N * (((N + (63 : Int32)).toUInt32 >>> ((6 : Int32) &&& 31).toUInt32).toInt32)) y62 y46))] [(.int (f4 (N * (((N + (63 : Int32)).toUInt32 >>> ((6 : Int32) &&& 31).toUInt32).toInt32)) y46 y62))])) _
    refine XS.iload X94.here hx rfl (hb hby at_408) rfl ?_
    show Steps p.tables e below (T94.setTop (mkF m 410 #[.val (.int p1), .val (.long q2), .second, .val (.long q3), .second, .val (.int p4), .val (.int N), .val (.int A1F), .val (.int A1T), .val (.int A2F), .val (.int A2T), .val (.int v22), .val (.int v23), .val (.int C2F), .val (.int C2T), .val (.int v10), .val (.int v13), .val (.int v16), .val (.int v19), .val (.ref b25), .val (.ref b28), .val (.int v67), .val (.int v73), .val (.int v79), .val (.int v85), .val (.int v91), .val (.int (f4 (N * (((N + (63 : Int32)).toUInt32 >>> ((6 : Int32) &&& 31).toUInt32).toInt32)) y46 y62)), .val (.int (f4 (N * (((N + (63 : Int32)).toUInt32 >>> ((6 : Int32) &&& 31).toUInt32).toInt32)) y62 y46))] [(.int v91), (.int (f4 (N * (((N + (63 : Int32)).toUInt32 >>> ((6 : Int32) &&& 31).toUInt32).toInt32)) y46 y62))])) _
    by_cases hc95 : (f4 (N * (((N + (63 : Int32)).toUInt32 >>> ((6 : Int32) &&& 31).toUInt32).toInt32)) y46 y62) = v91
    · refine XS.icmpNo X94.here hx rfl (hb hby at_410) rfl (teq hc95).2 ?_
      show Steps p.tables e below (T94.setTop (mkF m 413 #[.val (.int p1), .val (.long q2), .second, .val (.long q3), .second, .val (.int p4), .val (.int N), .val (.int A1F), .val (.int A1T), .val (.int A2F), .val (.int A2T), .val (.int v22), .val (.int v23), .val (.int C2F), .val (.int C2T), .val (.int v10), .val (.int v13), .val (.int v16), .val (.int v19), .val (.ref b25), .val (.ref b28), .val (.int v67), .val (.int v73), .val (.int v79), .val (.int v85), .val (.int v91), .val (.int (f4 (N * (((N + (63 : Int32)).toUInt32 >>> ((6 : Int32) &&& 31).toUInt32).toInt32)) y46 y62)), .val (.int (f4 (N * (((N + (63 : Int32)).toUInt32 >>> ((6 : Int32) &&& 31).toUInt32).toInt32)) y62 y46))] [])) _
      refine XS.iload X94.here hx rfl (hb hby at_413) rfl ?_
      show Steps p.tables e below (T94.setTop (mkF m 415 #[.val (.int p1), .val (.long q2), .second, .val (.long q3), .second, .val (.int p4), .val (.int N), .val (.int A1F), .val (.int A1T), .val (.int A2F), .val (.int A2T), .val (.int v22), .val (.int v23), .val (.int C2F), .val (.int C2T), .val (.int v10), .val (.int v13), .val (.int v16), .val (.int v19), .val (.ref b25), .val (.ref b28), .val (.int v67), .val (.int v73), .val (.int v79), .val (.int v85), .val (.int v91), .val (.int (f4 (N * (((N + (63 : Int32)).toUInt32 >>> ((6 : Int32) &&& 31).toUInt32).toInt32)) y46 y62)), .val (.int (f4 (N * (((N + (63 : Int32)).toUInt32 >>> ((6 : Int32) &&& 31).toUInt32).toInt32)) y62 y46))] [(.int (f4 (N * (((N + (63 : Int32)).toUInt32 >>> ((6 : Int32) &&& 31).toUInt32).toInt32)) y62 y46))])) _
      refine XS.iload X94.here hx rfl (hb hby at_415) rfl ?_
      show Steps p.tables e below (T94.setTop (mkF m 417 #[.val (.int p1), .val (.long q2), .second, .val (.long q3), .second, .val (.int p4), .val (.int N), .val (.int A1F), .val (.int A1T), .val (.int A2F), .val (.int A2T), .val (.int v22), .val (.int v23), .val (.int C2F), .val (.int C2T), .val (.int v10), .val (.int v13), .val (.int v16), .val (.int v19), .val (.ref b25), .val (.ref b28), .val (.int v67), .val (.int v73), .val (.int v79), .val (.int v85), .val (.int v91), .val (.int (f4 (N * (((N + (63 : Int32)).toUInt32 >>> ((6 : Int32) &&& 31).toUInt32).toInt32)) y46 y62)), .val (.int (f4 (N * (((N + (63 : Int32)).toUInt32 >>> ((6 : Int32) &&& 31).toUInt32).toInt32)) y62 y46))] [(.int v91), (.int (f4 (N * (((N + (63 : Int32)).toUInt32 >>> ((6 : Int32) &&& 31).toUInt32).toInt32)) y62 y46))])) _
      by_cases hc96 : (f4 (N * (((N + (63 : Int32)).toUInt32 >>> ((6 : Int32) &&& 31).toUInt32).toInt32)) y62 y46) = v91
      · refine XS.icmpNo X94.here hx rfl (hb hby at_417) rfl (teq hc96).2 ?_
        show Steps p.tables e below (T94.setTop (mkF m 420 #[.val (.int p1), .val (.long q2), .second, .val (.long q3), .second, .val (.int p4), .val (.int N), .val (.int A1F), .val (.int A1T), .val (.int A2F), .val (.int A2T), .val (.int v22), .val (.int v23), .val (.int C2F), .val (.int C2T), .val (.int v10), .val (.int v13), .val (.int v16), .val (.int v19), .val (.ref b25), .val (.ref b28), .val (.int v67), .val (.int v73), .val (.int v79), .val (.int v85), .val (.int v91), .val (.int (f4 (N * (((N + (63 : Int32)).toUInt32 >>> ((6 : Int32) &&& 31).toUInt32).toInt32)) y46 y62)), .val (.int (f4 (N * (((N + (63 : Int32)).toUInt32 >>> ((6 : Int32) &&& 31).toUInt32).toInt32)) y62 y46))] [])) _
        refine XS.iconst X94.here hx rfl (hb hby at_420) ?_
        show Steps p.tables e below (T94.setTop (mkF m 421 #[.val (.int p1), .val (.long q2), .second, .val (.long q3), .second, .val (.int p4), .val (.int N), .val (.int A1F), .val (.int A1T), .val (.int A2F), .val (.int A2T), .val (.int v22), .val (.int v23), .val (.int C2F), .val (.int C2T), .val (.int v10), .val (.int v13), .val (.int v16), .val (.int v19), .val (.ref b25), .val (.ref b28), .val (.int v67), .val (.int v73), .val (.int v79), .val (.int v85), .val (.int v91), .val (.int (f4 (N * (((N + (63 : Int32)).toUInt32 >>> ((6 : Int32) &&& 31).toUInt32).toInt32)) y46 y62)), .val (.int (f4 (N * (((N + (63 : Int32)).toUInt32 >>> ((6 : Int32) &&& 31).toUInt32).toInt32)) y62 y46))] [(.int (1 : Int32))])) _
        refine XS.goto X94.here hx rfl (pc0 := 421) (pc' := 425) rfl (hb hby at_421) (by decide) (by decide) ?_
        rw [show v97 = (1 : Int32) from hv97.trans ((if_pos hc95).trans (if_pos hc96))] at k
        exact k
      · refine XS.icmpYes X94.here hx rfl (pc0 := 417) (pc' := 424) rfl (hb hby at_417) rfl (feq hc96).2 (by decide) (by decide) ?_
        show Steps p.tables e below (T94.setTop (mkF m 424 #[.val (.int p1), .val (.long q2), .second, .val (.long q3), .second, .val (.int p4), .val (.int N), .val (.int A1F), .val (.int A1T), .val (.int A2F), .val (.int A2T), .val (.int v22), .val (.int v23), .val (.int C2F), .val (.int C2T), .val (.int v10), .val (.int v13), .val (.int v16), .val (.int v19), .val (.ref b25), .val (.ref b28), .val (.int v67), .val (.int v73), .val (.int v79), .val (.int v85), .val (.int v91), .val (.int (f4 (N * (((N + (63 : Int32)).toUInt32 >>> ((6 : Int32) &&& 31).toUInt32).toInt32)) y46 y62)), .val (.int (f4 (N * (((N + (63 : Int32)).toUInt32 >>> ((6 : Int32) &&& 31).toUInt32).toInt32)) y62 y46))] [])) _
        refine XS.iconst X94.here hx rfl (hb hby at_424) ?_
        rw [show v97 = (0 : Int32) from hv97.trans ((if_pos hc95).trans (if_neg hc96))] at k
        exact k
    · refine XS.icmpYes X94.here hx rfl (pc0 := 410) (pc' := 424) rfl (hb hby at_410) rfl (feq hc95).2 (by decide) (by decide) ?_
      show Steps p.tables e below (T94.setTop (mkF m 424 #[.val (.int p1), .val (.long q2), .second, .val (.long q3), .second, .val (.int p4), .val (.int N), .val (.int A1F), .val (.int A1T), .val (.int A2F), .val (.int A2T), .val (.int v22), .val (.int v23), .val (.int C2F), .val (.int C2T), .val (.int v10), .val (.int v13), .val (.int v16), .val (.int v19), .val (.ref b25), .val (.ref b28), .val (.int v67), .val (.int v73), .val (.int v79), .val (.int v85), .val (.int v91), .val (.int (f4 (N * (((N + (63 : Int32)).toUInt32 >>> ((6 : Int32) &&& 31).toUInt32).toInt32)) y46 y62)), .val (.int (f4 (N * (((N + (63 : Int32)).toUInt32 >>> ((6 : Int32) &&& 31).toUInt32).toInt32)) y62 y46))] [])) _
      refine XS.iconst X94.here hx rfl (hb hby at_424) ?_
      rw [show v97 = (0 : Int32) from hv97.trans (if_neg hc95)] at k
      exact k)
  have er : (f0 p1 q2 q3 p4) = (nar .boolean v97) := by subst hN hA1F hA1T hA2F hA2T hC1F hC1T hC2F hC2T hv10 hv13 hv16 hv19 hv22 hv23 hy27 hy30 hy38 hy46 hy54 hy62 hv67 hv73 hv79 hv85 hv91 hv97; exact rfl
  obtain ⟨fs, hr, hrun, hended, hW, hsame⟩ := X94.leave (v := some (.int (nar .boolean v97))) (fun h => by rw [Bd.returns] at h; cases h)
  refine ⟨_, _, pre98 _ ?_, hrun, hended, _, _, rfl, ?_, ⟨_, rfl⟩, hW, hsame.mono (by decide) (by decide)⟩
  · show Steps p.tables e below (T94.setTop (mkF m 425 #[.val (.int p1), .val (.long q2), .second, .val (.long q3), .second, .val (.int p4), .val (.int N), .val (.int A1F), .val (.int A1T), .val (.int A2F), .val (.int A2T), .val (.int v22), .val (.int v23), .val (.int C2F), .val (.int C2T), .val (.int v10), .val (.int v13), .val (.int v16), .val (.int v19), .val (.ref b25), .val (.ref b28), .val (.int v67), .val (.int v73), .val (.int v79), .val (.int v85), .val (.int v91), .val (.int (f4 (N * (((N + (63 : Int32)).toUInt32 >>> ((6 : Int32) &&& 31).toUInt32).toInt32)) y46 y62)), .val (.int (f4 (N * (((N + (63 : Int32)).toUInt32 >>> ((6 : Int32) &&& 31).toUInt32).toInt32)) y62 y46))] [(.int v97)])) _
    exact retN X94 hx (t := .boolean) Bd.returns (by simp) (hb hby at_425) hr
  · show Q0 Z p1 q2 q3 p4 h0 n0 _ T94.heap _
    rw [e94]
    exact ⟨congrArg (fun z => some (Value.int z)) er.symm, N94, trivial⟩
theorem own_int_01 (y z : Int32 → Int64) (k : Nat) : ∀ i, own_int y z i k = 0 ∨ own_int y z i k = 1 := by
  induction k with
  | zero => intro i; exact Or.inl rfl
  | succ k ih =>
    intro i
    show (if ((y i) &&& (z i)) = (0 : Int64) then own_int y z (i + 1) k else 1) = 0 ∨ (if ((y i) &&& (z i)) = (0 : Int64) then own_int y z (i + 1) k else 1) = 1
    by_cases h : ((y i) &&& (z i)) = (0 : Int64)
    · rw [if_pos h]; exact ih _
    · rw [if_neg h]; exact Or.inr rfl
theorem own_int_iff (y z : Int32 → Int64) (n : Int) (hn : n ≤ 100000) (k : Nat) : ∀ i : Int32, 0 ≤ i.toInt → i.toInt + k = n → (own_int y z i k = 1 ↔ ∃ j : Int32, i.toInt ≤ j.toInt ∧ j.toInt < n ∧ ¬ ((y j) &&& (z j)) = (0 : Int64)) := by
  have e1 : (1 : Int32).toInt = 1 := by decide
  induction k with
  | zero =>
    intro i h0 hk
    have e : own_int y z i 0 = 0 := rfl
    rw [e]
    exact ⟨fun q => absurd q (by decide), fun ⟨j, q1, q2, _⟩ => absurd q2 (by omega)⟩
  | succ k ih =>
    intro i h0 hk
    have s1 := c_iadd i 1
    have s2 := rng32 (i + 1)
    have hi : (i + 1).toInt = i.toInt + 1 := by omega
    have r := ih (i + 1) (by omega) (by omega)
    have e : own_int y z i (k + 1) = (if ((y i) &&& (z i)) = (0 : Int64) then own_int y z (i + 1) k else 1) := rfl
    rw [e]
    by_cases h : ((y i) &&& (z i)) = (0 : Int64)
    · rw [if_pos h, r]
      constructor
      · rintro ⟨j, q1, q2, q3⟩
        exact ⟨j, by omega, q2, q3⟩
      · rintro ⟨j, q1, q2, q3⟩
        refine ⟨j, ?_, q2, q3⟩
        have : ¬ j.toInt = i.toInt := fun q => q3 (by rw [Int32.toInt_inj.mp q]; exact h)
        omega
    · rw [if_neg h]
      exact ⟨fun _ => ⟨i, Int.le_refl _, by omega, h⟩, fun _ => rfl⟩
theorem own_and (v w : Int64) : ¬ (v &&& w) = (0 : Int64) ↔ ∃ t : Int32, own_has v t ∧ own_has w t := by
  have hz : (0 : Int64).toBitVec = 0#64 := rfl
  rw [← Int64.toBitVec_inj, Int64.toBitVec_and, hz]
  constructor
  · intro h
    apply Classical.byContradiction
    intro q
    apply h
    apply BitVec.eq_of_getLsbD_eq
    intro k hk
    rw [BitVec.getLsbD_and, BitVec.getLsbD_zero]
    have e : (Int32.ofInt (k : Int)).toBitVec.toNat % 64 = k := (by decide +kernel : ∀ k : Nat, k < 64 → (Int32.ofInt (k : Int)).toBitVec.toNat % 64 = k) k hk
    have q2 : ¬ (own_has v (Int32.ofInt (k : Int)) ∧ own_has w (Int32.ofInt (k : Int))) := fun z => q ⟨_, z⟩
    rw [own_has_iff, own_has_iff, e] at q2
    cases h1 : v.toBitVec.getLsbD k <;> cases h2 : w.toBitVec.getLsbD k <;> simp_all
  · rintro ⟨t, h1, h2⟩ q
    rw [own_has_iff] at h1 h2
    have q2 := congrArg (fun z => z.getLsbD (t.toBitVec.toNat % 64)) q
    simp only [BitVec.getLsbD_and, h1, h2, BitVec.getLsbD_zero] at q2
    exact absurd q2 (by decide)
def own_R (N A : Int32) : Prop := 0 ≤ A.toInt ∧ A.toInt < N.toInt
def own_Y (N U1 F1 T1 U2 F2 T2 : Int32) : Int32 → Int64 := (if U2 = (0 : Int32) then (if U1 = (0 : Int32) then (fun _ => (0 : Int64)) else own_upd (fun _ => (0 : Int64)) (own_I N F1 T1) T1) else own_upd (if U1 = (0 : Int32) then (fun _ => (0 : Int64)) else own_upd (fun _ => (0 : Int64)) (own_I N F1 T1) T1) (own_I N F2 T2) T2)
def own_In (N j t U1 F1 T1 U2 F2 T2 : Int32) : Prop := (¬ U1 = 0 ∧ j = own_I N F1 T1 ∧ T1.toBitVec.toNat % 64 = t.toBitVec.toNat % 64) ∨ (¬ U2 = 0 ∧ j = own_I N F2 T2 ∧ T2.toBitVec.toNat % 64 = t.toBitVec.toNat % 64)
theorem own_hasY (N U1 F1 T1 U2 F2 T2 j t : Int32) : own_has (own_Y N U1 F1 T1 U2 F2 T2 j) t ↔ own_In N j t U1 F1 T1 U2 F2 T2 := by
  unfold own_Y own_In
  rw [own_has_cupd, own_has_cupd]
  exact ⟨fun z => z.imp (fun z => z.elim (fun z => absurd z (own_has_0 t)) id) id, fun z => z.imp Or.inr id⟩
def own_Hit (U1 F1 T1 U2 F2 T2 V1 G1 S1 V2 G2 S2 : Int32) : Prop := (¬ U1 = 0 ∧ ¬ V1 = 0 ∧ F1 = G1 ∧ T1 = S1) ∨ (¬ U1 = 0 ∧ ¬ V2 = 0 ∧ F1 = G2 ∧ T1 = S2) ∨ (¬ U2 = 0 ∧ ¬ V1 = 0 ∧ F2 = G1 ∧ T2 = S1) ∨ (¬ U2 = 0 ∧ ¬ V2 = 0 ∧ F2 = G2 ∧ T2 = S2)
theorem own_hit_iff {N U1 F1 T1 U2 F2 T2 V1 G1 S1 V2 G2 S2 : Int32} (h : 1 ≤ N.toInt ∧ N.toInt ≤ 128) (f1 : own_R N F1) (t1 : own_R N T1) (f2 : own_R N F2) (t2 : own_R N T2) (g1 : own_R N G1) (s1 : own_R N S1) (g2 : own_R N G2) (s2 : own_R N S2) :
    (∃ j : Int32, (0 : Int32).toInt ≤ j.toInt ∧ j.toInt < (N * own_W N).toInt ∧ ¬ ((own_Y N U1 F1 T1 U2 F2 T2 j) &&& (own_Y N V1 G1 S1 V2 G2 S2 j)) = (0 : Int64)) ↔ own_Hit U1 F1 T1 U2 F2 T2 V1 G1 S1 V2 G2 S2 := by
  have inj : ∀ {F T G S : Int32}, own_R N F → own_R N T → own_R N G → own_R N S → ∀ {j t : Int32}, j = own_I N F T → T.toBitVec.toNat % 64 = t.toBitVec.toNat % 64 → j = own_I N G S → S.toBitVec.toNat % 64 = t.toBitVec.toNat % 64 → F = G ∧ T = S := fun a b c d j t e1 e2 e3 e4 => (own_I_inj h.1 h.2 a b c d).mp ⟨e1.symm.trans e3, e4.trans e2.symm⟩
  have put : ∀ {F T : Int32}, own_R N F → own_R N T → (0 : Int32).toInt ≤ (own_I N F T).toInt ∧ (own_I N F T).toInt < (N * own_W N).toInt := fun a b => by
    have q := own_I_in h.1 h.2 a b
    rw [Int32.lt_iff_toInt_lt, Int32.lt_iff_toInt_lt] at q
    exact ⟨Int.not_lt.mp q.1, q.2⟩
  constructor
  · rintro ⟨j, -, -, q⟩
    obtain ⟨t, q1, q2⟩ := (own_and _ _).mp q
    rw [own_hasY] at q1 q2
    rcases q1 with ⟨u, e1, e2⟩ | ⟨u, e1, e2⟩ <;> rcases q2 with ⟨v, e3, e4⟩ | ⟨v, e3, e4⟩
    · exact Or.inl ⟨u, v, inj f1 t1 g1 s1 e1 e2 e3 e4⟩
    · exact Or.inr (Or.inl ⟨u, v, inj f1 t1 g2 s2 e1 e2 e3 e4⟩)
    · exact Or.inr (Or.inr (Or.inl ⟨u, v, inj f2 t2 g1 s1 e1 e2 e3 e4⟩))
    · exact Or.inr (Or.inr (Or.inr ⟨u, v, inj f2 t2 g2 s2 e1 e2 e3 e4⟩))
  · rintro (⟨u, v, rfl, rfl⟩ | ⟨u, v, rfl, rfl⟩ | ⟨u, v, rfl, rfl⟩ | ⟨u, v, rfl, rfl⟩)
    · exact ⟨_, (put f1 t1).1, (put f1 t1).2, (own_and _ _).mpr ⟨T1, (own_hasY ..).mpr (Or.inl ⟨u, rfl, rfl⟩), (own_hasY ..).mpr (Or.inl ⟨v, rfl, rfl⟩)⟩⟩
    · exact ⟨_, (put f1 t1).1, (put f1 t1).2, (own_and _ _).mpr ⟨T1, (own_hasY ..).mpr (Or.inl ⟨u, rfl, rfl⟩), (own_hasY ..).mpr (Or.inr ⟨v, rfl, rfl⟩)⟩⟩
    · exact ⟨_, (put f2 t2).1, (put f2 t2).2, (own_and _ _).mpr ⟨T2, (own_hasY ..).mpr (Or.inr ⟨u, rfl, rfl⟩), (own_hasY ..).mpr (Or.inl ⟨v, rfl, rfl⟩)⟩⟩
    · exact ⟨_, (put f2 t2).1, (put f2 t2).2, (own_and _ _).mpr ⟨T2, (own_hasY ..).mpr (Or.inr ⟨u, rfl, rfl⟩), (own_hasY ..).mpr (Or.inr ⟨v, rfl, rfl⟩)⟩⟩
theorem own_f4 {N U1 F1 T1 U2 F2 T2 V1 G1 S1 V2 G2 S2 : Int32} (h : 1 ≤ N.toInt ∧ N.toInt ≤ 128) (f1 : own_R N F1) (t1 : own_R N T1) (f2 : own_R N F2) (t2 : own_R N T2) (g1 : own_R N G1) (s1 : own_R N S1) (g2 : own_R N G2) (s2 : own_R N S2) :
    f4 (N * own_W N) (own_Y N U1 F1 T1 U2 F2 T2) (own_Y N V1 G1 S1 V2 G2 S2) = 1 ↔ own_Hit U1 F1 T1 U2 F2 T2 V1 G1 S1 V2 G2 S2 := by
  rw [← own_hit_iff h f1 t1 f2 t2 g1 s1 g2 s2]
  have l : (N * own_W N).toInt = N.toInt * ((N.toInt + 63) / 64) := own_len N h.1 h.2
  have p0 : 0 ≤ N.toInt * ((N.toInt + 63) / 64) := Int.mul_nonneg (by omega) (by omega)
  have p2 : N.toInt * ((N.toInt + 63) / 64) ≤ 128 * 2 := Int.mul_le_mul h.2 (by omega) (by omega) (by omega)
  have e0 : (0 : Int32).toInt = 0 := by decide
  exact own_int_iff _ _ _ (by omega) _ (0 : Int32) (by omega) (by omega)
theorem own_e {u v a b c d : Int32} : ((if u = (0 : Int32) then (0 : Int32) else (if v = (0 : Int32) then (0 : Int32) else (if a = b then (if c = d then (1 : Int32) else (0 : Int32)) else (0 : Int32)))) = 0 ↔ ¬ (¬ u = 0 ∧ ¬ v = 0 ∧ a = b ∧ c = d)) := by
  by_cases h1 : u = (0 : Int32)
  · rw [if_pos h1]; exact ⟨fun _ z => z.1 h1, fun _ => rfl⟩
  · rw [if_neg h1]
    by_cases h2 : v = (0 : Int32)
    · rw [if_pos h2]; exact ⟨fun _ z => z.2.1 h2, fun _ => rfl⟩
    · rw [if_neg h2]
      by_cases h3 : a = b
      · rw [if_pos h3]
        by_cases h4 : c = d
        · rw [if_pos h4]; exact ⟨fun q => absurd q (by decide), fun q => absurd ⟨h1, h2, h3, h4⟩ q⟩
        · rw [if_neg h4]; exact ⟨fun _ z => h4 z.2.2.2, fun _ => rfl⟩
      · rw [if_neg h3]; exact ⟨fun _ z => h3 z.2.2.1, fun _ => rfl⟩
theorem own_or4 {a b c d : Int32} : ((if a = (0 : Int32) then (if b = (0 : Int32) then (if c = (0 : Int32) then (if d = (0 : Int32) then (0 : Int32) else (1 : Int32)) else (1 : Int32)) else (1 : Int32)) else (1 : Int32)) = 1 ↔ (¬ a = 0 ∨ ¬ b = 0 ∨ ¬ c = 0 ∨ ¬ d = 0)) ∧ ((if a = (0 : Int32) then (if b = (0 : Int32) then (if c = (0 : Int32) then (if d = (0 : Int32) then (0 : Int32) else (1 : Int32)) else (1 : Int32)) else (1 : Int32)) else (1 : Int32)) = 1 ∨ (if a = (0 : Int32) then (if b = (0 : Int32) then (if c = (0 : Int32) then (if d = (0 : Int32) then (0 : Int32) else (1 : Int32)) else (1 : Int32)) else (1 : Int32)) else (1 : Int32)) = 0) := by
  by_cases h1 : a = (0 : Int32)
  · rw [if_pos h1]
    by_cases h2 : b = (0 : Int32)
    · rw [if_pos h2]
      by_cases h3 : c = (0 : Int32)
      · rw [if_pos h3]
        by_cases h4 : d = (0 : Int32)
        · rw [if_pos h4]; exact ⟨⟨fun q => absurd q (by decide), fun q => by rcases q with q | q | q | q <;> exact absurd (by assumption) q⟩, Or.inr rfl⟩
        · rw [if_neg h4]; exact ⟨⟨fun _ => Or.inr (Or.inr (Or.inr h4)), fun _ => rfl⟩, Or.inl rfl⟩
      · rw [if_neg h3]; exact ⟨⟨fun _ => Or.inr (Or.inr (Or.inl h3)), fun _ => rfl⟩, Or.inl rfl⟩
    · rw [if_neg h2]; exact ⟨⟨fun _ => Or.inr (Or.inl h2), fun _ => rfl⟩, Or.inl rfl⟩
  · rw [if_neg h1]; exact ⟨⟨fun _ => Or.inl h1, fun _ => rfl⟩, Or.inl rfl⟩
theorem own_01 {a b : Int32} {H : Prop} (ha : a = 1 ↔ H) (ha' : a = 0 ∨ a = 1) (hb : b = 1 ↔ H) (hb' : b = 1 ∨ b = 0) : a = b := by
  by_cases h : H
  · rw [ha.mpr h, hb.mpr h]
  · rw [ha'.resolve_right (fun q => h (ha.mp q)), hb'.resolve_left (fun q => h (hb.mp q))]
theorem own_hit_e {U1 F1 T1 U2 F2 T2 V1 G1 S1 V2 G2 S2 : Int32} : own_Hit U1 F1 T1 U2 F2 T2 V1 G1 S1 V2 G2 S2 ↔ (¬ (if U1 = (0 : Int32) then (0 : Int32) else (if V1 = (0 : Int32) then (0 : Int32) else (if F1 = G1 then (if T1 = S1 then (1 : Int32) else (0 : Int32)) else (0 : Int32)))) = 0 ∨ ¬ (if U1 = (0 : Int32) then (0 : Int32) else (if V2 = (0 : Int32) then (0 : Int32) else (if F1 = G2 then (if T1 = S2 then (1 : Int32) else (0 : Int32)) else (0 : Int32)))) = 0 ∨ ¬ (if U2 = (0 : Int32) then (0 : Int32) else (if V1 = (0 : Int32) then (0 : Int32) else (if F2 = G1 then (if T2 = S1 then (1 : Int32) else (0 : Int32)) else (0 : Int32)))) = 0 ∨ ¬ (if U2 = (0 : Int32) then (0 : Int32) else (if V2 = (0 : Int32) then (0 : Int32) else (if F2 = G2 then (if T2 = S2 then (1 : Int32) else (0 : Int32)) else (0 : Int32)))) = 0) := by
  rw [own_e, own_e, own_e, own_e, Classical.not_not, Classical.not_not, Classical.not_not, Classical.not_not]; rfl
theorem own_hit_sym {U1 F1 T1 U2 F2 T2 V1 G1 S1 V2 G2 S2 : Int32} : own_Hit V1 G1 S1 V2 G2 S2 U1 F1 T1 U2 F2 T2 ↔ own_Hit U1 F1 T1 U2 F2 T2 V1 G1 S1 V2 G2 S2 := by
  constructor
  · rintro (⟨a, b, c, d⟩ | ⟨a, b, c, d⟩ | ⟨a, b, c, d⟩ | ⟨a, b, c, d⟩)
    · exact Or.inl ⟨b, a, c.symm, d.symm⟩
    · exact Or.inr (Or.inr (Or.inl ⟨b, a, c.symm, d.symm⟩))
    · exact Or.inr (Or.inl ⟨b, a, c.symm, d.symm⟩)
    · exact Or.inr (Or.inr (Or.inr ⟨b, a, c.symm, d.symm⟩))
  · rintro (⟨a, b, c, d⟩ | ⟨a, b, c, d⟩ | ⟨a, b, c, d⟩ | ⟨a, b, c, d⟩)
    · exact Or.inl ⟨b, a, c.symm, d.symm⟩
    · exact Or.inr (Or.inr (Or.inl ⟨b, a, c.symm, d.symm⟩))
    · exact Or.inr (Or.inl ⟨b, a, c.symm, d.symm⟩)
    · exact Or.inr (Or.inr (Or.inr ⟨b, a, c.symm, d.symm⟩))
theorem own_fin {N U1 F1 T1 U2 F2 T2 V1 G1 S1 V2 G2 S2 : Int32} (h : 1 ≤ N.toInt ∧ N.toInt ≤ 128) (f1 : own_R N F1) (t1 : own_R N T1) (f2 : own_R N F2) (t2 : own_R N T2) (g1 : own_R N G1) (s1 : own_R N S1) (g2 : own_R N G2) (s2 : own_R N S2) {X : Int32} (hX : X = (if (if U1 = (0 : Int32) then (0 : Int32) else (if V1 = (0 : Int32) then (0 : Int32) else (if F1 = G1 then (if T1 = S1 then (1 : Int32) else (0 : Int32)) else (0 : Int32)))) = (0 : Int32) then (if (if U1 = (0 : Int32) then (0 : Int32) else (if V2 = (0 : Int32) then (0 : Int32) else (if F1 = G2 then (if T1 = S2 then (1 : Int32) else (0 : Int32)) else (0 : Int32)))) = (0 : Int32) then (if (if U2 = (0 : Int32) then (0 : Int32) else (if V1 = (0 : Int32) then (0 : Int32) else (if F2 = G1 then (if T2 = S1 then (1 : Int32) else (0 : Int32)) else (0 : Int32)))) = (0 : Int32) then (if (if U2 = (0 : Int32) then (0 : Int32) else (if V2 = (0 : Int32) then (0 : Int32) else (if F2 = G2 then (if T2 = S2 then (1 : Int32) else (0 : Int32)) else (0 : Int32)))) = (0 : Int32) then (0 : Int32) else (1 : Int32)) else (1 : Int32)) else (1 : Int32)) else (1 : Int32))) :
    nar .boolean (if (f4 (N * own_W N) (own_Y N U1 F1 T1 U2 F2 T2) (own_Y N V1 G1 S1 V2 G2 S2)) = X then (if (f4 (N * own_W N) (own_Y N V1 G1 S1 V2 G2 S2) (own_Y N U1 F1 T1 U2 F2 T2)) = X then (1 : Int32) else (0 : Int32)) else (0 : Int32)) = 1 := by
  have hx := own_or4 (a := (if U1 = (0 : Int32) then (0 : Int32) else (if V1 = (0 : Int32) then (0 : Int32) else (if F1 = G1 then (if T1 = S1 then (1 : Int32) else (0 : Int32)) else (0 : Int32))))) (b := (if U1 = (0 : Int32) then (0 : Int32) else (if V2 = (0 : Int32) then (0 : Int32) else (if F1 = G2 then (if T1 = S2 then (1 : Int32) else (0 : Int32)) else (0 : Int32))))) (c := (if U2 = (0 : Int32) then (0 : Int32) else (if V1 = (0 : Int32) then (0 : Int32) else (if F2 = G1 then (if T2 = S1 then (1 : Int32) else (0 : Int32)) else (0 : Int32))))) (d := (if U2 = (0 : Int32) then (0 : Int32) else (if V2 = (0 : Int32) then (0 : Int32) else (if F2 = G2 then (if T2 = S2 then (1 : Int32) else (0 : Int32)) else (0 : Int32)))))
  rw [← hX, ← own_hit_e] at hx
  rw [if_pos (own_01 (own_f4 h f1 t1 f2 t2 g1 s1 g2 s2) (own_int_01 _ _ _ _) hx.1 hx.2), if_pos (own_01 ((own_f4 h g1 s1 g2 s2 f1 t1 f2 t2).trans own_hit_sym) (own_int_01 _ _ _ _) hx.1 hx.2)]
  decide
theorem own_law (p1 : Int32) (q2 q3 : Int64) (p4 : Int32) : f0 p1 q2 q3 p4 = 1 := by
  have hN := own_N1 (p1 := p1) rfl
  have r : ∀ (q : Int64) (s : Int32), own_R _ (f1 q s ((1 : Int32) + (p1 &&& (127 : Int32)))) := fun q s => own_rf hN rfl
  unfold f0
  exact own_fin hN (r q2 0) (r q2 8) (r q2 16) (r q2 24) (own_if (c := (p4 &&& (16 : Int32)) = (0 : Int32)) (P := own_R _) rfl (r q3 0) (r q2 16)) (own_if (c := (p4 &&& (16 : Int32)) = (0 : Int32)) (P := own_R _) rfl (r q3 8) (r q2 24)) (r q3 16) (r q3 24) rfl
set_option maxRecDepth 65536 in
set_option maxHeartbeats 40000000 in
theorem comes_1 {Post : Tables → Env → Array Value → State → Outcome → State → Prop} (hpost : ∀ tb e args s v u, (limb_1_1.after args s (.returned v) u = true ∧ limb_1_2.after args s (.returned v) u = true ∧ True) → FrameEnd s (.returned v) u (Jvm.fieldLocs frame_1_writes args s ++ Jvm.arrayLocs frame_1_arrays args s ++ Jvm.staticLocs frame_1_statics s) 16 1152 → Post tb e args s (.returned v) u) :
    ArmFor flags0 classFile x code maxLocals ret World_1 tables_1 room_1 Calls_1 rest_1 Pre_1 Post := by
  intro l hfl _ _ p e ha hc hk s m args below hf hA hF happ hP
  obtain ⟨hcalls, hrest, hpre⟩ := hP
  obtain ⟨-, -, -, hnamed, -, -, -, hat⟩ := (Spec.applies_iff hf).mp happ
  obtain ⟨hg, hn⟩ := and_e (Cond.before_iff.mp (show (Jvm.Cond.and given_1 narrow_1).before args s = true from hpre))
  obtain ⟨g1, g2⟩ := and_e hg
  obtain ⟨g3, g4⟩ := and_e g2
  obtain ⟨g5, g6⟩ := and_e g4
  obtain ⟨g7, g8⟩ := and_e g6
  obtain ⟨w0, w1, w2, w3, rfl⟩ : ∃ w0 w1 w2 w3 : Value, args = #[w0, w1, w2, w3] := by
    have hs : args.size = 4 := by simpa [Cond.value, given_1] using g1
    obtain ⟨L⟩ := args
    match L, hs with
    | [w0, w1, w2, w3], _ => exact ⟨w0, w1, w2, w3, rfl⟩
  have hw := fun d (hd : d ∈ tables_1) => atoms_spec (ws := Jvm.Cond.code x code maxLocals ret :: tables_1) hat d (List.mem_cons_of_mem _ hd)
  obtain ⟨i0, ei0⟩ := is_v g3
  obtain rfl : w0 = (.int i0) := Option.some.inj ei0
  obtain ⟨i1, ei1⟩ := isL_v g5
  obtain rfl : w1 = (.long i1) := Option.some.inj ei1
  obtain ⟨i2, ei2⟩ := isL_v g7
  obtain rfl : w2 = (.long i2) := Option.some.inj ei2
  obtain ⟨i3, ei3⟩ := is_v g8
  obtain rfl : w3 = (.int i3) := Option.some.inj ei3
  obtain ⟨n, o, h1, h2, h3, _, L, rfl, ⟨rfl, N, -⟩, hq⟩ := rm0 l s _ hw tables_1 i0 i1 i2 i3 s.heap s.heap.size (Nat.le_refl _) (Old.start s) p e ha hc hk s m _ below hf ((Spec.applies_iff_loose hf).mp happ).1 ⟨rfl, State.Warmed39.refl s, rfl⟩ trivial
  refine ⟨n, _, h1, h2, h3, hpost _ _ _ _ _ _ ⟨Cond.after_iff.mpr rfl, Cond.after_iff.mpr (eq_i res_at (Term.int_eval (1)) (congrArg Value.int (own_law i0 i1 i2 i3))), trivial⟩ ⟨hq.1, hq.2.1, (hq.2.2.sift fun y hy => Or.inr (N y hy)).mono (by decide) (by decide)⟩⟩
theorem main_1_1 : Claimed_1_1 := comes_1 fun _ _ _ _ _ _ h hF => ⟨h.1, hF⟩
theorem main_1_2 : Claimed_1_2 := comes_1 fun _ _ _ _ _ _ h hF => ⟨h.2.1, hF⟩
end Jvm.Pilot.@@N@@
namespace Jvm.Pilot.@@N@@
open Jvm Jvm.ClassFile Sem Op Lib Jvm.Free Jvm.Stand Jvm.Pilot.@@N@@.Jvm.D
/-! MADE BY PROGRAM (witnessworld.py) out of the Statement's table words and the real class files: 11 classes; the members and pool entries that the words name. The judged class is class 1, her method 2. -/
namespace start1
open Jvm.ClassFile
def u (s : String) : CpInfo := .utf8 (stringToUtf16 s)
/-- a pool by its gaps: so many unusable entries, then the entry; so many at the end -/
def gap : Nat → List CpInfo → List CpInfo
  | 0, r => r
  | n + 1, r => .unusable :: gap n r
def poolList (es : List (Nat × CpInfo)) (last : Nat) : List CpInfo := es.foldr (fun e r => gap e.1 (e.2 :: r)) (gap last [])
def pool (es : List (Nat × CpInfo)) (last : Nat) : Array CpInfo := ⟨poolList es last⟩
def fileOf (pool : Array CpInfo) (this : Nat) (attrs : Array Attribute := #[]) (ms : Array MethodInfo := #[]) (fl : Nat := 33) (sup : Nat := 0) (ifs : Array Nat := #[]) (fds : Array FieldInfo := #[]) : ClassFile where
  minorVersion := 0
  majorVersion := 65
  constantPool := pool
  accessFlags := fl
  thisClass := this
  superClass := sup
  interfaces := ifs
  fields := fds
  methods := ms
  attributes := attrs
def plain (name : String) (sup : Option ClassId) : Class where
  name := name
  kind := .ordinary
  loader := none
  accessFlags := 33
  super := sup
  interfaces := #[]
  cf := none
  fields := #[]
  methods := #[]
  instanceTypes := #[]
  staticTypes := #[]
  resolved := #[]
  callSites := []
  init := .initialized
  statics := none
  mirror := none

def pool0 : Array CpInfo := pool [(5, u "<init>"), (0, u "()V"), (1, .class_ 10), (1, u "java/lang/Object")] 113

def k0c0 : Code := { maxStack := 0, maxLocals := 1, code := object_method_1_code, exceptionTable := #[], attributes := #[] }
def k0m0 : Method := { name := "<init>", desc := "()V", sig := { parameters := [], returnType := none }, accessFlags := 1, code := some k0c0 }
/-- java/lang/Object -/
def k0 : Class := { plain "java/lang/Object" none with
  accessFlags := 33
  interfaces := #[]
  cf := some (fileOf pool0 8 #[] #[{ accessFlags := 1, nameIndex := 5, descriptorIndex := 6, attributes := #[] }] 33 0 #[] #[])
  fields := #[]
  methods := #[k0m0]
  instanceTypes := #[]
  staticTypes := #[]
  resolved := Array.replicate 124 none
  statics := none }

def pool1 : Array CpInfo := pool [(2, .class_ 4), (1, u "java/lang/Object"), (0, u "<init>"), (0, u "()V"), (0, .long 255), (1, .methodref 10 11), (0, .class_ 12), (0, .nameAndType 13 14), (0, u "com/example/fenceline/fenceline/model/RelationIntersectsPinLaw"), (0, u "idx"), (0, u "(JII)I"), (0, .class_ 16), (0, u "com/example/fenceline/fenceline/model/Relation"), (0, .methodref 15 18), (0, .nameAndType 5 19), (0, u "(I)V"), (0, .methodref 15 21), (0, .nameAndType 22 23), (0, u "add"), (0, u "(II)V"), (0, .methodref 15 25), (0, .nameAndType 26 27), (0, u "intersects"), (0, u "(Lcom/example/fenceline/fenceline/model/Relation;)Z"), (2, u "law"), (0, u "(IJJI)Z")] 3

def k1m0 : Method := { name := "<init>", desc := "()V", sig := { parameters := [], returnType := none }, accessFlags := 2, code := none }
def k1c1 : Code := { maxStack := 4, maxLocals := 4, code := method_2_code, exceptionTable := #[], attributes := #[] }
def k1m1 : Method := { name := "idx", desc := "(JII)I", sig := { parameters := [.long, .int, .int], returnType := some .int }, accessFlags := 10, code := some k1c1 }
def k1c2 : Code := { maxStack := 4, maxLocals := 28, code := code, exceptionTable := #[], attributes := #[] }
def k1m2 : Method := { name := "law", desc := "(IJJI)Z", sig := { parameters := [.int, .long, .long, .int], returnType := some .boolean }, accessFlags := 9, code := some k1c2 }
/-- com/example/fenceline/fenceline/model/RelationIntersectsPinLaw -/
def k1 : Class := { plain "com/example/fenceline/fenceline/model/RelationIntersectsPinLaw" (some 0) with
  accessFlags := 49
  interfaces := #[]
  cf := some (fileOf pool1 10 #[] #[{ accessFlags := 2, nameIndex := 5, descriptorIndex := 6, attributes := #[] }, { accessFlags := 10, nameIndex := 13, descriptorIndex := 14, attributes := #[] }, { accessFlags := 9, nameIndex := 30, descriptorIndex := 31, attributes := #[] }] 49 2 #[] #[])
  fields := #[]
  methods := #[k1m0, k1m1, k1m2]
  instanceTypes := #[]
  staticTypes := #[]
  resolved := Array.replicate 35 none
  statics := none }

def pool2 : Array CpInfo := pool [(1, .methodref 2 3), (0, .class_ 4), (0, .nameAndType 5 6), (0, u "java/lang/Object"), (0, u "<init>"), (0, u "()V"), (0, .fieldref 8 9), (0, .class_ 10), (0, .nameAndType 11 12), (0, u "com/example/fenceline/fenceline/model/Relation"), (0, u "size"), (0, u "I"), (0, .fieldref 8 14), (0, .nameAndType 15 12), (0, u "words"), (0, .fieldref 8 17), (0, .nameAndType 18 19), (0, u "rows"), (0, u "[J"), (2, u "(I)V"), (1, .class_ 26), (1, u "com/example/fenceline/fenceline/model/Relation$PairTest"), (4, u "add"), (0, u "(II)V"), (48, u "intersects"), (0, u "(Lcom/example/fenceline/fenceline/model/Relation;)Z")] 16

def k2c0 : Code := { maxStack := 3, maxLocals := 2, code := prog_78_method_1_code, exceptionTable := #[], attributes := #[] }
def k2m0 : Method := { name := "<init>", desc := "(I)V", sig := { parameters := [.int], returnType := none }, accessFlags := 1, code := some k2c0 }
def k2c1 : Code := { maxStack := 7, maxLocals := 3, code := prog_78_method_4_code, exceptionTable := #[], attributes := #[] }
def k2m1 : Method := { name := "add", desc := "(II)V", sig := { parameters := [.int, .int], returnType := none }, accessFlags := 1, code := some k2c1 }
def k2c2 : Code := { maxStack := 4, maxLocals := 3, code := prog_78_method_9_code, exceptionTable := #[], attributes := #[] }
def k2m2 : Method := { name := "intersects", desc := "(Lcom/example/fenceline/fenceline/model/Relation;)Z", sig := { parameters := [(.object "com/example/fenceline/fenceline/model/Relation")], returnType := some .boolean }, accessFlags := 1, code := some k2c2 }
/-- com/example/fenceline/fenceline/model/Relation -/
def k2 : Class := { plain "com/example/fenceline/fenceline/model/Relation" (some 0) with
  accessFlags := 49
  interfaces := #[]
  cf := some (fileOf pool2 8 #[.nestMembers #[24]] #[{ accessFlags := 1, nameIndex := 5, descriptorIndex := 22, attributes := #[] }, { accessFlags := 1, nameIndex := 31, descriptorIndex := 32, attributes := #[] }, { accessFlags := 1, nameIndex := 81, descriptorIndex := 82, attributes := #[] }] 49 2 #[] #[{ accessFlags := 18, nameIndex := 18, descriptorIndex := 19, attributes := #[] }, { accessFlags := 18, nameIndex := 11, descriptorIndex := 12, attributes := #[] }, { accessFlags := 18, nameIndex := 15, descriptorIndex := 12, attributes := #[] }])
  fields := #[{ name := "rows", type := (.array .long), accessFlags := 18, slot := 0, constantValue := 0 }, { name := "size", type := .int, accessFlags := 18, slot := 1, constantValue := 0 }, { name := "words", type := .int, accessFlags := 18, slot := 2, constantValue := 0 }]
  methods := #[k2m0, k2m1, k2m2]
  instanceTypes := #[(.array .long), .int, .int]
  staticTypes := #[]
  resolved := Array.replicate 99 none
  statics := none }

def pool3 : Array CpInfo := pool [(1, u "java/lang/Cloneable"), (0, .class_ 1), (0, u "java/lang/Object"), (0, .class_ 3)] 3

/-- java/lang/Cloneable -/
def k3 : Class := { plain "java/lang/Cloneable" (some 0) with
  accessFlags := 1537
  interfaces := #[]
  cf := some (fileOf pool3 2 #[] #[] 1537 4 #[] #[])
  fields := #[]
  methods := #[]
  instanceTypes := #[]
  staticTypes := #[]
  resolved := Array.replicate 8 none
  statics := none }

def pool4 : Array CpInfo := pool [(1, u "java/io/Serializable"), (0, .class_ 1), (0, u "java/lang/Object"), (0, .class_ 3)] 3

/-- java/io/Serializable -/
def k4 : Class := { plain "java/io/Serializable" (some 0) with
  accessFlags := 1537
  interfaces := #[]
  cf := some (fileOf pool4 2 #[] #[] 1537 4 #[] #[])
  fields := #[]
  methods := #[]
  instanceTypes := #[]
  staticTypes := #[]
  resolved := Array.replicate 8 none
  statics := none }

/-- the primitive byte -/
def k5 : Class := { plain "byte" none with kind := .primitive 'B', accessFlags := 0x411 }
/-- [B -/
def k6 : Class := { plain "[B" (some 0) with kind := .array 5 .byte, interfaces := #[3, 4], accessFlags := 1041 }

/-- the primitive int -/
def k7 : Class := { plain "int" none with kind := .primitive 'I', accessFlags := 0x411 }
/-- [I -/
def k8 : Class := { plain "[I" (some 0) with kind := .array 7 .int, interfaces := #[3, 4], accessFlags := 1041 }

/-- the primitive long -/
def k9 : Class := { plain "long" none with kind := .primitive 'J', accessFlags := 0x411 }
/-- [J -/
def k10 : Class := { plain "[J" (some 0) with kind := .array 9 .long, interfaces := #[3, 4], accessFlags := 1041 }

def heap : Heap := #[]
def classes : Array Class := #[k0, k1, k2, k3, k4, k5, k6, k7, k8, k9, k10]
def interned : List (Array UInt16 × Addr) := []
def slotsUsed : Nat := 0
def theMethod : MethodId := ⟨1, 2⟩
def args0 : Array Value := #[.int 5, .long 1, .long 2, .int 3]
def aboutOver (below : List Frame) : State where
  vm := { classes := classes, interned := interned.toArray }
  heap := heap
  slotsUsed := slotsUsed
  threads := #[{ frames := .invoking theMethod args0 :: below }]
def below0 : List Frame := [.native { method := ⟨0, 0⟩, args := #[] }]
def about1 : State := aboutOver below0
def p0 : Program := .bare "" "" ""
def e0 : Env := launch0.env 0 0 0
theorem w_frames : about1.frames = Frame.invoking theMethod args0 :: below0 := rfl
set_option maxRecDepth 65536 in
theorem w_args : argsFit about1.vm theMethod args0 = true := by decide +kernel
set_option maxRecDepth 65536 in
theorem w_heap : heapFits about1 = true := by decide +kernel
set_option maxRecDepth 65536 in
theorem w_runnable : about1.curStatus? = some .runnable := by decide +kernel
set_option maxRecDepth 65536 in
theorem w_alone : about1.alone = true := by decide +kernel
set_option maxRecDepth 65536 in
theorem w_named : about1.methodNamed? x = some theMethod := by decide +kernel
set_option maxRecDepth 65536 in
theorem w_hears : about1.hears theMethod below0 = true := by decide +kernel
set_option maxRecDepth 65536 in
theorem w_ripe : about1.ripe theMethod args0 below0 = true := by decide +kernel
theorem w_running : about1.status = .running := rfl
set_option maxRecDepth 65536 in
theorem w_room : about1.hasRoom e0.platform room_1 = true :=
  launch0.hasRoom_least _ room_1 (by decide +kernel) (by decide +kernel) (by decide +kernel) (by decide +kernel) (by decide +kernel) (by decide +kernel)
theorem allAtoms_all (ts : List Jvm.Cond) (a : Array Jvm.Value) (st : Jvm.State) : (allAtoms ts).before a st = ts.all (fun c => c.before a st) := by
  induction ts with
  | nil => rfl
  | cons c t ih =>
    show (Jvm.Cond.and c (allAtoms t)).before a st = _
    rw [Jvm.Cond.before_and, ih, List.all_cons]
def words1 : List Jvm.Cond := Jvm.Cond.code x code maxLocals ret :: tables_1
/-- a 'code' word, met by the world's own term for the bytes: nothing is compared byte by byte -/
theorem code_word {y : MethodName} {bytes : ByteArray} {mx : Nat} {rt : Option FieldType} {a : Array Value} {s : State} {m : MethodId} {meth : Method} {c : Code} (h1 : s.methodNamed? y = some m) (h2 : s.vm.method? m = some meth) (h3 : meth.code = some c) (h4 : c.code = bytes)
    (h5 : (c.maxLocals == mx && c.exceptionTable.isEmpty && decide (c.maxStack ≤ mostOperands) && decide (meth.sig.returnType = rt) && !meth.locks && decide (parseMethodDescriptor y.desc = some meth.sig)) = true) : (Jvm.Cond.code y bytes mx rt).before a s = true := by
  simp only [Bool.and_eq_true, beq_iff_eq, Bool.not_eq_true', decide_eq_true_eq] at h5
  obtain ⟨⟨⟨⟨⟨g1, g2⟩, g3⟩, g4⟩, g5⟩, g6⟩ := h5
  simp [Cond.before, Cond.holds, Cond.value, h1, h2, h3, h4, g1, g2, g3, g4, g5, g6]
def isCode : Jvm.Cond → Bool
  | .code _ _ _ _ => true
  | _ => false
theorem all_split {L : List Jvm.Cond} {P : Jvm.Cond → Bool} (h1 : L.all (fun c => isCode c || P c) = true) (h2 : ∀ c ∈ L.filter isCode, P c = true) : L.all P = true := by
  refine List.all_eq_true.mpr fun c hc => ?_
  have h := List.all_eq_true.mp h1 c hc
  rcases Bool.eq_false_or_eq_true (isCode c) with hi | hi
  · exact h2 c (List.mem_filter.mpr ⟨hc, hi⟩)
  · simpa [hi] using h
set_option maxRecDepth 65536 in
theorem w_c0 : (Jvm.Cond.code x code maxLocals ret).before args0 about1 = true := code_word (m := ⟨1, 2⟩) (meth := k1m2) (c := k1c2) (by decide +kernel) rfl rfl rfl (by decide +kernel)
set_option maxRecDepth 65536 in
theorem w_c1 : (Jvm.Cond.code ({ cls := "com/example/fenceline/fenceline/model/RelationIntersectsPinLaw", name := "idx", desc := "(JII)I" } : Jvm.MethodName) method_2_code (4 : Nat) (Option.some Jvm.ClassFile.FieldType.int)).before args0 about1 = true := code_word (m := ⟨1, 1⟩) (meth := k1m1) (c := k1c1) (by decide +kernel) rfl rfl rfl (by decide +kernel)
set_option maxRecDepth 65536 in
theorem w_c2 : (Jvm.Cond.code ({ cls := "com/example/fenceline/fenceline/model/Relation", name := "<init>", desc := "(I)V" } : Jvm.MethodName) prog_78_method_1_code (2 : Nat) (Option.none : Option Jvm.ClassFile.FieldType)).before args0 about1 = true := code_word (m := ⟨2, 0⟩) (meth := k2m0) (c := k2c0) (by decide +kernel) rfl rfl rfl (by decide +kernel)
set_option maxRecDepth 65536 in
theorem w_c3 : (Jvm.Cond.code ({ cls := "java/lang/Object", name := "<init>", desc := "()V" } : Jvm.MethodName) object_method_1_code (1 : Nat) (Option.none : Option Jvm.ClassFile.FieldType)).before args0 about1 = true := code_word (m := ⟨0, 0⟩) (meth := k0m0) (c := k0c0) (by decide +kernel) rfl rfl rfl (by decide +kernel)
set_option maxRecDepth 65536 in
theorem w_c4 : (Jvm.Cond.code ({ cls := "com/example/fenceline/fenceline/model/Relation", name := "intersects", desc := "(Lcom/example/fenceline/fenceline/model/Relation;)Z" } : Jvm.MethodName) prog_78_method_9_code (3 : Nat) (Option.some Jvm.ClassFile.FieldType.boolean)).before args0 about1 = true := code_word (m := ⟨2, 2⟩) (meth := k2m2) (c := k2c2) (by decide +kernel) rfl rfl rfl (by decide +kernel)
set_option maxRecDepth 65536 in
theorem w_c5 : (Jvm.Cond.code ({ cls := "com/example/fenceline/fenceline/model/Relation", name := "add", desc := "(II)V" } : Jvm.MethodName) prog_78_method_4_code (3 : Nat) (Option.none : Option Jvm.ClassFile.FieldType)).before args0 about1 = true := code_word (m := ⟨2, 1⟩) (meth := k2m1) (c := k2c1) (by decide +kernel) rfl rfl rfl (by decide +kernel)
def codes1 : List Jvm.Cond := [Jvm.Cond.code x code maxLocals ret, Jvm.Cond.code ({ cls := "com/example/fenceline/fenceline/model/RelationIntersectsPinLaw", name := "idx", desc := "(JII)I" } : Jvm.MethodName) method_2_code (4 : Nat) (Option.some Jvm.ClassFile.FieldType.int), Jvm.Cond.code ({ cls := "com/example/fenceline/fenceline/model/Relation", name := "<init>", desc := "(I)V" } : Jvm.MethodName) prog_78_method_1_code (2 : Nat) (Option.none : Option Jvm.ClassFile.FieldType), Jvm.Cond.code ({ cls := "java/lang/Object", name := "<init>", desc := "()V" } : Jvm.MethodName) object_method_1_code (1 : Nat) (Option.none : Option Jvm.ClassFile.FieldType), Jvm.Cond.code ({ cls := "com/example/fenceline/fenceline/model/Relation", name := "intersects", desc := "(Lcom/example/fenceline/fenceline/model/Relation;)Z" } : Jvm.MethodName) prog_78_method_9_code (3 : Nat) (Option.some Jvm.ClassFile.FieldType.boolean), Jvm.Cond.code ({ cls := "com/example/fenceline/fenceline/model/Relation", name := "add", desc := "(II)V" } : Jvm.MethodName) prog_78_method_4_code (3 : Nat) (Option.none : Option Jvm.ClassFile.FieldType)]
set_option maxRecDepth 65536 in
theorem codes_eq : words1.filter isCode = codes1 := rfl
theorem w_codes : ∀ c ∈ words1.filter isCode, c.before args0 about1 = true := by
  rw [codes_eq]
  intro c hc
  simp only [codes1, List.mem_cons, List.not_mem_nil, or_false] at hc
  rcases hc with rfl | rfl | rfl | rfl | rfl | rfl
  · exact w_c0
  · exact w_c1
  · exact w_c2
  · exact w_c3
  · exact w_c4
  · exact w_c5
set_option maxRecDepth 65536 in
theorem w_t1 : (words1.take 24).all (fun c => isCode c || c.before args0 about1) = true := by decide +kernel
set_option maxRecDepth 65536 in
theorem w_t2 : (words1.drop 24).all (fun c => isCode c || c.before args0 about1) = true := by decide +kernel
theorem w_tables : (allAtoms (Jvm.Cond.code x code maxLocals ret :: tables_1)).before args0 about1 = true := by
  rw [allAtoms_all]
  show words1.all (fun c => c.before args0 about1) = true
  refine all_split ?_ w_codes
  rw [← List.take_append_drop 24 words1, List.all_append, w_t1, w_t2]
  rfl
set_option maxRecDepth 65536 in
theorem w_case : (Jvm.Cond.and given_1 narrow_1).before args0 about1 = true := by decide +kernel
theorem w_applies : (headSpec (Jvm.Cond.code x code maxLocals ret :: tables_1) room_1).applies x e0.platform about1 = true :=
  (Spec.applies_iff w_frames).mpr ⟨w_running, w_runnable, w_alone, w_named, w_hears, w_ripe, w_room, w_tables⟩
theorem atStart : AtStart classFile x code maxLocals ret World_1 tables_1 room_1 Calls_1 rest_1 Pre_1 launch0 p0 e0 about1 theMethod args0 below0 :=
  ⟨lists_1, trivial, launch0.admits_env _ _ _, launch0.least_env, fairChoices_fair.cas, fairChoices_fair.clock, w_frames, w_args, w_heap, w_applies, trivial, trivial, w_case⟩
end start1
theorem witness_1 : WitnessClaimed_1 := ⟨start1.p0, start1.e0, start1.about1, start1.theMethod, start1.args0, start1.below0, start1.atStart⟩
end Jvm.Pilot.@@N@@
