import JvmDerived
import JvmDerived.Pilot.@@N@@Statement
import JvmDerived.Pilot.@@N@@Code
set_option linter.unusedVariables false
set_option linter.unusedSimpArgs false
namespace Jvm.RoadKit
open Sem ClassFile Op Lib Jvm.Stand Jvm.Free Jvm.LawKit
section New
variable {p : Program} {l : Launch} {e : Env} {R : Room} {s : State} {m : MethodId} {args : Array Value} {below : List Frame} {meth : Method} {c : Code} {T : State} {locs : List Loc} {cells slots : Nat}
theorem retI (X : Stand p l e R s m args below meth c T locs cells slots) (hx : p.tables.exec = Jvm.exec) {pc : Nat} {Ls : Array Slot} {z : Int32} {rest : List Value} (hret : meth.sig.returnType = some .int) (hd : decode c.code pc = .ok (.ireturn, 1)) {fs : List Frame}
    (hl : ∀ (f : JFrame) (acts : List Action), f.method = m → f.locked = none → f.entered = [] → (doReturn e (T.setTop f) acts (some (.int z))).1 = T.setFrames fs) : Steps p.tables e below (T.setTop (mkF m pc Ls (.int z :: rest))) (T.setFrames fs) := by
  have hm' : T.vm.method? m = some meth := X.method'
  have hn : narrow .int (.int z) = .int z := rfl
  show Steps p.tables e below (T.setTop { method := m, pc := pc, locals := Ls, stack := _ :: rest, locked := none }) _
  jvm_step X.here [X.here.top, hx, hd, hm', hret, hn]
  first | (intro acts; rw [hl _ acts rfl rfl rfl]) | rw [hl _ _ rfl rfl rfl]
  exact Steps.refl _
end New
theorem own_lc_tlt {a b : Int64} (h : a < b) : lcmpW a b < 0 := by rw [lcW]; exact (lc_lt _ _).2 h
theorem own_lc_flt {a b : Int64} (h : ¬ a < b) : ¬ lcmpW a b < 0 := by rw [lcW]; exact fun q => h ((lc_lt _ _).1 q)
theorem own_lc_tgt {a b : Int64} (h : b < a) : 0 < lcmpW a b := by rw [lcW]; exact (lc_gt _ _).2 h
theorem own_lc_fgt {a b : Int64} (h : ¬ b < a) : ¬ 0 < lcmpW a b := by rw [lcW]; exact fun q => h ((lc_gt _ _).1 q)
theorem own_lc_teq {a b : Int64} (h : a = b) : lcmpW a b = 0 := by rw [lcW]; exact (lc_eq _ _).2 h
theorem own_lc_feq {a b : Int64} (h : ¬ a = b) : ¬ lcmpW a b = 0 := by rw [lcW]; exact fun q => h ((lc_eq _ _).1 q)
end Jvm.RoadKit
namespace Jvm.Pilot.@@N@@
open Jvm Jvm.ClassFile Sem Op Lib Jvm.Free Jvm.Stand Jvm.LawKit Jvm.RoadKit Bundle Jvm.Pilot.@@N@@.Jvm.D

def own_A (Z : State) (h : Heap) (a : Addr) (ty : FieldType) (n : Int32) (y : Int32 → Value) : Prop := ∃ c : Cell, Arr Z h a c ty ∧ c.slots.size = n.toNatClampNeg ∧ ¬ n < 0 ∧ ∀ j : Int32, ¬ (j < 0 ∨ c.slots.size ≤ j.toNatClampNeg) → c.slots[j.toNatClampNeg]? = some (y j)
theorem own_A_lt {Z : State} {h : Heap} {a : Addr} {ty : FieldType} {n : Int32} {y : Int32 → Value} (F : own_A Z h a ty n y) : a < h.size := by obtain ⟨c, A, -⟩ := F; exact A.lt
theorem own_A_ext {Z : State} {h h' : Heap} {a : Addr} {ty : FieldType} {n : Int32} {y : Int32 → Value} (F : own_A Z h a ty n y) (E : Ext h h') : own_A Z h' a ty n y := by obtain ⟨c, A, r⟩ := F; exact ⟨c, A.ext E, r⟩
theorem own_A_other {Z : State} {h h' : Heap} {a b : Addr} {ty : FieldType} {n : Int32} {y : Int32 → Value} {sl : Nat} {v : Value} (F : own_A Z h b ty n y) (W : Wr h h' a sl v) (q : b ≠ a) : own_A Z h' b ty n y := by obtain ⟨c, A, r⟩ := F; exact ⟨c, A.other W q, r⟩
theorem own_A_keep {Z : State} {h h' : Heap} {a : Addr} {ty : FieldType} {n : Int32} {y : Int32 → Value} {ws : List Addr} (F : own_A Z h a ty n y) (K : Keep h h' ws) (q : a ∉ ws) : own_A Z h' a ty n y := by obtain ⟨c, A, r⟩ := F; exact ⟨c, ⟨K.2.1 a c A.1 q, A.2⟩, r⟩
theorem own_A_new {Z : State} {h : Heap} {a : Addr} {k : ClassId} {ty : FieldType} {n : Int32} (A : Arr Z h a (newA k ty n) ty) (q : ¬ n < 0) : own_A Z h a ty n (fun _ => defaultValue ty) := by
  obtain ⟨c, A', -, S, M, H, -⟩ := Arv.new A q
  exact ⟨c, A', S, M, fun j hj => (H _ (Nat.lt_of_not_le fun y => hj (Or.inr y))).trans (by simp)⟩
theorem own_A_set {Z : State} {h h' : Heap} {a : Addr} {ty : FieldType} {n j : Int32} {y z : Int32 → Value} {v : Value} {c : Cell} (A : Arr Z h a c ty) (S : c.slots.size = n.toNatClampNeg) (M : ¬ n < 0) (H : ∀ j : Int32, ¬ (j < 0 ∨ c.slots.size ≤ j.toNatClampNeg) → c.slots[j.toNatClampNeg]? = some (y j)) (hj : ¬ (j < 0 ∨ c.slots.size ≤ j.toNatClampNeg)) (W : Wr h h' a j.toNatClampNeg v) (hz : z j = v) (hz' : ∀ i, ¬ i = j → z i = y i) : own_A Z h' a ty n z := by
  refine ⟨_, A.same W, by rw [sz_set]; exact S, M, fun i hi => ?_⟩
  rw [sz_set] at hi
  have hs : (c.setSlot j.toNatClampNeg v).slots = c.slots.setIfInBounds j.toNatClampNeg v := rfl
  rw [hs, Array.getElem?_setIfInBounds]
  by_cases e : i = j
  · subst e
    rw [if_pos rfl, if_pos (Nat.lt_of_not_le fun q => hj (Or.inr q)), hz]
  · have e' : ¬ j.toNatClampNeg = i.toNatClampNeg := fun q => e (Int32.toInt_inj.mp (by rw [nat_of (fun z => hi (Or.inl z)), nat_of (fun z => hj (Or.inl z)), q]))
    rw [if_neg e', hz' i e]
    exact H i hi
theorem own_setI {y : Int32 → Int32} {j x : Int32} : Value.int ((fun i => if i = j then x else y i) j) = .int x := congrArg Value.int (if_pos rfl)
theorem own_setI' {y : Int32 → Int32} {j x : Int32} : ∀ i, ¬ i = j → Value.int ((fun i => if i = j then x else y i) i) = .int (y i) := fun i h => congrArg Value.int (if_neg h)
theorem own_setJ {y : Int32 → Int64} {j : Int32} {x : Int64} : Value.long ((fun i => if i = j then x else y i) j) = .long x := congrArg Value.long (if_pos rfl)
theorem own_setJ' {y : Int32 → Int64} {j : Int32} {x : Int64} : ∀ i, ¬ i = j → Value.long ((fun i => if i = j then x else y i) i) = .long (y i) := fun i h => congrArg Value.long (if_neg h)

theorem own_A_congr {Z : State} {h : Heap} {a : Addr} {ty : FieldType} {n : Int32} {y y' : Int32 → Value} (F : own_A Z h a ty n y) (e : ∀ i, y i = y' i) : own_A Z h a ty n y' := by
  have : y = y' := funext e
  subst this; exact F

theorem own_words (n : Int32) (h1 : 1 ≤ n.toInt) (h2 : n.toInt ≤ 256) : (((n + (63 : Int32)).toUInt32 >>> ((6 : Int32) &&& 31).toUInt32).toInt32).toInt = (n.toInt + 63) / 64 := by
  have e63 : (63 : Int32).toInt = 63 := by decide
  have s1 := c_iadd n 63
  have s2 := rng32 (n + 63)
  have s3 := c_iushr (n + 63) 6 6 (by decide) (by decide)
  omega
theorem own_len (n : Int32) (h1 : 1 ≤ n.toInt) (h2 : n.toInt ≤ 256) : (n * (((n + (63 : Int32)).toUInt32 >>> ((6 : Int32) &&& 31).toUInt32).toInt32)).toInt = n.toInt * ((n.toInt + 63) / 64) := by
  have w := own_words n h1 h2
  have s1 := c_imul n (((n + (63 : Int32)).toUInt32 >>> ((6 : Int32) &&& 31).toUInt32).toInt32)
  have s2 := rng32 (n * (((n + (63 : Int32)).toUInt32 >>> ((6 : Int32) &&& 31).toUInt32).toInt32))
  rw [w] at s1
  have h3 : 0 ≤ n.toInt * ((n.toInt + 63) / 64) := Int.mul_nonneg (by omega) (by omega)
  have h4 : n.toInt * ((n.toInt + 63) / 64) ≤ 256 * 4 := Int.mul_le_mul h2 (by omega) (by omega) (by omega)
  omega
theorem own_len0 (n : Int32) (h1 : 1 ≤ n.toInt) (h2 : n.toInt ≤ 256) : ¬ (n * (((n + (63 : Int32)).toUInt32 >>> ((6 : Int32) &&& 31).toUInt32).toInt32)) < 0 := by
  have l := own_len n h1 h2
  have e0 : (0 : Int32).toInt = 0 := by decide
  rw [Int32.lt_iff_toInt_lt, l, e0]
  have h3 : 0 ≤ n.toInt * ((n.toInt + 63) / 64) := Int.mul_nonneg (by omega) (by omega)
  omega
theorem own_cap (n : Int32) (h1 : 1 ≤ n.toInt) (h2 : n.toInt ≤ 256) : (n * (((n + (63 : Int32)).toUInt32 >>> ((6 : Int32) &&& 31).toUInt32).toInt32)).toNatClampNeg ≤ 1024 := by
  have l := own_len n h1 h2
  have h4 : n.toInt * ((n.toInt + 63) / 64) ≤ 256 * 4 := Int.mul_le_mul h2 (by omega) (by omega) (by omega)
  have q := nat_of (own_len0 n h1 h2)
  omega


theorem own_bit (q : Int32) : ((1 : Int64) <<< (q &&& 0x3f).toInt64).toBitVec = BitVec.twoPow 64 (q.toBitVec.toNat % 64) := by
  show (1#64 <<< ((q &&& 0x3f).toInt64.toBitVec.smod 64)) = _
  rw [BitVec.shiftLeft_eq', (sm64 q _ rfl).1, smod64 _ (sm64 q _ rfl).2, BitVec.twoPow_eq]
def own_has (v : Int64) (t : Int32) : Prop := ¬ (v &&& ((1 : Int64) <<< (t &&& 0x3f).toInt64)) = (0 : Int64)
theorem own_has_iff (v : Int64) (t : Int32) : own_has v t ↔ v.toBitVec.getLsbD (t.toBitVec.toNat % 64) = true := by
  have e : (v &&& ((1 : Int64) <<< (t &&& 0x3f).toInt64)).toBitVec = if v.toBitVec.getLsbD (t.toBitVec.toNat % 64) then BitVec.twoPow 64 (t.toBitVec.toNat % 64) else 0#64 := by
    rw [Int64.toBitVec_and, own_bit, BitVec.and_twoPow]
  unfold own_has
  rw [← Int64.toBitVec_inj, e]
  have hz : (0 : Int64).toBitVec = 0#64 := rfl
  rw [hz]
  by_cases h : v.toBitVec.getLsbD (t.toBitVec.toNat % 64) = true
  · rw [if_pos h]
    refine ⟨fun _ => h, fun _ q => ?_⟩
    have q2 := congrArg (fun z => z.getLsbD (t.toBitVec.toNat % 64)) q
    have hk : t.toBitVec.toNat % 64 < 64 := Nat.mod_lt _ (by decide)
    simp [hk] at q2
  · rw [if_neg h]
    exact ⟨fun q => absurd rfl q, fun q => absurd q h⟩
theorem own_has_or (v : Int64) (b t : Int32) : own_has (v ||| ((1 : Int64) <<< (b &&& 0x3f).toInt64)) t ↔ own_has v t ∨ b.toBitVec.toNat % 64 = t.toBitVec.toNat % 64 := by
  rw [own_has_iff, own_has_iff, Int64.toBitVec_or, own_bit, BitVec.getLsbD_or, BitVec.getLsbD_twoPow]
  have hk : b.toBitVec.toNat % 64 < 64 := Nat.mod_lt _ (by decide)
  simp [hk]
theorem own_has_0 (t : Int32) : ¬ own_has 0 t := by
  rw [own_has_iff]; simp
theorem own_nn (t : Int32) (h : 0 ≤ t.toInt) : (t.toBitVec.toNat : Int) = t.toInt := by
  have h2 : t.toInt = if 2 * t.toBitVec.toNat < 2 ^ 32 then (t.toBitVec.toNat : Int) else (t.toBitVec.toNat : Int) - ((2 ^ 32 : Nat) : Int) := BitVec.toInt_eq_toNat_cond t.toBitVec
  have hb := t.toBitVec.isLt
  by_cases c : 2 * t.toBitVec.toNat < 2 ^ 32
  · rw [if_pos c] at h2; omega
  · rw [if_neg c] at h2; omega
def own_upd (y : Int32 → Int64) (j b : Int32) : Int32 → Int64 := fun i => if i = j then ((y j) ||| ((1 : Int64) <<< (b &&& 0x3f).toInt64)) else y i
theorem own_has_upd (y : Int32 → Int64) (j b k t : Int32) : own_has (own_upd y j b k) t ↔ own_has (y k) t ∨ (k = j ∧ b.toBitVec.toNat % 64 = t.toBitVec.toNat % 64) := by
  unfold own_upd
  by_cases h : k = j
  · subst h
    show own_has (if k = k then _ else _) t ↔ _
    rw [if_pos rfl, own_has_or]
    exact ⟨fun q => q.imp id fun r => ⟨rfl, r⟩, fun q => q.imp id fun r => r.2⟩
  · show own_has (if k = j then _ else _) t ↔ _
    rw [if_neg h]
    exact ⟨Or.inl, fun q => q.elim id fun r => absurd r.1 h⟩
theorem own_has_cupd (v : Int32) (y : Int32 → Int64) (j b k t : Int32) : own_has ((if v = (0 : Int32) then y else own_upd y j b) k) t ↔ own_has (y k) t ∨ (¬ v = 0 ∧ k = j ∧ b.toBitVec.toNat % 64 = t.toBitVec.toNat % 64) := by
  by_cases h : v = (0 : Int32)
  · rw [if_pos h]; exact ⟨Or.inl, fun q => q.elim id fun r => absurd h r.1⟩
  · rw [if_neg h, own_has_upd]; exact ⟨fun q => q.imp id fun r => ⟨h, r⟩, fun q => q.imp id fun r => r.2⟩
def own_W (N : Int32) : Int32 := (((N + (63 : Int32)).toUInt32 >>> ((6 : Int32) &&& 31).toUInt32).toInt32)
def own_I (N A B : Int32) : Int32 := ((A * own_W N) + ((B.toUInt32 >>> ((6 : Int32) &&& 31).toUInt32).toInt32))
theorem own_I_val {N A B : Int32} (h1 : 1 ≤ N.toInt) (h2 : N.toInt ≤ 256) (a : 0 ≤ A.toInt ∧ A.toInt < N.toInt) (b : 0 ≤ B.toInt ∧ B.toInt < N.toInt) : (own_I N A B).toInt = A.toInt * ((N.toInt + 63) / 64) + B.toInt / 64 ∧ 0 ≤ A.toInt * ((N.toInt + 63) / 64) ∧ (A.toInt + 1) * ((N.toInt + 63) / 64) ≤ N.toInt * ((N.toInt + 63) / 64) ∧ N.toInt * ((N.toInt + 63) / 64) ≤ 256 * 4 := by
  have w : (own_W N).toInt = (N.toInt + 63) / 64 := own_words N h1 h2
  have s := c_iushr B 6 6 (by decide) (by decide)
  have e64 : ((2 ^ 6 : Nat) : Int) = 64 := by decide
  rw [e64] at s
  have m := c_imul A (own_W N)
  rw [w] at m
  have m2 := rng32 (A * own_W N)
  have p0 : 0 ≤ A.toInt * ((N.toInt + 63) / 64) := Int.mul_nonneg a.1 (by omega)
  have p1 : (A.toInt + 1) * ((N.toInt + 63) / 64) ≤ N.toInt * ((N.toInt + 63) / 64) := Int.mul_le_mul_of_nonneg_right (by omega) (by omega)
  have p2 : N.toInt * ((N.toInt + 63) / 64) ≤ 256 * 4 := Int.mul_le_mul h2 (by omega) (by omega) (by omega)
  have p3 : (A.toInt + 1) * ((N.toInt + 63) / 64) = A.toInt * ((N.toInt + 63) / 64) + ((N.toInt + 63) / 64) := by rw [Int.add_mul, Int.one_mul]
  have m3 : (A * own_W N).toInt = A.toInt * ((N.toInt + 63) / 64) := by omega
  have q := c_iadd (A * own_W N) ((B.toUInt32 >>> ((6 : Int32) &&& 31).toUInt32).toInt32)
  have q2 := rng32 (own_I N A B)
  have q3 : own_I N A B = (A * own_W N) + ((B.toUInt32 >>> ((6 : Int32) &&& 31).toUInt32).toInt32) := rfl
  rw [← q3] at q
  have rb := rng32 B
  refine ⟨?_, p0, p1, p2⟩
  omega
theorem own_I_in {N A B : Int32} (h1 : 1 ≤ N.toInt) (h2 : N.toInt ≤ 256) (a : 0 ≤ A.toInt ∧ A.toInt < N.toInt) (b : 0 ≤ B.toInt ∧ B.toInt < N.toInt) : ¬ own_I N A B < 0 ∧ own_I N A B < N * own_W N := by
  have v := own_I_val h1 h2 a b
  have l : (N * own_W N).toInt = N.toInt * ((N.toInt + 63) / 64) := own_len N h1 h2
  have p3 : (A.toInt + 1) * ((N.toInt + 63) / 64) = A.toInt * ((N.toInt + 63) / 64) + ((N.toInt + 63) / 64) := by rw [Int.add_mul, Int.one_mul]
  have e0 : (0 : Int32).toInt = 0 := by decide
  rw [Int32.lt_iff_toInt_lt, Int32.lt_iff_toInt_lt, l, e0, v.1]
  omega
theorem own_I_inj {N A B A' B' : Int32} (h1 : 1 ≤ N.toInt) (h2 : N.toInt ≤ 256) (a : 0 ≤ A.toInt ∧ A.toInt < N.toInt) (b : 0 ≤ B.toInt ∧ B.toInt < N.toInt) (a' : 0 ≤ A'.toInt ∧ A'.toInt < N.toInt) (b' : 0 ≤ B'.toInt ∧ B'.toInt < N.toInt) : (own_I N A B = own_I N A' B' ∧ B'.toBitVec.toNat % 64 = B.toBitVec.toNat % 64) ↔ (A = A' ∧ B = B') := by
  constructor
  · rintro ⟨e, f⟩
    have v := own_I_val h1 h2 a b
    have v' := own_I_val h1 h2 a' b'
    have n1 := own_nn B b.1
    have n2 := own_nn B' b'.1
    rw [e] at v
    have ev := v.1.symm.trans v'.1
    have p3 : (A.toInt + 1) * ((N.toInt + 63) / 64) = A.toInt * ((N.toInt + 63) / 64) + ((N.toInt + 63) / 64) := by rw [Int.add_mul, Int.one_mul]
    have p3' : (A'.toInt + 1) * ((N.toInt + 63) / 64) = A'.toInt * ((N.toInt + 63) / 64) + ((N.toInt + 63) / 64) := by rw [Int.add_mul, Int.one_mul]
    have hA : A.toInt = A'.toInt := by
      rcases Int.lt_trichotomy A.toInt A'.toInt with q | q | q
      · have := Int.mul_le_mul_of_nonneg_right (a := A.toInt + 1) (b := A'.toInt) (c := (N.toInt + 63) / 64) (by omega) (by omega)
        omega
      · exact q
      · have := Int.mul_le_mul_of_nonneg_right (a := A'.toInt + 1) (b := A.toInt) (c := (N.toInt + 63) / 64) (by omega) (by omega)
        omega
    rw [hA] at ev
    exact ⟨Int32.toInt_inj.mp hA, Int32.toInt_inj.mp (by omega)⟩
  · rintro ⟨rfl, rfl⟩
    exact ⟨rfl, rfl⟩


theorem own_N1 {p1 N : Int32} (h : N = ((1 : Int32) + (p1 &&& (255 : Int32)))) : 1 ≤ N.toInt ∧ N.toInt ≤ 256 := by
  have hm := c_mask p1 255 8 (by decide) (by decide)
  have e : ((2 ^ 8 : Nat) : Int) = 256 := by decide
  rw [e] at hm
  have s1 := c_iadd 1 (p1 &&& (255 : Int32))
  have s2 := rng32 (1 + (p1 &&& (255 : Int32)))
  have e1 : (1 : Int32).toInt = 1 := by decide
  rw [← h] at s1 s2
  omega
theorem own_N0 {p1 N : Int32} (h : N = ((1 : Int32) + (p1 &&& (255 : Int32)))) : ¬ N = (0 : Int32) := fun q => by
  have := own_N1 h
  rw [q] at this
  exact absurd this.1 (by decide)
theorem own_rem {N A x : Int32} (hN : 1 ≤ N.toInt ∧ N.toInt ≤ 256) (h : A = ((x &&& (2147483647 : Int32)) % N)) : 0 ≤ A.toInt ∧ A.toInt < N.toInt := by
  have hm := c_mask x 2147483647 31 (by decide) (by decide)
  have hr := (c_iremV (x &&& (2147483647 : Int32)) N).1 (by omega) (by omega)
  rw [← h] at hr
  omega
theorem own_remL {N A : Int32} {z m : Int64} (k : Nat) (hk : k ≤ 31) (hm : m.toBitVec.toNat = 2 ^ k - 1) (hN : 1 ≤ N.toInt ∧ N.toInt ≤ 256) (h : A = (((z &&& m).toInt32) % N)) : 0 ≤ A.toInt ∧ A.toInt < N.toInt := by
  have h1 := c_maskL z m k (by omega) hm
  have h2 := c_l2i (z &&& m)
  have h3 := rng32 (z &&& m).toInt32
  have h4 : ((2 ^ k : Nat) : Int) ≤ 2147483648 := by
    have := Nat.pow_le_pow_right (show 0 < 2 by decide) hk
    have e : 2 ^ 31 = 2147483648 := by decide
    omega
  have h5 : (0 : Int) < ((2 ^ k : Nat) : Int) := by have := Nat.pow_pos (n := k) (show 0 < 2 by decide); omega
  have h6 := Int.emod_nonneg z.toInt (Int.ne_of_gt h5)
  have h7 := Int.emod_lt_of_pos z.toInt h5
  have hr := (c_iremV (z &&& m).toInt32 N).1 (by omega) (by omega)
  rw [← h] at hr
  omega
theorem own_sel {v S A B C : Int32} {P : Int32 → Prop} (h : v = (if S = (0 : Int32) then A else (if S = (1 : Int32) then B else C))) (ha : P A) (hb : P B) (hc : P C) : P v := by
  subst h
  by_cases c0 : S = (0 : Int32)
  · rw [if_pos c0]; exact ha
  · by_cases c1 : S = (1 : Int32)
    · rw [if_neg c0, if_pos c1]; exact hb
    · rw [if_neg c0, if_neg c1]; exact hc

theorem d1_0 : decode prog_78_method_1_code 0 = .ok (.aload_n 0, 1) := by decide +kernel
theorem d1_1 : decode prog_78_method_1_code 1 = .ok (.invokespecial 1, 3) := by decide +kernel
theorem d1_4 : decode prog_78_method_1_code 4 = .ok (.aload_n 0, 1) := by decide +kernel
theorem d1_5 : decode prog_78_method_1_code 5 = .ok (.iload_n 1, 1) := by decide +kernel
theorem d1_6 : decode prog_78_method_1_code 6 = .ok (.putfield 7, 3) := by decide +kernel
theorem d1_9 : decode prog_78_method_1_code 9 = .ok (.aload_n 0, 1) := by decide +kernel
theorem d1_10 : decode prog_78_method_1_code 10 = .ok (.iload_n 1, 1) := by decide +kernel
theorem d1_11 : decode prog_78_method_1_code 11 = .ok (.bipush 63, 2) := by decide +kernel
theorem d1_13 : decode prog_78_method_1_code 13 = .ok (.iadd, 1) := by decide +kernel
theorem d1_14 : decode prog_78_method_1_code 14 = .ok (.bipush 6, 2) := by decide +kernel
theorem d1_16 : decode prog_78_method_1_code 16 = .ok (.iushr, 1) := by decide +kernel
theorem d1_17 : decode prog_78_method_1_code 17 = .ok (.putfield 13, 3) := by decide +kernel
theorem d1_20 : decode prog_78_method_1_code 20 = .ok (.aload_n 0, 1) := by decide +kernel
theorem d1_21 : decode prog_78_method_1_code 21 = .ok (.iload_n 1, 1) := by decide +kernel
theorem d1_22 : decode prog_78_method_1_code 22 = .ok (.aload_n 0, 1) := by decide +kernel
theorem d1_23 : decode prog_78_method_1_code 23 = .ok (.getfield 13, 3) := by decide +kernel
theorem d1_26 : decode prog_78_method_1_code 26 = .ok (.imul, 1) := by decide +kernel
theorem d1_27 : decode prog_78_method_1_code 27 = .ok (.newarray .long, 2) := by decide +kernel
theorem d1_29 : decode prog_78_method_1_code 29 = .ok (.putfield 16, 3) := by decide +kernel
theorem d1_32 : decode prog_78_method_1_code 32 = .ok (.return_, 1) := by decide +kernel
theorem pn_1 : plainName "com/example/fenceline/fenceline/model/Relation" = true := by first | (simp [plainName, overriddenIn]; done) | decide +kernel
theorem ef_1 (m : MethodId) (a1 : Addr) (p2 : Int32) : entryFrame m #[(.ref a1), (.int p2)] 2 = mkF m 0 #[.val (.ref a1), .val (.int p2)] [] := by first | (simp [entryFrame, mkF, argsToLocals, Value.category]; done) | rfl
def Q1 (Z : State) (a1 : Addr) (p2 : Int32)  (h0 : Heap) (n0 : Nat) (v : Option Value) (h : Heap) (L : List Loc) : Prop := ∃ (b : Addr), v = none ∧ Fr n0 L ∧ Keep h0 h ([a1] : List Addr) ∧ h0.size ≤ b ∧ Exa Z h a1 "com/example/fenceline/fenceline/model/Relation" ∧ Fld Z h a1 "com/example/fenceline/fenceline/model/Relation" "size" "I" (.int p2) ∧ Fld Z h a1 "com/example/fenceline/fenceline/model/Relation" "words" "I" (.int (((p2 + (63 : Int32)).toUInt32 >>> ((6 : Int32) &&& 31).toUInt32).toInt32)) ∧ Fld Z h a1 "com/example/fenceline/fenceline/model/Relation" "rows" "[J" (.ref b) ∧ own_A Z h b .long (p2 * (((p2 + (63 : Int32)).toUInt32 >>> ((6 : Int32) &&& 31).toUInt32).toInt32)) (fun i => .long ((fun _ => (0 : Int64)) i))
set_option maxRecDepth 65536 in
set_option maxHeartbeats 40000000 in
theorem rm1 (l : Launch) (Z : State) (a0 : Array Value) (hw : ∀ d ∈ tables_1, d.before a0 Z = true) (ws : List Jvm.Cond) (a1 : Addr) (p2 : Int32)  (h0 : Heap) (n0 : Nat) (Z0 : n0 ≤ h0.size) (E_a1 : Exa Z h0 a1 "com/example/fenceline/fenceline/model/Relation") (F_size_a1 : Fld Z h0 a1 "com/example/fenceline/fenceline/model/Relation" "size" "I" (.int (0 : Int32))) (F_words_a1 : Fld Z h0 a1 "com/example/fenceline/fenceline/model/Relation" "words" "I" (.int (0 : Int32))) (F_rows_a1 : Fld Z h0 a1 "com/example/fenceline/fenceline/model/Relation" "rows" "[J" .null) (g_a1 : n0 ≤ a1) (hn1 : 1 ≤ p2.toInt) (hn2 : p2.toInt ≤ 256) :
    MetFree l (⟨"com/example/fenceline/fenceline/model/Relation", "<init>", "(I)V"⟩ : MethodName) (head1 (Jvm.Cond.code (⟨"com/example/fenceline/fenceline/model/Relation", "<init>", "(I)V"⟩ : MethodName) prog_78_method_1_code 2 none :: ws) ({ frames := 1, cells := 1, slots := 1024, locals := 12 } : Room)) (fun a U => a = #[(.ref a1), (.int p2)] ∧ Z.Warmed39 U.vm ∧ U.heap = h0) (fun _ _ _ _ _ => True) (fun _ U o U' => ∃ v L, o = .returned v ∧ Q1 Z a1 p2 h0 n0 v U'.heap L ∧ FrameEnd U o U' L ({ frames := 1, cells := 1, slots := 1024, locals := 12 } : Room).cells ({ frames := 1, cells := 1, slots := 1024, locals := 12 } : Room).slots) := by
  refine MetFree.of_bodySF (plainFor_of_name pn_1) hisR ?_
  intro p e s m args below meth c s₁ Bd hml0 hP hK
  obtain ⟨rfl, hZ, hh⟩ := hP
  have hx := Bd.exec
  have hby := Bd.bytes
  have hml : c.maxLocals = 2 := hml0
  have hown : s.vm.findClass "com/example/fenceline/fenceline/model/Relation" = some m.cls := findClass_of_methodNamed Bd.named
  have hnm := (name_of_methodNamed Bd.named Bd.method).1
  have X0 : Stand p l e ({ frames := 1, cells := 1, slots := 1024, locals := 12 } : Room) s m #[(.ref a1), (.int p2)] below meth c s₁ [] 0 0 := Stand.of_body Bd
  have e0 : s₁.heap = h0 := by rw [← hh, Bd.state]; rfl
  have N0 := Fr.nil n0
  have pre0 : ∀ t, Steps p.tables e below (s₁.setTop (mkF m 0 #[.val (.ref a1), .val (.int p2)] [])) t → Steps p.tables e below (s₁.setTop (entryFrame m #[(.ref a1), (.int p2)] 2)) t := fun t k => castTop (ef_1 m a1 p2) k
  have K0 := Keep.refl h0 ([a1] : List Addr)
  obtain ⟨T1, X1, e1, st1⟩ := initO X0 hx hZ hown (hw _ (List.mem_of_getElem? (i := 11) rfl)) (hw _ (List.mem_of_getElem? (i := 12) rfl)) (hw _ (List.mem_of_getElem? (i := 13) rfl)) e0 (g := (mkF m 1 #[.val (.ref a1), .val (.int p2)] [(.ref a1)])) rfl (by rw [hml]; rfl) rfl (hb hby d1_1) (by decide) (W := 0) (by show 2 * 0 + _ ≤ _; exact Nat.le_of_eq rfl) (by decide)
  obtain ⟨T2, h2, X2, e2, W2, st2⟩ := putF X1 hx hZ hown (host := "") (Or.inl (hw _ (List.mem_of_getElem? (i := 14) rfl))) Via.refl e1 F_size_a1 E_a1 (Or.inr ⟨(hw _ (List.mem_of_getElem? (i := 15) rfl)), rfl, hnm⟩) (hw _ (List.mem_of_getElem? (i := 6) rfl)) (ty := .int) (by decide) rfl rfl (g := (mkF m 6 #[.val (.ref a1), .val (.int p2)] [(.int p2), (.ref a1)])) rfl rfl (hb hby d1_6)
  have E_a1_2 : Exa Z h2 a1 "com/example/fenceline/fenceline/model/Relation" := E_a1.wr W2
  have F_words_a1_2 : Fld Z h2 a1 "com/example/fenceline/fenceline/model/Relation" "words" "I" (.int (0 : Int32)) := F_words_a1.other W2 (Or.inr (slot_ne (Or.inr (hw _ (List.mem_of_getElem? (i := 17) rfl))) (Or.inr (hw _ (List.mem_of_getElem? (i := 15) rfl))) (by decide) (t := .int) (t' := .int) (by decide) (by decide)))
  have F_rows_a1_2 : Fld Z h2 a1 "com/example/fenceline/fenceline/model/Relation" "rows" "[J" .null := F_rows_a1.other W2 (Or.inr (slot_ne (Or.inr (hw _ (List.mem_of_getElem? (i := 20) rfl))) (Or.inr (hw _ (List.mem_of_getElem? (i := 15) rfl))) (by decide) (t := (.array .long)) (t' := .int) (by decide) (by decide)))
  have K2 := K0.wr W2 (Or.inl (List.mem_of_getElem? (i := 0) rfl))
  have Zs2 := Nat.le_trans Z0 (Keep.of_wr W2).1
  have N2 := Fr.snoc X2 N0 g_a1
  have F_size_a1_2 : Fld Z h2 a1 "com/example/fenceline/fenceline/model/Relation" "size" "I" (.int p2) := F_size_a1.same W2
  obtain ⟨T3, h3, X3, e3, W3, st3⟩ := putF X2 hx hZ hown (host := "") (Or.inl (hw _ (List.mem_of_getElem? (i := 16) rfl))) Via.refl e2 F_words_a1_2 E_a1_2 (Or.inr ⟨(hw _ (List.mem_of_getElem? (i := 17) rfl)), rfl, hnm⟩) (hw _ (List.mem_of_getElem? (i := 6) rfl)) (ty := .int) (by decide) rfl rfl (g := (mkF m 17 #[.val (.ref a1), .val (.int p2)] [(.int (((p2 + (63 : Int32)).toUInt32 >>> ((6 : Int32) &&& 31).toUInt32).toInt32)), (.ref a1)])) rfl rfl (hb hby d1_17)
  have E_a1_3 : Exa Z h3 a1 "com/example/fenceline/fenceline/model/Relation" := E_a1_2.wr W3
  have F_rows_a1_3 : Fld Z h3 a1 "com/example/fenceline/fenceline/model/Relation" "rows" "[J" .null := F_rows_a1_2.other W3 (Or.inr (slot_ne (Or.inr (hw _ (List.mem_of_getElem? (i := 20) rfl))) (Or.inr (hw _ (List.mem_of_getElem? (i := 17) rfl))) (by decide) (t := (.array .long)) (t' := .int) (by decide) (by decide)))
  have F_size_a1_3 : Fld Z h3 a1 "com/example/fenceline/fenceline/model/Relation" "size" "I" (.int p2) := F_size_a1_2.other W3 (Or.inr (slot_ne (Or.inr (hw _ (List.mem_of_getElem? (i := 15) rfl))) (Or.inr (hw _ (List.mem_of_getElem? (i := 17) rfl))) (by decide) (t := .int) (t' := .int) (by decide) (by decide)))
  have K3 := K2.wr W3 (Or.inl (List.mem_of_getElem? (i := 0) rfl))
  have Zs3 := Nat.le_trans Zs2 (Keep.of_wr W3).1
  have N3 := Fr.snoc X3 N2 g_a1
  have F_words_a1_3 : Fld Z h3 a1 "com/example/fenceline/fenceline/model/Relation" "words" "I" (.int (((p2 + (63 : Int32)).toUInt32 >>> ((6 : Int32) &&& 31).toUInt32).toInt32)) := F_words_a1_2.same W3
  obtain ⟨T4, X4, e4, st4⟩ := getF X3 hx hZ hown (host := "") (Or.inl (hw _ (List.mem_of_getElem? (i := 16) rfl))) Via.refl e3 F_words_a1_3 (g := (mkF m 23 #[.val (.ref a1), .val (.int p2)] [(.ref a1), (.int p2), (.ref a1)])) rfl rfl (hb hby d1_23)
  obtain ⟨T5, h5, k5, X5, e5, E5, Ax5, st5⟩ := newP X4 hx hZ (hw _ (List.mem_of_getElem? (i := 18) rfl)) e4 (g := (mkF m 27 #[.val (.ref a1), .val (.int p2)] [(.int (p2 * (((p2 + (63 : Int32)).toUInt32 >>> ((6 : Int32) &&& 31).toUInt32).toInt32))), (.ref a1)])) rfl (hb hby d1_27) rfl (own_len0 p2 hn1 hn2) (cap := 1024) (own_cap p2 hn1 hn2) (by decide) (by decide) (by decide)
  obtain ⟨b5, g5⟩ : ∃ z, z = h3.size := ⟨_, rfl⟩
  rw [← g5] at Ax5 st5
  have ne_a1_b5 : a1 ≠ b5 := Nat.ne_of_lt (Nat.lt_of_lt_of_le E_a1_3.lt (Nat.le_of_eq g5.symm))
  have g_b5 : n0 ≤ b5 := Nat.le_trans Zs3 (Nat.le_of_eq g5.symm)
  have sz_b5 : h0.size ≤ b5 := Nat.le_trans K3.1 (Nat.le_of_eq g5.symm)
  have E_a1_5 : Exa Z h5 a1 "com/example/fenceline/fenceline/model/Relation" := E_a1_3.ext E5
  have F_rows_a1_5 : Fld Z h5 a1 "com/example/fenceline/fenceline/model/Relation" "rows" "[J" .null := F_rows_a1_3.ext E5
  have F_size_a1_5 : Fld Z h5 a1 "com/example/fenceline/fenceline/model/Relation" "size" "I" (.int p2) := F_size_a1_3.ext E5
  have F_words_a1_5 : Fld Z h5 a1 "com/example/fenceline/fenceline/model/Relation" "words" "I" (.int (((p2 + (63 : Int32)).toUInt32 >>> ((6 : Int32) &&& 31).toUInt32).toInt32)) := F_words_a1_3.ext E5
  have K5 := K3.ext E5
  have Zs5 := Nat.le_trans Zs3 E5.1
  have A_b5_5 : own_A Z h5 b5 .long (p2 * (((p2 + (63 : Int32)).toUInt32 >>> ((6 : Int32) &&& 31).toUInt32).toInt32)) (fun i => .long ((fun _ => (0 : Int64)) i)) := own_A_new Ax5 (own_len0 p2 hn1 hn2)
  obtain ⟨T6, h6, X6, e6, W6, st6⟩ := putF X5 hx hZ hown (host := "") (Or.inl (hw _ (List.mem_of_getElem? (i := 19) rfl))) Via.refl e5 F_rows_a1_5 E_a1_5 (Or.inr ⟨(hw _ (List.mem_of_getElem? (i := 20) rfl)), rfl, hnm⟩) (hw _ (List.mem_of_getElem? (i := 6) rfl)) (ty := (.array .long)) (by decide) rfl rfl (g := (mkF m 29 #[.val (.ref a1), .val (.int p2)] [(.ref b5), (.ref a1)])) rfl rfl (hb hby d1_29)
  have E_a1_6 : Exa Z h6 a1 "com/example/fenceline/fenceline/model/Relation" := E_a1_5.wr W6
  have F_size_a1_6 : Fld Z h6 a1 "com/example/fenceline/fenceline/model/Relation" "size" "I" (.int p2) := F_size_a1_5.other W6 (Or.inr (slot_ne (Or.inr (hw _ (List.mem_of_getElem? (i := 15) rfl))) (Or.inr (hw _ (List.mem_of_getElem? (i := 20) rfl))) (by decide) (t := .int) (t' := (.array .long)) (by decide) (by decide)))
  have F_words_a1_6 : Fld Z h6 a1 "com/example/fenceline/fenceline/model/Relation" "words" "I" (.int (((p2 + (63 : Int32)).toUInt32 >>> ((6 : Int32) &&& 31).toUInt32).toInt32)) := F_words_a1_5.other W6 (Or.inr (slot_ne (Or.inr (hw _ (List.mem_of_getElem? (i := 17) rfl))) (Or.inr (hw _ (List.mem_of_getElem? (i := 20) rfl))) (by decide) (t := .int) (t' := (.array .long)) (by decide) (by decide)))
  have A_b5_6 : own_A Z h6 b5 .long (p2 * (((p2 + (63 : Int32)).toUInt32 >>> ((6 : Int32) &&& 31).toUInt32).toInt32)) (fun i => .long ((fun _ => (0 : Int64)) i)) := own_A_other A_b5_5 W6 (Ne.symm ne_a1_b5)
  have K6 := K5.wr W6 (Or.inl (List.mem_of_getElem? (i := 0) rfl))
  have Zs6 := Nat.le_trans Zs5 (Keep.of_wr W6).1
  have N6 := Fr.snoc X6 N3 g_a1
  have F_rows_a1_6 : Fld Z h6 a1 "com/example/fenceline/fenceline/model/Relation" "rows" "[J" (.ref b5) := F_rows_a1_5.same W6
  obtain ⟨fs, hr, hrun, hended, hW, hsame⟩ := X6.leave (v := none) (fun _ => rfl)
  refine ⟨_, _, pre0 _ ?_, hrun, hended, _, _, rfl, ?_, ⟨_, rfl⟩, hW, hsame.mono (by decide) (by decide)⟩
  · show Steps p.tables e below (s₁.setTop (mkF m 0 #[.val (.ref a1), .val (.int p2)] [])) _
    refine XS.aloadN X0.here hx rfl (hb hby d1_0) rfl rfl ?_
    show Steps p.tables e below (s₁.setTop (mkF m 1 #[.val (.ref a1), .val (.int p2)] [(.ref a1)])) _
    refine st1 _ ?_
    show Steps p.tables e below (T1.setTop (mkF m 4 #[.val (.ref a1), .val (.int p2)] [])) _
    refine XS.aloadN X1.here hx rfl (hb hby d1_4) rfl rfl ?_
    show Steps p.tables e below (T1.setTop (mkF m 5 #[.val (.ref a1), .val (.int p2)] [(.ref a1)])) _
    refine XS.iloadN X1.here hx rfl (hb hby d1_5) rfl ?_
    show Steps p.tables e below (T1.setTop (mkF m 6 #[.val (.ref a1), .val (.int p2)] [(.int p2), (.ref a1)])) _
    refine st2 _ ?_
    show Steps p.tables e below (T2.setTop (mkF m 9 #[.val (.ref a1), .val (.int p2)] [])) _
    refine XS.aloadN X2.here hx rfl (hb hby d1_9) rfl rfl ?_
    show Steps p.tables e below (T2.setTop (mkF m 10 #[.val (.ref a1), .val (.int p2)] [(.ref a1)])) _
    refine XS.iloadN X2.here hx rfl (hb hby d1_10) rfl ?_
    show Steps p.tables e below (T2.setTop (mkF m 11 #[.val (.ref a1), .val (.int p2)] [(.int p2), (.ref a1)])) _
    refine XS.bipush X2.here hx rfl (hb hby d1_11) ?_
    show Steps p.tables e below (T2.setTop (mkF m 13 #[.val (.ref a1), .val (.int p2)] [(.int (63 : Int32)), (.int p2), (.ref a1)])) _
    refine XS.iadd X2.here hx rfl (hb hby d1_13) rfl ?_
    show Steps p.tables e below (T2.setTop (mkF m 14 #[.val (.ref a1), .val (.int p2)] [(.int (p2 + (63 : Int32))), (.ref a1)])) _
    refine XS.bipush X2.here hx rfl (hb hby d1_14) ?_
    show Steps p.tables e below (T2.setTop (mkF m 16 #[.val (.ref a1), .val (.int p2)] [(.int (6 : Int32)), (.int (p2 + (63 : Int32))), (.ref a1)])) _
    refine XS.iushr X2.here hx rfl (hb hby d1_16) rfl ?_
    show Steps p.tables e below (T2.setTop (mkF m 17 #[.val (.ref a1), .val (.int p2)] [(.int (((p2 + (63 : Int32)).toUInt32 >>> ((6 : Int32) &&& 31).toUInt32).toInt32)), (.ref a1)])) _
    refine st3 _ ?_
    show Steps p.tables e below (T3.setTop (mkF m 20 #[.val (.ref a1), .val (.int p2)] [])) _
    refine XS.aloadN X3.here hx rfl (hb hby d1_20) rfl rfl ?_
    show Steps p.tables e below (T3.setTop (mkF m 21 #[.val (.ref a1), .val (.int p2)] [(.ref a1)])) _
    refine XS.iloadN X3.here hx rfl (hb hby d1_21) rfl ?_
    show Steps p.tables e below (T3.setTop (mkF m 22 #[.val (.ref a1), .val (.int p2)] [(.int p2), (.ref a1)])) _
    refine XS.aloadN X3.here hx rfl (hb hby d1_22) rfl rfl ?_
    show Steps p.tables e below (T3.setTop (mkF m 23 #[.val (.ref a1), .val (.int p2)] [(.ref a1), (.int p2), (.ref a1)])) _
    refine st4 _ ?_
    show Steps p.tables e below (T4.setTop (mkF m 26 #[.val (.ref a1), .val (.int p2)] [(.int (((p2 + (63 : Int32)).toUInt32 >>> ((6 : Int32) &&& 31).toUInt32).toInt32)), (.int p2), (.ref a1)])) _
    refine XS.imul X4.here hx rfl (hb hby d1_26) rfl ?_
    show Steps p.tables e below (T4.setTop (mkF m 27 #[.val (.ref a1), .val (.int p2)] [(.int (p2 * (((p2 + (63 : Int32)).toUInt32 >>> ((6 : Int32) &&& 31).toUInt32).toInt32))), (.ref a1)])) _
    refine st5 _ ?_
    show Steps p.tables e below (T5.setTop (mkF m 29 #[.val (.ref a1), .val (.int p2)] [(.ref b5), (.ref a1)])) _
    refine st6 _ ?_
    show Steps p.tables e below (T6.setTop (mkF m 32 #[.val (.ref a1), .val (.int p2)] [])) _
    exact X6.returnOut hx Bd.returns (hb hby d1_32) hr
  · show Q1 Z a1 p2 h0 n0 _ T6.heap _
    rw [e6]
    exact ⟨b5, rfl, N6, K6, sz_b5, E_a1_6, F_size_a1_6, F_words_a1_6, F_rows_a1_6, A_b5_6⟩
theorem d3_0 : decode prog_78_method_5_code 0 = .ok (.aload_n 0, 1) := by decide +kernel
theorem d3_1 : decode prog_78_method_5_code 1 = .ok (.getfield 16, 3) := by decide +kernel
theorem d3_4 : decode prog_78_method_5_code 4 = .ok (.iload_n 1, 1) := by decide +kernel
theorem d3_5 : decode prog_78_method_5_code 5 = .ok (.aload_n 0, 1) := by decide +kernel
theorem d3_6 : decode prog_78_method_5_code 6 = .ok (.getfield 13, 3) := by decide +kernel
theorem d3_9 : decode prog_78_method_5_code 9 = .ok (.imul, 1) := by decide +kernel
theorem d3_10 : decode prog_78_method_5_code 10 = .ok (.iload_n 2, 1) := by decide +kernel
theorem d3_11 : decode prog_78_method_5_code 11 = .ok (.bipush 6, 2) := by decide +kernel
theorem d3_13 : decode prog_78_method_5_code 13 = .ok (.iushr, 1) := by decide +kernel
theorem d3_14 : decode prog_78_method_5_code 14 = .ok (.iadd, 1) := by decide +kernel
theorem d3_15 : decode prog_78_method_5_code 15 = .ok (.laload, 1) := by decide +kernel
theorem d3_16 : decode prog_78_method_5_code 16 = .ok (.lconst 1, 1) := by decide +kernel
theorem d3_17 : decode prog_78_method_5_code 17 = .ok (.iload_n 2, 1) := by decide +kernel
theorem d3_18 : decode prog_78_method_5_code 18 = .ok (.lshl, 1) := by decide +kernel
theorem d3_19 : decode prog_78_method_5_code 19 = .ok (.land, 1) := by decide +kernel
theorem d3_20 : decode prog_78_method_5_code 20 = .ok (.lconst 0, 1) := by decide +kernel
theorem d3_21 : decode prog_78_method_5_code 21 = .ok (.lcmp, 1) := by decide +kernel
theorem d3_22 : decode prog_78_method_5_code 22 = .ok (.ifCond .eq 7, 3) := by decide +kernel
theorem d3_25 : decode prog_78_method_5_code 25 = .ok (.iconst 1, 1) := by decide +kernel
theorem d3_26 : decode prog_78_method_5_code 26 = .ok (.goto 4, 3) := by decide +kernel
theorem d3_29 : decode prog_78_method_5_code 29 = .ok (.iconst 0, 1) := by decide +kernel
theorem d3_30 : decode prog_78_method_5_code 30 = .ok (.ireturn, 1) := by decide +kernel
theorem pn_3 : plainName "com/example/fenceline/fenceline/model/Relation" = true := by first | (simp [plainName, overriddenIn]; done) | decide +kernel
theorem ef_3 (m : MethodId) (a1 : Addr) (p2 : Int32) (p3 : Int32) : entryFrame m #[(.ref a1), (.int p2), (.int p3)] 3 = mkF m 0 #[.val (.ref a1), .val (.int p2), .val (.int p3)] [] := by first | (simp [entryFrame, mkF, argsToLocals, Value.category]; done) | rfl
def f3 (p2 : Int32) (p3 : Int32) (y_f_rows_a1 : Int32 → Int64) (f_words_a1 : Int32) : Int32 :=
  (nar .boolean (if ((y_f_rows_a1 ((p2 * f_words_a1) + ((p3.toUInt32 >>> ((6 : Int32) &&& 31).toUInt32).toInt32))) &&& ((1 : Int64) <<< (p3 &&& 0x3f).toInt64)) = (0 : Int64) then (0 : Int32) else (1 : Int32)))
def Q3 (Z : State) (a1 : Addr) (p2 : Int32) (p3 : Int32) (f_rows_a1 : Addr) (n_f_rows_a1 : Int32) (y_f_rows_a1 : Int32 → Int64) (f_words_a1 : Int32) (h0 : Heap) (n0 : Nat) (v : Option Value) (h : Heap) (L : List Loc) : Prop := v = some (.int (f3 p2 p3 y_f_rows_a1 f_words_a1)) ∧ Fr n0 L ∧ h = h0
set_option maxRecDepth 65536 in
set_option maxHeartbeats 40000000 in
theorem rm3 (l : Launch) (Z : State) (a0 : Array Value) (hw : ∀ d ∈ tables_1, d.before a0 Z = true) (ws : List Jvm.Cond) (a1 : Addr) (p2 : Int32) (p3 : Int32) (f_rows_a1 : Addr) (n_f_rows_a1 : Int32) (y_f_rows_a1 : Int32 → Int64) (f_words_a1 : Int32) (h0 : Heap) (n0 : Nat) (Z0 : n0 ≤ h0.size) (F_rows_a1 : Fld Z h0 a1 "com/example/fenceline/fenceline/model/Relation" "rows" "[J" (.ref f_rows_a1)) (A_f_rows_a1 : own_A Z h0 f_rows_a1 .long n_f_rows_a1 (fun i => .long (y_f_rows_a1 i))) (F_words_a1 : Fld Z h0 a1 "com/example/fenceline/fenceline/model/Relation" "words" "I" (.int f_words_a1)) (hin : ¬ ((p2 * f_words_a1) + ((p3.toUInt32 >>> ((6 : Int32) &&& 31).toUInt32).toInt32)) < 0 ∧ ((p2 * f_words_a1) + ((p3.toUInt32 >>> ((6 : Int32) &&& 31).toUInt32).toInt32)) < n_f_rows_a1) :
    MetFree l (⟨"com/example/fenceline/fenceline/model/Relation", "contains", "(II)Z"⟩ : MethodName) (head1 (Jvm.Cond.code (⟨"com/example/fenceline/fenceline/model/Relation", "contains", "(II)Z"⟩ : MethodName) prog_78_method_5_code 3 (some .boolean) :: ws) ({ frames := 0, cells := 0, slots := 0, locals := 0 } : Room)) (fun a U => a = #[(.ref a1), (.int p2), (.int p3)] ∧ Z.Warmed39 U.vm ∧ U.heap = h0) (fun _ _ _ _ _ => True) (fun _ U o U' => ∃ v L, o = .returned v ∧ Q3 Z a1 p2 p3 f_rows_a1 n_f_rows_a1 y_f_rows_a1 f_words_a1 h0 n0 v U'.heap L ∧ FrameEnd U o U' L ({ frames := 0, cells := 0, slots := 0, locals := 0 } : Room).cells ({ frames := 0, cells := 0, slots := 0, locals := 0 } : Room).slots) := by
  refine MetFree.of_bodySF (plainFor_of_name pn_3) hisR ?_
  intro p e s m args below meth c s₁ Bd hml0 hP hK
  obtain ⟨rfl, hZ, hh⟩ := hP
  have hx := Bd.exec
  have hby := Bd.bytes
  have hml : c.maxLocals = 3 := hml0
  have hown : s.vm.findClass "com/example/fenceline/fenceline/model/Relation" = some m.cls := findClass_of_methodNamed Bd.named
  have hnm := (name_of_methodNamed Bd.named Bd.method).1
  have X0 : Stand p l e ({ frames := 0, cells := 0, slots := 0, locals := 0 } : Room) s m #[(.ref a1), (.int p2), (.int p3)] below meth c s₁ [] 0 0 := Stand.of_body Bd
  have e0 : s₁.heap = h0 := by rw [← hh, Bd.state]; rfl
  have N0 := Fr.nil n0
  have pre0 : ∀ t, Steps p.tables e below (s₁.setTop (mkF m 0 #[.val (.ref a1), .val (.int p2), .val (.int p3)] [])) t → Steps p.tables e below (s₁.setTop (entryFrame m #[(.ref a1), (.int p2), (.int p3)] 3)) t := fun t k => castTop (ef_3 m a1 p2 p3) k
  obtain ⟨T1, X1, e1, st1⟩ := getF X0 hx hZ hown (host := "") (Or.inl (hw _ (List.mem_of_getElem? (i := 19) rfl))) Via.refl e0 F_rows_a1 (g := (mkF m 1 #[.val (.ref a1), .val (.int p2), .val (.int p3)] [(.ref a1)])) rfl rfl (hb hby d3_1)
  obtain ⟨cl2, Ar2, Sz2, Mz2, Hz2⟩ := id A_f_rows_a1
  obtain ⟨T3, X3, e3, st3⟩ := getF X1 hx hZ hown (host := "") (Or.inl (hw _ (List.mem_of_getElem? (i := 16) rfl))) Via.refl e1 F_words_a1 (g := (mkF m 6 #[.val (.ref a1), .val (.int p2), .val (.int p3)] [(.ref a1), (.int p2), (.ref f_rows_a1)])) rfl rfl (hb hby d3_6)
  obtain ⟨v5, hv5⟩ : ∃ z : Int32, z = (if ((y_f_rows_a1 ((p2 * f_words_a1) + ((p3.toUInt32 >>> ((6 : Int32) &&& 31).toUInt32).toInt32))) &&& ((1 : Int64) <<< (p3 &&& 0x3f).toInt64)) = (0 : Int64) then (0 : Int32) else (1 : Int32)) := ⟨_, rfl⟩
  have pre6 : ∀ t, Steps p.tables e below (T3.setTop (mkF m 30 #[.val (.ref a1), .val (.int p2), .val (.int p3)] [(.int v5)])) t → Steps p.tables e below (s₁.setTop (entryFrame m #[(.ref a1), (.int p2), (.int p3)] 3)) t := fun t k => pre0 t (by
    show Steps p.tables e below (s₁.setTop (mkF m 0 #[.val (.ref a1), .val (.int p2), .val (.int p3)] [])) _
    refine XS.aloadN X0.here hx rfl (hb hby d3_0) rfl rfl ?_
    show Steps p.tables e below (s₁.setTop (mkF m 1 #[.val (.ref a1), .val (.int p2), .val (.int p3)] [(.ref a1)])) _
    refine st1 _ ?_
    show Steps p.tables e below (T1.setTop (mkF m 4 #[.val (.ref a1), .val (.int p2), .val (.int p3)] [(.ref f_rows_a1)])) _
    refine XS.iloadN X1.here hx rfl (hb hby d3_4) rfl ?_
    show Steps p.tables e below (T1.setTop (mkF m 5 #[.val (.ref a1), .val (.int p2), .val (.int p3)] [(.int p2), (.ref f_rows_a1)])) _
    refine XS.aloadN X1.here hx rfl (hb hby d3_5) rfl rfl ?_
    show Steps p.tables e below (T1.setTop (mkF m 6 #[.val (.ref a1), .val (.int p2), .val (.int p3)] [(.ref a1), (.int p2), (.ref f_rows_a1)])) _
    refine st3 _ ?_
    show Steps p.tables e below (T3.setTop (mkF m 9 #[.val (.ref a1), .val (.int p2), .val (.int p3)] [(.int f_words_a1), (.int p2), (.ref f_rows_a1)])) _
    refine XS.imul X3.here hx rfl (hb hby d3_9) rfl ?_
    show Steps p.tables e below (T3.setTop (mkF m 10 #[.val (.ref a1), .val (.int p2), .val (.int p3)] [(.int (p2 * f_words_a1)), (.ref f_rows_a1)])) _
    refine XS.iloadN X3.here hx rfl (hb hby d3_10) rfl ?_
    show Steps p.tables e below (T3.setTop (mkF m 11 #[.val (.ref a1), .val (.int p2), .val (.int p3)] [(.int p3), (.int (p2 * f_words_a1)), (.ref f_rows_a1)])) _
    refine XS.bipush X3.here hx rfl (hb hby d3_11) ?_
    show Steps p.tables e below (T3.setTop (mkF m 13 #[.val (.ref a1), .val (.int p2), .val (.int p3)] [(.int (6 : Int32)), (.int p3), (.int (p2 * f_words_a1)), (.ref f_rows_a1)])) _
    refine XS.iushr X3.here hx rfl (hb hby d3_13) rfl ?_
    show Steps p.tables e below (T3.setTop (mkF m 14 #[.val (.ref a1), .val (.int p2), .val (.int p3)] [(.int ((p3.toUInt32 >>> ((6 : Int32) &&& 31).toUInt32).toInt32)), (.int (p2 * f_words_a1)), (.ref f_rows_a1)])) _
    refine XS.iadd X3.here hx rfl (hb hby d3_14) rfl ?_
    show Steps p.tables e below (T3.setTop (mkF m 15 #[.val (.ref a1), .val (.int p2), .val (.int p3)] [(.int ((p2 * f_words_a1) + ((p3.toUInt32 >>> ((6 : Int32) &&& 31).toUInt32).toInt32))), (.ref f_rows_a1)])) _
    refine X3.laload hx (j := ((p2 * f_words_a1) + ((p3.toUInt32 >>> ((6 : Int32) &&& 31).toUInt32).toInt32))) (v := (.long (y_f_rows_a1 ((p2 * f_words_a1) + ((p3.toUInt32 >>> ((6 : Int32) &&& 31).toUInt32).toInt32))))) (by rw [e3]; exact Ar2.1) (State.isArrayOf_alike hZ.alike Ar2.2.1) Ar2.2.2 (inb_of Sz2 hin) (Hz2 _ (inb_of Sz2 hin)) (g := (mkF m 15 #[.val (.ref a1), .val (.int p2), .val (.int p3)] [(.int ((p2 * f_words_a1) + ((p3.toUInt32 >>> ((6 : Int32) &&& 31).toUInt32).toInt32))), (.ref f_rows_a1)])) rfl rfl (hb hby d3_15) _ ?_
    show Steps p.tables e below (T3.setTop (mkF m 16 #[.val (.ref a1), .val (.int p2), .val (.int p3)] [(.long (y_f_rows_a1 ((p2 * f_words_a1) + ((p3.toUInt32 >>> ((6 : Int32) &&& 31).toUInt32).toInt32))))])) _
    refine XS.lconst X3.here hx rfl (hb hby d3_16) ?_
    show Steps p.tables e below (T3.setTop (mkF m 17 #[.val (.ref a1), .val (.int p2), .val (.int p3)] [(.long (1 : Int64)), (.long (y_f_rows_a1 ((p2 * f_words_a1) + ((p3.toUInt32 >>> ((6 : Int32) &&& 31).toUInt32).toInt32))))])) _
    refine XS.iloadN X3.here hx rfl (hb hby d3_17) rfl ?_
    show Steps p.tables e below (T3.setTop (mkF m 18 #[.val (.ref a1), .val (.int p2), .val (.int p3)] [(.int p3), (.long (1 : Int64)), (.long (y_f_rows_a1 ((p2 * f_words_a1) + ((p3.toUInt32 >>> ((6 : Int32) &&& 31).toUInt32).toInt32))))])) _
    refine XS.lshl X3.here hx rfl (hb hby d3_18) rfl ?_
    show Steps p.tables e below (T3.setTop (mkF m 19 #[.val (.ref a1), .val (.int p2), .val (.int p3)] [(.long ((1 : Int64) <<< (p3 &&& 0x3f).toInt64)), (.long (y_f_rows_a1 ((p2 * f_words_a1) + ((p3.toUInt32 >>> ((6 : Int32) &&& 31).toUInt32).toInt32))))])) _
    refine XS.land X3.here hx rfl (hb hby d3_19) rfl ?_
    show Steps p.tables e below (T3.setTop (mkF m 20 #[.val (.ref a1), .val (.int p2), .val (.int p3)] [(.long ((y_f_rows_a1 ((p2 * f_words_a1) + ((p3.toUInt32 >>> ((6 : Int32) &&& 31).toUInt32).toInt32))) &&& ((1 : Int64) <<< (p3 &&& 0x3f).toInt64)))])) _
    refine XS.lconst X3.here hx rfl (hb hby d3_20) ?_
    show Steps p.tables e below (T3.setTop (mkF m 21 #[.val (.ref a1), .val (.int p2), .val (.int p3)] [(.long (0 : Int64)), (.long ((y_f_rows_a1 ((p2 * f_words_a1) + ((p3.toUInt32 >>> ((6 : Int32) &&& 31).toUInt32).toInt32))) &&& ((1 : Int64) <<< (p3 &&& 0x3f).toInt64)))])) _
    refine XS.lcmp X3.here hx rfl (hb hby d3_21) rfl ?_
    show Steps p.tables e below (T3.setTop (mkF m 22 #[.val (.ref a1), .val (.int p2), .val (.int p3)] [(.int (lcmpW ((y_f_rows_a1 ((p2 * f_words_a1) + ((p3.toUInt32 >>> ((6 : Int32) &&& 31).toUInt32).toInt32))) &&& ((1 : Int64) <<< (p3 &&& 0x3f).toInt64)) (0 : Int64)))])) _
    by_cases hc4 : ((y_f_rows_a1 ((p2 * f_words_a1) + ((p3.toUInt32 >>> ((6 : Int32) &&& 31).toUInt32).toInt32))) &&& ((1 : Int64) <<< (p3 &&& 0x3f).toInt64)) = (0 : Int64)
    · refine XS.ifYes X3.here hx rfl (pc0 := 22) (pc' := 29) rfl (hb hby d3_22) rfl ((if0 _ _).trans (teq (own_lc_teq hc4)).1) (by decide) (by decide) ?_
      show Steps p.tables e below (T3.setTop (mkF m 29 #[.val (.ref a1), .val (.int p2), .val (.int p3)] [])) _
      refine XS.iconst X3.here hx rfl (hb hby d3_29) ?_
      rw [show v5 = (0 : Int32) from hv5.trans (if_pos hc4)] at k
      exact k
    · refine XS.ifNo X3.here hx rfl (hb hby d3_22) rfl ((if0 _ _).trans (feq (own_lc_feq hc4)).1) ?_
      show Steps p.tables e below (T3.setTop (mkF m 25 #[.val (.ref a1), .val (.int p2), .val (.int p3)] [])) _
      refine XS.iconst X3.here hx rfl (hb hby d3_25) ?_
      show Steps p.tables e below (T3.setTop (mkF m 26 #[.val (.ref a1), .val (.int p2), .val (.int p3)] [(.int (1 : Int32))])) _
      refine XS.goto X3.here hx rfl (pc0 := 26) (pc' := 30) rfl (hb hby d3_26) (by decide) (by decide) ?_
      rw [show v5 = (1 : Int32) from hv5.trans (if_neg hc4)] at k
      exact k)
  have er : (f3 p2 p3 y_f_rows_a1 f_words_a1) = (nar .boolean v5) := by subst hv5; exact rfl
  obtain ⟨fs, hr, hrun, hended, hW, hsame⟩ := X3.leave (v := some (.int (nar .boolean v5))) (fun h => by rw [Bd.returns] at h; cases h)
  refine ⟨_, _, pre6 _ ?_, hrun, hended, _, _, rfl, ?_, ⟨_, rfl⟩, hW, hsame.mono (by decide) (by decide)⟩
  · show Steps p.tables e below (T3.setTop (mkF m 30 #[.val (.ref a1), .val (.int p2), .val (.int p3)] [(.int v5)])) _
    exact retN X3 hx (t := .boolean) Bd.returns (by simp) (hb hby d3_30) hr
  · show Q3 Z a1 p2 p3 f_rows_a1 n_f_rows_a1 y_f_rows_a1 f_words_a1 h0 n0 _ T3.heap _
    rw [e3]
    exact ⟨congrArg (fun z => some (Value.int z)) er.symm, N0, rfl⟩
theorem d4_0 : decode prog_78_method_4_code 0 = .ok (.aload_n 0, 1) := by decide +kernel
theorem d4_1 : decode prog_78_method_4_code 1 = .ok (.getfield 16, 3) := by decide +kernel
theorem d4_4 : decode prog_78_method_4_code 4 = .ok (.iload_n 1, 1) := by decide +kernel
theorem d4_5 : decode prog_78_method_4_code 5 = .ok (.aload_n 0, 1) := by decide +kernel
theorem d4_6 : decode prog_78_method_4_code 6 = .ok (.getfield 13, 3) := by decide +kernel
theorem d4_9 : decode prog_78_method_4_code 9 = .ok (.imul, 1) := by decide +kernel
theorem d4_10 : decode prog_78_method_4_code 10 = .ok (.iload_n 2, 1) := by decide +kernel
theorem d4_11 : decode prog_78_method_4_code 11 = .ok (.bipush 6, 2) := by decide +kernel
theorem d4_13 : decode prog_78_method_4_code 13 = .ok (.iushr, 1) := by decide +kernel
theorem d4_14 : decode prog_78_method_4_code 14 = .ok (.iadd, 1) := by decide +kernel
theorem d4_15 : decode prog_78_method_4_code 15 = .ok (.dup2, 1) := by decide +kernel
theorem d4_16 : decode prog_78_method_4_code 16 = .ok (.laload, 1) := by decide +kernel
theorem d4_17 : decode prog_78_method_4_code 17 = .ok (.lconst 1, 1) := by decide +kernel
theorem d4_18 : decode prog_78_method_4_code 18 = .ok (.iload_n 2, 1) := by decide +kernel
theorem d4_19 : decode prog_78_method_4_code 19 = .ok (.lshl, 1) := by decide +kernel
theorem d4_20 : decode prog_78_method_4_code 20 = .ok (.lor, 1) := by decide +kernel
theorem d4_21 : decode prog_78_method_4_code 21 = .ok (.lastore, 1) := by decide +kernel
theorem d4_22 : decode prog_78_method_4_code 22 = .ok (.return_, 1) := by decide +kernel
theorem pn_4 : plainName "com/example/fenceline/fenceline/model/Relation" = true := by first | (simp [plainName, overriddenIn]; done) | decide +kernel
theorem ef_4 (m : MethodId) (a1 : Addr) (p2 : Int32) (p3 : Int32) : entryFrame m #[(.ref a1), (.int p2), (.int p3)] 3 = mkF m 0 #[.val (.ref a1), .val (.int p2), .val (.int p3)] [] := by first | (simp [entryFrame, mkF, argsToLocals, Value.category]; done) | rfl
def Q4 (Z : State) (a1 : Addr) (p2 : Int32) (p3 : Int32) (b : Addr) (w : Int32) (n : Int32) (y : Int32 → Int64) (h0 : Heap) (n0 : Nat) (v : Option Value) (h : Heap) (L : List Loc) : Prop := v = none ∧ Fr n0 L ∧ Keep h0 h ([b] : List Addr) ∧ own_A Z h b .long n (fun i => .long ((fun i => if i = ((p2 * w) + ((p3.toUInt32 >>> ((6 : Int32) &&& 31).toUInt32).toInt32)) then ((y ((p2 * w) + ((p3.toUInt32 >>> ((6 : Int32) &&& 31).toUInt32).toInt32))) ||| ((1 : Int64) <<< (p3 &&& 0x3f).toInt64)) else y i) i))
set_option maxRecDepth 65536 in
set_option maxHeartbeats 40000000 in
theorem rm4 (l : Launch) (Z : State) (a0 : Array Value) (hw : ∀ d ∈ tables_1, d.before a0 Z = true) (ws : List Jvm.Cond) (a1 : Addr) (p2 : Int32) (p3 : Int32) (b : Addr) (w : Int32) (n : Int32) (y : Int32 → Int64) (h0 : Heap) (n0 : Nat) (Z0 : n0 ≤ h0.size) (F_rows_a1 : Fld Z h0 a1 "com/example/fenceline/fenceline/model/Relation" "rows" "[J" (.ref b)) (F_words_a1 : Fld Z h0 a1 "com/example/fenceline/fenceline/model/Relation" "words" "I" (.int w)) (A_b : own_A Z h0 b .long n (fun i => .long (y i))) (ne_a1_b : a1 ≠ b) (g_b : n0 ≤ b) (hin : ¬ ((p2 * w) + ((p3.toUInt32 >>> ((6 : Int32) &&& 31).toUInt32).toInt32)) < 0 ∧ ((p2 * w) + ((p3.toUInt32 >>> ((6 : Int32) &&& 31).toUInt32).toInt32)) < n) :
    MetFree l (⟨"com/example/fenceline/fenceline/model/Relation", "add", "(II)V"⟩ : MethodName) (head1 (Jvm.Cond.code (⟨"com/example/fenceline/fenceline/model/Relation", "add", "(II)V"⟩ : MethodName) prog_78_method_4_code 3 none :: ws) ({ frames := 0, cells := 0, slots := 0, locals := 0 } : Room)) (fun a U => a = #[(.ref a1), (.int p2), (.int p3)] ∧ Z.Warmed39 U.vm ∧ U.heap = h0) (fun _ _ _ _ _ => True) (fun _ U o U' => ∃ v L, o = .returned v ∧ Q4 Z a1 p2 p3 b w n y h0 n0 v U'.heap L ∧ FrameEnd U o U' L ({ frames := 0, cells := 0, slots := 0, locals := 0 } : Room).cells ({ frames := 0, cells := 0, slots := 0, locals := 0 } : Room).slots) := by
  refine MetFree.of_bodySF (plainFor_of_name pn_4) hisR ?_
  intro p e s m args below meth c s₁ Bd hml0 hP hK
  obtain ⟨rfl, hZ, hh⟩ := hP
  have hx := Bd.exec
  have hby := Bd.bytes
  have hml : c.maxLocals = 3 := hml0
  have hown : s.vm.findClass "com/example/fenceline/fenceline/model/Relation" = some m.cls := findClass_of_methodNamed Bd.named
  have hnm := (name_of_methodNamed Bd.named Bd.method).1
  have X0 : Stand p l e ({ frames := 0, cells := 0, slots := 0, locals := 0 } : Room) s m #[(.ref a1), (.int p2), (.int p3)] below meth c s₁ [] 0 0 := Stand.of_body Bd
  have e0 : s₁.heap = h0 := by rw [← hh, Bd.state]; rfl
  have N0 := Fr.nil n0
  have pre0 : ∀ t, Steps p.tables e below (s₁.setTop (mkF m 0 #[.val (.ref a1), .val (.int p2), .val (.int p3)] [])) t → Steps p.tables e below (s₁.setTop (entryFrame m #[(.ref a1), (.int p2), (.int p3)] 3)) t := fun t k => castTop (ef_4 m a1 p2 p3) k
  have K0 := Keep.refl h0 ([b] : List Addr)
  obtain ⟨T1, X1, e1, st1⟩ := getF X0 hx hZ hown (host := "") (Or.inl (hw _ (List.mem_of_getElem? (i := 19) rfl))) Via.refl e0 F_rows_a1 (g := (mkF m 1 #[.val (.ref a1), .val (.int p2), .val (.int p3)] [(.ref a1)])) rfl rfl (hb hby d4_1)
  obtain ⟨cl2, Ar2, Sz2, Mz2, Hz2⟩ := id A_b
  obtain ⟨T3, X3, e3, st3⟩ := getF X1 hx hZ hown (host := "") (Or.inl (hw _ (List.mem_of_getElem? (i := 16) rfl))) Via.refl e1 F_words_a1 (g := (mkF m 6 #[.val (.ref a1), .val (.int p2), .val (.int p3)] [(.ref a1), (.int p2), (.ref b)])) rfl rfl (hb hby d4_6)
  have hin4 := inb_of (j := ((p2 * w) + ((p3.toUInt32 >>> ((6 : Int32) &&& 31).toUInt32).toInt32))) Sz2 hin
  obtain ⟨T4, h4, X4, e4, W4, st4⟩ := stJ X3 hx hZ e3 Ar2 (j := ((p2 * w) + ((p3.toUInt32 >>> ((6 : Int32) &&& 31).toUInt32).toInt32))) hin4 (g := (mkF m 21 #[.val (.ref a1), .val (.int p2), .val (.int p3)] [(.long ((y ((p2 * w) + ((p3.toUInt32 >>> ((6 : Int32) &&& 31).toUInt32).toInt32))) ||| ((1 : Int64) <<< (p3 &&& 0x3f).toInt64))), (.int ((p2 * w) + ((p3.toUInt32 >>> ((6 : Int32) &&& 31).toUInt32).toInt32))), (.ref b)])) rfl rfl (hb hby d4_21)
  obtain ⟨y4, hy4⟩ : ∃ yy_ : Int32 → Int64, yy_ = fun i => if i = ((p2 * w) + ((p3.toUInt32 >>> ((6 : Int32) &&& 31).toUInt32).toInt32)) then ((y ((p2 * w) + ((p3.toUInt32 >>> ((6 : Int32) &&& 31).toUInt32).toInt32))) ||| ((1 : Int64) <<< (p3 &&& 0x3f).toInt64)) else y i := ⟨_, rfl⟩
  have F_rows_a1_4 : Fld Z h4 a1 "com/example/fenceline/fenceline/model/Relation" "rows" "[J" (.ref b) := F_rows_a1.other W4 (Or.inl ne_a1_b)
  have F_words_a1_4 : Fld Z h4 a1 "com/example/fenceline/fenceline/model/Relation" "words" "I" (.int w) := F_words_a1.other W4 (Or.inl ne_a1_b)
  have K4 := K0.wr W4 (Or.inl (List.mem_of_getElem? (i := 0) rfl))
  have Zs4 := Nat.le_trans Z0 (Keep.of_wr W4).1
  have N4 := Fr.snoc X4 N0 g_b
  have A_b_4 : own_A Z h4 b .long n (fun i => .long (y4 i)) := by subst hy4; exact own_A_set Ar2 Sz2 Mz2 Hz2 hin4 W4 (own_setJ (y := y) (j := ((p2 * w) + ((p3.toUInt32 >>> ((6 : Int32) &&& 31).toUInt32).toInt32))) (x := ((y ((p2 * w) + ((p3.toUInt32 >>> ((6 : Int32) &&& 31).toUInt32).toInt32))) ||| ((1 : Int64) <<< (p3 &&& 0x3f).toInt64)))) (own_setJ' (y := y) (j := ((p2 * w) + ((p3.toUInt32 >>> ((6 : Int32) &&& 31).toUInt32).toInt32))) (x := ((y ((p2 * w) + ((p3.toUInt32 >>> ((6 : Int32) &&& 31).toUInt32).toInt32))) ||| ((1 : Int64) <<< (p3 &&& 0x3f).toInt64))))
  obtain ⟨fs, hr, hrun, hended, hW, hsame⟩ := X4.leave (v := none) (fun _ => rfl)
  refine ⟨_, _, pre0 _ ?_, hrun, hended, _, _, rfl, ?_, ⟨_, rfl⟩, hW, hsame.mono (by decide) (by decide)⟩
  · show Steps p.tables e below (s₁.setTop (mkF m 0 #[.val (.ref a1), .val (.int p2), .val (.int p3)] [])) _
    refine XS.aloadN X0.here hx rfl (hb hby d4_0) rfl rfl ?_
    show Steps p.tables e below (s₁.setTop (mkF m 1 #[.val (.ref a1), .val (.int p2), .val (.int p3)] [(.ref a1)])) _
    refine st1 _ ?_
    show Steps p.tables e below (T1.setTop (mkF m 4 #[.val (.ref a1), .val (.int p2), .val (.int p3)] [(.ref b)])) _
    refine XS.iloadN X1.here hx rfl (hb hby d4_4) rfl ?_
    show Steps p.tables e below (T1.setTop (mkF m 5 #[.val (.ref a1), .val (.int p2), .val (.int p3)] [(.int p2), (.ref b)])) _
    refine XS.aloadN X1.here hx rfl (hb hby d4_5) rfl rfl ?_
    show Steps p.tables e below (T1.setTop (mkF m 6 #[.val (.ref a1), .val (.int p2), .val (.int p3)] [(.ref a1), (.int p2), (.ref b)])) _
    refine st3 _ ?_
    show Steps p.tables e below (T3.setTop (mkF m 9 #[.val (.ref a1), .val (.int p2), .val (.int p3)] [(.int w), (.int p2), (.ref b)])) _
    refine XS.imul X3.here hx rfl (hb hby d4_9) rfl ?_
    show Steps p.tables e below (T3.setTop (mkF m 10 #[.val (.ref a1), .val (.int p2), .val (.int p3)] [(.int (p2 * w)), (.ref b)])) _
    refine XS.iloadN X3.here hx rfl (hb hby d4_10) rfl ?_
    show Steps p.tables e below (T3.setTop (mkF m 11 #[.val (.ref a1), .val (.int p2), .val (.int p3)] [(.int p3), (.int (p2 * w)), (.ref b)])) _
    refine XS.bipush X3.here hx rfl (hb hby d4_11) ?_
    show Steps p.tables e below (T3.setTop (mkF m 13 #[.val (.ref a1), .val (.int p2), .val (.int p3)] [(.int (6 : Int32)), (.int p3), (.int (p2 * w)), (.ref b)])) _
    refine XS.iushr X3.here hx rfl (hb hby d4_13) rfl ?_
    show Steps p.tables e below (T3.setTop (mkF m 14 #[.val (.ref a1), .val (.int p2), .val (.int p3)] [(.int ((p3.toUInt32 >>> ((6 : Int32) &&& 31).toUInt32).toInt32)), (.int (p2 * w)), (.ref b)])) _
    refine XS.iadd X3.here hx rfl (hb hby d4_14) rfl ?_
    show Steps p.tables e below (T3.setTop (mkF m 15 #[.val (.ref a1), .val (.int p2), .val (.int p3)] [(.int ((p2 * w) + ((p3.toUInt32 >>> ((6 : Int32) &&& 31).toUInt32).toInt32))), (.ref b)])) _
    refine XT.dup2 X3.here hx rfl (hb hby d4_15) rfl rfl rfl ?_
    show Steps p.tables e below (T3.setTop (mkF m 16 #[.val (.ref a1), .val (.int p2), .val (.int p3)] [(.int ((p2 * w) + ((p3.toUInt32 >>> ((6 : Int32) &&& 31).toUInt32).toInt32))), (.ref b), (.int ((p2 * w) + ((p3.toUInt32 >>> ((6 : Int32) &&& 31).toUInt32).toInt32))), (.ref b)])) _
    refine X3.laload hx (j := ((p2 * w) + ((p3.toUInt32 >>> ((6 : Int32) &&& 31).toUInt32).toInt32))) (v := (.long (y ((p2 * w) + ((p3.toUInt32 >>> ((6 : Int32) &&& 31).toUInt32).toInt32))))) (by rw [e3]; exact Ar2.1) (State.isArrayOf_alike hZ.alike Ar2.2.1) Ar2.2.2 (inb_of Sz2 hin) (Hz2 _ (inb_of Sz2 hin)) (g := (mkF m 16 #[.val (.ref a1), .val (.int p2), .val (.int p3)] [(.int ((p2 * w) + ((p3.toUInt32 >>> ((6 : Int32) &&& 31).toUInt32).toInt32))), (.ref b), (.int ((p2 * w) + ((p3.toUInt32 >>> ((6 : Int32) &&& 31).toUInt32).toInt32))), (.ref b)])) rfl rfl (hb hby d4_16) _ ?_
    show Steps p.tables e below (T3.setTop (mkF m 17 #[.val (.ref a1), .val (.int p2), .val (.int p3)] [(.long (y ((p2 * w) + ((p3.toUInt32 >>> ((6 : Int32) &&& 31).toUInt32).toInt32)))), (.int ((p2 * w) + ((p3.toUInt32 >>> ((6 : Int32) &&& 31).toUInt32).toInt32))), (.ref b)])) _
    refine XS.lconst X3.here hx rfl (hb hby d4_17) ?_
    show Steps p.tables e below (T3.setTop (mkF m 18 #[.val (.ref a1), .val (.int p2), .val (.int p3)] [(.long (1 : Int64)), (.long (y ((p2 * w) + ((p3.toUInt32 >>> ((6 : Int32) &&& 31).toUInt32).toInt32)))), (.int ((p2 * w) + ((p3.toUInt32 >>> ((6 : Int32) &&& 31).toUInt32).toInt32))), (.ref b)])) _
    refine XS.iloadN X3.here hx rfl (hb hby d4_18) rfl ?_
    show Steps p.tables e below (T3.setTop (mkF m 19 #[.val (.ref a1), .val (.int p2), .val (.int p3)] [(.int p3), (.long (1 : Int64)), (.long (y ((p2 * w) + ((p3.toUInt32 >>> ((6 : Int32) &&& 31).toUInt32).toInt32)))), (.int ((p2 * w) + ((p3.toUInt32 >>> ((6 : Int32) &&& 31).toUInt32).toInt32))), (.ref b)])) _
    refine XS.lshl X3.here hx rfl (hb hby d4_19) rfl ?_
    show Steps p.tables e below (T3.setTop (mkF m 20 #[.val (.ref a1), .val (.int p2), .val (.int p3)] [(.long ((1 : Int64) <<< (p3 &&& 0x3f).toInt64)), (.long (y ((p2 * w) + ((p3.toUInt32 >>> ((6 : Int32) &&& 31).toUInt32).toInt32)))), (.int ((p2 * w) + ((p3.toUInt32 >>> ((6 : Int32) &&& 31).toUInt32).toInt32))), (.ref b)])) _
    refine XS.lor X3.here hx rfl (hb hby d4_20) rfl ?_
    show Steps p.tables e below (T3.setTop (mkF m 21 #[.val (.ref a1), .val (.int p2), .val (.int p3)] [(.long ((y ((p2 * w) + ((p3.toUInt32 >>> ((6 : Int32) &&& 31).toUInt32).toInt32))) ||| ((1 : Int64) <<< (p3 &&& 0x3f).toInt64))), (.int ((p2 * w) + ((p3.toUInt32 >>> ((6 : Int32) &&& 31).toUInt32).toInt32))), (.ref b)])) _
    refine st4 _ ?_
    show Steps p.tables e below (T4.setTop (mkF m 22 #[.val (.ref a1), .val (.int p2), .val (.int p3)] [])) _
    exact X4.returnOut hx Bd.returns (hb hby d4_22) hr
  · show Q4 Z a1 p2 p3 b w n y h0 n0 _ T4.heap _
    rw [e4]
    subst hy4
    exact ⟨rfl, N4, K4, A_b_4⟩
theorem pd_0 : parseMethodDescriptor "(I)V" = some ⟨[.int], none⟩ := by decide +kernel
theorem pd_1 : parseMethodDescriptor "(II)V" = some ⟨[.int, .int], none⟩ := by decide +kernel
theorem pd_2 : parseMethodDescriptor "(II)Z" = some ⟨[.int, .int], some .boolean⟩ := by decide +kernel
theorem pn_0 : plainName "com/example/fenceline/fenceline/model/RelationContainsPinLaw" = true := by first | (simp [plainName, overriddenIn]; done) | decide +kernel
theorem ef_0 (m : MethodId) (p1 : Int32) (p2 : Int32) (p3 : Int32) (p4 : Int32) (p5 : Int32) (q6 : Int64) : entryFrame m #[(.int p1), (.int p2), (.int p3), (.int p4), (.int p5), (.long q6)] maxLocals = mkF m 0 #[.val (.int p1), .val (.int p2), .val (.int p3), .val (.int p4), .val (.int p5), .val (.long q6), .second, .unset, .unset, .unset, .unset, .unset, .unset, .unset, .unset, .unset, .unset, .unset, .unset, .unset, .unset, .unset, .unset, .unset, .unset] [] := by first | (simp [entryFrame, mkF, argsToLocals, Value.category, maxLocals]; done) | rfl
def f0 (p1 : Int32) (p2 : Int32) (p3 : Int32) (p4 : Int32) (p5 : Int32) (q6 : Int64) : Int32 :=
  let N : Int32 := ((1 : Int32) + (p1 &&& (255 : Int32)));
  let A1 : Int32 := ((p2 &&& (2147483647 : Int32)) % N);
  let B1 : Int32 := ((p3 &&& (2147483647 : Int32)) % N);
  let A2 : Int32 := ((p4 &&& (2147483647 : Int32)) % N);
  let B2 : Int32 := ((p5 &&& (2147483647 : Int32)) % N);
  let M : Int32 := ((q6 &&& (15 : Int64)).toInt32);
  let v2 : Int32 := (if (M &&& (1 : Int32)) = (0 : Int32) then (0 : Int32) else (1 : Int32));
  let v5 : Int32 := (if (M &&& (2 : Int32)) = (0 : Int32) then (0 : Int32) else (1 : Int32));
  let SF : Int32 := ((((q6.toUInt64 >>> ((4 : Int32) &&& 0x3f).toInt64.toUInt64).toInt64) &&& (3 : Int64)).toInt32);
  let STt : Int32 := ((((q6.toUInt64 >>> ((6 : Int32) &&& 0x3f).toInt64.toUInt64).toInt64) &&& (3 : Int64)).toInt32);
  let FF : Int32 := (((((q6.toUInt64 >>> ((8 : Int32) &&& 0x3f).toInt64.toUInt64).toInt64) &&& (2147483647 : Int64)).toInt32) % N);
  let FT : Int32 := (((((q6.toUInt64 >>> ((40 : Int32) &&& 0x3f).toInt64.toUInt64).toInt64) &&& (16777215 : Int64)).toInt32) % N);
  let v9 : Int32 := (if SF = (0 : Int32) then A1 else (if SF = (1 : Int32) then A2 else FF));
  let v13 : Int32 := (if STt = (0 : Int32) then B1 else (if STt = (1 : Int32) then B2 else FT));
  let y17 : Int32 → Int64 := (fun _ => (0 : Int64));
  let y25 : Int32 → Int64 := (if v2 = (0 : Int32) then y17 else (fun i => if i = ((A1 * (((N + (63 : Int32)).toUInt32 >>> ((6 : Int32) &&& 31).toUInt32).toInt32)) + ((B1.toUInt32 >>> ((6 : Int32) &&& 31).toUInt32).toInt32)) then ((y17 ((A1 * (((N + (63 : Int32)).toUInt32 >>> ((6 : Int32) &&& 31).toUInt32).toInt32)) + ((B1.toUInt32 >>> ((6 : Int32) &&& 31).toUInt32).toInt32))) ||| ((1 : Int64) <<< (B1 &&& 0x3f).toInt64)) else y17 i));
  let y33 : Int32 → Int64 := (if v5 = (0 : Int32) then y25 else (fun i => if i = ((A2 * (((N + (63 : Int32)).toUInt32 >>> ((6 : Int32) &&& 31).toUInt32).toInt32)) + ((B2.toUInt32 >>> ((6 : Int32) &&& 31).toUInt32).toInt32)) then ((y25 ((A2 * (((N + (63 : Int32)).toUInt32 >>> ((6 : Int32) &&& 31).toUInt32).toInt32)) + ((B2.toUInt32 >>> ((6 : Int32) &&& 31).toUInt32).toInt32))) ||| ((1 : Int64) <<< (B2 &&& 0x3f).toInt64)) else y25 i));
  let v46 : Int32 := (if v2 = (0 : Int32) then (if v5 = (0 : Int32) then (0 : Int32) else (if v9 = A2 then (if v13 = B2 then (1 : Int32) else (0 : Int32)) else (0 : Int32))) else (if v9 = A1 then (if v13 = B1 then (1 : Int32) else (if v5 = (0 : Int32) then (0 : Int32) else (if v9 = A2 then (if v13 = B2 then (1 : Int32) else (0 : Int32)) else (0 : Int32)))) else (if v5 = (0 : Int32) then (0 : Int32) else (if v9 = A2 then (if v13 = B2 then (1 : Int32) else (0 : Int32)) else (0 : Int32)))));
  let v50 : Int32 := (if (f3 v9 v13 y33 (((N + (63 : Int32)).toUInt32 >>> ((6 : Int32) &&& 31).toUInt32).toInt32)) = v46 then (1 : Int32) else (0 : Int32));
  let v59 : Int32 := (if v2 = (0 : Int32) then (1 : Int32) else (if (f3 A1 B1 y33 (((N + (63 : Int32)).toUInt32 >>> ((6 : Int32) &&& 31).toUInt32).toInt32)) = (0 : Int32) then (0 : Int32) else (1 : Int32)));
  let v63 : Int32 := (if v50 = (0 : Int32) then (0 : Int32) else (if v59 = (0 : Int32) then (0 : Int32) else (1 : Int32)));
  (nar .boolean v63)
def Q0 (Z : State) (p1 : Int32) (p2 : Int32) (p3 : Int32) (p4 : Int32) (p5 : Int32) (q6 : Int64)  (h0 : Heap) (n0 : Nat) (v : Option Value) (h : Heap) (L : List Loc) : Prop := v = some (.int (f0 p1 p2 p3 p4 p5 q6)) ∧ Fr n0 L ∧ True
set_option maxRecDepth 65536 in
set_option maxHeartbeats 40000000 in
theorem rm0 (l : Launch) (Z : State) (a0 : Array Value) (hw : ∀ d ∈ tables_1, d.before a0 Z = true) (ws : List Jvm.Cond) (p1 : Int32) (p2 : Int32) (p3 : Int32) (p4 : Int32) (p5 : Int32) (q6 : Int64)  (h0 : Heap) (n0 : Nat) (Z0 : n0 ≤ h0.size) (O0 : Old Z n0 h0) :
    MetFree l x (head1 (Jvm.Cond.code x code maxLocals ret :: ws) room_1) (fun a U => a = #[(.int p1), (.int p2), (.int p3), (.int p4), (.int p5), (.long q6)] ∧ Z.Warmed39 U.vm ∧ U.heap = h0) (fun _ _ _ _ _ => True) (fun _ U o U' => ∃ v L, o = .returned v ∧ Q0 Z p1 p2 p3 p4 p5 q6 h0 n0 v U'.heap L ∧ FrameEnd U o U' L room_1.cells room_1.slots) := by
  refine MetFree.of_bodySF (plainFor_of_name pn_0) hisR ?_
  intro p e s m args below meth c s₁ Bd hml0 hP hK
  obtain ⟨rfl, hZ, hh⟩ := hP
  have hx := Bd.exec
  have hby := Bd.bytes
  have hml : c.maxLocals = 25 := hml0
  have hown : s.vm.findClass "com/example/fenceline/fenceline/model/RelationContainsPinLaw" = some m.cls := findClass_of_methodNamed Bd.named
  have hnm := (name_of_methodNamed Bd.named Bd.method).1
  have X0 : Stand p l e room_1 s m #[(.int p1), (.int p2), (.int p3), (.int p4), (.int p5), (.long q6)] below meth c s₁ [] 0 0 := Stand.of_body Bd
  have e0 : s₁.heap = h0 := by rw [← hh, Bd.state]; rfl
  have N0 := Fr.nil n0
  have pre0 : ∀ t, Steps p.tables e below (s₁.setTop (mkF m 0 #[.val (.int p1), .val (.int p2), .val (.int p3), .val (.int p4), .val (.int p5), .val (.long q6), .second, .unset, .unset, .unset, .unset, .unset, .unset, .unset, .unset, .unset, .unset, .unset, .unset, .unset, .unset, .unset, .unset, .unset, .unset] [])) t → Steps p.tables e below (s₁.setTop (entryFrame m #[(.int p1), (.int p2), (.int p3), (.int p4), (.int p5), (.long q6)] maxLocals)) t := fun t k => castTop (ef_0 m p1 p2 p3 p4 p5 q6) k
  have K0 := Keep.refl h0 ([] : List Addr)
  obtain ⟨N, hN⟩ : ∃ z : Int32, z = ((1 : Int32) + (p1 &&& (255 : Int32))) := ⟨_, rfl⟩
  obtain ⟨A1, hA1⟩ : ∃ z : Int32, z = ((p2 &&& (2147483647 : Int32)) % N) := ⟨_, rfl⟩
  obtain ⟨B1, hB1⟩ : ∃ z : Int32, z = ((p3 &&& (2147483647 : Int32)) % N) := ⟨_, rfl⟩
  obtain ⟨A2, hA2⟩ : ∃ z : Int32, z = ((p4 &&& (2147483647 : Int32)) % N) := ⟨_, rfl⟩
  obtain ⟨B2, hB2⟩ : ∃ z : Int32, z = ((p5 &&& (2147483647 : Int32)) % N) := ⟨_, rfl⟩
  obtain ⟨M, hM⟩ : ∃ z : Int32, z = ((q6 &&& (15 : Int64)).toInt32) := ⟨_, rfl⟩
  obtain ⟨v2, hv2⟩ : ∃ z : Int32, z = (if (M &&& (1 : Int32)) = (0 : Int32) then (0 : Int32) else (1 : Int32)) := ⟨_, rfl⟩
  have pre3 : ∀ t, Steps p.tables e below (s₁.setTop (mkF m 67 #[.val (.int p1), .val (.int p2), .val (.int p3), .val (.int p4), .val (.int p5), .val (.long q6), .second, .val (.int N), .val (.int A1), .val (.int B1), .val (.int A2), .val (.int B2), .val (.int M), .unset, .unset, .unset, .unset, .unset, .unset, .unset, .unset, .unset, .unset, .unset, .unset] [(.int v2)])) t → Steps p.tables e below (s₁.setTop (entryFrame m #[(.int p1), (.int p2), (.int p3), (.int p4), (.int p5), (.long q6)] maxLocals)) t := fun t k => pre0 t (by
    show Steps p.tables e below (s₁.setTop (mkF m 0 #[.val (.int p1), .val (.int p2), .val (.int p3), .val (.int p4), .val (.int p5), .val (.long q6), .second, .unset, .unset, .unset, .unset, .unset, .unset, .unset, .unset, .unset, .unset, .unset, .unset, .unset, .unset, .unset, .unset, .unset, .unset] [])) _
    refine XS.iconst X0.here hx rfl (hb hby at_0) ?_
    show Steps p.tables e below (s₁.setTop (mkF m 1 #[.val (.int p1), .val (.int p2), .val (.int p3), .val (.int p4), .val (.int p5), .val (.long q6), .second, .unset, .unset, .unset, .unset, .unset, .unset, .unset, .unset, .unset, .unset, .unset, .unset, .unset, .unset, .unset, .unset, .unset, .unset] [(.int (1 : Int32))])) _
    refine XS.iloadN X0.here hx rfl (hb hby at_1) rfl ?_
    show Steps p.tables e below (s₁.setTop (mkF m 2 #[.val (.int p1), .val (.int p2), .val (.int p3), .val (.int p4), .val (.int p5), .val (.long q6), .second, .unset, .unset, .unset, .unset, .unset, .unset, .unset, .unset, .unset, .unset, .unset, .unset, .unset, .unset, .unset, .unset, .unset, .unset] [(.int p1), (.int (1 : Int32))])) _
    refine XS.sipush X0.here hx rfl (hb hby at_2) ?_
    show Steps p.tables e below (s₁.setTop (mkF m 5 #[.val (.int p1), .val (.int p2), .val (.int p3), .val (.int p4), .val (.int p5), .val (.long q6), .second, .unset, .unset, .unset, .unset, .unset, .unset, .unset, .unset, .unset, .unset, .unset, .unset, .unset, .unset, .unset, .unset, .unset, .unset] [(.int (255 : Int32)), (.int p1), (.int (1 : Int32))])) _
    refine XS.iand X0.here hx rfl (hb hby at_5) rfl ?_
    show Steps p.tables e below (s₁.setTop (mkF m 6 #[.val (.int p1), .val (.int p2), .val (.int p3), .val (.int p4), .val (.int p5), .val (.long q6), .second, .unset, .unset, .unset, .unset, .unset, .unset, .unset, .unset, .unset, .unset, .unset, .unset, .unset, .unset, .unset, .unset, .unset, .unset] [(.int (p1 &&& (255 : Int32))), (.int (1 : Int32))])) _
    refine XS.iadd X0.here hx rfl (hb hby at_6) rfl ?_
    show Steps p.tables e below (s₁.setTop (mkF m 7 #[.val (.int p1), .val (.int p2), .val (.int p3), .val (.int p4), .val (.int p5), .val (.long q6), .second, .unset, .unset, .unset, .unset, .unset, .unset, .unset, .unset, .unset, .unset, .unset, .unset, .unset, .unset, .unset, .unset, .unset, .unset] [(.int ((1 : Int32) + (p1 &&& (255 : Int32))))])) _
    rw [← hN]
    show Steps p.tables e below (s₁.setTop (mkF m 7 #[.val (.int p1), .val (.int p2), .val (.int p3), .val (.int p4), .val (.int p5), .val (.long q6), .second, .unset, .unset, .unset, .unset, .unset, .unset, .unset, .unset, .unset, .unset, .unset, .unset, .unset, .unset, .unset, .unset, .unset, .unset] [(.int N)])) _
    refine XS.istore X0.here hx rfl (hb hby at_7) rfl (l' := #[.val (.int p1), .val (.int p2), .val (.int p3), .val (.int p4), .val (.int p5), .val (.long q6), .second, .val (.int N), .unset, .unset, .unset, .unset, .unset, .unset, .unset, .unset, .unset, .unset, .unset, .unset, .unset, .unset, .unset, .unset, .unset]) rfl ?_
    show Steps p.tables e below (s₁.setTop (mkF m 9 #[.val (.int p1), .val (.int p2), .val (.int p3), .val (.int p4), .val (.int p5), .val (.long q6), .second, .val (.int N), .unset, .unset, .unset, .unset, .unset, .unset, .unset, .unset, .unset, .unset, .unset, .unset, .unset, .unset, .unset, .unset, .unset] [])) _
    refine XS.iloadN X0.here hx rfl (hb hby at_9) rfl ?_
    show Steps p.tables e below (s₁.setTop (mkF m 10 #[.val (.int p1), .val (.int p2), .val (.int p3), .val (.int p4), .val (.int p5), .val (.long q6), .second, .val (.int N), .unset, .unset, .unset, .unset, .unset, .unset, .unset, .unset, .unset, .unset, .unset, .unset, .unset, .unset, .unset, .unset, .unset] [(.int p2)])) _
    refine X0.ldcInt hx hown (mvT hZ (hw _ (List.mem_of_getElem? (i := 0) rfl))) (g := (mkF m 10 #[.val (.int p1), .val (.int p2), .val (.int p3), .val (.int p4), .val (.int p5), .val (.long q6), .second, .val (.int N), .unset, .unset, .unset, .unset, .unset, .unset, .unset, .unset, .unset, .unset, .unset, .unset, .unset, .unset, .unset, .unset, .unset] [(.int p2)])) rfl (hb hby at_10) _ ?_
    show Steps p.tables e below (s₁.setTop (mkF m 12 #[.val (.int p1), .val (.int p2), .val (.int p3), .val (.int p4), .val (.int p5), .val (.long q6), .second, .val (.int N), .unset, .unset, .unset, .unset, .unset, .unset, .unset, .unset, .unset, .unset, .unset, .unset, .unset, .unset, .unset, .unset, .unset] [(.int (2147483647 : Int32)), (.int p2)])) _
    refine XS.iand X0.here hx rfl (hb hby at_12) rfl ?_
    show Steps p.tables e below (s₁.setTop (mkF m 13 #[.val (.int p1), .val (.int p2), .val (.int p3), .val (.int p4), .val (.int p5), .val (.long q6), .second, .val (.int N), .unset, .unset, .unset, .unset, .unset, .unset, .unset, .unset, .unset, .unset, .unset, .unset, .unset, .unset, .unset, .unset, .unset] [(.int (p2 &&& (2147483647 : Int32)))])) _
    refine XS.iload X0.here hx rfl (hb hby at_13) rfl ?_
    show Steps p.tables e below (s₁.setTop (mkF m 15 #[.val (.int p1), .val (.int p2), .val (.int p3), .val (.int p4), .val (.int p5), .val (.long q6), .second, .val (.int N), .unset, .unset, .unset, .unset, .unset, .unset, .unset, .unset, .unset, .unset, .unset, .unset, .unset, .unset, .unset, .unset, .unset] [(.int N), (.int (p2 &&& (2147483647 : Int32)))])) _
    refine iremM X0 hx rfl (hb hby at_15) rfl (own_N0 hN) ?_
    show Steps p.tables e below (s₁.setTop (mkF m 16 #[.val (.int p1), .val (.int p2), .val (.int p3), .val (.int p4), .val (.int p5), .val (.long q6), .second, .val (.int N), .unset, .unset, .unset, .unset, .unset, .unset, .unset, .unset, .unset, .unset, .unset, .unset, .unset, .unset, .unset, .unset, .unset] [(.int ((p2 &&& (2147483647 : Int32)) % N))])) _
    rw [← hA1]
    show Steps p.tables e below (s₁.setTop (mkF m 16 #[.val (.int p1), .val (.int p2), .val (.int p3), .val (.int p4), .val (.int p5), .val (.long q6), .second, .val (.int N), .unset, .unset, .unset, .unset, .unset, .unset, .unset, .unset, .unset, .unset, .unset, .unset, .unset, .unset, .unset, .unset, .unset] [(.int A1)])) _
    refine XS.istore X0.here hx rfl (hb hby at_16) rfl (l' := #[.val (.int p1), .val (.int p2), .val (.int p3), .val (.int p4), .val (.int p5), .val (.long q6), .second, .val (.int N), .val (.int A1), .unset, .unset, .unset, .unset, .unset, .unset, .unset, .unset, .unset, .unset, .unset, .unset, .unset, .unset, .unset, .unset]) rfl ?_
    show Steps p.tables e below (s₁.setTop (mkF m 18 #[.val (.int p1), .val (.int p2), .val (.int p3), .val (.int p4), .val (.int p5), .val (.long q6), .second, .val (.int N), .val (.int A1), .unset, .unset, .unset, .unset, .unset, .unset, .unset, .unset, .unset, .unset, .unset, .unset, .unset, .unset, .unset, .unset] [])) _
    refine XS.iloadN X0.here hx rfl (hb hby at_18) rfl ?_
    show Steps p.tables e below (s₁.setTop (mkF m 19 #[.val (.int p1), .val (.int p2), .val (.int p3), .val (.int p4), .val (.int p5), .val (.long q6), .second, .val (.int N), .val (.int A1), .unset, .unset, .unset, .unset, .unset, .unset, .unset, .unset, .unset, .unset, .unset, .unset, .unset, .unset, .unset, .unset] [(.int p3)])) _
    refine X0.ldcInt hx hown (mvT hZ (hw _ (List.mem_of_getElem? (i := 0) rfl))) (g := (mkF m 19 #[.val (.int p1), .val (.int p2), .val (.int p3), .val (.int p4), .val (.int p5), .val (.long q6), .second, .val (.int N), .val (.int A1), .unset, .unset, .unset, .unset, .unset, .unset, .unset, .unset, .unset, .unset, .unset, .unset, .unset, .unset, .unset, .unset] [(.int p3)])) rfl (hb hby at_19) _ ?_
    show Steps p.tables e below (s₁.setTop (mkF m 21 #[.val (.int p1), .val (.int p2), .val (.int p3), .val (.int p4), .val (.int p5), .val (.long q6), .second, .val (.int N), .val (.int A1), .unset, .unset, .unset, .unset, .unset, .unset, .unset, .unset, .unset, .unset, .unset, .unset, .unset, .unset, .unset, .unset] [(.int (2147483647 : Int32)), (.int p3)])) _
    refine XS.iand X0.here hx rfl (hb hby at_21) rfl ?_
    show Steps p.tables e below (s₁.setTop (mkF m 22 #[.val (.int p1), .val (.int p2), .val (.int p3), .val (.int p4), .val (.int p5), .val (.long q6), .second, .val (.int N), .val (.int A1), .unset, .unset, .unset, .unset, .unset, .unset, .unset, .unset, .unset, .unset, .unset, .unset, .unset, .unset, .unset, .unset] [(.int (p3 &&& (2147483647 : Int32)))])) _
    refine XS.iload X0.here hx rfl (hb hby at_22) rfl ?_
    show Steps p.tables e below (s₁.setTop (mkF m 24 #[.val (.int p1), .val (.int p2), .val (.int p3), .val (.int p4), .val (.int p5), .val (.long q6), .second, .val (.int N), .val (.int A1), .unset, .unset, .unset, .unset, .unset, .unset, .unset, .unset, .unset, .unset, .unset, .unset, .unset, .unset, .unset, .unset] [(.int N), (.int (p3 &&& (2147483647 : Int32)))])) _
    refine iremM X0 hx rfl (hb hby at_24) rfl (own_N0 hN) ?_
    show Steps p.tables e below (s₁.setTop (mkF m 25 #[.val (.int p1), .val (.int p2), .val (.int p3), .val (.int p4), .val (.int p5), .val (.long q6), .second, .val (.int N), .val (.int A1), .unset, .unset, .unset, .unset, .unset, .unset, .unset, .unset, .unset, .unset, .unset, .unset, .unset, .unset, .unset, .unset] [(.int ((p3 &&& (2147483647 : Int32)) % N))])) _
    rw [← hB1]
    show Steps p.tables e below (s₁.setTop (mkF m 25 #[.val (.int p1), .val (.int p2), .val (.int p3), .val (.int p4), .val (.int p5), .val (.long q6), .second, .val (.int N), .val (.int A1), .unset, .unset, .unset, .unset, .unset, .unset, .unset, .unset, .unset, .unset, .unset, .unset, .unset, .unset, .unset, .unset] [(.int B1)])) _
    refine XS.istore X0.here hx rfl (hb hby at_25) rfl (l' := #[.val (.int p1), .val (.int p2), .val (.int p3), .val (.int p4), .val (.int p5), .val (.long q6), .second, .val (.int N), .val (.int A1), .val (.int B1), .unset, .unset, .unset, .unset, .unset, .unset, .unset, .unset, .unset, .unset, .unset, .unset, .unset, .unset, .unset]) rfl ?_
    show Steps p.tables e below (s₁.setTop (mkF m 27 #[.val (.int p1), .val (.int p2), .val (.int p3), .val (.int p4), .val (.int p5), .val (.long q6), .second, .val (.int N), .val (.int A1), .val (.int B1), .unset, .unset, .unset, .unset, .unset, .unset, .unset, .unset, .unset, .unset, .unset, .unset, .unset, .unset, .unset] [])) _
    refine XS.iloadN X0.here hx rfl (hb hby at_27) rfl ?_
    show Steps p.tables e below (s₁.setTop (mkF m 28 #[.val (.int p1), .val (.int p2), .val (.int p3), .val (.int p4), .val (.int p5), .val (.long q6), .second, .val (.int N), .val (.int A1), .val (.int B1), .unset, .unset, .unset, .unset, .unset, .unset, .unset, .unset, .unset, .unset, .unset, .unset, .unset, .unset, .unset] [(.int p4)])) _
    refine X0.ldcInt hx hown (mvT hZ (hw _ (List.mem_of_getElem? (i := 0) rfl))) (g := (mkF m 28 #[.val (.int p1), .val (.int p2), .val (.int p3), .val (.int p4), .val (.int p5), .val (.long q6), .second, .val (.int N), .val (.int A1), .val (.int B1), .unset, .unset, .unset, .unset, .unset, .unset, .unset, .unset, .unset, .unset, .unset, .unset, .unset, .unset, .unset] [(.int p4)])) rfl (hb hby at_28) _ ?_
    show Steps p.tables e below (s₁.setTop (mkF m 30 #[.val (.int p1), .val (.int p2), .val (.int p3), .val (.int p4), .val (.int p5), .val (.long q6), .second, .val (.int N), .val (.int A1), .val (.int B1), .unset, .unset, .unset, .unset, .unset, .unset, .unset, .unset, .unset, .unset, .unset, .unset, .unset, .unset, .unset] [(.int (2147483647 : Int32)), (.int p4)])) _
    refine XS.iand X0.here hx rfl (hb hby at_30) rfl ?_
    show Steps p.tables e below (s₁.setTop (mkF m 31 #[.val (.int p1), .val (.int p2), .val (.int p3), .val (.int p4), .val (.int p5), .val (.long q6), .second, .val (.int N), .val (.int A1), .val (.int B1), .unset, .unset, .unset, .unset, .unset, .unset, .unset, .unset, .unset, .unset, .unset, .unset, .unset, .unset, .unset] [(.int (p4 &&& (2147483647 : Int32)))])) _
    refine XS.iload X0.here hx rfl (hb hby at_31) rfl ?_
    show Steps p.tables e below (s₁.setTop (mkF m 33 #[.val (.int p1), .val (.int p2), .val (.int p3), .val (.int p4), .val (.int p5), .val (.long q6), .second, .val (.int N), .val (.int A1), .val (.int B1), .unset, .unset, .unset, .unset, .unset, .unset, .unset, .unset, .unset, .unset, .unset, .unset, .unset, .unset, .unset] [(.int N), (.int (p4 &&& (2147483647 : Int32)))])) _
    refine iremM X0 hx rfl (hb hby at_33) rfl (own_N0 hN) ?_
    show Steps p.tables e below (s₁.setTop (mkF m 34 #[.val (.int p1), .val (.int p2), .val (.int p3), .val (.int p4), .val (.int p5), .val (.long q6), .second, .val (.int N), .val (.int A1), .val (.int B1), .unset, .unset, .unset, .unset, .unset, .unset, .unset, .unset, .unset, .unset, .unset, .unset, .unset, .unset, .unset] [(.int ((p4 &&& (2147483647 : Int32)) % N))])) _
    rw [← hA2]
    show Steps p.tables e below (s₁.setTop (mkF m 34 #[.val (.int p1), .val (.int p2), .val (.int p3), .val (.int p4), .val (.int p5), .val (.long q6), .second, .val (.int N), .val (.int A1), .val (.int B1), .unset, .unset, .unset, .unset, .unset, .unset, .unset, .unset, .unset, .unset, .unset, .unset, .unset, .unset, .unset] [(.int A2)])) _
    refine XS.istore X0.here hx rfl (hb hby at_34) rfl (l' := #[.val (.int p1), .val (.int p2), .val (.int p3), .val (.int p4), .val (.int p5), .val (.long q6), .second, .val (.int N), .val (.int A1), .val (.int B1), .val (.int A2), .unset, .unset, .unset, .unset, .unset, .unset, .unset, .unset, .unset, .unset, .unset, .unset, .unset, .unset]) rfl ?_
    show Steps p.tables e below (s₁.setTop (mkF m 36 #[.val (.int p1), .val (.int p2), .val (.int p3), .val (.int p4), .val (.int p5), .val (.long q6), .second, .val (.int N), .val (.int A1), .val (.int B1), .val (.int A2), .unset, .unset, .unset, .unset, .unset, .unset, .unset, .unset, .unset, .unset, .unset, .unset, .unset, .unset] [])) _
    refine XS.iload X0.here hx rfl (hb hby at_36) rfl ?_
    show Steps p.tables e below (s₁.setTop (mkF m 38 #[.val (.int p1), .val (.int p2), .val (.int p3), .val (.int p4), .val (.int p5), .val (.long q6), .second, .val (.int N), .val (.int A1), .val (.int B1), .val (.int A2), .unset, .unset, .unset, .unset, .unset, .unset, .unset, .unset, .unset, .unset, .unset, .unset, .unset, .unset] [(.int p5)])) _
    refine X0.ldcInt hx hown (mvT hZ (hw _ (List.mem_of_getElem? (i := 0) rfl))) (g := (mkF m 38 #[.val (.int p1), .val (.int p2), .val (.int p3), .val (.int p4), .val (.int p5), .val (.long q6), .second, .val (.int N), .val (.int A1), .val (.int B1), .val (.int A2), .unset, .unset, .unset, .unset, .unset, .unset, .unset, .unset, .unset, .unset, .unset, .unset, .unset, .unset] [(.int p5)])) rfl (hb hby at_38) _ ?_
    show Steps p.tables e below (s₁.setTop (mkF m 40 #[.val (.int p1), .val (.int p2), .val (.int p3), .val (.int p4), .val (.int p5), .val (.long q6), .second, .val (.int N), .val (.int A1), .val (.int B1), .val (.int A2), .unset, .unset, .unset, .unset, .unset, .unset, .unset, .unset, .unset, .unset, .unset, .unset, .unset, .unset] [(.int (2147483647 : Int32)), (.int p5)])) _
    refine XS.iand X0.here hx rfl (hb hby at_40) rfl ?_
    show Steps p.tables e below (s₁.setTop (mkF m 41 #[.val (.int p1), .val (.int p2), .val (.int p3), .val (.int p4), .val (.int p5), .val (.long q6), .second, .val (.int N), .val (.int A1), .val (.int B1), .val (.int A2), .unset, .unset, .unset, .unset, .unset, .unset, .unset, .unset, .unset, .unset, .unset, .unset, .unset, .unset] [(.int (p5 &&& (2147483647 : Int32)))])) _
    refine XS.iload X0.here hx rfl (hb hby at_41) rfl ?_
    show Steps p.tables e below (s₁.setTop (mkF m 43 #[.val (.int p1), .val (.int p2), .val (.int p3), .val (.int p4), .val (.int p5), .val (.long q6), .second, .val (.int N), .val (.int A1), .val (.int B1), .val (.int A2), .unset, .unset, .unset, .unset, .unset, .unset, .unset, .unset, .unset, .unset, .unset, .unset, .unset, .unset] [(.int N), (.int (p5 &&& (2147483647 : Int32)))])) _
    refine iremM X0 hx rfl (hb hby at_43) rfl (own_N0 hN) ?_
    show Steps p.tables e below (s₁.setTop (mkF m 44 #[.val (.int p1), .val (.int p2), .val (.int p3), .val (.int p4), .val (.int p5), .val (.long q6), .second, .val (.int N), .val (.int A1), .val (.int B1), .val (.int A2), .unset, .unset, .unset, .unset, .unset, .unset, .unset, .unset, .unset, .unset, .unset, .unset, .unset, .unset] [(.int ((p5 &&& (2147483647 : Int32)) % N))])) _
    rw [← hB2]
    show Steps p.tables e below (s₁.setTop (mkF m 44 #[.val (.int p1), .val (.int p2), .val (.int p3), .val (.int p4), .val (.int p5), .val (.long q6), .second, .val (.int N), .val (.int A1), .val (.int B1), .val (.int A2), .unset, .unset, .unset, .unset, .unset, .unset, .unset, .unset, .unset, .unset, .unset, .unset, .unset, .unset] [(.int B2)])) _
    refine XS.istore X0.here hx rfl (hb hby at_44) rfl (l' := #[.val (.int p1), .val (.int p2), .val (.int p3), .val (.int p4), .val (.int p5), .val (.long q6), .second, .val (.int N), .val (.int A1), .val (.int B1), .val (.int A2), .val (.int B2), .unset, .unset, .unset, .unset, .unset, .unset, .unset, .unset, .unset, .unset, .unset, .unset, .unset]) rfl ?_
    show Steps p.tables e below (s₁.setTop (mkF m 46 #[.val (.int p1), .val (.int p2), .val (.int p3), .val (.int p4), .val (.int p5), .val (.long q6), .second, .val (.int N), .val (.int A1), .val (.int B1), .val (.int A2), .val (.int B2), .unset, .unset, .unset, .unset, .unset, .unset, .unset, .unset, .unset, .unset, .unset, .unset, .unset] [])) _
    refine XS.lload X0.here hx rfl (hb hby at_46) rfl ?_
    show Steps p.tables e below (s₁.setTop (mkF m 48 #[.val (.int p1), .val (.int p2), .val (.int p3), .val (.int p4), .val (.int p5), .val (.long q6), .second, .val (.int N), .val (.int A1), .val (.int B1), .val (.int A2), .val (.int B2), .unset, .unset, .unset, .unset, .unset, .unset, .unset, .unset, .unset, .unset, .unset, .unset, .unset] [(.long q6)])) _
    refine X0.ldc2Long hx hown (mvT hZ (hw _ (List.mem_of_getElem? (i := 1) rfl))) (g := (mkF m 48 #[.val (.int p1), .val (.int p2), .val (.int p3), .val (.int p4), .val (.int p5), .val (.long q6), .second, .val (.int N), .val (.int A1), .val (.int B1), .val (.int A2), .val (.int B2), .unset, .unset, .unset, .unset, .unset, .unset, .unset, .unset, .unset, .unset, .unset, .unset, .unset] [(.long q6)])) rfl (hb hby at_48) _ ?_
    show Steps p.tables e below (s₁.setTop (mkF m 51 #[.val (.int p1), .val (.int p2), .val (.int p3), .val (.int p4), .val (.int p5), .val (.long q6), .second, .val (.int N), .val (.int A1), .val (.int B1), .val (.int A2), .val (.int B2), .unset, .unset, .unset, .unset, .unset, .unset, .unset, .unset, .unset, .unset, .unset, .unset, .unset] [(.long (15 : Int64)), (.long q6)])) _
    refine XS.land X0.here hx rfl (hb hby at_51) rfl ?_
    show Steps p.tables e below (s₁.setTop (mkF m 52 #[.val (.int p1), .val (.int p2), .val (.int p3), .val (.int p4), .val (.int p5), .val (.long q6), .second, .val (.int N), .val (.int A1), .val (.int B1), .val (.int A2), .val (.int B2), .unset, .unset, .unset, .unset, .unset, .unset, .unset, .unset, .unset, .unset, .unset, .unset, .unset] [(.long (q6 &&& (15 : Int64)))])) _
    refine XS.l2i X0.here hx rfl (hb hby at_52) rfl ?_
    show Steps p.tables e below (s₁.setTop (mkF m 53 #[.val (.int p1), .val (.int p2), .val (.int p3), .val (.int p4), .val (.int p5), .val (.long q6), .second, .val (.int N), .val (.int A1), .val (.int B1), .val (.int A2), .val (.int B2), .unset, .unset, .unset, .unset, .unset, .unset, .unset, .unset, .unset, .unset, .unset, .unset, .unset] [(.int ((q6 &&& (15 : Int64)).toInt32))])) _
    rw [← hM]
    show Steps p.tables e below (s₁.setTop (mkF m 53 #[.val (.int p1), .val (.int p2), .val (.int p3), .val (.int p4), .val (.int p5), .val (.long q6), .second, .val (.int N), .val (.int A1), .val (.int B1), .val (.int A2), .val (.int B2), .unset, .unset, .unset, .unset, .unset, .unset, .unset, .unset, .unset, .unset, .unset, .unset, .unset] [(.int M)])) _
    refine XS.istore X0.here hx rfl (hb hby at_53) rfl (l' := #[.val (.int p1), .val (.int p2), .val (.int p3), .val (.int p4), .val (.int p5), .val (.long q6), .second, .val (.int N), .val (.int A1), .val (.int B1), .val (.int A2), .val (.int B2), .val (.int M), .unset, .unset, .unset, .unset, .unset, .unset, .unset, .unset, .unset, .unset, .unset, .unset]) rfl ?_
    show Steps p.tables e below (s₁.setTop (mkF m 55 #[.val (.int p1), .val (.int p2), .val (.int p3), .val (.int p4), .val (.int p5), .val (.long q6), .second, .val (.int N), .val (.int A1), .val (.int B1), .val (.int A2), .val (.int B2), .val (.int M), .unset, .unset, .unset, .unset, .unset, .unset, .unset, .unset, .unset, .unset, .unset, .unset] [])) _
    refine XS.iload X0.here hx rfl (hb hby at_55) rfl ?_
    show Steps p.tables e below (s₁.setTop (mkF m 57 #[.val (.int p1), .val (.int p2), .val (.int p3), .val (.int p4), .val (.int p5), .val (.long q6), .second, .val (.int N), .val (.int A1), .val (.int B1), .val (.int A2), .val (.int B2), .val (.int M), .unset, .unset, .unset, .unset, .unset, .unset, .unset, .unset, .unset, .unset, .unset, .unset] [(.int M)])) _
    refine XS.iconst X0.here hx rfl (hb hby at_57) ?_
    show Steps p.tables e below (s₁.setTop (mkF m 58 #[.val (.int p1), .val (.int p2), .val (.int p3), .val (.int p4), .val (.int p5), .val (.long q6), .second, .val (.int N), .val (.int A1), .val (.int B1), .val (.int A2), .val (.int B2), .val (.int M), .unset, .unset, .unset, .unset, .unset, .unset, .unset, .unset, .unset, .unset, .unset, .unset] [(.int (1 : Int32)), (.int M)])) _
    refine XS.iand X0.here hx rfl (hb hby at_58) rfl ?_
    show Steps p.tables e below (s₁.setTop (mkF m 59 #[.val (.int p1), .val (.int p2), .val (.int p3), .val (.int p4), .val (.int p5), .val (.long q6), .second, .val (.int N), .val (.int A1), .val (.int B1), .val (.int A2), .val (.int B2), .val (.int M), .unset, .unset, .unset, .unset, .unset, .unset, .unset, .unset, .unset, .unset, .unset, .unset] [(.int (M &&& (1 : Int32)))])) _
    by_cases hc1 : (M &&& (1 : Int32)) = (0 : Int32)
    · refine XS.ifYes X0.here hx rfl (pc0 := 59) (pc' := 66) rfl (hb hby at_59) rfl ((if0 _ _).trans (teq hc1).1) (by decide) (by decide) ?_
      show Steps p.tables e below (s₁.setTop (mkF m 66 #[.val (.int p1), .val (.int p2), .val (.int p3), .val (.int p4), .val (.int p5), .val (.long q6), .second, .val (.int N), .val (.int A1), .val (.int B1), .val (.int A2), .val (.int B2), .val (.int M), .unset, .unset, .unset, .unset, .unset, .unset, .unset, .unset, .unset, .unset, .unset, .unset] [])) _
      refine XS.iconst X0.here hx rfl (hb hby at_66) ?_
      rw [show v2 = (0 : Int32) from hv2.trans (if_pos hc1)] at k
      exact k
    · refine XS.ifNo X0.here hx rfl (hb hby at_59) rfl ((if0 _ _).trans (feq hc1).1) ?_
      show Steps p.tables e below (s₁.setTop (mkF m 62 #[.val (.int p1), .val (.int p2), .val (.int p3), .val (.int p4), .val (.int p5), .val (.long q6), .second, .val (.int N), .val (.int A1), .val (.int B1), .val (.int A2), .val (.int B2), .val (.int M), .unset, .unset, .unset, .unset, .unset, .unset, .unset, .unset, .unset, .unset, .unset, .unset] [])) _
      refine XS.iconst X0.here hx rfl (hb hby at_62) ?_
      show Steps p.tables e below (s₁.setTop (mkF m 63 #[.val (.int p1), .val (.int p2), .val (.int p3), .val (.int p4), .val (.int p5), .val (.long q6), .second, .val (.int N), .val (.int A1), .val (.int B1), .val (.int A2), .val (.int B2), .val (.int M), .unset, .unset, .unset, .unset, .unset, .unset, .unset, .unset, .unset, .unset, .unset, .unset] [(.int (1 : Int32))])) _
      refine XS.goto X0.here hx rfl (pc0 := 63) (pc' := 67) rfl (hb hby at_63) (by decide) (by decide) ?_
      rw [show v2 = (1 : Int32) from hv2.trans (if_neg hc1)] at k
      exact k)
  obtain ⟨v5, hv5⟩ : ∃ z : Int32, z = (if (M &&& (2 : Int32)) = (0 : Int32) then (0 : Int32) else (1 : Int32)) := ⟨_, rfl⟩
  have pre6 : ∀ t, Steps p.tables e below (s₁.setTop (mkF m 81 #[.val (.int p1), .val (.int p2), .val (.int p3), .val (.int p4), .val (.int p5), .val (.long q6), .second, .val (.int N), .val (.int A1), .val (.int B1), .val (.int A2), .val (.int B2), .val (.int M), .val (.int v2), .unset, .unset, .unset, .unset, .unset, .unset, .unset, .unset, .unset, .unset, .unset] [(.int v5)])) t → Steps p.tables e below (s₁.setTop (entryFrame m #[(.int p1), (.int p2), (.int p3), (.int p4), (.int p5), (.long q6)] maxLocals)) t := fun t k => pre3 t (by
    show Steps p.tables e below (s₁.setTop (mkF m 67 #[.val (.int p1), .val (.int p2), .val (.int p3), .val (.int p4), .val (.int p5), .val (.long q6), .second, .val (.int N), .val (.int A1), .val (.int B1), .val (.int A2), .val (.int B2), .val (.int M), .unset, .unset, .unset, .unset, .unset, .unset, .unset, .unset, .unset, .unset, .unset, .unset] [(.int v2)])) _
    refine XS.istore X0.here hx rfl (hb hby at_67) rfl (l' := #[.val (.int p1), .val (.int p2), .val (.int p3), .val (.int p4), .val (.int p5), .val (.long q6), .second, .val (.int N), .val (.int A1), .val (.int B1), .val (.int A2), .val (.int B2), .val (.int M), .val (.int v2), .unset, .unset, .unset, .unset, .unset, .unset, .unset, .unset, .unset, .unset, .unset]) rfl ?_
    show Steps p.tables e below (s₁.setTop (mkF m 69 #[.val (.int p1), .val (.int p2), .val (.int p3), .val (.int p4), .val (.int p5), .val (.long q6), .second, .val (.int N), .val (.int A1), .val (.int B1), .val (.int A2), .val (.int B2), .val (.int M), .val (.int v2), .unset, .unset, .unset, .unset, .unset, .unset, .unset, .unset, .unset, .unset, .unset] [])) _
    refine XS.iload X0.here hx rfl (hb hby at_69) rfl ?_
    show Steps p.tables e below (s₁.setTop (mkF m 71 #[.val (.int p1), .val (.int p2), .val (.int p3), .val (.int p4), .val (.int p5), .val (.long q6), .second, .val (.int N), .val (.int A1), .val (.int B1), .val (.int A2), .val (.int B2), .val (.int M), .val (.int v2), .unset, .unset, .unset, .unset, .unset, .unset, .unset, .unset, .unset, .unset, .unset] [(.int M)])) _
    refine XS.iconst X0.here hx rfl (hb hby at_71) ?_
    show Steps p.tables e below (s₁.setTop (mkF m 72 #[.val (.int p1), .val (.int p2), .val (.int p3), .val (.int p4), .val (.int p5), .val (.long q6), .second, .val (.int N), .val (.int A1), .val (.int B1), .val (.int A2), .val (.int B2), .val (.int M), .val (.int v2), .unset, .unset, .unset, .unset, .unset, .unset, .unset, .unset, .unset, .unset, .unset] [(.int (2 : Int32)), (.int M)])) _
    refine XS.iand X0.here hx rfl (hb hby at_72) rfl ?_
    show Steps p.tables e below (s₁.setTop (mkF m 73 #[.val (.int p1), .val (.int p2), .val (.int p3), .val (.int p4), .val (.int p5), .val (.long q6), .second, .val (.int N), .val (.int A1), .val (.int B1), .val (.int A2), .val (.int B2), .val (.int M), .val (.int v2), .unset, .unset, .unset, .unset, .unset, .unset, .unset, .unset, .unset, .unset, .unset] [(.int (M &&& (2 : Int32)))])) _
    by_cases hc4 : (M &&& (2 : Int32)) = (0 : Int32)
    · refine XS.ifYes X0.here hx rfl (pc0 := 73) (pc' := 80) rfl (hb hby at_73) rfl ((if0 _ _).trans (teq hc4).1) (by decide) (by decide) ?_
      show Steps p.tables e below (s₁.setTop (mkF m 80 #[.val (.int p1), .val (.int p2), .val (.int p3), .val (.int p4), .val (.int p5), .val (.long q6), .second, .val (.int N), .val (.int A1), .val (.int B1), .val (.int A2), .val (.int B2), .val (.int M), .val (.int v2), .unset, .unset, .unset, .unset, .unset, .unset, .unset, .unset, .unset, .unset, .unset] [])) _
      refine XS.iconst X0.here hx rfl (hb hby at_80) ?_
      rw [show v5 = (0 : Int32) from hv5.trans (if_pos hc4)] at k
      exact k
    · refine XS.ifNo X0.here hx rfl (hb hby at_73) rfl ((if0 _ _).trans (feq hc4).1) ?_
      show Steps p.tables e below (s₁.setTop (mkF m 76 #[.val (.int p1), .val (.int p2), .val (.int p3), .val (.int p4), .val (.int p5), .val (.long q6), .second, .val (.int N), .val (.int A1), .val (.int B1), .val (.int A2), .val (.int B2), .val (.int M), .val (.int v2), .unset, .unset, .unset, .unset, .unset, .unset, .unset, .unset, .unset, .unset, .unset] [])) _
      refine XS.iconst X0.here hx rfl (hb hby at_76) ?_
      show Steps p.tables e below (s₁.setTop (mkF m 77 #[.val (.int p1), .val (.int p2), .val (.int p3), .val (.int p4), .val (.int p5), .val (.long q6), .second, .val (.int N), .val (.int A1), .val (.int B1), .val (.int A2), .val (.int B2), .val (.int M), .val (.int v2), .unset, .unset, .unset, .unset, .unset, .unset, .unset, .unset, .unset, .unset, .unset] [(.int (1 : Int32))])) _
      refine XS.goto X0.here hx rfl (pc0 := 77) (pc' := 81) rfl (hb hby at_77) (by decide) (by decide) ?_
      rw [show v5 = (1 : Int32) from hv5.trans (if_neg hc4)] at k
      exact k)
  obtain ⟨SF, hSF⟩ : ∃ z : Int32, z = ((((q6.toUInt64 >>> ((4 : Int32) &&& 0x3f).toInt64.toUInt64).toInt64) &&& (3 : Int64)).toInt32) := ⟨_, rfl⟩
  obtain ⟨STt, hSTt⟩ : ∃ z : Int32, z = ((((q6.toUInt64 >>> ((6 : Int32) &&& 0x3f).toInt64.toUInt64).toInt64) &&& (3 : Int64)).toInt32) := ⟨_, rfl⟩
  obtain ⟨FF, hFF⟩ : ∃ z : Int32, z = (((((q6.toUInt64 >>> ((8 : Int32) &&& 0x3f).toInt64.toUInt64).toInt64) &&& (2147483647 : Int64)).toInt32) % N) := ⟨_, rfl⟩
  obtain ⟨FT, hFT⟩ : ∃ z : Int32, z = (((((q6.toUInt64 >>> ((40 : Int32) &&& 0x3f).toInt64.toUInt64).toInt64) &&& (16777215 : Int64)).toInt32) % N) := ⟨_, rfl⟩
  obtain ⟨v9, hv9⟩ : ∃ z : Int32, z = (if SF = (0 : Int32) then A1 else (if SF = (1 : Int32) then A2 else FF)) := ⟨_, rfl⟩
  have pre10 : ∀ t, Steps p.tables e below (s₁.setTop (mkF m 159 #[.val (.int p1), .val (.int p2), .val (.int p3), .val (.int p4), .val (.int p5), .val (.long q6), .second, .val (.int N), .val (.int A1), .val (.int B1), .val (.int A2), .val (.int B2), .val (.int M), .val (.int v2), .val (.int v5), .val (.int SF), .val (.int STt), .val (.int FF), .val (.int FT), .unset, .unset, .unset, .unset, .unset, .unset] [(.int v9)])) t → Steps p.tables e below (s₁.setTop (entryFrame m #[(.int p1), (.int p2), (.int p3), (.int p4), (.int p5), (.long q6)] maxLocals)) t := fun t k => pre6 t (by
    show Steps p.tables e below (s₁.setTop (mkF m 81 #[.val (.int p1), .val (.int p2), .val (.int p3), .val (.int p4), .val (.int p5), .val (.long q6), .second, .val (.int N), .val (.int A1), .val (.int B1), .val (.int A2), .val (.int B2), .val (.int M), .val (.int v2), .unset, .unset, .unset, .unset, .unset, .unset, .unset, .unset, .unset, .unset, .unset] [(.int v5)])) _
    refine XS.istore X0.here hx rfl (hb hby at_81) rfl (l' := #[.val (.int p1), .val (.int p2), .val (.int p3), .val (.int p4), .val (.int p5), .val (.long q6), .second, .val (.int N), .val (.int A1), .val (.int B1), .val (.int A2), .val (.int B2), .val (.int M), .val (.int v2), .val (.int v5), .unset, .unset, .unset, .unset, .unset, .unset, .unset, .unset, .unset, .unset]) rfl ?_
    show Steps p.tables e below (s₁.setTop (mkF m 83 #[.val (.int p1), .val (.int p2), .val (.int p3), .val (.int p4), .val (.int p5), .val (.long q6), .second, .val (.int N), .val (.int A1), .val (.int B1), .val (.int A2), .val (.int B2), .val (.int M), .val (.int v2), .val (.int v5), .unset, .unset, .unset, .unset, .unset, .unset, .unset, .unset, .unset, .unset] [])) _
    refine XS.lload X0.here hx rfl (hb hby at_83) rfl ?_
    show Steps p.tables e below (s₁.setTop (mkF m 85 #[.val (.int p1), .val (.int p2), .val (.int p3), .val (.int p4), .val (.int p5), .val (.long q6), .second, .val (.int N), .val (.int A1), .val (.int B1), .val (.int A2), .val (.int B2), .val (.int M), .val (.int v2), .val (.int v5), .unset, .unset, .unset, .unset, .unset, .unset, .unset, .unset, .unset, .unset] [(.long q6)])) _
    refine XS.iconst X0.here hx rfl (hb hby at_85) ?_
    show Steps p.tables e below (s₁.setTop (mkF m 86 #[.val (.int p1), .val (.int p2), .val (.int p3), .val (.int p4), .val (.int p5), .val (.long q6), .second, .val (.int N), .val (.int A1), .val (.int B1), .val (.int A2), .val (.int B2), .val (.int M), .val (.int v2), .val (.int v5), .unset, .unset, .unset, .unset, .unset, .unset, .unset, .unset, .unset, .unset] [(.int (4 : Int32)), (.long q6)])) _
    refine XS.lushr X0.here hx rfl (hb hby at_86) rfl ?_
    show Steps p.tables e below (s₁.setTop (mkF m 87 #[.val (.int p1), .val (.int p2), .val (.int p3), .val (.int p4), .val (.int p5), .val (.long q6), .second, .val (.int N), .val (.int A1), .val (.int B1), .val (.int A2), .val (.int B2), .val (.int M), .val (.int v2), .val (.int v5), .unset, .unset, .unset, .unset, .unset, .unset, .unset, .unset, .unset, .unset] [(.long ((q6.toUInt64 >>> ((4 : Int32) &&& 0x3f).toInt64.toUInt64).toInt64))])) _
    refine X0.ldc2Long hx hown (mvT hZ (hw _ (List.mem_of_getElem? (i := 2) rfl))) (g := (mkF m 87 #[.val (.int p1), .val (.int p2), .val (.int p3), .val (.int p4), .val (.int p5), .val (.long q6), .second, .val (.int N), .val (.int A1), .val (.int B1), .val (.int A2), .val (.int B2), .val (.int M), .val (.int v2), .val (.int v5), .unset, .unset, .unset, .unset, .unset, .unset, .unset, .unset, .unset, .unset] [(.long ((q6.toUInt64 >>> ((4 : Int32) &&& 0x3f).toInt64.toUInt64).toInt64))])) rfl (hb hby at_87) _ ?_
    show Steps p.tables e below (s₁.setTop (mkF m 90 #[.val (.int p1), .val (.int p2), .val (.int p3), .val (.int p4), .val (.int p5), .val (.long q6), .second, .val (.int N), .val (.int A1), .val (.int B1), .val (.int A2), .val (.int B2), .val (.int M), .val (.int v2), .val (.int v5), .unset, .unset, .unset, .unset, .unset, .unset, .unset, .unset, .unset, .unset] [(.long (3 : Int64)), (.long ((q6.toUInt64 >>> ((4 : Int32) &&& 0x3f).toInt64.toUInt64).toInt64))])) _
    refine XS.land X0.here hx rfl (hb hby at_90) rfl ?_
    show Steps p.tables e below (s₁.setTop (mkF m 91 #[.val (.int p1), .val (.int p2), .val (.int p3), .val (.int p4), .val (.int p5), .val (.long q6), .second, .val (.int N), .val (.int A1), .val (.int B1), .val (.int A2), .val (.int B2), .val (.int M), .val (.int v2), .val (.int v5), .unset, .unset, .unset, .unset, .unset, .unset, .unset, .unset, .unset, .unset] [(.long (((q6.toUInt64 >>> ((4 : Int32) &&& 0x3f).toInt64.toUInt64).toInt64) &&& (3 : Int64)))])) _
    refine XS.l2i X0.here hx rfl (hb hby at_91) rfl ?_
    show Steps p.tables e below (s₁.setTop (mkF m 92 #[.val (.int p1), .val (.int p2), .val (.int p3), .val (.int p4), .val (.int p5), .val (.long q6), .second, .val (.int N), .val (.int A1), .val (.int B1), .val (.int A2), .val (.int B2), .val (.int M), .val (.int v2), .val (.int v5), .unset, .unset, .unset, .unset, .unset, .unset, .unset, .unset, .unset, .unset] [(.int ((((q6.toUInt64 >>> ((4 : Int32) &&& 0x3f).toInt64.toUInt64).toInt64) &&& (3 : Int64)).toInt32))])) _
    rw [← hSF]
    show Steps p.tables e below (s₁.setTop (mkF m 92 #[.val (.int p1), .val (.int p2), .val (.int p3), .val (.int p4), .val (.int p5), .val (.long q6), .second, .val (.int N), .val (.int A1), .val (.int B1), .val (.int A2), .val (.int B2), .val (.int M), .val (.int v2), .val (.int v5), .unset, .unset, .unset, .unset, .unset, .unset, .unset, .unset, .unset, .unset] [(.int SF)])) _
    refine XS.istore X0.here hx rfl (hb hby at_92) rfl (l' := #[.val (.int p1), .val (.int p2), .val (.int p3), .val (.int p4), .val (.int p5), .val (.long q6), .second, .val (.int N), .val (.int A1), .val (.int B1), .val (.int A2), .val (.int B2), .val (.int M), .val (.int v2), .val (.int v5), .val (.int SF), .unset, .unset, .unset, .unset, .unset, .unset, .unset, .unset, .unset]) rfl ?_
    show Steps p.tables e below (s₁.setTop (mkF m 94 #[.val (.int p1), .val (.int p2), .val (.int p3), .val (.int p4), .val (.int p5), .val (.long q6), .second, .val (.int N), .val (.int A1), .val (.int B1), .val (.int A2), .val (.int B2), .val (.int M), .val (.int v2), .val (.int v5), .val (.int SF), .unset, .unset, .unset, .unset, .unset, .unset, .unset, .unset, .unset] [])) _
    refine XS.lload X0.here hx rfl (hb hby at_94) rfl ?_
    show Steps p.tables e below (s₁.setTop (mkF m 96 #[.val (.int p1), .val (.int p2), .val (.int p3), .val (.int p4), .val (.int p5), .val (.long q6), .second, .val (.int N), .val (.int A1), .val (.int B1), .val (.int A2), .val (.int B2), .val (.int M), .val (.int v2), .val (.int v5), .val (.int SF), .unset, .unset, .unset, .unset, .unset, .unset, .unset, .unset, .unset] [(.long q6)])) _
    refine XS.bipush X0.here hx rfl (hb hby at_96) ?_
    show Steps p.tables e below (s₁.setTop (mkF m 98 #[.val (.int p1), .val (.int p2), .val (.int p3), .val (.int p4), .val (.int p5), .val (.long q6), .second, .val (.int N), .val (.int A1), .val (.int B1), .val (.int A2), .val (.int B2), .val (.int M), .val (.int v2), .val (.int v5), .val (.int SF), .unset, .unset, .unset, .unset, .unset, .unset, .unset, .unset, .unset] [(.int (6 : Int32)), (.long q6)])) _
    refine XS.lushr X0.here hx rfl (hb hby at_98) rfl ?_
    show Steps p.tables e below (s₁.setTop (mkF m 99 #[.val (.int p1), .val (.int p2), .val (.int p3), .val (.int p4), .val (.int p5), .val (.long q6), .second, .val (.int N), .val (.int A1), .val (.int B1), .val (.int A2), .val (.int B2), .val (.int M), .val (.int v2), .val (.int v5), .val (.int SF), .unset, .unset, .unset, .unset, .unset, .unset, .unset, .unset, .unset] [(.long ((q6.toUInt64 >>> ((6 : Int32) &&& 0x3f).toInt64.toUInt64).toInt64))])) _
    refine X0.ldc2Long hx hown (mvT hZ (hw _ (List.mem_of_getElem? (i := 2) rfl))) (g := (mkF m 99 #[.val (.int p1), .val (.int p2), .val (.int p3), .val (.int p4), .val (.int p5), .val (.long q6), .second, .val (.int N), .val (.int A1), .val (.int B1), .val (.int A2), .val (.int B2), .val (.int M), .val (.int v2), .val (.int v5), .val (.int SF), .unset, .unset, .unset, .unset, .unset, .unset, .unset, .unset, .unset] [(.long ((q6.toUInt64 >>> ((6 : Int32) &&& 0x3f).toInt64.toUInt64).toInt64))])) rfl (hb hby at_99) _ ?_
    show Steps p.tables e below (s₁.setTop (mkF m 102 #[.val (.int p1), .val (.int p2), .val (.int p3), .val (.int p4), .val (.int p5), .val (.long q6), .second, .val (.int N), .val (.int A1), .val (.int B1), .val (.int A2), .val (.int B2), .val (.int M), .val (.int v2), .val (.int v5), .val (.int SF), .unset, .unset, .unset, .unset, .unset, .unset, .unset, .unset, .unset] [(.long (3 : Int64)), (.long ((q6.toUInt64 >>> ((6 : Int32) &&& 0x3f).toInt64.toUInt64).toInt64))])) _
    refine XS.land X0.here hx rfl (hb hby at_102) rfl ?_
    show Steps p.tables e below (s₁.setTop (mkF m 103 #[.val (.int p1), .val (.int p2), .val (.int p3), .val (.int p4), .val (.int p5), .val (.long q6), .second, .val (.int N), .val (.int A1), .val (.int B1), .val (.int A2), .val (.int B2), .val (.int M), .val (.int v2), .val (.int v5), .val (.int SF), .unset, .unset, .unset, .unset, .unset, .unset, .unset, .unset, .unset] [(.long (((q6.toUInt64 >>> ((6 : Int32) &&& 0x3f).toInt64.toUInt64).toInt64) &&& (3 : Int64)))])) _
    refine XS.l2i X0.here hx rfl (hb hby at_103) rfl ?_
    show Steps p.tables e below (s₁.setTop (mkF m 104 #[.val (.int p1), .val (.int p2), .val (.int p3), .val (.int p4), .val (.int p5), .val (.long q6), .second, .val (.int N), .val (.int A1), .val (.int B1), .val (.int A2), .val (.int B2), .val (.int M), .val (.int v2), .val (.int v5), .val (.int SF), .unset, .unset, .unset, .unset, .unset, .unset, .unset, .unset, .unset] [(.int ((((q6.toUInt64 >>> ((6 : Int32) &&& 0x3f).toInt64.toUInt64).toInt64) &&& (3 : Int64)).toInt32))])) _
    rw [← hSTt]
    show Steps p.tables e below (s₁.setTop (mkF m 104 #[.val (.int p1), .val (.int p2), .val (.int p3), .val (.int p4), .val (.int p5), .val (.long q6), .second, .val (.int N), .val (.int A1), .val (.int B1), .val (.int A2), .val (.int B2), .val (.int M), .val (.int v2), .val (.int v5), .val (.int SF), .unset, .unset, .unset, .unset, .unset, .unset, .unset, .unset, .unset] [(.int STt)])) _
    refine XS.istore X0.here hx rfl (hb hby at_104) rfl (l' := #[.val (.int p1), .val (.int p2), .val (.int p3), .val (.int p4), .val (.int p5), .val (.long q6), .second, .val (.int N), .val (.int A1), .val (.int B1), .val (.int A2), .val (.int B2), .val (.int M), .val (.int v2), .val (.int v5), .val (.int SF), .val (.int STt), .unset, .unset, .unset, .unset, .unset, .unset, .unset, .unset]) rfl ?_
    show Steps p.tables e below (s₁.setTop (mkF m 106 #[.val (.int p1), .val (.int p2), .val (.int p3), .val (.int p4), .val (.int p5), .val (.long q6), .second, .val (.int N), .val (.int A1), .val (.int B1), .val (.int A2), .val (.int B2), .val (.int M), .val (.int v2), .val (.int v5), .val (.int SF), .val (.int STt), .unset, .unset, .unset, .unset, .unset, .unset, .unset, .unset] [])) _
    refine XS.lload X0.here hx rfl (hb hby at_106) rfl ?_
    show Steps p.tables e below (s₁.setTop (mkF m 108 #[.val (.int p1), .val (.int p2), .val (.int p3), .val (.int p4), .val (.int p5), .val (.long q6), .second, .val (.int N), .val (.int A1), .val (.int B1), .val (.int A2), .val (.int B2), .val (.int M), .val (.int v2), .val (.int v5), .val (.int SF), .val (.int STt), .unset, .unset, .unset, .unset, .unset, .unset, .unset, .unset] [(.long q6)])) _
    refine XS.bipush X0.here hx rfl (hb hby at_108) ?_
    show Steps p.tables e below (s₁.setTop (mkF m 110 #[.val (.int p1), .val (.int p2), .val (.int p3), .val (.int p4), .val (.int p5), .val (.long q6), .second, .val (.int N), .val (.int A1), .val (.int B1), .val (.int A2), .val (.int B2), .val (.int M), .val (.int v2), .val (.int v5), .val (.int SF), .val (.int STt), .unset, .unset, .unset, .unset, .unset, .unset, .unset, .unset] [(.int (8 : Int32)), (.long q6)])) _
    refine XS.lushr X0.here hx rfl (hb hby at_110) rfl ?_
    show Steps p.tables e below (s₁.setTop (mkF m 111 #[.val (.int p1), .val (.int p2), .val (.int p3), .val (.int p4), .val (.int p5), .val (.long q6), .second, .val (.int N), .val (.int A1), .val (.int B1), .val (.int A2), .val (.int B2), .val (.int M), .val (.int v2), .val (.int v5), .val (.int SF), .val (.int STt), .unset, .unset, .unset, .unset, .unset, .unset, .unset, .unset] [(.long ((q6.toUInt64 >>> ((8 : Int32) &&& 0x3f).toInt64.toUInt64).toInt64))])) _
    refine X0.ldc2Long hx hown (mvT hZ (hw _ (List.mem_of_getElem? (i := 3) rfl))) (g := (mkF m 111 #[.val (.int p1), .val (.int p2), .val (.int p3), .val (.int p4), .val (.int p5), .val (.long q6), .second, .val (.int N), .val (.int A1), .val (.int B1), .val (.int A2), .val (.int B2), .val (.int M), .val (.int v2), .val (.int v5), .val (.int SF), .val (.int STt), .unset, .unset, .unset, .unset, .unset, .unset, .unset, .unset] [(.long ((q6.toUInt64 >>> ((8 : Int32) &&& 0x3f).toInt64.toUInt64).toInt64))])) rfl (hb hby at_111) _ ?_
    show Steps p.tables e below (s₁.setTop (mkF m 114 #[.val (.int p1), .val (.int p2), .val (.int p3), .val (.int p4), .val (.int p5), .val (.long q6), .second, .val (.int N), .val (.int A1), .val (.int B1), .val (.int A2), .val (.int B2), .val (.int M), .val (.int v2), .val (.int v5), .val (.int SF), .val (.int STt), .unset, .unset, .unset, .unset, .unset, .unset, .unset, .unset] [(.long (2147483647 : Int64)), (.long ((q6.toUInt64 >>> ((8 : Int32) &&& 0x3f).toInt64.toUInt64).toInt64))])) _
    refine XS.land X0.here hx rfl (hb hby at_114) rfl ?_
    show Steps p.tables e below (s₁.setTop (mkF m 115 #[.val (.int p1), .val (.int p2), .val (.int p3), .val (.int p4), .val (.int p5), .val (.long q6), .second, .val (.int N), .val (.int A1), .val (.int B1), .val (.int A2), .val (.int B2), .val (.int M), .val (.int v2), .val (.int v5), .val (.int SF), .val (.int STt), .unset, .unset, .unset, .unset, .unset, .unset, .unset, .unset] [(.long (((q6.toUInt64 >>> ((8 : Int32) &&& 0x3f).toInt64.toUInt64).toInt64) &&& (2147483647 : Int64)))])) _
    refine XS.l2i X0.here hx rfl (hb hby at_115) rfl ?_
    show Steps p.tables e below (s₁.setTop (mkF m 116 #[.val (.int p1), .val (.int p2), .val (.int p3), .val (.int p4), .val (.int p5), .val (.long q6), .second, .val (.int N), .val (.int A1), .val (.int B1), .val (.int A2), .val (.int B2), .val (.int M), .val (.int v2), .val (.int v5), .val (.int SF), .val (.int STt), .unset, .unset, .unset, .unset, .unset, .unset, .unset, .unset] [(.int ((((q6.toUInt64 >>> ((8 : Int32) &&& 0x3f).toInt64.toUInt64).toInt64) &&& (2147483647 : Int64)).toInt32))])) _
    refine XS.iload X0.here hx rfl (hb hby at_116) rfl ?_
    show Steps p.tables e below (s₁.setTop (mkF m 118 #[.val (.int p1), .val (.int p2), .val (.int p3), .val (.int p4), .val (.int p5), .val (.long q6), .second, .val (.int N), .val (.int A1), .val (.int B1), .val (.int A2), .val (.int B2), .val (.int M), .val (.int v2), .val (.int v5), .val (.int SF), .val (.int STt), .unset, .unset, .unset, .unset, .unset, .unset, .unset, .unset] [(.int N), (.int ((((q6.toUInt64 >>> ((8 : Int32) &&& 0x3f).toInt64.toUInt64).toInt64) &&& (2147483647 : Int64)).toInt32))])) _
    refine iremM X0 hx rfl (hb hby at_118) rfl (own_N0 hN) ?_
    show Steps p.tables e below (s₁.setTop (mkF m 119 #[.val (.int p1), .val (.int p2), .val (.int p3), .val (.int p4), .val (.int p5), .val (.long q6), .second, .val (.int N), .val (.int A1), .val (.int B1), .val (.int A2), .val (.int B2), .val (.int M), .val (.int v2), .val (.int v5), .val (.int SF), .val (.int STt), .unset, .unset, .unset, .unset, .unset, .unset, .unset, .unset] [(.int (((((q6.toUInt64 >>> ((8 : Int32) &&& 0x3f).toInt64.toUInt64).toInt64) &&& (2147483647 : Int64)).toInt32) % N))])) _
    rw [← hFF]
    show Steps p.tables e below (s₁.setTop (mkF m 119 #[.val (.int p1), .val (.int p2), .val (.int p3), .val (.int p4), .val (.int p5), .val (.long q6), .second, .val (.int N), .val (.int A1), .val (.int B1), .val (.int A2), .val (.int B2), .val (.int M), .val (.int v2), .val (.int v5), .val (.int SF), .val (.int STt), .unset, .unset, .unset, .unset, .unset, .unset, .unset, .unset] [(.int FF)])) _
    refine XS.istore X0.here hx rfl (hb hby at_119) rfl (l' := #[.val (.int p1), .val (.int p2), .val (.int p3), .val (.int p4), .val (.int p5), .val (.long q6), .second, .val (.int N), .val (.int A1), .val (.int B1), .val (.int A2), .val (.int B2), .val (.int M), .val (.int v2), .val (.int v5), .val (.int SF), .val (.int STt), .val (.int FF), .unset, .unset, .unset, .unset, .unset, .unset, .unset]) rfl ?_
    show Steps p.tables e below (s₁.setTop (mkF m 121 #[.val (.int p1), .val (.int p2), .val (.int p3), .val (.int p4), .val (.int p5), .val (.long q6), .second, .val (.int N), .val (.int A1), .val (.int B1), .val (.int A2), .val (.int B2), .val (.int M), .val (.int v2), .val (.int v5), .val (.int SF), .val (.int STt), .val (.int FF), .unset, .unset, .unset, .unset, .unset, .unset, .unset] [])) _
    refine XS.lload X0.here hx rfl (hb hby at_121) rfl ?_
    show Steps p.tables e below (s₁.setTop (mkF m 123 #[.val (.int p1), .val (.int p2), .val (.int p3), .val (.int p4), .val (.int p5), .val (.long q6), .second, .val (.int N), .val (.int A1), .val (.int B1), .val (.int A2), .val (.int B2), .val (.int M), .val (.int v2), .val (.int v5), .val (.int SF), .val (.int STt), .val (.int FF), .unset, .unset, .unset, .unset, .unset, .unset, .unset] [(.long q6)])) _
    refine XS.bipush X0.here hx rfl (hb hby at_123) ?_
    show Steps p.tables e below (s₁.setTop (mkF m 125 #[.val (.int p1), .val (.int p2), .val (.int p3), .val (.int p4), .val (.int p5), .val (.long q6), .second, .val (.int N), .val (.int A1), .val (.int B1), .val (.int A2), .val (.int B2), .val (.int M), .val (.int v2), .val (.int v5), .val (.int SF), .val (.int STt), .val (.int FF), .unset, .unset, .unset, .unset, .unset, .unset, .unset] [(.int (40 : Int32)), (.long q6)])) _
    refine XS.lushr X0.here hx rfl (hb hby at_125) rfl ?_
    show Steps p.tables e below (s₁.setTop (mkF m 126 #[.val (.int p1), .val (.int p2), .val (.int p3), .val (.int p4), .val (.int p5), .val (.long q6), .second, .val (.int N), .val (.int A1), .val (.int B1), .val (.int A2), .val (.int B2), .val (.int M), .val (.int v2), .val (.int v5), .val (.int SF), .val (.int STt), .val (.int FF), .unset, .unset, .unset, .unset, .unset, .unset, .unset] [(.long ((q6.toUInt64 >>> ((40 : Int32) &&& 0x3f).toInt64.toUInt64).toInt64))])) _
    refine X0.ldc2Long hx hown (mvT hZ (hw _ (List.mem_of_getElem? (i := 4) rfl))) (g := (mkF m 126 #[.val (.int p1), .val (.int p2), .val (.int p3), .val (.int p4), .val (.int p5), .val (.long q6), .second, .val (.int N), .val (.int A1), .val (.int B1), .val (.int A2), .val (.int B2), .val (.int M), .val (.int v2), .val (.int v5), .val (.int SF), .val (.int STt), .val (.int FF), .unset, .unset, .unset, .unset, .unset, .unset, .unset] [(.long ((q6.toUInt64 >>> ((40 : Int32) &&& 0x3f).toInt64.toUInt64).toInt64))])) rfl (hb hby at_126) _ ?_
    show Steps p.tables e below (s₁.setTop (mkF m 129 #[.val (.int p1), .val (.int p2), .val (.int p3), .val (.int p4), .val (.int p5), .val (.long q6), .second, .val (.int N), .val (.int A1), .val (.int B1), .val (.int A2), .val (.int B2), .val (.int M), .val (.int v2), .val (.int v5), .val (.int SF), .val (.int STt), .val (.int FF), .unset, .unset, .unset, .unset, .unset, .unset, .unset] [(.long (16777215 : Int64)), (.long ((q6.toUInt64 >>> ((40 : Int32) &&& 0x3f).toInt64.toUInt64).toInt64))])) _
    refine XS.land X0.here hx rfl (hb hby at_129) rfl ?_
    show Steps p.tables e below (s₁.setTop (mkF m 130 #[.val (.int p1), .val (.int p2), .val (.int p3), .val (.int p4), .val (.int p5), .val (.long q6), .second, .val (.int N), .val (.int A1), .val (.int B1), .val (.int A2), .val (.int B2), .val (.int M), .val (.int v2), .val (.int v5), .val (.int SF), .val (.int STt), .val (.int FF), .unset, .unset, .unset, .unset, .unset, .unset, .unset] [(.long (((q6.toUInt64 >>> ((40 : Int32) &&& 0x3f).toInt64.toUInt64).toInt64) &&& (16777215 : Int64)))])) _
    refine XS.l2i X0.here hx rfl (hb hby at_130) rfl ?_
    show Steps p.tables e below (s₁.setTop (mkF m 131 #[.val (.int p1), .val (.int p2), .val (.int p3), .val (.int p4), .val (.int p5), .val (.long q6), .second, .val (.int N), .val (.int A1), .val (.int B1), .val (.int A2), .val (.int B2), .val (.int M), .val (.int v2), .val (.int v5), .val (.int SF), .val (.int STt), .val (.int FF), .unset, .unset, .unset, .unset, .unset, .unset, .unset] [(.int ((((q6.toUInt64 >>> ((40 : Int32) &&& 0x3f).toInt64.toUInt64).toInt64) &&& (16777215 : Int64)).toInt32))])) _
    refine XS.iload X0.here hx rfl (hb hby at_131) rfl ?_
    show Steps p.tables e below (s₁.setTop (mkF m 133 #[.val (.int p1), .val (.int p2), .val (.int p3), .val (.int p4), .val (.int p5), .val (.long q6), .second, .val (.int N), .val (.int A1), .val (.int B1), .val (.int A2), .val (.int B2), .val (.int M), .val (.int v2), .val (.int v5), .val (.int SF), .val (.int STt), .val (.int FF), .unset, .unset, .unset, .unset, .unset, .unset, .unset] [(.int N), (.int ((((q6.toUInt64 >>> ((40 : Int32) &&& 0x3f).toInt64.toUInt64).toInt64) &&& (16777215 : Int64)).toInt32))])) _
    refine iremM X0 hx rfl (hb hby at_133) rfl (own_N0 hN) ?_
    show Steps p.tables e below (s₁.setTop (mkF m 134 #[.val (.int p1), .val (.int p2), .val (.int p3), .val (.int p4), .val (.int p5), .val (.long q6), .second, .val (.int N), .val (.int A1), .val (.int B1), .val (.int A2), .val (.int B2), .val (.int M), .val (.int v2), .val (.int v5), .val (.int SF), .val (.int STt), .val (.int FF), .unset, .unset, .unset, .unset, .unset, .unset, .unset] [(.int (((((q6.toUInt64 >>> ((40 : Int32) &&& 0x3f).toInt64.toUInt64).toInt64) &&& (16777215 : Int64)).toInt32) % N))])) _
    rw [← hFT]
    show Steps p.tables e below (s₁.setTop (mkF m 134 #[.val (.int p1), .val (.int p2), .val (.int p3), .val (.int p4), .val (.int p5), .val (.long q6), .second, .val (.int N), .val (.int A1), .val (.int B1), .val (.int A2), .val (.int B2), .val (.int M), .val (.int v2), .val (.int v5), .val (.int SF), .val (.int STt), .val (.int FF), .unset, .unset, .unset, .unset, .unset, .unset, .unset] [(.int FT)])) _
    refine XS.istore X0.here hx rfl (hb hby at_134) rfl (l' := #[.val (.int p1), .val (.int p2), .val (.int p3), .val (.int p4), .val (.int p5), .val (.long q6), .second, .val (.int N), .val (.int A1), .val (.int B1), .val (.int A2), .val (.int B2), .val (.int M), .val (.int v2), .val (.int v5), .val (.int SF), .val (.int STt), .val (.int FF), .val (.int FT), .unset, .unset, .unset, .unset, .unset, .unset]) rfl ?_
    show Steps p.tables e below (s₁.setTop (mkF m 136 #[.val (.int p1), .val (.int p2), .val (.int p3), .val (.int p4), .val (.int p5), .val (.long q6), .second, .val (.int N), .val (.int A1), .val (.int B1), .val (.int A2), .val (.int B2), .val (.int M), .val (.int v2), .val (.int v5), .val (.int SF), .val (.int STt), .val (.int FF), .val (.int FT), .unset, .unset, .unset, .unset, .unset, .unset] [])) _
    refine XS.iload X0.here hx rfl (hb hby at_136) rfl ?_
    show Steps p.tables e below (s₁.setTop (mkF m 138 #[.val (.int p1), .val (.int p2), .val (.int p3), .val (.int p4), .val (.int p5), .val (.long q6), .second, .val (.int N), .val (.int A1), .val (.int B1), .val (.int A2), .val (.int B2), .val (.int M), .val (.int v2), .val (.int v5), .val (.int SF), .val (.int STt), .val (.int FF), .val (.int FT), .unset, .unset, .unset, .unset, .unset, .unset] [(.int SF)])) _
    by_cases hc7 : SF = (0 : Int32)
    · refine XS.ifNo X0.here hx rfl (hb hby at_138) rfl ((if0 _ _).trans (teq hc7).2) ?_
      show Steps p.tables e below (s₁.setTop (mkF m 141 #[.val (.int p1), .val (.int p2), .val (.int p3), .val (.int p4), .val (.int p5), .val (.long q6), .second, .val (.int N), .val (.int A1), .val (.int B1), .val (.int A2), .val (.int B2), .val (.int M), .val (.int v2), .val (.int v5), .val (.int SF), .val (.int STt), .val (.int FF), .val (.int FT), .unset, .unset, .unset, .unset, .unset, .unset] [])) _
      refine XS.iload X0.here hx rfl (hb hby at_141) rfl ?_
      show Steps p.tables e below (s₁.setTop (mkF m 143 #[.val (.int p1), .val (.int p2), .val (.int p3), .val (.int p4), .val (.int p5), .val (.long q6), .second, .val (.int N), .val (.int A1), .val (.int B1), .val (.int A2), .val (.int B2), .val (.int M), .val (.int v2), .val (.int v5), .val (.int SF), .val (.int STt), .val (.int FF), .val (.int FT), .unset, .unset, .unset, .unset, .unset, .unset] [(.int A1)])) _
      refine XS.goto X0.here hx rfl (pc0 := 143) (pc' := 159) rfl (hb hby at_143) (by decide) (by decide) ?_
      rw [show v9 = A1 from hv9.trans (if_pos hc7)] at k
      exact k
    · refine XS.ifYes X0.here hx rfl (pc0 := 138) (pc' := 146) rfl (hb hby at_138) rfl ((if0 _ _).trans (feq hc7).2) (by decide) (by decide) ?_
      show Steps p.tables e below (s₁.setTop (mkF m 146 #[.val (.int p1), .val (.int p2), .val (.int p3), .val (.int p4), .val (.int p5), .val (.long q6), .second, .val (.int N), .val (.int A1), .val (.int B1), .val (.int A2), .val (.int B2), .val (.int M), .val (.int v2), .val (.int v5), .val (.int SF), .val (.int STt), .val (.int FF), .val (.int FT), .unset, .unset, .unset, .unset, .unset, .unset] [])) _
      refine XS.iload X0.here hx rfl (hb hby at_146) rfl ?_
      show Steps p.tables e below (s₁.setTop (mkF m 148 #[.val (.int p1), .val (.int p2), .val (.int p3), .val (.int p4), .val (.int p5), .val (.long q6), .second, .val (.int N), .val (.int A1), .val (.int B1), .val (.int A2), .val (.int B2), .val (.int M), .val (.int v2), .val (.int v5), .val (.int SF), .val (.int STt), .val (.int FF), .val (.int FT), .unset, .unset, .unset, .unset, .unset, .unset] [(.int SF)])) _
      refine XS.iconst X0.here hx rfl (hb hby at_148) ?_
      show Steps p.tables e below (s₁.setTop (mkF m 149 #[.val (.int p1), .val (.int p2), .val (.int p3), .val (.int p4), .val (.int p5), .val (.long q6), .second, .val (.int N), .val (.int A1), .val (.int B1), .val (.int A2), .val (.int B2), .val (.int M), .val (.int v2), .val (.int v5), .val (.int SF), .val (.int STt), .val (.int FF), .val (.int FT), .unset, .unset, .unset, .unset, .unset, .unset] [(.int (1 : Int32)), (.int SF)])) _
      by_cases hc8 : SF = (1 : Int32)
      · refine XS.icmpNo X0.here hx rfl (hb hby at_149) rfl (teq hc8).2 ?_
        show Steps p.tables e below (s₁.setTop (mkF m 152 #[.val (.int p1), .val (.int p2), .val (.int p3), .val (.int p4), .val (.int p5), .val (.long q6), .second, .val (.int N), .val (.int A1), .val (.int B1), .val (.int A2), .val (.int B2), .val (.int M), .val (.int v2), .val (.int v5), .val (.int SF), .val (.int STt), .val (.int FF), .val (.int FT), .unset, .unset, .unset, .unset, .unset, .unset] [])) _
        refine XS.iload X0.here hx rfl (hb hby at_152) rfl ?_
        show Steps p.tables e below (s₁.setTop (mkF m 154 #[.val (.int p1), .val (.int p2), .val (.int p3), .val (.int p4), .val (.int p5), .val (.long q6), .second, .val (.int N), .val (.int A1), .val (.int B1), .val (.int A2), .val (.int B2), .val (.int M), .val (.int v2), .val (.int v5), .val (.int SF), .val (.int STt), .val (.int FF), .val (.int FT), .unset, .unset, .unset, .unset, .unset, .unset] [(.int A2)])) _
        refine XS.goto X0.here hx rfl (pc0 := 154) (pc' := 159) rfl (hb hby at_154) (by decide) (by decide) ?_
        rw [show v9 = A2 from hv9.trans ((if_neg hc7).trans (if_pos hc8))] at k
        exact k
      · refine XS.icmpYes X0.here hx rfl (pc0 := 149) (pc' := 157) rfl (hb hby at_149) rfl (feq hc8).2 (by decide) (by decide) ?_
        show Steps p.tables e below (s₁.setTop (mkF m 157 #[.val (.int p1), .val (.int p2), .val (.int p3), .val (.int p4), .val (.int p5), .val (.long q6), .second, .val (.int N), .val (.int A1), .val (.int B1), .val (.int A2), .val (.int B2), .val (.int M), .val (.int v2), .val (.int v5), .val (.int SF), .val (.int STt), .val (.int FF), .val (.int FT), .unset, .unset, .unset, .unset, .unset, .unset] [])) _
        refine XS.iload X0.here hx rfl (hb hby at_157) rfl ?_
        rw [show v9 = FF from hv9.trans ((if_neg hc7).trans (if_neg hc8))] at k
        exact k)
  obtain ⟨v13, hv13⟩ : ∃ z : Int32, z = (if STt = (0 : Int32) then B1 else (if STt = (1 : Int32) then B2 else FT)) := ⟨_, rfl⟩
  have pre14 : ∀ t, Steps p.tables e below (s₁.setTop (mkF m 184 #[.val (.int p1), .val (.int p2), .val (.int p3), .val (.int p4), .val (.int p5), .val (.long q6), .second, .val (.int N), .val (.int A1), .val (.int B1), .val (.int A2), .val (.int B2), .val (.int M), .val (.int v2), .val (.int v5), .val (.int SF), .val (.int STt), .val (.int FF), .val (.int FT), .val (.int v9), .unset, .unset, .unset, .unset, .unset] [(.int v13)])) t → Steps p.tables e below (s₁.setTop (entryFrame m #[(.int p1), (.int p2), (.int p3), (.int p4), (.int p5), (.long q6)] maxLocals)) t := fun t k => pre10 t (by
    show Steps p.tables e below (s₁.setTop (mkF m 159 #[.val (.int p1), .val (.int p2), .val (.int p3), .val (.int p4), .val (.int p5), .val (.long q6), .second, .val (.int N), .val (.int A1), .val (.int B1), .val (.int A2), .val (.int B2), .val (.int M), .val (.int v2), .val (.int v5), .val (.int SF), .val (.int STt), .val (.int FF), .val (.int FT), .unset, .unset, .unset, .unset, .unset, .unset] [(.int v9)])) _
    refine XS.istore X0.here hx rfl (hb hby at_159) rfl (l' := #[.val (.int p1), .val (.int p2), .val (.int p3), .val (.int p4), .val (.int p5), .val (.long q6), .second, .val (.int N), .val (.int A1), .val (.int B1), .val (.int A2), .val (.int B2), .val (.int M), .val (.int v2), .val (.int v5), .val (.int SF), .val (.int STt), .val (.int FF), .val (.int FT), .val (.int v9), .unset, .unset, .unset, .unset, .unset]) rfl ?_
    show Steps p.tables e below (s₁.setTop (mkF m 161 #[.val (.int p1), .val (.int p2), .val (.int p3), .val (.int p4), .val (.int p5), .val (.long q6), .second, .val (.int N), .val (.int A1), .val (.int B1), .val (.int A2), .val (.int B2), .val (.int M), .val (.int v2), .val (.int v5), .val (.int SF), .val (.int STt), .val (.int FF), .val (.int FT), .val (.int v9), .unset, .unset, .unset, .unset, .unset] [])) _
    refine XS.iload X0.here hx rfl (hb hby at_161) rfl ?_
    show Steps p.tables e below (s₁.setTop (mkF m 163 #[.val (.int p1), .val (.int p2), .val (.int p3), .val (.int p4), .val (.int p5), .val (.long q6), .second, .val (.int N), .val (.int A1), .val (.int B1), .val (.int A2), .val (.int B2), .val (.int M), .val (.int v2), .val (.int v5), .val (.int SF), .val (.int STt), .val (.int FF), .val (.int FT), .val (.int v9), .unset, .unset, .unset, .unset, .unset] [(.int STt)])) _
    by_cases hc11 : STt = (0 : Int32)
    · refine XS.ifNo X0.here hx rfl (hb hby at_163) rfl ((if0 _ _).trans (teq hc11).2) ?_
      show Steps p.tables e below (s₁.setTop (mkF m 166 #[.val (.int p1), .val (.int p2), .val (.int p3), .val (.int p4), .val (.int p5), .val (.long q6), .second, .val (.int N), .val (.int A1), .val (.int B1), .val (.int A2), .val (.int B2), .val (.int M), .val (.int v2), .val (.int v5), .val (.int SF), .val (.int STt), .val (.int FF), .val (.int FT), .val (.int v9), .unset, .unset, .unset, .unset, .unset] [])) _
      refine XS.iload X0.here hx rfl (hb hby at_166) rfl ?_
      show Steps p.tables e below (s₁.setTop (mkF m 168 #[.val (.int p1), .val (.int p2), .val (.int p3), .val (.int p4), .val (.int p5), .val (.long q6), .second, .val (.int N), .val (.int A1), .val (.int B1), .val (.int A2), .val (.int B2), .val (.int M), .val (.int v2), .val (.int v5), .val (.int SF), .val (.int STt), .val (.int FF), .val (.int FT), .val (.int v9), .unset, .unset, .unset, .unset, .unset] [(.int B1)])) _
      refine XS.goto X0.here hx rfl (pc0 := 168) (pc' := 184) rfl (hb hby at_168) (by decide) (by decide) ?_
      rw [show v13 = B1 from hv13.trans (if_pos hc11)] at k
      exact k
    · refine XS.ifYes X0.here hx rfl (pc0 := 163) (pc' := 171) rfl (hb hby at_163) rfl ((if0 _ _).trans (feq hc11).2) (by decide) (by decide) ?_
      show Steps p.tables e below (s₁.setTop (mkF m 171 #[.val (.int p1), .val (.int p2), .val (.int p3), .val (.int p4), .val (.int p5), .val (.long q6), .second, .val (.int N), .val (.int A1), .val (.int B1), .val (.int A2), .val (.int B2), .val (.int M), .val (.int v2), .val (.int v5), .val (.int SF), .val (.int STt), .val (.int FF), .val (.int FT), .val (.int v9), .unset, .unset, .unset, .unset, .unset] [])) _
      refine XS.iload X0.here hx rfl (hb hby at_171) rfl ?_
      show Steps p.tables e below (s₁.setTop (mkF m 173 #[.val (.int p1), .val (.int p2), .val (.int p3), .val (.int p4), .val (.int p5), .val (.long q6), .second, .val (.int N), .val (.int A1), .val (.int B1), .val (.int A2), .val (.int B2), .val (.int M), .val (.int v2), .val (.int v5), .val (.int SF), .val (.int STt), .val (.int FF), .val (.int FT), .val (.int v9), .unset, .unset, .unset, .unset, .unset] [(.int STt)])) _
      refine XS.iconst X0.here hx rfl (hb hby at_173) ?_
      show Steps p.tables e below (s₁.setTop (mkF m 174 #[.val (.int p1), .val (.int p2), .val (.int p3), .val (.int p4), .val (.int p5), .val (.long q6), .second, .val (.int N), .val (.int A1), .val (.int B1), .val (.int A2), .val (.int B2), .val (.int M), .val (.int v2), .val (.int v5), .val (.int SF), .val (.int STt), .val (.int FF), .val (.int FT), .val (.int v9), .unset, .unset, .unset, .unset, .unset] [(.int (1 : Int32)), (.int STt)])) _
      by_cases hc12 : STt = (1 : Int32)
      · refine XS.icmpNo X0.here hx rfl (hb hby at_174) rfl (teq hc12).2 ?_
        show Steps p.tables e below (s₁.setTop (mkF m 177 #[.val (.int p1), .val (.int p2), .val (.int p3), .val (.int p4), .val (.int p5), .val (.long q6), .second, .val (.int N), .val (.int A1), .val (.int B1), .val (.int A2), .val (.int B2), .val (.int M), .val (.int v2), .val (.int v5), .val (.int SF), .val (.int STt), .val (.int FF), .val (.int FT), .val (.int v9), .unset, .unset, .unset, .unset, .unset] [])) _
        refine XS.iload X0.here hx rfl (hb hby at_177) rfl ?_
        show Steps p.tables e below (s₁.setTop (mkF m 179 #[.val (.int p1), .val (.int p2), .val (.int p3), .val (.int p4), .val (.int p5), .val (.long q6), .second, .val (.int N), .val (.int A1), .val (.int B1), .val (.int A2), .val (.int B2), .val (.int M), .val (.int v2), .val (.int v5), .val (.int SF), .val (.int STt), .val (.int FF), .val (.int FT), .val (.int v9), .unset, .unset, .unset, .unset, .unset] [(.int B2)])) _
        refine XS.goto X0.here hx rfl (pc0 := 179) (pc' := 184) rfl (hb hby at_179) (by decide) (by decide) ?_
        rw [show v13 = B2 from hv13.trans ((if_neg hc11).trans (if_pos hc12))] at k
        exact k
      · refine XS.icmpYes X0.here hx rfl (pc0 := 174) (pc' := 182) rfl (hb hby at_174) rfl (feq hc12).2 (by decide) (by decide) ?_
        show Steps p.tables e below (s₁.setTop (mkF m 182 #[.val (.int p1), .val (.int p2), .val (.int p3), .val (.int p4), .val (.int p5), .val (.long q6), .second, .val (.int N), .val (.int A1), .val (.int B1), .val (.int A2), .val (.int B2), .val (.int M), .val (.int v2), .val (.int v5), .val (.int SF), .val (.int STt), .val (.int FF), .val (.int FT), .val (.int v9), .unset, .unset, .unset, .unset, .unset] [])) _
        refine XS.iload X0.here hx rfl (hb hby at_182) rfl ?_
        rw [show v13 = FT from hv13.trans ((if_neg hc11).trans (if_neg hc12))] at k
        exact k)
  obtain ⟨T15, h15, X15, e15, E15, Ax15, D15, -, st15⟩ := newO X0 hx hZ hown (hw _ (List.mem_of_getElem? (i := 5) rfl)) (hw _ (List.mem_of_getElem? (i := 6) rfl)) (hw _ (List.mem_of_getElem? (i := 7) rfl)) e0 (g := (mkF m 186 #[.val (.int p1), .val (.int p2), .val (.int p3), .val (.int p4), .val (.int p5), .val (.long q6), .second, .val (.int N), .val (.int A1), .val (.int B1), .val (.int A2), .val (.int B2), .val (.int M), .val (.int v2), .val (.int v5), .val (.int SF), .val (.int STt), .val (.int FF), .val (.int FT), .val (.int v9), .val (.int v13), .unset, .unset, .unset, .unset] [])) rfl (hb hby at_186) (by decide) (by decide)
  obtain ⟨b15, g15⟩ : ∃ z, z = h0.size := ⟨_, rfl⟩
  rw [← g15] at Ax15 D15 st15
  have g_b15 : n0 ≤ b15 := Nat.le_trans Z0 (Nat.le_of_eq g15.symm)
  have sz_b15 : h0.size ≤ b15 := Nat.le_trans K0.1 (Nat.le_of_eq g15.symm)
  have K15 := K0.ext E15
  have Zs15 := Nat.le_trans Z0 E15.1
  have O15 := O0.ext E15
  have E_b15_15 : Exa Z h15 b15 "com/example/fenceline/fenceline/model/Relation" := Ax15
  have F_size_b15_15 : Fld Z h15 b15 "com/example/fenceline/fenceline/model/Relation" "size" "I" (.int (0 : Int32)) := D15 (Or.inr (hw _ (List.mem_of_getElem? (i := 15) rfl))) (ty := .int) (by decide)
  have F_words_b15_15 : Fld Z h15 b15 "com/example/fenceline/fenceline/model/Relation" "words" "I" (.int (0 : Int32)) := D15 (Or.inr (hw _ (List.mem_of_getElem? (i := 17) rfl))) (ty := .int) (by decide)
  have F_rows_b15_15 : Fld Z h15 b15 "com/example/fenceline/fenceline/model/Relation" "rows" "[J" .null := D15 (Or.inr (hw _ (List.mem_of_getElem? (i := 20) rfl))) (ty := (.array .long)) (by decide)
  obtain ⟨_, _, ⟨T16, L16, k16, n16⟩, -, X16, ⟨Lc16, hQ16, l16, y16, z16⟩, st16⟩ := X15.specialBack hx (y := (⟨"com/example/fenceline/fenceline/model/Relation", "<init>", "(I)V"⟩ : MethodName)) rfl hown (mvT hZ (hw _ (List.mem_of_getElem? (i := 8) rfl))) (mvT hZ (hw _ (List.mem_of_getElem? (i := 9) rfl))) (mvT hZ (hw _ (List.mem_of_getElem? (i := 10) rfl))) (by decide) (backOf (W := 1) (rm1 l Z a0 hw [] b15 N h15 n0 Zs15 E_b15_15 F_size_b15_15 F_words_b15_15 F_rows_b15_15 g_b15 (own_N1 hN).1 (own_N1 hN).2) hZ (hw _ (List.mem_of_getElem? (i := 10) rfl)) (hw _ (List.mem_of_getElem? (i := 7) rfl)) (by decide) (by decide)) (g := (mkF m 192 #[.val (.int p1), .val (.int p2), .val (.int p3), .val (.int p4), .val (.int p5), .val (.long q6), .second, .val (.int N), .val (.int A1), .val (.int B1), .val (.int A2), .val (.int B2), .val (.int M), .val (.int v2), .val (.int v5), .val (.int SF), .val (.int STt), .val (.int FF), .val (.int FT), .val (.int v9), .val (.int v13), .unset, .unset, .unset, .unset] [(.int N), (.ref b15), (.ref b15)])) rfl (by rw [hml]; rfl) (Steps.refl _) (a := b15) (argsL := [(.int N)]) (rest := [(.ref b15)]) (lenOf pd_0 rfl) rfl (by show 2 * 0 + _ ≤ _; exact Nat.le_of_eq rfl) (hb hby at_192) (fun _ _ => ⟨rfl, e15, (by decide : 1 + 1 ≤ _), (by decide : 3 + 1024 ≤ _)⟩)
  dsimp only [Pt.U, Pt.locs, Pt.cells, Pt.slots] at X16 l16 y16 z16 st16 hQ16
  subst l16 y16 z16
  obtain ⟨h16, e16⟩ : ∃ z, T16.heap = z := ⟨_, rfl⟩
  rw [e16] at hQ16
  obtain ⟨b16, rfl, N16q, Kc16, szc_b16, E_b15_16q, F_size_b15_16q, F_words_b15_16q, F_rows_b15_16q, A_b16_16q⟩ := hQ16
  have ne_b15_b16 : b15 ≠ b16 := Nat.ne_of_lt (Nat.lt_of_lt_of_le E_b15_15.lt szc_b16)
  have g_b16 : n0 ≤ b16 := Nat.le_trans Zs15 szc_b16
  have sz_b16 : h0.size ≤ b16 := Nat.le_trans K15.1 szc_b16
  have K16 := K15.trans Kc16 (allS (Or.inr sz_b15) all0)
  have Zs16 := Nat.le_trans Zs15 Kc16.1
  have O16 := O15.keep Kc16 (allS g_b15 all0)
  have E_b15_16 : Exa Z h16 b15 "com/example/fenceline/fenceline/model/Relation" := E_b15_16q
  have F_size_b15_16 : Fld Z h16 b15 "com/example/fenceline/fenceline/model/Relation" "size" "I" (.int N) := F_size_b15_16q
  have F_words_b15_16 : Fld Z h16 b15 "com/example/fenceline/fenceline/model/Relation" "words" "I" (.int (((N + (63 : Int32)).toUInt32 >>> ((6 : Int32) &&& 31).toUInt32).toInt32)) := F_words_b15_16q
  have F_rows_b15_16 : Fld Z h16 b15 "com/example/fenceline/fenceline/model/Relation" "rows" "[J" (.ref b16) := F_rows_b15_16q
  obtain ⟨y17, hy17⟩ : ∃ yy_ : Int32 → Int64, yy_ = (fun _ => (0 : Int64)) := ⟨_, rfl⟩
  have A_b16_16 : own_A Z h16 b16 .long (N * (((N + (63 : Int32)).toUInt32 >>> ((6 : Int32) &&& 31).toUInt32).toInt32)) (fun i => .long (y17 i)) := by subst hy17; exact A_b16_16q
  have N16 := Fr.app N0 N16q
  obtain ⟨y25, hy25⟩ : ∃ z : Int32 → Int64, z = (if v2 = (0 : Int32) then y17 else (fun i => if i = ((A1 * (((N + (63 : Int32)).toUInt32 >>> ((6 : Int32) &&& 31).toUInt32).toInt32)) + ((B1.toUInt32 >>> ((6 : Int32) &&& 31).toUInt32).toInt32)) then ((y17 ((A1 * (((N + (63 : Int32)).toUInt32 >>> ((6 : Int32) &&& 31).toUInt32).toInt32)) + ((B1.toUInt32 >>> ((6 : Int32) &&& 31).toUInt32).toInt32))) ||| ((1 : Int64) <<< (B1 &&& 0x3f).toInt64)) else y17 i)) := ⟨_, rfl⟩
  have pre18 : ∀ t, Steps p.tables e below (T16.setTop (mkF m 199 #[.val (.int p1), .val (.int p2), .val (.int p3), .val (.int p4), .val (.int p5), .val (.long q6), .second, .val (.int N), .val (.int A1), .val (.int B1), .val (.int A2), .val (.int B2), .val (.int M), .val (.int v2), .val (.int v5), .val (.int SF), .val (.int STt), .val (.int FF), .val (.int FT), .val (.int v9), .val (.int v13), .val (.ref b15), .unset, .unset, .unset] [(.int v2)])) t → Steps p.tables e below (s₁.setTop (entryFrame m #[(.int p1), (.int p2), (.int p3), (.int p4), (.int p5), (.long q6)] maxLocals)) t := fun t k => pre14 t (by
    show Steps p.tables e below (s₁.setTop (mkF m 184 #[.val (.int p1), .val (.int p2), .val (.int p3), .val (.int p4), .val (.int p5), .val (.long q6), .second, .val (.int N), .val (.int A1), .val (.int B1), .val (.int A2), .val (.int B2), .val (.int M), .val (.int v2), .val (.int v5), .val (.int SF), .val (.int STt), .val (.int FF), .val (.int FT), .val (.int v9), .unset, .unset, .unset, .unset, .unset] [(.int v13)])) _
    refine XS.istore X0.here hx rfl (hb hby at_184) rfl (l' := #[.val (.int p1), .val (.int p2), .val (.int p3), .val (.int p4), .val (.int p5), .val (.long q6), .second, .val (.int N), .val (.int A1), .val (.int B1), .val (.int A2), .val (.int B2), .val (.int M), .val (.int v2), .val (.int v5), .val (.int SF), .val (.int STt), .val (.int FF), .val (.int FT), .val (.int v9), .val (.int v13), .unset, .unset, .unset, .unset]) rfl ?_
    show Steps p.tables e below (s₁.setTop (mkF m 186 #[.val (.int p1), .val (.int p2), .val (.int p3), .val (.int p4), .val (.int p5), .val (.long q6), .second, .val (.int N), .val (.int A1), .val (.int B1), .val (.int A2), .val (.int B2), .val (.int M), .val (.int v2), .val (.int v5), .val (.int SF), .val (.int STt), .val (.int FF), .val (.int FT), .val (.int v9), .val (.int v13), .unset, .unset, .unset, .unset] [])) _
    refine st15 _ ?_
    show Steps p.tables e below (T15.setTop (mkF m 189 #[.val (.int p1), .val (.int p2), .val (.int p3), .val (.int p4), .val (.int p5), .val (.long q6), .second, .val (.int N), .val (.int A1), .val (.int B1), .val (.int A2), .val (.int B2), .val (.int M), .val (.int v2), .val (.int v5), .val (.int SF), .val (.int STt), .val (.int FF), .val (.int FT), .val (.int v9), .val (.int v13), .unset, .unset, .unset, .unset] [(.ref b15)])) _
    refine XS.dup X15.here hx rfl (hb hby at_189) rfl rfl ?_
    show Steps p.tables e below (T15.setTop (mkF m 190 #[.val (.int p1), .val (.int p2), .val (.int p3), .val (.int p4), .val (.int p5), .val (.long q6), .second, .val (.int N), .val (.int A1), .val (.int B1), .val (.int A2), .val (.int B2), .val (.int M), .val (.int v2), .val (.int v5), .val (.int SF), .val (.int STt), .val (.int FF), .val (.int FT), .val (.int v9), .val (.int v13), .unset, .unset, .unset, .unset] [(.ref b15), (.ref b15)])) _
    refine XS.iload X15.here hx rfl (hb hby at_190) rfl ?_
    show Steps p.tables e below (T15.setTop (mkF m 192 #[.val (.int p1), .val (.int p2), .val (.int p3), .val (.int p4), .val (.int p5), .val (.long q6), .second, .val (.int N), .val (.int A1), .val (.int B1), .val (.int A2), .val (.int B2), .val (.int M), .val (.int v2), .val (.int v5), .val (.int SF), .val (.int STt), .val (.int FF), .val (.int FT), .val (.int v9), .val (.int v13), .unset, .unset, .unset, .unset] [(.int N), (.ref b15), (.ref b15)])) _
    refine st16.trans ?_
    show Steps p.tables e below (T16.setTop (mkF m 195 #[.val (.int p1), .val (.int p2), .val (.int p3), .val (.int p4), .val (.int p5), .val (.long q6), .second, .val (.int N), .val (.int A1), .val (.int B1), .val (.int A2), .val (.int B2), .val (.int M), .val (.int v2), .val (.int v5), .val (.int SF), .val (.int STt), .val (.int FF), .val (.int FT), .val (.int v9), .val (.int v13), .unset, .unset, .unset, .unset] [(.ref b15)])) _
    refine XS.astore X16.here hx rfl (hb hby at_195) rfl rfl (l' := #[.val (.int p1), .val (.int p2), .val (.int p3), .val (.int p4), .val (.int p5), .val (.long q6), .second, .val (.int N), .val (.int A1), .val (.int B1), .val (.int A2), .val (.int B2), .val (.int M), .val (.int v2), .val (.int v5), .val (.int SF), .val (.int STt), .val (.int FF), .val (.int FT), .val (.int v9), .val (.int v13), .val (.ref b15), .unset, .unset, .unset]) rfl ?_
    show Steps p.tables e below (T16.setTop (mkF m 197 #[.val (.int p1), .val (.int p2), .val (.int p3), .val (.int p4), .val (.int p5), .val (.long q6), .second, .val (.int N), .val (.int A1), .val (.int B1), .val (.int A2), .val (.int B2), .val (.int M), .val (.int v2), .val (.int v5), .val (.int SF), .val (.int STt), .val (.int FF), .val (.int FT), .val (.int v9), .val (.int v13), .val (.ref b15), .unset, .unset, .unset] [])) _
    refine XS.iload X16.here hx rfl (hb hby at_197) rfl ?_
    exact k)
  obtain ⟨T24, L24, h24, X24, e24, N24, K24, Zs24, O24, E_b15_24, F_size_b15_24, F_words_b15_24, F_rows_b15_24, A_b16_24, pre24⟩ : ∃ (T' : State) (L' : List Loc) (h' : Heap), Stand p l e room_1 s m #[(.int p1), (.int p2), (.int p3), (.int p4), (.int p5), (.long q6)] below meth c T' L' 2 1027 ∧ T'.heap = h' ∧ Fr n0 L' ∧ Keep h0 h' ([] : List Addr) ∧ n0 ≤ h'.size ∧ Old Z n0 h' ∧ Exa Z h' b15 "com/example/fenceline/fenceline/model/Relation" ∧ Fld Z h' b15 "com/example/fenceline/fenceline/model/Relation" "size" "I" (.int N) ∧ Fld Z h' b15 "com/example/fenceline/fenceline/model/Relation" "words" "I" (.int (((N + (63 : Int32)).toUInt32 >>> ((6 : Int32) &&& 31).toUInt32).toInt32)) ∧ Fld Z h' b15 "com/example/fenceline/fenceline/model/Relation" "rows" "[J" (.ref b16) ∧ own_A Z h' b16 .long (N * (((N + (63 : Int32)).toUInt32 >>> ((6 : Int32) &&& 31).toUInt32).toInt32)) (fun i => .long (y25 i)) ∧ ∀ t, Steps p.tables e below (T'.setTop (mkF m 211 #[.val (.int p1), .val (.int p2), .val (.int p3), .val (.int p4), .val (.int p5), .val (.long q6), .second, .val (.int N), .val (.int A1), .val (.int B1), .val (.int A2), .val (.int B2), .val (.int M), .val (.int v2), .val (.int v5), .val (.int SF), .val (.int STt), .val (.int FF), .val (.int FT), .val (.int v9), .val (.int v13), .val (.ref b15), .unset, .unset, .unset] [])) t → Steps p.tables e below (s₁.setTop (entryFrame m #[(.int p1), (.int p2), (.int p3), (.int p4), (.int p5), (.long q6)] maxLocals)) t := by
    by_cases hc19 : v2 = (0 : Int32)
    · have pre20 : ∀ t, Steps p.tables e below (T16.setTop (mkF m 211 #[.val (.int p1), .val (.int p2), .val (.int p3), .val (.int p4), .val (.int p5), .val (.long q6), .second, .val (.int N), .val (.int A1), .val (.int B1), .val (.int A2), .val (.int B2), .val (.int M), .val (.int v2), .val (.int v5), .val (.int SF), .val (.int STt), .val (.int FF), .val (.int FT), .val (.int v9), .val (.int v13), .val (.ref b15), .unset, .unset, .unset] [])) t → Steps p.tables e below (s₁.setTop (entryFrame m #[(.int p1), (.int p2), (.int p3), (.int p4), (.int p5), (.long q6)] maxLocals)) t := fun t k => pre18 t (by
        show Steps p.tables e below (T16.setTop (mkF m 199 #[.val (.int p1), .val (.int p2), .val (.int p3), .val (.int p4), .val (.int p5), .val (.long q6), .second, .val (.int N), .val (.int A1), .val (.int B1), .val (.int A2), .val (.int B2), .val (.int M), .val (.int v2), .val (.int v5), .val (.int SF), .val (.int STt), .val (.int FF), .val (.int FT), .val (.int v9), .val (.int v13), .val (.ref b15), .unset, .unset, .unset] [(.int v2)])) _
        refine XS.ifYes X16.here hx rfl (pc0 := 199) (pc' := 211) rfl (hb hby at_199) rfl ((if0 _ _).trans (teq hc19).1) (by decide) (by decide) ?_
        exact k)
      have evy25 : y25 = y17 := by exact hy25.trans (if_pos hc19)
      subst evy25
      exact ⟨T16, _, h16, X16, e16, N16, K16, Zs16, O16, E_b15_16, F_size_b15_16, F_words_b15_16, F_rows_b15_16, A_b16_16, pre20⟩
    · obtain ⟨cq21, kq21, q21a, q21b, q21c⟩ := isOf hZ e16 E_b15_16
      obtain ⟨_, _, ⟨T21, L21, k21, n21⟩, -, X21, ⟨Lc21, hQ21, l21, y21, z21⟩, st21⟩ := X16.virtualBack hx (y := (⟨"com/example/fenceline/fenceline/model/Relation", "add", "(II)V"⟩ : MethodName)) (z := (⟨"com/example/fenceline/fenceline/model/Relation", "add", "(II)V"⟩ : MethodName)) hown (mvT hZ (hw _ (List.mem_of_getElem? (i := 26) rfl))) (mvT hZ (hw _ (List.mem_of_getElem? (i := 27) rfl))) (notFace_of_selects (args := #[]) (mvT hZ (hw _ (List.mem_of_getElem? (i := 29) rfl)))) (mvT hZ (hw _ (List.mem_of_getElem? (i := 29) rfl))) (mvT hZ (hw _ (List.mem_of_getElem? (i := 28) rfl))) (by decide) (backOf (W := 0) (rm4 l Z a0 hw [] b15 A1 B1 b16 (((N + (63 : Int32)).toUInt32 >>> ((6 : Int32) &&& 31).toUInt32).toInt32) (N * (((N + (63 : Int32)).toUInt32 >>> ((6 : Int32) &&& 31).toUInt32).toInt32)) y17 h16 n0 Zs16 F_rows_b15_16 F_words_b15_16 A_b16_16 ne_b15_b16 g_b16 (own_I_in (own_N1 hN).1 (own_N1 hN).2 (own_rem (own_N1 hN) hA1) (own_rem (own_N1 hN) hB1))) hZ (hw _ (List.mem_of_getElem? (i := 30) rfl)) (hw _ (List.mem_of_getElem? (i := 7) rfl)) (by decide) (by decide)) q21a q21c (g := (mkF m 208 #[.val (.int p1), .val (.int p2), .val (.int p3), .val (.int p4), .val (.int p5), .val (.long q6), .second, .val (.int N), .val (.int A1), .val (.int B1), .val (.int A2), .val (.int B2), .val (.int M), .val (.int v2), .val (.int v5), .val (.int SF), .val (.int STt), .val (.int FF), .val (.int FT), .val (.int v9), .val (.int v13), .val (.ref b15), .unset, .unset, .unset] [(.int B1), (.int A1), (.ref b15)])) rfl (by rw [hml]; rfl) (Steps.refl _) (argsL := [(.int A1), (.int B1)]) (rest := []) (lenOf pd_1 rfl) rfl (by show 2 * 0 + _ ≤ _; exact Nat.le_of_eq rfl) (hb hby at_208) (fun _ _ => ⟨rfl, e16, (by decide : 2 + 0 ≤ _), (by decide : 1027 + 0 ≤ _)⟩)
      dsimp only [Pt.U, Pt.locs, Pt.cells, Pt.slots] at X21 l21 y21 z21 st21 hQ21
      subst l21 y21 z21
      obtain ⟨h21, e21⟩ : ∃ z, T21.heap = z := ⟨_, rfl⟩
      rw [e21] at hQ21
      obtain ⟨rfl, N21q, Kc21, A_b16_21q⟩ := hQ21
      have E_b15_21 : Exa Z h21 b15 "com/example/fenceline/fenceline/model/Relation" := E_b15_16.keep Kc21
      have F_size_b15_21 : Fld Z h21 b15 "com/example/fenceline/fenceline/model/Relation" "size" "I" (.int N) := F_size_b15_16.keep Kc21 (ninS ne_b15_b16 nin0)
      have F_words_b15_21 : Fld Z h21 b15 "com/example/fenceline/fenceline/model/Relation" "words" "I" (.int (((N + (63 : Int32)).toUInt32 >>> ((6 : Int32) &&& 31).toUInt32).toInt32)) := F_words_b15_16.keep Kc21 (ninS ne_b15_b16 nin0)
      have F_rows_b15_21 : Fld Z h21 b15 "com/example/fenceline/fenceline/model/Relation" "rows" "[J" (.ref b16) := F_rows_b15_16.keep Kc21 (ninS ne_b15_b16 nin0)
      have K21 := K16.trans Kc21 (allS (Or.inr sz_b16) all0)
      have Zs21 := Nat.le_trans Zs16 Kc21.1
      have O21 := O16.keep Kc21 (allS g_b16 all0)
      obtain ⟨y22, hy22⟩ : ∃ yy_ : Int32 → Int64, yy_ = (fun i => if i = ((A1 * (((N + (63 : Int32)).toUInt32 >>> ((6 : Int32) &&& 31).toUInt32).toInt32)) + ((B1.toUInt32 >>> ((6 : Int32) &&& 31).toUInt32).toInt32)) then ((y17 ((A1 * (((N + (63 : Int32)).toUInt32 >>> ((6 : Int32) &&& 31).toUInt32).toInt32)) + ((B1.toUInt32 >>> ((6 : Int32) &&& 31).toUInt32).toInt32))) ||| ((1 : Int64) <<< (B1 &&& 0x3f).toInt64)) else y17 i) := ⟨_, rfl⟩
      have A_b16_21 : own_A Z h21 b16 .long (N * (((N + (63 : Int32)).toUInt32 >>> ((6 : Int32) &&& 31).toUInt32).toInt32)) (fun i => .long (y22 i)) := by subst hy22; exact A_b16_21q
      have N21 := Fr.app N16 N21q
      have pre23 : ∀ t, Steps p.tables e below (T21.setTop (mkF m 211 #[.val (.int p1), .val (.int p2), .val (.int p3), .val (.int p4), .val (.int p5), .val (.long q6), .second, .val (.int N), .val (.int A1), .val (.int B1), .val (.int A2), .val (.int B2), .val (.int M), .val (.int v2), .val (.int v5), .val (.int SF), .val (.int STt), .val (.int FF), .val (.int FT), .val (.int v9), .val (.int v13), .val (.ref b15), .unset, .unset, .unset] [])) t → Steps p.tables e below (s₁.setTop (entryFrame m #[(.int p1), (.int p2), (.int p3), (.int p4), (.int p5), (.long q6)] maxLocals)) t := fun t k => pre18 t (by
        show Steps p.tables e below (T16.setTop (mkF m 199 #[.val (.int p1), .val (.int p2), .val (.int p3), .val (.int p4), .val (.int p5), .val (.long q6), .second, .val (.int N), .val (.int A1), .val (.int B1), .val (.int A2), .val (.int B2), .val (.int M), .val (.int v2), .val (.int v5), .val (.int SF), .val (.int STt), .val (.int FF), .val (.int FT), .val (.int v9), .val (.int v13), .val (.ref b15), .unset, .unset, .unset] [(.int v2)])) _
        refine XS.ifNo X16.here hx rfl (hb hby at_199) rfl ((if0 _ _).trans (feq hc19).1) ?_
        show Steps p.tables e below (T16.setTop (mkF m 202 #[.val (.int p1), .val (.int p2), .val (.int p3), .val (.int p4), .val (.int p5), .val (.long q6), .second, .val (.int N), .val (.int A1), .val (.int B1), .val (.int A2), .val (.int B2), .val (.int M), .val (.int v2), .val (.int v5), .val (.int SF), .val (.int STt), .val (.int FF), .val (.int FT), .val (.int v9), .val (.int v13), .val (.ref b15), .unset, .unset, .unset] [])) _
        refine XS.aload X16.here hx rfl (hb hby at_202) rfl rfl ?_
        show Steps p.tables e below (T16.setTop (mkF m 204 #[.val (.int p1), .val (.int p2), .val (.int p3), .val (.int p4), .val (.int p5), .val (.long q6), .second, .val (.int N), .val (.int A1), .val (.int B1), .val (.int A2), .val (.int B2), .val (.int M), .val (.int v2), .val (.int v5), .val (.int SF), .val (.int STt), .val (.int FF), .val (.int FT), .val (.int v9), .val (.int v13), .val (.ref b15), .unset, .unset, .unset] [(.ref b15)])) _
        refine XS.iload X16.here hx rfl (hb hby at_204) rfl ?_
        show Steps p.tables e below (T16.setTop (mkF m 206 #[.val (.int p1), .val (.int p2), .val (.int p3), .val (.int p4), .val (.int p5), .val (.long q6), .second, .val (.int N), .val (.int A1), .val (.int B1), .val (.int A2), .val (.int B2), .val (.int M), .val (.int v2), .val (.int v5), .val (.int SF), .val (.int STt), .val (.int FF), .val (.int FT), .val (.int v9), .val (.int v13), .val (.ref b15), .unset, .unset, .unset] [(.int A1), (.ref b15)])) _
        refine XS.iload X16.here hx rfl (hb hby at_206) rfl ?_
        show Steps p.tables e below (T16.setTop (mkF m 208 #[.val (.int p1), .val (.int p2), .val (.int p3), .val (.int p4), .val (.int p5), .val (.long q6), .second, .val (.int N), .val (.int A1), .val (.int B1), .val (.int A2), .val (.int B2), .val (.int M), .val (.int v2), .val (.int v5), .val (.int SF), .val (.int STt), .val (.int FF), .val (.int FT), .val (.int v9), .val (.int v13), .val (.ref b15), .unset, .unset, .unset] [(.int B1), (.int A1), (.ref b15)])) _
        refine st21.trans ?_
        exact k)
      have evy25 : y25 = y22 := by subst hy22; exact hy25.trans (if_neg hc19)
      subst evy25
      exact ⟨T21, _, h21, X21, e21, N21, K21, Zs21, O21, E_b15_21, F_size_b15_21, F_words_b15_21, F_rows_b15_21, A_b16_21, pre23⟩
  obtain ⟨y33, hy33⟩ : ∃ z : Int32 → Int64, z = (if v5 = (0 : Int32) then y25 else (fun i => if i = ((A2 * (((N + (63 : Int32)).toUInt32 >>> ((6 : Int32) &&& 31).toUInt32).toInt32)) + ((B2.toUInt32 >>> ((6 : Int32) &&& 31).toUInt32).toInt32)) then ((y25 ((A2 * (((N + (63 : Int32)).toUInt32 >>> ((6 : Int32) &&& 31).toUInt32).toInt32)) + ((B2.toUInt32 >>> ((6 : Int32) &&& 31).toUInt32).toInt32))) ||| ((1 : Int64) <<< (B2 &&& 0x3f).toInt64)) else y25 i)) := ⟨_, rfl⟩
  have pre26 : ∀ t, Steps p.tables e below (T24.setTop (mkF m 213 #[.val (.int p1), .val (.int p2), .val (.int p3), .val (.int p4), .val (.int p5), .val (.long q6), .second, .val (.int N), .val (.int A1), .val (.int B1), .val (.int A2), .val (.int B2), .val (.int M), .val (.int v2), .val (.int v5), .val (.int SF), .val (.int STt), .val (.int FF), .val (.int FT), .val (.int v9), .val (.int v13), .val (.ref b15), .unset, .unset, .unset] [(.int v5)])) t → Steps p.tables e below (s₁.setTop (entryFrame m #[(.int p1), (.int p2), (.int p3), (.int p4), (.int p5), (.long q6)] maxLocals)) t := fun t k => pre24 t (by
    show Steps p.tables e below (T24.setTop (mkF m 211 #[.val (.int p1), .val (.int p2), .val (.int p3), .val (.int p4), .val (.int p5), .val (.long q6), .second, .val (.int N), .val (.int A1), .val (.int B1), .val (.int A2), .val (.int B2), .val (.int M), .val (.int v2), .val (.int v5), .val (.int SF), .val (.int STt), .val (.int FF), .val (.int FT), .val (.int v9), .val (.int v13), .val (.ref b15), .unset, .unset, .unset] [])) _
    refine XS.iload X24.here hx rfl (hb hby at_211) rfl ?_
    exact k)
  obtain ⟨T32, L32, h32, X32, e32, N32, K32, Zs32, O32, E_b15_32, F_size_b15_32, F_words_b15_32, F_rows_b15_32, A_b16_32, pre32⟩ : ∃ (T' : State) (L' : List Loc) (h' : Heap), Stand p l e room_1 s m #[(.int p1), (.int p2), (.int p3), (.int p4), (.int p5), (.long q6)] below meth c T' L' 2 1027 ∧ T'.heap = h' ∧ Fr n0 L' ∧ Keep h0 h' ([] : List Addr) ∧ n0 ≤ h'.size ∧ Old Z n0 h' ∧ Exa Z h' b15 "com/example/fenceline/fenceline/model/Relation" ∧ Fld Z h' b15 "com/example/fenceline/fenceline/model/Relation" "size" "I" (.int N) ∧ Fld Z h' b15 "com/example/fenceline/fenceline/model/Relation" "words" "I" (.int (((N + (63 : Int32)).toUInt32 >>> ((6 : Int32) &&& 31).toUInt32).toInt32)) ∧ Fld Z h' b15 "com/example/fenceline/fenceline/model/Relation" "rows" "[J" (.ref b16) ∧ own_A Z h' b16 .long (N * (((N + (63 : Int32)).toUInt32 >>> ((6 : Int32) &&& 31).toUInt32).toInt32)) (fun i => .long (y33 i)) ∧ ∀ t, Steps p.tables e below (T'.setTop (mkF m 225 #[.val (.int p1), .val (.int p2), .val (.int p3), .val (.int p4), .val (.int p5), .val (.long q6), .second, .val (.int N), .val (.int A1), .val (.int B1), .val (.int A2), .val (.int B2), .val (.int M), .val (.int v2), .val (.int v5), .val (.int SF), .val (.int STt), .val (.int FF), .val (.int FT), .val (.int v9), .val (.int v13), .val (.ref b15), .unset, .unset, .unset] [])) t → Steps p.tables e below (s₁.setTop (entryFrame m #[(.int p1), (.int p2), (.int p3), (.int p4), (.int p5), (.long q6)] maxLocals)) t := by
    by_cases hc27 : v5 = (0 : Int32)
    · have pre28 : ∀ t, Steps p.tables e below (T24.setTop (mkF m 225 #[.val (.int p1), .val (.int p2), .val (.int p3), .val (.int p4), .val (.int p5), .val (.long q6), .second, .val (.int N), .val (.int A1), .val (.int B1), .val (.int A2), .val (.int B2), .val (.int M), .val (.int v2), .val (.int v5), .val (.int SF), .val (.int STt), .val (.int FF), .val (.int FT), .val (.int v9), .val (.int v13), .val (.ref b15), .unset, .unset, .unset] [])) t → Steps p.tables e below (s₁.setTop (entryFrame m #[(.int p1), (.int p2), (.int p3), (.int p4), (.int p5), (.long q6)] maxLocals)) t := fun t k => pre26 t (by
        show Steps p.tables e below (T24.setTop (mkF m 213 #[.val (.int p1), .val (.int p2), .val (.int p3), .val (.int p4), .val (.int p5), .val (.long q6), .second, .val (.int N), .val (.int A1), .val (.int B1), .val (.int A2), .val (.int B2), .val (.int M), .val (.int v2), .val (.int v5), .val (.int SF), .val (.int STt), .val (.int FF), .val (.int FT), .val (.int v9), .val (.int v13), .val (.ref b15), .unset, .unset, .unset] [(.int v5)])) _
        refine XS.ifYes X24.here hx rfl (pc0 := 213) (pc' := 225) rfl (hb hby at_213) rfl ((if0 _ _).trans (teq hc27).1) (by decide) (by decide) ?_
        exact k)
      have evy33 : y33 = y25 := by exact hy33.trans (if_pos hc27)
      subst evy33
      exact ⟨T24, _, h24, X24, e24, N24, K24, Zs24, O24, E_b15_24, F_size_b15_24, F_words_b15_24, F_rows_b15_24, A_b16_24, pre28⟩
    · obtain ⟨cq29, kq29, q29a, q29b, q29c⟩ := isOf hZ e24 E_b15_24
      obtain ⟨_, _, ⟨T29, L29, k29, n29⟩, -, X29, ⟨Lc29, hQ29, l29, y29, z29⟩, st29⟩ := X24.virtualBack hx (y := (⟨"com/example/fenceline/fenceline/model/Relation", "add", "(II)V"⟩ : MethodName)) (z := (⟨"com/example/fenceline/fenceline/model/Relation", "add", "(II)V"⟩ : MethodName)) hown (mvT hZ (hw _ (List.mem_of_getElem? (i := 26) rfl))) (mvT hZ (hw _ (List.mem_of_getElem? (i := 27) rfl))) (notFace_of_selects (args := #[]) (mvT hZ (hw _ (List.mem_of_getElem? (i := 29) rfl)))) (mvT hZ (hw _ (List.mem_of_getElem? (i := 29) rfl))) (mvT hZ (hw _ (List.mem_of_getElem? (i := 28) rfl))) (by decide) (backOf (W := 0) (rm4 l Z a0 hw [] b15 A2 B2 b16 (((N + (63 : Int32)).toUInt32 >>> ((6 : Int32) &&& 31).toUInt32).toInt32) (N * (((N + (63 : Int32)).toUInt32 >>> ((6 : Int32) &&& 31).toUInt32).toInt32)) y25 h24 n0 Zs24 F_rows_b15_24 F_words_b15_24 A_b16_24 ne_b15_b16 g_b16 (own_I_in (own_N1 hN).1 (own_N1 hN).2 (own_rem (own_N1 hN) hA2) (own_rem (own_N1 hN) hB2))) hZ (hw _ (List.mem_of_getElem? (i := 30) rfl)) (hw _ (List.mem_of_getElem? (i := 7) rfl)) (by decide) (by decide)) q29a q29c (g := (mkF m 222 #[.val (.int p1), .val (.int p2), .val (.int p3), .val (.int p4), .val (.int p5), .val (.long q6), .second, .val (.int N), .val (.int A1), .val (.int B1), .val (.int A2), .val (.int B2), .val (.int M), .val (.int v2), .val (.int v5), .val (.int SF), .val (.int STt), .val (.int FF), .val (.int FT), .val (.int v9), .val (.int v13), .val (.ref b15), .unset, .unset, .unset] [(.int B2), (.int A2), (.ref b15)])) rfl (by rw [hml]; rfl) (Steps.refl _) (argsL := [(.int A2), (.int B2)]) (rest := []) (lenOf pd_1 rfl) rfl (by show 2 * 0 + _ ≤ _; exact Nat.le_of_eq rfl) (hb hby at_222) (fun _ _ => ⟨rfl, e24, (by decide : 2 + 0 ≤ _), (by decide : 1027 + 0 ≤ _)⟩)
      dsimp only [Pt.U, Pt.locs, Pt.cells, Pt.slots] at X29 l29 y29 z29 st29 hQ29
      subst l29 y29 z29
      obtain ⟨h29, e29⟩ : ∃ z, T29.heap = z := ⟨_, rfl⟩
      rw [e29] at hQ29
      obtain ⟨rfl, N29q, Kc29, A_b16_29q⟩ := hQ29
      have E_b15_29 : Exa Z h29 b15 "com/example/fenceline/fenceline/model/Relation" := E_b15_24.keep Kc29
      have F_size_b15_29 : Fld Z h29 b15 "com/example/fenceline/fenceline/model/Relation" "size" "I" (.int N) := F_size_b15_24.keep Kc29 (ninS ne_b15_b16 nin0)
      have F_words_b15_29 : Fld Z h29 b15 "com/example/fenceline/fenceline/model/Relation" "words" "I" (.int (((N + (63 : Int32)).toUInt32 >>> ((6 : Int32) &&& 31).toUInt32).toInt32)) := F_words_b15_24.keep Kc29 (ninS ne_b15_b16 nin0)
      have F_rows_b15_29 : Fld Z h29 b15 "com/example/fenceline/fenceline/model/Relation" "rows" "[J" (.ref b16) := F_rows_b15_24.keep Kc29 (ninS ne_b15_b16 nin0)
      have K29 := K24.trans Kc29 (allS (Or.inr sz_b16) all0)
      have Zs29 := Nat.le_trans Zs24 Kc29.1
      have O29 := O24.keep Kc29 (allS g_b16 all0)
      obtain ⟨y30, hy30⟩ : ∃ yy_ : Int32 → Int64, yy_ = (fun i => if i = ((A2 * (((N + (63 : Int32)).toUInt32 >>> ((6 : Int32) &&& 31).toUInt32).toInt32)) + ((B2.toUInt32 >>> ((6 : Int32) &&& 31).toUInt32).toInt32)) then ((y25 ((A2 * (((N + (63 : Int32)).toUInt32 >>> ((6 : Int32) &&& 31).toUInt32).toInt32)) + ((B2.toUInt32 >>> ((6 : Int32) &&& 31).toUInt32).toInt32))) ||| ((1 : Int64) <<< (B2 &&& 0x3f).toInt64)) else y25 i) := ⟨_, rfl⟩
      have A_b16_29 : own_A Z h29 b16 .long (N * (((N + (63 : Int32)).toUInt32 >>> ((6 : Int32) &&& 31).toUInt32).toInt32)) (fun i => .long (y30 i)) := by subst hy30; exact A_b16_29q
      have N29 := Fr.app N24 N29q
      have pre31 : ∀ t, Steps p.tables e below (T29.setTop (mkF m 225 #[.val (.int p1), .val (.int p2), .val (.int p3), .val (.int p4), .val (.int p5), .val (.long q6), .second, .val (.int N), .val (.int A1), .val (.int B1), .val (.int A2), .val (.int B2), .val (.int M), .val (.int v2), .val (.int v5), .val (.int SF), .val (.int STt), .val (.int FF), .val (.int FT), .val (.int v9), .val (.int v13), .val (.ref b15), .unset, .unset, .unset] [])) t → Steps p.tables e below (s₁.setTop (entryFrame m #[(.int p1), (.int p2), (.int p3), (.int p4), (.int p5), (.long q6)] maxLocals)) t := fun t k => pre26 t (by
        show Steps p.tables e below (T24.setTop (mkF m 213 #[.val (.int p1), .val (.int p2), .val (.int p3), .val (.int p4), .val (.int p5), .val (.long q6), .second, .val (.int N), .val (.int A1), .val (.int B1), .val (.int A2), .val (.int B2), .val (.int M), .val (.int v2), .val (.int v5), .val (.int SF), .val (.int STt), .val (.int FF), .val (.int FT), .val (.int v9), .val (.int v13), .val (.ref b15), .unset, .unset, .unset] [(.int v5)])) _
        refine XS.ifNo X24.here hx rfl (hb hby at_213) rfl ((if0 _ _).trans (feq hc27).1) ?_
        show Steps p.tables e below (T24.setTop (mkF m 216 #[.val (.int p1), .val (.int p2), .val (.int p3), .val (.int p4), .val (.int p5), .val (.long q6), .second, .val (.int N), .val (.int A1), .val (.int B1), .val (.int A2), .val (.int B2), .val (.int M), .val (.int v2), .val (.int v5), .val (.int SF), .val (.int STt), .val (.int FF), .val (.int FT), .val (.int v9), .val (.int v13), .val (.ref b15), .unset, .unset, .unset] [])) _
        refine XS.aload X24.here hx rfl (hb hby at_216) rfl rfl ?_
        show Steps p.tables e below (T24.setTop (mkF m 218 #[.val (.int p1), .val (.int p2), .val (.int p3), .val (.int p4), .val (.int p5), .val (.long q6), .second, .val (.int N), .val (.int A1), .val (.int B1), .val (.int A2), .val (.int B2), .val (.int M), .val (.int v2), .val (.int v5), .val (.int SF), .val (.int STt), .val (.int FF), .val (.int FT), .val (.int v9), .val (.int v13), .val (.ref b15), .unset, .unset, .unset] [(.ref b15)])) _
        refine XS.iload X24.here hx rfl (hb hby at_218) rfl ?_
        show Steps p.tables e below (T24.setTop (mkF m 220 #[.val (.int p1), .val (.int p2), .val (.int p3), .val (.int p4), .val (.int p5), .val (.long q6), .second, .val (.int N), .val (.int A1), .val (.int B1), .val (.int A2), .val (.int B2), .val (.int M), .val (.int v2), .val (.int v5), .val (.int SF), .val (.int STt), .val (.int FF), .val (.int FT), .val (.int v9), .val (.int v13), .val (.ref b15), .unset, .unset, .unset] [(.int A2), (.ref b15)])) _
        refine XS.iload X24.here hx rfl (hb hby at_220) rfl ?_
        show Steps p.tables e below (T24.setTop (mkF m 222 #[.val (.int p1), .val (.int p2), .val (.int p3), .val (.int p4), .val (.int p5), .val (.long q6), .second, .val (.int N), .val (.int A1), .val (.int B1), .val (.int A2), .val (.int B2), .val (.int M), .val (.int v2), .val (.int v5), .val (.int SF), .val (.int STt), .val (.int FF), .val (.int FT), .val (.int v9), .val (.int v13), .val (.ref b15), .unset, .unset, .unset] [(.int B2), (.int A2), (.ref b15)])) _
        refine st29.trans ?_
        exact k)
      have evy33 : y33 = y30 := by subst hy30; exact hy33.trans (if_neg hc27)
      subst evy33
      exact ⟨T29, _, h29, X29, e29, N29, K29, Zs29, O29, E_b15_29, F_size_b15_29, F_words_b15_29, F_rows_b15_29, A_b16_29, pre31⟩
  obtain ⟨v46, hv46⟩ : ∃ z : Int32, z = (if v2 = (0 : Int32) then (if v5 = (0 : Int32) then (0 : Int32) else (if v9 = A2 then (if v13 = B2 then (1 : Int32) else (0 : Int32)) else (0 : Int32))) else (if v9 = A1 then (if v13 = B1 then (1 : Int32) else (if v5 = (0 : Int32) then (0 : Int32) else (if v9 = A2 then (if v13 = B2 then (1 : Int32) else (0 : Int32)) else (0 : Int32)))) else (if v5 = (0 : Int32) then (0 : Int32) else (if v9 = A2 then (if v13 = B2 then (1 : Int32) else (0 : Int32)) else (0 : Int32))))) := ⟨_, rfl⟩
  have pre47 : ∀ t, Steps p.tables e below (T32.setTop (mkF m 268 #[.val (.int p1), .val (.int p2), .val (.int p3), .val (.int p4), .val (.int p5), .val (.long q6), .second, .val (.int N), .val (.int A1), .val (.int B1), .val (.int A2), .val (.int B2), .val (.int M), .val (.int v2), .val (.int v5), .val (.int SF), .val (.int STt), .val (.int FF), .val (.int FT), .val (.int v9), .val (.int v13), .val (.ref b15), .unset, .unset, .unset] [(.int v46)])) t → Steps p.tables e below (s₁.setTop (entryFrame m #[(.int p1), (.int p2), (.int p3), (.int p4), (.int p5), (.long q6)] maxLocals)) t := fun t k => pre32 t (by
    show Steps p.tables e below (T32.setTop (mkF m 225 #[.val (.int p1), .val (.int p2), .val (.int p3), .val (.int p4), .val (.int p5), .val (.long q6), .second, .val (.int N), .val (.int A1), .val (.int B1), .val (.int A2), .val (.int B2), .val (.int M), .val (.int v2), .val (.int v5), .val (.int SF), .val (.int STt), .val (.int FF), .val (.int FT), .val (.int v9), .val (.int v13), .val (.ref b15), .unset, .unset, .unset] [])) _
    refine XS.iload X32.here hx rfl (hb hby at_225) rfl ?_
    show Steps p.tables e below (T32.setTop (mkF m 227 #[.val (.int p1), .val (.int p2), .val (.int p3), .val (.int p4), .val (.int p5), .val (.long q6), .second, .val (.int N), .val (.int A1), .val (.int B1), .val (.int A2), .val (.int B2), .val (.int M), .val (.int v2), .val (.int v5), .val (.int SF), .val (.int STt), .val (.int FF), .val (.int FT), .val (.int v9), .val (.int v13), .val (.ref b15), .unset, .unset, .unset] [(.int v2)])) _
    by_cases hc34 : v2 = (0 : Int32)
    · refine XS.ifYes X32.here hx rfl (pc0 := 227) (pc' := 244) rfl (hb hby at_227) rfl ((if0 _ _).trans (teq hc34).1) (by decide) (by decide) ?_
      show Steps p.tables e below (T32.setTop (mkF m 244 #[.val (.int p1), .val (.int p2), .val (.int p3), .val (.int p4), .val (.int p5), .val (.long q6), .second, .val (.int N), .val (.int A1), .val (.int B1), .val (.int A2), .val (.int B2), .val (.int M), .val (.int v2), .val (.int v5), .val (.int SF), .val (.int STt), .val (.int FF), .val (.int FT), .val (.int v9), .val (.int v13), .val (.ref b15), .unset, .unset, .unset] [])) _
      refine XS.iload X32.here hx rfl (hb hby at_244) rfl ?_
      show Steps p.tables e below (T32.setTop (mkF m 246 #[.val (.int p1), .val (.int p2), .val (.int p3), .val (.int p4), .val (.int p5), .val (.long q6), .second, .val (.int N), .val (.int A1), .val (.int B1), .val (.int A2), .val (.int B2), .val (.int M), .val (.int v2), .val (.int v5), .val (.int SF), .val (.int STt), .val (.int FF), .val (.int FT), .val (.int v9), .val (.int v13), .val (.ref b15), .unset, .unset, .unset] [(.int v5)])) _
      by_cases hc35 : v5 = (0 : Int32)
      · refine XS.ifYes X32.here hx rfl (pc0 := 246) (pc' := 267) rfl (hb hby at_246) rfl ((if0 _ _).trans (teq hc35).1) (by decide) (by decide) ?_
        show Steps p.tables e below (T32.setTop (mkF m 267 #[.val (.int p1), .val (.int p2), .val (.int p3), .val (.int p4), .val (.int p5), .val (.long q6), .second, .val (.int N), .val (.int A1), .val (.int B1), .val (.int A2), .val (.int B2), .val (.int M), .val (.int v2), .val (.int v5), .val (.int SF), .val (.int STt), .val (.int FF), .val (.int FT), .val (.int v9), .val (.int v13), .val (.ref b15), .unset, .unset, .unset] [])) _
        refine XS.iconst X32.here hx rfl (hb hby at_267) ?_
        rw [show v46 = (0 : Int32) from hv46.trans ((if_pos hc34).trans (if_pos hc35))] at k
        exact k
      · refine XS.ifNo X32.here hx rfl (hb hby at_246) rfl ((if0 _ _).trans (feq hc35).1) ?_
        show Steps p.tables e below (T32.setTop (mkF m 249 #[.val (.int p1), .val (.int p2), .val (.int p3), .val (.int p4), .val (.int p5), .val (.long q6), .second, .val (.int N), .val (.int A1), .val (.int B1), .val (.int A2), .val (.int B2), .val (.int M), .val (.int v2), .val (.int v5), .val (.int SF), .val (.int STt), .val (.int FF), .val (.int FT), .val (.int v9), .val (.int v13), .val (.ref b15), .unset, .unset, .unset] [])) _
        refine XS.iload X32.here hx rfl (hb hby at_249) rfl ?_
        show Steps p.tables e below (T32.setTop (mkF m 251 #[.val (.int p1), .val (.int p2), .val (.int p3), .val (.int p4), .val (.int p5), .val (.long q6), .second, .val (.int N), .val (.int A1), .val (.int B1), .val (.int A2), .val (.int B2), .val (.int M), .val (.int v2), .val (.int v5), .val (.int SF), .val (.int STt), .val (.int FF), .val (.int FT), .val (.int v9), .val (.int v13), .val (.ref b15), .unset, .unset, .unset] [(.int v9)])) _
        refine XS.iload X32.here hx rfl (hb hby at_251) rfl ?_
        show Steps p.tables e below (T32.setTop (mkF m 253 #[.val (.int p1), .val (.int p2), .val (.int p3), .val (.int p4), .val (.int p5), .val (.long q6), .second, .val (.int N), .val (.int A1), .val (.int B1), .val (.int A2), .val (.int B2), .val (.int M), .val (.int v2), .val (.int v5), .val (.int SF), .val (.int STt), .val (.int FF), .val (.int FT), .val (.int v9), .val (.int v13), .val (.ref b15), .unset, .unset, .unset] [(.int A2), (.int v9)])) _
        by_cases hc36 : v9 = A2
        · refine XS.icmpNo X32.here hx rfl (hb hby at_253) rfl (teq hc36).2 ?_
          show Steps p.tables e below (T32.setTop (mkF m 256 #[.val (.int p1), .val (.int p2), .val (.int p3), .val (.int p4), .val (.int p5), .val (.long q6), .second, .val (.int N), .val (.int A1), .val (.int B1), .val (.int A2), .val (.int B2), .val (.int M), .val (.int v2), .val (.int v5), .val (.int SF), .val (.int STt), .val (.int FF), .val (.int FT), .val (.int v9), .val (.int v13), .val (.ref b15), .unset, .unset, .unset] [])) _
          refine XS.iload X32.here hx rfl (hb hby at_256) rfl ?_
          show Steps p.tables e below (T32.setTop (mkF m 258 #[.val (.int p1), .val (.int p2), .val (.int p3), .val (.int p4), .val (.int p5), .val (.long q6), .second, .val (.int N), .val (.int A1), .val (.int B1), .val (.int A2), .val (.int B2), .val (.int M), .val (.int v2), .val (.int v5), .val (.int SF), .val (.int STt), .val (.int FF), .val (.int FT), .val (.int v9), .val (.int v13), .val (.ref b15), .unset, .unset, .unset] [(.int v13)])) _
          refine XS.iload X32.here hx rfl (hb hby at_258) rfl ?_
          show Steps p.tables e below (T32.setTop (mkF m 260 #[.val (.int p1), .val (.int p2), .val (.int p3), .val (.int p4), .val (.int p5), .val (.long q6), .second, .val (.int N), .val (.int A1), .val (.int B1), .val (.int A2), .val (.int B2), .val (.int M), .val (.int v2), .val (.int v5), .val (.int SF), .val (.int STt), .val (.int FF), .val (.int FT), .val (.int v9), .val (.int v13), .val (.ref b15), .unset, .unset, .unset] [(.int B2), (.int v13)])) _
          by_cases hc37 : v13 = B2
          · refine XS.icmpNo X32.here hx rfl (hb hby at_260) rfl (teq hc37).2 ?_
            show Steps p.tables e below (T32.setTop (mkF m 263 #[.val (.int p1), .val (.int p2), .val (.int p3), .val (.int p4), .val (.int p5), .val (.long q6), .second, .val (.int N), .val (.int A1), .val (.int B1), .val (.int A2), .val (.int B2), .val (.int M), .val (.int v2), .val (.int v5), .val (.int SF), .val (.int STt), .val (.int FF), .val (.int FT), .val (.int v9), .val (.int v13), .val (.ref b15), .unset, .unset, .unset] [])) _
            refine XS.iconst X32.here hx rfl (hb hby at_263) ?_
            show Steps p.tables e below (T32.setTop (mkF m 264 #[.val (.int p1), .val (.int p2), .val (.int p3), .val (.int p4), .val (.int p5), .val (.long q6), .second, .val (.int N), .val (.int A1), .val (.int B1), .val (.int A2), .val (.int B2), .val (.int M), .val (.int v2), .val (.int v5), .val (.int SF), .val (.int STt), .val (.int FF), .val (.int FT), .val (.int v9), .val (.int v13), .val (.ref b15), .unset, .unset, .unset] [(.int (1 : Int32))])) _
            refine XS.goto X32.here hx rfl (pc0 := 264) (pc' := 268) rfl (hb hby at_264) (by decide) (by decide) ?_
            rw [show v46 = (1 : Int32) from hv46.trans ((if_pos hc34).trans ((if_neg hc35).trans ((if_pos hc36).trans (if_pos hc37))))] at k
            exact k
          · refine XS.icmpYes X32.here hx rfl (pc0 := 260) (pc' := 267) rfl (hb hby at_260) rfl (feq hc37).2 (by decide) (by decide) ?_
            show Steps p.tables e below (T32.setTop (mkF m 267 #[.val (.int p1), .val (.int p2), .val (.int p3), .val (.int p4), .val (.int p5), .val (.long q6), .second, .val (.int N), .val (.int A1), .val (.int B1), .val (.int A2), .val (.int B2), .val (.int M), .val (.int v2), .val (.int v5), .val (.int SF), .val (.int STt), .val (.int FF), .val (.int FT), .val (.int v9), .val (.int v13), .val (.ref b15), .unset, .unset, .unset] [])) _
            refine XS.iconst X32.here hx rfl (hb hby at_267) ?_
            rw [show v46 = (0 : Int32) from hv46.trans ((if_pos hc34).trans ((if_neg hc35).trans ((if_pos hc36).trans (if_neg hc37))))] at k
            exact k
        · refine XS.icmpYes X32.here hx rfl (pc0 := 253) (pc' := 267) rfl (hb hby at_253) rfl (feq hc36).2 (by decide) (by decide) ?_
          show Steps p.tables e below (T32.setTop (mkF m 267 #[.val (.int p1), .val (.int p2), .val (.int p3), .val (.int p4), .val (.int p5), .val (.long q6), .second, .val (.int N), .val (.int A1), .val (.int B1), .val (.int A2), .val (.int B2), .val (.int M), .val (.int v2), .val (.int v5), .val (.int SF), .val (.int STt), .val (.int FF), .val (.int FT), .val (.int v9), .val (.int v13), .val (.ref b15), .unset, .unset, .unset] [])) _
          refine XS.iconst X32.here hx rfl (hb hby at_267) ?_
          rw [show v46 = (0 : Int32) from hv46.trans ((if_pos hc34).trans ((if_neg hc35).trans (if_neg hc36)))] at k
          exact k
    · refine XS.ifNo X32.here hx rfl (hb hby at_227) rfl ((if0 _ _).trans (feq hc34).1) ?_
      show Steps p.tables e below (T32.setTop (mkF m 230 #[.val (.int p1), .val (.int p2), .val (.int p3), .val (.int p4), .val (.int p5), .val (.long q6), .second, .val (.int N), .val (.int A1), .val (.int B1), .val (.int A2), .val (.int B2), .val (.int M), .val (.int v2), .val (.int v5), .val (.int SF), .val (.int STt), .val (.int FF), .val (.int FT), .val (.int v9), .val (.int v13), .val (.ref b15), .unset, .unset, .unset] [])) _
      refine XS.iload X32.here hx rfl (hb hby at_230) rfl ?_
      show Steps p.tables e below (T32.setTop (mkF m 232 #[.val (.int p1), .val (.int p2), .val (.int p3), .val (.int p4), .val (.int p5), .val (.long q6), .second, .val (.int N), .val (.int A1), .val (.int B1), .val (.int A2), .val (.int B2), .val (.int M), .val (.int v2), .val (.int v5), .val (.int SF), .val (.int STt), .val (.int FF), .val (.int FT), .val (.int v9), .val (.int v13), .val (.ref b15), .unset, .unset, .unset] [(.int v9)])) _
      refine XS.iload X32.here hx rfl (hb hby at_232) rfl ?_
      show Steps p.tables e below (T32.setTop (mkF m 234 #[.val (.int p1), .val (.int p2), .val (.int p3), .val (.int p4), .val (.int p5), .val (.long q6), .second, .val (.int N), .val (.int A1), .val (.int B1), .val (.int A2), .val (.int B2), .val (.int M), .val (.int v2), .val (.int v5), .val (.int SF), .val (.int STt), .val (.int FF), .val (.int FT), .val (.int v9), .val (.int v13), .val (.ref b15), .unset, .unset, .unset] [(.int A1), (.int v9)])) _
      by_cases hc38 : v9 = A1
      · refine XS.icmpNo X32.here hx rfl (hb hby at_234) rfl (teq hc38).2 ?_
        show Steps p.tables e below (T32.setTop (mkF m 237 #[.val (.int p1), .val (.int p2), .val (.int p3), .val (.int p4), .val (.int p5), .val (.long q6), .second, .val (.int N), .val (.int A1), .val (.int B1), .val (.int A2), .val (.int B2), .val (.int M), .val (.int v2), .val (.int v5), .val (.int SF), .val (.int STt), .val (.int FF), .val (.int FT), .val (.int v9), .val (.int v13), .val (.ref b15), .unset, .unset, .unset] [])) _
        refine XS.iload X32.here hx rfl (hb hby at_237) rfl ?_
        show Steps p.tables e below (T32.setTop (mkF m 239 #[.val (.int p1), .val (.int p2), .val (.int p3), .val (.int p4), .val (.int p5), .val (.long q6), .second, .val (.int N), .val (.int A1), .val (.int B1), .val (.int A2), .val (.int B2), .val (.int M), .val (.int v2), .val (.int v5), .val (.int SF), .val (.int STt), .val (.int FF), .val (.int FT), .val (.int v9), .val (.int v13), .val (.ref b15), .unset, .unset, .unset] [(.int v13)])) _
        refine XS.iload X32.here hx rfl (hb hby at_239) rfl ?_
        show Steps p.tables e below (T32.setTop (mkF m 241 #[.val (.int p1), .val (.int p2), .val (.int p3), .val (.int p4), .val (.int p5), .val (.long q6), .second, .val (.int N), .val (.int A1), .val (.int B1), .val (.int A2), .val (.int B2), .val (.int M), .val (.int v2), .val (.int v5), .val (.int SF), .val (.int STt), .val (.int FF), .val (.int FT), .val (.int v9), .val (.int v13), .val (.ref b15), .unset, .unset, .unset] [(.int B1), (.int v13)])) _
        by_cases hc39 : v13 = B1
        · refine XS.icmpYes X32.here hx rfl (pc0 := 241) (pc' := 263) rfl (hb hby at_241) rfl (teq hc39).1 (by decide) (by decide) ?_
          show Steps p.tables e below (T32.setTop (mkF m 263 #[.val (.int p1), .val (.int p2), .val (.int p3), .val (.int p4), .val (.int p5), .val (.long q6), .second, .val (.int N), .val (.int A1), .val (.int B1), .val (.int A2), .val (.int B2), .val (.int M), .val (.int v2), .val (.int v5), .val (.int SF), .val (.int STt), .val (.int FF), .val (.int FT), .val (.int v9), .val (.int v13), .val (.ref b15), .unset, .unset, .unset] [])) _
          refine XS.iconst X32.here hx rfl (hb hby at_263) ?_
          show Steps p.tables e below (T32.setTop (mkF m 264 #[.val (.int p1), .val (.int p2), .val (.int p3), .val (.int p4), .val (.int p5), .val (.long q6), .second, .val (.int N), .val (.int A1), .val (.int B1), .val (.int A2), .val (.int B2), .val (.int M), .val (.int v2), .val (.int v5), .val (.int SF), .val (.int STt), .val (.int FF), .val (.int FT), .val (.int v9), .val (.int v13), .val (.ref b15), .unset, .unset, .unset] [(.int (1 : Int32))])) _
          refine XS.goto X32.here hx rfl (pc0 := 264) (pc' := 268) rfl (hb hby at_264) (by decide) (by decide) ?_
          rw [show v46 = (1 : Int32) from hv46.trans ((if_neg hc34).trans ((if_pos hc38).trans (if_pos hc39)))] at k
          exact k
        · refine XS.icmpNo X32.here hx rfl (hb hby at_241) rfl (feq hc39).1 ?_
          show Steps p.tables e below (T32.setTop (mkF m 244 #[.val (.int p1), .val (.int p2), .val (.int p3), .val (.int p4), .val (.int p5), .val (.long q6), .second, .val (.int N), .val (.int A1), .val (.int B1), .val (.int A2), .val (.int B2), .val (.int M), .val (.int v2), .val (.int v5), .val (.int SF), .val (.int STt), .val (.int FF), .val (.int FT), .val (.int v9), .val (.int v13), .val (.ref b15), .unset, .unset, .unset] [])) _
          refine XS.iload X32.here hx rfl (hb hby at_244) rfl ?_
          show Steps p.tables e below (T32.setTop (mkF m 246 #[.val (.int p1), .val (.int p2), .val (.int p3), .val (.int p4), .val (.int p5), .val (.long q6), .second, .val (.int N), .val (.int A1), .val (.int B1), .val (.int A2), .val (.int B2), .val (.int M), .val (.int v2), .val (.int v5), .val (.int SF), .val (.int STt), .val (.int FF), .val (.int FT), .val (.int v9), .val (.int v13), .val (.ref b15), .unset, .unset, .unset] [(.int v5)])) _
          by_cases hc40 : v5 = (0 : Int32)
          · refine XS.ifYes X32.here hx rfl (pc0 := 246) (pc' := 267) rfl (hb hby at_246) rfl ((if0 _ _).trans (teq hc40).1) (by decide) (by decide) ?_
            show Steps p.tables e below (T32.setTop (mkF m 267 #[.val (.int p1), .val (.int p2), .val (.int p3), .val (.int p4), .val (.int p5), .val (.long q6), .second, .val (.int N), .val (.int A1), .val (.int B1), .val (.int A2), .val (.int B2), .val (.int M), .val (.int v2), .val (.int v5), .val (.int SF), .val (.int STt), .val (.int FF), .val (.int FT), .val (.int v9), .val (.int v13), .val (.ref b15), .unset, .unset, .unset] [])) _
            refine XS.iconst X32.here hx rfl (hb hby at_267) ?_
            rw [show v46 = (0 : Int32) from hv46.trans ((if_neg hc34).trans ((if_pos hc38).trans ((if_neg hc39).trans (if_pos hc40))))] at k
            exact k
          · refine XS.ifNo X32.here hx rfl (hb hby at_246) rfl ((if0 _ _).trans (feq hc40).1) ?_
            show Steps p.tables e below (T32.setTop (mkF m 249 #[.val (.int p1), .val (.int p2), .val (.int p3), .val (.int p4), .val (.int p5), .val (.long q6), .second, .val (.int N), .val (.int A1), .val (.int B1), .val (.int A2), .val (.int B2), .val (.int M), .val (.int v2), .val (.int v5), .val (.int SF), .val (.int STt), .val (.int FF), .val (.int FT), .val (.int v9), .val (.int v13), .val (.ref b15), .unset, .unset, .unset] [])) _
            refine XS.iload X32.here hx rfl (hb hby at_249) rfl ?_
            show Steps p.tables e below (T32.setTop (mkF m 251 #[.val (.int p1), .val (.int p2), .val (.int p3), .val (.int p4), .val (.int p5), .val (.long q6), .second, .val (.int N), .val (.int A1), .val (.int B1), .val (.int A2), .val (.int B2), .val (.int M), .val (.int v2), .val (.int v5), .val (.int SF), .val (.int STt), .val (.int FF), .val (.int FT), .val (.int v9), .val (.int v13), .val (.ref b15), .unset, .unset, .unset] [(.int v9)])) _
            refine XS.iload X32.here hx rfl (hb hby at_251) rfl ?_
            show Steps p.tables e below (T32.setTop (mkF m 253 #[.val (.int p1), .val (.int p2), .val (.int p3), .val (.int p4), .val (.int p5), .val (.long q6), .second, .val (.int N), .val (.int A1), .val (.int B1), .val (.int A2), .val (.int B2), .val (.int M), .val (.int v2), .val (.int v5), .val (.int SF), .val (.int STt), .val (.int FF), .val (.int FT), .val (.int v9), .val (.int v13), .val (.ref b15), .unset, .unset, .unset] [(.int A2), (.int v9)])) _
            by_cases hc41 : v9 = A2
            · refine XS.icmpNo X32.here hx rfl (hb hby at_253) rfl (teq hc41).2 ?_
              show Steps p.tables e below (T32.setTop (mkF m 256 #[.val (.int p1), .val (.int p2), .val (.int p3), .val (.int p4), .val (.int p5), .val (.long q6), .second, .val (.int N), .val (.int A1), .val (.int B1), .val (.int A2), .val (.int B2), .val (.int M), .val (.int v2), .val (.int v5), .val (.int SF), .val (.int STt), .val (.int FF), .val (.int FT), .val (.int v9), .val (.int v13), .val (.ref b15), .unset, .unset, .unset] [])) _
              refine XS.iload X32.here hx rfl (hb hby at_256) rfl ?_
              show Steps p.tables e below (T32.setTop (mkF m 258 #[.val (.int p1), .val (.int p2), .val (.int p3), .val (.int p4), .val (.int p5), .val (.long q6), .second, .val (.int N), .val (.int A1), .val (.int B1), .val (.int A2), .val (.int B2), .val (.int M), .val (.int v2), .val (.int v5), .val (.int SF), .val (.int STt), .val (.int FF), .val (.int FT), .val (.int v9), .val (.int v13), .val (.ref b15), .unset, .unset, .unset] [(.int v13)])) _
              refine XS.iload X32.here hx rfl (hb hby at_258) rfl ?_
              show Steps p.tables e below (T32.setTop (mkF m 260 #[.val (.int p1), .val (.int p2), .val (.int p3), .val (.int p4), .val (.int p5), .val (.long q6), .second, .val (.int N), .val (.int A1), .val (.int B1), .val (.int A2), .val (.int B2), .val (.int M), .val (.int v2), .val (.int v5), .val (.int SF), .val (.int STt), .val (.int FF), .val (.int FT), .val (.int v9), .val (.int v13), .val (.ref b15), .unset, .unset, .unset] [(.int B2), (.int v13)])) _
              by_cases hc42 : v13 = B2
              · refine XS.icmpNo X32.here hx rfl (hb hby at_260) rfl (teq hc42).2 ?_
                show Steps p.tables e below (T32.setTop (mkF m 263 #[.val (.int p1), .val (.int p2), .val (.int p3), .val (.int p4), .val (.int p5), .val (.long q6), .second, .val (.int N), .val (.int A1), .val (.int B1), .val (.int A2), .val (.int B2), .val (.int M), .val (.int v2), .val (.int v5), .val (.int SF), .val (.int STt), .val (.int FF), .val (.int FT), .val (.int v9), .val (.int v13), .val (.ref b15), .unset, .unset, .unset] [])) _
                refine XS.iconst X32.here hx rfl (hb hby at_263) ?_
                show Steps p.tables e below (T32.setTop (mkF m 264 #[.val (.int p1), .val (.int p2), .val (.int p3), .val (.int p4), .val (.int p5), .val (.long q6), .second, .val (.int N), .val (.int A1), .val (.int B1), .val (.int A2), .val (.int B2), .val (.int M), .val (.int v2), .val (.int v5), .val (.int SF), .val (.int STt), .val (.int FF), .val (.int FT), .val (.int v9), .val (.int v13), .val (.ref b15), .unset, .unset, .unset] [(.int (1 : Int32))])) _
                refine XS.goto X32.here hx rfl (pc0 := 264) (pc' := 268) rfl (hb hby at_264) (by decide) (by decide) ?_
                rw [show v46 = (1 : Int32) from hv46.trans ((if_neg hc34).trans ((if_pos hc38).trans ((if_neg hc39).trans ((if_neg hc40).trans ((if_pos hc41).trans (if_pos hc42))))))] at k
                exact k
              · refine XS.icmpYes X32.here hx rfl (pc0 := 260) (pc' := 267) rfl (hb hby at_260) rfl (feq hc42).2 (by decide) (by decide) ?_
                show Steps p.tables e below (T32.setTop (mkF m 267 #[.val (.int p1), .val (.int p2), .val (.int p3), .val (.int p4), .val (.int p5), .val (.long q6), .second, .val (.int N), .val (.int A1), .val (.int B1), .val (.int A2), .val (.int B2), .val (.int M), .val (.int v2), .val (.int v5), .val (.int SF), .val (.int STt), .val (.int FF), .val (.int FT), .val (.int v9), .val (.int v13), .val (.ref b15), .unset, .unset, .unset] [])) _
                refine XS.iconst X32.here hx rfl (hb hby at_267) ?_
                rw [show v46 = (0 : Int32) from hv46.trans ((if_neg hc34).trans ((if_pos hc38).trans ((if_neg hc39).trans ((if_neg hc40).trans ((if_pos hc41).trans (if_neg hc42))))))] at k
                exact k
            · refine XS.icmpYes X32.here hx rfl (pc0 := 253) (pc' := 267) rfl (hb hby at_253) rfl (feq hc41).2 (by decide) (by decide) ?_
              show Steps p.tables e below (T32.setTop (mkF m 267 #[.val (.int p1), .val (.int p2), .val (.int p3), .val (.int p4), .val (.int p5), .val (.long q6), .second, .val (.int N), .val (.int A1), .val (.int B1), .val (.int A2), .val (.int B2), .val (.int M), .val (.int v2), .val (.int v5), .val (.int SF), .val (.int STt), .val (.int FF), .val (.int FT), .val (.int v9), .val (.int v13), .val (.ref b15), .unset, .unset, .unset] [])) _
              refine XS.iconst X32.here hx rfl (hb hby at_267) ?_
              rw [show v46 = (0 : Int32) from hv46.trans ((if_neg hc34).trans ((if_pos hc38).trans ((if_neg hc39).trans ((if_neg hc40).trans (if_neg hc41)))))] at k
              exact k
      · refine XS.icmpYes X32.here hx rfl (pc0 := 234) (pc' := 244) rfl (hb hby at_234) rfl (feq hc38).2 (by decide) (by decide) ?_
        show Steps p.tables e below (T32.setTop (mkF m 244 #[.val (.int p1), .val (.int p2), .val (.int p3), .val (.int p4), .val (.int p5), .val (.long q6), .second, .val (.int N), .val (.int A1), .val (.int B1), .val (.int A2), .val (.int B2), .val (.int M), .val (.int v2), .val (.int v5), .val (.int SF), .val (.int STt), .val (.int FF), .val (.int FT), .val (.int v9), .val (.int v13), .val (.ref b15), .unset, .unset, .unset] [])) _
        refine XS.iload X32.here hx rfl (hb hby at_244) rfl ?_
        show Steps p.tables e below (T32.setTop (mkF m 246 #[.val (.int p1), .val (.int p2), .val (.int p3), .val (.int p4), .val (.int p5), .val (.long q6), .second, .val (.int N), .val (.int A1), .val (.int B1), .val (.int A2), .val (.int B2), .val (.int M), .val (.int v2), .val (.int v5), .val (.int SF), .val (.int STt), .val (.int FF), .val (.int FT), .val (.int v9), .val (.int v13), .val (.ref b15), .unset, .unset, .unset] [(.int v5)])) _
        by_cases hc43 : v5 = (0 : Int32)
        · refine XS.ifYes X32.here hx rfl (pc0 := 246) (pc' := 267) rfl (hb hby at_246) rfl ((if0 _ _).trans (teq hc43).1) (by decide) (by decide) ?_
          show Steps p.tables e below (T32.setTop (mkF m 267 #[.val (.int p1), .val (.int p2), .val (.int p3), .val (.int p4), .val (.int p5), .val (.long q6), .second, .val (.int N), .val (.int A1), .val (.int B1), .val (.int A2), .val (.int B2), .val (.int M), .val (.int v2), .val (.int v5), .val (.int SF), .val (.int STt), .val (.int FF), .val (.int FT), .val (.int v9), .val (.int v13), .val (.ref b15), .unset, .unset, .unset] [])) _
          refine XS.iconst X32.here hx rfl (hb hby at_267) ?_
          rw [show v46 = (0 : Int32) from hv46.trans ((if_neg hc34).trans ((if_neg hc38).trans (if_pos hc43)))] at k
          exact k
        · refine XS.ifNo X32.here hx rfl (hb hby at_246) rfl ((if0 _ _).trans (feq hc43).1) ?_
          show Steps p.tables e below (T32.setTop (mkF m 249 #[.val (.int p1), .val (.int p2), .val (.int p3), .val (.int p4), .val (.int p5), .val (.long q6), .second, .val (.int N), .val (.int A1), .val (.int B1), .val (.int A2), .val (.int B2), .val (.int M), .val (.int v2), .val (.int v5), .val (.int SF), .val (.int STt), .val (.int FF), .val (.int FT), .val (.int v9), .val (.int v13), .val (.ref b15), .unset, .unset, .unset] [])) _
          refine XS.iload X32.here hx rfl (hb hby at_249) rfl ?_
          show Steps p.tables e below (T32.setTop (mkF m 251 #[.val (.int p1), .val (.int p2), .val (.int p3), .val (.int p4), .val (.int p5), .val (.long q6), .second, .val (.int N), .val (.int A1), .val (.int B1), .val (.int A2), .val (.int B2), .val (.int M), .val (.int v2), .val (.int v5), .val (.int SF), .val (.int STt), .val (.int FF), .val (.int FT), .val (.int v9), .val (.int v13), .val (.ref b15), .unset, .unset, .unset] [(.int v9)])) _
          refine XS.iload X32.here hx rfl (hb hby at_251) rfl ?_
          show Steps p.tables e below (T32.setTop (mkF m 253 #[.val (.int p1), .val (.int p2), .val (.int p3), .val (.int p4), .val (.int p5), .val (.long q6), .second, .val (.int N), .val (.int A1), .val (.int B1), .val (.int A2), .val (.int B2), .val (.int M), .val (.int v2), .val (.int v5), .val (.int SF), .val (.int STt), .val (.int FF), .val (.int FT), .val (.int v9), .val (.int v13), .val (.ref b15), .unset, .unset, .unset] [(.int A2), (.int v9)])) _
          by_cases hc44 : v9 = A2
          · refine XS.icmpNo X32.here hx rfl (hb hby at_253) rfl (teq hc44).2 ?_
            show Steps p.tables e below (T32.setTop (mkF m 256 #[.val (.int p1), .val (.int p2), .val (.int p3), .val (.int p4), .val (.int p5), .val (.long q6), .second, .val (.int N), .val (.int A1), .val (.int B1), .val (.int A2), .val (.int B2), .val (.int M), .val (.int v2), .val (.int v5), .val (.int SF), .val (.int STt), .val (.int FF), .val (.int FT), .val (.int v9), .val (.int v13), .val (.ref b15), .unset, .unset, .unset] [])) _
            refine XS.iload X32.here hx rfl (hb hby at_256) rfl ?_
            show Steps p.tables e below (T32.setTop (mkF m 258 #[.val (.int p1), .val (.int p2), .val (.int p3), .val (.int p4), .val (.int p5), .val (.long q6), .second, .val (.int N), .val (.int A1), .val (.int B1), .val (.int A2), .val (.int B2), .val (.int M), .val (.int v2), .val (.int v5), .val (.int SF), .val (.int STt), .val (.int FF), .val (.int FT), .val (.int v9), .val (.int v13), .val (.ref b15), .unset, .unset, .unset] [(.int v13)])) _
            refine XS.iload X32.here hx rfl (hb hby at_258) rfl ?_
            show Steps p.tables e below (T32.setTop (mkF m 260 #[.val (.int p1), .val (.int p2), .val (.int p3), .val (.int p4), .val (.int p5), .val (.long q6), .second, .val (.int N), .val (.int A1), .val (.int B1), .val (.int A2), .val (.int B2), .val (.int M), .val (.int v2), .val (.int v5), .val (.int SF), .val (.int STt), .val (.int FF), .val (.int FT), .val (.int v9), .val (.int v13), .val (.ref b15), .unset, .unset, .unset] [(.int B2), (.int v13)])) _
            by_cases hc45 : v13 = B2
            · refine XS.icmpNo X32.here hx rfl (hb hby at_260) rfl (teq hc45).2 ?_
              show Steps p.tables e below (T32.setTop (mkF m 263 #[.val (.int p1), .val (.int p2), .val (.int p3), .val (.int p4), .val (.int p5), .val (.long q6), .second, .val (.int N), .val (.int A1), .val (.int B1), .val (.int A2), .val (.int B2), .val (.int M), .val (.int v2), .val (.int v5), .val (.int SF), .val (.int STt), .val (.int FF), .val (.int FT), .val (.int v9), .val (.int v13), .val (.ref b15), .unset, .unset, .unset] [])) _
              refine XS.iconst X32.here hx rfl (hb hby at_263) ?_
              show Steps p.tables e below (T32.setTop (mkF m 264 #[.val (.int p1), .val (.int p2), .val (.int p3), .val (.int p4), .val (.int p5), .val (.long q6), .second, .val (.int N), .val (.int A1), .val (.int B1), .val (.int A2), .val (.int B2), .val (.int M), .val (.int v2), .val (.int v5), .val (.int SF), .val (.int STt), .val (.int FF), .val (.int FT), .val (.int v9), .val (.int v13), .val (.ref b15), .unset, .unset, .unset] [(.int (1 : Int32))])) _
              refine XS.goto X32.here hx rfl (pc0 := 264) (pc' := 268) rfl (hb hby at_264) (by decide) (by decide) ?_
              rw [show v46 = (1 : Int32) from hv46.trans ((if_neg hc34).trans ((if_neg hc38).trans ((if_neg hc43).trans ((if_pos hc44).trans (if_pos hc45)))))] at k
              exact k
            · refine XS.icmpYes X32.here hx rfl (pc0 := 260) (pc' := 267) rfl (hb hby at_260) rfl (feq hc45).2 (by decide) (by decide) ?_
              show Steps p.tables e below (T32.setTop (mkF m 267 #[.val (.int p1), .val (.int p2), .val (.int p3), .val (.int p4), .val (.int p5), .val (.long q6), .second, .val (.int N), .val (.int A1), .val (.int B1), .val (.int A2), .val (.int B2), .val (.int M), .val (.int v2), .val (.int v5), .val (.int SF), .val (.int STt), .val (.int FF), .val (.int FT), .val (.int v9), .val (.int v13), .val (.ref b15), .unset, .unset, .unset] [])) _
              refine XS.iconst X32.here hx rfl (hb hby at_267) ?_
              rw [show v46 = (0 : Int32) from hv46.trans ((if_neg hc34).trans ((if_neg hc38).trans ((if_neg hc43).trans ((if_pos hc44).trans (if_neg hc45)))))] at k
              exact k
          · refine XS.icmpYes X32.here hx rfl (pc0 := 253) (pc' := 267) rfl (hb hby at_253) rfl (feq hc44).2 (by decide) (by decide) ?_
            show Steps p.tables e below (T32.setTop (mkF m 267 #[.val (.int p1), .val (.int p2), .val (.int p3), .val (.int p4), .val (.int p5), .val (.long q6), .second, .val (.int N), .val (.int A1), .val (.int B1), .val (.int A2), .val (.int B2), .val (.int M), .val (.int v2), .val (.int v5), .val (.int SF), .val (.int STt), .val (.int FF), .val (.int FT), .val (.int v9), .val (.int v13), .val (.ref b15), .unset, .unset, .unset] [])) _
            refine XS.iconst X32.here hx rfl (hb hby at_267) ?_
            rw [show v46 = (0 : Int32) from hv46.trans ((if_neg hc34).trans ((if_neg hc38).trans ((if_neg hc43).trans (if_neg hc44))))] at k
            exact k)
  obtain ⟨cq48, kq48, q48a, q48b, q48c⟩ := isOf hZ e32 E_b15_32
  obtain ⟨_, _, ⟨T48, L48, k48, n48⟩, -, X48, ⟨Lc48, hQ48, l48, y48, z48⟩, st48⟩ := X32.virtualBack hx (y := (⟨"com/example/fenceline/fenceline/model/Relation", "contains", "(II)Z"⟩ : MethodName)) (z := (⟨"com/example/fenceline/fenceline/model/Relation", "contains", "(II)Z"⟩ : MethodName)) hown (mvT hZ (hw _ (List.mem_of_getElem? (i := 21) rfl))) (mvT hZ (hw _ (List.mem_of_getElem? (i := 22) rfl))) (notFace_of_selects (args := #[]) (mvT hZ (hw _ (List.mem_of_getElem? (i := 24) rfl)))) (mvT hZ (hw _ (List.mem_of_getElem? (i := 24) rfl))) (mvT hZ (hw _ (List.mem_of_getElem? (i := 23) rfl))) (by decide) (backOf (W := 0) (rm3 l Z a0 hw [] b15 v9 v13 b16 (N * (((N + (63 : Int32)).toUInt32 >>> ((6 : Int32) &&& 31).toUInt32).toInt32)) y33 (((N + (63 : Int32)).toUInt32 >>> ((6 : Int32) &&& 31).toUInt32).toInt32) h32 n0 Zs32 F_rows_b15_32 A_b16_32 F_words_b15_32 (own_I_in (own_N1 hN).1 (own_N1 hN).2 (own_sel (P := fun z => 0 ≤ z.toInt ∧ z.toInt < N.toInt) hv9 (own_rem (own_N1 hN) hA1) (own_rem (own_N1 hN) hA2) (own_remL 31 (by decide) (by decide) (own_N1 hN) hFF)) (own_sel (P := fun z => 0 ≤ z.toInt ∧ z.toInt < N.toInt) hv13 (own_rem (own_N1 hN) hB1) (own_rem (own_N1 hN) hB2) (own_remL 24 (by decide) (by decide) (own_N1 hN) hFT)))) hZ (hw _ (List.mem_of_getElem? (i := 25) rfl)) (hw _ (List.mem_of_getElem? (i := 7) rfl)) (by decide) (by decide)) q48a q48c (g := (mkF m 276 #[.val (.int p1), .val (.int p2), .val (.int p3), .val (.int p4), .val (.int p5), .val (.long q6), .second, .val (.int N), .val (.int A1), .val (.int B1), .val (.int A2), .val (.int B2), .val (.int M), .val (.int v2), .val (.int v5), .val (.int SF), .val (.int STt), .val (.int FF), .val (.int FT), .val (.int v9), .val (.int v13), .val (.ref b15), .val (.int v46), .unset, .unset] [(.int v13), (.int v9), (.ref b15)])) rfl (by rw [hml]; rfl) (Steps.refl _) (argsL := [(.int v9), (.int v13)]) (rest := []) (lenOf pd_2 rfl) rfl (by show 2 * 0 + _ ≤ _; exact Nat.le_of_eq rfl) (hb hby at_276) (fun _ _ => ⟨rfl, e32, (by decide : 2 + 0 ≤ _), (by decide : 1027 + 0 ≤ _)⟩)
  dsimp only [Pt.U, Pt.locs, Pt.cells, Pt.slots] at X48 l48 y48 z48 st48 hQ48
  subst l48 y48 z48
  obtain ⟨rfl, N48q, e48⟩ := hQ48
  have N48 := Fr.app N32 N48q
  obtain ⟨v50, hv50⟩ : ∃ z : Int32, z = (if (f3 v9 v13 y33 (((N + (63 : Int32)).toUInt32 >>> ((6 : Int32) &&& 31).toUInt32).toInt32)) = v46 then (1 : Int32) else (0 : Int32)) := ⟨_, rfl⟩
  have pre51 : ∀ t, Steps p.tables e below (T48.setTop (mkF m 289 #[.val (.int p1), .val (.int p2), .val (.int p3), .val (.int p4), .val (.int p5), .val (.long q6), .second, .val (.int N), .val (.int A1), .val (.int B1), .val (.int A2), .val (.int B2), .val (.int M), .val (.int v2), .val (.int v5), .val (.int SF), .val (.int STt), .val (.int FF), .val (.int FT), .val (.int v9), .val (.int v13), .val (.ref b15), .val (.int v46), .unset, .unset] [(.int v50)])) t → Steps p.tables e below (s₁.setTop (entryFrame m #[(.int p1), (.int p2), (.int p3), (.int p4), (.int p5), (.long q6)] maxLocals)) t := fun t k => pre47 t (by
    show Steps p.tables e below (T32.setTop (mkF m 268 #[.val (.int p1), .val (.int p2), .val (.int p3), .val (.int p4), .val (.int p5), .val (.long q6), .second, .val (.int N), .val (.int A1), .val (.int B1), .val (.int A2), .val (.int B2), .val (.int M), .val (.int v2), .val (.int v5), .val (.int SF), .val (.int STt), .val (.int FF), .val (.int FT), .val (.int v9), .val (.int v13), .val (.ref b15), .unset, .unset, .unset] [(.int v46)])) _
    refine XS.istore X32.here hx rfl (hb hby at_268) rfl (l' := #[.val (.int p1), .val (.int p2), .val (.int p3), .val (.int p4), .val (.int p5), .val (.long q6), .second, .val (.int N), .val (.int A1), .val (.int B1), .val (.int A2), .val (.int B2), .val (.int M), .val (.int v2), .val (.int v5), .val (.int SF), .val (.int STt), .val (.int FF), .val (.int FT), .val (.int v9), .val (.int v13), .val (.ref b15), .val (.int v46), .unset, .unset]) rfl ?_
    show Steps p.tables e below (T32.setTop (mkF m 270 #[.val (.int p1), .val (.int p2), .val (.int p3), .val (.int p4), .val (.int p5), .val (.long q6), .second, .val (.int N), .val (.int A1), .val (.int B1), .val (.int A2), .val (.int B2), .val (.int M), .val (.int v2), .val (.int v5), .val (.int SF), .val (.int STt), .val (.int FF), .val (.int FT), .val (.int v9), .val (.int v13), .val (.ref b15), .val (.int v46), .unset, .unset] [])) _
    refine XS.aload X32.here hx rfl (hb hby at_270) rfl rfl ?_
    show Steps p.tables e below (T32.setTop (mkF m 272 #[.val (.int p1), .val (.int p2), .val (.int p3), .val (.int p4), .val (.int p5), .val (.long q6), .second, .val (.int N), .val (.int A1), .val (.int B1), .val (.int A2), .val (.int B2), .val (.int M), .val (.int v2), .val (.int v5), .val (.int SF), .val (.int STt), .val (.int FF), .val (.int FT), .val (.int v9), .val (.int v13), .val (.ref b15), .val (.int v46), .unset, .unset] [(.ref b15)])) _
    refine XS.iload X32.here hx rfl (hb hby at_272) rfl ?_
    show Steps p.tables e below (T32.setTop (mkF m 274 #[.val (.int p1), .val (.int p2), .val (.int p3), .val (.int p4), .val (.int p5), .val (.long q6), .second, .val (.int N), .val (.int A1), .val (.int B1), .val (.int A2), .val (.int B2), .val (.int M), .val (.int v2), .val (.int v5), .val (.int SF), .val (.int STt), .val (.int FF), .val (.int FT), .val (.int v9), .val (.int v13), .val (.ref b15), .val (.int v46), .unset, .unset] [(.int v9), (.ref b15)])) _
    refine XS.iload X32.here hx rfl (hb hby at_274) rfl ?_
    show Steps p.tables e below (T32.setTop (mkF m 276 #[.val (.int p1), .val (.int p2), .val (.int p3), .val (.int p4), .val (.int p5), .val (.long q6), .second, .val (.int N), .val (.int A1), .val (.int B1), .val (.int A2), .val (.int B2), .val (.int M), .val (.int v2), .val (.int v5), .val (.int SF), .val (.int STt), .val (.int FF), .val (.int FT), .val (.int v9), .val (.int v13), .val (.ref b15), .val (.int v46), .unset, .unset] [(.int v13), (.int v9), (.ref b15)])) _
    refine st48.trans ?_
    show Steps p.tables e below (T48.setTop (mkF m 279 #[.val (.int p1), .val (.int p2), .val (.int p3), .val (.int p4), .val (.int p5), .val (.long q6), .second, .val (.int N), .val (.int A1), .val (.int B1), .val (.int A2), .val (.int B2), .val (.int M), .val (.int v2), .val (.int v5), .val (.int SF), .val (.int STt), .val (.int FF), .val (.int FT), .val (.int v9), .val (.int v13), .val (.ref b15), .val (.int v46), .unset, .unset] [(.int (f3 v9 v13 y33 (((N + (63 : Int32)).toUInt32 >>> ((6 : Int32) &&& 31).toUInt32).toInt32)))])) _
    refine XS.iload X48.here hx rfl (hb hby at_279) rfl ?_
    show Steps p.tables e below (T48.setTop (mkF m 281 #[.val (.int p1), .val (.int p2), .val (.int p3), .val (.int p4), .val (.int p5), .val (.long q6), .second, .val (.int N), .val (.int A1), .val (.int B1), .val (.int A2), .val (.int B2), .val (.int M), .val (.int v2), .val (.int v5), .val (.int SF), .val (.int STt), .val (.int FF), .val (.int FT), .val (.int v9), .val (.int v13), .val (.ref b15), .val (.int v46), .unset, .unset] [(.int v46), (.int (f3 v9 v13 y33 (((N + (63 : Int32)).toUInt32 >>> ((6 : Int32) &&& 31).toUInt32).toInt32)))])) _
    by_cases hc49 : (f3 v9 v13 y33 (((N + (63 : Int32)).toUInt32 >>> ((6 : Int32) &&& 31).toUInt32).toInt32)) = v46
    · refine XS.icmpNo X48.here hx rfl (hb hby at_281) rfl (teq hc49).2 ?_
      show Steps p.tables e below (T48.setTop (mkF m 284 #[.val (.int p1), .val (.int p2), .val (.int p3), .val (.int p4), .val (.int p5), .val (.long q6), .second, .val (.int N), .val (.int A1), .val (.int B1), .val (.int A2), .val (.int B2), .val (.int M), .val (.int v2), .val (.int v5), .val (.int SF), .val (.int STt), .val (.int FF), .val (.int FT), .val (.int v9), .val (.int v13), .val (.ref b15), .val (.int v46), .unset, .unset] [])) _
      refine XS.iconst X48.here hx rfl (hb hby at_284) ?_
      show Steps p.tables e below (T48.setTop (mkF m 285 #[.val (.int p1), .val (.int p2), .val (.int p3), .val (.int p4), .val (.int p5), .val (.long q6), .second, .val (.int N), .val (.int A1), .val (.int B1), .val (.int A2), .val (.int B2), .val (.int M), .val (.int v2), .val (.int v5), .val (.int SF), .val (.int STt), .val (.int FF), .val (.int FT), .val (.int v9), .val (.int v13), .val (.ref b15), .val (.int v46), .unset, .unset] [(.int (1 : Int32))])) _
      refine XS.goto X48.here hx rfl (pc0 := 285) (pc' := 289) rfl (hb hby at_285) (by decide) (by decide) ?_
      rw [show v50 = (1 : Int32) from hv50.trans (if_pos hc49)] at k
      exact k
    · refine XS.icmpYes X48.here hx rfl (pc0 := 281) (pc' := 288) rfl (hb hby at_281) rfl (feq hc49).2 (by decide) (by decide) ?_
      show Steps p.tables e below (T48.setTop (mkF m 288 #[.val (.int p1), .val (.int p2), .val (.int p3), .val (.int p4), .val (.int p5), .val (.long q6), .second, .val (.int N), .val (.int A1), .val (.int B1), .val (.int A2), .val (.int B2), .val (.int M), .val (.int v2), .val (.int v5), .val (.int SF), .val (.int STt), .val (.int FF), .val (.int FT), .val (.int v9), .val (.int v13), .val (.ref b15), .val (.int v46), .unset, .unset] [])) _
      refine XS.iconst X48.here hx rfl (hb hby at_288) ?_
      rw [show v50 = (0 : Int32) from hv50.trans (if_neg hc49)] at k
      exact k)
  obtain ⟨v59, hv59⟩ : ∃ z : Int32, z = (if v2 = (0 : Int32) then (1 : Int32) else (if (f3 A1 B1 y33 (((N + (63 : Int32)).toUInt32 >>> ((6 : Int32) &&& 31).toUInt32).toInt32)) = (0 : Int32) then (0 : Int32) else (1 : Int32))) := ⟨_, rfl⟩
  have pre52 : ∀ t, Steps p.tables e below (T48.setTop (mkF m 293 #[.val (.int p1), .val (.int p2), .val (.int p3), .val (.int p4), .val (.int p5), .val (.long q6), .second, .val (.int N), .val (.int A1), .val (.int B1), .val (.int A2), .val (.int B2), .val (.int M), .val (.int v2), .val (.int v5), .val (.int SF), .val (.int STt), .val (.int FF), .val (.int FT), .val (.int v9), .val (.int v13), .val (.ref b15), .val (.int v46), .val (.int v50), .unset] [(.int v2)])) t → Steps p.tables e below (s₁.setTop (entryFrame m #[(.int p1), (.int p2), (.int p3), (.int p4), (.int p5), (.long q6)] maxLocals)) t := fun t k => pre51 t (by
    show Steps p.tables e below (T48.setTop (mkF m 289 #[.val (.int p1), .val (.int p2), .val (.int p3), .val (.int p4), .val (.int p5), .val (.long q6), .second, .val (.int N), .val (.int A1), .val (.int B1), .val (.int A2), .val (.int B2), .val (.int M), .val (.int v2), .val (.int v5), .val (.int SF), .val (.int STt), .val (.int FF), .val (.int FT), .val (.int v9), .val (.int v13), .val (.ref b15), .val (.int v46), .unset, .unset] [(.int v50)])) _
    refine XS.istore X48.here hx rfl (hb hby at_289) rfl (l' := #[.val (.int p1), .val (.int p2), .val (.int p3), .val (.int p4), .val (.int p5), .val (.long q6), .second, .val (.int N), .val (.int A1), .val (.int B1), .val (.int A2), .val (.int B2), .val (.int M), .val (.int v2), .val (.int v5), .val (.int SF), .val (.int STt), .val (.int FF), .val (.int FT), .val (.int v9), .val (.int v13), .val (.ref b15), .val (.int v46), .val (.int v50), .unset]) rfl ?_
    show Steps p.tables e below (T48.setTop (mkF m 291 #[.val (.int p1), .val (.int p2), .val (.int p3), .val (.int p4), .val (.int p5), .val (.long q6), .second, .val (.int N), .val (.int A1), .val (.int B1), .val (.int A2), .val (.int B2), .val (.int M), .val (.int v2), .val (.int v5), .val (.int SF), .val (.int STt), .val (.int FF), .val (.int FT), .val (.int v9), .val (.int v13), .val (.ref b15), .val (.int v46), .val (.int v50), .unset] [])) _
    refine XS.iload X48.here hx rfl (hb hby at_291) rfl ?_
    exact k)
  obtain ⟨T60, L60, X60, e60, N60, K60, Zs60, O60, E_b15_60, F_size_b15_60, F_words_b15_60, F_rows_b15_60, A_b16_60, pre60⟩ : ∃ (T' : State) (L' : List Loc), Stand p l e room_1 s m #[(.int p1), (.int p2), (.int p3), (.int p4), (.int p5), (.long q6)] below meth c T' L' 2 1027 ∧ T'.heap = h32 ∧ Fr n0 L' ∧ Keep h0 h32 ([] : List Addr) ∧ n0 ≤ h32.size ∧ Old Z n0 h32 ∧ Exa Z h32 b15 "com/example/fenceline/fenceline/model/Relation" ∧ Fld Z h32 b15 "com/example/fenceline/fenceline/model/Relation" "size" "I" (.int N) ∧ Fld Z h32 b15 "com/example/fenceline/fenceline/model/Relation" "words" "I" (.int (((N + (63 : Int32)).toUInt32 >>> ((6 : Int32) &&& 31).toUInt32).toInt32)) ∧ Fld Z h32 b15 "com/example/fenceline/fenceline/model/Relation" "rows" "[J" (.ref b16) ∧ own_A Z h32 b16 .long (N * (((N + (63 : Int32)).toUInt32 >>> ((6 : Int32) &&& 31).toUInt32).toInt32)) (fun i => .long (y33 i)) ∧ ∀ t, Steps p.tables e below (T'.setTop (mkF m 313 #[.val (.int p1), .val (.int p2), .val (.int p3), .val (.int p4), .val (.int p5), .val (.long q6), .second, .val (.int N), .val (.int A1), .val (.int B1), .val (.int A2), .val (.int B2), .val (.int M), .val (.int v2), .val (.int v5), .val (.int SF), .val (.int STt), .val (.int FF), .val (.int FT), .val (.int v9), .val (.int v13), .val (.ref b15), .val (.int v46), .val (.int v50), .unset] [(.int v59)])) t → Steps p.tables e below (s₁.setTop (entryFrame m #[(.int p1), (.int p2), (.int p3), (.int p4), (.int p5), (.long q6)] maxLocals)) t := by
    by_cases hc53 : v2 = (0 : Int32)
    · have pre54 : ∀ t, Steps p.tables e below (T48.setTop (mkF m 313 #[.val (.int p1), .val (.int p2), .val (.int p3), .val (.int p4), .val (.int p5), .val (.long q6), .second, .val (.int N), .val (.int A1), .val (.int B1), .val (.int A2), .val (.int B2), .val (.int M), .val (.int v2), .val (.int v5), .val (.int SF), .val (.int STt), .val (.int FF), .val (.int FT), .val (.int v9), .val (.int v13), .val (.ref b15), .val (.int v46), .val (.int v50), .unset] [(.int (1 : Int32))])) t → Steps p.tables e below (s₁.setTop (entryFrame m #[(.int p1), (.int p2), (.int p3), (.int p4), (.int p5), (.long q6)] maxLocals)) t := fun t k => pre52 t (by
        show Steps p.tables e below (T48.setTop (mkF m 293 #[.val (.int p1), .val (.int p2), .val (.int p3), .val (.int p4), .val (.int p5), .val (.long q6), .second, .val (.int N), .val (.int A1), .val (.int B1), .val (.int A2), .val (.int B2), .val (.int M), .val (.int v2), .val (.int v5), .val (.int SF), .val (.int STt), .val (.int FF), .val (.int FT), .val (.int v9), .val (.int v13), .val (.ref b15), .val (.int v46), .val (.int v50), .unset] [(.int v2)])) _
        refine XS.ifYes X48.here hx rfl (pc0 := 293) (pc' := 308) rfl (hb hby at_293) rfl ((if0 _ _).trans (teq hc53).1) (by decide) (by decide) ?_
        show Steps p.tables e below (T48.setTop (mkF m 308 #[.val (.int p1), .val (.int p2), .val (.int p3), .val (.int p4), .val (.int p5), .val (.long q6), .second, .val (.int N), .val (.int A1), .val (.int B1), .val (.int A2), .val (.int B2), .val (.int M), .val (.int v2), .val (.int v5), .val (.int SF), .val (.int STt), .val (.int FF), .val (.int FT), .val (.int v9), .val (.int v13), .val (.ref b15), .val (.int v46), .val (.int v50), .unset] [])) _
        refine XS.iconst X48.here hx rfl (hb hby at_308) ?_
        show Steps p.tables e below (T48.setTop (mkF m 309 #[.val (.int p1), .val (.int p2), .val (.int p3), .val (.int p4), .val (.int p5), .val (.long q6), .second, .val (.int N), .val (.int A1), .val (.int B1), .val (.int A2), .val (.int B2), .val (.int M), .val (.int v2), .val (.int v5), .val (.int SF), .val (.int STt), .val (.int FF), .val (.int FT), .val (.int v9), .val (.int v13), .val (.ref b15), .val (.int v46), .val (.int v50), .unset] [(.int (1 : Int32))])) _
        refine XS.goto X48.here hx rfl (pc0 := 309) (pc' := 313) rfl (hb hby at_309) (by decide) (by decide) ?_
        exact k)
      have evv59 : v59 = (1 : Int32) := by exact hv59.trans (if_pos hc53)
      subst evv59
      exact ⟨T48, _, X48, e48, N48, K32, Zs32, O32, E_b15_32, F_size_b15_32, F_words_b15_32, F_rows_b15_32, A_b16_32, pre54⟩
    · obtain ⟨cq55, kq55, q55a, q55b, q55c⟩ := isOf hZ e48 E_b15_32
      obtain ⟨_, _, ⟨T55, L55, k55, n55⟩, -, X55, ⟨Lc55, hQ55, l55, y55, z55⟩, st55⟩ := X48.virtualBack hx (y := (⟨"com/example/fenceline/fenceline/model/Relation", "contains", "(II)Z"⟩ : MethodName)) (z := (⟨"com/example/fenceline/fenceline/model/Relation", "contains", "(II)Z"⟩ : MethodName)) hown (mvT hZ (hw _ (List.mem_of_getElem? (i := 21) rfl))) (mvT hZ (hw _ (List.mem_of_getElem? (i := 22) rfl))) (notFace_of_selects (args := #[]) (mvT hZ (hw _ (List.mem_of_getElem? (i := 24) rfl)))) (mvT hZ (hw _ (List.mem_of_getElem? (i := 24) rfl))) (mvT hZ (hw _ (List.mem_of_getElem? (i := 23) rfl))) (by decide) (backOf (W := 0) (rm3 l Z a0 hw [] b15 A1 B1 b16 (N * (((N + (63 : Int32)).toUInt32 >>> ((6 : Int32) &&& 31).toUInt32).toInt32)) y33 (((N + (63 : Int32)).toUInt32 >>> ((6 : Int32) &&& 31).toUInt32).toInt32) h32 n0 Zs32 F_rows_b15_32 A_b16_32 F_words_b15_32 (own_I_in (own_N1 hN).1 (own_N1 hN).2 (own_rem (own_N1 hN) hA1) (own_rem (own_N1 hN) hB1))) hZ (hw _ (List.mem_of_getElem? (i := 25) rfl)) (hw _ (List.mem_of_getElem? (i := 7) rfl)) (by decide) (by decide)) q55a q55c (g := (mkF m 302 #[.val (.int p1), .val (.int p2), .val (.int p3), .val (.int p4), .val (.int p5), .val (.long q6), .second, .val (.int N), .val (.int A1), .val (.int B1), .val (.int A2), .val (.int B2), .val (.int M), .val (.int v2), .val (.int v5), .val (.int SF), .val (.int STt), .val (.int FF), .val (.int FT), .val (.int v9), .val (.int v13), .val (.ref b15), .val (.int v46), .val (.int v50), .unset] [(.int B1), (.int A1), (.ref b15)])) rfl (by rw [hml]; rfl) (Steps.refl _) (argsL := [(.int A1), (.int B1)]) (rest := []) (lenOf pd_2 rfl) rfl (by show 2 * 0 + _ ≤ _; exact Nat.le_of_eq rfl) (hb hby at_302) (fun _ _ => ⟨rfl, e48, (by decide : 2 + 0 ≤ _), (by decide : 1027 + 0 ≤ _)⟩)
      dsimp only [Pt.U, Pt.locs, Pt.cells, Pt.slots] at X55 l55 y55 z55 st55 hQ55
      subst l55 y55 z55
      obtain ⟨rfl, N55q, e55⟩ := hQ55
      have N55 := Fr.app N48 N55q
      obtain ⟨v57, hv57⟩ : ∃ z : Int32, z = (if (f3 A1 B1 y33 (((N + (63 : Int32)).toUInt32 >>> ((6 : Int32) &&& 31).toUInt32).toInt32)) = (0 : Int32) then (0 : Int32) else (1 : Int32)) := ⟨_, rfl⟩
      have pre58 : ∀ t, Steps p.tables e below (T55.setTop (mkF m 313 #[.val (.int p1), .val (.int p2), .val (.int p3), .val (.int p4), .val (.int p5), .val (.long q6), .second, .val (.int N), .val (.int A1), .val (.int B1), .val (.int A2), .val (.int B2), .val (.int M), .val (.int v2), .val (.int v5), .val (.int SF), .val (.int STt), .val (.int FF), .val (.int FT), .val (.int v9), .val (.int v13), .val (.ref b15), .val (.int v46), .val (.int v50), .unset] [(.int v57)])) t → Steps p.tables e below (s₁.setTop (entryFrame m #[(.int p1), (.int p2), (.int p3), (.int p4), (.int p5), (.long q6)] maxLocals)) t := fun t k => pre52 t (by
        show Steps p.tables e below (T48.setTop (mkF m 293 #[.val (.int p1), .val (.int p2), .val (.int p3), .val (.int p4), .val (.int p5), .val (.long q6), .second, .val (.int N), .val (.int A1), .val (.int B1), .val (.int A2), .val (.int B2), .val (.int M), .val (.int v2), .val (.int v5), .val (.int SF), .val (.int STt), .val (.int FF), .val (.int FT), .val (.int v9), .val (.int v13), .val (.ref b15), .val (.int v46), .val (.int v50), .unset] [(.int v2)])) _
        refine XS.ifNo X48.here hx rfl (hb hby at_293) rfl ((if0 _ _).trans (feq hc53).1) ?_
        show Steps p.tables e below (T48.setTop (mkF m 296 #[.val (.int p1), .val (.int p2), .val (.int p3), .val (.int p4), .val (.int p5), .val (.long q6), .second, .val (.int N), .val (.int A1), .val (.int B1), .val (.int A2), .val (.int B2), .val (.int M), .val (.int v2), .val (.int v5), .val (.int SF), .val (.int STt), .val (.int FF), .val (.int FT), .val (.int v9), .val (.int v13), .val (.ref b15), .val (.int v46), .val (.int v50), .unset] [])) _
        refine XS.aload X48.here hx rfl (hb hby at_296) rfl rfl ?_
        show Steps p.tables e below (T48.setTop (mkF m 298 #[.val (.int p1), .val (.int p2), .val (.int p3), .val (.int p4), .val (.int p5), .val (.long q6), .second, .val (.int N), .val (.int A1), .val (.int B1), .val (.int A2), .val (.int B2), .val (.int M), .val (.int v2), .val (.int v5), .val (.int SF), .val (.int STt), .val (.int FF), .val (.int FT), .val (.int v9), .val (.int v13), .val (.ref b15), .val (.int v46), .val (.int v50), .unset] [(.ref b15)])) _
        refine XS.iload X48.here hx rfl (hb hby at_298) rfl ?_
        show Steps p.tables e below (T48.setTop (mkF m 300 #[.val (.int p1), .val (.int p2), .val (.int p3), .val (.int p4), .val (.int p5), .val (.long q6), .second, .val (.int N), .val (.int A1), .val (.int B1), .val (.int A2), .val (.int B2), .val (.int M), .val (.int v2), .val (.int v5), .val (.int SF), .val (.int STt), .val (.int FF), .val (.int FT), .val (.int v9), .val (.int v13), .val (.ref b15), .val (.int v46), .val (.int v50), .unset] [(.int A1), (.ref b15)])) _
        refine XS.iload X48.here hx rfl (hb hby at_300) rfl ?_
        show Steps p.tables e below (T48.setTop (mkF m 302 #[.val (.int p1), .val (.int p2), .val (.int p3), .val (.int p4), .val (.int p5), .val (.long q6), .second, .val (.int N), .val (.int A1), .val (.int B1), .val (.int A2), .val (.int B2), .val (.int M), .val (.int v2), .val (.int v5), .val (.int SF), .val (.int STt), .val (.int FF), .val (.int FT), .val (.int v9), .val (.int v13), .val (.ref b15), .val (.int v46), .val (.int v50), .unset] [(.int B1), (.int A1), (.ref b15)])) _
        refine st55.trans ?_
        show Steps p.tables e below (T55.setTop (mkF m 305 #[.val (.int p1), .val (.int p2), .val (.int p3), .val (.int p4), .val (.int p5), .val (.long q6), .second, .val (.int N), .val (.int A1), .val (.int B1), .val (.int A2), .val (.int B2), .val (.int M), .val (.int v2), .val (.int v5), .val (.int SF), .val (.int STt), .val (.int FF), .val (.int FT), .val (.int v9), .val (.int v13), .val (.ref b15), .val (.int v46), .val (.int v50), .unset] [(.int (f3 A1 B1 y33 (((N + (63 : Int32)).toUInt32 >>> ((6 : Int32) &&& 31).toUInt32).toInt32)))])) _
        by_cases hc56 : (f3 A1 B1 y33 (((N + (63 : Int32)).toUInt32 >>> ((6 : Int32) &&& 31).toUInt32).toInt32)) = (0 : Int32)
        · refine XS.ifYes X55.here hx rfl (pc0 := 305) (pc' := 312) rfl (hb hby at_305) rfl ((if0 _ _).trans (teq hc56).1) (by decide) (by decide) ?_
          show Steps p.tables e below (T55.setTop (mkF m 312 #[.val (.int p1), .val (.int p2), .val (.int p3), .val (.int p4), .val (.int p5), .val (.long q6), .second, .val (.int N), .val (.int A1), .val (.int B1), .val (.int A2), .val (.int B2), .val (.int M), .val (.int v2), .val (.int v5), .val (.int SF), .val (.int STt), .val (.int FF), .val (.int FT), .val (.int v9), .val (.int v13), .val (.ref b15), .val (.int v46), .val (.int v50), .unset] [])) _
          refine XS.iconst X55.here hx rfl (hb hby at_312) ?_
          rw [show v57 = (0 : Int32) from hv57.trans (if_pos hc56)] at k
          exact k
        · refine XS.ifNo X55.here hx rfl (hb hby at_305) rfl ((if0 _ _).trans (feq hc56).1) ?_
          show Steps p.tables e below (T55.setTop (mkF m 308 #[.val (.int p1), .val (.int p2), .val (.int p3), .val (.int p4), .val (.int p5), .val (.long q6), .second, .val (.int N), .val (.int A1), .val (.int B1), .val (.int A2), .val (.int B2), .val (.int M), .val (.int v2), .val (.int v5), .val (.int SF), .val (.int STt), .val (.int FF), .val (.int FT), .val (.int v9), .val (.int v13), .val (.ref b15), .val (.int v46), .val (.int v50), .unset] [])) _
          refine XS.iconst X55.here hx rfl (hb hby at_308) ?_
          show Steps p.tables e below (T55.setTop (mkF m 309 #[.val (.int p1), .val (.int p2), .val (.int p3), .val (.int p4), .val (.int p5), .val (.long q6), .second, .val (.int N), .val (.int A1), .val (.int B1), .val (.int A2), .val (.int B2), .val (.int M), .val (.int v2), .val (.int v5), .val (.int SF), .val (.int STt), .val (.int FF), .val (.int FT), .val (.int v9), .val (.int v13), .val (.ref b15), .val (.int v46), .val (.int v50), .unset] [(.int (1 : Int32))])) _
          refine XS.goto X55.here hx rfl (pc0 := 309) (pc' := 313) rfl (hb hby at_309) (by decide) (by decide) ?_
          rw [show v57 = (1 : Int32) from hv57.trans (if_neg hc56)] at k
          exact k)
      have evv59 : v59 = v57 := by subst hv57; exact hv59.trans (if_neg hc53)
      subst evv59
      exact ⟨T55, _, X55, e55, N55, K32, Zs32, O32, E_b15_32, F_size_b15_32, F_words_b15_32, F_rows_b15_32, A_b16_32, pre58⟩
  obtain ⟨v63, hv63⟩ : ∃ z : Int32, z = (if v50 = (0 : Int32) then (0 : Int32) else (if v59 = (0 : Int32) then (0 : Int32) else (1 : Int32))) := ⟨_, rfl⟩
  have pre64 : ∀ t, Steps p.tables e below (T60.setTop (mkF m 330 #[.val (.int p1), .val (.int p2), .val (.int p3), .val (.int p4), .val (.int p5), .val (.long q6), .second, .val (.int N), .val (.int A1), .val (.int B1), .val (.int A2), .val (.int B2), .val (.int M), .val (.int v2), .val (.int v5), .val (.int SF), .val (.int STt), .val (.int FF), .val (.int FT), .val (.int v9), .val (.int v13), .val (.ref b15), .val (.int v46), .val (.int v50), .val (.int v59)] [(.int v63)])) t → Steps p.tables e below (s₁.setTop (entryFrame m #[(.int p1), (.int p2), (.int p3), (.int p4), (.int p5), (.long q6)] maxLocals)) t := fun t k => pre60 t (by
    show Steps p.tables e below (T60.setTop (mkF m 313 #[.val (.int p1), .val (.int p2), .val (.int p3), .val (.int p4), .val (.int p5), .val (.long q6), .second, .val (.int N), .val (.int A1), .val (.int B1), .val (.int A2), .val (.int B2), .val (.int M), .val (.int v2), .val (.int v5), .val (.int SF), .val (.int STt), .val (.int FF), .val (.int FT), .val (.int v9), .val (.int v13), .val (.ref b15), .val (.int v46), .val (.int v50), .unset] [(.int v59)])) _
    refine XS.istore X60.here hx rfl (hb hby at_313) rfl (l' := #[.val (.int p1), .val (.int p2), .val (.int p3), .val (.int p4), .val (.int p5), .val (.long q6), .second, .val (.int N), .val (.int A1), .val (.int B1), .val (.int A2), .val (.int B2), .val (.int M), .val (.int v2), .val (.int v5), .val (.int SF), .val (.int STt), .val (.int FF), .val (.int FT), .val (.int v9), .val (.int v13), .val (.ref b15), .val (.int v46), .val (.int v50), .val (.int v59)]) rfl ?_
    show Steps p.tables e below (T60.setTop (mkF m 315 #[.val (.int p1), .val (.int p2), .val (.int p3), .val (.int p4), .val (.int p5), .val (.long q6), .second, .val (.int N), .val (.int A1), .val (.int B1), .val (.int A2), .val (.int B2), .val (.int M), .val (.int v2), .val (.int v5), .val (.int SF), .val (.int STt), .val (.int FF), .val (.int FT), .val (.int v9), .val (.int v13), .val (.ref b15), .val (.int v46), .val (.int v50), .val (.int v59)] [])) _
    refine XS.iload X60.here hx rfl (hb hby at_315) rfl ?_
    show Steps p.tables e below (T60.setTop (mkF m 317 #[.val (.int p1), .val (.int p2), .val (.int p3), .val (.int p4), .val (.int p5), .val (.long q6), .second, .val (.int N), .val (.int A1), .val (.int B1), .val (.int A2), .val (.int B2), .val (.int M), .val (.int v2), .val (.int v5), .val (.int SF), .val (.int STt), .val (.int FF), .val (.int FT), .val (.int v9), .val (.int v13), .val (.ref b15), .val (.int v46), .val (.int v50), .val (.int v59)] [(.int v50)])) _
    by_cases hc61 : v50 = (0 : Int32)
    · refine XS.ifYes X60.here hx rfl (pc0 := 317) (pc' := 329) rfl (hb hby at_317) rfl ((if0 _ _).trans (teq hc61).1) (by decide) (by decide) ?_
      show Steps p.tables e below (T60.setTop (mkF m 329 #[.val (.int p1), .val (.int p2), .val (.int p3), .val (.int p4), .val (.int p5), .val (.long q6), .second, .val (.int N), .val (.int A1), .val (.int B1), .val (.int A2), .val (.int B2), .val (.int M), .val (.int v2), .val (.int v5), .val (.int SF), .val (.int STt), .val (.int FF), .val (.int FT), .val (.int v9), .val (.int v13), .val (.ref b15), .val (.int v46), .val (.int v50), .val (.int v59)] [])) _
      refine XS.iconst X60.here hx rfl (hb hby at_329) ?_
      rw [show v63 = (0 : Int32) from hv63.trans (if_pos hc61)] at k
      exact k
    · refine XS.ifNo X60.here hx rfl (hb hby at_317) rfl ((if0 _ _).trans (feq hc61).1) ?_
      show Steps p.tables e below (T60.setTop (mkF m 320 #[.val (.int p1), .val (.int p2), .val (.int p3), .val (.int p4), .val (.int p5), .val (.long q6), .second, .val (.int N), .val (.int A1), .val (.int B1), .val (.int A2), .val (.int B2), .val (.int M), .val (.int v2), .val (.int v5), .val (.int SF), .val (.int STt), .val (.int FF), .val (.int FT), .val (.int v9), .val (.int v13), .val (.ref b15), .val (.int v46), .val (.int v50), .val (.int v59)] [])) _
      refine XS.iload X60.here hx rfl (hb hby at_320) rfl ?_
      show Steps p.tables e below (T60.setTop (mkF m 322 #[.val (.int p1), .val (.int p2), .val (.int p3), .val (.int p4), .val (.int p5), .val (.long q6), .second, .val (.int N), .val (.int A1), .val (.int B1), .val (.int A2), .val (.int B2), .val (.int M), .val (.int v2), .val (.int v5), .val (.int SF), .val (.int STt), .val (.int FF), .val (.int FT), .val (.int v9), .val (.int v13), .val (.ref b15), .val (.int v46), .val (.int v50), .val (.int v59)] [(.int v59)])) _
      by_cases hc62 : v59 = (0 : Int32)
      · refine XS.ifYes X60.here hx rfl (pc0 := 322) (pc' := 329) rfl (hb hby at_322) rfl ((if0 _ _).trans (teq hc62).1) (by decide) (by decide) ?_
        show Steps p.tables e below (T60.setTop (mkF m 329 #[.val (.int p1), .val (.int p2), .val (.int p3), .val (.int p4), .val (.int p5), .val (.long q6), .second, .val (.int N), .val (.int A1), .val (.int B1), .val (.int A2), .val (.int B2), .val (.int M), .val (.int v2), .val (.int v5), .val (.int SF), .val (.int STt), .val (.int FF), .val (.int FT), .val (.int v9), .val (.int v13), .val (.ref b15), .val (.int v46), .val (.int v50), .val (.int v59)] [])) _
        refine XS.iconst X60.here hx rfl (hb hby at_329) ?_
        rw [show v63 = (0 : Int32) from hv63.trans ((if_neg hc61).trans (if_pos hc62))] at k
        exact k
      · refine XS.ifNo X60.here hx rfl (hb hby at_322) rfl ((if0 _ _).trans (feq hc62).1) ?_
        show Steps p.tables e below (T60.setTop (mkF m 325 #[.val (.int p1), .val (.int p2), .val (.int p3), .val (.int p4), .val (.int p5), .val (.long q6), .second, .val (.int N), .val (.int A1), .val (.int B1), .val (.int A2), .val (.int B2), .val (.int M), .val (.int v2), .val (.int v5), .val (.int SF), .val (.int STt), .val (.int FF), .val (.int FT), .val (.int v9), .val (.int v13), .val (.ref b15), .val (.int v46), .val (.int v50), .val (.int v59)] [])) _
        refine XS.iconst X60.here hx rfl (hb hby at_325) ?_
        show Steps p.tables e below (T60.setTop (mkF m 326 #[.val (.int p1), .val (.int p2), .val (.int p3), .val (.int p4), .val (.int p5), .val (.long q6), .second, .val (.int N), .val (.int A1), .val (.int B1), .val (.int A2), .val (.int B2), .val (.int M), .val (.int v2), .val (.int v5), .val (.int SF), .val (.int STt), .val (.int FF), .val (.int FT), .val (.int v9), .val (.int v13), .val (.ref b15), .val (.int v46), .val (.int v50), .val (.int v59)] [(.int (1 : Int32))])) _
        refine XS.goto X60.here hx rfl (pc0 := 326) (pc' := 330) rfl (hb hby at_326) (by decide) (by decide) ?_
        rw [show v63 = (1 : Int32) from hv63.trans ((if_neg hc61).trans (if_neg hc62))] at k
        exact k)
  have er : (f0 p1 p2 p3 p4 p5 q6) = (nar .boolean v63) := by subst hN hA1 hB1 hA2 hB2 hM hv2 hv5 hSF hSTt hFF hFT hv9 hv13 hy17 hy25 hy33 hv46 hv50 hv59 hv63; exact rfl
  obtain ⟨fs, hr, hrun, hended, hW, hsame⟩ := X60.leave (v := some (.int (nar .boolean v63))) (fun h => by rw [Bd.returns] at h; cases h)
  refine ⟨_, _, pre64 _ ?_, hrun, hended, _, _, rfl, ?_, ⟨_, rfl⟩, hW, hsame.mono (by decide) (by decide)⟩
  · show Steps p.tables e below (T60.setTop (mkF m 330 #[.val (.int p1), .val (.int p2), .val (.int p3), .val (.int p4), .val (.int p5), .val (.long q6), .second, .val (.int N), .val (.int A1), .val (.int B1), .val (.int A2), .val (.int B2), .val (.int M), .val (.int v2), .val (.int v5), .val (.int SF), .val (.int STt), .val (.int FF), .val (.int FT), .val (.int v9), .val (.int v13), .val (.ref b15), .val (.int v46), .val (.int v50), .val (.int v59)] [(.int v63)])) _
    exact retN X60 hx (t := .boolean) Bd.returns (by simp) (hb hby at_330) hr
  · show Q0 Z p1 p2 p3 p4 p5 q6 h0 n0 _ T60.heap _
    rw [e60]
    exact ⟨congrArg (fun z => some (Value.int z)) er.symm, N60, trivial⟩
theorem own_f3 (Q T : Int32) (y : Int32 → Int64) (N : Int32) : (own_has (y (own_I N Q T)) T → f3 Q T y (own_W N) = 1) ∧ (¬ own_has (y (own_I N Q T)) T → f3 Q T y (own_W N) = 0) := by
  constructor
  · intro h
    show nar .boolean (if ((y (own_I N Q T)) &&& ((1 : Int64) <<< (T &&& 0x3f).toInt64)) = (0 : Int64) then (0 : Int32) else (1 : Int32)) = 1
    rw [if_neg h]; decide
  · intro h
    show nar .boolean (if ((y (own_I N Q T)) &&& ((1 : Int64) <<< (T &&& 0x3f).toInt64)) = (0 : Int64) then (0 : Int32) else (1 : Int32)) = 0
    rw [if_pos (Classical.not_not.mp h)]; decide
def own_R (N A : Int32) : Prop := 0 ≤ A.toInt ∧ A.toInt < N.toInt
theorem own_q {N A1 B1 A2 B2 Q T v2 v5 : Int32} (h : 1 ≤ N.toInt ∧ N.toInt ≤ 256) (a1 : own_R N A1) (b1 : own_R N B1) (a2 : own_R N A2) (b2 : own_R N B2) (q : own_R N Q) (t : own_R N T) :
    own_has ((if v5 = (0 : Int32) then (if v2 = (0 : Int32) then (fun _ => (0 : Int64)) else own_upd (fun _ => (0 : Int64)) (own_I N A1 B1) B1) else own_upd (if v2 = (0 : Int32) then (fun _ => (0 : Int64)) else own_upd (fun _ => (0 : Int64)) (own_I N A1 B1) B1) (own_I N A2 B2) B2) (own_I N Q T)) T ↔ (¬ v2 = 0 ∧ Q = A1 ∧ T = B1) ∨ (¬ v5 = 0 ∧ Q = A2 ∧ T = B2) := by
  rw [own_has_cupd, own_has_cupd, own_I_inj h.1 h.2 q t a1 b1, own_I_inj h.1 h.2 q t a2 b2]
  exact ⟨fun z => z.imp (fun z => z.elim (fun z => absurd z (own_has_0 T)) id) id, fun z => z.imp Or.inr id⟩
theorem own_end {c : Prop} [Decidable c] {v2 g : Int32} (h1 : c) (h2 : ¬ v2 = 0 → ¬ g = 0) : nar .boolean (if (if c then (1 : Int32) else (0 : Int32)) = (0 : Int32) then (0 : Int32) else (if (if v2 = (0 : Int32) then (1 : Int32) else (if g = (0 : Int32) then (0 : Int32) else (1 : Int32))) = (0 : Int32) then (0 : Int32) else (1 : Int32))) = 1 := by
  rw [if_pos h1, if_neg (by decide)]
  by_cases h : v2 = (0 : Int32)
  · rw [if_pos h, if_neg (by decide)]; decide
  · rw [if_neg h, if_neg (h2 h), if_neg (by decide)]; decide
theorem own_c1 {N A1 B1 A2 B2 Q T V2 V5 : Int32} (h : 1 ≤ N.toInt ∧ N.toInt ≤ 256) (a1 : own_R N A1) (b1 : own_R N B1) (a2 : own_R N A2) (b2 : own_R N B2) (q : own_R N Q) (t : own_R N T) : f3 Q T (if V5 = (0 : Int32) then (if V2 = (0 : Int32) then (fun _ => (0 : Int64)) else own_upd (fun _ => (0 : Int64)) (own_I N A1 B1) B1) else own_upd (if V2 = (0 : Int32) then (fun _ => (0 : Int64)) else own_upd (fun _ => (0 : Int64)) (own_I N A1 B1) B1) (own_I N A2 B2) B2) (own_W N) = (if V2 = (0 : Int32) then (if V5 = (0 : Int32) then (0 : Int32) else (if Q = A2 then (if T = B2 then (1 : Int32) else (0 : Int32)) else (0 : Int32))) else (if Q = A1 then (if T = B1 then (1 : Int32) else (if V5 = (0 : Int32) then (0 : Int32) else (if Q = A2 then (if T = B2 then (1 : Int32) else (0 : Int32)) else (0 : Int32)))) else (if V5 = (0 : Int32) then (0 : Int32) else (if Q = A2 then (if T = B2 then (1 : Int32) else (0 : Int32)) else (0 : Int32))))) := by
  have k := own_q (v2 := V2) (v5 := V5) h a1 b1 a2 b2 q t
  have f := own_f3 Q T (if V5 = (0 : Int32) then (if V2 = (0 : Int32) then (fun _ => (0 : Int64)) else own_upd (fun _ => (0 : Int64)) (own_I N A1 B1) B1) else own_upd (if V2 = (0 : Int32) then (fun _ => (0 : Int64)) else own_upd (fun _ => (0 : Int64)) (own_I N A1 B1) B1) (own_I N A2 B2) B2) N
  by_cases e : (¬ V2 = 0 ∧ Q = A1 ∧ T = B1) ∨ (¬ V5 = 0 ∧ Q = A2 ∧ T = B2)
  · refine (f.1 (k.mpr e)).trans ?_
    rcases e with ⟨x, y, z⟩ | ⟨x, y, z⟩
    · rw [if_neg x, if_pos y, if_pos z]
    · by_cases c2 : V2 = (0 : Int32)
      · rw [if_pos c2, if_neg x, if_pos y, if_pos z]
      · rw [if_neg c2, if_neg x, if_pos y, if_pos z]
        by_cases c3 : Q = A1
        · rw [if_pos c3]
          by_cases c4 : T = B1
          · rw [if_pos c4]
          · rw [if_neg c4]
        · rw [if_neg c3]
  · refine (f.2 (fun z => e (k.mp z))).trans ?_
    have e1 : (if V5 = (0 : Int32) then (0 : Int32) else (if Q = A2 then (if T = B2 then (1 : Int32) else (0 : Int32)) else (0 : Int32))) = 0 := by
      by_cases x : V5 = (0 : Int32)
      · rw [if_pos x]
      · by_cases y : Q = A2
        · by_cases z : T = B2
          · exact absurd (Or.inr ⟨x, y, z⟩) e
          · rw [if_neg x, if_pos y, if_neg z]
        · rw [if_neg x, if_neg y]
    rw [e1]
    by_cases x : V2 = (0 : Int32)
    · rw [if_pos x]
    · by_cases y : Q = A1
      · by_cases z : T = B1
        · exact absurd (Or.inl ⟨x, y, z⟩) e
        · rw [if_neg x, if_pos y, if_neg z]
      · rw [if_neg x, if_neg y]
theorem own_c2 {N A1 B1 A2 B2 V2 V5 : Int32} (h : 1 ≤ N.toInt ∧ N.toInt ≤ 256) (a1 : own_R N A1) (b1 : own_R N B1) (a2 : own_R N A2) (b2 : own_R N B2) : ¬ V2 = 0 → ¬ f3 A1 B1 (if V5 = (0 : Int32) then (if V2 = (0 : Int32) then (fun _ => (0 : Int64)) else own_upd (fun _ => (0 : Int64)) (own_I N A1 B1) B1) else own_upd (if V2 = (0 : Int32) then (fun _ => (0 : Int64)) else own_upd (fun _ => (0 : Int64)) (own_I N A1 B1) B1) (own_I N A2 B2) B2) (own_W N) = 0 := by
  intro hv q
  have k := own_q (v2 := V2) (v5 := V5) h a1 b1 a2 b2 a1 b1
  have f := (own_f3 A1 B1 (if V5 = (0 : Int32) then (if V2 = (0 : Int32) then (fun _ => (0 : Int64)) else own_upd (fun _ => (0 : Int64)) (own_I N A1 B1) B1) else own_upd (if V2 = (0 : Int32) then (fun _ => (0 : Int64)) else own_upd (fun _ => (0 : Int64)) (own_I N A1 B1) B1) (own_I N A2 B2) B2) N).1 (k.mpr (Or.inl ⟨hv, rfl, rfl⟩))
  rw [q] at f
  exact absurd f (by decide)

theorem own_law (p1 p2 p3 p4 p5 : Int32) (q6 : Int64) : f0 p1 p2 p3 p4 p5 q6 = 1 := by
  have hN := own_N1 (p1 := p1) rfl
  have a1 : own_R _ _ := own_rem (x := p2) hN rfl
  have b1 : own_R _ _ := own_rem (x := p3) hN rfl
  have a2 : own_R _ _ := own_rem (x := p4) hN rfl
  have b2 : own_R _ _ := own_rem (x := p5) hN rfl
  have ff : own_R _ _ := own_remL (z := ((q6.toUInt64 >>> ((8 : Int32) &&& 0x3f).toInt64.toUInt64).toInt64)) (m := 2147483647) 31 (by decide) (by decide) hN rfl
  have fT : own_R _ _ := own_remL (z := ((q6.toUInt64 >>> ((40 : Int32) &&& 0x3f).toInt64.toUInt64).toInt64)) (m := 16777215) 24 (by decide) (by decide) hN rfl
  unfold f0
  exact own_end (own_c1 hN a1 b1 a2 b2 (own_sel (P := own_R _) rfl a1 a2 ff) (own_sel (P := own_R _) rfl b1 b2 fT)) (own_c2 hN a1 b1 a2 b2)
set_option maxRecDepth 65536 in
set_option maxHeartbeats 40000000 in
theorem comes_1 {Post : Tables → Env → Array Value → State → Outcome → State → Prop} (hpost : ∀ tb e args s v u, (limb_1_1.after args s (.returned v) u = true ∧ limb_1_2.after args s (.returned v) u = true ∧ True) → FrameEnd s (.returned v) u (Jvm.fieldLocs frame_1_writes args s ++ Jvm.arrayLocs frame_1_arrays args s ++ Jvm.staticLocs frame_1_statics s) 16 2176 → Post tb e args s (.returned v) u) :
    ArmFor flags0 classFile x code maxLocals ret World_1 tables_1 room_1 Calls_1 rest_1 Pre_1 Post := by
  intro l hfl _ _ p e ha hc hk s m args below hf hA hF happ hP
  obtain ⟨hcalls, hrest, hpre⟩ := hP
  obtain ⟨-, -, -, hnamed, -, -, -, hat⟩ := (Spec.applies_iff hf).mp happ
  obtain ⟨hg, hn⟩ := and_e (Cond.before_iff.mp (show (Jvm.Cond.and given_1 narrow_1).before args s = true from hpre))
  obtain ⟨g1, g2⟩ := and_e hg
  obtain ⟨g3, g4⟩ := and_e g2
  obtain ⟨g5, g6⟩ := and_e g4
  obtain ⟨g7, g8⟩ := and_e g6
  obtain ⟨g9, g10⟩ := and_e g8
  obtain ⟨g11, g12⟩ := and_e g10
  obtain ⟨w0, w1, w2, w3, w4, w5, rfl⟩ : ∃ w0 w1 w2 w3 w4 w5 : Value, args = #[w0, w1, w2, w3, w4, w5] := by
    have hs : args.size = 6 := by simpa [Cond.value, given_1] using g1
    obtain ⟨L⟩ := args
    match L, hs with
    | [w0, w1, w2, w3, w4, w5], _ => exact ⟨w0, w1, w2, w3, w4, w5, rfl⟩
  have hw := fun d (hd : d ∈ tables_1) => atoms_spec (ws := Jvm.Cond.code x code maxLocals ret :: tables_1) hat d (List.mem_cons_of_mem _ hd)
  obtain ⟨i0, ei0⟩ := is_v g3
  obtain rfl : w0 = (.int i0) := Option.some.inj ei0
  obtain ⟨i1, ei1⟩ := is_v g5
  obtain rfl : w1 = (.int i1) := Option.some.inj ei1
  obtain ⟨i2, ei2⟩ := is_v g7
  obtain rfl : w2 = (.int i2) := Option.some.inj ei2
  obtain ⟨i3, ei3⟩ := is_v g9
  obtain rfl : w3 = (.int i3) := Option.some.inj ei3
  obtain ⟨i4, ei4⟩ := is_v g11
  obtain rfl : w4 = (.int i4) := Option.some.inj ei4
  obtain ⟨i5, ei5⟩ := isL_v g12
  obtain rfl : w5 = (.long i5) := Option.some.inj ei5
  obtain ⟨n, o, h1, h2, h3, _, L, rfl, ⟨rfl, N, -⟩, hq⟩ := rm0 l s _ hw tables_1 i0 i1 i2 i3 i4 i5 s.heap s.heap.size (Nat.le_refl _) (Old.start s) p e ha hc hk s m _ below hf ((Spec.applies_iff_loose hf).mp happ).1 ⟨rfl, State.Warmed39.refl s, rfl⟩ trivial
  refine ⟨n, _, h1, h2, h3, hpost _ _ _ _ _ _ ⟨Cond.after_iff.mpr rfl, Cond.after_iff.mpr (eq_i res_at (Term.int_eval (1)) (congrArg Value.int (own_law i0 i1 i2 i3 i4 i5))), trivial⟩ ⟨hq.1, hq.2.1, (hq.2.2.sift fun y hy => Or.inr (N y hy)).mono (by decide) (by decide)⟩⟩
theorem main_1_1 : Claimed_1_1 := comes_1 fun _ _ _ _ _ _ h hF => ⟨h.1, hF⟩
theorem main_1_2 : Claimed_1_2 := comes_1 fun _ _ _ _ _ _ h hF => ⟨h.2.1, hF⟩
end Jvm.Pilot.@@N@@
namespace Jvm.Pilot.@@N@@
open Jvm Jvm.ClassFile Sem Op Lib Jvm.Free Jvm.Stand Jvm.Pilot.@@N@@.Jvm.D
/-! MADE BY PROGRAM (witnessworld.py) out of the Statement's table words and the real class files: 11 classes; the members and pool entries that the words name. The judged class is class 1, her method 1. -/
namespace start1
open Jvm.ClassFile
def u (s : String) : CpInfo := .utf8 (stringToUtf16 s)
/-- a pool by its gaps: so many unusable entries, then the entry; so many at the end -/
def gap : Nat → List CpInfo → List CpInfo
  | 0, r => r
  | n + 1, r => .unusable :: gap n r
def poolList (es : List (Nat × CpInfo)) (last : Nat) : List CpInfo := es.foldr (fun e r => gap e.1 (e.2 :: r)) (gap last [])
def pool (es : List (Nat × CpInfo)) (last : Nat) : Array CpInfo := ⟨poolList es last⟩
def fileOf (pool : Array CpInfo) (this : Nat) (attrs : Array Attribute := #[]) (ms : Array MethodInfo := #[]) (fl : Nat := 33) (sup : Nat := 0) (ifs : Array Nat := #[]) (fds : Array FieldInfo := #[]) : ClassFile where
  minorVersion := 0
  majorVersion := 65
  constantPool := pool
  accessFlags := fl
  thisClass := this
  superClass := sup
  interfaces := ifs
  fields := fds
  methods := ms
  attributes := attrs
def plain (name : String) (sup : Option ClassId) : Class where
  name := name
  kind := .ordinary
  loader := none
  accessFlags := 33
  super := sup
  interfaces := #[]
  cf := none
  fields := #[]
  methods := #[]
  instanceTypes := #[]
  staticTypes := #[]
  resolved := #[]
  callSites := []
  init := .initialized
  statics := none
  mirror := none

def pool0 : Array CpInfo := pool [(5, u "<init>"), (0, u "()V"), (1, .class_ 10), (1, u "java/lang/Object")] 113

def k0c0 : Code := { maxStack := 0, maxLocals := 1, code := object_method_1_code, exceptionTable := #[], attributes := #[] }
def k0m0 : Method := { name := "<init>", desc := "()V", sig := { parameters := [], returnType := none }, accessFlags := 1, code := some k0c0 }
/-- java/lang/Object -/
def k0 : Class := { plain "java/lang/Object" none with
  accessFlags := 33
  interfaces := #[]
  cf := some (fileOf pool0 8 #[] #[{ accessFlags := 1, nameIndex := 5, descriptorIndex := 6, attributes := #[] }] 33 0 #[] #[])
  fields := #[]
  methods := #[k0m0]
  instanceTypes := #[]
  staticTypes := #[]
  resolved := Array.replicate 124 none
  statics := none }

def pool1 : Array CpInfo := pool [(2, .class_ 4), (1, u "java/lang/Object"), (0, u "<init>"), (0, u "()V"), (0, .integer 2147483647), (0, .long 15), (1, .long 3), (1, .long 2147483647), (1, .long 16777215), (1, .class_ 17), (0, u "com/example/fenceline/fenceline/model/Relation"), (0, .methodref 16 19), (0, .nameAndType 5 20), (0, u "(I)V"), (0, .methodref 16 22), (0, .nameAndType 23 24), (0, u "add"), (0, u "(II)V"), (0, .methodref 16 26), (0, .nameAndType 27 28), (0, u "contains"), (0, u "(II)Z"), (0, .class_ 30), (0, u "com/example/fenceline/fenceline/model/RelationContainsPinLaw"), (2, u "law"), (0, u "(IIIIIJ)Z")] 3

def k1m0 : Method := { name := "<init>", desc := "()V", sig := { parameters := [], returnType := none }, accessFlags := 1, code := none }
def k1c1 : Code := { maxStack := 4, maxLocals := 25, code := code, exceptionTable := #[], attributes := #[] }
def k1m1 : Method := { name := "law", desc := "(IIIIIJ)Z", sig := { parameters := [.int, .int, .int, .int, .int, .long], returnType := some .boolean }, accessFlags := 9, code := some k1c1 }
/-- com/example/fenceline/fenceline/model/RelationContainsPinLaw -/
def k1 : Class := { plain "com/example/fenceline/fenceline/model/RelationContainsPinLaw" (some 0) with
  accessFlags := 49
  interfaces := #[]
  cf := some (fileOf pool1 29 #[] #[{ accessFlags := 1, nameIndex := 5, descriptorIndex := 6, attributes := #[] }, { accessFlags := 9, nameIndex := 33, descriptorIndex := 34, attributes := #[] }] 49 2 #[] #[])
  fields := #[]
  methods := #[k1m0, k1m1]
  instanceTypes := #[]
  staticTypes := #[]
  resolved := Array.replicate 38 none
  statics := none }

def pool2 : Array CpInfo := pool [(1, .methodref 2 3), (0, .class_ 4), (0, .nameAndType 5 6), (0, u "java/lang/Object"), (0, u "<init>"), (0, u "()V"), (0, .fieldref 8 9), (0, .class_ 10), (0, .nameAndType 11 12), (0, u "com/example/fenceline/fenceline/model/Relation"), (0, u "size"), (0, u "I"), (0, .fieldref 8 14), (0, .nameAndType 15 12), (0, u "words"), (0, .fieldref 8 17), (0, .nameAndType 18 19), (0, u "rows"), (0, u "[J"), (2, u "(I)V"), (1, .class_ 26), (1, u "com/example/fenceline/fenceline/model/Relation$PairTest"), (1, u "(II)Z"), (2, u "add"), (0, u "(II)V"), (18, u "contains")] 47

def k2c0 : Code := { maxStack := 3, maxLocals := 2, code := prog_78_method_1_code, exceptionTable := #[], attributes := #[] }
def k2m0 : Method := { name := "<init>", desc := "(I)V", sig := { parameters := [.int], returnType := none }, accessFlags := 1, code := some k2c0 }
def k2c1 : Code := { maxStack := 7, maxLocals := 3, code := prog_78_method_4_code, exceptionTable := #[], attributes := #[] }
def k2m1 : Method := { name := "add", desc := "(II)V", sig := { parameters := [.int, .int], returnType := none }, accessFlags := 1, code := some k2c1 }
def k2c2 : Code := { maxStack := 5, maxLocals := 3, code := prog_78_method_5_code, exceptionTable := #[], attributes := #[] }
def k2m2 : Method := { name := "contains", desc := "(II)Z", sig := { parameters := [.int, .int], returnType := some .boolean }, accessFlags := 1, code := some k2c2 }
/-- com/example/fenceline/fenceline/model/Relation -/
def k2 : Class := { plain "com/example/fenceline/fenceline/model/Relation" (some 0) with
  accessFlags := 49
  interfaces := #[]
  cf := some (fileOf pool2 8 #[.nestMembers #[24]] #[{ accessFlags := 1, nameIndex := 5, descriptorIndex := 22, attributes := #[] }, { accessFlags := 1, nameIndex := 31, descriptorIndex := 32, attributes := #[] }, { accessFlags := 1, nameIndex := 51, descriptorIndex := 28, attributes := #[] }] 49 2 #[] #[{ accessFlags := 18, nameIndex := 18, descriptorIndex := 19, attributes := #[] }, { accessFlags := 18, nameIndex := 11, descriptorIndex := 12, attributes := #[] }, { accessFlags := 18, nameIndex := 15, descriptorIndex := 12, attributes := #[] }])
  fields := #[{ name := "rows", type := (.array .long), accessFlags := 18, slot := 0, constantValue := 0 }, { name := "size", type := .int, accessFlags := 18, slot := 1, constantValue := 0 }, { name := "words", type := .int, accessFlags := 18, slot := 2, constantValue := 0 }]
  methods := #[k2m0, k2m1, k2m2]
  instanceTypes := #[(.array .long), .int, .int]
  staticTypes := #[]
  resolved := Array.replicate 99 none
  statics := none }

def pool3 : Array CpInfo := pool [(1, u "java/lang/Cloneable"), (0, .class_ 1), (0, u "java/lang/Object"), (0, .class_ 3)] 3

/-- java/lang/Cloneable -/
def k3 : Class := { plain "java/lang/Cloneable" (some 0) with
  accessFlags := 1537
  interfaces := #[]
  cf := some (fileOf pool3 2 #[] #[] 1537 4 #[] #[])
  fields := #[]
  methods := #[]
  instanceTypes := #[]
  staticTypes := #[]
  resolved := Array.replicate 8 none
  statics := none }

def pool4 : Array CpInfo := pool [(1, u "java/io/Serializable"), (0, .class_ 1), (0, u "java/lang/Object"), (0, .class_ 3)] 3

/-- java/io/Serializable -/
def k4 : Class := { plain "java/io/Serializable" (some 0) with
  accessFlags := 1537
  interfaces := #[]
  cf := some (fileOf pool4 2 #[] #[] 1537 4 #[] #[])
  fields := #[]
  methods := #[]
  instanceTypes := #[]
  staticTypes := #[]
  resolved := Array.replicate 8 none
  statics := none }

/-- the primitive byte -/
def k5 : Class := { plain "byte" none with kind := .primitive 'B', accessFlags := 0x411 }
/-- [B -/
def k6 : Class := { plain "[B" (some 0) with kind := .array 5 .byte, interfaces := #[3, 4], accessFlags := 1041 }

/-- the primitive int -/
def k7 : Class := { plain "int" none with kind := .primitive 'I', accessFlags := 0x411 }
/-- [I -/
def k8 : Class := { plain "[I" (some 0) with kind := .array 7 .int, interfaces := #[3, 4], accessFlags := 1041 }

/-- the primitive long -/
def k9 : Class := { plain "long" none with kind := .primitive 'J', accessFlags := 0x411 }
/-- [J -/
def k10 : Class := { plain "[J" (some 0) with kind := .array 9 .long, interfaces := #[3, 4], accessFlags := 1041 }

def heap : Heap := #[]
def classes : Array Class := #[k0, k1, k2, k3, k4, k5, k6, k7, k8, k9, k10]
def interned : List (Array UInt16 × Addr) := []
def slotsUsed : Nat := 0
def theMethod : MethodId := ⟨1, 1⟩
def args0 : Array Value := #[.int 5, .int 1, .int 2, .int 3, .int 4, .long 3]
def aboutOver (below : List Frame) : State where
  vm := { classes := classes, interned := interned.toArray }
  heap := heap
  slotsUsed := slotsUsed
  threads := #[{ frames := .invoking theMethod args0 :: below }]
def below0 : List Frame := [.native { method := ⟨0, 0⟩, args := #[] }]
def about1 : State := aboutOver below0
def p0 : Program := .bare "" "" ""
def e0 : Env := launch0.env 0 0 0
theorem w_frames : about1.frames = Frame.invoking theMethod args0 :: below0 := rfl
set_option maxRecDepth 65536 in
theorem w_args : argsFit about1.vm theMethod args0 = true := by decide +kernel
set_option maxRecDepth 65536 in
theorem w_heap : heapFits about1 = true := by decide +kernel
set_option maxRecDepth 65536 in
theorem w_runnable : about1.curStatus? = some .runnable := by decide +kernel
set_option maxRecDepth 65536 in
theorem w_alone : about1.alone = true := by decide +kernel
set_option maxRecDepth 65536 in
theorem w_named : about1.methodNamed? x = some theMethod := by decide +kernel
set_option maxRecDepth 65536 in
theorem w_hears : about1.hears theMethod below0 = true := by decide +kernel
set_option maxRecDepth 65536 in
theorem w_ripe : about1.ripe theMethod args0 below0 = true := by decide +kernel
theorem w_running : about1.status = .running := rfl
set_option maxRecDepth 65536 in
theorem w_room : about1.hasRoom e0.platform room_1 = true :=
  launch0.hasRoom_least _ room_1 (by decide +kernel) (by decide +kernel) (by decide +kernel) (by decide +kernel) (by decide +kernel) (by decide +kernel)
theorem allAtoms_all (ts : List Jvm.Cond) (a : Array Jvm.Value) (st : Jvm.State) : (allAtoms ts).before a st = ts.all (fun c => c.before a st) := by
  induction ts with
  | nil => rfl
  | cons c t ih =>
    show (Jvm.Cond.and c (allAtoms t)).before a st = _
    rw [Jvm.Cond.before_and, ih, List.all_cons]
def words1 : List Jvm.Cond := Jvm.Cond.code x code maxLocals ret :: tables_1
/-- a 'code' word, met by the world's own term for the bytes: nothing is compared byte by byte -/
theorem code_word {y : MethodName} {bytes : ByteArray} {mx : Nat} {rt : Option FieldType} {a : Array Value} {s : State} {m : MethodId} {meth : Method} {c : Code} (h1 : s.methodNamed? y = some m) (h2 : s.vm.method? m = some meth) (h3 : meth.code = some c) (h4 : c.code = bytes)
    (h5 : (c.maxLocals == mx && c.exceptionTable.isEmpty && decide (c.maxStack ≤ mostOperands) && decide (meth.sig.returnType = rt) && !meth.locks && decide (parseMethodDescriptor y.desc = some meth.sig)) = true) : (Jvm.Cond.code y bytes mx rt).before a s = true := by
  simp only [Bool.and_eq_true, beq_iff_eq, Bool.not_eq_true', decide_eq_true_eq] at h5
  obtain ⟨⟨⟨⟨⟨g1, g2⟩, g3⟩, g4⟩, g5⟩, g6⟩ := h5
  simp [Cond.before, Cond.holds, Cond.value, h1, h2, h3, h4, g1, g2, g3, g4, g5, g6]
def isCode : Jvm.Cond → Bool
  | .code _ _ _ _ => true
  | _ => false
theorem all_split {L : List Jvm.Cond} {P : Jvm.Cond → Bool} (h1 : L.all (fun c => isCode c || P c) = true) (h2 : ∀ c ∈ L.filter isCode, P c = true) : L.all P = true := by
  refine List.all_eq_true.mpr fun c hc => ?_
  have h := List.all_eq_true.mp h1 c hc
  rcases Bool.eq_false_or_eq_true (isCode c) with hi | hi
  · exact h2 c (List.mem_filter.mpr ⟨hc, hi⟩)
  · simpa [hi] using h
set_option maxRecDepth 65536 in
theorem w_c0 : (Jvm.Cond.code x code maxLocals ret).before args0 about1 = true := code_word (m := ⟨1, 1⟩) (meth := k1m1) (c := k1c1) (by decide +kernel) rfl rfl rfl (by decide +kernel)
set_option maxRecDepth 65536 in
theorem w_c1 : (Jvm.Cond.code ({ cls := "com/example/fenceline/fenceline/model/Relation", name := "<init>", desc := "(I)V" } : Jvm.MethodName) prog_78_method_1_code (2 : Nat) (Option.none : Option Jvm.ClassFile.FieldType)).before args0 about1 = true := code_word (m := ⟨2, 0⟩) (meth := k2m0) (c := k2c0) (by decide +kernel) rfl rfl rfl (by decide +kernel)
set_option maxRecDepth 65536 in
theorem w_c2 : (Jvm.Cond.code ({ cls := "java/lang/Object", name := "<init>", desc := "()V" } : Jvm.MethodName) object_method_1_code (1 : Nat) (Option.none : Option Jvm.ClassFile.FieldType)).before args0 about1 = true := code_word (m := ⟨0, 0⟩) (meth := k0m0) (c := k0c0) (by decide +kernel) rfl rfl rfl (by decide +kernel)
set_option maxRecDepth 65536 in
theorem w_c3 : (Jvm.Cond.code ({ cls := "com/example/fenceline/fenceline/model/Relation", name := "contains", desc := "(II)Z" } : Jvm.MethodName) prog_78_method_5_code (3 : Nat) (Option.some Jvm.ClassFile.FieldType.boolean)).before args0 about1 = true := code_word (m := ⟨2, 2⟩) (meth := k2m2) (c := k2c2) (by decide +kernel) rfl rfl rfl (by decide +kernel)
set_option maxRecDepth 65536 in
theorem w_c4 : (Jvm.Cond.code ({ cls := "com/example/fenceline/fenceline/model/Relation", name := "add", desc := "(II)V" } : Jvm.MethodName) prog_78_method_4_code (3 : Nat) (Option.none : Option Jvm.ClassFile.FieldType)).before args0 about1 = true := code_word (m := ⟨2, 1⟩) (meth := k2m1) (c := k2c1) (by decide +kernel) rfl rfl rfl (by decide +kernel)
def codes1 : List Jvm.Cond := [Jvm.Cond.code x code maxLocals ret, Jvm.Cond.code ({ cls := "com/example/fenceline/fenceline/model/Relation", name := "<init>", desc := "(I)V" } : Jvm.MethodName) prog_78_method_1_code (2 : Nat) (Option.none : Option Jvm.ClassFile.FieldType), Jvm.Cond.code ({ cls := "java/lang/Object", name := "<init>", desc := "()V" } : Jvm.MethodName) object_method_1_code (1 : Nat) (Option.none : Option Jvm.ClassFile.FieldType), Jvm.Cond.code ({ cls := "com/example/fenceline/fenceline/model/Relation", name := "contains", desc := "(II)Z" } : Jvm.MethodName) prog_78_method_5_code (3 : Nat) (Option.some Jvm.ClassFile.FieldType.boolean), Jvm.Cond.code ({ cls := "com/example/fenceline/fenceline/model/Relation", name := "add", desc := "(II)V" } : Jvm.MethodName) prog_78_method_4_code (3 : Nat) (Option.none : Option Jvm.ClassFile.FieldType)]
set_option maxRecDepth 65536 in
theorem codes_eq : words1.filter isCode = codes1 := rfl
theorem w_codes : ∀ c ∈ words1.filter isCode, c.before args0 about1 = true := by
  rw [codes_eq]
  intro c hc
  simp only [codes1, List.mem_cons, List.not_mem_nil, or_false] at hc
  rcases hc with rfl | rfl | rfl | rfl | rfl
  · exact w_c0
  · exact w_c1
  · exact w_c2
  · exact w_c3
  · exact w_c4
set_option maxRecDepth 65536 in
theorem w_t1 : (words1.take 24).all (fun c => isCode c || c.before args0 about1) = true := by decide +kernel
set_option maxRecDepth 65536 in
theorem w_t2 : (words1.drop 24).all (fun c => isCode c || c.before args0 about1) = true := by decide +kernel
theorem w_tables : (allAtoms (Jvm.Cond.code x code maxLocals ret :: tables_1)).before args0 about1 = true := by
  rw [allAtoms_all]
  show words1.all (fun c => c.before args0 about1) = true
  refine all_split ?_ w_codes
  rw [← List.take_append_drop 24 words1, List.all_append, w_t1, w_t2]
  rfl
set_option maxRecDepth 65536 in
theorem w_case : (Jvm.Cond.and given_1 narrow_1).before args0 about1 = true := by decide +kernel
theorem w_applies : (headSpec (Jvm.Cond.code x code maxLocals ret :: tables_1) room_1).applies x e0.platform about1 = true :=
  (Spec.applies_iff w_frames).mpr ⟨w_running, w_runnable, w_alone, w_named, w_hears, w_ripe, w_room, w_tables⟩
theorem atStart : AtStart classFile x code maxLocals ret World_1 tables_1 room_1 Calls_1 rest_1 Pre_1 launch0 p0 e0 about1 theMethod args0 below0 :=
  ⟨lists_1, trivial, launch0.admits_env _ _ _, launch0.least_env, fairChoices_fair.cas, fairChoices_fair.clock, w_frames, w_args, w_heap, w_applies, trivial, trivial, w_case⟩
end start1
theorem witness_1 : WitnessClaimed_1 := ⟨start1.p0, start1.e0, start1.about1, start1.theMethod, start1.args0, start1.below0, start1.atStart⟩
end Jvm.Pilot.@@N@@
