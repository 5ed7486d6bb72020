import JvmDerived
import JvmDerived.Pilot.@@N@@Statement
import JvmDerived.Pilot.@@N@@Code
set_option linter.unusedVariables false
set_option linter.unusedSimpArgs false
namespace Jvm.RoadKit
open Sem ClassFile Op Lib Jvm.Stand Jvm.Free Jvm.LawKit
section New
variable {p : Program} {l : Launch} {e : Env} {R : Room} {s : State} {m : MethodId} {args : Array Value} {below : List Frame} {meth : Method} {c : Code} {T : State} {locs : List Loc} {cells slots : Nat}
theorem retI (X : Stand p l e R s m args below meth c T locs cells slots) (hx : p.tables.exec = Jvm.exec) {pc : Nat} {Ls : Array Slot} {z : Int32} {rest : List Value} (hret : meth.sig.returnType = some .int) (hd : decode c.code pc = .ok (.ireturn, 1)) {fs : List Frame}
    (hl : ∀ (f : JFrame) (acts : List Action), f.method = m → f.locked = none → f.entered = [] → (doReturn e (T.setTop f) acts (some (.int z))).1 = T.setFrames fs) : Steps p.tables e below (T.setTop (mkF m pc Ls (.int z :: rest))) (T.setFrames fs) := by
  have hm' : T.vm.method? m = some meth := X.method'
  have hn : narrow .int (.int z) = .int z := rfl
  show Steps p.tables e below (T.setTop { method := m, pc := pc, locals := Ls, stack := _ :: rest, locked := none }) _
  jvm_step X.here [X.here.top, hx, hd, hm', hret, hn]
  first | (intro acts; rw [hl _ acts rfl rfl rfl]) | rw [hl _ _ rfl rfl rfl]
  exact Steps.refl _
end New
theorem own_lc_tlt {a b : Int64} (h : a < b) : lcmpW a b < 0 := by rw [lcW]; exact (lc_lt _ _).2 h
theorem own_lc_flt {a b : Int64} (h : ¬ a < b) : ¬ lcmpW a b < 0 := by rw [lcW]; exact fun q => h ((lc_lt _ _).1 q)
theorem own_lc_tgt {a b : Int64} (h : b < a) : 0 < lcmpW a b := by rw [lcW]; exact (lc_gt _ _).2 h
theorem own_lc_fgt {a b : Int64} (h : ¬ b < a) : ¬ 0 < lcmpW a b := by rw [lcW]; exact fun q => h ((lc_gt _ _).1 q)
theorem own_lc_teq {a b : Int64} (h : a = b) : lcmpW a b = 0 := by rw [lcW]; exact (lc_eq _ _).2 h
theorem own_one {c : Prop} [Decidable c] {A B : Slot} (ha : One A) (hb : One B) : One (if c then A else B) := by
  by_cases h : c
  · rw [if_pos h]; exact ha
  · rw [if_neg h]; exact hb
theorem own_lc_feq {a b : Int64} (h : ¬ a = b) : ¬ lcmpW a b = 0 := by rw [lcW]; exact fun q => h ((lc_eq _ _).1 q)
end Jvm.RoadKit
namespace Jvm.Pilot.@@N@@
open Jvm Jvm.ClassFile Sem Op Lib Jvm.Free Jvm.Stand Jvm.LawKit Jvm.RoadKit Bundle Jvm.Pilot.@@N@@.Jvm.D
end Jvm.Pilot.@@N@@
/- laws to paste: Road.backV (cut by pick.py; bodies as the Statement names them) -/
namespace Jvm.Pilot.@@N@@
namespace StrChars
open Jvm Sem ClassFile Op Lib Jvm.Stand Jvm.Free.XT Jvm.Free.ALB Jvm.Free.JM Jvm.Free
open Jvm.Lib.Cold (StaticIs)
/-- a char array whose places are chars -/
def Ch (a : Addr) (A : Cell) (U : State) : Prop := Arr .char a A U ∧ Typed .char A
theorem Ch.mv {a : Addr} {A : Cell} {U U' : State} (h : Ch a A U) (hal : U.vm.Alike U'.vm) (hh : U'.heap = U.heap) : Ch a A U' := ⟨h.1.mv hal hh, h.2⟩
theorem Ch.keep {a : Addr} {A : Cell} {U U' : State} (h : Ch a A U) (hal : U.vm.Alike U'.vm) (hk : U'.heap[a]? = some A) : Ch a A U' := ⟨h.1.keep hal hk, h.2⟩
/-- what place i of a char[]'s cell holds -/
def cv (A : Cell) (i : Nat) : Int32 := match A.slots[i]? with | some (.int x) => x | _ => 0
theorem Ch.get {a : Addr} {A : Cell} {U : State} (h : Ch a A U) {i : Nat} (hi : i < A.slots.size) : A.slots[i]? = some (.int (cv A i)) := by
  have e := Array.getElem?_eq_getElem hi
  have f := h.2 i _ e
  unfold cv; rw [e]
  generalize A.slots[i] = v at f
  cases v <;> simp [fits] at f ⊢
/-- the byte that i2b leaves of a char -/
def lo8 (x : Int32) : Int32 := x.toInt8.toInt32
theorem fits_lo8 (y : Int32) : fits .byte (.int (lo8 y)) = true := by
  have h1 := y.toInt8.le_toInt
  have h2 := y.toInt8.toInt_lt
  simp only [lo8, fits, Bool.and_eq_true, decide_eq_true_eq, Int32.le_iff_toInt_le, Int8.toInt_toInt32, show (-128 : Int32).toInt = -128 from by decide, show (127 : Int32).toInt = 127 from by decide]
  omega
/-- A' is A but that each place j of lo .. hi - 1 holds f j -/
def Laid (A A' : Cell) (lo hi : Nat) (f : Nat → Value) : Prop := A'.cls = A.cls ∧ A'.vm = A.vm ∧ A'.slots.size = A.slots.size ∧ ∀ i, A'.slots[i]? = if lo ≤ i ∧ i < hi then some (f i) else A.slots[i]?
theorem Laid.zero (A : Cell) (lo : Nat) (f : Nat → Value) : Laid A A lo (lo + 0) f := ⟨rfl, rfl, rfl, fun i => by rw [if_neg (by omega)]⟩
theorem Laid.step {A Ak : Cell} {lo k : Nat} {f : Nat → Value} {v : Value} (h : Laid A Ak lo k f) (hlo : lo ≤ k) (hk : k < Ak.slots.size) (hv : v = f k) : Laid A (Ak.setSlot k v) lo (k + 1) f := by
  refine ⟨h.1, h.2.1, by simpa [Cell.setSlot] using h.2.2.1, fun i => ?_⟩
  by_cases e : k = i
  · subst e; rw [Cell.slots_setSlot_self v hk, if_pos (by omega), hv]
  · rw [Cell.slots_setSlot_ne v e, h.2.2.2 i]
    by_cases q : lo ≤ i ∧ i < k
    · rw [if_pos q, if_pos (by omega)]
    · rw [if_neg q, if_neg (by omega)]
def U16 : String := "java/lang/StringUTF16"
namespace Cmp5
def yN : MethodName := ⟨"java/lang/StringUTF16", "compress", "([CI[BII)I"⟩
abbrev yB : ByteArray := jdk_52_method_21_code
theorem d0 : decode yB 0 = .ok (.iconst 0, 1) := by decide +kernel
theorem d1 : decode yB 1 = .ok (.istore 5, 2) := by decide +kernel
theorem d3 : decode yB 3 = .ok (.iload 5, 2) := by decide +kernel
theorem d5 : decode yB 5 = .ok (.iload 4, 2) := by decide +kernel
theorem d7 : decode yB 7 = .ok (.if_icmp (.ge) 37, 3) := by decide +kernel
theorem d10 : decode yB 10 = .ok (.aload_n 0, 1) := by decide +kernel
theorem d11 : decode yB 11 = .ok (.iload_n 1, 1) := by decide +kernel
theorem d12 : decode yB 12 = .ok (.caload, 1) := by decide +kernel
theorem d13 : decode yB 13 = .ok (.istore 6, 2) := by decide +kernel
theorem d15 : decode yB 15 = .ok (.iload 6, 2) := by decide +kernel
theorem d17 : decode yB 17 = .ok (.sipush 255, 3) := by decide +kernel
theorem d20 : decode yB 20 = .ok (.if_icmp (.le) 6, 3) := by decide +kernel
theorem d26 : decode yB 26 = .ok (.aload_n 2, 1) := by decide +kernel
theorem d27 : decode yB 27 = .ok (.iload_n 3, 1) := by decide +kernel
theorem d28 : decode yB 28 = .ok (.iload 6, 2) := by decide +kernel
theorem d30 : decode yB 30 = .ok (.i2b, 1) := by decide +kernel
theorem d31 : decode yB 31 = .ok (.bastore, 1) := by decide +kernel
theorem d32 : decode yB 32 = .ok (.iinc 1 1, 3) := by decide +kernel
theorem d35 : decode yB 35 = .ok (.iinc 3 1, 3) := by decide +kernel
theorem d38 : decode yB 38 = .ok (.iinc 5 1, 3) := by decide +kernel
theorem d41 : decode yB 41 = .ok (.goto (-38), 3) := by decide +kernel
theorem d44 : decode yB 44 = .ok (.iload 4, 2) := by decide +kernel
theorem d46 : decode yB 46 = .ok (.ireturn, 1) := by decide +kernel
def site : List Cond := []
def tab : Cond := tabOf yN yB 7 (some .int) site
def P (b : Addr) (A : Cell) (d : Addr) (B : Cell) (o q len : Nat) (args : Array Value) (s : State) : Prop := args = #[.ref b, .int (Int32.ofNat o), .ref d, .int (Int32.ofNat q), .int (Int32.ofNat len)] ∧ Ch b A s ∧ Arr .byte d B s ∧ b ≠ d ∧ o + len ≤ A.slots.size ∧ q + len ≤ B.slots.size ∧ ∀ i, i < len → ¬ 255 < cv A (o + i)
def E (b : Addr) (A : Cell) (d : Addr) (B : Cell) (o q len : Nat) (r : Option Value) (s u : State) : Prop := r = some (.int (Int32.ofNat len)) ∧ ∃ B', Put d B' s u ∧ Laid B B' q (q + len) (fun j => Value.int (lo8 (cv A (o + (j - q)))))
/-- no char of the range above 255: len; the places written hold each char's low byte -/
theorem law (l : Launch) (b : Addr) (A : Cell) (d : Addr) (B : Cell) (o q len : Nat) : Law l yN 5 5 0 0 yB 7 (some .int) site (P b A d B o q len) (E b A d B o q len) (copyLocs d q len) 0 0 := by
  refine Law.of_walk (plainFor_of_name (by decide +kernel)) (by decide +kernel) (by decide +kernel) (by decide) (fun _ _ h => by rw [h.1]; rfl) (fun _ U U' hal hh h => ⟨h.1, h.2.1.mv hal hh, h.2.2.1.mv hal hh, h.2.2.2⟩) (fun r U U' V V' h1 hal h2 h => ⟨h.1, h.2.elim fun B' q => ⟨B', q.1.mv h1 h2, q.2⟩⟩) ?_
  intro p e s m args below meth c s₁ X0 hexec hbytes hml hret hlk hnm hown hh0 W hP
  obtain ⟨rfl, hA, hB, hne, l1, l2, hp⟩ := hP
  have c1 : Steps p.tables e below (s₁.setTop (entryFrame m #[.ref b, .int (Int32.ofNat o), .ref d, .int (Int32.ofNat q), .int (Int32.ofNat len)] 7)) (s₁.setTop (mkF m 0 #[.val (.ref b), .val (.int (Int32.ofNat o)), .val (.ref d), .val (.int (Int32.ofNat q)), .val (.int (Int32.ofNat len)), .unset, .unset] [])) := entry rfl
  have hA0 := hA.1.mv X0.warmed.alike hh0
  have hB0 := hB.mv X0.warmed.alike hh0
  have a31 := hA.1.2.2.2
  have c2 : Steps p.tables e below (s₁.setTop (entryFrame m #[.ref b, .int (Int32.ofNat o), .ref d, .int (Int32.ofNat q), .int (Int32.ofNat len)] 7)) (s₁.setTop (mkF m 3 #[.val (.ref b), .val (.int (Int32.ofNat o)), .val (.ref d), .val (.int (Int32.ofNat q)), .val (.int (Int32.ofNat len)), .val (.int 0), .unset] [])) := c1.trans (by
    refine iconstV X0.here hexec rfl 0 (hb hbytes d0) (by decide) ?_
    refine XS.istore X0.here hexec rfl (hb hbytes d1) rfl rfl ?_
    exact Steps.refl _)
  have loop : ∀ (r i : Nat), i + r = len → ∀ (z : Slot), (z = .unset ∨ ∃ w, z = .val w ∧ w.category = 1) → ∀ (Tl : State) (Bk : Cell), Stand p l e { frames := 0, locals := 0, cells := 0, slots := 0 } s m #[.ref b, .int (Int32.ofNat o), .ref d, .int (Int32.ofNat q), .int (Int32.ofNat len)] below meth c Tl ([] ++ copyLocs d q i) 0 0 → Put d Bk s₁ Tl → Laid B Bk q (q + i) (fun j => Value.int (lo8 (cv A (o + (j - q))))) →
      Steps p.tables e below (s₁.setTop (entryFrame m #[.ref b, .int (Int32.ofNat o), .ref d, .int (Int32.ofNat q), .int (Int32.ofNat len)] 7)) (Tl.setTop (mkF m 3 #[.val (.ref b), .val (.int (Int32.ofNat (o + i))), .val (.ref d), .val (.int (Int32.ofNat (q + i))), .val (.int (Int32.ofNat len)), .val (.int (Int32.ofNat i)), z] [])) → ∃ (T' : State) (B' : Cell) (z' : Slot), Stand p l e { frames := 0, locals := 0, cells := 0, slots := 0 } s m #[.ref b, .int (Int32.ofNat o), .ref d, .int (Int32.ofNat q), .int (Int32.ofNat len)] below meth c T' ([] ++ copyLocs d q len) 0 0 ∧ Put d B' s₁ T' ∧ Laid B B' q (q + len) (fun j => Value.int (lo8 (cv A (o + (j - q))))) ∧
      Steps p.tables e below (s₁.setTop (entryFrame m #[.ref b, .int (Int32.ofNat o), .ref d, .int (Int32.ofNat q), .int (Int32.ofNat len)] 7)) (T'.setTop (mkF m 3 #[.val (.ref b), .val (.int (Int32.ofNat (o + len))), .val (.ref d), .val (.int (Int32.ofNat (q + len))), .val (.int (Int32.ofNat len)), .val (.int (Int32.ofNat len)), z'] [])) := by
    intro r
    induction r with
    | zero =>
      intro i hi z hz Tl Bk Xl pl fl cl
      have hil : i = len := by omega
      rw [hil] at Xl fl cl
      exact ⟨Tl, Bk, z, Xl, pl, fl, cl⟩
    | succ r ih =>
      intro i hi z hz Tl Bk Xl pl fl cl
      have all := X0.warmed.alike.symm.trans Xl.warmed.alike
      have hAl := hA0.keep all (pl.other hne hA0.1)
      have hBk := hB0.like all pl.1 fl.1 fl.2.1 fl.2.2.1
      have hlt : q + i < Bk.slots.size := by rw [fl.2.2.1]; omega
      have c3 : Steps p.tables e below (s₁.setTop (entryFrame m #[.ref b, .int (Int32.ofNat o), .ref d, .int (Int32.ofNat q), .int (Int32.ofNat len)] 7)) (Tl.setTop (mkF m 12 #[.val (.ref b), .val (.int (Int32.ofNat (o + i))), .val (.ref d), .val (.int (Int32.ofNat (q + i))), .val (.int (Int32.ofNat len)), .val (.int (Int32.ofNat i)), z] [.int (Int32.ofNat (o + i)), .ref b])) := cl.trans (by
        refine XS.iload Xl.here hexec rfl (hb hbytes d3) rfl ?_
        refine XS.iload Xl.here hexec rfl (hb hbytes d5) rfl ?_
        refine XS.icmpNo Xl.here hexec rfl (hb hbytes d7) rfl (ii_ge_f (lt32 (by omega) (by omega))) ?_
        refine XS.aloadN Xl.here hexec rfl (hb hbytes d10) rfl rfl ?_
        refine XS.iloadN Xl.here hexec rfl (hb hbytes d11) rfl ?_
        exact Steps.refl _)
      have c4 : Steps p.tables e below (s₁.setTop (entryFrame m #[.ref b, .int (Int32.ofNat o), .ref d, .int (Int32.ofNat q), .int (Int32.ofNat len)] 7)) (Tl.setTop (mkF m 13 #[.val (.ref b), .val (.int (Int32.ofNat (o + i))), .val (.ref d), .val (.int (Int32.ofNat (q + i))), .val (.int (Int32.ofNat len)), .val (.int (Int32.ofNat i)), z] [.int (cv A (o + i))])) := c3.trans (by
        refine Xl.aget hexec hAl rfl (hA.get (i := o + i) (by omega)) rfl rfl (hb hbytes d12) ?_
        exact Steps.refl _)
      have c5 : Steps p.tables e below (s₁.setTop (entryFrame m #[.ref b, .int (Int32.ofNat o), .ref d, .int (Int32.ofNat q), .int (Int32.ofNat len)] 7)) (Tl.setTop (mkF m 15 #[.val (.ref b), .val (.int (Int32.ofNat (o + i))), .val (.ref d), .val (.int (Int32.ofNat (q + i))), .val (.int (Int32.ofNat len)), .val (.int (Int32.ofNat i)), .val (.int (cv A (o + i)))] [])) := c4.trans (by
        refine XS.istoreS Xl.here hexec rfl (hb hbytes d13) rfl rfl hz ?_
        exact Steps.refl _)
      have c6 : Steps p.tables e below (s₁.setTop (entryFrame m #[.ref b, .int (Int32.ofNat o), .ref d, .int (Int32.ofNat q), .int (Int32.ofNat len)] 7)) (Tl.setTop (mkF m 31 #[.val (.ref b), .val (.int (Int32.ofNat (o + i))), .val (.ref d), .val (.int (Int32.ofNat (q + i))), .val (.int (Int32.ofNat len)), .val (.int (Int32.ofNat i)), .val (.int (cv A (o + i)))] [.int (lo8 (cv A (o + i))), .int (Int32.ofNat (q + i)), .ref d])) := c5.trans (by
        refine XS.iload Xl.here hexec rfl (hb hbytes d15) rfl ?_
        refine sipushV Xl.here hexec rfl 255 (hb hbytes d17) (by decide) ?_
        refine XS.icmpYes Xl.here hexec rfl (pc0 := 20) rfl (hb hbytes d20) rfl (ii_le_t (hp i (by omega))) (by decide) rfl ?_
        refine XS.aloadN Xl.here hexec rfl (hb hbytes d26) rfl rfl ?_
        refine XS.iloadN Xl.here hexec rfl (hb hbytes d27) rfl ?_
        refine XS.iload Xl.here hexec rfl (hb hbytes d28) rfl ?_
        refine i2b Xl.here hexec rfl (hb hbytes d30) rfl ?_
        exact Steps.refl _)
      obtain ⟨T7, X7, p7, st7⟩ := Xl.aput hexec hBk rfl hlt rfl (fits_lo8 (cv A (o + i))) (g := (mkF m 31 #[.val (.ref b), .val (.int (Int32.ofNat (o + i))), .val (.ref d), .val (.int (Int32.ofNat (q + i))), .val (.int (Int32.ofNat len)), .val (.int (Int32.ofNat i)), .val (.int (cv A (o + i)))] [.int (lo8 (cv A (o + i))), .int (Int32.ofNat (q + i)), .ref d])) rfl (rest := []) rfl (hb hbytes d31)
      have c8 : Steps p.tables e below (s₁.setTop (entryFrame m #[.ref b, .int (Int32.ofNat o), .ref d, .int (Int32.ofNat q), .int (Int32.ofNat len)] 7)) (T7.setTop (mkF m 32 #[.val (.ref b), .val (.int (Int32.ofNat (o + i))), .val (.ref d), .val (.int (Int32.ofNat (q + i))), .val (.int (Int32.ofNat len)), .val (.int (Int32.ofNat i)), .val (.int (cv A (o + i)))] [])) := c6.trans (st7 _ (Steps.refl _))
      have c9 : Steps p.tables e below (s₁.setTop (entryFrame m #[.ref b, .int (Int32.ofNat o), .ref d, .int (Int32.ofNat q), .int (Int32.ofNat len)] 7)) (T7.setTop (mkF m 3 #[.val (.ref b), .val (.int (Int32.ofNat (o + i) + 1)), .val (.ref d), .val (.int (Int32.ofNat (q + i) + 1)), .val (.int (Int32.ofNat len)), .val (.int (Int32.ofNat i + 1)), .val (.int (cv A (o + i)))] [])) := c8.trans (by
        refine iincV X7.here hexec rfl 1 (hb hbytes d32) (by decide) rfl rfl ?_
        refine iincV X7.here hexec rfl 1 (hb hbytes d35) (by decide) rfl rfl ?_
        refine iincV X7.here hexec rfl 1 (hb hbytes d38) (by decide) rfl rfl ?_
        refine XS.goto X7.here hexec rfl (pc0 := 41) rfl (hb hbytes d41) (by decide) rfl ?_
        exact Steps.refl _)
      have c10 : Steps p.tables e below (s₁.setTop (entryFrame m #[.ref b, .int (Int32.ofNat o), .ref d, .int (Int32.ofNat q), .int (Int32.ofNat len)] 7)) (T7.setTop (mkF m 3 #[.val (.ref b), .val (.int (Int32.ofNat (o + (i + 1)))), .val (.ref d), .val (.int (Int32.ofNat (q + (i + 1)))), .val (.int (Int32.ofNat len)), .val (.int (Int32.ofNat (i + 1))), .val (.int (cv A (o + i)))] [])) := by
        have := c9
        rw [succ32, succ32, succ32] at this
        exact this
      exact ih (i + 1) (by omega) _ (Or.inr ⟨_, rfl, rfl⟩) T7 _ (by rw [copyLocs_step, ← List.append_assoc]; exact X7) (pl.trans p7) (fl.step (by omega) hlt (by simp)) c10
  obtain ⟨T9, B9, z9, X9, p9, f9, g9⟩ := loop len 0 (by omega) .unset (Or.inl rfl) s₁ B (by simpa [copyLocs] using X0) ⟨hB0.1, fun _ _ => rfl, rfl⟩ (Laid.zero _ _ _) c2
  have c11 : Steps p.tables e below (s₁.setTop (entryFrame m #[.ref b, .int (Int32.ofNat o), .ref d, .int (Int32.ofNat q), .int (Int32.ofNat len)] 7)) (T9.setTop (mkF m 46 #[.val (.ref b), .val (.int (Int32.ofNat (o + len))), .val (.ref d), .val (.int (Int32.ofNat (q + len))), .val (.int (Int32.ofNat len)), .val (.int (Int32.ofNat len)), z9] [.int (Int32.ofNat len)])) := g9.trans (by
    refine XS.iload X9.here hexec rfl (hb hbytes d3) rfl ?_
    refine XS.iload X9.here hexec rfl (hb hbytes d5) rfl ?_
    refine XS.icmpYes X9.here hexec rfl (pc0 := 7) rfl (hb hbytes d7) rfl (ii_ge_t (nlt32 (by omega) (Nat.le_refl _))) (by decide) rfl ?_
    refine XS.iload X9.here hexec rfl (hb hbytes d44) rfl ?_
    exact Steps.refl _)
  exact ⟨T9, some (.int (Int32.ofNat len)), _, _, _, X9, by simp, rfl, rfl, (fun h => by cases h), ⟨rfl, B9, p9.from hh0, f9⟩, fun fs hl => c11.trans (X9.ireturnOut hexec hret rfl (Or.inl rfl) (hb hbytes d46) hl)⟩
end Cmp5
namespace Cmp3
def yN : MethodName := ⟨"java/lang/StringUTF16", "compress", "([CII)[B"⟩
abbrev yB : ByteArray := jdk_52_method_16_code
theorem d0 : decode yB 0 = .ok (.iload_n 2, 1) := by decide +kernel
theorem d1 : decode yB 1 = .ok (.newarray .byte, 2) := by decide +kernel
theorem d3 : decode yB 3 = .ok (.astore_n 3, 1) := by decide +kernel
theorem d4 : decode yB 4 = .ok (.aload_n 0, 1) := by decide +kernel
theorem d5 : decode yB 5 = .ok (.iload_n 1, 1) := by decide +kernel
theorem d6 : decode yB 6 = .ok (.aload_n 3, 1) := by decide +kernel
theorem d7 : decode yB 7 = .ok (.iconst 0, 1) := by decide +kernel
theorem d8 : decode yB 8 = .ok (.iload_n 2, 1) := by decide +kernel
theorem d9 : decode yB 9 = .ok (.invokestatic 115, 3) := by decide +kernel
theorem d12 : decode yB 12 = .ok (.istore 4, 2) := by decide +kernel
theorem d14 : decode yB 14 = .ok (.iload 4, 2) := by decide +kernel
theorem d16 : decode yB 16 = .ok (.iload_n 2, 1) := by decide +kernel
theorem d17 : decode yB 17 = .ok (.if_icmp (.eq) 40, 3) := by decide +kernel
theorem d57 : decode yB 57 = .ok (.aload_n 3, 1) := by decide +kernel
theorem d58 : decode yB 58 = .ok (.areturn, 1) := by decide +kernel
def site : List Cond := [.arrayClass .byte, Cmp5.tab] ++ staticW U16 115 Cmp5.yN
def tab : Cond := tabOf yN yB 6 (some (.array .byte)) site
def P (b : Addr) (A : Cell) (o len : Nat) (args : Array Value) (s : State) : Prop := args = #[.ref b, .int (Int32.ofNat o), .int (Int32.ofNat len)] ∧ Ch b A s ∧ o + len ≤ A.slots.size ∧ len ≤ 536870912 ∧ ∀ i, i < len → ¬ 255 < cv A (o + i)
def E (b : Addr) (A : Cell) (o len : Nat) (r : Option Value) (s u : State) : Prop := NewArr .byte "[B" len (fun j => .int (lo8 (cv A (o + j)))) r s u ∧ u.heap.size = s.heap.size + 1
/-- no char of the range above 255: a new byte[] of their low bytes -/
theorem law (l : Launch) (b : Addr) (A : Cell) (o len : Nat) : Law l yN 3 3 1 18 yB 6 (some (.array .byte)) site (P b A o len) (E b A o len) [] 1 len := by
  refine Law.of_walk (plainFor_of_name (by decide +kernel)) (by decide +kernel) (by decide +kernel) (by decide) (fun _ _ h => by rw [h.1]; rfl) (fun _ U U' hal hh h => ⟨h.1, h.2.1.mv hal hh, h.2.2⟩) (fun r U U' V V' h1 hal h2 h => ⟨NewArr.mv r U U' V V' h1 hal h2 h.1, by rw [h1, h2]; exact h.2⟩) ?_
  intro p e s m args below meth c s₁ X0 hexec hbytes hml hret hlk hnm hown hh0 W hP
  obtain ⟨rfl, hA, l1, l2, hp⟩ := hP
  have a31 := hA.1.2.2.2
  have c1 : Steps p.tables e below (s₁.setTop (entryFrame m #[.ref b, .int (Int32.ofNat o), .int (Int32.ofNat len)] 6)) (s₁.setTop (mkF m 0 #[.val (.ref b), .val (.int (Int32.ofNat o)), .val (.int (Int32.ofNat len)), .unset, .unset, .unset] [])) := entry rfl
  have c2 : Steps p.tables e below (s₁.setTop (entryFrame m #[.ref b, .int (Int32.ofNat o), .int (Int32.ofNat len)] 6)) (s₁.setTop (mkF m 1 #[.val (.ref b), .val (.int (Int32.ofNat o)), .val (.int (Int32.ofNat len)), .unset, .unset, .unset] [.int (Int32.ofNat len)])) := c1.trans (by
    refine XS.iloadN X0.here hexec rfl (hb hbytes d0) rfl ?_
    exact Steps.refl _)
  obtain ⟨T3, B3, X3, ba3, bs3, bv3, bh3, bf3, st3⟩ := X0.anew hexec (atype := .byte) (wk W (.arrayClass .byte)) rfl (by show len * 1 ≤ _; omega) (by omega) (g := (mkF m 1 #[.val (.ref b), .val (.int (Int32.ofNat o)), .val (.int (Int32.ofNat len)), .unset, .unset, .unset] [.int (Int32.ofNat len)])) rfl (hb hbytes d1) (rest := []) rfl (Nat.le_refl _) (by show 0 + len ≤ len; omega)
  rw [hh0] at ba3 st3
  have kp3 : XT.Kept s T3 := (XT.Kept.of_eq hh0).push bh3
  have hA3 := hA.keep X3.warmed.alike (kp3 _ _ hA.1.1)
  have hne : b ≠ s.heap.size := hA.1.ne
  have c4 : Steps p.tables e below (s₁.setTop (entryFrame m #[.ref b, .int (Int32.ofNat o), .int (Int32.ofNat len)] 6)) (T3.setTop (mkF m 3 #[.val (.ref b), .val (.int (Int32.ofNat o)), .val (.int (Int32.ofNat len)), .unset, .unset, .unset] [.ref s.heap.size])) := c2.trans (st3 _ (Steps.refl _))
  have c5 : Steps p.tables e below (s₁.setTop (entryFrame m #[.ref b, .int (Int32.ofNat o), .int (Int32.ofNat len)] 6)) (T3.setTop (mkF m 9 #[.val (.ref b), .val (.int (Int32.ofNat o)), .val (.int (Int32.ofNat len)), .val (.ref s.heap.size), .unset, .unset] [.int (Int32.ofNat len), .int 0, .ref s.heap.size, .int (Int32.ofNat o), .ref b])) := c4.trans (by
    refine XS.astoreN X3.here hexec rfl (hb hbytes d3) rfl rfl rfl ?_
    refine XS.aloadN X3.here hexec rfl (hb hbytes d4) rfl rfl ?_
    refine XS.iloadN X3.here hexec rfl (hb hbytes d5) rfl ?_
    refine XS.aloadN X3.here hexec rfl (hb hbytes d6) rfl rfl ?_
    refine iconstV X3.here hexec rfl 0 (hb hbytes d7) (by decide) ?_
    refine XS.iloadN X3.here hexec rfl (hb hbytes d8) rfl ?_
    exact Steps.refl _)
  obtain ⟨v6, T6, X6, E6, g6⟩ := X3.callS hexec (Cmp5.law l b A s.heap.size B3 o 0 len) hown (wks W (staticW U16 115 Cmp5.yN)) (wk W Cmp5.tab) (W := 0) (Nat.le_of_ble_eq_true rfl) (Nat.le_of_ble_eq_true rfl) (Nat.le_refl _) (by show 0 + len + 0 ≤ len; omega) (g := (mkF m 9 #[.val (.ref b), .val (.int (Int32.ofNat o)), .val (.int (Int32.ofNat len)), .val (.ref s.heap.size), .unset, .unset] [.int (Int32.ofNat len), .int (Int32.ofNat 0), .ref s.heap.size, .int (Int32.ofNat o), .ref b])) rfl (by rw [hml]; rfl) c5 (argsL := [.ref b, .int (Int32.ofNat o), .ref s.heap.size, .int (Int32.ofNat 0), .int (Int32.ofNat len)]) (rest := []) rfl rfl (by show 2 * 0 + 0 ≤ _; decide) (hb hbytes d9) (⟨rfl, hA3, ba3, hne, l1, by rw [bs3]; simp, hp⟩)
  obtain ⟨rfl, B6, p6, f6⟩ := E6
  have c7 : Steps p.tables e below (s₁.setTop (entryFrame m #[.ref b, .int (Int32.ofNat o), .int (Int32.ofNat len)] 6)) (T6.setTop (mkF m 12 #[.val (.ref b), .val (.int (Int32.ofNat o)), .val (.int (Int32.ofNat len)), .val (.ref s.heap.size), .unset, .unset] [.int (Int32.ofNat len)])) := g6
  have c8 : Steps p.tables e below (s₁.setTop (entryFrame m #[.ref b, .int (Int32.ofNat o), .int (Int32.ofNat len)] 6)) (T6.setTop (mkF m 58 #[.val (.ref b), .val (.int (Int32.ofNat o)), .val (.int (Int32.ofNat len)), .val (.ref s.heap.size), .val (.int (Int32.ofNat len)), .unset] [.ref s.heap.size])) := c7.trans (by
    refine XS.istore X6.here hexec rfl (hb hbytes d12) rfl rfl ?_
    refine XS.iload X6.here hexec rfl (hb hbytes d14) rfl ?_
    refine XS.iloadN X6.here hexec rfl (hb hbytes d16) rfl ?_
    refine XS.icmpYes X6.here hexec rfl (pc0 := 17) rfl (hb hbytes d17) rfl (ii_eq_t rfl) (by decide) rfl ?_
    refine XS.aloadN X6.here hexec rfl (hb hbytes d57) rfl rfl ?_
    exact Steps.refl _)
  have X8 := X6.wide (L' := []) (cells' := 1) (slots' := len) (fun x hx hlt => by
    simp only [List.nil_append, copyLocs, List.mem_map, List.mem_range] at hx
    obtain ⟨i, -, rfl⟩ := hx
    exact absurd hlt (Nat.lt_irrefl _)) (Nat.le_refl _) (by omega)
  exact ⟨T6, some (.ref s.heap.size), _, _, _, X8, rfl, rfl, rfl, (fun h => by cases h), ⟨⟨rfl, B6, ba3.like (X3.warmed.alike.symm.trans X6.warmed.alike) p6.1 f6.1 f6.2.1 f6.2.2.1, f6.2.1.trans bv3, by rw [X6.warmed.alike.findClass, f6.1]; exact bf3, by rw [f6.2.2.1, bs3]; simp, fun j hj => by rw [f6.2.2.2 j, if_pos (by omega)]; rfl, kp3.put p6 (Nat.le_refl _)⟩, by rw [p6.2.2, bh3, hh0]; simp⟩, fun fs hl => c8.trans (X8.areturnOut hexec rfl hret rfl (hb hbytes d58) hl)⟩
end Cmp3
namespace CodL
def yN : MethodName := ⟨"java/lang/StringUTF16", "coderFromArrayLen", "([BI)B"⟩
abbrev yB : ByteArray := jdk_52_method_15_code
theorem d0 : decode yB 0 = .ok (.iload_n 1, 1) := by decide +kernel
theorem d1 : decode yB 1 = .ok (.aload_n 0, 1) := by decide +kernel
theorem d2 : decode yB 2 = .ok (.arraylength, 1) := by decide +kernel
theorem d3 : decode yB 3 = .ok (.isub, 1) := by decide +kernel
theorem d4 : decode yB 4 = .ok (.bipush 31, 2) := by decide +kernel
theorem d6 : decode yB 6 = .ok (.iushr, 1) := by decide +kernel
theorem d7 : decode yB 7 = .ok (.i2b, 1) := by decide +kernel
theorem d8 : decode yB 8 = .ok (.ireturn, 1) := by decide +kernel
def site : List Cond := []
def tab : Cond := tabOf yN yB 2 (some .byte) site
def P (d : Addr) (B : Cell) (args : Array Value) (s : State) : Prop := args = #[.ref d, .int (Int32.ofNat B.slots.size)] ∧ Arr .byte d B s
def E (r : Option Value) (s u : State) : Prop := XT.PureE (some (.int 0)) r s u
/-- an array as long as the number of chars: LATIN1 -/
theorem law (l : Launch) (d : Addr) (B : Cell) : Law l yN 2 2 0 0 yB 2 (some .byte) site (P d B) E [] 0 0 := by
  refine Law.of_walk (plainFor_of_name (by decide +kernel)) (by decide +kernel) (by decide +kernel) (by decide) (fun _ _ h => by rw [h.1]; rfl) (fun _ U U' hal hh h => ⟨h.1, h.2.mv hal hh⟩) (fun r U U' V V' h1 hal h2 h => XT.PureE.mv r U U' V V' h1 hal h2 h) ?_
  intro p e s m args below meth c s₁ X0 hexec hbytes hml hret hlk hnm hown hh0 W hP
  obtain ⟨rfl, hB⟩ := hP
  have hB0 := hB.mv X0.warmed.alike hh0
  have c1 : Steps p.tables e below (s₁.setTop (entryFrame m #[.ref d, .int (Int32.ofNat B.slots.size)] 2)) (s₁.setTop (mkF m 0 #[.val (.ref d), .val (.int (Int32.ofNat B.slots.size))] [])) := entry rfl
  have c2 : Steps p.tables e below (s₁.setTop (entryFrame m #[.ref d, .int (Int32.ofNat B.slots.size)] 2)) (s₁.setTop (mkF m 2 #[.val (.ref d), .val (.int (Int32.ofNat B.slots.size))] [.ref d, .int (Int32.ofNat B.slots.size)])) := c1.trans (by
    refine XS.iloadN X0.here hexec rfl (hb hbytes d0) rfl ?_
    refine XS.aloadN X0.here hexec rfl (hb hbytes d1) rfl rfl ?_
    exact Steps.refl _)
  have c3 : Steps p.tables e below (s₁.setTop (entryFrame m #[.ref d, .int (Int32.ofNat B.slots.size)] 2)) (s₁.setTop (mkF m 8 #[.val (.ref d), .val (.int (Int32.ofNat B.slots.size))] [.int (lo8 (ushr (Int32.ofNat B.slots.size - Int32.ofNat B.slots.size) 31))])) := c2.trans (by
    refine X0.alen hexec hB0 rfl rfl (hb hbytes d2) ?_
    refine XS.isub X0.here hexec rfl (hb hbytes d3) rfl ?_
    refine bipushV X0.here hexec rfl 31 (hb hbytes d4) (by decide) ?_
    refine iushr X0.here hexec rfl (hb hbytes d6) rfl ?_
    refine i2b X0.here hexec rfl (hb hbytes d7) rfl ?_
    exact Steps.refl _)
  have e0 : lo8 (ushr (Int32.ofNat B.slots.size - Int32.ofNat B.slots.size) 31) = 0 := by rw [Int32.sub_self]; decide
  rw [e0] at c3
  exact ⟨s₁, some (.int 0), _, _, _, X0, rfl, rfl, rfl, (fun h => by cases h), ⟨rfl, hh0⟩, fun fs hl => c3.trans (X0.ireturnOut hexec hret rfl (Or.inr (Or.inr (Or.inl rfl))) (hb hbytes d8) hl)⟩
end CodL
/-- the String at a is Latin-1 over a new byte[] (the heap's one new cell): the low bytes of the len chars of A from o on; every cell but a is kept -/
def Got (a : Addr) (D : Cell) (fV fC : Field) (A : Cell) (o len : Nat) (r : Option Value) (s u : State) : Prop := r = none ∧ ∃ D' V : Cell, Blank "java/lang/String" a D' u ∧ Same D D' [fV.slot, fC.slot] ∧ D'.slots[fV.slot]? = some (.ref s.heap.size) ∧ D'.slots[fC.slot]? = some (.int 0) ∧ Arr .byte s.heap.size V u ∧ V.vm = .none ∧ u.vm.findClass "[B" = some V.cls ∧ V.slots.size = len ∧ (∀ j, j < len → V.slots[j]? = some (.int (lo8 (cv A (o + j))))) ∧ (∀ (y : Addr) (c : Cell), y ≠ a → s.heap[y]? = some c → u.heap[y]? = some c) ∧ u.heap.size = s.heap.size + 1
theorem Got.mv {a : Addr} {D A : Cell} {fV fC : Field} {o len : Nat} : ∀ r (U U' V V' : State), U'.heap = U.heap → V.vm.Alike V'.vm → V'.heap = V.heap → Got a D fV fC A o len r U V → Got a D fV fC A o len r U' V' :=
  fun r U U' V V' h1 hal h2 ⟨e0, D', X, a1, a2, a3, a4, a5, a6, a7, a8, a9, a10, a11⟩ => ⟨e0, D', X, a1.mv hal h2, a2, by rw [h1]; exact a3, a4, by rw [h1]; exact a5.mv hal h2, a6, by rw [hal.findClass]; exact a7, a8, a9, by rw [h1, h2]; exact a10, by rw [h1, h2]; exact a11⟩
namespace New4
def yN : MethodName := ⟨"java/lang/String", "<init>", "([CIILjava/lang/Void;)V"⟩
abbrev yB : ByteArray := jdk_42_method_149_code
theorem d0 : decode yB 0 = .ok (.aload_n 0, 1) := by decide +kernel
theorem d1 : decode yB 1 = .ok (.invokespecial 1, 3) := by decide +kernel
theorem d4 : decode yB 4 = .ok (.iload_n 3, 1) := by decide +kernel
theorem d5 : decode yB 5 = .ok (.ifCond (.ne) 22, 3) := by decide +kernel
theorem d27 : decode yB 27 = .ok (.getstatic 38, 3) := by decide +kernel
theorem d30 : decode yB 30 = .ok (.ifCond (.eq) 28, 3) := by decide +kernel
theorem d33 : decode yB 33 = .ok (.aload_n 1, 1) := by decide +kernel
theorem d34 : decode yB 34 = .ok (.iload_n 2, 1) := by decide +kernel
theorem d35 : decode yB 35 = .ok (.iload_n 3, 1) := by decide +kernel
theorem d36 : decode yB 36 = .ok (.invokestatic 177, 3) := by decide +kernel
theorem d39 : decode yB 39 = .ok (.astore 5, 2) := by decide +kernel
theorem d41 : decode yB 41 = .ok (.aload_n 0, 1) := by decide +kernel
theorem d42 : decode yB 42 = .ok (.aload 5, 2) := by decide +kernel
theorem d44 : decode yB 44 = .ok (.iload_n 3, 1) := by decide +kernel
theorem d45 : decode yB 45 = .ok (.invokestatic 47, 3) := by decide +kernel
theorem d48 : decode yB 48 = .ok (.putfield 15, 3) := by decide +kernel
theorem d51 : decode yB 51 = .ok (.aload_n 0, 1) := by decide +kernel
theorem d52 : decode yB 52 = .ok (.aload 5, 2) := by decide +kernel
theorem d54 : decode yB 54 = .ok (.putfield 9, 3) := by decide +kernel
theorem d57 : decode yB 57 = .ok (.return_, 1) := by decide +kernel
def site : List Cond := [.fieldLink "java/lang/String" 38 "java/lang/String" "COMPACT_STRINGS" "Z", Cmp3.tab, CodL.tab, .laysFinal "java/lang/String" "java/lang/String" "value" "[B", .fieldLink "java/lang/String" 9 "java/lang/String" "value" "[B", .laysFinal "java/lang/String" "java/lang/String" "coder" "B", .fieldLink "java/lang/String" 15 "java/lang/String" "coder" "B"] ++ objW "java/lang/String" 1 ++ staticW "java/lang/String" 177 Cmp3.yN ++ staticW "java/lang/String" 47 CodL.yN
def tab : Cond := tabOf yN yB 6 none site
def P (a : Addr) (D : Cell) (fV fC : Field) (b : Addr) (A : Cell) (z : Int32) (o len : Nat) (args : Array Value) (s : State) : Prop := args = #[.ref a, .ref b, .int (Int32.ofNat o), .int (Int32.ofNat len), .null] ∧ Blank "java/lang/String" a D s ∧ Found "java/lang/String" "value" "[B" fV s ∧ Found "java/lang/String" "coder" "B" fC s ∧ Ch b A s ∧ StaticIs s "java/lang/String" "COMPACT_STRINGS" "Z" (.int z) ∧ ¬ z = 0 ∧ 0 < len ∧ o + len ≤ A.slots.size ∧ len ≤ 536870912 ∧ ∀ i, i < len → ¬ 255 < cv A (o + i)
def E (a : Addr) (D : Cell) (fV fC : Field) (A : Cell) (o len : Nat) (r : Option Value) (s u : State) : Prop := Got a D fV fC A o len r s u
/-- len > 0, no char of the range above 255: a Latin-1 String of their low bytes -/
theorem law (l : Launch) (a : Addr) (D : Cell) (fV fC : Field) (b : Addr) (A : Cell) (z : Int32) (o len : Nat) : Law l yN 5 4 2 35 yB 6 none site (P a D fV fC b A z o len) (E a D fV fC A o len) [⟨a, fC.slot⟩, ⟨a, fV.slot⟩] 1 len := by
  refine Law.of_walk (plainFor_of_name (by decide +kernel)) (by decide +kernel) (by decide +kernel) (by decide) (fun _ _ h => by rw [h.1]; rfl) (fun _ U U' hal hh h => ⟨h.1, h.2.1.mv hal hh, h.2.2.1.al hal, h.2.2.2.1.al hal, h.2.2.2.2.1.mv hal hh, h.2.2.2.2.2.1.there hal hh, h.2.2.2.2.2.2⟩) (fun r U U' V V' h1 hal h2 h => Got.mv r U U' V V' h1 hal h2 h) ?_
  intro p e s m args below meth c s₁ X0 hexec hbytes hml hret hlk hnm hown hh0 W hP
  obtain ⟨rfl, hB, f1, f2, hA, s1, hz, l0, l1, l2, hp⟩ := hP
  have a31 := hA.1.2.2.2
  have c1 : Steps p.tables e below (s₁.setTop (entryFrame m #[.ref a, .ref b, .int (Int32.ofNat o), .int (Int32.ofNat len), .null] 6)) (s₁.setTop (mkF m 0 #[.val (.ref a), .val (.ref b), .val (.int (Int32.ofNat o)), .val (.int (Int32.ofNat len)), .val .null, .unset] [])) := entry rfl
  have c2 : Steps p.tables e below (s₁.setTop (entryFrame m #[.ref a, .ref b, .int (Int32.ofNat o), .int (Int32.ofNat len), .null] 6)) (s₁.setTop (mkF m 1 #[.val (.ref a), .val (.ref b), .val (.int (Int32.ofNat o)), .val (.int (Int32.ofNat len)), .val .null, .unset] [.ref a])) := c1.trans (by
    refine XS.aloadN X0.here hexec rfl (hb hbytes d0) rfl rfl ?_
    exact Steps.refl _)
  obtain ⟨T3, X3, q3, st3⟩ := X0.oinit hexec hown (wks W (objW "java/lang/String" 1)) (g := (mkF m 1 #[.val (.ref a), .val (.ref b), .val (.int (Int32.ofNat o)), .val (.int (Int32.ofNat len)), .val .null, .unset] [.ref a])) rfl (by rw [hml]; rfl) (rest := []) rfl (hb hbytes d1) (W := 0) (by show 2 * 0 + 0 ≤ _; decide) (Nat.le_of_ble_eq_true rfl) (Nat.le_of_ble_eq_true rfl)
  have hh3 := q3.trans hh0
  have c4 : Steps p.tables e below (s₁.setTop (entryFrame m #[.ref a, .ref b, .int (Int32.ofNat o), .int (Int32.ofNat len), .null] 6)) (T3.setTop (mkF m 27 #[.val (.ref a), .val (.ref b), .val (.int (Int32.ofNat o)), .val (.int (Int32.ofNat len)), .val .null, .unset] [])) := (c2.trans (st3 _ (Steps.refl _))).trans (by
    refine XS.iloadN X3.here hexec rfl (hb hbytes d4) rfl ?_
    refine XS.ifYes X3.here hexec rfl (pc0 := 5) rfl (hb hbytes d5) rfl (i0_ne_t (nz32 (by omega) l0)) (by decide) rfl ?_
    exact Steps.refl _)
  obtain ⟨T5, X5, q5, st5⟩ := X3.sget hexec hown (wk W (.fieldLink "java/lang/String" 38 "java/lang/String" "COMPACT_STRINGS" "Z")) s1 (fun _ _ h => by rw [hh3]; exact h) (g := (mkF m 27 #[.val (.ref a), .val (.ref b), .val (.int (Int32.ofNat o)), .val (.int (Int32.ofNat len)), .val .null, .unset] [])) rfl (hb hbytes d27)
  have hh5 := q5.trans hh3
  have c6 : Steps p.tables e below (s₁.setTop (entryFrame m #[.ref a, .ref b, .int (Int32.ofNat o), .int (Int32.ofNat len), .null] 6)) (T5.setTop (mkF m 30 #[.val (.ref a), .val (.ref b), .val (.int (Int32.ofNat o)), .val (.int (Int32.ofNat len)), .val .null, .unset] [.int z])) := c4.trans (st5 _ (Steps.refl _))
  have c7 : Steps p.tables e below (s₁.setTop (entryFrame m #[.ref a, .ref b, .int (Int32.ofNat o), .int (Int32.ofNat len), .null] 6)) (T5.setTop (mkF m 36 #[.val (.ref a), .val (.ref b), .val (.int (Int32.ofNat o)), .val (.int (Int32.ofNat len)), .val .null, .unset] [.int (Int32.ofNat len), .int (Int32.ofNat o), .ref b])) := c6.trans (by
    refine XS.ifNo X5.here hexec rfl (hb hbytes d30) rfl (i0_eq_f hz) ?_
    refine XS.aloadN X5.here hexec rfl (hb hbytes d33) rfl rfl ?_
    refine XS.iloadN X5.here hexec rfl (hb hbytes d34) rfl ?_
    refine XS.iloadN X5.here hexec rfl (hb hbytes d35) rfl ?_
    exact Steps.refl _)
  obtain ⟨v8, T8, X8, E8, g8⟩ := X5.callS hexec (Cmp3.law l b A o len) hown (wks W (staticW "java/lang/String" 177 Cmp3.yN)) (wk W Cmp3.tab) (W := 0) (Nat.le_of_ble_eq_true rfl) (Nat.le_of_ble_eq_true rfl) (Nat.le_refl _) (by show 0 + len ≤ len; omega) (g := (mkF m 36 #[.val (.ref a), .val (.ref b), .val (.int (Int32.ofNat o)), .val (.int (Int32.ofNat len)), .val .null, .unset] [.int (Int32.ofNat len), .int (Int32.ofNat o), .ref b])) rfl (by rw [hml]; rfl) c7 (argsL := [.ref b, .int (Int32.ofNat o), .int (Int32.ofNat len)]) (rest := []) rfl rfl (by show 2 * 0 + 0 ≤ _; decide) (hb hbytes d36) (⟨rfl, hA.mv X5.warmed.alike hh5, l1, l2, hp⟩)
  obtain ⟨e8, z8⟩ := E8
  obtain ⟨rfl, N, n1, n2, n3, n4, n5, n6⟩ := NewArr.mv _ T5 s _ _ hh5.symm (Vm.Alike.refl _) rfl e8
  rw [hh5] at z8
  have hB1 := hB.keep X8.warmed.alike (n6 _ _ hB.1)
  have hne : s.heap.size ≠ a := (Nat.ne_of_lt (Array.getElem?_eq_some_iff.mp hB.1).1).symm
  have c9 : Steps p.tables e below (s₁.setTop (entryFrame m #[.ref a, .ref b, .int (Int32.ofNat o), .int (Int32.ofNat len), .null] 6)) (T8.setTop (mkF m 39 #[.val (.ref a), .val (.ref b), .val (.int (Int32.ofNat o)), .val (.int (Int32.ofNat len)), .val .null, .unset] [.ref s.heap.size])) := g8
  have c10 : Steps p.tables e below (s₁.setTop (entryFrame m #[.ref a, .ref b, .int (Int32.ofNat o), .int (Int32.ofNat len), .null] 6)) (T8.setTop (mkF m 45 #[.val (.ref a), .val (.ref b), .val (.int (Int32.ofNat o)), .val (.int (Int32.ofNat len)), .val .null, .val (.ref s.heap.size)] [.int (Int32.ofNat N.slots.size), .ref s.heap.size, .ref a])) := by
    have hc : Steps p.tables e below (s₁.setTop (entryFrame m #[.ref a, .ref b, .int (Int32.ofNat o), .int (Int32.ofNat len), .null] 6)) (T8.setTop (mkF m 45 #[.val (.ref a), .val (.ref b), .val (.int (Int32.ofNat o)), .val (.int (Int32.ofNat len)), .val .null, .val (.ref s.heap.size)] [.int (Int32.ofNat len), .ref s.heap.size, .ref a])) := c9.trans (by
      refine XS.astore X8.here hexec rfl (hb hbytes d39) rfl rfl rfl ?_
      refine XS.aloadN X8.here hexec rfl (hb hbytes d41) rfl rfl ?_
      refine XS.aload X8.here hexec rfl (hb hbytes d42) rfl rfl ?_
      refine XS.iloadN X8.here hexec rfl (hb hbytes d44) rfl ?_
      exact Steps.refl _)
    rw [n4]; exact hc
  obtain ⟨v11, T11, X11, E11, g11⟩ := X8.callS hexec (CodL.law l s.heap.size N) hown (wks W (staticW "java/lang/String" 47 CodL.yN)) (wk W CodL.tab) (W := 1) (Nat.le_of_ble_eq_true rfl) (Nat.le_of_ble_eq_true rfl) (Nat.le_refl _) (by show 0 + len + 0 ≤ len; omega) (g := (mkF m 45 #[.val (.ref a), .val (.ref b), .val (.int (Int32.ofNat o)), .val (.int (Int32.ofNat len)), .val .null, .val (.ref s.heap.size)] [.int (Int32.ofNat N.slots.size), .ref s.heap.size, .ref a])) rfl (by rw [hml]; rfl) c10 (argsL := [.ref s.heap.size, .int (Int32.ofNat N.slots.size)]) (rest := [.ref a]) rfl rfl (by show 2 * 0 + (1 + 0) ≤ _; decide) (hb hbytes d45) (⟨rfl, n1⟩)
  obtain ⟨rfl, q11⟩ := E11
  have hB11 := hB1.mv (X8.warmed.alike.symm.trans X11.warmed.alike) q11
  have c12 : Steps p.tables e below (s₁.setTop (entryFrame m #[.ref a, .ref b, .int (Int32.ofNat o), .int (Int32.ofNat len), .null] 6)) (T11.setTop (mkF m 48 #[.val (.ref a), .val (.ref b), .val (.int (Int32.ofNat o)), .val (.int (Int32.ofNat len)), .val .null, .val (.ref s.heap.size)] [.int 0, .ref a])) := g11
  obtain ⟨T13, X13, p13, bl13, sl13, st13⟩ := X11.finit hexec hown (wk W (.fieldLink "java/lang/String" 15 "java/lang/String" "coder" "B")) (Or.inr ⟨_, (wk W (.laysFinal "java/lang/String" "java/lang/String" "coder" "B"))⟩) (Or.inl ⟨rfl, hnm⟩) f2 (Or.inl rfl) hB11 (t := .byte) (by decide +kernel) rfl (g := (mkF m 48 #[.val (.ref a), .val (.ref b), .val (.int (Int32.ofNat o)), .val (.int (Int32.ofNat len)), .val .null, .val (.ref s.heap.size)] [.int 0, .ref a])) rfl (rest := []) rfl (hb hbytes d48)
  have c14 : Steps p.tables e below (s₁.setTop (entryFrame m #[.ref a, .ref b, .int (Int32.ofNat o), .int (Int32.ofNat len), .null] 6)) (T13.setTop (mkF m 54 #[.val (.ref a), .val (.ref b), .val (.int (Int32.ofNat o)), .val (.int (Int32.ofNat len)), .val .null, .val (.ref s.heap.size)] [.ref s.heap.size, .ref a])) := (c12.trans (st13 _ (Steps.refl _))).trans (by
    refine XS.aloadN X13.here hexec rfl (hb hbytes d51) rfl rfl ?_
    refine XS.aload X13.here hexec rfl (hb hbytes d52) rfl rfl ?_
    exact Steps.refl _)
  obtain ⟨T15, X15, p15, bl15, sl15, st15⟩ := X13.finit hexec hown (wk W (.fieldLink "java/lang/String" 9 "java/lang/String" "value" "[B")) (Or.inr ⟨_, (wk W (.laysFinal "java/lang/String" "java/lang/String" "value" "[B"))⟩) (Or.inl ⟨rfl, hnm⟩) f1 (Or.inl rfl) bl13 (t := (.array .byte)) (by decide +kernel) rfl (g := (mkF m 54 #[.val (.ref a), .val (.ref b), .val (.int (Int32.ofNat o)), .val (.int (Int32.ofNat len)), .val .null, .val (.ref s.heap.size)] [.ref s.heap.size, .ref a])) rfl (rest := []) rfl (hb hbytes d54)
  have c16 : Steps p.tables e below (s₁.setTop (entryFrame m #[.ref a, .ref b, .int (Int32.ofNat o), .int (Int32.ofNat len), .null] 6)) (T15.setTop (mkF m 57 #[.val (.ref a), .val (.ref b), .val (.int (Int32.ofNat o)), .val (.int (Int32.ofNat len)), .val .null, .val (.ref s.heap.size)] [])) := c14.trans (st15 _ (Steps.refl _))
  have ap := apart (Or.inr ⟨_, (wk W (.laysFinal "java/lang/String" "java/lang/String" "value" "[B"))⟩) (Or.inr ⟨_, (wk W (.laysFinal "java/lang/String" "java/lang/String" "coder" "B"))⟩) f1 f2 (t₁ := .array .byte) (t₂ := .byte) (by decide +kernel) (by decide +kernel) (by decide)
  have al := X8.warmed.alike.symm.trans X15.warmed.alike
  have n7 : T11.heap[s.heap.size]? = some N := by rw [q11]; exact n1.1
  exact ⟨T15, none, _, _, _, X15, by simp, rfl, by omega, (fun _ => rfl), ⟨rfl, _, N, bl15, ((Same.refl D _).set _ (by simp)).set _ (by simp), sl15, (Cell.slots_setSlot_ne _ ap).trans sl13, n1.keep al (p15.other hne (p13.other hne n7)), n2, by rw [al.findClass]; exact n3, n4, n5, fun y c h1 h2 => p15.other h1 (p13.other h1 (by rw [q11]; exact n6 y c h2)), by rw [p15.2.2, p13.2.2, q11]; exact z8⟩, fun fs hl => c16.trans (X15.returnOut hexec hret (hb hbytes d57) hl)⟩
end New4
namespace New1
def yN : MethodName := ⟨"java/lang/String", "<init>", "([C)V"⟩
abbrev yB : ByteArray := jdk_42_method_3_code
theorem d0 : decode yB 0 = .ok (.aload_n 0, 1) := by decide +kernel
theorem d1 : decode yB 1 = .ok (.aload_n 1, 1) := by decide +kernel
theorem d2 : decode yB 2 = .ok (.iconst 0, 1) := by decide +kernel
theorem d3 : decode yB 3 = .ok (.aload_n 1, 1) := by decide +kernel
theorem d4 : decode yB 4 = .ok (.arraylength, 1) := by decide +kernel
theorem d5 : decode yB 5 = .ok (.aconst_null, 1) := by decide +kernel
theorem d6 : decode yB 6 = .ok (.invokespecial 27, 3) := by decide +kernel
theorem d9 : decode yB 9 = .ok (.return_, 1) := by decide +kernel
def site : List Cond := [New4.tab] ++ initW "java/lang/String" 27 New4.yN
def tab : Cond := tabOf yN yB 2 none site
def P (a : Addr) (D : Cell) (fV fC : Field) (b : Addr) (A : Cell) (z : Int32) (args : Array Value) (s : State) : Prop := args = #[.ref a, .ref b] ∧ Blank "java/lang/String" a D s ∧ Found "java/lang/String" "value" "[B" fV s ∧ Found "java/lang/String" "coder" "B" fC s ∧ Ch b A s ∧ StaticIs s "java/lang/String" "COMPACT_STRINGS" "Z" (.int z) ∧ ¬ z = 0 ∧ 0 < A.slots.size ∧ A.slots.size ≤ 536870912 ∧ ∀ i, i < A.slots.size → ¬ 255 < cv A i
def E (a : Addr) (D : Cell) (fV fC : Field) (A : Cell) (r : Option Value) (s u : State) : Prop := Got a D fV fC A 0 A.slots.size r s u
/-- new String(chars), not empty, no char above 255: a Latin-1 String of their low bytes -/
theorem law (l : Launch) (a : Addr) (D : Cell) (fV fC : Field) (b : Addr) (A : Cell) (z : Int32) : Law l yN 2 1 3 52 yB 2 none site (P a D fV fC b A z) (E a D fV fC A) [⟨a, fC.slot⟩, ⟨a, fV.slot⟩] 1 A.slots.size := by
  refine Law.of_walk (plainFor_of_name (by decide +kernel)) (by decide +kernel) (by decide +kernel) (by decide) (fun _ _ h => by rw [h.1]; rfl) (fun _ U U' hal hh h => ⟨h.1, h.2.1.mv hal hh, h.2.2.1.al hal, h.2.2.2.1.al hal, h.2.2.2.2.1.mv hal hh, h.2.2.2.2.2.1.there hal hh, h.2.2.2.2.2.2⟩) (fun r U U' V V' h1 hal h2 h => Got.mv r U U' V V' h1 hal h2 h) ?_
  intro p e s m args below meth c s₁ X0 hexec hbytes hml hret hlk hnm hown hh0 W hP
  obtain ⟨rfl, hB, f1, f2, hA, s1, hz, l0, l2, hp⟩ := hP
  have c1 : Steps p.tables e below (s₁.setTop (entryFrame m #[.ref a, .ref b] 2)) (s₁.setTop (mkF m 0 #[.val (.ref a), .val (.ref b)] [])) := entry rfl
  have c2 : Steps p.tables e below (s₁.setTop (entryFrame m #[.ref a, .ref b] 2)) (s₁.setTop (mkF m 6 #[.val (.ref a), .val (.ref b)] [.null, .int (Int32.ofNat A.slots.size), .int 0, .ref b, .ref a])) := c1.trans (by
    refine XS.aloadN X0.here hexec rfl (hb hbytes d0) rfl rfl ?_
    refine XS.aloadN X0.here hexec rfl (hb hbytes d1) rfl rfl ?_
    refine iconstV X0.here hexec rfl 0 (hb hbytes d2) (by decide) ?_
    refine XS.aloadN X0.here hexec rfl (hb hbytes d3) rfl rfl ?_
    refine X0.alen hexec (hA.1.mv X0.warmed.alike hh0) rfl rfl (hb hbytes d4) ?_
    refine XS.aconstNull X0.here hexec rfl (hb hbytes d5) ?_
    exact Steps.refl _)
  obtain ⟨v3, T3, X3, E3, g3⟩ := X0.callN hexec (New4.law l a D fV fC b A z 0 A.slots.size) rfl hown (wks W (initW "java/lang/String" 27 New4.yN)) (W New4.tab (by simp only [site, List.mem_cons, List.mem_append, true_or, or_true])) (W := 0) (Nat.le_of_ble_eq_true rfl) (Nat.le_of_ble_eq_true rfl) (Nat.le_refl _) (by show 0 + A.slots.size ≤ A.slots.size; omega) (g := (mkF m 6 #[.val (.ref a), .val (.ref b)] [.null, .int (Int32.ofNat A.slots.size), .int (Int32.ofNat 0), .ref b, .ref a])) rfl (by rw [hml]; rfl) c2 (argsL := [.ref b, .int (Int32.ofNat 0), .int (Int32.ofNat A.slots.size), .null]) (rest := []) rfl rfl (by show 2 * 0 + 0 ≤ _; decide) (hb hbytes d6) (⟨rfl, hB.mv X0.warmed.alike hh0, f1.al X0.warmed.alike, f2.al X0.warmed.alike, hA.mv X0.warmed.alike hh0, s1.there X0.warmed.alike hh0, hz, l0, by omega, l2, fun i hi => by rw [Nat.zero_add]; exact hp i hi⟩)
  have e0 := Got.mv _ s₁ s _ _ hh0.symm (Vm.Alike.refl _) rfl E3
  obtain rfl := e0.1
  have c4 : Steps p.tables e below (s₁.setTop (entryFrame m #[.ref a, .ref b] 2)) (T3.setTop (mkF m 9 #[.val (.ref a), .val (.ref b)] [])) := g3
  exact ⟨T3, none, _, _, _, X3, by simp, rfl, by omega, (fun _ => rfl), e0, fun fs hl => c4.trans (X3.returnOut hexec hret (hb hbytes d9) hl)⟩
theorem pays {l : Launch} {R : Room} {p : Program} {e : Env} {below : List Frame} {s : State} {sargs : Array Value} {len W : Nat} (a : Addr) (D : Cell) (fV fC : Field) (b : Addr) (A : Cell) (z : Int32) (htab : tab.before sargs s = true) (hfr : 4 ≤ R.frames) (hlo : W + 65 ≤ R.locals) :
    Back l R p e below s sargs yN len W (fun A₁ a₁ => A₁.cells + 1 ≤ R.cells ∧ A₁.slots + A.slots.size ≤ R.slots ∧ P a D fV fC b A z a₁ A₁.U) (fun A₁ _ v₁ B₁ => E a D fV fC A v₁ A₁.U B₁.U ∧ B₁.locs = A₁.locs ++ [⟨a, fC.slot⟩, ⟨a, fV.slot⟩] ∧ B₁.cells = A₁.cells + 1 ∧ B₁.slots = A₁.slots + A.slots.size) :=
  (law l a D fV fC b A z).pays htab hfr (by omega)
end New1
end StrChars
namespace StrChars.Road
open Jvm Sem ClassFile Op Lib Jvm.Stand Jvm.Free Jvm.Free.XT
open Jvm.Lib.Cold (StaticIs)
abbrev ST : String := "java/lang/String"
/-- every table word that New1's law asks, flat -/
abbrev words : List Jvm.Cond := [.code New1.yN New1.yB 2 none, .initialized ST, .methodLink ST 27 New4.yN, .instanceMethod New4.yN,
  .code New4.yN New4.yB 6 none, .fieldLink ST 38 ST "COMPACT_STRINGS" "Z", .laysFinal ST ST "value" "[B", .fieldLink ST 9 ST "value" "[B", .laysFinal ST ST "coder" "B", .fieldLink ST 15 ST "coder" "B",
  .methodLink ST 1 Lib.objectInit, .instanceMethod Lib.objectInit, .code Lib.objectInit ⟨#[0xb1]⟩ 1 none, .methodLink ST 177 Cmp3.yN, .static Cmp3.yN, .methodLink ST 47 CodL.yN, .static CodL.yN,
  .code Cmp3.yN Cmp3.yB 6 (some (.array .byte)), .initialized U16, .arrayClass .byte, .methodLink U16 115 Cmp5.yN, .static Cmp5.yN, .code Cmp5.yN Cmp5.yB 7 (some .int), .code CodL.yN CodL.yB 2 (some .byte)]
theorem tab_of {a : Array Value} {s : State} (h : ∀ w ∈ words, w.before a s = true) : New1.tab.before a s = true := by
  have h5 : Cmp5.tab.before a s = true := unparts (wk h (.code Cmp5.yN Cmp5.yB 7 (some .int))) (wks h (.initialized Cmp5.yN.cls :: Cmp5.site))
  have hc : CodL.tab.before a s = true := unparts (wk h (.code CodL.yN CodL.yB 2 (some .byte))) (wks h (.initialized CodL.yN.cls :: CodL.site))
  have q5 : ∀ w ∈ Cmp5.tab :: words, w.before a s = true := fun w hw => (List.mem_cons.mp hw).elim (fun e => e ▸ h5) (h w)
  have h3 : Cmp3.tab.before a s = true := unparts (wk q5 (.code Cmp3.yN Cmp3.yB 6 (some (.array .byte)))) (wks q5 (.initialized Cmp3.yN.cls :: Cmp3.site))
  have q3 : ∀ w ∈ Cmp3.tab :: CodL.tab :: words, w.before a s = true := fun w hw => (List.mem_cons.mp hw).elim (fun e => e ▸ h3) fun hw => (List.mem_cons.mp hw).elim (fun e => e ▸ hc) (h w)
  have h4 : New4.tab.before a s = true := unparts (wk q3 (.code New4.yN New4.yB 6 none)) (wks q3 (.initialized New4.yN.cls :: New4.site))
  have q4 : ∀ w ∈ New4.tab :: words, w.before a s = true := fun w hw => (List.mem_cons.mp hw).elim (fun e => e ▸ h4) (h w)
  exact unparts (wk q4 (.code New1.yN New1.yB 2 none)) (wks q4 (.initialized New1.yN.cls :: New1.site))
/-- the words ride from the start Z to the walk's own state -/
theorem moved {Z s : State} {a0 args : Array Value} (hZ : Z.Warmed39 s.vm) (hw : ∀ d ∈ words, d.before a0 Z = true) : ∀ d ∈ words, d.before args s = true := fun d hd => by
  have q := hw d hd
  have t : ∀ d ∈ words, d = .arrayClass .byte ∨ (d.onTables && d.keepsFace) = true := by decide +kernel
  rcases t d hd with rfl | t
  · exact RoadKit.mvA hZ q
  · exact RoadKit.mv hZ q t
/-- WHAT COMES BACK, over the tables of the start Z: h the heap at the call, h' behind it -/
def Q (Z : State) (x : Addr) (A : Cell) (h : Heap) (v : Option Value) (h' : Heap) (L : List Loc) : Prop := v = none ∧ (∀ y ∈ L, y.base = x) ∧ RoadKit.Keep h h' [x] ∧ h'.size = h.size + 1 ∧ RoadKit.Exa Z h' x ST ∧ RoadKit.Fld Z h' x ST "value" "[B" (.ref h.size) ∧ RoadKit.Fld Z h' x ST "coder" "B" (.int 0) ∧
  (∃ V : Cell, RoadKit.Arr Z h' h.size V .byte ∧ V.vm = .none ∧ Z.vm.findClass "[B" = some V.cls ∧ V.slots.size = A.slots.size ∧ ∀ j, j < A.slots.size → V.slots[j]? = some (.int (lo8 (cv A j)))) ∧
  ∀ (O n d : String) (w : Value), RoadKit.Fld Z h x O n d w → RoadKit.slotOf Z O n d ≠ RoadKit.slotOf Z ST "value" "[B" → RoadKit.slotOf Z O n d ≠ RoadKit.slotOf Z ST "coder" "B" → RoadKit.Fld Z h' x O n d w
/-- **new String(chars) AT A CALL, IN THE ROAD'S FORM**: for specialBack behind newO: x the fresh String, b the char[] with the cell A -/
theorem back {p : Program} {l : Launch} {e : Env} {R : Room} {s : State} {args : Array Value} {below : List Frame} {len W : Nat} {Z : State} {a0 : Array Value} {h : Heap} (hZ : Z.Warmed39 s.vm) (hw : ∀ d ∈ words, d.before a0 Z = true) {kI : Nat} (wi : (Jvm.Cond.instantiable ST kI).before a0 Z = true)
    {x b : Addr} {A : Cell} {z : Int32} {v0 c0 : Value} (E : RoadKit.Exa Z h x ST) (V : RoadKit.Fld Z h x ST "value" "[B" v0) (C : RoadKit.Fld Z h x ST "coder" "B" c0) (K : RoadKit.Arr Z h b A .char) (hty : Typed .char A) (S : RoadKit.Sta Z h ST "COMPACT_STRINGS" "Z" (.int z)) (hz : ¬ z = 0)
    (l0 : 0 < A.slots.size) (l2 : A.slots.size ≤ 536870912) (hp : ∀ i, i < A.slots.size → ¬ 255 < cv A i) (hfr : 4 ≤ R.frames) (hlo : W + 65 ≤ R.locals) :
    Back l R p e below s args New1.yN len W (fun P a => a = #[.ref x, .ref b] ∧ P.U.heap = h ∧ P.cells + 1 ≤ R.cells ∧ P.slots + A.slots.size ≤ R.slots)
      (fun P _ v B => ∃ L, Q Z x A h v B.U.heap L ∧ B.locs = P.locs ++ L ∧ B.cells = P.cells + 1 ∧ B.slots = P.slots + A.slots.size) := by
  intro m meth c P g ig mk a X hg hsize hdg hW hn hp'
  obtain ⟨rfl, rfl, r1, r2⟩ := hp'
  have al : Z.vm.Alike P.U.vm := hZ.alike.trans X.warmed.alike
  obtain ⟨D, cfV, kV, iV, fV, hD, gV, stV, knV, obV, asV, slV⟩ := id V
  obtain ⟨D', cfC, kC, iC, fC, hD', gC, stC, -, -, asC, slC⟩ := id C
  cases hD.symm.trans hD'
  obtain ⟨D2, kD, e1, e2, e3, e4, e5⟩ := id E
  cases hD.symm.trans e1
  obtain ⟨c2, k2, i1, i2, i3, -⟩ := Cond.instantiable_spec wi
  cases e2.symm.trans i1
  cases e3.symm.trans i2
  obtain ⟨kU, u1, u2⟩ := al.2.2 _ _ e3
  have hB : Blank ST x D P.U := ⟨hD, ⟨knV, fun q hq => by rw [hq] at obV; cases obV⟩, by rw [al.findClass]; exact e2, kU, u1, by rw [u2]; exact i3, by rw [u2]; exact e5 i3⟩
  have F1 : Found ST "value" "[B" fV P.U := ⟨SBG.found_only al ⟨cfV, kV, iV, gV⟩, stV⟩
  have F2 : Found ST "coder" "B" fC P.U := ⟨SBG.found_only al ⟨cfC, kC, iC, gC⟩, stC⟩
  have hA : Ch b A P.U := ⟨⟨K.1, State.isArrayOf_alike al K.2.1, K.2.2, by omega⟩, hty⟩
  have hS : StaticIs P.U ST "COMPACT_STRINGS" "Z" (.int z) := by
    obtain ⟨cfS, iS, kS, fS, st, cS, t1, t2, t3, t4, t5, t6, t7⟩ := S
    exact StaticIs.there (s := { Z with heap := P.U.heap }) ⟨cfS, iS, kS, fS, st, cS, t1, t2, t3, t4, t5, (fun q => by rw [q] at t6; cases t6), t7⟩ al rfl
  obtain ⟨v, B, X', ⟨⟨hv, E', V', q1, q2, q3, q4, q5, q6, q7, q8, q9, q10, q11⟩, hl, hc, hs⟩, st⟩ := New1.pays x D fV fC b A z (tab_of (moved hZ hw)) hfr hlo m meth c P g ig mk _ X hg hsize hdg hW hn ⟨r1, r2, rfl, hB, F1, F2, hA, hS, hz, l0, l2, hp⟩
  have al' : Z.vm.Alike B.U.vm := hZ.alike.trans X'.warmed.alike
  have hsz : E'.slots.size = D.slots.size := by
    obtain ⟨-, -, -, kB, w1, w2, w3⟩ := q1
    obtain ⟨kB', y1, y2⟩ := al'.2.2 _ _ e3
    rw [q2.2.1] at w1
    cases w1.symm.trans y1
    rw [w3, e5 i3, y2]
  refine ⟨v, B, X', ⟨_, ⟨hv, ?_, ⟨by omega, fun y cy hy hn' => q10 y cy (by simpa using hn') hy, fun y cy hy => ?_⟩, q11, ⟨E', _, q1.1, by rw [q2.2.1]; exact e2, by rw [q2.2.1]; exact e3, by rw [q2.1]; exact obV, fun _ => by rw [hsz]; exact e5 i3⟩,
    ⟨E', cfV, kV, iV, fV, q1.1, gV, stV, by rw [q2.1]; exact knV, by rw [q2.1]; exact obV, by rw [q2.2.1]; exact asV, q3⟩, ⟨E', cfC, kC, iC, fC, q1.1, gC, stC, by rw [q2.1]; exact knV, by rw [q2.1]; exact obV, by rw [q2.2.1]; exact asC, q4⟩,
    ⟨V', ⟨q5.1, State.isArrayOf_alike al'.symm q5.2.1, q5.2.2.1⟩, q6, by rw [← al'.findClass]; exact q7, q8, fun j hj => by have := q9 j hj; rwa [Nat.zero_add] at this⟩, fun O n d w F n1 n2 => ?_⟩, hl, hc, hs⟩, st⟩
  · intro y hy
    simp only [List.mem_cons, List.not_mem_nil, or_false] at hy
    rcases hy with rfl | rfl <;> rfl
  · by_cases q : y = x
    · subst q
      cases hD.symm.trans hy
      exact ⟨E', q1.1, q2.2.1, q2.1, hsz⟩
    · exact ⟨cy, q10 y cy q hy, rfl, rfl, rfl⟩
  · obtain ⟨D3, cf, k, i, f, g1, g2, g3, g4, g5, g6, g7⟩ := F
    cases hD.symm.trans g1
    simp only [RoadKit.slotOf, g2, gV, gC, Option.map_some, Option.getD_some] at n1 n2
    exact ⟨E', cf, k, i, f, q1.1, g2, g3, by rw [q2.1]; exact g4, by rw [q2.1]; exact g5, by rw [q2.2.1]; exact g6, by rw [q2.2.2 f.slot (by simp [n1, n2])]; exact g7⟩
end StrChars.Road
namespace StrChars.Road
open Jvm Sem ClassFile Op Lib Jvm.Stand Jvm.Free Jvm.Free.XT
/-- WHAT COMES BACK, the byte[] as a list of values -/
def QA (Z : State) (x : Addr) (zn : Int32) (cs : List Int32) (h : Heap) (v : Option Value) (h' : Heap) (L : List Loc) : Prop := v = none ∧ (∀ y ∈ L, y.base = x) ∧ RoadKit.Keep h h' [x] ∧ h'.size = h.size + 1 ∧ RoadKit.Exa Z h' x ST ∧ RoadKit.Fld Z h' x ST "value" "[B" (.ref h.size) ∧ RoadKit.Fld Z h' x ST "coder" "B" (.int 0) ∧
  (∃ kb, Z.vm.findClass "[B" = some kb ∧ RoadKit.Arv Z h' h.size kb .byte zn (cs.map fun c => .int (lo8 c)) (.int 0)) ∧
  ∀ (O n d : String) (w : Value), RoadKit.Fld Z h x O n d w → RoadKit.slotOf Z O n d ≠ RoadKit.slotOf Z ST "value" "[B" → RoadKit.slotOf Z O n d ≠ RoadKit.slotOf Z ST "coder" "B" → RoadKit.Fld Z h' x O n d w
/-- **new String(chars) AT A CALL, THE ARRAYS AS LISTS**: the char[] at b holds cs, not empty, no char above 255 -/
theorem backArv {p : Program} {l : Launch} {e : Env} {R : Room} {s : State} {args : Array Value} {below : List Frame} {len W : Nat} {Z : State} {a0 : Array Value} {h : Heap} (hZ : Z.Warmed39 s.vm) (hw : ∀ d ∈ words, d.before a0 Z = true) {kI : Nat} (wi : (Jvm.Cond.instantiable ST kI).before a0 Z = true)
    {x b : Addr} {k : ClassId} {zn z : Int32} {cs : List Int32} {dv v0 c0 : Value} (E : RoadKit.Exa Z h x ST) (V : RoadKit.Fld Z h x ST "value" "[B" v0) (C : RoadKit.Fld Z h x ST "coder" "B" c0) (K : RoadKit.Arv Z h b k .char zn (cs.map Value.int) dv) (S : RoadKit.Sta Z h ST "COMPACT_STRINGS" "Z" (.int z)) (hz : ¬ z = 0)
    (hlen : zn.toNatClampNeg = cs.length) (h0 : 0 < cs.length) (hbig : cs.length ≤ 536870912) (hall : ∀ c ∈ cs, ¬ 255 < c) (hfr : 4 ≤ R.frames) (hlo : W + 65 ≤ R.locals) :
    Back l R p e below s args New1.yN len W (fun P a => a = #[.ref x, .ref b] ∧ P.U.heap = h ∧ P.cells + 1 ≤ R.cells ∧ P.slots + cs.length ≤ R.slots)
      (fun P _ v B => ∃ L, QA Z x zn cs h v B.U.heap L ∧ B.locs = P.locs ++ L ∧ B.cells = P.cells + 1 ∧ B.slots = P.slots + cs.length) := by
  obtain ⟨A, K1, K2, K3, K4, K5, K6⟩ := K
  have e : A.slots.size = cs.length := K3.trans hlen
  have hat : ∀ (i : Nat) (hi : i < cs.length), A.slots[i]? = some (.int cs[i]) := fun i hi => by rw [K5 i (by omega)]; simp [List.getD_eq_getElem?_getD, hi]
  have hcv : ∀ (i : Nat) (hi : i < cs.length), cv A i = cs[i] := fun i hi => by unfold cv; rw [hat i hi]
  have hty : Typed .char A := fun i v hv => by
    have hi : i < A.slots.size := (Array.getElem?_eq_some_iff.mp hv).1
    have q := K5 i hi
    rw [hv] at q
    rw [Option.some.inj q]
    exact K6 i hi
  refine Back.mono (back hZ hw wi E V C K1 hty S hz (by omega) (by omega) (fun i hi => by rw [hcv i (by omega)]; exact hall _ (List.getElem_mem _)) hfr hlo) (fun P a hp => ⟨hp.1, hp.2.1, hp.2.2.1, by rw [e]; exact hp.2.2.2⟩) (fun P a v B hp hq => ?_)
  obtain ⟨L, ⟨q1, q2, q3, q4, q5, q6, q7, ⟨V', v1, v2, v3, v4, v5⟩, q9⟩, hl, hc, hs⟩ := hq
  refine ⟨L, ⟨q1, q2, q3, q4, q5, q6, q7, ⟨V'.cls, v3, V', v1, rfl, by rw [v4, e, hlen], K4, fun i hi => ?_, fun i hi => ?_⟩, q9⟩, hl, hc, by rw [hs, e]⟩
  · have hi' : i < cs.length := by omega
    rw [v5 i (by omega), hcv i hi']; simp [List.getD_eq_getElem?_getD, hi']
  · have hi' : i < cs.length := by omega
    simp only [List.getD_eq_getElem?_getD, List.getElem?_map, List.getElem?_eq_getElem hi', Option.map_some, Option.getD_some]
    exact fits_lo8 _
end StrChars.Road
namespace StrChars.Road
open Jvm Sem ClassFile Op Lib Jvm.Stand Jvm.Free Jvm.Free.XT
/-- WHAT COMES BACK, in the writer's own shape -/
def QV (Z : State) (x : Addr) (N : Int32) (bs : List Int32) (h : Heap) (n0 : Nat) (v : Option Value) (h' : Heap) (L : List Loc) : Prop := v = none ∧ RoadKit.Fr n0 L ∧ RoadKit.Keep h h' [x] ∧ RoadKit.Exa Z h' x ST ∧ RoadKit.Fld Z h' x ST "coder" "B" (.int 0) ∧
  ∃ (t : Addr) (kb : ClassId), n0 ≤ t ∧ h.size ≤ t ∧ ¬ t = x ∧ RoadKit.Fld Z h' x ST "value" "[B" (.ref t) ∧ RoadKit.Arv Z h' t kb .byte N (bs.map Value.int) (.int 0)
/-- **new String(chars) AT A CALL, FOR THE WRITER**: a char[] of n known ints, each 0 to 255 -/
theorem backV {p : Program} {l : Launch} {e : Env} {R : Room} {s : State} {args : Array Value} {below : List Frame} {len W : Nat} {Z : State} {a0 : Array Value} {h : Heap} (hZ : Z.Warmed39 s.vm) (hw : ∀ d ∈ words, d.before a0 Z = true) {kI : Nat} (wi : (Jvm.Cond.instantiable ST kI).before a0 Z = true)
    {x b : Addr} {kC : ClassId} {cs bs : List Int32} {d v0 c0 : Value} {z N : Int32} {n n0 : Nat} (hx0 : n0 ≤ x) (hh0 : n0 ≤ h.size) (E : RoadKit.Exa Z h x ST) (V : RoadKit.Fld Z h x ST "value" "[B" v0) (C : RoadKit.Fld Z h x ST "coder" "B" c0) (K : RoadKit.Arv Z h b kC .char N (cs.map Value.int) d) (S : RoadKit.Sta Z h ST "COMPACT_STRINGS" "Z" (.int z)) (hz : ¬ z = 0)
    (hn : cs.length = n) (hN : N = Int32.ofNat n) (l0 : 0 < n) (l2 : n ≤ 4000) (hp : ∀ c ∈ cs, ¬ c < 0 ∧ ¬ (255 : Int32) < c) (hb : bs = cs.map (fun c => c.toInt8.toInt32)) (hfr : 4 ≤ R.frames) (hlo : W + 65 ≤ R.locals) :
    Back l R p e below s args (⟨"java/lang/String", "<init>", "([C)V"⟩ : MethodName) len W (fun P a => a = #[.ref x, .ref b] ∧ P.U.heap = h ∧ P.cells + 1 ≤ R.cells ∧ P.slots + n ≤ R.slots)
      (fun P _ v B => ∃ L, QV Z x N bs h n0 v B.U.heap L ∧ B.locs = P.locs ++ L ∧ B.cells = P.cells + 1 ∧ B.slots = P.slots + n) := by
  subst hn hN hb
  refine Back.mono (backArv hZ hw wi E V C K S hz (n32 (by omega)) l0 (by omega) (fun c hc => (hp c hc).2) hfr hlo) (fun P a hp => hp) (fun P a v B hp hq => ?_)
  obtain ⟨L, ⟨q1, q2, q3, q4, q5, q6, q7, ⟨kb, v1, v2⟩, q9⟩, hl, hc, hs⟩ := hq
  exact ⟨L, ⟨q1, fun y hy => by rw [q2 y hy]; exact hx0, q3, q5, q7, h.size, kb, hh0, Nat.le_refl _, Nat.ne_of_gt E.lt, q6, by rw [List.map_map]; exact v2⟩, hl, hc, hs⟩
end StrChars.Road
end Jvm.Pilot.@@N@@
namespace Jvm.Pilot.@@N@@
open Jvm Jvm.ClassFile Sem Op Lib Jvm.Free Jvm.Stand Jvm.LawKit Jvm.RoadKit Bundle Jvm.Pilot.@@N@@.Jvm.D

def own_A (Z : State) (h : Heap) (a : Addr) (ty : FieldType) (n : Int32) (y : Int32 → Value) : Prop := ∃ c : Cell, Arr Z h a c ty ∧ c.slots.size = n.toNatClampNeg ∧ ¬ n < 0 ∧ ∀ j : Int32, ¬ (j < 0 ∨ c.slots.size ≤ j.toNatClampNeg) → c.slots[j.toNatClampNeg]? = some (y j)
theorem own_A_lt {Z : State} {h : Heap} {a : Addr} {ty : FieldType} {n : Int32} {y : Int32 → Value} (F : own_A Z h a ty n y) : a < h.size := by obtain ⟨c, A, -⟩ := F; exact A.lt
theorem own_A_ext {Z : State} {h h' : Heap} {a : Addr} {ty : FieldType} {n : Int32} {y : Int32 → Value} (F : own_A Z h a ty n y) (E : Ext h h') : own_A Z h' a ty n y := by obtain ⟨c, A, r⟩ := F; exact ⟨c, A.ext E, r⟩
theorem own_A_other {Z : State} {h h' : Heap} {a b : Addr} {ty : FieldType} {n : Int32} {y : Int32 → Value} {sl : Nat} {v : Value} (F : own_A Z h b ty n y) (W : Wr h h' a sl v) (q : b ≠ a) : own_A Z h' b ty n y := by obtain ⟨c, A, r⟩ := F; exact ⟨c, A.other W q, r⟩
theorem own_A_keep {Z : State} {h h' : Heap} {a : Addr} {ty : FieldType} {n : Int32} {y : Int32 → Value} {ws : List Addr} (F : own_A Z h a ty n y) (K : Keep h h' ws) (q : a ∉ ws) : own_A Z h' a ty n y := by obtain ⟨c, A, r⟩ := F; exact ⟨c, ⟨K.2.1 a c A.1 q, A.2⟩, r⟩
theorem own_A_new {Z : State} {h : Heap} {a : Addr} {k : ClassId} {ty : FieldType} {n : Int32} (A : Arr Z h a (newA k ty n) ty) (q : ¬ n < 0) : own_A Z h a ty n (fun _ => defaultValue ty) := by
  obtain ⟨c, A', -, S, M, H, -⟩ := Arv.new A q
  exact ⟨c, A', S, M, fun j hj => (H _ (Nat.lt_of_not_le fun y => hj (Or.inr y))).trans (by simp)⟩
theorem own_A_set {Z : State} {h h' : Heap} {a : Addr} {ty : FieldType} {n j : Int32} {y z : Int32 → Value} {v : Value} {c : Cell} (A : Arr Z h a c ty) (S : c.slots.size = n.toNatClampNeg) (M : ¬ n < 0) (H : ∀ j : Int32, ¬ (j < 0 ∨ c.slots.size ≤ j.toNatClampNeg) → c.slots[j.toNatClampNeg]? = some (y j)) (hj : ¬ (j < 0 ∨ c.slots.size ≤ j.toNatClampNeg)) (W : Wr h h' a j.toNatClampNeg v) (hz : z j = v) (hz' : ∀ i, ¬ i = j → z i = y i) : own_A Z h' a ty n z := by
  refine ⟨_, A.same W, by rw [sz_set]; exact S, M, fun i hi => ?_⟩
  rw [sz_set] at hi
  have hs : (c.setSlot j.toNatClampNeg v).slots = c.slots.setIfInBounds j.toNatClampNeg v := rfl
  rw [hs, Array.getElem?_setIfInBounds]
  by_cases e : i = j
  · subst e
    rw [if_pos rfl, if_pos (Nat.lt_of_not_le fun q => hj (Or.inr q)), hz]
  · have e' : ¬ j.toNatClampNeg = i.toNatClampNeg := fun q => e (Int32.toInt_inj.mp (by rw [nat_of (fun z => hi (Or.inl z)), nat_of (fun z => hj (Or.inl z)), q]))
    rw [if_neg e', hz' i e]
    exact H i hi
theorem own_setI {y : Int32 → Int32} {j x : Int32} : Value.int ((fun i => if i = j then x else y i) j) = .int x := congrArg Value.int (if_pos rfl)
theorem own_setI' {y : Int32 → Int32} {j x : Int32} : ∀ i, ¬ i = j → Value.int ((fun i => if i = j then x else y i) i) = .int (y i) := fun i h => congrArg Value.int (if_neg h)
theorem own_setJ {y : Int32 → Int64} {j : Int32} {x : Int64} : Value.long ((fun i => if i = j then x else y i) j) = .long x := congrArg Value.long (if_pos rfl)
theorem own_setJ' {y : Int32 → Int64} {j : Int32} {x : Int64} : ∀ i, ¬ i = j → Value.long ((fun i => if i = j then x else y i) i) = .long (y i) := fun i h => congrArg Value.long (if_neg h)

theorem own_A_congr {Z : State} {h : Heap} {a : Addr} {ty : FieldType} {n : Int32} {y y' : Int32 → Value} (F : own_A Z h a ty n y) (e : ∀ i, y i = y' i) : own_A Z h a ty n y' := by
  have : y = y' := funext e
  subst this; exact F

def own_P (y : Int32 → Int32) : Prop := ∀ i, ¬ y i < 0 ∧ ¬ (255 : Int32) < y i
theorem own_P0 : own_P (fun _ => (0 : Int32)) := fun _ => ⟨(by decide : ¬ (0 : Int32) < 0), (by decide : ¬ (255 : Int32) < 0)⟩
theorem own_P_set {y : Int32 → Int32} {j v : Int32} (h : own_P y) (hv : ¬ v < 0 ∧ ¬ (255 : Int32) < v) : own_P (fun i => if i = j then v else y i) := fun i => by
  by_cases e : i = j
  · show ¬ (if i = j then v else y i) < 0 ∧ ¬ (255 : Int32) < (if i = j then v else y i)
    rw [if_pos e]; exact hv
  · show ¬ (if i = j then v else y i) < 0 ∧ ¬ (255 : Int32) < (if i = j then v else y i)
    rw [if_neg e]; exact h i
def own_cs (y : Int32 → Int32) : List Int32 := (List.range 20).map (fun (k : Nat) => y (Int32.ofInt (k : Int)))
theorem own_csl (y : Int32 → Int32) : (own_cs y).length = 20 := by simp [own_cs]
theorem own_Pl {y : Int32 → Int32} (h : own_P y) : ∀ c ∈ own_cs y, ¬ c < 0 ∧ ¬ (255 : Int32) < c := fun c hc => by
  obtain ⟨k, -, rfl⟩ := List.mem_map.mp hc
  exact h _
theorem own_arv20 {Z : State} {h : Heap} {a : Addr} {y : Int32 → Int32} (F : own_A Z h a .char (20 : Int32) (fun i => .int (y i))) (hP : own_P y) : ∃ k, Arv Z h a k .char (20 : Int32) ((own_cs y).map Value.int) (.int 0) := by
  obtain ⟨c, A, S, M, H⟩ := F
  have hs : c.slots.size = 20 := S.trans (by decide)
  have hg : ∀ k : Nat, k < 20 → ((own_cs y).map Value.int).getD k (.int 0) = .int (y (Int32.ofInt (k : Int))) := fun k hk => by
    rw [List.getD_eq_getElem?_getD]
    simp [own_cs, hk]
  have ht : ∀ k : Nat, k < 20 → (Int32.ofInt (k : Int)).toNatClampNeg = k ∧ ¬ Int32.ofInt (k : Int) < 0 := by decide +kernel
  refine ⟨c.cls, c, A, rfl, S, M, fun k hk => ?_, fun k hk => ?_⟩
  · rw [hs] at hk
    have q := H (Int32.ofInt (k : Int)) (by rw [(ht k hk).1, hs]; exact fun z => z.elim (ht k hk).2 (fun z => absurd hk (Nat.not_lt.mpr z)))
    rw [(ht k hk).1] at q
    rw [q, hg k hk]
  · rw [hs] at hk
    rw [hg k hk]
    have q := hP (Int32.ofInt (k : Int))
    show (decide ((0 : Int32) ≤ y (Int32.ofInt (k : Int))) && decide (y (Int32.ofInt (k : Int)) ≤ (65535 : Int32))) = true
    rw [Bool.and_eq_true, decide_eq_true_eq, decide_eq_true_eq]
    refine ⟨Int32.not_lt.mp q.1, ?_⟩
    have q2 := q.2
    rw [Int32.lt_iff_toInt_lt] at q2
    rw [Int32.le_iff_toInt_le]
    have e1 : (255 : Int32).toInt = 255 := by decide
    have e2 : (65535 : Int32).toInt = 65535 := by decide
    omega
theorem own_in20 {j : Int32} (h0 : 0 ≤ j.toInt) (h1 : j.toInt < 20) : ¬ j < 0 ∧ j < (20 : Int32) := by
  have e0 : (0 : Int32).toInt = 0 := by decide
  have e20 : (20 : Int32).toInt = 20 := by decide
  rw [Int32.lt_iff_toInt_lt, Int32.lt_iff_toInt_lt]; omega
theorem own_m3 (p : Int32) : 0 ≤ (p &&& (3 : Int32)).toInt ∧ (p &&& (3 : Int32)).toInt < 4 := by
  have hm := c_mask p 3 2 (by decide) (by decide)
  omega
theorem own_add (a b : Int32) (h : 0 ≤ a.toInt ∧ a.toInt < 100) (h' : 0 ≤ b.toInt ∧ b.toInt < 100) : (a + b).toInt = a.toInt + b.toInt := by
  have s1 := c_iadd a b
  have s2 := rng32 (a + b)
  omega

theorem own_rS {p SS : Int32} (h : SS = ((1 : Int32) + (p &&& (3 : Int32)))) : 1 ≤ SS.toInt ∧ SS.toInt ≤ 4 := by
  have m := own_m3 p
  have e1 : (1 : Int32).toInt = 1 := by decide
  have a := own_add 1 (p &&& (3 : Int32)) ⟨by omega, by omega⟩ ⟨m.1, by omega⟩
  subst h; omega
theorem own_r3 {p UL : Int32} (h : UL = (p &&& (3 : Int32))) : 0 ≤ UL.toInt ∧ UL.toInt ≤ 3 := by
  have m := own_m3 p
  subst h; omega
theorem own_i1 {p SS : Int32} (h : SS = ((1 : Int32) + (p &&& (3 : Int32)))) (k : Int32) (h0 : 0 ≤ k.toInt) (h1 : k.toInt ≤ 3) : ¬ SS + k < 0 ∧ SS + k < (20 : Int32) := by
  have r := own_rS h
  have a := own_add SS k ⟨by omega, by omega⟩ ⟨h0, by omega⟩
  exact own_in20 (by omega) (by omega)
theorem own_v2 {p q SS UL : Int32} (h : SS = ((1 : Int32) + (p &&& (3 : Int32)))) (hu : UL = (q &&& (3 : Int32))) : ((SS + (3 : Int32)) + UL).toInt = SS.toInt + 3 + UL.toInt := by
  have r := own_rS h
  have u := own_r3 hu
  have e3 : (3 : Int32).toInt = 3 := by decide
  have a := own_add SS 3 ⟨by omega, by omega⟩ ⟨by omega, by omega⟩
  have b := own_add (SS + 3) UL ⟨by omega, by omega⟩ ⟨by omega, by omega⟩
  omega
theorem own_i2 {p q SS UL : Int32} (h : SS = ((1 : Int32) + (p &&& (3 : Int32)))) (hu : UL = (q &&& (3 : Int32))) : ¬ ((SS + (3 : Int32)) + UL) < 0 ∧ ((SS + (3 : Int32)) + UL) < (20 : Int32) := by
  have r := own_rS h
  have u := own_r3 hu
  have v := own_v2 h hu
  exact own_in20 (by omega) (by omega)
theorem own_v3 {p q t SS UL PL v : Int32} (h : SS = ((1 : Int32) + (p &&& (3 : Int32)))) (hu : UL = (q &&& (3 : Int32))) (hp : PL = (t &&& (3 : Int32))) (hv : v = (if (0 : Int32) < PL then ((((SS + (3 : Int32)) + UL) + (1 : Int32)) + PL) else ((SS + (3 : Int32)) + UL))) : SS.toInt + 3 ≤ v.toInt ∧ v.toInt ≤ SS.toInt + 10 := by
  have r := own_rS h
  have u := own_r3 hu
  have l := own_r3 hp
  have w := own_v2 h hu
  have e1 : (1 : Int32).toInt = 1 := by decide
  by_cases c : (0 : Int32) < PL
  · rw [if_pos c] at hv
    have a := own_add ((SS + 3) + UL) 1 ⟨by omega, by omega⟩ ⟨by omega, by omega⟩
    have b := own_add (((SS + 3) + UL) + 1) PL ⟨by omega, by omega⟩ ⟨by omega, by omega⟩
    subst hv; omega
  · rw [if_neg c] at hv
    subst hv; omega
theorem own_i3 {p q t SS UL PL v : Int32} (h : SS = ((1 : Int32) + (p &&& (3 : Int32)))) (hu : UL = (q &&& (3 : Int32))) (hp : PL = (t &&& (3 : Int32))) (hv : v = (if (0 : Int32) < PL then ((((SS + (3 : Int32)) + UL) + (1 : Int32)) + PL) else ((SS + (3 : Int32)) + UL))) : ¬ v < 0 ∧ v < (20 : Int32) := by
  have r := own_rS h
  have w := own_v3 h hu hp hv
  exact own_in20 (by omega) (by omega)
theorem own_v4 {p q t SS UL PL a b v : Int32} (h : SS = ((1 : Int32) + (p &&& (3 : Int32)))) (hu : UL = (q &&& (3 : Int32))) (hp : PL = (t &&& (3 : Int32))) (hv : v = (if a = (0 : Int32) then (SS + (1 : Int32)) else (if b = (0 : Int32) then (SS + (3 : Int32)) else ((if (0 : Int32) < PL then ((((SS + (3 : Int32)) + UL) + (1 : Int32)) + PL) else ((SS + (3 : Int32)) + UL)) + (1 : Int32))))) : 0 ≤ v.toInt ∧ v.toInt ≤ SS.toInt + 11 ∧ (a = 0 → v.toInt ≤ SS.toInt + 3) ∧ (b = 0 → v.toInt ≤ SS.toInt + 3) ∧ (¬ a = 0 → ¬ b = 0 → SS.toInt + 3 < v.toInt) := by
  have r := own_rS h
  have w := own_v3 h hu hp rfl
  have e1 : (1 : Int32).toInt = 1 := by decide
  have e3 : (3 : Int32).toInt = 3 := by decide
  have a1 := own_add SS 1 ⟨by omega, by omega⟩ ⟨by omega, by omega⟩
  have a3 := own_add SS 3 ⟨by omega, by omega⟩ ⟨by omega, by omega⟩
  have a4 := own_add (if (0 : Int32) < PL then ((((SS + (3 : Int32)) + UL) + (1 : Int32)) + PL) else ((SS + (3 : Int32)) + UL)) 1 ⟨by omega, by omega⟩ ⟨by omega, by omega⟩
  by_cases c : a = (0 : Int32)
  · rw [if_pos c] at hv; subst hv; exact ⟨by omega, by omega, fun _ => by omega, fun _ => by omega, fun q => absurd c q⟩
  · rw [if_neg c] at hv
    by_cases d : b = (0 : Int32)
    · rw [if_pos d] at hv; subst hv; exact ⟨by omega, by omega, fun q => absurd q c, fun _ => by omega, fun _ q => absurd d q⟩
    · rw [if_neg d] at hv; subst hv; exact ⟨by omega, by omega, fun q => absurd q c, fun q => absurd q d, fun _ _ => by omega⟩
theorem own_i4 {p q t r SS UL PL HL a b v : Int32} (h : SS = ((1 : Int32) + (p &&& (3 : Int32)))) (hu : UL = (q &&& (3 : Int32))) (hp : PL = (t &&& (3 : Int32))) (hh : HL = (r &&& (3 : Int32))) (hv : v = (if a = (0 : Int32) then (SS + (1 : Int32)) else ((if b = (0 : Int32) then (SS + (3 : Int32)) else ((if (0 : Int32) < PL then ((((SS + (3 : Int32)) + UL) + (1 : Int32)) + PL) else ((SS + (3 : Int32)) + UL)) + (1 : Int32))) + HL))) : ¬ v < 0 ∧ v < (20 : Int32) := by
  have rs := own_rS h
  have rh := own_r3 hh
  have w := own_v4 (a := 1) (b := b) h hu hp rfl
  rw [if_neg (by decide)] at w
  have e1 : (1 : Int32).toInt = 1 := by decide
  by_cases c : a = (0 : Int32)
  · rw [if_pos c] at hv
    have a1 := own_add SS 1 ⟨by omega, by omega⟩ ⟨by omega, by omega⟩
    subst hv
    exact own_in20 (by omega) (by omega)
  · rw [if_neg c] at hv
    have a1 := own_add (if b = (0 : Int32) then (SS + (3 : Int32)) else ((if (0 : Int32) < PL then ((((SS + (3 : Int32)) + UL) + (1 : Int32)) + PL) else ((SS + (3 : Int32)) + UL)) + (1 : Int32))) HL ⟨by omega, by omega⟩ ⟨by omega, by omega⟩
    subst hv
    exact own_in20 (by omega) (by omega)
theorem d7_0 : decode prog_30_method_1_code 0 = .ok (.aload_n 0, 1) := by decide +kernel
theorem d7_1 : decode prog_30_method_1_code 1 = .ok (.invokespecial 1, 3) := by decide +kernel
theorem d7_4 : decode prog_30_method_1_code 4 = .ok (.aload_n 0, 1) := by decide +kernel
theorem d7_5 : decode prog_30_method_1_code 5 = .ok (.aload_n 1, 1) := by decide +kernel
theorem d7_6 : decode prog_30_method_1_code 6 = .ok (.putfield 7, 3) := by decide +kernel
theorem d7_9 : decode prog_30_method_1_code 9 = .ok (.aload_n 0, 1) := by decide +kernel
theorem d7_10 : decode prog_30_method_1_code 10 = .ok (.iload_n 2, 1) := by decide +kernel
theorem d7_11 : decode prog_30_method_1_code 11 = .ok (.putfield 13, 3) := by decide +kernel
theorem d7_14 : decode prog_30_method_1_code 14 = .ok (.aload_n 0, 1) := by decide +kernel
theorem d7_15 : decode prog_30_method_1_code 15 = .ok (.iload_n 3, 1) := by decide +kernel
theorem d7_16 : decode prog_30_method_1_code 16 = .ok (.putfield 17, 3) := by decide +kernel
theorem d7_19 : decode prog_30_method_1_code 19 = .ok (.aload_n 0, 1) := by decide +kernel
theorem d7_20 : decode prog_30_method_1_code 20 = .ok (.iload 4, 2) := by decide +kernel
theorem d7_22 : decode prog_30_method_1_code 22 = .ok (.putfield 20, 3) := by decide +kernel
theorem d7_25 : decode prog_30_method_1_code 25 = .ok (.aload_n 0, 1) := by decide +kernel
theorem d7_26 : decode prog_30_method_1_code 26 = .ok (.iload 5, 2) := by decide +kernel
theorem d7_28 : decode prog_30_method_1_code 28 = .ok (.putfield 23, 3) := by decide +kernel
theorem d7_31 : decode prog_30_method_1_code 31 = .ok (.aload_n 0, 1) := by decide +kernel
theorem d7_32 : decode prog_30_method_1_code 32 = .ok (.iload 6, 2) := by decide +kernel
theorem d7_34 : decode prog_30_method_1_code 34 = .ok (.putfield 26, 3) := by decide +kernel
theorem d7_37 : decode prog_30_method_1_code 37 = .ok (.aload_n 0, 1) := by decide +kernel
theorem d7_38 : decode prog_30_method_1_code 38 = .ok (.iload 7, 2) := by decide +kernel
theorem d7_40 : decode prog_30_method_1_code 40 = .ok (.putfield 29, 3) := by decide +kernel
theorem d7_43 : decode prog_30_method_1_code 43 = .ok (.aload_n 0, 1) := by decide +kernel
theorem d7_44 : decode prog_30_method_1_code 44 = .ok (.iload 8, 2) := by decide +kernel
theorem d7_46 : decode prog_30_method_1_code 46 = .ok (.putfield 32, 3) := by decide +kernel
theorem d7_49 : decode prog_30_method_1_code 49 = .ok (.return_, 1) := by decide +kernel
theorem pn_7 : plainName "com/example/cadmus/cadmus/internal/UrlRecord" = true := by first | (simp [plainName, overriddenIn]; done) | decide +kernel
theorem ef_7 (m : MethodId) (a1 : Addr) (a2 : Addr) (p3 : Int32) (p4 : Int32) (p5 : Int32) (p6 : Int32) (p7 : Int32) (p8 : Int32) (p9 : Int32) : entryFrame m #[(.ref a1), (.ref a2), (.int p3), (.int p4), (.int p5), (.int p6), (.int p7), (.int p8), (.int p9)] 9 = mkF m 0 #[.val (.ref a1), .val (.ref a2), .val (.int p3), .val (.int p4), .val (.int p5), .val (.int p6), .val (.int p7), .val (.int p8), .val (.int p9)] [] := by first | (simp [entryFrame, mkF, argsToLocals, Value.category]; done) | rfl
def Q7 (Z : State) (a1 : Addr) (a2 : Addr) (p3 : Int32) (p4 : Int32) (p5 : Int32) (p6 : Int32) (p7 : Int32) (p8 : Int32) (p9 : Int32)  (h0 : Heap) (n0 : Nat) (v : Option Value) (h : Heap) (L : List Loc) : Prop := v = none ∧ Fr n0 L ∧ Keep h0 h ([a1] : List Addr) ∧ Exa Z h a1 "com/example/cadmus/cadmus/internal/UrlRecord" ∧ Fld Z h a1 "com/example/cadmus/cadmus/internal/UrlRecord" "schemeEnd" "I" (.int p3) ∧ Fld Z h a1 "com/example/cadmus/cadmus/internal/UrlRecord" "usernameEnd" "I" (.int p4) ∧ Fld Z h a1 "com/example/cadmus/cadmus/internal/UrlRecord" "hostStart" "I" (.int p5) ∧ Fld Z h a1 "com/example/cadmus/cadmus/internal/UrlRecord" "hostEnd" "I" (.int p6) ∧ Fld Z h a1 "com/example/cadmus/cadmus/internal/UrlRecord" "pathStart" "I" (.int p7) ∧ Fld Z h a1 "com/example/cadmus/cadmus/internal/UrlRecord" "queryStart" "I" (.int p8) ∧ Fld Z h a1 "com/example/cadmus/cadmus/internal/UrlRecord" "fragmentStart" "I" (.int p9)
set_option maxRecDepth 65536 in
set_option maxHeartbeats 40000000 in
theorem rm7 (l : Launch) (Z : State) (a0 : Array Value) (hw : ∀ d ∈ tables_1, d.before a0 Z = true) (ws : List Jvm.Cond) (a1 : Addr) (a2 : Addr) (p3 : Int32) (p4 : Int32) (p5 : Int32) (p6 : Int32) (p7 : Int32) (p8 : Int32) (p9 : Int32)  (h0 : Heap) (n0 : Nat) (Z0 : n0 ≤ h0.size) (E_a1 : Exa Z h0 a1 "com/example/cadmus/cadmus/internal/UrlRecord") (F_href_a1 : Fld Z h0 a1 "com/example/cadmus/cadmus/internal/UrlRecord" "href" "Ljava/lang/String;" .null) (F_schemeEnd_a1 : Fld Z h0 a1 "com/example/cadmus/cadmus/internal/UrlRecord" "schemeEnd" "I" (.int (0 : Int32))) (F_usernameEnd_a1 : Fld Z h0 a1 "com/example/cadmus/cadmus/internal/UrlRecord" "usernameEnd" "I" (.int (0 : Int32))) (F_hostStart_a1 : Fld Z h0 a1 "com/example/cadmus/cadmus/internal/UrlRecord" "hostStart" "I" (.int (0 : Int32))) (F_hostEnd_a1 : Fld Z h0 a1 "com/example/cadmus/cadmus/internal/UrlRecord" "hostEnd" "I" (.int (0 : Int32))) (F_pathStart_a1 : Fld Z h0 a1 "com/example/cadmus/cadmus/internal/UrlRecord" "pathStart" "I" (.int (0 : Int32))) (F_queryStart_a1 : Fld Z h0 a1 "com/example/cadmus/cadmus/internal/UrlRecord" "queryStart" "I" (.int (0 : Int32))) (F_fragmentStart_a1 : Fld Z h0 a1 "com/example/cadmus/cadmus/internal/UrlRecord" "fragmentStart" "I" (.int (0 : Int32))) (g_a1 : n0 ≤ a1) :
    MetFree l (⟨"com/example/cadmus/cadmus/internal/UrlRecord", "<init>", "(Ljava/lang/String;IIIIIII)V"⟩ : MethodName) (head1 (Jvm.Cond.code (⟨"com/example/cadmus/cadmus/internal/UrlRecord", "<init>", "(Ljava/lang/String;IIIIIII)V"⟩ : MethodName) prog_30_method_1_code 9 none :: ws) ({ frames := 1, cells := 0, slots := 0, locals := 12 } : Room)) (fun a U => a = #[(.ref a1), (.ref a2), (.int p3), (.int p4), (.int p5), (.int p6), (.int p7), (.int p8), (.int p9)] ∧ Z.Warmed39 U.vm ∧ U.heap = h0) (fun _ _ _ _ _ => True) (fun _ U o U' => ∃ v L, o = .returned v ∧ Q7 Z a1 a2 p3 p4 p5 p6 p7 p8 p9 h0 n0 v U'.heap L ∧ FrameEnd U o U' L ({ frames := 1, cells := 0, slots := 0, locals := 12 } : Room).cells ({ frames := 1, cells := 0, slots := 0, locals := 12 } : Room).slots) := by
  refine MetFree.of_bodySF (plainFor_of_name pn_7) hisR ?_
  intro p e s m args below meth c s₁ Bd hml0 hP hK
  obtain ⟨rfl, hZ, hh⟩ := hP
  have hx := Bd.exec
  have hby := Bd.bytes
  have hml : c.maxLocals = 9 := hml0
  have hown : s.vm.findClass "com/example/cadmus/cadmus/internal/UrlRecord" = some m.cls := findClass_of_methodNamed Bd.named
  have hnm := (name_of_methodNamed Bd.named Bd.method).1
  have X0 : Stand p l e ({ frames := 1, cells := 0, slots := 0, locals := 12 } : Room) s m #[(.ref a1), (.ref a2), (.int p3), (.int p4), (.int p5), (.int p6), (.int p7), (.int p8), (.int p9)] below meth c s₁ [] 0 0 := Stand.of_body Bd
  have e0 : s₁.heap = h0 := by rw [← hh, Bd.state]; rfl
  have N0 := Fr.nil n0
  have pre0 : ∀ t, Steps p.tables e below (s₁.setTop (mkF m 0 #[.val (.ref a1), .val (.ref a2), .val (.int p3), .val (.int p4), .val (.int p5), .val (.int p6), .val (.int p7), .val (.int p8), .val (.int p9)] [])) t → Steps p.tables e below (s₁.setTop (entryFrame m #[(.ref a1), (.ref a2), (.int p3), (.int p4), (.int p5), (.int p6), (.int p7), (.int p8), (.int p9)] 9)) t := fun t k => castTop (ef_7 m a1 a2 p3 p4 p5 p6 p7 p8 p9) k
  have K0 := Keep.refl h0 ([a1] : List Addr)
  obtain ⟨T1, X1, e1, st1⟩ := initO X0 hx hZ hown (hw _ (List.mem_of_getElem? (i := 36) rfl)) (hw _ (List.mem_of_getElem? (i := 15) rfl)) (hw _ (List.mem_of_getElem? (i := 16) rfl)) e0 (g := (mkF m 1 #[.val (.ref a1), .val (.ref a2), .val (.int p3), .val (.int p4), .val (.int p5), .val (.int p6), .val (.int p7), .val (.int p8), .val (.int p9)] [(.ref a1)])) rfl (by rw [hml]; rfl) rfl (hb hby d7_1) (by decide) (W := 0) (by show 2 * 0 + _ ≤ _; exact Nat.le_of_eq rfl) (by decide)
  obtain ⟨T2, h2, X2, e2, W2, st2⟩ := putF X1 hx hZ hown (host := "") (Or.inl (hw _ (List.mem_of_getElem? (i := 37) rfl))) Via.refl e1 F_href_a1 E_a1 (Or.inr ⟨(hw _ (List.mem_of_getElem? (i := 38) rfl)), rfl, hnm⟩) (hw _ (List.mem_of_getElem? (i := 2) rfl)) (ty := (.object "java/lang/String")) (by decide) rfl rfl (g := (mkF m 6 #[.val (.ref a1), .val (.ref a2), .val (.int p3), .val (.int p4), .val (.int p5), .val (.int p6), .val (.int p7), .val (.int p8), .val (.int p9)] [(.ref a2), (.ref a1)])) rfl rfl (hb hby d7_6)
  have E_a1_2 : Exa Z h2 a1 "com/example/cadmus/cadmus/internal/UrlRecord" := E_a1.wr W2
  have F_schemeEnd_a1_2 : Fld Z h2 a1 "com/example/cadmus/cadmus/internal/UrlRecord" "schemeEnd" "I" (.int (0 : Int32)) := F_schemeEnd_a1.other W2 (Or.inr (slot_ne (Or.inr (hw _ (List.mem_of_getElem? (i := 40) rfl))) (Or.inr (hw _ (List.mem_of_getElem? (i := 38) rfl))) (by decide) (t := .int) (t' := (.object "java/lang/String")) (by decide) (by decide)))
  have F_usernameEnd_a1_2 : Fld Z h2 a1 "com/example/cadmus/cadmus/internal/UrlRecord" "usernameEnd" "I" (.int (0 : Int32)) := F_usernameEnd_a1.other W2 (Or.inr (slot_ne (Or.inr (hw _ (List.mem_of_getElem? (i := 42) rfl))) (Or.inr (hw _ (List.mem_of_getElem? (i := 38) rfl))) (by decide) (t := .int) (t' := (.object "java/lang/String")) (by decide) (by decide)))
  have F_hostStart_a1_2 : Fld Z h2 a1 "com/example/cadmus/cadmus/internal/UrlRecord" "hostStart" "I" (.int (0 : Int32)) := F_hostStart_a1.other W2 (Or.inr (slot_ne (Or.inr (hw _ (List.mem_of_getElem? (i := 44) rfl))) (Or.inr (hw _ (List.mem_of_getElem? (i := 38) rfl))) (by decide) (t := .int) (t' := (.object "java/lang/String")) (by decide) (by decide)))
  have F_hostEnd_a1_2 : Fld Z h2 a1 "com/example/cadmus/cadmus/internal/UrlRecord" "hostEnd" "I" (.int (0 : Int32)) := F_hostEnd_a1.other W2 (Or.inr (slot_ne (Or.inr (hw _ (List.mem_of_getElem? (i := 46) rfl))) (Or.inr (hw _ (List.mem_of_getElem? (i := 38) rfl))) (by decide) (t := .int) (t' := (.object "java/lang/String")) (by decide) (by decide)))
  have F_pathStart_a1_2 : Fld Z h2 a1 "com/example/cadmus/cadmus/internal/UrlRecord" "pathStart" "I" (.int (0 : Int32)) := F_pathStart_a1.other W2 (Or.inr (slot_ne (Or.inr (hw _ (List.mem_of_getElem? (i := 48) rfl))) (Or.inr (hw _ (List.mem_of_getElem? (i := 38) rfl))) (by decide) (t := .int) (t' := (.object "java/lang/String")) (by decide) (by decide)))
  have F_queryStart_a1_2 : Fld Z h2 a1 "com/example/cadmus/cadmus/internal/UrlRecord" "queryStart" "I" (.int (0 : Int32)) := F_queryStart_a1.other W2 (Or.inr (slot_ne (Or.inr (hw _ (List.mem_of_getElem? (i := 50) rfl))) (Or.inr (hw _ (List.mem_of_getElem? (i := 38) rfl))) (by decide) (t := .int) (t' := (.object "java/lang/String")) (by decide) (by decide)))
  have F_fragmentStart_a1_2 : Fld Z h2 a1 "com/example/cadmus/cadmus/internal/UrlRecord" "fragmentStart" "I" (.int (0 : Int32)) := F_fragmentStart_a1.other W2 (Or.inr (slot_ne (Or.inr (hw _ (List.mem_of_getElem? (i := 52) rfl))) (Or.inr (hw _ (List.mem_of_getElem? (i := 38) rfl))) (by decide) (t := .int) (t' := (.object "java/lang/String")) (by decide) (by decide)))
  have K2 := K0.wr W2 (Or.inl (List.mem_of_getElem? (i := 0) rfl))
  have Zs2 := Nat.le_trans Z0 (Keep.of_wr W2).1
  have N2 := Fr.snoc X2 N0 g_a1
  have F_href_a1_2 : Fld Z h2 a1 "com/example/cadmus/cadmus/internal/UrlRecord" "href" "Ljava/lang/String;" (.ref a2) := F_href_a1.same W2
  obtain ⟨T3, h3, X3, e3, W3, st3⟩ := putF X2 hx hZ hown (host := "") (Or.inl (hw _ (List.mem_of_getElem? (i := 39) rfl))) Via.refl e2 F_schemeEnd_a1_2 E_a1_2 (Or.inr ⟨(hw _ (List.mem_of_getElem? (i := 40) rfl)), rfl, hnm⟩) (hw _ (List.mem_of_getElem? (i := 2) rfl)) (ty := .int) (by decide) rfl rfl (g := (mkF m 11 #[.val (.ref a1), .val (.ref a2), .val (.int p3), .val (.int p4), .val (.int p5), .val (.int p6), .val (.int p7), .val (.int p8), .val (.int p9)] [(.int p3), (.ref a1)])) rfl rfl (hb hby d7_11)
  have E_a1_3 : Exa Z h3 a1 "com/example/cadmus/cadmus/internal/UrlRecord" := E_a1_2.wr W3
  have F_usernameEnd_a1_3 : Fld Z h3 a1 "com/example/cadmus/cadmus/internal/UrlRecord" "usernameEnd" "I" (.int (0 : Int32)) := F_usernameEnd_a1_2.other W3 (Or.inr (slot_ne (Or.inr (hw _ (List.mem_of_getElem? (i := 42) rfl))) (Or.inr (hw _ (List.mem_of_getElem? (i := 40) rfl))) (by decide) (t := .int) (t' := .int) (by decide) (by decide)))
  have F_hostStart_a1_3 : Fld Z h3 a1 "com/example/cadmus/cadmus/internal/UrlRecord" "hostStart" "I" (.int (0 : Int32)) := F_hostStart_a1_2.other W3 (Or.inr (slot_ne (Or.inr (hw _ (List.mem_of_getElem? (i := 44) rfl))) (Or.inr (hw _ (List.mem_of_getElem? (i := 40) rfl))) (by decide) (t := .int) (t' := .int) (by decide) (by decide)))
  have F_hostEnd_a1_3 : Fld Z h3 a1 "com/example/cadmus/cadmus/internal/UrlRecord" "hostEnd" "I" (.int (0 : Int32)) := F_hostEnd_a1_2.other W3 (Or.inr (slot_ne (Or.inr (hw _ (List.mem_of_getElem? (i := 46) rfl))) (Or.inr (hw _ (List.mem_of_getElem? (i := 40) rfl))) (by decide) (t := .int) (t' := .int) (by decide) (by decide)))
  have F_pathStart_a1_3 : Fld Z h3 a1 "com/example/cadmus/cadmus/internal/UrlRecord" "pathStart" "I" (.int (0 : Int32)) := F_pathStart_a1_2.other W3 (Or.inr (slot_ne (Or.inr (hw _ (List.mem_of_getElem? (i := 48) rfl))) (Or.inr (hw _ (List.mem_of_getElem? (i := 40) rfl))) (by decide) (t := .int) (t' := .int) (by decide) (by decide)))
  have F_queryStart_a1_3 : Fld Z h3 a1 "com/example/cadmus/cadmus/internal/UrlRecord" "queryStart" "I" (.int (0 : Int32)) := F_queryStart_a1_2.other W3 (Or.inr (slot_ne (Or.inr (hw _ (List.mem_of_getElem? (i := 50) rfl))) (Or.inr (hw _ (List.mem_of_getElem? (i := 40) rfl))) (by decide) (t := .int) (t' := .int) (by decide) (by decide)))
  have F_fragmentStart_a1_3 : Fld Z h3 a1 "com/example/cadmus/cadmus/internal/UrlRecord" "fragmentStart" "I" (.int (0 : Int32)) := F_fragmentStart_a1_2.other W3 (Or.inr (slot_ne (Or.inr (hw _ (List.mem_of_getElem? (i := 52) rfl))) (Or.inr (hw _ (List.mem_of_getElem? (i := 40) rfl))) (by decide) (t := .int) (t' := .int) (by decide) (by decide)))
  have F_href_a1_3 : Fld Z h3 a1 "com/example/cadmus/cadmus/internal/UrlRecord" "href" "Ljava/lang/String;" (.ref a2) := F_href_a1_2.other W3 (Or.inr (slot_ne (Or.inr (hw _ (List.mem_of_getElem? (i := 38) rfl))) (Or.inr (hw _ (List.mem_of_getElem? (i := 40) rfl))) (by decide) (t := (.object "java/lang/String")) (t' := .int) (by decide) (by decide)))
  have K3 := K2.wr W3 (Or.inl (List.mem_of_getElem? (i := 0) rfl))
  have Zs3 := Nat.le_trans Zs2 (Keep.of_wr W3).1
  have N3 := Fr.snoc X3 N2 g_a1
  have F_schemeEnd_a1_3 : Fld Z h3 a1 "com/example/cadmus/cadmus/internal/UrlRecord" "schemeEnd" "I" (.int p3) := F_schemeEnd_a1_2.same W3
  obtain ⟨T4, h4, X4, e4, W4, st4⟩ := putF X3 hx hZ hown (host := "") (Or.inl (hw _ (List.mem_of_getElem? (i := 41) rfl))) Via.refl e3 F_usernameEnd_a1_3 E_a1_3 (Or.inr ⟨(hw _ (List.mem_of_getElem? (i := 42) rfl)), rfl, hnm⟩) (hw _ (List.mem_of_getElem? (i := 2) rfl)) (ty := .int) (by decide) rfl rfl (g := (mkF m 16 #[.val (.ref a1), .val (.ref a2), .val (.int p3), .val (.int p4), .val (.int p5), .val (.int p6), .val (.int p7), .val (.int p8), .val (.int p9)] [(.int p4), (.ref a1)])) rfl rfl (hb hby d7_16)
  have E_a1_4 : Exa Z h4 a1 "com/example/cadmus/cadmus/internal/UrlRecord" := E_a1_3.wr W4
  have F_hostStart_a1_4 : Fld Z h4 a1 "com/example/cadmus/cadmus/internal/UrlRecord" "hostStart" "I" (.int (0 : Int32)) := F_hostStart_a1_3.other W4 (Or.inr (slot_ne (Or.inr (hw _ (List.mem_of_getElem? (i := 44) rfl))) (Or.inr (hw _ (List.mem_of_getElem? (i := 42) rfl))) (by decide) (t := .int) (t' := .int) (by decide) (by decide)))
  have F_hostEnd_a1_4 : Fld Z h4 a1 "com/example/cadmus/cadmus/internal/UrlRecord" "hostEnd" "I" (.int (0 : Int32)) := F_hostEnd_a1_3.other W4 (Or.inr (slot_ne (Or.inr (hw _ (List.mem_of_getElem? (i := 46) rfl))) (Or.inr (hw _ (List.mem_of_getElem? (i := 42) rfl))) (by decide) (t := .int) (t' := .int) (by decide) (by decide)))
  have F_pathStart_a1_4 : Fld Z h4 a1 "com/example/cadmus/cadmus/internal/UrlRecord" "pathStart" "I" (.int (0 : Int32)) := F_pathStart_a1_3.other W4 (Or.inr (slot_ne (Or.inr (hw _ (List.mem_of_getElem? (i := 48) rfl))) (Or.inr (hw _ (List.mem_of_getElem? (i := 42) rfl))) (by decide) (t := .int) (t' := .int) (by decide) (by decide)))
  have F_queryStart_a1_4 : Fld Z h4 a1 "com/example/cadmus/cadmus/internal/UrlRecord" "queryStart" "I" (.int (0 : Int32)) := F_queryStart_a1_3.other W4 (Or.inr (slot_ne (Or.inr (hw _ (List.mem_of_getElem? (i := 50) rfl))) (Or.inr (hw _ (List.mem_of_getElem? (i := 42) rfl))) (by decide) (t := .int) (t' := .int) (by decide) (by decide)))
  have F_fragmentStart_a1_4 : Fld Z h4 a1 "com/example/cadmus/cadmus/internal/UrlRecord" "fragmentStart" "I" (.int (0 : Int32)) := F_fragmentStart_a1_3.other W4 (Or.inr (slot_ne (Or.inr (hw _ (List.mem_of_getElem? (i := 52) rfl))) (Or.inr (hw _ (List.mem_of_getElem? (i := 42) rfl))) (by decide) (t := .int) (t' := .int) (by decide) (by decide)))
  have F_href_a1_4 : Fld Z h4 a1 "com/example/cadmus/cadmus/internal/UrlRecord" "href" "Ljava/lang/String;" (.ref a2) := F_href_a1_3.other W4 (Or.inr (slot_ne (Or.inr (hw _ (List.mem_of_getElem? (i := 38) rfl))) (Or.inr (hw _ (List.mem_of_getElem? (i := 42) rfl))) (by decide) (t := (.object "java/lang/String")) (t' := .int) (by decide) (by decide)))
  have F_schemeEnd_a1_4 : Fld Z h4 a1 "com/example/cadmus/cadmus/internal/UrlRecord" "schemeEnd" "I" (.int p3) := F_schemeEnd_a1_3.other W4 (Or.inr (slot_ne (Or.inr (hw _ (List.mem_of_getElem? (i := 40) rfl))) (Or.inr (hw _ (List.mem_of_getElem? (i := 42) rfl))) (by decide) (t := .int) (t' := .int) (by decide) (by decide)))
  have K4 := K3.wr W4 (Or.inl (List.mem_of_getElem? (i := 0) rfl))
  have Zs4 := Nat.le_trans Zs3 (Keep.of_wr W4).1
  have N4 := Fr.snoc X4 N3 g_a1
  have F_usernameEnd_a1_4 : Fld Z h4 a1 "com/example/cadmus/cadmus/internal/UrlRecord" "usernameEnd" "I" (.int p4) := F_usernameEnd_a1_3.same W4
  obtain ⟨T5, h5, X5, e5, W5, st5⟩ := putF X4 hx hZ hown (host := "") (Or.inl (hw _ (List.mem_of_getElem? (i := 43) rfl))) Via.refl e4 F_hostStart_a1_4 E_a1_4 (Or.inr ⟨(hw _ (List.mem_of_getElem? (i := 44) rfl)), rfl, hnm⟩) (hw _ (List.mem_of_getElem? (i := 2) rfl)) (ty := .int) (by decide) rfl rfl (g := (mkF m 22 #[.val (.ref a1), .val (.ref a2), .val (.int p3), .val (.int p4), .val (.int p5), .val (.int p6), .val (.int p7), .val (.int p8), .val (.int p9)] [(.int p5), (.ref a1)])) rfl rfl (hb hby d7_22)
  have E_a1_5 : Exa Z h5 a1 "com/example/cadmus/cadmus/internal/UrlRecord" := E_a1_4.wr W5
  have F_hostEnd_a1_5 : Fld Z h5 a1 "com/example/cadmus/cadmus/internal/UrlRecord" "hostEnd" "I" (.int (0 : Int32)) := F_hostEnd_a1_4.other W5 (Or.inr (slot_ne (Or.inr (hw _ (List.mem_of_getElem? (i := 46) rfl))) (Or.inr (hw _ (List.mem_of_getElem? (i := 44) rfl))) (by decide) (t := .int) (t' := .int) (by decide) (by decide)))
  have F_pathStart_a1_5 : Fld Z h5 a1 "com/example/cadmus/cadmus/internal/UrlRecord" "pathStart" "I" (.int (0 : Int32)) := F_pathStart_a1_4.other W5 (Or.inr (slot_ne (Or.inr (hw _ (List.mem_of_getElem? (i := 48) rfl))) (Or.inr (hw _ (List.mem_of_getElem? (i := 44) rfl))) (by decide) (t := .int) (t' := .int) (by decide) (by decide)))
  have F_queryStart_a1_5 : Fld Z h5 a1 "com/example/cadmus/cadmus/internal/UrlRecord" "queryStart" "I" (.int (0 : Int32)) := F_queryStart_a1_4.other W5 (Or.inr (slot_ne (Or.inr (hw _ (List.mem_of_getElem? (i := 50) rfl))) (Or.inr (hw _ (List.mem_of_getElem? (i := 44) rfl))) (by decide) (t := .int) (t' := .int) (by decide) (by decide)))
  have F_fragmentStart_a1_5 : Fld Z h5 a1 "com/example/cadmus/cadmus/internal/UrlRecord" "fragmentStart" "I" (.int (0 : Int32)) := F_fragmentStart_a1_4.other W5 (Or.inr (slot_ne (Or.inr (hw _ (List.mem_of_getElem? (i := 52) rfl))) (Or.inr (hw _ (List.mem_of_getElem? (i := 44) rfl))) (by decide) (t := .int) (t' := .int) (by decide) (by decide)))
  have F_href_a1_5 : Fld Z h5 a1 "com/example/cadmus/cadmus/internal/UrlRecord" "href" "Ljava/lang/String;" (.ref a2) := F_href_a1_4.other W5 (Or.inr (slot_ne (Or.inr (hw _ (List.mem_of_getElem? (i := 38) rfl))) (Or.inr (hw _ (List.mem_of_getElem? (i := 44) rfl))) (by decide) (t := (.object "java/lang/String")) (t' := .int) (by decide) (by decide)))
  have F_schemeEnd_a1_5 : Fld Z h5 a1 "com/example/cadmus/cadmus/internal/UrlRecord" "schemeEnd" "I" (.int p3) := F_schemeEnd_a1_4.other W5 (Or.inr (slot_ne (Or.inr (hw _ (List.mem_of_getElem? (i := 40) rfl))) (Or.inr (hw _ (List.mem_of_getElem? (i := 44) rfl))) (by decide) (t := .int) (t' := .int) (by decide) (by decide)))
  have F_usernameEnd_a1_5 : Fld Z h5 a1 "com/example/cadmus/cadmus/internal/UrlRecord" "usernameEnd" "I" (.int p4) := F_usernameEnd_a1_4.other W5 (Or.inr (slot_ne (Or.inr (hw _ (List.mem_of_getElem? (i := 42) rfl))) (Or.inr (hw _ (List.mem_of_getElem? (i := 44) rfl))) (by decide) (t := .int) (t' := .int) (by decide) (by decide)))
  have K5 := K4.wr W5 (Or.inl (List.mem_of_getElem? (i := 0) rfl))
  have Zs5 := Nat.le_trans Zs4 (Keep.of_wr W5).1
  have N5 := Fr.snoc X5 N4 g_a1
  have F_hostStart_a1_5 : Fld Z h5 a1 "com/example/cadmus/cadmus/internal/UrlRecord" "hostStart" "I" (.int p5) := F_hostStart_a1_4.same W5
  obtain ⟨T6, h6, X6, e6, W6, st6⟩ := putF X5 hx hZ hown (host := "") (Or.inl (hw _ (List.mem_of_getElem? (i := 45) rfl))) Via.refl e5 F_hostEnd_a1_5 E_a1_5 (Or.inr ⟨(hw _ (List.mem_of_getElem? (i := 46) rfl)), rfl, hnm⟩) (hw _ (List.mem_of_getElem? (i := 2) rfl)) (ty := .int) (by decide) rfl rfl (g := (mkF m 28 #[.val (.ref a1), .val (.ref a2), .val (.int p3), .val (.int p4), .val (.int p5), .val (.int p6), .val (.int p7), .val (.int p8), .val (.int p9)] [(.int p6), (.ref a1)])) rfl rfl (hb hby d7_28)
  have E_a1_6 : Exa Z h6 a1 "com/example/cadmus/cadmus/internal/UrlRecord" := E_a1_5.wr W6
  have F_pathStart_a1_6 : Fld Z h6 a1 "com/example/cadmus/cadmus/internal/UrlRecord" "pathStart" "I" (.int (0 : Int32)) := F_pathStart_a1_5.other W6 (Or.inr (slot_ne (Or.inr (hw _ (List.mem_of_getElem? (i := 48) rfl))) (Or.inr (hw _ (List.mem_of_getElem? (i := 46) rfl))) (by decide) (t := .int) (t' := .int) (by decide) (by decide)))
  have F_queryStart_a1_6 : Fld Z h6 a1 "com/example/cadmus/cadmus/internal/UrlRecord" "queryStart" "I" (.int (0 : Int32)) := F_queryStart_a1_5.other W6 (Or.inr (slot_ne (Or.inr (hw _ (List.mem_of_getElem? (i := 50) rfl))) (Or.inr (hw _ (List.mem_of_getElem? (i := 46) rfl))) (by decide) (t := .int) (t' := .int) (by decide) (by decide)))
  have F_fragmentStart_a1_6 : Fld Z h6 a1 "com/example/cadmus/cadmus/internal/UrlRecord" "fragmentStart" "I" (.int (0 : Int32)) := F_fragmentStart_a1_5.other W6 (Or.inr (slot_ne (Or.inr (hw _ (List.mem_of_getElem? (i := 52) rfl))) (Or.inr (hw _ (List.mem_of_getElem? (i := 46) rfl))) (by decide) (t := .int) (t' := .int) (by decide) (by decide)))
  have F_href_a1_6 : Fld Z h6 a1 "com/example/cadmus/cadmus/internal/UrlRecord" "href" "Ljava/lang/String;" (.ref a2) := F_href_a1_5.other W6 (Or.inr (slot_ne (Or.inr (hw _ (List.mem_of_getElem? (i := 38) rfl))) (Or.inr (hw _ (List.mem_of_getElem? (i := 46) rfl))) (by decide) (t := (.object "java/lang/String")) (t' := .int) (by decide) (by decide)))
  have F_schemeEnd_a1_6 : Fld Z h6 a1 "com/example/cadmus/cadmus/internal/UrlRecord" "schemeEnd" "I" (.int p3) := F_schemeEnd_a1_5.other W6 (Or.inr (slot_ne (Or.inr (hw _ (List.mem_of_getElem? (i := 40) rfl))) (Or.inr (hw _ (List.mem_of_getElem? (i := 46) rfl))) (by decide) (t := .int) (t' := .int) (by decide) (by decide)))
  have F_usernameEnd_a1_6 : Fld Z h6 a1 "com/example/cadmus/cadmus/internal/UrlRecord" "usernameEnd" "I" (.int p4) := F_usernameEnd_a1_5.other W6 (Or.inr (slot_ne (Or.inr (hw _ (List.mem_of_getElem? (i := 42) rfl))) (Or.inr (hw _ (List.mem_of_getElem? (i := 46) rfl))) (by decide) (t := .int) (t' := .int) (by decide) (by decide)))
  have F_hostStart_a1_6 : Fld Z h6 a1 "com/example/cadmus/cadmus/internal/UrlRecord" "hostStart" "I" (.int p5) := F_hostStart_a1_5.other W6 (Or.inr (slot_ne (Or.inr (hw _ (List.mem_of_getElem? (i := 44) rfl))) (Or.inr (hw _ (List.mem_of_getElem? (i := 46) rfl))) (by decide) (t := .int) (t' := .int) (by decide) (by decide)))
  have K6 := K5.wr W6 (Or.inl (List.mem_of_getElem? (i := 0) rfl))
  have Zs6 := Nat.le_trans Zs5 (Keep.of_wr W6).1
  have N6 := Fr.snoc X6 N5 g_a1
  have F_hostEnd_a1_6 : Fld Z h6 a1 "com/example/cadmus/cadmus/internal/UrlRecord" "hostEnd" "I" (.int p6) := F_hostEnd_a1_5.same W6
  obtain ⟨T7, h7, X7, e7, W7, st7⟩ := putF X6 hx hZ hown (host := "") (Or.inl (hw _ (List.mem_of_getElem? (i := 47) rfl))) Via.refl e6 F_pathStart_a1_6 E_a1_6 (Or.inr ⟨(hw _ (List.mem_of_getElem? (i := 48) rfl)), rfl, hnm⟩) (hw _ (List.mem_of_getElem? (i := 2) rfl)) (ty := .int) (by decide) rfl rfl (g := (mkF m 34 #[.val (.ref a1), .val (.ref a2), .val (.int p3), .val (.int p4), .val (.int p5), .val (.int p6), .val (.int p7), .val (.int p8), .val (.int p9)] [(.int p7), (.ref a1)])) rfl rfl (hb hby d7_34)
  have E_a1_7 : Exa Z h7 a1 "com/example/cadmus/cadmus/internal/UrlRecord" := E_a1_6.wr W7
  have F_queryStart_a1_7 : Fld Z h7 a1 "com/example/cadmus/cadmus/internal/UrlRecord" "queryStart" "I" (.int (0 : Int32)) := F_queryStart_a1_6.other W7 (Or.inr (slot_ne (Or.inr (hw _ (List.mem_of_getElem? (i := 50) rfl))) (Or.inr (hw _ (List.mem_of_getElem? (i := 48) rfl))) (by decide) (t := .int) (t' := .int) (by decide) (by decide)))
  have F_fragmentStart_a1_7 : Fld Z h7 a1 "com/example/cadmus/cadmus/internal/UrlRecord" "fragmentStart" "I" (.int (0 : Int32)) := F_fragmentStart_a1_6.other W7 (Or.inr (slot_ne (Or.inr (hw _ (List.mem_of_getElem? (i := 52) rfl))) (Or.inr (hw _ (List.mem_of_getElem? (i := 48) rfl))) (by decide) (t := .int) (t' := .int) (by decide) (by decide)))
  have F_href_a1_7 : Fld Z h7 a1 "com/example/cadmus/cadmus/internal/UrlRecord" "href" "Ljava/lang/String;" (.ref a2) := F_href_a1_6.other W7 (Or.inr (slot_ne (Or.inr (hw _ (List.mem_of_getElem? (i := 38) rfl))) (Or.inr (hw _ (List.mem_of_getElem? (i := 48) rfl))) (by decide) (t := (.object "java/lang/String")) (t' := .int) (by decide) (by decide)))
  have F_schemeEnd_a1_7 : Fld Z h7 a1 "com/example/cadmus/cadmus/internal/UrlRecord" "schemeEnd" "I" (.int p3) := F_schemeEnd_a1_6.other W7 (Or.inr (slot_ne (Or.inr (hw _ (List.mem_of_getElem? (i := 40) rfl))) (Or.inr (hw _ (List.mem_of_getElem? (i := 48) rfl))) (by decide) (t := .int) (t' := .int) (by decide) (by decide)))
  have F_usernameEnd_a1_7 : Fld Z h7 a1 "com/example/cadmus/cadmus/internal/UrlRecord" "usernameEnd" "I" (.int p4) := F_usernameEnd_a1_6.other W7 (Or.inr (slot_ne (Or.inr (hw _ (List.mem_of_getElem? (i := 42) rfl))) (Or.inr (hw _ (List.mem_of_getElem? (i := 48) rfl))) (by decide) (t := .int) (t' := .int) (by decide) (by decide)))
  have F_hostStart_a1_7 : Fld Z h7 a1 "com/example/cadmus/cadmus/internal/UrlRecord" "hostStart" "I" (.int p5) := F_hostStart_a1_6.other W7 (Or.inr (slot_ne (Or.inr (hw _ (List.mem_of_getElem? (i := 44) rfl))) (Or.inr (hw _ (List.mem_of_getElem? (i := 48) rfl))) (by decide) (t := .int) (t' := .int) (by decide) (by decide)))
  have F_hostEnd_a1_7 : Fld Z h7 a1 "com/example/cadmus/cadmus/internal/UrlRecord" "hostEnd" "I" (.int p6) := F_hostEnd_a1_6.other W7 (Or.inr (slot_ne (Or.inr (hw _ (List.mem_of_getElem? (i := 46) rfl))) (Or.inr (hw _ (List.mem_of_getElem? (i := 48) rfl))) (by decide) (t := .int) (t' := .int) (by decide) (by decide)))
  have K7 := K6.wr W7 (Or.inl (List.mem_of_getElem? (i := 0) rfl))
  have Zs7 := Nat.le_trans Zs6 (Keep.of_wr W7).1
  have N7 := Fr.snoc X7 N6 g_a1
  have F_pathStart_a1_7 : Fld Z h7 a1 "com/example/cadmus/cadmus/internal/UrlRecord" "pathStart" "I" (.int p7) := F_pathStart_a1_6.same W7
  obtain ⟨T8, h8, X8, e8, W8, st8⟩ := putF X7 hx hZ hown (host := "") (Or.inl (hw _ (List.mem_of_getElem? (i := 49) rfl))) Via.refl e7 F_queryStart_a1_7 E_a1_7 (Or.inr ⟨(hw _ (List.mem_of_getElem? (i := 50) rfl)), rfl, hnm⟩) (hw _ (List.mem_of_getElem? (i := 2) rfl)) (ty := .int) (by decide) rfl rfl (g := (mkF m 40 #[.val (.ref a1), .val (.ref a2), .val (.int p3), .val (.int p4), .val (.int p5), .val (.int p6), .val (.int p7), .val (.int p8), .val (.int p9)] [(.int p8), (.ref a1)])) rfl rfl (hb hby d7_40)
  have E_a1_8 : Exa Z h8 a1 "com/example/cadmus/cadmus/internal/UrlRecord" := E_a1_7.wr W8
  have F_fragmentStart_a1_8 : Fld Z h8 a1 "com/example/cadmus/cadmus/internal/UrlRecord" "fragmentStart" "I" (.int (0 : Int32)) := F_fragmentStart_a1_7.other W8 (Or.inr (slot_ne (Or.inr (hw _ (List.mem_of_getElem? (i := 52) rfl))) (Or.inr (hw _ (List.mem_of_getElem? (i := 50) rfl))) (by decide) (t := .int) (t' := .int) (by decide) (by decide)))
  have F_href_a1_8 : Fld Z h8 a1 "com/example/cadmus/cadmus/internal/UrlRecord" "href" "Ljava/lang/String;" (.ref a2) := F_href_a1_7.other W8 (Or.inr (slot_ne (Or.inr (hw _ (List.mem_of_getElem? (i := 38) rfl))) (Or.inr (hw _ (List.mem_of_getElem? (i := 50) rfl))) (by decide) (t := (.object "java/lang/String")) (t' := .int) (by decide) (by decide)))
  have F_schemeEnd_a1_8 : Fld Z h8 a1 "com/example/cadmus/cadmus/internal/UrlRecord" "schemeEnd" "I" (.int p3) := F_schemeEnd_a1_7.other W8 (Or.inr (slot_ne (Or.inr (hw _ (List.mem_of_getElem? (i := 40) rfl))) (Or.inr (hw _ (List.mem_of_getElem? (i := 50) rfl))) (by decide) (t := .int) (t' := .int) (by decide) (by decide)))
  have F_usernameEnd_a1_8 : Fld Z h8 a1 "com/example/cadmus/cadmus/internal/UrlRecord" "usernameEnd" "I" (.int p4) := F_usernameEnd_a1_7.other W8 (Or.inr (slot_ne (Or.inr (hw _ (List.mem_of_getElem? (i := 42) rfl))) (Or.inr (hw _ (List.mem_of_getElem? (i := 50) rfl))) (by decide) (t := .int) (t' := .int) (by decide) (by decide)))
  have F_hostStart_a1_8 : Fld Z h8 a1 "com/example/cadmus/cadmus/internal/UrlRecord" "hostStart" "I" (.int p5) := F_hostStart_a1_7.other W8 (Or.inr (slot_ne (Or.inr (hw _ (List.mem_of_getElem? (i := 44) rfl))) (Or.inr (hw _ (List.mem_of_getElem? (i := 50) rfl))) (by decide) (t := .int) (t' := .int) (by decide) (by decide)))
  have F_hostEnd_a1_8 : Fld Z h8 a1 "com/example/cadmus/cadmus/internal/UrlRecord" "hostEnd" "I" (.int p6) := F_hostEnd_a1_7.other W8 (Or.inr (slot_ne (Or.inr (hw _ (List.mem_of_getElem? (i := 46) rfl))) (Or.inr (hw _ (List.mem_of_getElem? (i := 50) rfl))) (by decide) (t := .int) (t' := .int) (by decide) (by decide)))
  have F_pathStart_a1_8 : Fld Z h8 a1 "com/example/cadmus/cadmus/internal/UrlRecord" "pathStart" "I" (.int p7) := F_pathStart_a1_7.other W8 (Or.inr (slot_ne (Or.inr (hw _ (List.mem_of_getElem? (i := 48) rfl))) (Or.inr (hw _ (List.mem_of_getElem? (i := 50) rfl))) (by decide) (t := .int) (t' := .int) (by decide) (by decide)))
  have K8 := K7.wr W8 (Or.inl (List.mem_of_getElem? (i := 0) rfl))
  have Zs8 := Nat.le_trans Zs7 (Keep.of_wr W8).1
  have N8 := Fr.snoc X8 N7 g_a1
  have F_queryStart_a1_8 : Fld Z h8 a1 "com/example/cadmus/cadmus/internal/UrlRecord" "queryStart" "I" (.int p8) := F_queryStart_a1_7.same W8
  obtain ⟨T9, h9, X9, e9, W9, st9⟩ := putF X8 hx hZ hown (host := "") (Or.inl (hw _ (List.mem_of_getElem? (i := 51) rfl))) Via.refl e8 F_fragmentStart_a1_8 E_a1_8 (Or.inr ⟨(hw _ (List.mem_of_getElem? (i := 52) rfl)), rfl, hnm⟩) (hw _ (List.mem_of_getElem? (i := 2) rfl)) (ty := .int) (by decide) rfl rfl (g := (mkF m 46 #[.val (.ref a1), .val (.ref a2), .val (.int p3), .val (.int p4), .val (.int p5), .val (.int p6), .val (.int p7), .val (.int p8), .val (.int p9)] [(.int p9), (.ref a1)])) rfl rfl (hb hby d7_46)
  have E_a1_9 : Exa Z h9 a1 "com/example/cadmus/cadmus/internal/UrlRecord" := E_a1_8.wr W9
  have F_href_a1_9 : Fld Z h9 a1 "com/example/cadmus/cadmus/internal/UrlRecord" "href" "Ljava/lang/String;" (.ref a2) := F_href_a1_8.other W9 (Or.inr (slot_ne (Or.inr (hw _ (List.mem_of_getElem? (i := 38) rfl))) (Or.inr (hw _ (List.mem_of_getElem? (i := 52) rfl))) (by decide) (t := (.object "java/lang/String")) (t' := .int) (by decide) (by decide)))
  have F_schemeEnd_a1_9 : Fld Z h9 a1 "com/example/cadmus/cadmus/internal/UrlRecord" "schemeEnd" "I" (.int p3) := F_schemeEnd_a1_8.other W9 (Or.inr (slot_ne (Or.inr (hw _ (List.mem_of_getElem? (i := 40) rfl))) (Or.inr (hw _ (List.mem_of_getElem? (i := 52) rfl))) (by decide) (t := .int) (t' := .int) (by decide) (by decide)))
  have F_usernameEnd_a1_9 : Fld Z h9 a1 "com/example/cadmus/cadmus/internal/UrlRecord" "usernameEnd" "I" (.int p4) := F_usernameEnd_a1_8.other W9 (Or.inr (slot_ne (Or.inr (hw _ (List.mem_of_getElem? (i := 42) rfl))) (Or.inr (hw _ (List.mem_of_getElem? (i := 52) rfl))) (by decide) (t := .int) (t' := .int) (by decide) (by decide)))
  have F_hostStart_a1_9 : Fld Z h9 a1 "com/example/cadmus/cadmus/internal/UrlRecord" "hostStart" "I" (.int p5) := F_hostStart_a1_8.other W9 (Or.inr (slot_ne (Or.inr (hw _ (List.mem_of_getElem? (i := 44) rfl))) (Or.inr (hw _ (List.mem_of_getElem? (i := 52) rfl))) (by decide) (t := .int) (t' := .int) (by decide) (by decide)))
  have F_hostEnd_a1_9 : Fld Z h9 a1 "com/example/cadmus/cadmus/internal/UrlRecord" "hostEnd" "I" (.int p6) := F_hostEnd_a1_8.other W9 (Or.inr (slot_ne (Or.inr (hw _ (List.mem_of_getElem? (i := 46) rfl))) (Or.inr (hw _ (List.mem_of_getElem? (i := 52) rfl))) (by decide) (t := .int) (t' := .int) (by decide) (by decide)))
  have F_pathStart_a1_9 : Fld Z h9 a1 "com/example/cadmus/cadmus/internal/UrlRecord" "pathStart" "I" (.int p7) := F_pathStart_a1_8.other W9 (Or.inr (slot_ne (Or.inr (hw _ (List.mem_of_getElem? (i := 48) rfl))) (Or.inr (hw _ (List.mem_of_getElem? (i := 52) rfl))) (by decide) (t := .int) (t' := .int) (by decide) (by decide)))
  have F_queryStart_a1_9 : Fld Z h9 a1 "com/example/cadmus/cadmus/internal/UrlRecord" "queryStart" "I" (.int p8) := F_queryStart_a1_8.other W9 (Or.inr (slot_ne (Or.inr (hw _ (List.mem_of_getElem? (i := 50) rfl))) (Or.inr (hw _ (List.mem_of_getElem? (i := 52) rfl))) (by decide) (t := .int) (t' := .int) (by decide) (by decide)))
  have K9 := K8.wr W9 (Or.inl (List.mem_of_getElem? (i := 0) rfl))
  have Zs9 := Nat.le_trans Zs8 (Keep.of_wr W9).1
  have N9 := Fr.snoc X9 N8 g_a1
  have F_fragmentStart_a1_9 : Fld Z h9 a1 "com/example/cadmus/cadmus/internal/UrlRecord" "fragmentStart" "I" (.int p9) := F_fragmentStart_a1_8.same W9
  obtain ⟨fs, hr, hrun, hended, hW, hsame⟩ := X9.leave (v := none) (fun _ => rfl)
  refine ⟨_, _, pre0 _ ?_, hrun, hended, _, _, rfl, ?_, ⟨_, rfl⟩, hW, hsame.mono (by decide) (by decide)⟩
  · show Steps p.tables e below (s₁.setTop (mkF m 0 #[.val (.ref a1), .val (.ref a2), .val (.int p3), .val (.int p4), .val (.int p5), .val (.int p6), .val (.int p7), .val (.int p8), .val (.int p9)] [])) _
    refine XS.aloadN X0.here hx rfl (hb hby d7_0) rfl rfl ?_
    show Steps p.tables e below (s₁.setTop (mkF m 1 #[.val (.ref a1), .val (.ref a2), .val (.int p3), .val (.int p4), .val (.int p5), .val (.int p6), .val (.int p7), .val (.int p8), .val (.int p9)] [(.ref a1)])) _
    refine st1 _ ?_
    show Steps p.tables e below (T1.setTop (mkF m 4 #[.val (.ref a1), .val (.ref a2), .val (.int p3), .val (.int p4), .val (.int p5), .val (.int p6), .val (.int p7), .val (.int p8), .val (.int p9)] [])) _
    refine XS.aloadN X1.here hx rfl (hb hby d7_4) rfl rfl ?_
    show Steps p.tables e below (T1.setTop (mkF m 5 #[.val (.ref a1), .val (.ref a2), .val (.int p3), .val (.int p4), .val (.int p5), .val (.int p6), .val (.int p7), .val (.int p8), .val (.int p9)] [(.ref a1)])) _
    refine XS.aloadN X1.here hx rfl (hb hby d7_5) rfl rfl ?_
    show Steps p.tables e below (T1.setTop (mkF m 6 #[.val (.ref a1), .val (.ref a2), .val (.int p3), .val (.int p4), .val (.int p5), .val (.int p6), .val (.int p7), .val (.int p8), .val (.int p9)] [(.ref a2), (.ref a1)])) _
    refine st2 _ ?_
    show Steps p.tables e below (T2.setTop (mkF m 9 #[.val (.ref a1), .val (.ref a2), .val (.int p3), .val (.int p4), .val (.int p5), .val (.int p6), .val (.int p7), .val (.int p8), .val (.int p9)] [])) _
    refine XS.aloadN X2.here hx rfl (hb hby d7_9) rfl rfl ?_
    show Steps p.tables e below (T2.setTop (mkF m 10 #[.val (.ref a1), .val (.ref a2), .val (.int p3), .val (.int p4), .val (.int p5), .val (.int p6), .val (.int p7), .val (.int p8), .val (.int p9)] [(.ref a1)])) _
    refine XS.iloadN X2.here hx rfl (hb hby d7_10) rfl ?_
    show Steps p.tables e below (T2.setTop (mkF m 11 #[.val (.ref a1), .val (.ref a2), .val (.int p3), .val (.int p4), .val (.int p5), .val (.int p6), .val (.int p7), .val (.int p8), .val (.int p9)] [(.int p3), (.ref a1)])) _
    refine st3 _ ?_
    show Steps p.tables e below (T3.setTop (mkF m 14 #[.val (.ref a1), .val (.ref a2), .val (.int p3), .val (.int p4), .val (.int p5), .val (.int p6), .val (.int p7), .val (.int p8), .val (.int p9)] [])) _
    refine XS.aloadN X3.here hx rfl (hb hby d7_14) rfl rfl ?_
    show Steps p.tables e below (T3.setTop (mkF m 15 #[.val (.ref a1), .val (.ref a2), .val (.int p3), .val (.int p4), .val (.int p5), .val (.int p6), .val (.int p7), .val (.int p8), .val (.int p9)] [(.ref a1)])) _
    refine XS.iloadN X3.here hx rfl (hb hby d7_15) rfl ?_
    show Steps p.tables e below (T3.setTop (mkF m 16 #[.val (.ref a1), .val (.ref a2), .val (.int p3), .val (.int p4), .val (.int p5), .val (.int p6), .val (.int p7), .val (.int p8), .val (.int p9)] [(.int p4), (.ref a1)])) _
    refine st4 _ ?_
    show Steps p.tables e below (T4.setTop (mkF m 19 #[.val (.ref a1), .val (.ref a2), .val (.int p3), .val (.int p4), .val (.int p5), .val (.int p6), .val (.int p7), .val (.int p8), .val (.int p9)] [])) _
    refine XS.aloadN X4.here hx rfl (hb hby d7_19) rfl rfl ?_
    show Steps p.tables e below (T4.setTop (mkF m 20 #[.val (.ref a1), .val (.ref a2), .val (.int p3), .val (.int p4), .val (.int p5), .val (.int p6), .val (.int p7), .val (.int p8), .val (.int p9)] [(.ref a1)])) _
    refine XS.iload X4.here hx rfl (hb hby d7_20) rfl ?_
    show Steps p.tables e below (T4.setTop (mkF m 22 #[.val (.ref a1), .val (.ref a2), .val (.int p3), .val (.int p4), .val (.int p5), .val (.int p6), .val (.int p7), .val (.int p8), .val (.int p9)] [(.int p5), (.ref a1)])) _
    refine st5 _ ?_
    show Steps p.tables e below (T5.setTop (mkF m 25 #[.val (.ref a1), .val (.ref a2), .val (.int p3), .val (.int p4), .val (.int p5), .val (.int p6), .val (.int p7), .val (.int p8), .val (.int p9)] [])) _
    refine XS.aloadN X5.here hx rfl (hb hby d7_25) rfl rfl ?_
    show Steps p.tables e below (T5.setTop (mkF m 26 #[.val (.ref a1), .val (.ref a2), .val (.int p3), .val (.int p4), .val (.int p5), .val (.int p6), .val (.int p7), .val (.int p8), .val (.int p9)] [(.ref a1)])) _
    refine XS.iload X5.here hx rfl (hb hby d7_26) rfl ?_
    show Steps p.tables e below (T5.setTop (mkF m 28 #[.val (.ref a1), .val (.ref a2), .val (.int p3), .val (.int p4), .val (.int p5), .val (.int p6), .val (.int p7), .val (.int p8), .val (.int p9)] [(.int p6), (.ref a1)])) _
    refine st6 _ ?_
    show Steps p.tables e below (T6.setTop (mkF m 31 #[.val (.ref a1), .val (.ref a2), .val (.int p3), .val (.int p4), .val (.int p5), .val (.int p6), .val (.int p7), .val (.int p8), .val (.int p9)] [])) _
    refine XS.aloadN X6.here hx rfl (hb hby d7_31) rfl rfl ?_
    show Steps p.tables e below (T6.setTop (mkF m 32 #[.val (.ref a1), .val (.ref a2), .val (.int p3), .val (.int p4), .val (.int p5), .val (.int p6), .val (.int p7), .val (.int p8), .val (.int p9)] [(.ref a1)])) _
    refine XS.iload X6.here hx rfl (hb hby d7_32) rfl ?_
    show Steps p.tables e below (T6.setTop (mkF m 34 #[.val (.ref a1), .val (.ref a2), .val (.int p3), .val (.int p4), .val (.int p5), .val (.int p6), .val (.int p7), .val (.int p8), .val (.int p9)] [(.int p7), (.ref a1)])) _
    refine st7 _ ?_
    show Steps p.tables e below (T7.setTop (mkF m 37 #[.val (.ref a1), .val (.ref a2), .val (.int p3), .val (.int p4), .val (.int p5), .val (.int p6), .val (.int p7), .val (.int p8), .val (.int p9)] [])) _
    refine XS.aloadN X7.here hx rfl (hb hby d7_37) rfl rfl ?_
    show Steps p.tables e below (T7.setTop (mkF m 38 #[.val (.ref a1), .val (.ref a2), .val (.int p3), .val (.int p4), .val (.int p5), .val (.int p6), .val (.int p7), .val (.int p8), .val (.int p9)] [(.ref a1)])) _
    refine XS.iload X7.here hx rfl (hb hby d7_38) rfl ?_
    show Steps p.tables e below (T7.setTop (mkF m 40 #[.val (.ref a1), .val (.ref a2), .val (.int p3), .val (.int p4), .val (.int p5), .val (.int p6), .val (.int p7), .val (.int p8), .val (.int p9)] [(.int p8), (.ref a1)])) _
    refine st8 _ ?_
    show Steps p.tables e below (T8.setTop (mkF m 43 #[.val (.ref a1), .val (.ref a2), .val (.int p3), .val (.int p4), .val (.int p5), .val (.int p6), .val (.int p7), .val (.int p8), .val (.int p9)] [])) _
    refine XS.aloadN X8.here hx rfl (hb hby d7_43) rfl rfl ?_
    show Steps p.tables e below (T8.setTop (mkF m 44 #[.val (.ref a1), .val (.ref a2), .val (.int p3), .val (.int p4), .val (.int p5), .val (.int p6), .val (.int p7), .val (.int p8), .val (.int p9)] [(.ref a1)])) _
    refine XS.iload X8.here hx rfl (hb hby d7_44) rfl ?_
    show Steps p.tables e below (T8.setTop (mkF m 46 #[.val (.ref a1), .val (.ref a2), .val (.int p3), .val (.int p4), .val (.int p5), .val (.int p6), .val (.int p7), .val (.int p8), .val (.int p9)] [(.int p9), (.ref a1)])) _
    refine st9 _ ?_
    show Steps p.tables e below (T9.setTop (mkF m 49 #[.val (.ref a1), .val (.ref a2), .val (.int p3), .val (.int p4), .val (.int p5), .val (.int p6), .val (.int p7), .val (.int p8), .val (.int p9)] [])) _
    exact X9.returnOut hx Bd.returns (hb hby d7_49) hr
  · show Q7 Z a1 a2 p3 p4 p5 p6 p7 p8 p9 h0 n0 _ T9.heap _
    rw [e9]
    exact ⟨rfl, N9, K9, E_a1_9, F_schemeEnd_a1_9, F_usernameEnd_a1_9, F_hostStart_a1_9, F_hostEnd_a1_9, F_pathStart_a1_9, F_queryStart_a1_9, F_fragmentStart_a1_9⟩
theorem d8_0 : decode prog_30_method_14_code 0 = .ok (.aload_n 0, 1) := by decide +kernel
theorem d8_1 : decode prog_30_method_14_code 1 = .ok (.getfield 20, 3) := by decide +kernel
theorem d8_4 : decode prog_30_method_14_code 4 = .ok (.aload_n 0, 1) := by decide +kernel
theorem d8_5 : decode prog_30_method_14_code 5 = .ok (.getfield 13, 3) := by decide +kernel
theorem d8_8 : decode prog_30_method_14_code 8 = .ok (.iconst 3, 1) := by decide +kernel
theorem d8_9 : decode prog_30_method_14_code 9 = .ok (.iadd, 1) := by decide +kernel
theorem d8_10 : decode prog_30_method_14_code 10 = .ok (.if_icmp .le 7, 3) := by decide +kernel
theorem d8_13 : decode prog_30_method_14_code 13 = .ok (.iconst 1, 1) := by decide +kernel
theorem d8_14 : decode prog_30_method_14_code 14 = .ok (.goto 4, 3) := by decide +kernel
theorem d8_17 : decode prog_30_method_14_code 17 = .ok (.iconst 0, 1) := by decide +kernel
theorem d8_18 : decode prog_30_method_14_code 18 = .ok (.ireturn, 1) := by decide +kernel
theorem pn_8 : plainName "com/example/cadmus/cadmus/internal/UrlRecord" = true := by first | (simp [plainName, overriddenIn]; done) | decide +kernel
theorem ef_8 (m : MethodId) (a1 : Addr) : entryFrame m #[(.ref a1)] 1 = mkF m 0 #[.val (.ref a1)] [] := by first | (simp [entryFrame, mkF, argsToLocals, Value.category]; done) | rfl
def f8 (f_hostStart_a1 : Int32) (f_schemeEnd_a1 : Int32) : Int32 :=
  (nar .boolean (if (f_schemeEnd_a1 + (3 : Int32)) < f_hostStart_a1 then (1 : Int32) else (0 : Int32)))
def Q8 (Z : State) (a1 : Addr) (f_hostStart_a1 : Int32) (f_schemeEnd_a1 : Int32) (h0 : Heap) (n0 : Nat) (v : Option Value) (h : Heap) (L : List Loc) : Prop := v = some (.int (f8 f_hostStart_a1 f_schemeEnd_a1)) ∧ Fr n0 L ∧ h = h0
set_option maxRecDepth 65536 in
set_option maxHeartbeats 40000000 in
theorem rm8 (l : Launch) (Z : State) (a0 : Array Value) (hw : ∀ d ∈ tables_1, d.before a0 Z = true) (ws : List Jvm.Cond) (a1 : Addr) (f_hostStart_a1 : Int32) (f_schemeEnd_a1 : Int32) (h0 : Heap) (n0 : Nat) (Z0 : n0 ≤ h0.size) (F_hostStart_a1 : Fld Z h0 a1 "com/example/cadmus/cadmus/internal/UrlRecord" "hostStart" "I" (.int f_hostStart_a1)) (F_schemeEnd_a1 : Fld Z h0 a1 "com/example/cadmus/cadmus/internal/UrlRecord" "schemeEnd" "I" (.int f_schemeEnd_a1)) :
    MetFree l (⟨"com/example/cadmus/cadmus/internal/UrlRecord", "hasCredentials", "()Z"⟩ : MethodName) (head1 (Jvm.Cond.code (⟨"com/example/cadmus/cadmus/internal/UrlRecord", "hasCredentials", "()Z"⟩ : MethodName) prog_30_method_14_code 1 (some .boolean) :: ws) ({ frames := 0, cells := 0, slots := 0, locals := 0 } : Room)) (fun a U => a = #[(.ref a1)] ∧ Z.Warmed39 U.vm ∧ U.heap = h0) (fun _ _ _ _ _ => True) (fun _ U o U' => ∃ v L, o = .returned v ∧ Q8 Z a1 f_hostStart_a1 f_schemeEnd_a1 h0 n0 v U'.heap L ∧ FrameEnd U o U' L ({ frames := 0, cells := 0, slots := 0, locals := 0 } : Room).cells ({ frames := 0, cells := 0, slots := 0, locals := 0 } : Room).slots) := by
  refine MetFree.of_bodySF (plainFor_of_name pn_8) hisR ?_
  intro p e s m args below meth c s₁ Bd hml0 hP hK
  obtain ⟨rfl, hZ, hh⟩ := hP
  have hx := Bd.exec
  have hby := Bd.bytes
  have hml : c.maxLocals = 1 := hml0
  have hown : s.vm.findClass "com/example/cadmus/cadmus/internal/UrlRecord" = some m.cls := findClass_of_methodNamed Bd.named
  have hnm := (name_of_methodNamed Bd.named Bd.method).1
  have X0 : Stand p l e ({ frames := 0, cells := 0, slots := 0, locals := 0 } : Room) s m #[(.ref a1)] below meth c s₁ [] 0 0 := Stand.of_body Bd
  have e0 : s₁.heap = h0 := by rw [← hh, Bd.state]; rfl
  have N0 := Fr.nil n0
  have pre0 : ∀ t, Steps p.tables e below (s₁.setTop (mkF m 0 #[.val (.ref a1)] [])) t → Steps p.tables e below (s₁.setTop (entryFrame m #[(.ref a1)] 1)) t := fun t k => castTop (ef_8 m a1) k
  obtain ⟨T1, X1, e1, st1⟩ := getF X0 hx hZ hown (host := "") (Or.inl (hw _ (List.mem_of_getElem? (i := 43) rfl))) Via.refl e0 F_hostStart_a1 (g := (mkF m 1 #[.val (.ref a1)] [(.ref a1)])) rfl rfl (hb hby d8_1)
  obtain ⟨T2, X2, e2, st2⟩ := getF X1 hx hZ hown (host := "") (Or.inl (hw _ (List.mem_of_getElem? (i := 39) rfl))) Via.refl e1 F_schemeEnd_a1 (g := (mkF m 5 #[.val (.ref a1)] [(.ref a1), (.int f_hostStart_a1)])) rfl rfl (hb hby d8_5)
  obtain ⟨v4, hv4⟩ : ∃ z : Int32, z = (if (f_schemeEnd_a1 + (3 : Int32)) < f_hostStart_a1 then (1 : Int32) else (0 : Int32)) := ⟨_, rfl⟩
  have pre5 : ∀ t, Steps p.tables e below (T2.setTop (mkF m 18 #[.val (.ref a1)] [(.int v4)])) t → Steps p.tables e below (s₁.setTop (entryFrame m #[(.ref a1)] 1)) t := fun t k => pre0 t (by
    show Steps p.tables e below (s₁.setTop (mkF m 0 #[.val (.ref a1)] [])) _
    refine XS.aloadN X0.here hx rfl (hb hby d8_0) rfl rfl ?_
    show Steps p.tables e below (s₁.setTop (mkF m 1 #[.val (.ref a1)] [(.ref a1)])) _
    refine st1 _ ?_
    show Steps p.tables e below (T1.setTop (mkF m 4 #[.val (.ref a1)] [(.int f_hostStart_a1)])) _
    refine XS.aloadN X1.here hx rfl (hb hby d8_4) rfl rfl ?_
    show Steps p.tables e below (T1.setTop (mkF m 5 #[.val (.ref a1)] [(.ref a1), (.int f_hostStart_a1)])) _
    refine st2 _ ?_
    show Steps p.tables e below (T2.setTop (mkF m 8 #[.val (.ref a1)] [(.int f_schemeEnd_a1), (.int f_hostStart_a1)])) _
    refine XS.iconst X2.here hx rfl (hb hby d8_8) ?_
    show Steps p.tables e below (T2.setTop (mkF m 9 #[.val (.ref a1)] [(.int (3 : Int32)), (.int f_schemeEnd_a1), (.int f_hostStart_a1)])) _
    refine XS.iadd X2.here hx rfl (hb hby d8_9) rfl ?_
    show Steps p.tables e below (T2.setTop (mkF m 10 #[.val (.ref a1)] [(.int (f_schemeEnd_a1 + (3 : Int32))), (.int f_hostStart_a1)])) _
    by_cases hc3 : (f_schemeEnd_a1 + (3 : Int32)) < f_hostStart_a1
    · refine XS.icmpNo X2.here hx rfl (hb hby d8_10) rfl (tlt hc3).2.2.2 ?_
      show Steps p.tables e below (T2.setTop (mkF m 13 #[.val (.ref a1)] [])) _
      refine XS.iconst X2.here hx rfl (hb hby d8_13) ?_
      show Steps p.tables e below (T2.setTop (mkF m 14 #[.val (.ref a1)] [(.int (1 : Int32))])) _
      refine XS.goto X2.here hx rfl (pc0 := 14) (pc' := 18) rfl (hb hby d8_14) (by decide) (by decide) ?_
      rw [show v4 = (1 : Int32) from hv4.trans (if_pos hc3)] at k
      exact k
    · refine XS.icmpYes X2.here hx rfl (pc0 := 10) (pc' := 17) rfl (hb hby d8_10) rfl (flt hc3).2.2.2 (by decide) (by decide) ?_
      show Steps p.tables e below (T2.setTop (mkF m 17 #[.val (.ref a1)] [])) _
      refine XS.iconst X2.here hx rfl (hb hby d8_17) ?_
      rw [show v4 = (0 : Int32) from hv4.trans (if_neg hc3)] at k
      exact k)
  have er : (f8 f_hostStart_a1 f_schemeEnd_a1) = (nar .boolean v4) := by subst hv4; exact rfl
  obtain ⟨fs, hr, hrun, hended, hW, hsame⟩ := X2.leave (v := some (.int (nar .boolean v4))) (fun h => by rw [Bd.returns] at h; cases h)
  refine ⟨_, _, pre5 _ ?_, hrun, hended, _, _, rfl, ?_, ⟨_, rfl⟩, hW, hsame.mono (by decide) (by decide)⟩
  · show Steps p.tables e below (T2.setTop (mkF m 18 #[.val (.ref a1)] [(.int v4)])) _
    exact retN X2 hx (t := .boolean) Bd.returns (by simp) (hb hby d8_18) hr
  · show Q8 Z a1 f_hostStart_a1 f_schemeEnd_a1 h0 n0 _ T2.heap _
    rw [e2]
    exact ⟨congrArg (fun z => some (Value.int z)) er.symm, N0, rfl⟩
theorem pd_0 : parseMethodDescriptor "([C)V" = some ⟨[(.array .char)], none⟩ := by decide +kernel
theorem pd_1 : parseMethodDescriptor "(Ljava/lang/String;IIIIIII)V" = some ⟨[(.object "java/lang/String"), .int, .int, .int, .int, .int, .int, .int], none⟩ := by decide +kernel
theorem pd_2 : parseMethodDescriptor "()Z" = some ⟨[], some .boolean⟩ := by decide +kernel
theorem pn_0 : plainName "com/example/cadmus/cadmus/internal/UrlRecordHasCredentialsPinLaw" = true := by first | (simp [plainName, overriddenIn]; done) | decide +kernel
theorem ef_0 (m : MethodId) (p1 : Int32) (p2 : Int32) (p3 : Int32) (p4 : Int32) (p5 : Int32) : entryFrame m #[(.int p1), (.int p2), (.int p3), (.int p4), (.int p5)] maxLocals = mkF m 0 #[.val (.int p1), .val (.int p2), .val (.int p3), .val (.int p4), .val (.int p5), .unset, .unset, .unset, .unset, .unset, .unset, .unset, .unset, .unset, .unset, .unset, .unset] [] := by first | (simp [entryFrame, mkF, argsToLocals, Value.category, maxLocals]; done) | rfl
def f0 (p1 : Int32) (p2 : Int32) (p3 : Int32) (p4 : Int32) (p5 : Int32) : Int32 :=
  let SS : Int32 := ((1 : Int32) + (p1 &&& (3 : Int32)));
  let UL : Int32 := (p2 &&& (3 : Int32));
  let PL : Int32 := (p3 &&& (3 : Int32));
  let HL : Int32 := (p4 &&& (3 : Int32));
  let v2 : Int32 := (if (p5 &&& (1 : Int32)) = (0 : Int32) then (0 : Int32) else (1 : Int32));
  let y5 : Int32 → Int32 := (fun i => if i = (0 : Int32) then (nar .char (97 : Int32)) else (fun _ => (0 : Int32)) i);
  let y7 : Int32 → Int32 := (fun i => if i = (1 : Int32) then (nar .char (97 : Int32)) else y5 i);
  let y9 : Int32 → Int32 := (fun i => if i = (2 : Int32) then (nar .char (97 : Int32)) else y7 i);
  let y11 : Int32 → Int32 := (fun i => if i = (3 : Int32) then (nar .char (97 : Int32)) else y9 i);
  let y13 : Int32 → Int32 := (fun i => if i = (4 : Int32) then (nar .char (97 : Int32)) else y11 i);
  let y15 : Int32 → Int32 := (fun i => if i = (5 : Int32) then (nar .char (97 : Int32)) else y13 i);
  let y17 : Int32 → Int32 := (fun i => if i = (6 : Int32) then (nar .char (97 : Int32)) else y15 i);
  let y19 : Int32 → Int32 := (fun i => if i = (7 : Int32) then (nar .char (97 : Int32)) else y17 i);
  let y21 : Int32 → Int32 := (fun i => if i = (8 : Int32) then (nar .char (97 : Int32)) else y19 i);
  let y23 : Int32 → Int32 := (fun i => if i = (9 : Int32) then (nar .char (97 : Int32)) else y21 i);
  let y25 : Int32 → Int32 := (fun i => if i = (10 : Int32) then (nar .char (97 : Int32)) else y23 i);
  let y27 : Int32 → Int32 := (fun i => if i = (11 : Int32) then (nar .char (97 : Int32)) else y25 i);
  let y29 : Int32 → Int32 := (fun i => if i = (12 : Int32) then (nar .char (97 : Int32)) else y27 i);
  let y31 : Int32 → Int32 := (fun i => if i = (13 : Int32) then (nar .char (97 : Int32)) else y29 i);
  let y33 : Int32 → Int32 := (fun i => if i = (14 : Int32) then (nar .char (97 : Int32)) else y31 i);
  let y35 : Int32 → Int32 := (fun i => if i = (15 : Int32) then (nar .char (97 : Int32)) else y33 i);
  let y37 : Int32 → Int32 := (fun i => if i = (16 : Int32) then (nar .char (97 : Int32)) else y35 i);
  let y39 : Int32 → Int32 := (fun i => if i = (17 : Int32) then (nar .char (97 : Int32)) else y37 i);
  let y41 : Int32 → Int32 := (fun i => if i = (18 : Int32) then (nar .char (97 : Int32)) else y39 i);
  let y43 : Int32 → Int32 := (fun i => if i = (19 : Int32) then (nar .char (97 : Int32)) else y41 i);
  let y45 : Int32 → Int32 := (fun i => if i = SS then (nar .char (58 : Int32)) else y43 i);
  let v50 : Int32 := (if v2 = (0 : Int32) then (0 : Int32) else (if (0 : Int32) < UL then (1 : Int32) else (if (0 : Int32) < PL then (1 : Int32) else (0 : Int32))));
  let v80 : Int32 := (if v2 = (0 : Int32) then (SS + (1 : Int32)) else (if v50 = (0 : Int32) then (SS + (3 : Int32)) else ((SS + (3 : Int32)) + UL)));
  let v81 : Int32 := (if v2 = (0 : Int32) then (SS + (1 : Int32)) else (if v50 = (0 : Int32) then (SS + (3 : Int32)) else ((if (0 : Int32) < PL then ((((SS + (3 : Int32)) + UL) + (1 : Int32)) + PL) else ((SS + (3 : Int32)) + UL)) + (1 : Int32))));
  let v82 : Int32 := (if v2 = (0 : Int32) then (SS + (1 : Int32)) else ((if v50 = (0 : Int32) then (SS + (3 : Int32)) else ((if (0 : Int32) < PL then ((((SS + (3 : Int32)) + UL) + (1 : Int32)) + PL) else ((SS + (3 : Int32)) + UL)) + (1 : Int32))) + HL));
  let sl83 : Slot := (if v2 = (0 : Int32) then (.unset : Slot) else (.val (.int ((SS + (3 : Int32)) + UL)) : Slot));
  let sl84 : Slot := (if v2 = (0 : Int32) then (.unset : Slot) else ((if v50 = (0 : Int32) then (.unset : Slot) else (.val (.int (if (0 : Int32) < PL then ((((SS + (3 : Int32)) + UL) + (1 : Int32)) + PL) else ((SS + (3 : Int32)) + UL))) : Slot)) : Slot));
  let y86 : Int32 → Int32 := (if v2 = (0 : Int32) then y45 else (if v50 = (0 : Int32) then (fun i => if i = (SS + (2 : Int32)) then (nar .char (47 : Int32)) else (fun i => if i = (SS + (1 : Int32)) then (nar .char (47 : Int32)) else y45 i) i) else (fun i => if i = (if (0 : Int32) < PL then ((((SS + (3 : Int32)) + UL) + (1 : Int32)) + PL) else ((SS + (3 : Int32)) + UL)) then (nar .char (64 : Int32)) else (if (0 : Int32) < PL then (fun i => if i = ((SS + (3 : Int32)) + UL) then (nar .char (58 : Int32)) else (fun i => if i = (SS + (2 : Int32)) then (nar .char (47 : Int32)) else (fun i => if i = (SS + (1 : Int32)) then (nar .char (47 : Int32)) else y45 i) i) i) else (fun i => if i = (SS + (2 : Int32)) then (nar .char (47 : Int32)) else (fun i => if i = (SS + (1 : Int32)) then (nar .char (47 : Int32)) else y45 i) i)) i)));
  let y87 : Int32 → Int32 := (fun i => if i = v82 then (nar .char (47 : Int32)) else y86 i);
  let v95 : Int32 := (if (f8 v81 SS) = v50 then (1 : Int32) else (0 : Int32));
  (nar .boolean v95)
def Q0 (Z : State) (p1 : Int32) (p2 : Int32) (p3 : Int32) (p4 : Int32) (p5 : Int32) (zc : Int32) (h0 : Heap) (n0 : Nat) (v : Option Value) (h : Heap) (L : List Loc) : Prop := v = some (.int (f0 p1 p2 p3 p4 p5)) ∧ Fr n0 L ∧ True
set_option maxRecDepth 65536 in
set_option maxHeartbeats 40000000 in
theorem rm0 (l : Launch) (Z : State) (a0 : Array Value) (hw : ∀ d ∈ tables_1, d.before a0 Z = true) (ws : List Jvm.Cond) (p1 : Int32) (p2 : Int32) (p3 : Int32) (p4 : Int32) (p5 : Int32) (zc : Int32) (h0 : Heap) (n0 : Nat) (Z0 : n0 ≤ h0.size) (S_COMPACT_STRINGS : Sta Z Z.heap "java/lang/String" "COMPACT_STRINGS" "Z" (.int zc)) (hz0 : ¬ zc = 0) (O0 : Old Z n0 h0) :
    MetFree l x (head1 (Jvm.Cond.code x code maxLocals ret :: ws) room_1) (fun a U => a = #[(.int p1), (.int p2), (.int p3), (.int p4), (.int p5)] ∧ Z.Warmed39 U.vm ∧ U.heap = h0) (fun _ _ _ _ _ => True) (fun _ U o U' => ∃ v L, o = .returned v ∧ Q0 Z p1 p2 p3 p4 p5 zc h0 n0 v U'.heap L ∧ FrameEnd U o U' L room_1.cells room_1.slots) := by
  refine MetFree.of_bodySF (plainFor_of_name pn_0) hisR ?_
  intro p e s m args below meth c s₁ Bd hml0 hP hK
  obtain ⟨rfl, hZ, hh⟩ := hP
  have hx := Bd.exec
  have hby := Bd.bytes
  have hml : c.maxLocals = 17 := hml0
  have hown : s.vm.findClass "com/example/cadmus/cadmus/internal/UrlRecordHasCredentialsPinLaw" = some m.cls := findClass_of_methodNamed Bd.named
  have hnm := (name_of_methodNamed Bd.named Bd.method).1
  have X0 : Stand p l e room_1 s m #[(.int p1), (.int p2), (.int p3), (.int p4), (.int p5)] below meth c s₁ [] 0 0 := Stand.of_body Bd
  have e0 : s₁.heap = h0 := by rw [← hh, Bd.state]; rfl
  have N0 := Fr.nil n0
  have pre0 : ∀ t, Steps p.tables e below (s₁.setTop (mkF m 0 #[.val (.int p1), .val (.int p2), .val (.int p3), .val (.int p4), .val (.int p5), .unset, .unset, .unset, .unset, .unset, .unset, .unset, .unset, .unset, .unset, .unset, .unset] [])) t → Steps p.tables e below (s₁.setTop (entryFrame m #[(.int p1), (.int p2), (.int p3), (.int p4), (.int p5)] maxLocals)) t := fun t k => castTop (ef_0 m p1 p2 p3 p4 p5) k
  have K0 := Keep.refl h0 ([] : List Addr)
  obtain ⟨SS, hSS⟩ : ∃ z : Int32, z = ((1 : Int32) + (p1 &&& (3 : Int32))) := ⟨_, rfl⟩
  obtain ⟨UL, hUL⟩ : ∃ z : Int32, z = (p2 &&& (3 : Int32)) := ⟨_, rfl⟩
  obtain ⟨PL, hPL⟩ : ∃ z : Int32, z = (p3 &&& (3 : Int32)) := ⟨_, rfl⟩
  obtain ⟨HL, hHL⟩ : ∃ z : Int32, z = (p4 &&& (3 : Int32)) := ⟨_, rfl⟩
  obtain ⟨v2, hv2⟩ : ∃ z : Int32, z = (if (p5 &&& (1 : Int32)) = (0 : Int32) then (0 : Int32) else (1 : Int32)) := ⟨_, rfl⟩
  have pre3 : ∀ t, Steps p.tables e below (s₁.setTop (mkF m 34 #[.val (.int p1), .val (.int p2), .val (.int p3), .val (.int p4), .val (.int p5), .val (.int SS), .val (.int UL), .val (.int PL), .val (.int HL), .unset, .unset, .unset, .unset, .unset, .unset, .unset, .unset] [(.int v2)])) t → Steps p.tables e below (s₁.setTop (entryFrame m #[(.int p1), (.int p2), (.int p3), (.int p4), (.int p5)] maxLocals)) t := fun t k => pre0 t (by
    show Steps p.tables e below (s₁.setTop (mkF m 0 #[.val (.int p1), .val (.int p2), .val (.int p3), .val (.int p4), .val (.int p5), .unset, .unset, .unset, .unset, .unset, .unset, .unset, .unset, .unset, .unset, .unset, .unset] [])) _
    refine XS.iconst X0.here hx rfl (hb hby at_0) ?_
    show Steps p.tables e below (s₁.setTop (mkF m 1 #[.val (.int p1), .val (.int p2), .val (.int p3), .val (.int p4), .val (.int p5), .unset, .unset, .unset, .unset, .unset, .unset, .unset, .unset, .unset, .unset, .unset, .unset] [(.int (1 : Int32))])) _
    refine XS.iloadN X0.here hx rfl (hb hby at_1) rfl ?_
    show Steps p.tables e below (s₁.setTop (mkF m 2 #[.val (.int p1), .val (.int p2), .val (.int p3), .val (.int p4), .val (.int p5), .unset, .unset, .unset, .unset, .unset, .unset, .unset, .unset, .unset, .unset, .unset, .unset] [(.int p1), (.int (1 : Int32))])) _
    refine XS.iconst X0.here hx rfl (hb hby at_2) ?_
    show Steps p.tables e below (s₁.setTop (mkF m 3 #[.val (.int p1), .val (.int p2), .val (.int p3), .val (.int p4), .val (.int p5), .unset, .unset, .unset, .unset, .unset, .unset, .unset, .unset, .unset, .unset, .unset, .unset] [(.int (3 : Int32)), (.int p1), (.int (1 : Int32))])) _
    refine XS.iand X0.here hx rfl (hb hby at_3) rfl ?_
    show Steps p.tables e below (s₁.setTop (mkF m 4 #[.val (.int p1), .val (.int p2), .val (.int p3), .val (.int p4), .val (.int p5), .unset, .unset, .unset, .unset, .unset, .unset, .unset, .unset, .unset, .unset, .unset, .unset] [(.int (p1 &&& (3 : Int32))), (.int (1 : Int32))])) _
    refine XS.iadd X0.here hx rfl (hb hby at_4) rfl ?_
    show Steps p.tables e below (s₁.setTop (mkF m 5 #[.val (.int p1), .val (.int p2), .val (.int p3), .val (.int p4), .val (.int p5), .unset, .unset, .unset, .unset, .unset, .unset, .unset, .unset, .unset, .unset, .unset, .unset] [(.int ((1 : Int32) + (p1 &&& (3 : Int32))))])) _
    rw [← hSS]
    show Steps p.tables e below (s₁.setTop (mkF m 5 #[.val (.int p1), .val (.int p2), .val (.int p3), .val (.int p4), .val (.int p5), .unset, .unset, .unset, .unset, .unset, .unset, .unset, .unset, .unset, .unset, .unset, .unset] [(.int SS)])) _
    refine XS.istore X0.here hx rfl (hb hby at_5) rfl (l' := #[.val (.int p1), .val (.int p2), .val (.int p3), .val (.int p4), .val (.int p5), .val (.int SS), .unset, .unset, .unset, .unset, .unset, .unset, .unset, .unset, .unset, .unset, .unset]) rfl ?_
    show Steps p.tables e below (s₁.setTop (mkF m 7 #[.val (.int p1), .val (.int p2), .val (.int p3), .val (.int p4), .val (.int p5), .val (.int SS), .unset, .unset, .unset, .unset, .unset, .unset, .unset, .unset, .unset, .unset, .unset] [])) _
    refine XS.iloadN X0.here hx rfl (hb hby at_7) rfl ?_
    show Steps p.tables e below (s₁.setTop (mkF m 8 #[.val (.int p1), .val (.int p2), .val (.int p3), .val (.int p4), .val (.int p5), .val (.int SS), .unset, .unset, .unset, .unset, .unset, .unset, .unset, .unset, .unset, .unset, .unset] [(.int p2)])) _
    refine XS.iconst X0.here hx rfl (hb hby at_8) ?_
    show Steps p.tables e below (s₁.setTop (mkF m 9 #[.val (.int p1), .val (.int p2), .val (.int p3), .val (.int p4), .val (.int p5), .val (.int SS), .unset, .unset, .unset, .unset, .unset, .unset, .unset, .unset, .unset, .unset, .unset] [(.int (3 : Int32)), (.int p2)])) _
    refine XS.iand X0.here hx rfl (hb hby at_9) rfl ?_
    show Steps p.tables e below (s₁.setTop (mkF m 10 #[.val (.int p1), .val (.int p2), .val (.int p3), .val (.int p4), .val (.int p5), .val (.int SS), .unset, .unset, .unset, .unset, .unset, .unset, .unset, .unset, .unset, .unset, .unset] [(.int (p2 &&& (3 : Int32)))])) _
    rw [← hUL]
    show Steps p.tables e below (s₁.setTop (mkF m 10 #[.val (.int p1), .val (.int p2), .val (.int p3), .val (.int p4), .val (.int p5), .val (.int SS), .unset, .unset, .unset, .unset, .unset, .unset, .unset, .unset, .unset, .unset, .unset] [(.int UL)])) _
    refine XS.istore X0.here hx rfl (hb hby at_10) rfl (l' := #[.val (.int p1), .val (.int p2), .val (.int p3), .val (.int p4), .val (.int p5), .val (.int SS), .val (.int UL), .unset, .unset, .unset, .unset, .unset, .unset, .unset, .unset, .unset, .unset]) rfl ?_
    show Steps p.tables e below (s₁.setTop (mkF m 12 #[.val (.int p1), .val (.int p2), .val (.int p3), .val (.int p4), .val (.int p5), .val (.int SS), .val (.int UL), .unset, .unset, .unset, .unset, .unset, .unset, .unset, .unset, .unset, .unset] [])) _
    refine XS.iloadN X0.here hx rfl (hb hby at_12) rfl ?_
    show Steps p.tables e below (s₁.setTop (mkF m 13 #[.val (.int p1), .val (.int p2), .val (.int p3), .val (.int p4), .val (.int p5), .val (.int SS), .val (.int UL), .unset, .unset, .unset, .unset, .unset, .unset, .unset, .unset, .unset, .unset] [(.int p3)])) _
    refine XS.iconst X0.here hx rfl (hb hby at_13) ?_
    show Steps p.tables e below (s₁.setTop (mkF m 14 #[.val (.int p1), .val (.int p2), .val (.int p3), .val (.int p4), .val (.int p5), .val (.int SS), .val (.int UL), .unset, .unset, .unset, .unset, .unset, .unset, .unset, .unset, .unset, .unset] [(.int (3 : Int32)), (.int p3)])) _
    refine XS.iand X0.here hx rfl (hb hby at_14) rfl ?_
    show Steps p.tables e below (s₁.setTop (mkF m 15 #[.val (.int p1), .val (.int p2), .val (.int p3), .val (.int p4), .val (.int p5), .val (.int SS), .val (.int UL), .unset, .unset, .unset, .unset, .unset, .unset, .unset, .unset, .unset, .unset] [(.int (p3 &&& (3 : Int32)))])) _
    rw [← hPL]
    show Steps p.tables e below (s₁.setTop (mkF m 15 #[.val (.int p1), .val (.int p2), .val (.int p3), .val (.int p4), .val (.int p5), .val (.int SS), .val (.int UL), .unset, .unset, .unset, .unset, .unset, .unset, .unset, .unset, .unset, .unset] [(.int PL)])) _
    refine XS.istore X0.here hx rfl (hb hby at_15) rfl (l' := #[.val (.int p1), .val (.int p2), .val (.int p3), .val (.int p4), .val (.int p5), .val (.int SS), .val (.int UL), .val (.int PL), .unset, .unset, .unset, .unset, .unset, .unset, .unset, .unset, .unset]) rfl ?_
    show Steps p.tables e below (s₁.setTop (mkF m 17 #[.val (.int p1), .val (.int p2), .val (.int p3), .val (.int p4), .val (.int p5), .val (.int SS), .val (.int UL), .val (.int PL), .unset, .unset, .unset, .unset, .unset, .unset, .unset, .unset, .unset] [])) _
    refine XS.iloadN X0.here hx rfl (hb hby at_17) rfl ?_
    show Steps p.tables e below (s₁.setTop (mkF m 18 #[.val (.int p1), .val (.int p2), .val (.int p3), .val (.int p4), .val (.int p5), .val (.int SS), .val (.int UL), .val (.int PL), .unset, .unset, .unset, .unset, .unset, .unset, .unset, .unset, .unset] [(.int p4)])) _
    refine XS.iconst X0.here hx rfl (hb hby at_18) ?_
    show Steps p.tables e below (s₁.setTop (mkF m 19 #[.val (.int p1), .val (.int p2), .val (.int p3), .val (.int p4), .val (.int p5), .val (.int SS), .val (.int UL), .val (.int PL), .unset, .unset, .unset, .unset, .unset, .unset, .unset, .unset, .unset] [(.int (3 : Int32)), (.int p4)])) _
    refine XS.iand X0.here hx rfl (hb hby at_19) rfl ?_
    show Steps p.tables e below (s₁.setTop (mkF m 20 #[.val (.int p1), .val (.int p2), .val (.int p3), .val (.int p4), .val (.int p5), .val (.int SS), .val (.int UL), .val (.int PL), .unset, .unset, .unset, .unset, .unset, .unset, .unset, .unset, .unset] [(.int (p4 &&& (3 : Int32)))])) _
    rw [← hHL]
    show Steps p.tables e below (s₁.setTop (mkF m 20 #[.val (.int p1), .val (.int p2), .val (.int p3), .val (.int p4), .val (.int p5), .val (.int SS), .val (.int UL), .val (.int PL), .unset, .unset, .unset, .unset, .unset, .unset, .unset, .unset, .unset] [(.int HL)])) _
    refine XS.istore X0.here hx rfl (hb hby at_20) rfl (l' := #[.val (.int p1), .val (.int p2), .val (.int p3), .val (.int p4), .val (.int p5), .val (.int SS), .val (.int UL), .val (.int PL), .val (.int HL), .unset, .unset, .unset, .unset, .unset, .unset, .unset, .unset]) rfl ?_
    show Steps p.tables e below (s₁.setTop (mkF m 22 #[.val (.int p1), .val (.int p2), .val (.int p3), .val (.int p4), .val (.int p5), .val (.int SS), .val (.int UL), .val (.int PL), .val (.int HL), .unset, .unset, .unset, .unset, .unset, .unset, .unset, .unset] [])) _
    refine XS.iload X0.here hx rfl (hb hby at_22) rfl ?_
    show Steps p.tables e below (s₁.setTop (mkF m 24 #[.val (.int p1), .val (.int p2), .val (.int p3), .val (.int p4), .val (.int p5), .val (.int SS), .val (.int UL), .val (.int PL), .val (.int HL), .unset, .unset, .unset, .unset, .unset, .unset, .unset, .unset] [(.int p5)])) _
    refine XS.iconst X0.here hx rfl (hb hby at_24) ?_
    show Steps p.tables e below (s₁.setTop (mkF m 25 #[.val (.int p1), .val (.int p2), .val (.int p3), .val (.int p4), .val (.int p5), .val (.int SS), .val (.int UL), .val (.int PL), .val (.int HL), .unset, .unset, .unset, .unset, .unset, .unset, .unset, .unset] [(.int (1 : Int32)), (.int p5)])) _
    refine XS.iand X0.here hx rfl (hb hby at_25) rfl ?_
    show Steps p.tables e below (s₁.setTop (mkF m 26 #[.val (.int p1), .val (.int p2), .val (.int p3), .val (.int p4), .val (.int p5), .val (.int SS), .val (.int UL), .val (.int PL), .val (.int HL), .unset, .unset, .unset, .unset, .unset, .unset, .unset, .unset] [(.int (p5 &&& (1 : Int32)))])) _
    by_cases hc1 : (p5 &&& (1 : Int32)) = (0 : Int32)
    · refine XS.ifYes X0.here hx rfl (pc0 := 26) (pc' := 33) rfl (hb hby at_26) rfl ((if0 _ _).trans (teq hc1).1) (by decide) (by decide) ?_
      show Steps p.tables e below (s₁.setTop (mkF m 33 #[.val (.int p1), .val (.int p2), .val (.int p3), .val (.int p4), .val (.int p5), .val (.int SS), .val (.int UL), .val (.int PL), .val (.int HL), .unset, .unset, .unset, .unset, .unset, .unset, .unset, .unset] [])) _
      refine XS.iconst X0.here hx rfl (hb hby at_33) ?_
      rw [show v2 = (0 : Int32) from hv2.trans (if_pos hc1)] at k
      exact k
    · refine XS.ifNo X0.here hx rfl (hb hby at_26) rfl ((if0 _ _).trans (feq hc1).1) ?_
      show Steps p.tables e below (s₁.setTop (mkF m 29 #[.val (.int p1), .val (.int p2), .val (.int p3), .val (.int p4), .val (.int p5), .val (.int SS), .val (.int UL), .val (.int PL), .val (.int HL), .unset, .unset, .unset, .unset, .unset, .unset, .unset, .unset] [])) _
      refine XS.iconst X0.here hx rfl (hb hby at_29) ?_
      show Steps p.tables e below (s₁.setTop (mkF m 30 #[.val (.int p1), .val (.int p2), .val (.int p3), .val (.int p4), .val (.int p5), .val (.int SS), .val (.int UL), .val (.int PL), .val (.int HL), .unset, .unset, .unset, .unset, .unset, .unset, .unset, .unset] [(.int (1 : Int32))])) _
      refine XS.goto X0.here hx rfl (pc0 := 30) (pc' := 34) rfl (hb hby at_30) (by decide) (by decide) ?_
      rw [show v2 = (1 : Int32) from hv2.trans (if_neg hc1)] at k
      exact k)
  obtain ⟨T4, h4, k4, X4, e4, E4, Ax4, st4⟩ := newP X0 hx hZ (hw _ (List.mem_of_getElem? (i := 0) rfl)) e0 (g := (mkF m 38 #[.val (.int p1), .val (.int p2), .val (.int p3), .val (.int p4), .val (.int p5), .val (.int SS), .val (.int UL), .val (.int PL), .val (.int HL), .val (.int v2), .unset, .unset, .unset, .unset, .unset, .unset, .unset] [(.int (20 : Int32))])) rfl (hb hby at_38) rfl (by decide) (cap := 20) (by decide) (by decide) (by decide) (by decide)
  obtain ⟨b4, g4⟩ : ∃ z, z = h0.size := ⟨_, rfl⟩
  rw [← g4] at Ax4 st4
  have g_b4 : n0 ≤ b4 := Nat.le_trans Z0 (Nat.le_of_eq g4.symm)
  have sz_b4 : h0.size ≤ b4 := Nat.le_trans K0.1 (Nat.le_of_eq g4.symm)
  have K4 := K0.ext E4
  have Zs4 := Nat.le_trans Z0 E4.1
  have O4 := O0.ext E4
  have A_b4_4 : own_A Z h4 b4 .char (20 : Int32) (fun i => .int ((fun _ => (0 : Int32)) i)) := own_A_new Ax4 (by decide)
  have P_b4_4 : own_P (fun _ => (0 : Int32)) := own_P0
  obtain ⟨cl6, Ar6, Sz6, Mz6, Hz6⟩ := id A_b4_4
  have hin5 := inb_of (j := (0 : Int32)) Sz6 ⟨by decide, by decide⟩
  obtain ⟨T5, h5, X5, e5, W5, st5⟩ := stC X4 hx hZ e4 Ar6 (j := (0 : Int32)) hin5 (g := (mkF m 44 #[.val (.int p1), .val (.int p2), .val (.int p3), .val (.int p4), .val (.int p5), .val (.int SS), .val (.int UL), .val (.int PL), .val (.int HL), .val (.int v2), .unset, .unset, .unset, .unset, .unset, .unset, .unset] [(.int (97 : Int32)), (.int (0 : Int32)), (.ref b4), (.ref b4)])) rfl rfl (hb hby at_44)
  obtain ⟨y5, hy5⟩ : ∃ yy_ : Int32 → Int32, yy_ = fun i => if i = (0 : Int32) then (nar .char (97 : Int32)) else (fun _ => (0 : Int32)) i := ⟨_, rfl⟩
  have K5 := K4.wr W5 (Or.inr sz_b4)
  have Zs5 := Nat.le_trans Zs4 (Keep.of_wr W5).1
  have N5 := Fr.snoc X5 N0 g_b4
  have O5 := O4.wr W5 g_b4
  have A_b4_5 : own_A Z h5 b4 .char (20 : Int32) (fun i => .int (y5 i)) := by subst hy5; exact own_A_set Ar6 Sz6 Mz6 Hz6 hin5 W5 (own_setI (y := (fun _ => (0 : Int32))) (j := (0 : Int32)) (x := (nar .char (97 : Int32)))) (own_setI' (y := (fun _ => (0 : Int32))) (j := (0 : Int32)) (x := (nar .char (97 : Int32))))
  have P_b4_5 : own_P y5 := by subst hy5; exact own_P_set P_b4_4 (by decide)
  obtain ⟨cl8, Ar8, Sz8, Mz8, Hz8⟩ := id A_b4_5
  have hin7 := inb_of (j := (1 : Int32)) Sz8 ⟨by decide, by decide⟩
  obtain ⟨T7, h7, X7, e7, W7, st7⟩ := stC X5 hx hZ e5 Ar8 (j := (1 : Int32)) hin7 (g := (mkF m 49 #[.val (.int p1), .val (.int p2), .val (.int p3), .val (.int p4), .val (.int p5), .val (.int SS), .val (.int UL), .val (.int PL), .val (.int HL), .val (.int v2), .unset, .unset, .unset, .unset, .unset, .unset, .unset] [(.int (97 : Int32)), (.int (1 : Int32)), (.ref b4), (.ref b4)])) rfl rfl (hb hby at_49)
  obtain ⟨y7, hy7⟩ : ∃ yy_ : Int32 → Int32, yy_ = fun i => if i = (1 : Int32) then (nar .char (97 : Int32)) else y5 i := ⟨_, rfl⟩
  have K7 := K5.wr W7 (Or.inr sz_b4)
  have Zs7 := Nat.le_trans Zs5 (Keep.of_wr W7).1
  have N7 := Fr.snoc X7 N5 g_b4
  have O7 := O5.wr W7 g_b4
  have A_b4_7 : own_A Z h7 b4 .char (20 : Int32) (fun i => .int (y7 i)) := by subst hy7; exact own_A_set Ar8 Sz8 Mz8 Hz8 hin7 W7 (own_setI (y := y5) (j := (1 : Int32)) (x := (nar .char (97 : Int32)))) (own_setI' (y := y5) (j := (1 : Int32)) (x := (nar .char (97 : Int32))))
  have P_b4_7 : own_P y7 := by subst hy7; exact own_P_set P_b4_5 (by decide)
  obtain ⟨cl10, Ar10, Sz10, Mz10, Hz10⟩ := id A_b4_7
  have hin9 := inb_of (j := (2 : Int32)) Sz10 ⟨by decide, by decide⟩
  obtain ⟨T9, h9, X9, e9, W9, st9⟩ := stC X7 hx hZ e7 Ar10 (j := (2 : Int32)) hin9 (g := (mkF m 54 #[.val (.int p1), .val (.int p2), .val (.int p3), .val (.int p4), .val (.int p5), .val (.int SS), .val (.int UL), .val (.int PL), .val (.int HL), .val (.int v2), .unset, .unset, .unset, .unset, .unset, .unset, .unset] [(.int (97 : Int32)), (.int (2 : Int32)), (.ref b4), (.ref b4)])) rfl rfl (hb hby at_54)
  obtain ⟨y9, hy9⟩ : ∃ yy_ : Int32 → Int32, yy_ = fun i => if i = (2 : Int32) then (nar .char (97 : Int32)) else y7 i := ⟨_, rfl⟩
  have K9 := K7.wr W9 (Or.inr sz_b4)
  have Zs9 := Nat.le_trans Zs7 (Keep.of_wr W9).1
  have N9 := Fr.snoc X9 N7 g_b4
  have O9 := O7.wr W9 g_b4
  have A_b4_9 : own_A Z h9 b4 .char (20 : Int32) (fun i => .int (y9 i)) := by subst hy9; exact own_A_set Ar10 Sz10 Mz10 Hz10 hin9 W9 (own_setI (y := y7) (j := (2 : Int32)) (x := (nar .char (97 : Int32)))) (own_setI' (y := y7) (j := (2 : Int32)) (x := (nar .char (97 : Int32))))
  have P_b4_9 : own_P y9 := by subst hy9; exact own_P_set P_b4_7 (by decide)
  obtain ⟨cl12, Ar12, Sz12, Mz12, Hz12⟩ := id A_b4_9
  have hin11 := inb_of (j := (3 : Int32)) Sz12 ⟨by decide, by decide⟩
  obtain ⟨T11, h11, X11, e11, W11, st11⟩ := stC X9 hx hZ e9 Ar12 (j := (3 : Int32)) hin11 (g := (mkF m 59 #[.val (.int p1), .val (.int p2), .val (.int p3), .val (.int p4), .val (.int p5), .val (.int SS), .val (.int UL), .val (.int PL), .val (.int HL), .val (.int v2), .unset, .unset, .unset, .unset, .unset, .unset, .unset] [(.int (97 : Int32)), (.int (3 : Int32)), (.ref b4), (.ref b4)])) rfl rfl (hb hby at_59)
  obtain ⟨y11, hy11⟩ : ∃ yy_ : Int32 → Int32, yy_ = fun i => if i = (3 : Int32) then (nar .char (97 : Int32)) else y9 i := ⟨_, rfl⟩
  have K11 := K9.wr W11 (Or.inr sz_b4)
  have Zs11 := Nat.le_trans Zs9 (Keep.of_wr W11).1
  have N11 := Fr.snoc X11 N9 g_b4
  have O11 := O9.wr W11 g_b4
  have A_b4_11 : own_A Z h11 b4 .char (20 : Int32) (fun i => .int (y11 i)) := by subst hy11; exact own_A_set Ar12 Sz12 Mz12 Hz12 hin11 W11 (own_setI (y := y9) (j := (3 : Int32)) (x := (nar .char (97 : Int32)))) (own_setI' (y := y9) (j := (3 : Int32)) (x := (nar .char (97 : Int32))))
  have P_b4_11 : own_P y11 := by subst hy11; exact own_P_set P_b4_9 (by decide)
  obtain ⟨cl14, Ar14, Sz14, Mz14, Hz14⟩ := id A_b4_11
  have hin13 := inb_of (j := (4 : Int32)) Sz14 ⟨by decide, by decide⟩
  obtain ⟨T13, h13, X13, e13, W13, st13⟩ := stC X11 hx hZ e11 Ar14 (j := (4 : Int32)) hin13 (g := (mkF m 64 #[.val (.int p1), .val (.int p2), .val (.int p3), .val (.int p4), .val (.int p5), .val (.int SS), .val (.int UL), .val (.int PL), .val (.int HL), .val (.int v2), .unset, .unset, .unset, .unset, .unset, .unset, .unset] [(.int (97 : Int32)), (.int (4 : Int32)), (.ref b4), (.ref b4)])) rfl rfl (hb hby at_64)
  obtain ⟨y13, hy13⟩ : ∃ yy_ : Int32 → Int32, yy_ = fun i => if i = (4 : Int32) then (nar .char (97 : Int32)) else y11 i := ⟨_, rfl⟩
  have K13 := K11.wr W13 (Or.inr sz_b4)
  have Zs13 := Nat.le_trans Zs11 (Keep.of_wr W13).1
  have N13 := Fr.snoc X13 N11 g_b4
  have O13 := O11.wr W13 g_b4
  have A_b4_13 : own_A Z h13 b4 .char (20 : Int32) (fun i => .int (y13 i)) := by subst hy13; exact own_A_set Ar14 Sz14 Mz14 Hz14 hin13 W13 (own_setI (y := y11) (j := (4 : Int32)) (x := (nar .char (97 : Int32)))) (own_setI' (y := y11) (j := (4 : Int32)) (x := (nar .char (97 : Int32))))
  have P_b4_13 : own_P y13 := by subst hy13; exact own_P_set P_b4_11 (by decide)
  obtain ⟨cl16, Ar16, Sz16, Mz16, Hz16⟩ := id A_b4_13
  have hin15 := inb_of (j := (5 : Int32)) Sz16 ⟨by decide, by decide⟩
  obtain ⟨T15, h15, X15, e15, W15, st15⟩ := stC X13 hx hZ e13 Ar16 (j := (5 : Int32)) hin15 (g := (mkF m 69 #[.val (.int p1), .val (.int p2), .val (.int p3), .val (.int p4), .val (.int p5), .val (.int SS), .val (.int UL), .val (.int PL), .val (.int HL), .val (.int v2), .unset, .unset, .unset, .unset, .unset, .unset, .unset] [(.int (97 : Int32)), (.int (5 : Int32)), (.ref b4), (.ref b4)])) rfl rfl (hb hby at_69)
  obtain ⟨y15, hy15⟩ : ∃ yy_ : Int32 → Int32, yy_ = fun i => if i = (5 : Int32) then (nar .char (97 : Int32)) else y13 i := ⟨_, rfl⟩
  have K15 := K13.wr W15 (Or.inr sz_b4)
  have Zs15 := Nat.le_trans Zs13 (Keep.of_wr W15).1
  have N15 := Fr.snoc X15 N13 g_b4
  have O15 := O13.wr W15 g_b4
  have A_b4_15 : own_A Z h15 b4 .char (20 : Int32) (fun i => .int (y15 i)) := by subst hy15; exact own_A_set Ar16 Sz16 Mz16 Hz16 hin15 W15 (own_setI (y := y13) (j := (5 : Int32)) (x := (nar .char (97 : Int32)))) (own_setI' (y := y13) (j := (5 : Int32)) (x := (nar .char (97 : Int32))))
  have P_b4_15 : own_P y15 := by subst hy15; exact own_P_set P_b4_13 (by decide)
  obtain ⟨cl18, Ar18, Sz18, Mz18, Hz18⟩ := id A_b4_15
  have hin17 := inb_of (j := (6 : Int32)) Sz18 ⟨by decide, by decide⟩
  obtain ⟨T17, h17, X17, e17, W17, st17⟩ := stC X15 hx hZ e15 Ar18 (j := (6 : Int32)) hin17 (g := (mkF m 75 #[.val (.int p1), .val (.int p2), .val (.int p3), .val (.int p4), .val (.int p5), .val (.int SS), .val (.int UL), .val (.int PL), .val (.int HL), .val (.int v2), .unset, .unset, .unset, .unset, .unset, .unset, .unset] [(.int (97 : Int32)), (.int (6 : Int32)), (.ref b4), (.ref b4)])) rfl rfl (hb hby at_75)
  obtain ⟨y17, hy17⟩ : ∃ yy_ : Int32 → Int32, yy_ = fun i => if i = (6 : Int32) then (nar .char (97 : Int32)) else y15 i := ⟨_, rfl⟩
  have K17 := K15.wr W17 (Or.inr sz_b4)
  have Zs17 := Nat.le_trans Zs15 (Keep.of_wr W17).1
  have N17 := Fr.snoc X17 N15 g_b4
  have O17 := O15.wr W17 g_b4
  have A_b4_17 : own_A Z h17 b4 .char (20 : Int32) (fun i => .int (y17 i)) := by subst hy17; exact own_A_set Ar18 Sz18 Mz18 Hz18 hin17 W17 (own_setI (y := y15) (j := (6 : Int32)) (x := (nar .char (97 : Int32)))) (own_setI' (y := y15) (j := (6 : Int32)) (x := (nar .char (97 : Int32))))
  have P_b4_17 : own_P y17 := by subst hy17; exact own_P_set P_b4_15 (by decide)
  obtain ⟨cl20, Ar20, Sz20, Mz20, Hz20⟩ := id A_b4_17
  have hin19 := inb_of (j := (7 : Int32)) Sz20 ⟨by decide, by decide⟩
  obtain ⟨T19, h19, X19, e19, W19, st19⟩ := stC X17 hx hZ e17 Ar20 (j := (7 : Int32)) hin19 (g := (mkF m 81 #[.val (.int p1), .val (.int p2), .val (.int p3), .val (.int p4), .val (.int p5), .val (.int SS), .val (.int UL), .val (.int PL), .val (.int HL), .val (.int v2), .unset, .unset, .unset, .unset, .unset, .unset, .unset] [(.int (97 : Int32)), (.int (7 : Int32)), (.ref b4), (.ref b4)])) rfl rfl (hb hby at_81)
  obtain ⟨y19, hy19⟩ : ∃ yy_ : Int32 → Int32, yy_ = fun i => if i = (7 : Int32) then (nar .char (97 : Int32)) else y17 i := ⟨_, rfl⟩
  have K19 := K17.wr W19 (Or.inr sz_b4)
  have Zs19 := Nat.le_trans Zs17 (Keep.of_wr W19).1
  have N19 := Fr.snoc X19 N17 g_b4
  have O19 := O17.wr W19 g_b4
  have A_b4_19 : own_A Z h19 b4 .char (20 : Int32) (fun i => .int (y19 i)) := by subst hy19; exact own_A_set Ar20 Sz20 Mz20 Hz20 hin19 W19 (own_setI (y := y17) (j := (7 : Int32)) (x := (nar .char (97 : Int32)))) (own_setI' (y := y17) (j := (7 : Int32)) (x := (nar .char (97 : Int32))))
  have P_b4_19 : own_P y19 := by subst hy19; exact own_P_set P_b4_17 (by decide)
  obtain ⟨cl22, Ar22, Sz22, Mz22, Hz22⟩ := id A_b4_19
  have hin21 := inb_of (j := (8 : Int32)) Sz22 ⟨by decide, by decide⟩
  obtain ⟨T21, h21, X21, e21, W21, st21⟩ := stC X19 hx hZ e19 Ar22 (j := (8 : Int32)) hin21 (g := (mkF m 87 #[.val (.int p1), .val (.int p2), .val (.int p3), .val (.int p4), .val (.int p5), .val (.int SS), .val (.int UL), .val (.int PL), .val (.int HL), .val (.int v2), .unset, .unset, .unset, .unset, .unset, .unset, .unset] [(.int (97 : Int32)), (.int (8 : Int32)), (.ref b4), (.ref b4)])) rfl rfl (hb hby at_87)
  obtain ⟨y21, hy21⟩ : ∃ yy_ : Int32 → Int32, yy_ = fun i => if i = (8 : Int32) then (nar .char (97 : Int32)) else y19 i := ⟨_, rfl⟩
  have K21 := K19.wr W21 (Or.inr sz_b4)
  have Zs21 := Nat.le_trans Zs19 (Keep.of_wr W21).1
  have N21 := Fr.snoc X21 N19 g_b4
  have O21 := O19.wr W21 g_b4
  have A_b4_21 : own_A Z h21 b4 .char (20 : Int32) (fun i => .int (y21 i)) := by subst hy21; exact own_A_set Ar22 Sz22 Mz22 Hz22 hin21 W21 (own_setI (y := y19) (j := (8 : Int32)) (x := (nar .char (97 : Int32)))) (own_setI' (y := y19) (j := (8 : Int32)) (x := (nar .char (97 : Int32))))
  have P_b4_21 : own_P y21 := by subst hy21; exact own_P_set P_b4_19 (by decide)
  obtain ⟨cl24, Ar24, Sz24, Mz24, Hz24⟩ := id A_b4_21
  have hin23 := inb_of (j := (9 : Int32)) Sz24 ⟨by decide, by decide⟩
  obtain ⟨T23, h23, X23, e23, W23, st23⟩ := stC X21 hx hZ e21 Ar24 (j := (9 : Int32)) hin23 (g := (mkF m 93 #[.val (.int p1), .val (.int p2), .val (.int p3), .val (.int p4), .val (.int p5), .val (.int SS), .val (.int UL), .val (.int PL), .val (.int HL), .val (.int v2), .unset, .unset, .unset, .unset, .unset, .unset, .unset] [(.int (97 : Int32)), (.int (9 : Int32)), (.ref b4), (.ref b4)])) rfl rfl (hb hby at_93)
  obtain ⟨y23, hy23⟩ : ∃ yy_ : Int32 → Int32, yy_ = fun i => if i = (9 : Int32) then (nar .char (97 : Int32)) else y21 i := ⟨_, rfl⟩
  have K23 := K21.wr W23 (Or.inr sz_b4)
  have Zs23 := Nat.le_trans Zs21 (Keep.of_wr W23).1
  have N23 := Fr.snoc X23 N21 g_b4
  have O23 := O21.wr W23 g_b4
  have A_b4_23 : own_A Z h23 b4 .char (20 : Int32) (fun i => .int (y23 i)) := by subst hy23; exact own_A_set Ar24 Sz24 Mz24 Hz24 hin23 W23 (own_setI (y := y21) (j := (9 : Int32)) (x := (nar .char (97 : Int32)))) (own_setI' (y := y21) (j := (9 : Int32)) (x := (nar .char (97 : Int32))))
  have P_b4_23 : own_P y23 := by subst hy23; exact own_P_set P_b4_21 (by decide)
  obtain ⟨cl26, Ar26, Sz26, Mz26, Hz26⟩ := id A_b4_23
  have hin25 := inb_of (j := (10 : Int32)) Sz26 ⟨by decide, by decide⟩
  obtain ⟨T25, h25, X25, e25, W25, st25⟩ := stC X23 hx hZ e23 Ar26 (j := (10 : Int32)) hin25 (g := (mkF m 99 #[.val (.int p1), .val (.int p2), .val (.int p3), .val (.int p4), .val (.int p5), .val (.int SS), .val (.int UL), .val (.int PL), .val (.int HL), .val (.int v2), .unset, .unset, .unset, .unset, .unset, .unset, .unset] [(.int (97 : Int32)), (.int (10 : Int32)), (.ref b4), (.ref b4)])) rfl rfl (hb hby at_99)
  obtain ⟨y25, hy25⟩ : ∃ yy_ : Int32 → Int32, yy_ = fun i => if i = (10 : Int32) then (nar .char (97 : Int32)) else y23 i := ⟨_, rfl⟩
  have K25 := K23.wr W25 (Or.inr sz_b4)
  have Zs25 := Nat.le_trans Zs23 (Keep.of_wr W25).1
  have N25 := Fr.snoc X25 N23 g_b4
  have O25 := O23.wr W25 g_b4
  have A_b4_25 : own_A Z h25 b4 .char (20 : Int32) (fun i => .int (y25 i)) := by subst hy25; exact own_A_set Ar26 Sz26 Mz26 Hz26 hin25 W25 (own_setI (y := y23) (j := (10 : Int32)) (x := (nar .char (97 : Int32)))) (own_setI' (y := y23) (j := (10 : Int32)) (x := (nar .char (97 : Int32))))
  have P_b4_25 : own_P y25 := by subst hy25; exact own_P_set P_b4_23 (by decide)
  obtain ⟨cl28, Ar28, Sz28, Mz28, Hz28⟩ := id A_b4_25
  have hin27 := inb_of (j := (11 : Int32)) Sz28 ⟨by decide, by decide⟩
  obtain ⟨T27, h27, X27, e27, W27, st27⟩ := stC X25 hx hZ e25 Ar28 (j := (11 : Int32)) hin27 (g := (mkF m 105 #[.val (.int p1), .val (.int p2), .val (.int p3), .val (.int p4), .val (.int p5), .val (.int SS), .val (.int UL), .val (.int PL), .val (.int HL), .val (.int v2), .unset, .unset, .unset, .unset, .unset, .unset, .unset] [(.int (97 : Int32)), (.int (11 : Int32)), (.ref b4), (.ref b4)])) rfl rfl (hb hby at_105)
  obtain ⟨y27, hy27⟩ : ∃ yy_ : Int32 → Int32, yy_ = fun i => if i = (11 : Int32) then (nar .char (97 : Int32)) else y25 i := ⟨_, rfl⟩
  have K27 := K25.wr W27 (Or.inr sz_b4)
  have Zs27 := Nat.le_trans Zs25 (Keep.of_wr W27).1
  have N27 := Fr.snoc X27 N25 g_b4
  have O27 := O25.wr W27 g_b4
  have A_b4_27 : own_A Z h27 b4 .char (20 : Int32) (fun i => .int (y27 i)) := by subst hy27; exact own_A_set Ar28 Sz28 Mz28 Hz28 hin27 W27 (own_setI (y := y25) (j := (11 : Int32)) (x := (nar .char (97 : Int32)))) (own_setI' (y := y25) (j := (11 : Int32)) (x := (nar .char (97 : Int32))))
  have P_b4_27 : own_P y27 := by subst hy27; exact own_P_set P_b4_25 (by decide)
  obtain ⟨cl30, Ar30, Sz30, Mz30, Hz30⟩ := id A_b4_27
  have hin29 := inb_of (j := (12 : Int32)) Sz30 ⟨by decide, by decide⟩
  obtain ⟨T29, h29, X29, e29, W29, st29⟩ := stC X27 hx hZ e27 Ar30 (j := (12 : Int32)) hin29 (g := (mkF m 111 #[.val (.int p1), .val (.int p2), .val (.int p3), .val (.int p4), .val (.int p5), .val (.int SS), .val (.int UL), .val (.int PL), .val (.int HL), .val (.int v2), .unset, .unset, .unset, .unset, .unset, .unset, .unset] [(.int (97 : Int32)), (.int (12 : Int32)), (.ref b4), (.ref b4)])) rfl rfl (hb hby at_111)
  obtain ⟨y29, hy29⟩ : ∃ yy_ : Int32 → Int32, yy_ = fun i => if i = (12 : Int32) then (nar .char (97 : Int32)) else y27 i := ⟨_, rfl⟩
  have K29 := K27.wr W29 (Or.inr sz_b4)
  have Zs29 := Nat.le_trans Zs27 (Keep.of_wr W29).1
  have N29 := Fr.snoc X29 N27 g_b4
  have O29 := O27.wr W29 g_b4
  have A_b4_29 : own_A Z h29 b4 .char (20 : Int32) (fun i => .int (y29 i)) := by subst hy29; exact own_A_set Ar30 Sz30 Mz30 Hz30 hin29 W29 (own_setI (y := y27) (j := (12 : Int32)) (x := (nar .char (97 : Int32)))) (own_setI' (y := y27) (j := (12 : Int32)) (x := (nar .char (97 : Int32))))
  have P_b4_29 : own_P y29 := by subst hy29; exact own_P_set P_b4_27 (by decide)
  obtain ⟨cl32, Ar32, Sz32, Mz32, Hz32⟩ := id A_b4_29
  have hin31 := inb_of (j := (13 : Int32)) Sz32 ⟨by decide, by decide⟩
  obtain ⟨T31, h31, X31, e31, W31, st31⟩ := stC X29 hx hZ e29 Ar32 (j := (13 : Int32)) hin31 (g := (mkF m 117 #[.val (.int p1), .val (.int p2), .val (.int p3), .val (.int p4), .val (.int p5), .val (.int SS), .val (.int UL), .val (.int PL), .val (.int HL), .val (.int v2), .unset, .unset, .unset, .unset, .unset, .unset, .unset] [(.int (97 : Int32)), (.int (13 : Int32)), (.ref b4), (.ref b4)])) rfl rfl (hb hby at_117)
  obtain ⟨y31, hy31⟩ : ∃ yy_ : Int32 → Int32, yy_ = fun i => if i = (13 : Int32) then (nar .char (97 : Int32)) else y29 i := ⟨_, rfl⟩
  have K31 := K29.wr W31 (Or.inr sz_b4)
  have Zs31 := Nat.le_trans Zs29 (Keep.of_wr W31).1
  have N31 := Fr.snoc X31 N29 g_b4
  have O31 := O29.wr W31 g_b4
  have A_b4_31 : own_A Z h31 b4 .char (20 : Int32) (fun i => .int (y31 i)) := by subst hy31; exact own_A_set Ar32 Sz32 Mz32 Hz32 hin31 W31 (own_setI (y := y29) (j := (13 : Int32)) (x := (nar .char (97 : Int32)))) (own_setI' (y := y29) (j := (13 : Int32)) (x := (nar .char (97 : Int32))))
  have P_b4_31 : own_P y31 := by subst hy31; exact own_P_set P_b4_29 (by decide)
  obtain ⟨cl34, Ar34, Sz34, Mz34, Hz34⟩ := id A_b4_31
  have hin33 := inb_of (j := (14 : Int32)) Sz34 ⟨by decide, by decide⟩
  obtain ⟨T33, h33, X33, e33, W33, st33⟩ := stC X31 hx hZ e31 Ar34 (j := (14 : Int32)) hin33 (g := (mkF m 123 #[.val (.int p1), .val (.int p2), .val (.int p3), .val (.int p4), .val (.int p5), .val (.int SS), .val (.int UL), .val (.int PL), .val (.int HL), .val (.int v2), .unset, .unset, .unset, .unset, .unset, .unset, .unset] [(.int (97 : Int32)), (.int (14 : Int32)), (.ref b4), (.ref b4)])) rfl rfl (hb hby at_123)
  obtain ⟨y33, hy33⟩ : ∃ yy_ : Int32 → Int32, yy_ = fun i => if i = (14 : Int32) then (nar .char (97 : Int32)) else y31 i := ⟨_, rfl⟩
  have K33 := K31.wr W33 (Or.inr sz_b4)
  have Zs33 := Nat.le_trans Zs31 (Keep.of_wr W33).1
  have N33 := Fr.snoc X33 N31 g_b4
  have O33 := O31.wr W33 g_b4
  have A_b4_33 : own_A Z h33 b4 .char (20 : Int32) (fun i => .int (y33 i)) := by subst hy33; exact own_A_set Ar34 Sz34 Mz34 Hz34 hin33 W33 (own_setI (y := y31) (j := (14 : Int32)) (x := (nar .char (97 : Int32)))) (own_setI' (y := y31) (j := (14 : Int32)) (x := (nar .char (97 : Int32))))
  have P_b4_33 : own_P y33 := by subst hy33; exact own_P_set P_b4_31 (by decide)
  obtain ⟨cl36, Ar36, Sz36, Mz36, Hz36⟩ := id A_b4_33
  have hin35 := inb_of (j := (15 : Int32)) Sz36 ⟨by decide, by decide⟩
  obtain ⟨T35, h35, X35, e35, W35, st35⟩ := stC X33 hx hZ e33 Ar36 (j := (15 : Int32)) hin35 (g := (mkF m 129 #[.val (.int p1), .val (.int p2), .val (.int p3), .val (.int p4), .val (.int p5), .val (.int SS), .val (.int UL), .val (.int PL), .val (.int HL), .val (.int v2), .unset, .unset, .unset, .unset, .unset, .unset, .unset] [(.int (97 : Int32)), (.int (15 : Int32)), (.ref b4), (.ref b4)])) rfl rfl (hb hby at_129)
  obtain ⟨y35, hy35⟩ : ∃ yy_ : Int32 → Int32, yy_ = fun i => if i = (15 : Int32) then (nar .char (97 : Int32)) else y33 i := ⟨_, rfl⟩
  have K35 := K33.wr W35 (Or.inr sz_b4)
  have Zs35 := Nat.le_trans Zs33 (Keep.of_wr W35).1
  have N35 := Fr.snoc X35 N33 g_b4
  have O35 := O33.wr W35 g_b4
  have A_b4_35 : own_A Z h35 b4 .char (20 : Int32) (fun i => .int (y35 i)) := by subst hy35; exact own_A_set Ar36 Sz36 Mz36 Hz36 hin35 W35 (own_setI (y := y33) (j := (15 : Int32)) (x := (nar .char (97 : Int32)))) (own_setI' (y := y33) (j := (15 : Int32)) (x := (nar .char (97 : Int32))))
  have P_b4_35 : own_P y35 := by subst hy35; exact own_P_set P_b4_33 (by decide)
  obtain ⟨cl38, Ar38, Sz38, Mz38, Hz38⟩ := id A_b4_35
  have hin37 := inb_of (j := (16 : Int32)) Sz38 ⟨by decide, by decide⟩
  obtain ⟨T37, h37, X37, e37, W37, st37⟩ := stC X35 hx hZ e35 Ar38 (j := (16 : Int32)) hin37 (g := (mkF m 135 #[.val (.int p1), .val (.int p2), .val (.int p3), .val (.int p4), .val (.int p5), .val (.int SS), .val (.int UL), .val (.int PL), .val (.int HL), .val (.int v2), .unset, .unset, .unset, .unset, .unset, .unset, .unset] [(.int (97 : Int32)), (.int (16 : Int32)), (.ref b4), (.ref b4)])) rfl rfl (hb hby at_135)
  obtain ⟨y37, hy37⟩ : ∃ yy_ : Int32 → Int32, yy_ = fun i => if i = (16 : Int32) then (nar .char (97 : Int32)) else y35 i := ⟨_, rfl⟩
  have K37 := K35.wr W37 (Or.inr sz_b4)
  have Zs37 := Nat.le_trans Zs35 (Keep.of_wr W37).1
  have N37 := Fr.snoc X37 N35 g_b4
  have O37 := O35.wr W37 g_b4
  have A_b4_37 : own_A Z h37 b4 .char (20 : Int32) (fun i => .int (y37 i)) := by subst hy37; exact own_A_set Ar38 Sz38 Mz38 Hz38 hin37 W37 (own_setI (y := y35) (j := (16 : Int32)) (x := (nar .char (97 : Int32)))) (own_setI' (y := y35) (j := (16 : Int32)) (x := (nar .char (97 : Int32))))
  have P_b4_37 : own_P y37 := by subst hy37; exact own_P_set P_b4_35 (by decide)
  obtain ⟨cl40, Ar40, Sz40, Mz40, Hz40⟩ := id A_b4_37
  have hin39 := inb_of (j := (17 : Int32)) Sz40 ⟨by decide, by decide⟩
  obtain ⟨T39, h39, X39, e39, W39, st39⟩ := stC X37 hx hZ e37 Ar40 (j := (17 : Int32)) hin39 (g := (mkF m 141 #[.val (.int p1), .val (.int p2), .val (.int p3), .val (.int p4), .val (.int p5), .val (.int SS), .val (.int UL), .val (.int PL), .val (.int HL), .val (.int v2), .unset, .unset, .unset, .unset, .unset, .unset, .unset] [(.int (97 : Int32)), (.int (17 : Int32)), (.ref b4), (.ref b4)])) rfl rfl (hb hby at_141)
  obtain ⟨y39, hy39⟩ : ∃ yy_ : Int32 → Int32, yy_ = fun i => if i = (17 : Int32) then (nar .char (97 : Int32)) else y37 i := ⟨_, rfl⟩
  have K39 := K37.wr W39 (Or.inr sz_b4)
  have Zs39 := Nat.le_trans Zs37 (Keep.of_wr W39).1
  have N39 := Fr.snoc X39 N37 g_b4
  have O39 := O37.wr W39 g_b4
  have A_b4_39 : own_A Z h39 b4 .char (20 : Int32) (fun i => .int (y39 i)) := by subst hy39; exact own_A_set Ar40 Sz40 Mz40 Hz40 hin39 W39 (own_setI (y := y37) (j := (17 : Int32)) (x := (nar .char (97 : Int32)))) (own_setI' (y := y37) (j := (17 : Int32)) (x := (nar .char (97 : Int32))))
  have P_b4_39 : own_P y39 := by subst hy39; exact own_P_set P_b4_37 (by decide)
  obtain ⟨cl42, Ar42, Sz42, Mz42, Hz42⟩ := id A_b4_39
  have hin41 := inb_of (j := (18 : Int32)) Sz42 ⟨by decide, by decide⟩
  obtain ⟨T41, h41, X41, e41, W41, st41⟩ := stC X39 hx hZ e39 Ar42 (j := (18 : Int32)) hin41 (g := (mkF m 147 #[.val (.int p1), .val (.int p2), .val (.int p3), .val (.int p4), .val (.int p5), .val (.int SS), .val (.int UL), .val (.int PL), .val (.int HL), .val (.int v2), .unset, .unset, .unset, .unset, .unset, .unset, .unset] [(.int (97 : Int32)), (.int (18 : Int32)), (.ref b4), (.ref b4)])) rfl rfl (hb hby at_147)
  obtain ⟨y41, hy41⟩ : ∃ yy_ : Int32 → Int32, yy_ = fun i => if i = (18 : Int32) then (nar .char (97 : Int32)) else y39 i := ⟨_, rfl⟩
  have K41 := K39.wr W41 (Or.inr sz_b4)
  have Zs41 := Nat.le_trans Zs39 (Keep.of_wr W41).1
  have N41 := Fr.snoc X41 N39 g_b4
  have O41 := O39.wr W41 g_b4
  have A_b4_41 : own_A Z h41 b4 .char (20 : Int32) (fun i => .int (y41 i)) := by subst hy41; exact own_A_set Ar42 Sz42 Mz42 Hz42 hin41 W41 (own_setI (y := y39) (j := (18 : Int32)) (x := (nar .char (97 : Int32)))) (own_setI' (y := y39) (j := (18 : Int32)) (x := (nar .char (97 : Int32))))
  have P_b4_41 : own_P y41 := by subst hy41; exact own_P_set P_b4_39 (by decide)
  obtain ⟨cl44, Ar44, Sz44, Mz44, Hz44⟩ := id A_b4_41
  have hin43 := inb_of (j := (19 : Int32)) Sz44 ⟨by decide, by decide⟩
  obtain ⟨T43, h43, X43, e43, W43, st43⟩ := stC X41 hx hZ e41 Ar44 (j := (19 : Int32)) hin43 (g := (mkF m 153 #[.val (.int p1), .val (.int p2), .val (.int p3), .val (.int p4), .val (.int p5), .val (.int SS), .val (.int UL), .val (.int PL), .val (.int HL), .val (.int v2), .unset, .unset, .unset, .unset, .unset, .unset, .unset] [(.int (97 : Int32)), (.int (19 : Int32)), (.ref b4), (.ref b4)])) rfl rfl (hb hby at_153)
  obtain ⟨y43, hy43⟩ : ∃ yy_ : Int32 → Int32, yy_ = fun i => if i = (19 : Int32) then (nar .char (97 : Int32)) else y41 i := ⟨_, rfl⟩
  have K43 := K41.wr W43 (Or.inr sz_b4)
  have Zs43 := Nat.le_trans Zs41 (Keep.of_wr W43).1
  have N43 := Fr.snoc X43 N41 g_b4
  have O43 := O41.wr W43 g_b4
  have A_b4_43 : own_A Z h43 b4 .char (20 : Int32) (fun i => .int (y43 i)) := by subst hy43; exact own_A_set Ar44 Sz44 Mz44 Hz44 hin43 W43 (own_setI (y := y41) (j := (19 : Int32)) (x := (nar .char (97 : Int32)))) (own_setI' (y := y41) (j := (19 : Int32)) (x := (nar .char (97 : Int32))))
  have P_b4_43 : own_P y43 := by subst hy43; exact own_P_set P_b4_41 (by decide)
  obtain ⟨cl46, Ar46, Sz46, Mz46, Hz46⟩ := id A_b4_43
  have hin45 := inb_of (j := SS) Sz46 (own_in20 (by have := own_rS hSS; omega) (by have := own_rS hSS; omega))
  obtain ⟨T45, h45, X45, e45, W45, st45⟩ := stC X43 hx hZ e43 Ar46 (j := SS) hin45 (g := (mkF m 162 #[.val (.int p1), .val (.int p2), .val (.int p3), .val (.int p4), .val (.int p5), .val (.int SS), .val (.int UL), .val (.int PL), .val (.int HL), .val (.int v2), .val (.ref b4), .unset, .unset, .unset, .unset, .unset, .unset] [(.int (58 : Int32)), (.int SS), (.ref b4)])) rfl rfl (hb hby at_162)
  obtain ⟨y45, hy45⟩ : ∃ yy_ : Int32 → Int32, yy_ = fun i => if i = SS then (nar .char (58 : Int32)) else y43 i := ⟨_, rfl⟩
  have K45 := K43.wr W45 (Or.inr sz_b4)
  have Zs45 := Nat.le_trans Zs43 (Keep.of_wr W45).1
  have N45 := Fr.snoc X45 N43 g_b4
  have O45 := O43.wr W45 g_b4
  have A_b4_45 : own_A Z h45 b4 .char (20 : Int32) (fun i => .int (y45 i)) := by subst hy45; exact own_A_set Ar46 Sz46 Mz46 Hz46 hin45 W45 (own_setI (y := y43) (j := SS) (x := (nar .char (58 : Int32)))) (own_setI' (y := y43) (j := SS) (x := (nar .char (58 : Int32))))
  have P_b4_45 : own_P y45 := by subst hy45; exact own_P_set P_b4_43 (by decide)
  obtain ⟨v50, hv50⟩ : ∃ z : Int32, z = (if v2 = (0 : Int32) then (0 : Int32) else (if (0 : Int32) < UL then (1 : Int32) else (if (0 : Int32) < PL then (1 : Int32) else (0 : Int32)))) := ⟨_, rfl⟩
  have pre51 : ∀ t, Steps p.tables e below (T45.setTop (mkF m 183 #[.val (.int p1), .val (.int p2), .val (.int p3), .val (.int p4), .val (.int p5), .val (.int SS), .val (.int UL), .val (.int PL), .val (.int HL), .val (.int v2), .val (.ref b4), .unset, .unset, .unset, .unset, .unset, .unset] [(.int v50)])) t → Steps p.tables e below (s₁.setTop (entryFrame m #[(.int p1), (.int p2), (.int p3), (.int p4), (.int p5)] maxLocals)) t := fun t k => pre3 t (by
    show Steps p.tables e below (s₁.setTop (mkF m 34 #[.val (.int p1), .val (.int p2), .val (.int p3), .val (.int p4), .val (.int p5), .val (.int SS), .val (.int UL), .val (.int PL), .val (.int HL), .unset, .unset, .unset, .unset, .unset, .unset, .unset, .unset] [(.int v2)])) _
    refine XS.istore X0.here hx rfl (hb hby at_34) rfl (l' := #[.val (.int p1), .val (.int p2), .val (.int p3), .val (.int p4), .val (.int p5), .val (.int SS), .val (.int UL), .val (.int PL), .val (.int HL), .val (.int v2), .unset, .unset, .unset, .unset, .unset, .unset, .unset]) rfl ?_
    show Steps p.tables e below (s₁.setTop (mkF m 36 #[.val (.int p1), .val (.int p2), .val (.int p3), .val (.int p4), .val (.int p5), .val (.int SS), .val (.int UL), .val (.int PL), .val (.int HL), .val (.int v2), .unset, .unset, .unset, .unset, .unset, .unset, .unset] [])) _
    refine XS.bipush X0.here hx rfl (hb hby at_36) ?_
    show Steps p.tables e below (s₁.setTop (mkF m 38 #[.val (.int p1), .val (.int p2), .val (.int p3), .val (.int p4), .val (.int p5), .val (.int SS), .val (.int UL), .val (.int PL), .val (.int HL), .val (.int v2), .unset, .unset, .unset, .unset, .unset, .unset, .unset] [(.int (20 : Int32))])) _
    refine st4 _ ?_
    show Steps p.tables e below (T4.setTop (mkF m 40 #[.val (.int p1), .val (.int p2), .val (.int p3), .val (.int p4), .val (.int p5), .val (.int SS), .val (.int UL), .val (.int PL), .val (.int HL), .val (.int v2), .unset, .unset, .unset, .unset, .unset, .unset, .unset] [(.ref b4)])) _
    refine XS.dup X4.here hx rfl (hb hby at_40) rfl rfl ?_
    show Steps p.tables e below (T4.setTop (mkF m 41 #[.val (.int p1), .val (.int p2), .val (.int p3), .val (.int p4), .val (.int p5), .val (.int SS), .val (.int UL), .val (.int PL), .val (.int HL), .val (.int v2), .unset, .unset, .unset, .unset, .unset, .unset, .unset] [(.ref b4), (.ref b4)])) _
    refine XS.iconst X4.here hx rfl (hb hby at_41) ?_
    show Steps p.tables e below (T4.setTop (mkF m 42 #[.val (.int p1), .val (.int p2), .val (.int p3), .val (.int p4), .val (.int p5), .val (.int SS), .val (.int UL), .val (.int PL), .val (.int HL), .val (.int v2), .unset, .unset, .unset, .unset, .unset, .unset, .unset] [(.int (0 : Int32)), (.ref b4), (.ref b4)])) _
    refine XS.bipush X4.here hx rfl (hb hby at_42) ?_
    show Steps p.tables e below (T4.setTop (mkF m 44 #[.val (.int p1), .val (.int p2), .val (.int p3), .val (.int p4), .val (.int p5), .val (.int SS), .val (.int UL), .val (.int PL), .val (.int HL), .val (.int v2), .unset, .unset, .unset, .unset, .unset, .unset, .unset] [(.int (97 : Int32)), (.int (0 : Int32)), (.ref b4), (.ref b4)])) _
    refine st5 _ ?_
    show Steps p.tables e below (T5.setTop (mkF m 45 #[.val (.int p1), .val (.int p2), .val (.int p3), .val (.int p4), .val (.int p5), .val (.int SS), .val (.int UL), .val (.int PL), .val (.int HL), .val (.int v2), .unset, .unset, .unset, .unset, .unset, .unset, .unset] [(.ref b4)])) _
    refine XS.dup X5.here hx rfl (hb hby at_45) rfl rfl ?_
    show Steps p.tables e below (T5.setTop (mkF m 46 #[.val (.int p1), .val (.int p2), .val (.int p3), .val (.int p4), .val (.int p5), .val (.int SS), .val (.int UL), .val (.int PL), .val (.int HL), .val (.int v2), .unset, .unset, .unset, .unset, .unset, .unset, .unset] [(.ref b4), (.ref b4)])) _
    refine XS.iconst X5.here hx rfl (hb hby at_46) ?_
    show Steps p.tables e below (T5.setTop (mkF m 47 #[.val (.int p1), .val (.int p2), .val (.int p3), .val (.int p4), .val (.int p5), .val (.int SS), .val (.int UL), .val (.int PL), .val (.int HL), .val (.int v2), .unset, .unset, .unset, .unset, .unset, .unset, .unset] [(.int (1 : Int32)), (.ref b4), (.ref b4)])) _
    refine XS.bipush X5.here hx rfl (hb hby at_47) ?_
    show Steps p.tables e below (T5.setTop (mkF m 49 #[.val (.int p1), .val (.int p2), .val (.int p3), .val (.int p4), .val (.int p5), .val (.int SS), .val (.int UL), .val (.int PL), .val (.int HL), .val (.int v2), .unset, .unset, .unset, .unset, .unset, .unset, .unset] [(.int (97 : Int32)), (.int (1 : Int32)), (.ref b4), (.ref b4)])) _
    refine st7 _ ?_
    show Steps p.tables e below (T7.setTop (mkF m 50 #[.val (.int p1), .val (.int p2), .val (.int p3), .val (.int p4), .val (.int p5), .val (.int SS), .val (.int UL), .val (.int PL), .val (.int HL), .val (.int v2), .unset, .unset, .unset, .unset, .unset, .unset, .unset] [(.ref b4)])) _
    refine XS.dup X7.here hx rfl (hb hby at_50) rfl rfl ?_
    show Steps p.tables e below (T7.setTop (mkF m 51 #[.val (.int p1), .val (.int p2), .val (.int p3), .val (.int p4), .val (.int p5), .val (.int SS), .val (.int UL), .val (.int PL), .val (.int HL), .val (.int v2), .unset, .unset, .unset, .unset, .unset, .unset, .unset] [(.ref b4), (.ref b4)])) _
    refine XS.iconst X7.here hx rfl (hb hby at_51) ?_
    show Steps p.tables e below (T7.setTop (mkF m 52 #[.val (.int p1), .val (.int p2), .val (.int p3), .val (.int p4), .val (.int p5), .val (.int SS), .val (.int UL), .val (.int PL), .val (.int HL), .val (.int v2), .unset, .unset, .unset, .unset, .unset, .unset, .unset] [(.int (2 : Int32)), (.ref b4), (.ref b4)])) _
    refine XS.bipush X7.here hx rfl (hb hby at_52) ?_
    show Steps p.tables e below (T7.setTop (mkF m 54 #[.val (.int p1), .val (.int p2), .val (.int p3), .val (.int p4), .val (.int p5), .val (.int SS), .val (.int UL), .val (.int PL), .val (.int HL), .val (.int v2), .unset, .unset, .unset, .unset, .unset, .unset, .unset] [(.int (97 : Int32)), (.int (2 : Int32)), (.ref b4), (.ref b4)])) _
    refine st9 _ ?_
    show Steps p.tables e below (T9.setTop (mkF m 55 #[.val (.int p1), .val (.int p2), .val (.int p3), .val (.int p4), .val (.int p5), .val (.int SS), .val (.int UL), .val (.int PL), .val (.int HL), .val (.int v2), .unset, .unset, .unset, .unset, .unset, .unset, .unset] [(.ref b4)])) _
    refine XS.dup X9.here hx rfl (hb hby at_55) rfl rfl ?_
    show Steps p.tables e below (T9.setTop (mkF m 56 #[.val (.int p1), .val (.int p2), .val (.int p3), .val (.int p4), .val (.int p5), .val (.int SS), .val (.int UL), .val (.int PL), .val (.int HL), .val (.int v2), .unset, .unset, .unset, .unset, .unset, .unset, .unset] [(.ref b4), (.ref b4)])) _
    refine XS.iconst X9.here hx rfl (hb hby at_56) ?_
    show Steps p.tables e below (T9.setTop (mkF m 57 #[.val (.int p1), .val (.int p2), .val (.int p3), .val (.int p4), .val (.int p5), .val (.int SS), .val (.int UL), .val (.int PL), .val (.int HL), .val (.int v2), .unset, .unset, .unset, .unset, .unset, .unset, .unset] [(.int (3 : Int32)), (.ref b4), (.ref b4)])) _
    refine XS.bipush X9.here hx rfl (hb hby at_57) ?_
    show Steps p.tables e below (T9.setTop (mkF m 59 #[.val (.int p1), .val (.int p2), .val (.int p3), .val (.int p4), .val (.int p5), .val (.int SS), .val (.int UL), .val (.int PL), .val (.int HL), .val (.int v2), .unset, .unset, .unset, .unset, .unset, .unset, .unset] [(.int (97 : Int32)), (.int (3 : Int32)), (.ref b4), (.ref b4)])) _
    refine st11 _ ?_
    show Steps p.tables e below (T11.setTop (mkF m 60 #[.val (.int p1), .val (.int p2), .val (.int p3), .val (.int p4), .val (.int p5), .val (.int SS), .val (.int UL), .val (.int PL), .val (.int HL), .val (.int v2), .unset, .unset, .unset, .unset, .unset, .unset, .unset] [(.ref b4)])) _
    refine XS.dup X11.here hx rfl (hb hby at_60) rfl rfl ?_
    show Steps p.tables e below (T11.setTop (mkF m 61 #[.val (.int p1), .val (.int p2), .val (.int p3), .val (.int p4), .val (.int p5), .val (.int SS), .val (.int UL), .val (.int PL), .val (.int HL), .val (.int v2), .unset, .unset, .unset, .unset, .unset, .unset, .unset] [(.ref b4), (.ref b4)])) _
    refine XS.iconst X11.here hx rfl (hb hby at_61) ?_
    show Steps p.tables e below (T11.setTop (mkF m 62 #[.val (.int p1), .val (.int p2), .val (.int p3), .val (.int p4), .val (.int p5), .val (.int SS), .val (.int UL), .val (.int PL), .val (.int HL), .val (.int v2), .unset, .unset, .unset, .unset, .unset, .unset, .unset] [(.int (4 : Int32)), (.ref b4), (.ref b4)])) _
    refine XS.bipush X11.here hx rfl (hb hby at_62) ?_
    show Steps p.tables e below (T11.setTop (mkF m 64 #[.val (.int p1), .val (.int p2), .val (.int p3), .val (.int p4), .val (.int p5), .val (.int SS), .val (.int UL), .val (.int PL), .val (.int HL), .val (.int v2), .unset, .unset, .unset, .unset, .unset, .unset, .unset] [(.int (97 : Int32)), (.int (4 : Int32)), (.ref b4), (.ref b4)])) _
    refine st13 _ ?_
    show Steps p.tables e below (T13.setTop (mkF m 65 #[.val (.int p1), .val (.int p2), .val (.int p3), .val (.int p4), .val (.int p5), .val (.int SS), .val (.int UL), .val (.int PL), .val (.int HL), .val (.int v2), .unset, .unset, .unset, .unset, .unset, .unset, .unset] [(.ref b4)])) _
    refine XS.dup X13.here hx rfl (hb hby at_65) rfl rfl ?_
    show Steps p.tables e below (T13.setTop (mkF m 66 #[.val (.int p1), .val (.int p2), .val (.int p3), .val (.int p4), .val (.int p5), .val (.int SS), .val (.int UL), .val (.int PL), .val (.int HL), .val (.int v2), .unset, .unset, .unset, .unset, .unset, .unset, .unset] [(.ref b4), (.ref b4)])) _
    refine XS.iconst X13.here hx rfl (hb hby at_66) ?_
    show Steps p.tables e below (T13.setTop (mkF m 67 #[.val (.int p1), .val (.int p2), .val (.int p3), .val (.int p4), .val (.int p5), .val (.int SS), .val (.int UL), .val (.int PL), .val (.int HL), .val (.int v2), .unset, .unset, .unset, .unset, .unset, .unset, .unset] [(.int (5 : Int32)), (.ref b4), (.ref b4)])) _
    refine XS.bipush X13.here hx rfl (hb hby at_67) ?_
    show Steps p.tables e below (T13.setTop (mkF m 69 #[.val (.int p1), .val (.int p2), .val (.int p3), .val (.int p4), .val (.int p5), .val (.int SS), .val (.int UL), .val (.int PL), .val (.int HL), .val (.int v2), .unset, .unset, .unset, .unset, .unset, .unset, .unset] [(.int (97 : Int32)), (.int (5 : Int32)), (.ref b4), (.ref b4)])) _
    refine st15 _ ?_
    show Steps p.tables e below (T15.setTop (mkF m 70 #[.val (.int p1), .val (.int p2), .val (.int p3), .val (.int p4), .val (.int p5), .val (.int SS), .val (.int UL), .val (.int PL), .val (.int HL), .val (.int v2), .unset, .unset, .unset, .unset, .unset, .unset, .unset] [(.ref b4)])) _
    refine XS.dup X15.here hx rfl (hb hby at_70) rfl rfl ?_
    show Steps p.tables e below (T15.setTop (mkF m 71 #[.val (.int p1), .val (.int p2), .val (.int p3), .val (.int p4), .val (.int p5), .val (.int SS), .val (.int UL), .val (.int PL), .val (.int HL), .val (.int v2), .unset, .unset, .unset, .unset, .unset, .unset, .unset] [(.ref b4), (.ref b4)])) _
    refine XS.bipush X15.here hx rfl (hb hby at_71) ?_
    show Steps p.tables e below (T15.setTop (mkF m 73 #[.val (.int p1), .val (.int p2), .val (.int p3), .val (.int p4), .val (.int p5), .val (.int SS), .val (.int UL), .val (.int PL), .val (.int HL), .val (.int v2), .unset, .unset, .unset, .unset, .unset, .unset, .unset] [(.int (6 : Int32)), (.ref b4), (.ref b4)])) _
    refine XS.bipush X15.here hx rfl (hb hby at_73) ?_
    show Steps p.tables e below (T15.setTop (mkF m 75 #[.val (.int p1), .val (.int p2), .val (.int p3), .val (.int p4), .val (.int p5), .val (.int SS), .val (.int UL), .val (.int PL), .val (.int HL), .val (.int v2), .unset, .unset, .unset, .unset, .unset, .unset, .unset] [(.int (97 : Int32)), (.int (6 : Int32)), (.ref b4), (.ref b4)])) _
    refine st17 _ ?_
    show Steps p.tables e below (T17.setTop (mkF m 76 #[.val (.int p1), .val (.int p2), .val (.int p3), .val (.int p4), .val (.int p5), .val (.int SS), .val (.int UL), .val (.int PL), .val (.int HL), .val (.int v2), .unset, .unset, .unset, .unset, .unset, .unset, .unset] [(.ref b4)])) _
    refine XS.dup X17.here hx rfl (hb hby at_76) rfl rfl ?_
    show Steps p.tables e below (T17.setTop (mkF m 77 #[.val (.int p1), .val (.int p2), .val (.int p3), .val (.int p4), .val (.int p5), .val (.int SS), .val (.int UL), .val (.int PL), .val (.int HL), .val (.int v2), .unset, .unset, .unset, .unset, .unset, .unset, .unset] [(.ref b4), (.ref b4)])) _
    refine XS.bipush X17.here hx rfl (hb hby at_77) ?_
    show Steps p.tables e below (T17.setTop (mkF m 79 #[.val (.int p1), .val (.int p2), .val (.int p3), .val (.int p4), .val (.int p5), .val (.int SS), .val (.int UL), .val (.int PL), .val (.int HL), .val (.int v2), .unset, .unset, .unset, .unset, .unset, .unset, .unset] [(.int (7 : Int32)), (.ref b4), (.ref b4)])) _
    refine XS.bipush X17.here hx rfl (hb hby at_79) ?_
    show Steps p.tables e below (T17.setTop (mkF m 81 #[.val (.int p1), .val (.int p2), .val (.int p3), .val (.int p4), .val (.int p5), .val (.int SS), .val (.int UL), .val (.int PL), .val (.int HL), .val (.int v2), .unset, .unset, .unset, .unset, .unset, .unset, .unset] [(.int (97 : Int32)), (.int (7 : Int32)), (.ref b4), (.ref b4)])) _
    refine st19 _ ?_
    show Steps p.tables e below (T19.setTop (mkF m 82 #[.val (.int p1), .val (.int p2), .val (.int p3), .val (.int p4), .val (.int p5), .val (.int SS), .val (.int UL), .val (.int PL), .val (.int HL), .val (.int v2), .unset, .unset, .unset, .unset, .unset, .unset, .unset] [(.ref b4)])) _
    refine XS.dup X19.here hx rfl (hb hby at_82) rfl rfl ?_
    show Steps p.tables e below (T19.setTop (mkF m 83 #[.val (.int p1), .val (.int p2), .val (.int p3), .val (.int p4), .val (.int p5), .val (.int SS), .val (.int UL), .val (.int PL), .val (.int HL), .val (.int v2), .unset, .unset, .unset, .unset, .unset, .unset, .unset] [(.ref b4), (.ref b4)])) _
    refine XS.bipush X19.here hx rfl (hb hby at_83) ?_
    show Steps p.tables e below (T19.setTop (mkF m 85 #[.val (.int p1), .val (.int p2), .val (.int p3), .val (.int p4), .val (.int p5), .val (.int SS), .val (.int UL), .val (.int PL), .val (.int HL), .val (.int v2), .unset, .unset, .unset, .unset, .unset, .unset, .unset] [(.int (8 : Int32)), (.ref b4), (.ref b4)])) _
    refine XS.bipush X19.here hx rfl (hb hby at_85) ?_
    show Steps p.tables e below (T19.setTop (mkF m 87 #[.val (.int p1), .val (.int p2), .val (.int p3), .val (.int p4), .val (.int p5), .val (.int SS), .val (.int UL), .val (.int PL), .val (.int HL), .val (.int v2), .unset, .unset, .unset, .unset, .unset, .unset, .unset] [(.int (97 : Int32)), (.int (8 : Int32)), (.ref b4), (.ref b4)])) _
    refine st21 _ ?_
    show Steps p.tables e below (T21.setTop (mkF m 88 #[.val (.int p1), .val (.int p2), .val (.int p3), .val (.int p4), .val (.int p5), .val (.int SS), .val (.int UL), .val (.int PL), .val (.int HL), .val (.int v2), .unset, .unset, .unset, .unset, .unset, .unset, .unset] [(.ref b4)])) _
    refine XS.dup X21.here hx rfl (hb hby at_88) rfl rfl ?_
    show Steps p.tables e below (T21.setTop (mkF m 89 #[.val (.int p1), .val (.int p2), .val (.int p3), .val (.int p4), .val (.int p5), .val (.int SS), .val (.int UL), .val (.int PL), .val (.int HL), .val (.int v2), .unset, .unset, .unset, .unset, .unset, .unset, .unset] [(.ref b4), (.ref b4)])) _
    refine XS.bipush X21.here hx rfl (hb hby at_89) ?_
    show Steps p.tables e below (T21.setTop (mkF m 91 #[.val (.int p1), .val (.int p2), .val (.int p3), .val (.int p4), .val (.int p5), .val (.int SS), .val (.int UL), .val (.int PL), .val (.int HL), .val (.int v2), .unset, .unset, .unset, .unset, .unset, .unset, .unset] [(.int (9 : Int32)), (.ref b4), (.ref b4)])) _
    refine XS.bipush X21.here hx rfl (hb hby at_91) ?_
    show Steps p.tables e below (T21.setTop (mkF m 93 #[.val (.int p1), .val (.int p2), .val (.int p3), .val (.int p4), .val (.int p5), .val (.int SS), .val (.int UL), .val (.int PL), .val (.int HL), .val (.int v2), .unset, .unset, .unset, .unset, .unset, .unset, .unset] [(.int (97 : Int32)), (.int (9 : Int32)), (.ref b4), (.ref b4)])) _
    refine st23 _ ?_
    show Steps p.tables e below (T23.setTop (mkF m 94 #[.val (.int p1), .val (.int p2), .val (.int p3), .val (.int p4), .val (.int p5), .val (.int SS), .val (.int UL), .val (.int PL), .val (.int HL), .val (.int v2), .unset, .unset, .unset, .unset, .unset, .unset, .unset] [(.ref b4)])) _
    refine XS.dup X23.here hx rfl (hb hby at_94) rfl rfl ?_
    show Steps p.tables e below (T23.setTop (mkF m 95 #[.val (.int p1), .val (.int p2), .val (.int p3), .val (.int p4), .val (.int p5), .val (.int SS), .val (.int UL), .val (.int PL), .val (.int HL), .val (.int v2), .unset, .unset, .unset, .unset, .unset, .unset, .unset] [(.ref b4), (.ref b4)])) _
    refine XS.bipush X23.here hx rfl (hb hby at_95) ?_
    show Steps p.tables e below (T23.setTop (mkF m 97 #[.val (.int p1), .val (.int p2), .val (.int p3), .val (.int p4), .val (.int p5), .val (.int SS), .val (.int UL), .val (.int PL), .val (.int HL), .val (.int v2), .unset, .unset, .unset, .unset, .unset, .unset, .unset] [(.int (10 : Int32)), (.ref b4), (.ref b4)])) _
    refine XS.bipush X23.here hx rfl (hb hby at_97) ?_
    show Steps p.tables e below (T23.setTop (mkF m 99 #[.val (.int p1), .val (.int p2), .val (.int p3), .val (.int p4), .val (.int p5), .val (.int SS), .val (.int UL), .val (.int PL), .val (.int HL), .val (.int v2), .unset, .unset, .unset, .unset, .unset, .unset, .unset] [(.int (97 : Int32)), (.int (10 : Int32)), (.ref b4), (.ref b4)])) _
    refine st25 _ ?_
    show Steps p.tables e below (T25.setTop (mkF m 100 #[.val (.int p1), .val (.int p2), .val (.int p3), .val (.int p4), .val (.int p5), .val (.int SS), .val (.int UL), .val (.int PL), .val (.int HL), .val (.int v2), .unset, .unset, .unset, .unset, .unset, .unset, .unset] [(.ref b4)])) _
    refine XS.dup X25.here hx rfl (hb hby at_100) rfl rfl ?_
    show Steps p.tables e below (T25.setTop (mkF m 101 #[.val (.int p1), .val (.int p2), .val (.int p3), .val (.int p4), .val (.int p5), .val (.int SS), .val (.int UL), .val (.int PL), .val (.int HL), .val (.int v2), .unset, .unset, .unset, .unset, .unset, .unset, .unset] [(.ref b4), (.ref b4)])) _
    refine XS.bipush X25.here hx rfl (hb hby at_101) ?_
    show Steps p.tables e below (T25.setTop (mkF m 103 #[.val (.int p1), .val (.int p2), .val (.int p3), .val (.int p4), .val (.int p5), .val (.int SS), .val (.int UL), .val (.int PL), .val (.int HL), .val (.int v2), .unset, .unset, .unset, .unset, .unset, .unset, .unset] [(.int (11 : Int32)), (.ref b4), (.ref b4)])) _
    refine XS.bipush X25.here hx rfl (hb hby at_103) ?_
    show Steps p.tables e below (T25.setTop (mkF m 105 #[.val (.int p1), .val (.int p2), .val (.int p3), .val (.int p4), .val (.int p5), .val (.int SS), .val (.int UL), .val (.int PL), .val (.int HL), .val (.int v2), .unset, .unset, .unset, .unset, .unset, .unset, .unset] [(.int (97 : Int32)), (.int (11 : Int32)), (.ref b4), (.ref b4)])) _
    refine st27 _ ?_
    show Steps p.tables e below (T27.setTop (mkF m 106 #[.val (.int p1), .val (.int p2), .val (.int p3), .val (.int p4), .val (.int p5), .val (.int SS), .val (.int UL), .val (.int PL), .val (.int HL), .val (.int v2), .unset, .unset, .unset, .unset, .unset, .unset, .unset] [(.ref b4)])) _
    refine XS.dup X27.here hx rfl (hb hby at_106) rfl rfl ?_
    show Steps p.tables e below (T27.setTop (mkF m 107 #[.val (.int p1), .val (.int p2), .val (.int p3), .val (.int p4), .val (.int p5), .val (.int SS), .val (.int UL), .val (.int PL), .val (.int HL), .val (.int v2), .unset, .unset, .unset, .unset, .unset, .unset, .unset] [(.ref b4), (.ref b4)])) _
    refine XS.bipush X27.here hx rfl (hb hby at_107) ?_
    show Steps p.tables e below (T27.setTop (mkF m 109 #[.val (.int p1), .val (.int p2), .val (.int p3), .val (.int p4), .val (.int p5), .val (.int SS), .val (.int UL), .val (.int PL), .val (.int HL), .val (.int v2), .unset, .unset, .unset, .unset, .unset, .unset, .unset] [(.int (12 : Int32)), (.ref b4), (.ref b4)])) _
    refine XS.bipush X27.here hx rfl (hb hby at_109) ?_
    show Steps p.tables e below (T27.setTop (mkF m 111 #[.val (.int p1), .val (.int p2), .val (.int p3), .val (.int p4), .val (.int p5), .val (.int SS), .val (.int UL), .val (.int PL), .val (.int HL), .val (.int v2), .unset, .unset, .unset, .unset, .unset, .unset, .unset] [(.int (97 : Int32)), (.int (12 : Int32)), (.ref b4), (.ref b4)])) _
    refine st29 _ ?_
    show Steps p.tables e below (T29.setTop (mkF m 112 #[.val (.int p1), .val (.int p2), .val (.int p3), .val (.int p4), .val (.int p5), .val (.int SS), .val (.int UL), .val (.int PL), .val (.int HL), .val (.int v2), .unset, .unset, .unset, .unset, .unset, .unset, .unset] [(.ref b4)])) _
    refine XS.dup X29.here hx rfl (hb hby at_112) rfl rfl ?_
    show Steps p.tables e below (T29.setTop (mkF m 113 #[.val (.int p1), .val (.int p2), .val (.int p3), .val (.int p4), .val (.int p5), .val (.int SS), .val (.int UL), .val (.int PL), .val (.int HL), .val (.int v2), .unset, .unset, .unset, .unset, .unset, .unset, .unset] [(.ref b4), (.ref b4)])) _
    refine XS.bipush X29.here hx rfl (hb hby at_113) ?_
    show Steps p.tables e below (T29.setTop (mkF m 115 #[.val (.int p1), .val (.int p2), .val (.int p3), .val (.int p4), .val (.int p5), .val (.int SS), .val (.int UL), .val (.int PL), .val (.int HL), .val (.int v2), .unset, .unset, .unset, .unset, .unset, .unset, .unset] [(.int (13 : Int32)), (.ref b4), (.ref b4)])) _
    refine XS.bipush X29.here hx rfl (hb hby at_115) ?_
    show Steps p.tables e below (T29.setTop (mkF m 117 #[.val (.int p1), .val (.int p2), .val (.int p3), .val (.int p4), .val (.int p5), .val (.int SS), .val (.int UL), .val (.int PL), .val (.int HL), .val (.int v2), .unset, .unset, .unset, .unset, .unset, .unset, .unset] [(.int (97 : Int32)), (.int (13 : Int32)), (.ref b4), (.ref b4)])) _
    refine st31 _ ?_
    show Steps p.tables e below (T31.setTop (mkF m 118 #[.val (.int p1), .val (.int p2), .val (.int p3), .val (.int p4), .val (.int p5), .val (.int SS), .val (.int UL), .val (.int PL), .val (.int HL), .val (.int v2), .unset, .unset, .unset, .unset, .unset, .unset, .unset] [(.ref b4)])) _
    refine XS.dup X31.here hx rfl (hb hby at_118) rfl rfl ?_
    show Steps p.tables e below (T31.setTop (mkF m 119 #[.val (.int p1), .val (.int p2), .val (.int p3), .val (.int p4), .val (.int p5), .val (.int SS), .val (.int UL), .val (.int PL), .val (.int HL), .val (.int v2), .unset, .unset, .unset, .unset, .unset, .unset, .unset] [(.ref b4), (.ref b4)])) _
    refine XS.bipush X31.here hx rfl (hb hby at_119) ?_
    show Steps p.tables e below (T31.setTop (mkF m 121 #[.val (.int p1), .val (.int p2), .val (.int p3), .val (.int p4), .val (.int p5), .val (.int SS), .val (.int UL), .val (.int PL), .val (.int HL), .val (.int v2), .unset, .unset, .unset, .unset, .unset, .unset, .unset] [(.int (14 : Int32)), (.ref b4), (.ref b4)])) _
    refine XS.bipush X31.here hx rfl (hb hby at_121) ?_
    show Steps p.tables e below (T31.setTop (mkF m 123 #[.val (.int p1), .val (.int p2), .val (.int p3), .val (.int p4), .val (.int p5), .val (.int SS), .val (.int UL), .val (.int PL), .val (.int HL), .val (.int v2), .unset, .unset, .unset, .unset, .unset, .unset, .unset] [(.int (97 : Int32)), (.int (14 : Int32)), (.ref b4), (.ref b4)])) _
    refine st33 _ ?_
    show Steps p.tables e below (T33.setTop (mkF m 124 #[.val (.int p1), .val (.int p2), .val (.int p3), .val (.int p4), .val (.int p5), .val (.int SS), .val (.int UL), .val (.int PL), .val (.int HL), .val (.int v2), .unset, .unset, .unset, .unset, .unset, .unset, .unset] [(.ref b4)])) _
    refine XS.dup X33.here hx rfl (hb hby at_124) rfl rfl ?_
    show Steps p.tables e below (T33.setTop (mkF m 125 #[.val (.int p1), .val (.int p2), .val (.int p3), .val (.int p4), .val (.int p5), .val (.int SS), .val (.int UL), .val (.int PL), .val (.int HL), .val (.int v2), .unset, .unset, .unset, .unset, .unset, .unset, .unset] [(.ref b4), (.ref b4)])) _
    refine XS.bipush X33.here hx rfl (hb hby at_125) ?_
    show Steps p.tables e below (T33.setTop (mkF m 127 #[.val (.int p1), .val (.int p2), .val (.int p3), .val (.int p4), .val (.int p5), .val (.int SS), .val (.int UL), .val (.int PL), .val (.int HL), .val (.int v2), .unset, .unset, .unset, .unset, .unset, .unset, .unset] [(.int (15 : Int32)), (.ref b4), (.ref b4)])) _
    refine XS.bipush X33.here hx rfl (hb hby at_127) ?_
    show Steps p.tables e below (T33.setTop (mkF m 129 #[.val (.int p1), .val (.int p2), .val (.int p3), .val (.int p4), .val (.int p5), .val (.int SS), .val (.int UL), .val (.int PL), .val (.int HL), .val (.int v2), .unset, .unset, .unset, .unset, .unset, .unset, .unset] [(.int (97 : Int32)), (.int (15 : Int32)), (.ref b4), (.ref b4)])) _
    refine st35 _ ?_
    show Steps p.tables e below (T35.setTop (mkF m 130 #[.val (.int p1), .val (.int p2), .val (.int p3), .val (.int p4), .val (.int p5), .val (.int SS), .val (.int UL), .val (.int PL), .val (.int HL), .val (.int v2), .unset, .unset, .unset, .unset, .unset, .unset, .unset] [(.ref b4)])) _
    refine XS.dup X35.here hx rfl (hb hby at_130) rfl rfl ?_
    show Steps p.tables e below (T35.setTop (mkF m 131 #[.val (.int p1), .val (.int p2), .val (.int p3), .val (.int p4), .val (.int p5), .val (.int SS), .val (.int UL), .val (.int PL), .val (.int HL), .val (.int v2), .unset, .unset, .unset, .unset, .unset, .unset, .unset] [(.ref b4), (.ref b4)])) _
    refine XS.bipush X35.here hx rfl (hb hby at_131) ?_
    show Steps p.tables e below (T35.setTop (mkF m 133 #[.val (.int p1), .val (.int p2), .val (.int p3), .val (.int p4), .val (.int p5), .val (.int SS), .val (.int UL), .val (.int PL), .val (.int HL), .val (.int v2), .unset, .unset, .unset, .unset, .unset, .unset, .unset] [(.int (16 : Int32)), (.ref b4), (.ref b4)])) _
    refine XS.bipush X35.here hx rfl (hb hby at_133) ?_
    show Steps p.tables e below (T35.setTop (mkF m 135 #[.val (.int p1), .val (.int p2), .val (.int p3), .val (.int p4), .val (.int p5), .val (.int SS), .val (.int UL), .val (.int PL), .val (.int HL), .val (.int v2), .unset, .unset, .unset, .unset, .unset, .unset, .unset] [(.int (97 : Int32)), (.int (16 : Int32)), (.ref b4), (.ref b4)])) _
    refine st37 _ ?_
    show Steps p.tables e below (T37.setTop (mkF m 136 #[.val (.int p1), .val (.int p2), .val (.int p3), .val (.int p4), .val (.int p5), .val (.int SS), .val (.int UL), .val (.int PL), .val (.int HL), .val (.int v2), .unset, .unset, .unset, .unset, .unset, .unset, .unset] [(.ref b4)])) _
    refine XS.dup X37.here hx rfl (hb hby at_136) rfl rfl ?_
    show Steps p.tables e below (T37.setTop (mkF m 137 #[.val (.int p1), .val (.int p2), .val (.int p3), .val (.int p4), .val (.int p5), .val (.int SS), .val (.int UL), .val (.int PL), .val (.int HL), .val (.int v2), .unset, .unset, .unset, .unset, .unset, .unset, .unset] [(.ref b4), (.ref b4)])) _
    refine XS.bipush X37.here hx rfl (hb hby at_137) ?_
    show Steps p.tables e below (T37.setTop (mkF m 139 #[.val (.int p1), .val (.int p2), .val (.int p3), .val (.int p4), .val (.int p5), .val (.int SS), .val (.int UL), .val (.int PL), .val (.int HL), .val (.int v2), .unset, .unset, .unset, .unset, .unset, .unset, .unset] [(.int (17 : Int32)), (.ref b4), (.ref b4)])) _
    refine XS.bipush X37.here hx rfl (hb hby at_139) ?_
    show Steps p.tables e below (T37.setTop (mkF m 141 #[.val (.int p1), .val (.int p2), .val (.int p3), .val (.int p4), .val (.int p5), .val (.int SS), .val (.int UL), .val (.int PL), .val (.int HL), .val (.int v2), .unset, .unset, .unset, .unset, .unset, .unset, .unset] [(.int (97 : Int32)), (.int (17 : Int32)), (.ref b4), (.ref b4)])) _
    refine st39 _ ?_
    show Steps p.tables e below (T39.setTop (mkF m 142 #[.val (.int p1), .val (.int p2), .val (.int p3), .val (.int p4), .val (.int p5), .val (.int SS), .val (.int UL), .val (.int PL), .val (.int HL), .val (.int v2), .unset, .unset, .unset, .unset, .unset, .unset, .unset] [(.ref b4)])) _
    refine XS.dup X39.here hx rfl (hb hby at_142) rfl rfl ?_
    show Steps p.tables e below (T39.setTop (mkF m 143 #[.val (.int p1), .val (.int p2), .val (.int p3), .val (.int p4), .val (.int p5), .val (.int SS), .val (.int UL), .val (.int PL), .val (.int HL), .val (.int v2), .unset, .unset, .unset, .unset, .unset, .unset, .unset] [(.ref b4), (.ref b4)])) _
    refine XS.bipush X39.here hx rfl (hb hby at_143) ?_
    show Steps p.tables e below (T39.setTop (mkF m 145 #[.val (.int p1), .val (.int p2), .val (.int p3), .val (.int p4), .val (.int p5), .val (.int SS), .val (.int UL), .val (.int PL), .val (.int HL), .val (.int v2), .unset, .unset, .unset, .unset, .unset, .unset, .unset] [(.int (18 : Int32)), (.ref b4), (.ref b4)])) _
    refine XS.bipush X39.here hx rfl (hb hby at_145) ?_
    show Steps p.tables e below (T39.setTop (mkF m 147 #[.val (.int p1), .val (.int p2), .val (.int p3), .val (.int p4), .val (.int p5), .val (.int SS), .val (.int UL), .val (.int PL), .val (.int HL), .val (.int v2), .unset, .unset, .unset, .unset, .unset, .unset, .unset] [(.int (97 : Int32)), (.int (18 : Int32)), (.ref b4), (.ref b4)])) _
    refine st41 _ ?_
    show Steps p.tables e below (T41.setTop (mkF m 148 #[.val (.int p1), .val (.int p2), .val (.int p3), .val (.int p4), .val (.int p5), .val (.int SS), .val (.int UL), .val (.int PL), .val (.int HL), .val (.int v2), .unset, .unset, .unset, .unset, .unset, .unset, .unset] [(.ref b4)])) _
    refine XS.dup X41.here hx rfl (hb hby at_148) rfl rfl ?_
    show Steps p.tables e below (T41.setTop (mkF m 149 #[.val (.int p1), .val (.int p2), .val (.int p3), .val (.int p4), .val (.int p5), .val (.int SS), .val (.int UL), .val (.int PL), .val (.int HL), .val (.int v2), .unset, .unset, .unset, .unset, .unset, .unset, .unset] [(.ref b4), (.ref b4)])) _
    refine XS.bipush X41.here hx rfl (hb hby at_149) ?_
    show Steps p.tables e below (T41.setTop (mkF m 151 #[.val (.int p1), .val (.int p2), .val (.int p3), .val (.int p4), .val (.int p5), .val (.int SS), .val (.int UL), .val (.int PL), .val (.int HL), .val (.int v2), .unset, .unset, .unset, .unset, .unset, .unset, .unset] [(.int (19 : Int32)), (.ref b4), (.ref b4)])) _
    refine XS.bipush X41.here hx rfl (hb hby at_151) ?_
    show Steps p.tables e below (T41.setTop (mkF m 153 #[.val (.int p1), .val (.int p2), .val (.int p3), .val (.int p4), .val (.int p5), .val (.int SS), .val (.int UL), .val (.int PL), .val (.int HL), .val (.int v2), .unset, .unset, .unset, .unset, .unset, .unset, .unset] [(.int (97 : Int32)), (.int (19 : Int32)), (.ref b4), (.ref b4)])) _
    refine st43 _ ?_
    show Steps p.tables e below (T43.setTop (mkF m 154 #[.val (.int p1), .val (.int p2), .val (.int p3), .val (.int p4), .val (.int p5), .val (.int SS), .val (.int UL), .val (.int PL), .val (.int HL), .val (.int v2), .unset, .unset, .unset, .unset, .unset, .unset, .unset] [(.ref b4)])) _
    refine XS.astore X43.here hx rfl (hb hby at_154) rfl rfl (l' := #[.val (.int p1), .val (.int p2), .val (.int p3), .val (.int p4), .val (.int p5), .val (.int SS), .val (.int UL), .val (.int PL), .val (.int HL), .val (.int v2), .val (.ref b4), .unset, .unset, .unset, .unset, .unset, .unset]) rfl ?_
    show Steps p.tables e below (T43.setTop (mkF m 156 #[.val (.int p1), .val (.int p2), .val (.int p3), .val (.int p4), .val (.int p5), .val (.int SS), .val (.int UL), .val (.int PL), .val (.int HL), .val (.int v2), .val (.ref b4), .unset, .unset, .unset, .unset, .unset, .unset] [])) _
    refine XS.aload X43.here hx rfl (hb hby at_156) rfl rfl ?_
    show Steps p.tables e below (T43.setTop (mkF m 158 #[.val (.int p1), .val (.int p2), .val (.int p3), .val (.int p4), .val (.int p5), .val (.int SS), .val (.int UL), .val (.int PL), .val (.int HL), .val (.int v2), .val (.ref b4), .unset, .unset, .unset, .unset, .unset, .unset] [(.ref b4)])) _
    refine XS.iload X43.here hx rfl (hb hby at_158) rfl ?_
    show Steps p.tables e below (T43.setTop (mkF m 160 #[.val (.int p1), .val (.int p2), .val (.int p3), .val (.int p4), .val (.int p5), .val (.int SS), .val (.int UL), .val (.int PL), .val (.int HL), .val (.int v2), .val (.ref b4), .unset, .unset, .unset, .unset, .unset, .unset] [(.int SS), (.ref b4)])) _
    refine XS.bipush X43.here hx rfl (hb hby at_160) ?_
    show Steps p.tables e below (T43.setTop (mkF m 162 #[.val (.int p1), .val (.int p2), .val (.int p3), .val (.int p4), .val (.int p5), .val (.int SS), .val (.int UL), .val (.int PL), .val (.int HL), .val (.int v2), .val (.ref b4), .unset, .unset, .unset, .unset, .unset, .unset] [(.int (58 : Int32)), (.int SS), (.ref b4)])) _
    refine st45 _ ?_
    show Steps p.tables e below (T45.setTop (mkF m 163 #[.val (.int p1), .val (.int p2), .val (.int p3), .val (.int p4), .val (.int p5), .val (.int SS), .val (.int UL), .val (.int PL), .val (.int HL), .val (.int v2), .val (.ref b4), .unset, .unset, .unset, .unset, .unset, .unset] [])) _
    refine XS.iload X45.here hx rfl (hb hby at_163) rfl ?_
    show Steps p.tables e below (T45.setTop (mkF m 165 #[.val (.int p1), .val (.int p2), .val (.int p3), .val (.int p4), .val (.int p5), .val (.int SS), .val (.int UL), .val (.int PL), .val (.int HL), .val (.int v2), .val (.ref b4), .unset, .unset, .unset, .unset, .unset, .unset] [(.int v2)])) _
    by_cases hc47 : v2 = (0 : Int32)
    · refine XS.ifYes X45.here hx rfl (pc0 := 165) (pc' := 182) rfl (hb hby at_165) rfl ((if0 _ _).trans (teq hc47).1) (by decide) (by decide) ?_
      show Steps p.tables e below (T45.setTop (mkF m 182 #[.val (.int p1), .val (.int p2), .val (.int p3), .val (.int p4), .val (.int p5), .val (.int SS), .val (.int UL), .val (.int PL), .val (.int HL), .val (.int v2), .val (.ref b4), .unset, .unset, .unset, .unset, .unset, .unset] [])) _
      refine XS.iconst X45.here hx rfl (hb hby at_182) ?_
      rw [show v50 = (0 : Int32) from hv50.trans (if_pos hc47)] at k
      exact k
    · refine XS.ifNo X45.here hx rfl (hb hby at_165) rfl ((if0 _ _).trans (feq hc47).1) ?_
      show Steps p.tables e below (T45.setTop (mkF m 168 #[.val (.int p1), .val (.int p2), .val (.int p3), .val (.int p4), .val (.int p5), .val (.int SS), .val (.int UL), .val (.int PL), .val (.int HL), .val (.int v2), .val (.ref b4), .unset, .unset, .unset, .unset, .unset, .unset] [])) _
      refine XS.iload X45.here hx rfl (hb hby at_168) rfl ?_
      show Steps p.tables e below (T45.setTop (mkF m 170 #[.val (.int p1), .val (.int p2), .val (.int p3), .val (.int p4), .val (.int p5), .val (.int SS), .val (.int UL), .val (.int PL), .val (.int HL), .val (.int v2), .val (.ref b4), .unset, .unset, .unset, .unset, .unset, .unset] [(.int UL)])) _
      by_cases hc48 : (0 : Int32) < UL
      · refine XS.ifYes X45.here hx rfl (pc0 := 170) (pc' := 178) rfl (hb hby at_170) rfl ((if0 _ _).trans (tlt hc48).2.2.1) (by decide) (by decide) ?_
        show Steps p.tables e below (T45.setTop (mkF m 178 #[.val (.int p1), .val (.int p2), .val (.int p3), .val (.int p4), .val (.int p5), .val (.int SS), .val (.int UL), .val (.int PL), .val (.int HL), .val (.int v2), .val (.ref b4), .unset, .unset, .unset, .unset, .unset, .unset] [])) _
        refine XS.iconst X45.here hx rfl (hb hby at_178) ?_
        show Steps p.tables e below (T45.setTop (mkF m 179 #[.val (.int p1), .val (.int p2), .val (.int p3), .val (.int p4), .val (.int p5), .val (.int SS), .val (.int UL), .val (.int PL), .val (.int HL), .val (.int v2), .val (.ref b4), .unset, .unset, .unset, .unset, .unset, .unset] [(.int (1 : Int32))])) _
        refine XS.goto X45.here hx rfl (pc0 := 179) (pc' := 183) rfl (hb hby at_179) (by decide) (by decide) ?_
        rw [show v50 = (1 : Int32) from hv50.trans ((if_neg hc47).trans (if_pos hc48))] at k
        exact k
      · refine XS.ifNo X45.here hx rfl (hb hby at_170) rfl ((if0 _ _).trans (flt hc48).2.2.1) ?_
        show Steps p.tables e below (T45.setTop (mkF m 173 #[.val (.int p1), .val (.int p2), .val (.int p3), .val (.int p4), .val (.int p5), .val (.int SS), .val (.int UL), .val (.int PL), .val (.int HL), .val (.int v2), .val (.ref b4), .unset, .unset, .unset, .unset, .unset, .unset] [])) _
        refine XS.iload X45.here hx rfl (hb hby at_173) rfl ?_
        show Steps p.tables e below (T45.setTop (mkF m 175 #[.val (.int p1), .val (.int p2), .val (.int p3), .val (.int p4), .val (.int p5), .val (.int SS), .val (.int UL), .val (.int PL), .val (.int HL), .val (.int v2), .val (.ref b4), .unset, .unset, .unset, .unset, .unset, .unset] [(.int PL)])) _
        by_cases hc49 : (0 : Int32) < PL
        · refine XS.ifNo X45.here hx rfl (hb hby at_175) rfl ((if0 _ _).trans (tlt hc49).2.2.2) ?_
          show Steps p.tables e below (T45.setTop (mkF m 178 #[.val (.int p1), .val (.int p2), .val (.int p3), .val (.int p4), .val (.int p5), .val (.int SS), .val (.int UL), .val (.int PL), .val (.int HL), .val (.int v2), .val (.ref b4), .unset, .unset, .unset, .unset, .unset, .unset] [])) _
          refine XS.iconst X45.here hx rfl (hb hby at_178) ?_
          show Steps p.tables e below (T45.setTop (mkF m 179 #[.val (.int p1), .val (.int p2), .val (.int p3), .val (.int p4), .val (.int p5), .val (.int SS), .val (.int UL), .val (.int PL), .val (.int HL), .val (.int v2), .val (.ref b4), .unset, .unset, .unset, .unset, .unset, .unset] [(.int (1 : Int32))])) _
          refine XS.goto X45.here hx rfl (pc0 := 179) (pc' := 183) rfl (hb hby at_179) (by decide) (by decide) ?_
          rw [show v50 = (1 : Int32) from hv50.trans ((if_neg hc47).trans ((if_neg hc48).trans (if_pos hc49)))] at k
          exact k
        · refine XS.ifYes X45.here hx rfl (pc0 := 175) (pc' := 182) rfl (hb hby at_175) rfl ((if0 _ _).trans (flt hc49).2.2.2) (by decide) (by decide) ?_
          show Steps p.tables e below (T45.setTop (mkF m 182 #[.val (.int p1), .val (.int p2), .val (.int p3), .val (.int p4), .val (.int p5), .val (.int SS), .val (.int UL), .val (.int PL), .val (.int HL), .val (.int v2), .val (.ref b4), .unset, .unset, .unset, .unset, .unset, .unset] [])) _
          refine XS.iconst X45.here hx rfl (hb hby at_182) ?_
          rw [show v50 = (0 : Int32) from hv50.trans ((if_neg hc47).trans ((if_neg hc48).trans (if_neg hc49)))] at k
          exact k)
  obtain ⟨v80, hv80⟩ : ∃ z : Int32, z = (if v2 = (0 : Int32) then (SS + (1 : Int32)) else (if v50 = (0 : Int32) then (SS + (3 : Int32)) else ((SS + (3 : Int32)) + UL))) := ⟨_, rfl⟩
  obtain ⟨v81, hv81⟩ : ∃ z : Int32, z = (if v2 = (0 : Int32) then (SS + (1 : Int32)) else (if v50 = (0 : Int32) then (SS + (3 : Int32)) else ((if (0 : Int32) < PL then ((((SS + (3 : Int32)) + UL) + (1 : Int32)) + PL) else ((SS + (3 : Int32)) + UL)) + (1 : Int32)))) := ⟨_, rfl⟩
  obtain ⟨v82, hv82⟩ : ∃ z : Int32, z = (if v2 = (0 : Int32) then (SS + (1 : Int32)) else ((if v50 = (0 : Int32) then (SS + (3 : Int32)) else ((if (0 : Int32) < PL then ((((SS + (3 : Int32)) + UL) + (1 : Int32)) + PL) else ((SS + (3 : Int32)) + UL)) + (1 : Int32))) + HL)) := ⟨_, rfl⟩
  obtain ⟨sl83, hsl83⟩ : ∃ z : Slot, z = (if v2 = (0 : Int32) then (.unset : Slot) else (.val (.int ((SS + (3 : Int32)) + UL)) : Slot)) := ⟨_, rfl⟩
  obtain ⟨sl84, hsl84⟩ : ∃ z : Slot, z = (if v2 = (0 : Int32) then (.unset : Slot) else ((if v50 = (0 : Int32) then (.unset : Slot) else (.val (.int (if (0 : Int32) < PL then ((((SS + (3 : Int32)) + UL) + (1 : Int32)) + PL) else ((SS + (3 : Int32)) + UL))) : Slot)) : Slot)) := ⟨_, rfl⟩
  obtain ⟨y86, hy86⟩ : ∃ z : Int32 → Int32, z = (if v2 = (0 : Int32) then y45 else (if v50 = (0 : Int32) then (fun i => if i = (SS + (2 : Int32)) then (nar .char (47 : Int32)) else (fun i => if i = (SS + (1 : Int32)) then (nar .char (47 : Int32)) else y45 i) i) else (fun i => if i = (if (0 : Int32) < PL then ((((SS + (3 : Int32)) + UL) + (1 : Int32)) + PL) else ((SS + (3 : Int32)) + UL)) then (nar .char (64 : Int32)) else (if (0 : Int32) < PL then (fun i => if i = ((SS + (3 : Int32)) + UL) then (nar .char (58 : Int32)) else (fun i => if i = (SS + (2 : Int32)) then (nar .char (47 : Int32)) else (fun i => if i = (SS + (1 : Int32)) then (nar .char (47 : Int32)) else y45 i) i) i) else (fun i => if i = (SS + (2 : Int32)) then (nar .char (47 : Int32)) else (fun i => if i = (SS + (1 : Int32)) then (nar .char (47 : Int32)) else y45 i) i)) i))) := ⟨_, rfl⟩
  have pre52 : ∀ t, Steps p.tables e below (T45.setTop (mkF m 187 #[.val (.int p1), .val (.int p2), .val (.int p3), .val (.int p4), .val (.int p5), .val (.int SS), .val (.int UL), .val (.int PL), .val (.int HL), .val (.int v2), .val (.ref b4), .val (.int v50), .unset, .unset, .unset, .unset, .unset] [(.int v2)])) t → Steps p.tables e below (s₁.setTop (entryFrame m #[(.int p1), (.int p2), (.int p3), (.int p4), (.int p5)] maxLocals)) t := fun t k => pre51 t (by
    show Steps p.tables e below (T45.setTop (mkF m 183 #[.val (.int p1), .val (.int p2), .val (.int p3), .val (.int p4), .val (.int p5), .val (.int SS), .val (.int UL), .val (.int PL), .val (.int HL), .val (.int v2), .val (.ref b4), .unset, .unset, .unset, .unset, .unset, .unset] [(.int v50)])) _
    refine XS.istore X45.here hx rfl (hb hby at_183) rfl (l' := #[.val (.int p1), .val (.int p2), .val (.int p3), .val (.int p4), .val (.int p5), .val (.int SS), .val (.int UL), .val (.int PL), .val (.int HL), .val (.int v2), .val (.ref b4), .val (.int v50), .unset, .unset, .unset, .unset, .unset]) rfl ?_
    show Steps p.tables e below (T45.setTop (mkF m 185 #[.val (.int p1), .val (.int p2), .val (.int p3), .val (.int p4), .val (.int p5), .val (.int SS), .val (.int UL), .val (.int PL), .val (.int HL), .val (.int v2), .val (.ref b4), .val (.int v50), .unset, .unset, .unset, .unset, .unset] [])) _
    refine XS.iload X45.here hx rfl (hb hby at_185) rfl ?_
    exact k)
  obtain ⟨T85, L85, h85, X85, e85, N85, K85, Zs85, O85, P_b4_85, A_b4_85, pre85⟩ : ∃ (T' : State) (L' : List Loc) (h' : Heap), Stand p l e room_1 s m #[(.int p1), (.int p2), (.int p3), (.int p4), (.int p5)] below meth c T' L' 1 20 ∧ T'.heap = h' ∧ Fr n0 L' ∧ Keep h0 h' ([] : List Addr) ∧ n0 ≤ h'.size ∧ Old Z n0 h' ∧ own_P y86 ∧ own_A Z h' b4 .char (20 : Int32) (fun i => .int (y86 i)) ∧ ∀ t, Steps p.tables e below (T'.setTop (mkF m 304 #[.val (.int p1), .val (.int p2), .val (.int p3), .val (.int p4), .val (.int p5), .val (.int SS), .val (.int UL), .val (.int PL), .val (.int HL), .val (.int v2), .val (.ref b4), .val (.int v50), .val (.int v80), .val (.int v81), .val (.int v82), sl83, sl84] [])) t → Steps p.tables e below (s₁.setTop (entryFrame m #[(.int p1), (.int p2), (.int p3), (.int p4), (.int p5)] maxLocals)) t := by
    by_cases hc53 : v2 = (0 : Int32)
    · have pre54 : ∀ t, Steps p.tables e below (T45.setTop (mkF m 304 #[.val (.int p1), .val (.int p2), .val (.int p3), .val (.int p4), .val (.int p5), .val (.int SS), .val (.int UL), .val (.int PL), .val (.int HL), .val (.int v2), .val (.ref b4), .val (.int v50), .val (.int (SS + (1 : Int32))), .val (.int (SS + (1 : Int32))), .val (.int (SS + (1 : Int32))), .unset, .unset] [])) t → Steps p.tables e below (s₁.setTop (entryFrame m #[(.int p1), (.int p2), (.int p3), (.int p4), (.int p5)] maxLocals)) t := fun t k => pre52 t (by
        show Steps p.tables e below (T45.setTop (mkF m 187 #[.val (.int p1), .val (.int p2), .val (.int p3), .val (.int p4), .val (.int p5), .val (.int SS), .val (.int UL), .val (.int PL), .val (.int HL), .val (.int v2), .val (.ref b4), .val (.int v50), .unset, .unset, .unset, .unset, .unset] [(.int v2)])) _
        refine XS.ifYes X45.here hx rfl (pc0 := 187) (pc' := 290) rfl (hb hby at_187) rfl ((if0 _ _).trans (teq hc53).1) (by decide) (by decide) ?_
        show Steps p.tables e below (T45.setTop (mkF m 290 #[.val (.int p1), .val (.int p2), .val (.int p3), .val (.int p4), .val (.int p5), .val (.int SS), .val (.int UL), .val (.int PL), .val (.int HL), .val (.int v2), .val (.ref b4), .val (.int v50), .unset, .unset, .unset, .unset, .unset] [])) _
        refine XS.iload X45.here hx rfl (hb hby at_290) rfl ?_
        show Steps p.tables e below (T45.setTop (mkF m 292 #[.val (.int p1), .val (.int p2), .val (.int p3), .val (.int p4), .val (.int p5), .val (.int SS), .val (.int UL), .val (.int PL), .val (.int HL), .val (.int v2), .val (.ref b4), .val (.int v50), .unset, .unset, .unset, .unset, .unset] [(.int SS)])) _
        refine XS.iconst X45.here hx rfl (hb hby at_292) ?_
        show Steps p.tables e below (T45.setTop (mkF m 293 #[.val (.int p1), .val (.int p2), .val (.int p3), .val (.int p4), .val (.int p5), .val (.int SS), .val (.int UL), .val (.int PL), .val (.int HL), .val (.int v2), .val (.ref b4), .val (.int v50), .unset, .unset, .unset, .unset, .unset] [(.int (1 : Int32)), (.int SS)])) _
        refine XS.iadd X45.here hx rfl (hb hby at_293) rfl ?_
        show Steps p.tables e below (T45.setTop (mkF m 294 #[.val (.int p1), .val (.int p2), .val (.int p3), .val (.int p4), .val (.int p5), .val (.int SS), .val (.int UL), .val (.int PL), .val (.int HL), .val (.int v2), .val (.ref b4), .val (.int v50), .unset, .unset, .unset, .unset, .unset] [(.int (SS + (1 : Int32)))])) _
        refine XS.istore X45.here hx rfl (hb hby at_294) rfl (l' := #[.val (.int p1), .val (.int p2), .val (.int p3), .val (.int p4), .val (.int p5), .val (.int SS), .val (.int UL), .val (.int PL), .val (.int HL), .val (.int v2), .val (.ref b4), .val (.int v50), .unset, .val (.int (SS + (1 : Int32))), .unset, .unset, .unset]) rfl ?_
        show Steps p.tables e below (T45.setTop (mkF m 296 #[.val (.int p1), .val (.int p2), .val (.int p3), .val (.int p4), .val (.int p5), .val (.int SS), .val (.int UL), .val (.int PL), .val (.int HL), .val (.int v2), .val (.ref b4), .val (.int v50), .unset, .val (.int (SS + (1 : Int32))), .unset, .unset, .unset] [])) _
        refine XS.iload X45.here hx rfl (hb hby at_296) rfl ?_
        show Steps p.tables e below (T45.setTop (mkF m 298 #[.val (.int p1), .val (.int p2), .val (.int p3), .val (.int p4), .val (.int p5), .val (.int SS), .val (.int UL), .val (.int PL), .val (.int HL), .val (.int v2), .val (.ref b4), .val (.int v50), .unset, .val (.int (SS + (1 : Int32))), .unset, .unset, .unset] [(.int (SS + (1 : Int32)))])) _
        refine XS.istore X45.here hx rfl (hb hby at_298) rfl (l' := #[.val (.int p1), .val (.int p2), .val (.int p3), .val (.int p4), .val (.int p5), .val (.int SS), .val (.int UL), .val (.int PL), .val (.int HL), .val (.int v2), .val (.ref b4), .val (.int v50), .val (.int (SS + (1 : Int32))), .val (.int (SS + (1 : Int32))), .unset, .unset, .unset]) rfl ?_
        show Steps p.tables e below (T45.setTop (mkF m 300 #[.val (.int p1), .val (.int p2), .val (.int p3), .val (.int p4), .val (.int p5), .val (.int SS), .val (.int UL), .val (.int PL), .val (.int HL), .val (.int v2), .val (.ref b4), .val (.int v50), .val (.int (SS + (1 : Int32))), .val (.int (SS + (1 : Int32))), .unset, .unset, .unset] [])) _
        refine XS.iload X45.here hx rfl (hb hby at_300) rfl ?_
        show Steps p.tables e below (T45.setTop (mkF m 302 #[.val (.int p1), .val (.int p2), .val (.int p3), .val (.int p4), .val (.int p5), .val (.int SS), .val (.int UL), .val (.int PL), .val (.int HL), .val (.int v2), .val (.ref b4), .val (.int v50), .val (.int (SS + (1 : Int32))), .val (.int (SS + (1 : Int32))), .unset, .unset, .unset] [(.int (SS + (1 : Int32)))])) _
        refine XS.istore X45.here hx rfl (hb hby at_302) rfl (l' := #[.val (.int p1), .val (.int p2), .val (.int p3), .val (.int p4), .val (.int p5), .val (.int SS), .val (.int UL), .val (.int PL), .val (.int HL), .val (.int v2), .val (.ref b4), .val (.int v50), .val (.int (SS + (1 : Int32))), .val (.int (SS + (1 : Int32))), .val (.int (SS + (1 : Int32))), .unset, .unset]) rfl ?_
        exact k)
      have evv80 : v80 = (SS + (1 : Int32)) := by exact hv80.trans (if_pos hc53)
      have evv81 : v81 = (SS + (1 : Int32)) := by exact hv81.trans (if_pos hc53)
      have evv82 : v82 = (SS + (1 : Int32)) := by exact hv82.trans (if_pos hc53)
      have evsl83 : sl83 = (.unset : Slot) := by exact hsl83.trans (if_pos hc53)
      have evsl84 : sl84 = (.unset : Slot) := by exact hsl84.trans (if_pos hc53)
      have evy86 : y86 = y45 := by exact hy86.trans (if_pos hc53)
      subst evv80
      subst evv81
      subst evv82
      subst evsl83
      subst evsl84
      subst evy86
      exact ⟨T45, _, h45, X45, e45, N45, K45, Zs45, O45, P_b4_45, A_b4_45, pre54⟩
    · obtain ⟨cl56, Ar56, Sz56, Mz56, Hz56⟩ := id A_b4_45
      have hin55 := inb_of (j := (SS + (1 : Int32))) Sz56 (own_i1 hSS 1 (by decide) (by decide))
      obtain ⟨T55, h55, X55, e55, W55, st55⟩ := stC X45 hx hZ e45 Ar56 (j := (SS + (1 : Int32))) hin55 (g := (mkF m 198 #[.val (.int p1), .val (.int p2), .val (.int p3), .val (.int p4), .val (.int p5), .val (.int SS), .val (.int UL), .val (.int PL), .val (.int HL), .val (.int v2), .val (.ref b4), .val (.int v50), .unset, .unset, .unset, .unset, .unset] [(.int (47 : Int32)), (.int (SS + (1 : Int32))), (.ref b4)])) rfl rfl (hb hby at_198)
      obtain ⟨y55, hy55⟩ : ∃ yy_ : Int32 → Int32, yy_ = fun i => if i = (SS + (1 : Int32)) then (nar .char (47 : Int32)) else y45 i := ⟨_, rfl⟩
      have K55 := K45.wr W55 (Or.inr sz_b4)
      have Zs55 := Nat.le_trans Zs45 (Keep.of_wr W55).1
      have N55 := Fr.snoc X55 N45 g_b4
      have O55 := O45.wr W55 g_b4
      have A_b4_55 : own_A Z h55 b4 .char (20 : Int32) (fun i => .int (y55 i)) := by subst hy55; exact own_A_set Ar56 Sz56 Mz56 Hz56 hin55 W55 (own_setI (y := y45) (j := (SS + (1 : Int32))) (x := (nar .char (47 : Int32)))) (own_setI' (y := y45) (j := (SS + (1 : Int32))) (x := (nar .char (47 : Int32))))
      have P_b4_55 : own_P y55 := by subst hy55; exact own_P_set P_b4_45 (by decide)
      obtain ⟨cl58, Ar58, Sz58, Mz58, Hz58⟩ := id A_b4_55
      have hin57 := inb_of (j := (SS + (2 : Int32))) Sz58 (own_i1 hSS 2 (by decide) (by decide))
      obtain ⟨T57, h57, X57, e57, W57, st57⟩ := stC X55 hx hZ e55 Ar58 (j := (SS + (2 : Int32))) hin57 (g := (mkF m 207 #[.val (.int p1), .val (.int p2), .val (.int p3), .val (.int p4), .val (.int p5), .val (.int SS), .val (.int UL), .val (.int PL), .val (.int HL), .val (.int v2), .val (.ref b4), .val (.int v50), .unset, .unset, .unset, .unset, .unset] [(.int (47 : Int32)), (.int (SS + (2 : Int32))), (.ref b4)])) rfl rfl (hb hby at_207)
      obtain ⟨y57, hy57⟩ : ∃ yy_ : Int32 → Int32, yy_ = fun i => if i = (SS + (2 : Int32)) then (nar .char (47 : Int32)) else y55 i := ⟨_, rfl⟩
      have K57 := K55.wr W57 (Or.inr sz_b4)
      have Zs57 := Nat.le_trans Zs55 (Keep.of_wr W57).1
      have N57 := Fr.snoc X57 N55 g_b4
      have O57 := O55.wr W57 g_b4
      have A_b4_57 : own_A Z h57 b4 .char (20 : Int32) (fun i => .int (y57 i)) := by subst hy57; exact own_A_set Ar58 Sz58 Mz58 Hz58 hin57 W57 (own_setI (y := y55) (j := (SS + (2 : Int32))) (x := (nar .char (47 : Int32)))) (own_setI' (y := y55) (j := (SS + (2 : Int32))) (x := (nar .char (47 : Int32))))
      have P_b4_57 : own_P y57 := by subst hy57; exact own_P_set P_b4_55 (by decide)
      obtain ⟨v74, hv74⟩ : ∃ z : Int32, z = (if v50 = (0 : Int32) then (SS + (3 : Int32)) else ((SS + (3 : Int32)) + UL)) := ⟨_, rfl⟩
      obtain ⟨v75, hv75⟩ : ∃ z : Int32, z = (if v50 = (0 : Int32) then (SS + (3 : Int32)) else ((if (0 : Int32) < PL then ((((SS + (3 : Int32)) + UL) + (1 : Int32)) + PL) else ((SS + (3 : Int32)) + UL)) + (1 : Int32))) := ⟨_, rfl⟩
      obtain ⟨sl76, hsl76⟩ : ∃ z : Slot, z = (if v50 = (0 : Int32) then (.unset : Slot) else (.val (.int (if (0 : Int32) < PL then ((((SS + (3 : Int32)) + UL) + (1 : Int32)) + PL) else ((SS + (3 : Int32)) + UL))) : Slot)) := ⟨_, rfl⟩
      obtain ⟨y78, hy78⟩ : ∃ z : Int32 → Int32, z = (if v50 = (0 : Int32) then y57 else (fun i => if i = (if (0 : Int32) < PL then ((((SS + (3 : Int32)) + UL) + (1 : Int32)) + PL) else ((SS + (3 : Int32)) + UL)) then (nar .char (64 : Int32)) else (if (0 : Int32) < PL then (fun i => if i = ((SS + (3 : Int32)) + UL) then (nar .char (58 : Int32)) else y57 i) else y57) i)) := ⟨_, rfl⟩
      have pre59 : ∀ t, Steps p.tables e below (T57.setTop (mkF m 219 #[.val (.int p1), .val (.int p2), .val (.int p3), .val (.int p4), .val (.int p5), .val (.int SS), .val (.int UL), .val (.int PL), .val (.int HL), .val (.int v2), .val (.ref b4), .val (.int v50), .unset, .unset, .unset, .val (.int ((SS + (3 : Int32)) + UL)), .unset] [(.int v50)])) t → Steps p.tables e below (s₁.setTop (entryFrame m #[(.int p1), (.int p2), (.int p3), (.int p4), (.int p5)] maxLocals)) t := fun t k => pre52 t (by
        show Steps p.tables e below (T45.setTop (mkF m 187 #[.val (.int p1), .val (.int p2), .val (.int p3), .val (.int p4), .val (.int p5), .val (.int SS), .val (.int UL), .val (.int PL), .val (.int HL), .val (.int v2), .val (.ref b4), .val (.int v50), .unset, .unset, .unset, .unset, .unset] [(.int v2)])) _
        refine XS.ifNo X45.here hx rfl (hb hby at_187) rfl ((if0 _ _).trans (feq hc53).1) ?_
        show Steps p.tables e below (T45.setTop (mkF m 190 #[.val (.int p1), .val (.int p2), .val (.int p3), .val (.int p4), .val (.int p5), .val (.int SS), .val (.int UL), .val (.int PL), .val (.int HL), .val (.int v2), .val (.ref b4), .val (.int v50), .unset, .unset, .unset, .unset, .unset] [])) _
        refine XS.aload X45.here hx rfl (hb hby at_190) rfl rfl ?_
        show Steps p.tables e below (T45.setTop (mkF m 192 #[.val (.int p1), .val (.int p2), .val (.int p3), .val (.int p4), .val (.int p5), .val (.int SS), .val (.int UL), .val (.int PL), .val (.int HL), .val (.int v2), .val (.ref b4), .val (.int v50), .unset, .unset, .unset, .unset, .unset] [(.ref b4)])) _
        refine XS.iload X45.here hx rfl (hb hby at_192) rfl ?_
        show Steps p.tables e below (T45.setTop (mkF m 194 #[.val (.int p1), .val (.int p2), .val (.int p3), .val (.int p4), .val (.int p5), .val (.int SS), .val (.int UL), .val (.int PL), .val (.int HL), .val (.int v2), .val (.ref b4), .val (.int v50), .unset, .unset, .unset, .unset, .unset] [(.int SS), (.ref b4)])) _
        refine XS.iconst X45.here hx rfl (hb hby at_194) ?_
        show Steps p.tables e below (T45.setTop (mkF m 195 #[.val (.int p1), .val (.int p2), .val (.int p3), .val (.int p4), .val (.int p5), .val (.int SS), .val (.int UL), .val (.int PL), .val (.int HL), .val (.int v2), .val (.ref b4), .val (.int v50), .unset, .unset, .unset, .unset, .unset] [(.int (1 : Int32)), (.int SS), (.ref b4)])) _
        refine XS.iadd X45.here hx rfl (hb hby at_195) rfl ?_
        show Steps p.tables e below (T45.setTop (mkF m 196 #[.val (.int p1), .val (.int p2), .val (.int p3), .val (.int p4), .val (.int p5), .val (.int SS), .val (.int UL), .val (.int PL), .val (.int HL), .val (.int v2), .val (.ref b4), .val (.int v50), .unset, .unset, .unset, .unset, .unset] [(.int (SS + (1 : Int32))), (.ref b4)])) _
        refine XS.bipush X45.here hx rfl (hb hby at_196) ?_
        show Steps p.tables e below (T45.setTop (mkF m 198 #[.val (.int p1), .val (.int p2), .val (.int p3), .val (.int p4), .val (.int p5), .val (.int SS), .val (.int UL), .val (.int PL), .val (.int HL), .val (.int v2), .val (.ref b4), .val (.int v50), .unset, .unset, .unset, .unset, .unset] [(.int (47 : Int32)), (.int (SS + (1 : Int32))), (.ref b4)])) _
        refine st55 _ ?_
        show Steps p.tables e below (T55.setTop (mkF m 199 #[.val (.int p1), .val (.int p2), .val (.int p3), .val (.int p4), .val (.int p5), .val (.int SS), .val (.int UL), .val (.int PL), .val (.int HL), .val (.int v2), .val (.ref b4), .val (.int v50), .unset, .unset, .unset, .unset, .unset] [])) _
        refine XS.aload X55.here hx rfl (hb hby at_199) rfl rfl ?_
        show Steps p.tables e below (T55.setTop (mkF m 201 #[.val (.int p1), .val (.int p2), .val (.int p3), .val (.int p4), .val (.int p5), .val (.int SS), .val (.int UL), .val (.int PL), .val (.int HL), .val (.int v2), .val (.ref b4), .val (.int v50), .unset, .unset, .unset, .unset, .unset] [(.ref b4)])) _
        refine XS.iload X55.here hx rfl (hb hby at_201) rfl ?_
        show Steps p.tables e below (T55.setTop (mkF m 203 #[.val (.int p1), .val (.int p2), .val (.int p3), .val (.int p4), .val (.int p5), .val (.int SS), .val (.int UL), .val (.int PL), .val (.int HL), .val (.int v2), .val (.ref b4), .val (.int v50), .unset, .unset, .unset, .unset, .unset] [(.int SS), (.ref b4)])) _
        refine XS.iconst X55.here hx rfl (hb hby at_203) ?_
        show Steps p.tables e below (T55.setTop (mkF m 204 #[.val (.int p1), .val (.int p2), .val (.int p3), .val (.int p4), .val (.int p5), .val (.int SS), .val (.int UL), .val (.int PL), .val (.int HL), .val (.int v2), .val (.ref b4), .val (.int v50), .unset, .unset, .unset, .unset, .unset] [(.int (2 : Int32)), (.int SS), (.ref b4)])) _
        refine XS.iadd X55.here hx rfl (hb hby at_204) rfl ?_
        show Steps p.tables e below (T55.setTop (mkF m 205 #[.val (.int p1), .val (.int p2), .val (.int p3), .val (.int p4), .val (.int p5), .val (.int SS), .val (.int UL), .val (.int PL), .val (.int HL), .val (.int v2), .val (.ref b4), .val (.int v50), .unset, .unset, .unset, .unset, .unset] [(.int (SS + (2 : Int32))), (.ref b4)])) _
        refine XS.bipush X55.here hx rfl (hb hby at_205) ?_
        show Steps p.tables e below (T55.setTop (mkF m 207 #[.val (.int p1), .val (.int p2), .val (.int p3), .val (.int p4), .val (.int p5), .val (.int SS), .val (.int UL), .val (.int PL), .val (.int HL), .val (.int v2), .val (.ref b4), .val (.int v50), .unset, .unset, .unset, .unset, .unset] [(.int (47 : Int32)), (.int (SS + (2 : Int32))), (.ref b4)])) _
        refine st57 _ ?_
        show Steps p.tables e below (T57.setTop (mkF m 208 #[.val (.int p1), .val (.int p2), .val (.int p3), .val (.int p4), .val (.int p5), .val (.int SS), .val (.int UL), .val (.int PL), .val (.int HL), .val (.int v2), .val (.ref b4), .val (.int v50), .unset, .unset, .unset, .unset, .unset] [])) _
        refine XS.iload X57.here hx rfl (hb hby at_208) rfl ?_
        show Steps p.tables e below (T57.setTop (mkF m 210 #[.val (.int p1), .val (.int p2), .val (.int p3), .val (.int p4), .val (.int p5), .val (.int SS), .val (.int UL), .val (.int PL), .val (.int HL), .val (.int v2), .val (.ref b4), .val (.int v50), .unset, .unset, .unset, .unset, .unset] [(.int SS)])) _
        refine XS.iconst X57.here hx rfl (hb hby at_210) ?_
        show Steps p.tables e below (T57.setTop (mkF m 211 #[.val (.int p1), .val (.int p2), .val (.int p3), .val (.int p4), .val (.int p5), .val (.int SS), .val (.int UL), .val (.int PL), .val (.int HL), .val (.int v2), .val (.ref b4), .val (.int v50), .unset, .unset, .unset, .unset, .unset] [(.int (3 : Int32)), (.int SS)])) _
        refine XS.iadd X57.here hx rfl (hb hby at_211) rfl ?_
        show Steps p.tables e below (T57.setTop (mkF m 212 #[.val (.int p1), .val (.int p2), .val (.int p3), .val (.int p4), .val (.int p5), .val (.int SS), .val (.int UL), .val (.int PL), .val (.int HL), .val (.int v2), .val (.ref b4), .val (.int v50), .unset, .unset, .unset, .unset, .unset] [(.int (SS + (3 : Int32)))])) _
        refine XS.iload X57.here hx rfl (hb hby at_212) rfl ?_
        show Steps p.tables e below (T57.setTop (mkF m 214 #[.val (.int p1), .val (.int p2), .val (.int p3), .val (.int p4), .val (.int p5), .val (.int SS), .val (.int UL), .val (.int PL), .val (.int HL), .val (.int v2), .val (.ref b4), .val (.int v50), .unset, .unset, .unset, .unset, .unset] [(.int UL), (.int (SS + (3 : Int32)))])) _
        refine XS.iadd X57.here hx rfl (hb hby at_214) rfl ?_
        show Steps p.tables e below (T57.setTop (mkF m 215 #[.val (.int p1), .val (.int p2), .val (.int p3), .val (.int p4), .val (.int p5), .val (.int SS), .val (.int UL), .val (.int PL), .val (.int HL), .val (.int v2), .val (.ref b4), .val (.int v50), .unset, .unset, .unset, .unset, .unset] [(.int ((SS + (3 : Int32)) + UL))])) _
        refine XS.istore X57.here hx rfl (hb hby at_215) rfl (l' := #[.val (.int p1), .val (.int p2), .val (.int p3), .val (.int p4), .val (.int p5), .val (.int SS), .val (.int UL), .val (.int PL), .val (.int HL), .val (.int v2), .val (.ref b4), .val (.int v50), .unset, .unset, .unset, .val (.int ((SS + (3 : Int32)) + UL)), .unset]) rfl ?_
        show Steps p.tables e below (T57.setTop (mkF m 217 #[.val (.int p1), .val (.int p2), .val (.int p3), .val (.int p4), .val (.int p5), .val (.int SS), .val (.int UL), .val (.int PL), .val (.int HL), .val (.int v2), .val (.ref b4), .val (.int v50), .unset, .unset, .unset, .val (.int ((SS + (3 : Int32)) + UL)), .unset] [])) _
        refine XS.iload X57.here hx rfl (hb hby at_217) rfl ?_
        exact k)
      obtain ⟨T77, L77, h77, X77, e77, N77, K77, Zs77, O77, P_b4_77, A_b4_77, pre77⟩ : ∃ (T' : State) (L' : List Loc) (h' : Heap), Stand p l e room_1 s m #[(.int p1), (.int p2), (.int p3), (.int p4), (.int p5)] below meth c T' L' 1 20 ∧ T'.heap = h' ∧ Fr n0 L' ∧ Keep h0 h' ([] : List Addr) ∧ n0 ≤ h'.size ∧ Old Z n0 h' ∧ own_P y78 ∧ own_A Z h' b4 .char (20 : Int32) (fun i => .int (y78 i)) ∧ ∀ t, Steps p.tables e below (T'.setTop (mkF m 280 #[.val (.int p1), .val (.int p2), .val (.int p3), .val (.int p4), .val (.int p5), .val (.int SS), .val (.int UL), .val (.int PL), .val (.int HL), .val (.int v2), .val (.ref b4), .val (.int v50), .val (.int v74), .val (.int v75), .unset, .val (.int ((SS + (3 : Int32)) + UL)), sl76] [])) t → Steps p.tables e below (s₁.setTop (entryFrame m #[(.int p1), (.int p2), (.int p3), (.int p4), (.int p5)] maxLocals)) t := by
        by_cases hc60 : v50 = (0 : Int32)
        · have pre61 : ∀ t, Steps p.tables e below (T57.setTop (mkF m 280 #[.val (.int p1), .val (.int p2), .val (.int p3), .val (.int p4), .val (.int p5), .val (.int SS), .val (.int UL), .val (.int PL), .val (.int HL), .val (.int v2), .val (.ref b4), .val (.int v50), .val (.int (SS + (3 : Int32))), .val (.int (SS + (3 : Int32))), .unset, .val (.int ((SS + (3 : Int32)) + UL)), .unset] [])) t → Steps p.tables e below (s₁.setTop (entryFrame m #[(.int p1), (.int p2), (.int p3), (.int p4), (.int p5)] maxLocals)) t := fun t k => pre59 t (by
            show Steps p.tables e below (T57.setTop (mkF m 219 #[.val (.int p1), .val (.int p2), .val (.int p3), .val (.int p4), .val (.int p5), .val (.int SS), .val (.int UL), .val (.int PL), .val (.int HL), .val (.int v2), .val (.ref b4), .val (.int v50), .unset, .unset, .unset, .val (.int ((SS + (3 : Int32)) + UL)), .unset] [(.int v50)])) _
            refine XS.ifYes X57.here hx rfl (pc0 := 219) (pc' := 270) rfl (hb hby at_219) rfl ((if0 _ _).trans (teq hc60).1) (by decide) (by decide) ?_
            show Steps p.tables e below (T57.setTop (mkF m 270 #[.val (.int p1), .val (.int p2), .val (.int p3), .val (.int p4), .val (.int p5), .val (.int SS), .val (.int UL), .val (.int PL), .val (.int HL), .val (.int v2), .val (.ref b4), .val (.int v50), .unset, .unset, .unset, .val (.int ((SS + (3 : Int32)) + UL)), .unset] [])) _
            refine XS.iload X57.here hx rfl (hb hby at_270) rfl ?_
            show Steps p.tables e below (T57.setTop (mkF m 272 #[.val (.int p1), .val (.int p2), .val (.int p3), .val (.int p4), .val (.int p5), .val (.int SS), .val (.int UL), .val (.int PL), .val (.int HL), .val (.int v2), .val (.ref b4), .val (.int v50), .unset, .unset, .unset, .val (.int ((SS + (3 : Int32)) + UL)), .unset] [(.int SS)])) _
            refine XS.iconst X57.here hx rfl (hb hby at_272) ?_
            show Steps p.tables e below (T57.setTop (mkF m 273 #[.val (.int p1), .val (.int p2), .val (.int p3), .val (.int p4), .val (.int p5), .val (.int SS), .val (.int UL), .val (.int PL), .val (.int HL), .val (.int v2), .val (.ref b4), .val (.int v50), .unset, .unset, .unset, .val (.int ((SS + (3 : Int32)) + UL)), .unset] [(.int (3 : Int32)), (.int SS)])) _
            refine XS.iadd X57.here hx rfl (hb hby at_273) rfl ?_
            show Steps p.tables e below (T57.setTop (mkF m 274 #[.val (.int p1), .val (.int p2), .val (.int p3), .val (.int p4), .val (.int p5), .val (.int SS), .val (.int UL), .val (.int PL), .val (.int HL), .val (.int v2), .val (.ref b4), .val (.int v50), .unset, .unset, .unset, .val (.int ((SS + (3 : Int32)) + UL)), .unset] [(.int (SS + (3 : Int32)))])) _
            refine XS.istore X57.here hx rfl (hb hby at_274) rfl (l' := #[.val (.int p1), .val (.int p2), .val (.int p3), .val (.int p4), .val (.int p5), .val (.int SS), .val (.int UL), .val (.int PL), .val (.int HL), .val (.int v2), .val (.ref b4), .val (.int v50), .unset, .val (.int (SS + (3 : Int32))), .unset, .val (.int ((SS + (3 : Int32)) + UL)), .unset]) rfl ?_
            show Steps p.tables e below (T57.setTop (mkF m 276 #[.val (.int p1), .val (.int p2), .val (.int p3), .val (.int p4), .val (.int p5), .val (.int SS), .val (.int UL), .val (.int PL), .val (.int HL), .val (.int v2), .val (.ref b4), .val (.int v50), .unset, .val (.int (SS + (3 : Int32))), .unset, .val (.int ((SS + (3 : Int32)) + UL)), .unset] [])) _
            refine XS.iload X57.here hx rfl (hb hby at_276) rfl ?_
            show Steps p.tables e below (T57.setTop (mkF m 278 #[.val (.int p1), .val (.int p2), .val (.int p3), .val (.int p4), .val (.int p5), .val (.int SS), .val (.int UL), .val (.int PL), .val (.int HL), .val (.int v2), .val (.ref b4), .val (.int v50), .unset, .val (.int (SS + (3 : Int32))), .unset, .val (.int ((SS + (3 : Int32)) + UL)), .unset] [(.int (SS + (3 : Int32)))])) _
            refine XS.istore X57.here hx rfl (hb hby at_278) rfl (l' := #[.val (.int p1), .val (.int p2), .val (.int p3), .val (.int p4), .val (.int p5), .val (.int SS), .val (.int UL), .val (.int PL), .val (.int HL), .val (.int v2), .val (.ref b4), .val (.int v50), .val (.int (SS + (3 : Int32))), .val (.int (SS + (3 : Int32))), .unset, .val (.int ((SS + (3 : Int32)) + UL)), .unset]) rfl ?_
            exact k)
          have evv74 : v74 = (SS + (3 : Int32)) := by exact hv74.trans (if_pos hc60)
          have evv75 : v75 = (SS + (3 : Int32)) := by exact hv75.trans (if_pos hc60)
          have evsl76 : sl76 = (.unset : Slot) := by exact hsl76.trans (if_pos hc60)
          have evy78 : y78 = y57 := by exact hy78.trans (if_pos hc60)
          subst evv74
          subst evv75
          subst evsl76
          subst evy78
          exact ⟨T57, _, h57, X57, e57, N57, K57, Zs57, O57, P_b4_57, A_b4_57, pre61⟩
        · obtain ⟨v68, hv68⟩ : ∃ z : Int32, z = (if (0 : Int32) < PL then ((((SS + (3 : Int32)) + UL) + (1 : Int32)) + PL) else ((SS + (3 : Int32)) + UL)) := ⟨_, rfl⟩
          obtain ⟨y70, hy70⟩ : ∃ z : Int32 → Int32, z = (if (0 : Int32) < PL then (fun i => if i = ((SS + (3 : Int32)) + UL) then (nar .char (58 : Int32)) else y57 i) else y57) := ⟨_, rfl⟩
          have pre62 : ∀ t, Steps p.tables e below (T57.setTop (mkF m 224 #[.val (.int p1), .val (.int p2), .val (.int p3), .val (.int p4), .val (.int p5), .val (.int SS), .val (.int UL), .val (.int PL), .val (.int HL), .val (.int v2), .val (.ref b4), .val (.int v50), .unset, .unset, .unset, .val (.int ((SS + (3 : Int32)) + UL)), .unset] [(.int PL)])) t → Steps p.tables e below (s₁.setTop (entryFrame m #[(.int p1), (.int p2), (.int p3), (.int p4), (.int p5)] maxLocals)) t := fun t k => pre59 t (by
            show Steps p.tables e below (T57.setTop (mkF m 219 #[.val (.int p1), .val (.int p2), .val (.int p3), .val (.int p4), .val (.int p5), .val (.int SS), .val (.int UL), .val (.int PL), .val (.int HL), .val (.int v2), .val (.ref b4), .val (.int v50), .unset, .unset, .unset, .val (.int ((SS + (3 : Int32)) + UL)), .unset] [(.int v50)])) _
            refine XS.ifNo X57.here hx rfl (hb hby at_219) rfl ((if0 _ _).trans (feq hc60).1) ?_
            show Steps p.tables e below (T57.setTop (mkF m 222 #[.val (.int p1), .val (.int p2), .val (.int p3), .val (.int p4), .val (.int p5), .val (.int SS), .val (.int UL), .val (.int PL), .val (.int HL), .val (.int v2), .val (.ref b4), .val (.int v50), .unset, .unset, .unset, .val (.int ((SS + (3 : Int32)) + UL)), .unset] [])) _
            refine XS.iload X57.here hx rfl (hb hby at_222) rfl ?_
            exact k)
          obtain ⟨T69, L69, h69, X69, e69, N69, K69, Zs69, O69, P_b4_69, A_b4_69, pre69⟩ : ∃ (T' : State) (L' : List Loc) (h' : Heap), Stand p l e room_1 s m #[(.int p1), (.int p2), (.int p3), (.int p4), (.int p5)] below meth c T' L' 1 20 ∧ T'.heap = h' ∧ Fr n0 L' ∧ Keep h0 h' ([] : List Addr) ∧ n0 ≤ h'.size ∧ Old Z n0 h' ∧ own_P y70 ∧ own_A Z h' b4 .char (20 : Int32) (fun i => .int (y70 i)) ∧ ∀ t, Steps p.tables e below (T'.setTop (mkF m 250 #[.val (.int p1), .val (.int p2), .val (.int p3), .val (.int p4), .val (.int p5), .val (.int SS), .val (.int UL), .val (.int PL), .val (.int HL), .val (.int v2), .val (.ref b4), .val (.int v50), .unset, .unset, .unset, .val (.int ((SS + (3 : Int32)) + UL)), .val (.int v68)] [])) t → Steps p.tables e below (s₁.setTop (entryFrame m #[(.int p1), (.int p2), (.int p3), (.int p4), (.int p5)] maxLocals)) t := by
            by_cases hc63 : (0 : Int32) < PL
            · obtain ⟨cl65, Ar65, Sz65, Mz65, Hz65⟩ := id A_b4_57
              have hin64 := inb_of (j := ((SS + (3 : Int32)) + UL)) Sz65 (own_i2 hSS hUL)
              obtain ⟨T64, h64, X64, e64, W64, st64⟩ := stC X57 hx hZ e57 Ar65 (j := ((SS + (3 : Int32)) + UL)) hin64 (g := (mkF m 233 #[.val (.int p1), .val (.int p2), .val (.int p3), .val (.int p4), .val (.int p5), .val (.int SS), .val (.int UL), .val (.int PL), .val (.int HL), .val (.int v2), .val (.ref b4), .val (.int v50), .unset, .unset, .unset, .val (.int ((SS + (3 : Int32)) + UL)), .unset] [(.int (58 : Int32)), (.int ((SS + (3 : Int32)) + UL)), (.ref b4)])) rfl rfl (hb hby at_233)
              obtain ⟨y64, hy64⟩ : ∃ yy_ : Int32 → Int32, yy_ = fun i => if i = ((SS + (3 : Int32)) + UL) then (nar .char (58 : Int32)) else y57 i := ⟨_, rfl⟩
              have K64 := K57.wr W64 (Or.inr sz_b4)
              have Zs64 := Nat.le_trans Zs57 (Keep.of_wr W64).1
              have N64 := Fr.snoc X64 N57 g_b4
              have O64 := O57.wr W64 g_b4
              have A_b4_64 : own_A Z h64 b4 .char (20 : Int32) (fun i => .int (y64 i)) := by subst hy64; exact own_A_set Ar65 Sz65 Mz65 Hz65 hin64 W64 (own_setI (y := y57) (j := ((SS + (3 : Int32)) + UL)) (x := (nar .char (58 : Int32)))) (own_setI' (y := y57) (j := ((SS + (3 : Int32)) + UL)) (x := (nar .char (58 : Int32))))
              have P_b4_64 : own_P y64 := by subst hy64; exact own_P_set P_b4_57 (by decide)
              have pre66 : ∀ t, Steps p.tables e below (T64.setTop (mkF m 250 #[.val (.int p1), .val (.int p2), .val (.int p3), .val (.int p4), .val (.int p5), .val (.int SS), .val (.int UL), .val (.int PL), .val (.int HL), .val (.int v2), .val (.ref b4), .val (.int v50), .unset, .unset, .unset, .val (.int ((SS + (3 : Int32)) + UL)), .val (.int ((((SS + (3 : Int32)) + UL) + (1 : Int32)) + PL))] [])) t → Steps p.tables e below (s₁.setTop (entryFrame m #[(.int p1), (.int p2), (.int p3), (.int p4), (.int p5)] maxLocals)) t := fun t k => pre62 t (by
                show Steps p.tables e below (T57.setTop (mkF m 224 #[.val (.int p1), .val (.int p2), .val (.int p3), .val (.int p4), .val (.int p5), .val (.int SS), .val (.int UL), .val (.int PL), .val (.int HL), .val (.int v2), .val (.ref b4), .val (.int v50), .unset, .unset, .unset, .val (.int ((SS + (3 : Int32)) + UL)), .unset] [(.int PL)])) _
                refine XS.ifNo X57.here hx rfl (hb hby at_224) rfl ((if0 _ _).trans (tlt hc63).2.2.2) ?_
                show Steps p.tables e below (T57.setTop (mkF m 227 #[.val (.int p1), .val (.int p2), .val (.int p3), .val (.int p4), .val (.int p5), .val (.int SS), .val (.int UL), .val (.int PL), .val (.int HL), .val (.int v2), .val (.ref b4), .val (.int v50), .unset, .unset, .unset, .val (.int ((SS + (3 : Int32)) + UL)), .unset] [])) _
                refine XS.aload X57.here hx rfl (hb hby at_227) rfl rfl ?_
                show Steps p.tables e below (T57.setTop (mkF m 229 #[.val (.int p1), .val (.int p2), .val (.int p3), .val (.int p4), .val (.int p5), .val (.int SS), .val (.int UL), .val (.int PL), .val (.int HL), .val (.int v2), .val (.ref b4), .val (.int v50), .unset, .unset, .unset, .val (.int ((SS + (3 : Int32)) + UL)), .unset] [(.ref b4)])) _
                refine XS.iload X57.here hx rfl (hb hby at_229) rfl ?_
                show Steps p.tables e below (T57.setTop (mkF m 231 #[.val (.int p1), .val (.int p2), .val (.int p3), .val (.int p4), .val (.int p5), .val (.int SS), .val (.int UL), .val (.int PL), .val (.int HL), .val (.int v2), .val (.ref b4), .val (.int v50), .unset, .unset, .unset, .val (.int ((SS + (3 : Int32)) + UL)), .unset] [(.int ((SS + (3 : Int32)) + UL)), (.ref b4)])) _
                refine XS.bipush X57.here hx rfl (hb hby at_231) ?_
                show Steps p.tables e below (T57.setTop (mkF m 233 #[.val (.int p1), .val (.int p2), .val (.int p3), .val (.int p4), .val (.int p5), .val (.int SS), .val (.int UL), .val (.int PL), .val (.int HL), .val (.int v2), .val (.ref b4), .val (.int v50), .unset, .unset, .unset, .val (.int ((SS + (3 : Int32)) + UL)), .unset] [(.int (58 : Int32)), (.int ((SS + (3 : Int32)) + UL)), (.ref b4)])) _
                refine st64 _ ?_
                show Steps p.tables e below (T64.setTop (mkF m 234 #[.val (.int p1), .val (.int p2), .val (.int p3), .val (.int p4), .val (.int p5), .val (.int SS), .val (.int UL), .val (.int PL), .val (.int HL), .val (.int v2), .val (.ref b4), .val (.int v50), .unset, .unset, .unset, .val (.int ((SS + (3 : Int32)) + UL)), .unset] [])) _
                refine XS.iload X64.here hx rfl (hb hby at_234) rfl ?_
                show Steps p.tables e below (T64.setTop (mkF m 236 #[.val (.int p1), .val (.int p2), .val (.int p3), .val (.int p4), .val (.int p5), .val (.int SS), .val (.int UL), .val (.int PL), .val (.int HL), .val (.int v2), .val (.ref b4), .val (.int v50), .unset, .unset, .unset, .val (.int ((SS + (3 : Int32)) + UL)), .unset] [(.int ((SS + (3 : Int32)) + UL))])) _
                refine XS.iconst X64.here hx rfl (hb hby at_236) ?_
                show Steps p.tables e below (T64.setTop (mkF m 237 #[.val (.int p1), .val (.int p2), .val (.int p3), .val (.int p4), .val (.int p5), .val (.int SS), .val (.int UL), .val (.int PL), .val (.int HL), .val (.int v2), .val (.ref b4), .val (.int v50), .unset, .unset, .unset, .val (.int ((SS + (3 : Int32)) + UL)), .unset] [(.int (1 : Int32)), (.int ((SS + (3 : Int32)) + UL))])) _
                refine XS.iadd X64.here hx rfl (hb hby at_237) rfl ?_
                show Steps p.tables e below (T64.setTop (mkF m 238 #[.val (.int p1), .val (.int p2), .val (.int p3), .val (.int p4), .val (.int p5), .val (.int SS), .val (.int UL), .val (.int PL), .val (.int HL), .val (.int v2), .val (.ref b4), .val (.int v50), .unset, .unset, .unset, .val (.int ((SS + (3 : Int32)) + UL)), .unset] [(.int (((SS + (3 : Int32)) + UL) + (1 : Int32)))])) _
                refine XS.iload X64.here hx rfl (hb hby at_238) rfl ?_
                show Steps p.tables e below (T64.setTop (mkF m 240 #[.val (.int p1), .val (.int p2), .val (.int p3), .val (.int p4), .val (.int p5), .val (.int SS), .val (.int UL), .val (.int PL), .val (.int HL), .val (.int v2), .val (.ref b4), .val (.int v50), .unset, .unset, .unset, .val (.int ((SS + (3 : Int32)) + UL)), .unset] [(.int PL), (.int (((SS + (3 : Int32)) + UL) + (1 : Int32)))])) _
                refine XS.iadd X64.here hx rfl (hb hby at_240) rfl ?_
                show Steps p.tables e below (T64.setTop (mkF m 241 #[.val (.int p1), .val (.int p2), .val (.int p3), .val (.int p4), .val (.int p5), .val (.int SS), .val (.int UL), .val (.int PL), .val (.int HL), .val (.int v2), .val (.ref b4), .val (.int v50), .unset, .unset, .unset, .val (.int ((SS + (3 : Int32)) + UL)), .unset] [(.int ((((SS + (3 : Int32)) + UL) + (1 : Int32)) + PL))])) _
                refine XS.istore X64.here hx rfl (hb hby at_241) rfl (l' := #[.val (.int p1), .val (.int p2), .val (.int p3), .val (.int p4), .val (.int p5), .val (.int SS), .val (.int UL), .val (.int PL), .val (.int HL), .val (.int v2), .val (.ref b4), .val (.int v50), .unset, .unset, .unset, .val (.int ((SS + (3 : Int32)) + UL)), .val (.int ((((SS + (3 : Int32)) + UL) + (1 : Int32)) + PL))]) rfl ?_
                show Steps p.tables e below (T64.setTop (mkF m 243 #[.val (.int p1), .val (.int p2), .val (.int p3), .val (.int p4), .val (.int p5), .val (.int SS), .val (.int UL), .val (.int PL), .val (.int HL), .val (.int v2), .val (.ref b4), .val (.int v50), .unset, .unset, .unset, .val (.int ((SS + (3 : Int32)) + UL)), .val (.int ((((SS + (3 : Int32)) + UL) + (1 : Int32)) + PL))] [])) _
                refine XS.goto X64.here hx rfl (pc0 := 243) (pc' := 250) rfl (hb hby at_243) (by decide) (by decide) ?_
                exact k)
              have evv68 : v68 = ((((SS + (3 : Int32)) + UL) + (1 : Int32)) + PL) := by subst hy64; exact hv68.trans (if_pos hc63)
              have evy70 : y70 = y64 := by subst hy64; exact hy70.trans (if_pos hc63)
              subst evv68
              subst evy70
              exact ⟨T64, _, h64, X64, e64, N64, K64, Zs64, O64, P_b4_64, A_b4_64, pre66⟩
            · have pre67 : ∀ t, Steps p.tables e below (T57.setTop (mkF m 250 #[.val (.int p1), .val (.int p2), .val (.int p3), .val (.int p4), .val (.int p5), .val (.int SS), .val (.int UL), .val (.int PL), .val (.int HL), .val (.int v2), .val (.ref b4), .val (.int v50), .unset, .unset, .unset, .val (.int ((SS + (3 : Int32)) + UL)), .val (.int ((SS + (3 : Int32)) + UL))] [])) t → Steps p.tables e below (s₁.setTop (entryFrame m #[(.int p1), (.int p2), (.int p3), (.int p4), (.int p5)] maxLocals)) t := fun t k => pre62 t (by
                show Steps p.tables e below (T57.setTop (mkF m 224 #[.val (.int p1), .val (.int p2), .val (.int p3), .val (.int p4), .val (.int p5), .val (.int SS), .val (.int UL), .val (.int PL), .val (.int HL), .val (.int v2), .val (.ref b4), .val (.int v50), .unset, .unset, .unset, .val (.int ((SS + (3 : Int32)) + UL)), .unset] [(.int PL)])) _
                refine XS.ifYes X57.here hx rfl (pc0 := 224) (pc' := 246) rfl (hb hby at_224) rfl ((if0 _ _).trans (flt hc63).2.2.2) (by decide) (by decide) ?_
                show Steps p.tables e below (T57.setTop (mkF m 246 #[.val (.int p1), .val (.int p2), .val (.int p3), .val (.int p4), .val (.int p5), .val (.int SS), .val (.int UL), .val (.int PL), .val (.int HL), .val (.int v2), .val (.ref b4), .val (.int v50), .unset, .unset, .unset, .val (.int ((SS + (3 : Int32)) + UL)), .unset] [])) _
                refine XS.iload X57.here hx rfl (hb hby at_246) rfl ?_
                show Steps p.tables e below (T57.setTop (mkF m 248 #[.val (.int p1), .val (.int p2), .val (.int p3), .val (.int p4), .val (.int p5), .val (.int SS), .val (.int UL), .val (.int PL), .val (.int HL), .val (.int v2), .val (.ref b4), .val (.int v50), .unset, .unset, .unset, .val (.int ((SS + (3 : Int32)) + UL)), .unset] [(.int ((SS + (3 : Int32)) + UL))])) _
                refine XS.istore X57.here hx rfl (hb hby at_248) rfl (l' := #[.val (.int p1), .val (.int p2), .val (.int p3), .val (.int p4), .val (.int p5), .val (.int SS), .val (.int UL), .val (.int PL), .val (.int HL), .val (.int v2), .val (.ref b4), .val (.int v50), .unset, .unset, .unset, .val (.int ((SS + (3 : Int32)) + UL)), .val (.int ((SS + (3 : Int32)) + UL))]) rfl ?_
                exact k)
              have evv68 : v68 = ((SS + (3 : Int32)) + UL) := by exact hv68.trans (if_neg hc63)
              have evy70 : y70 = y57 := by exact hy70.trans (if_neg hc63)
              subst evv68
              subst evy70
              exact ⟨T57, _, h57, X57, e57, N57, K57, Zs57, O57, P_b4_57, A_b4_57, pre67⟩
          obtain ⟨cl72, Ar72, Sz72, Mz72, Hz72⟩ := id A_b4_69
          have hin71 := inb_of (j := v68) Sz72 (own_i3 hSS hUL hPL hv68)
          obtain ⟨T71, h71, X71, e71, W71, st71⟩ := stC X69 hx hZ e69 Ar72 (j := v68) hin71 (g := (mkF m 256 #[.val (.int p1), .val (.int p2), .val (.int p3), .val (.int p4), .val (.int p5), .val (.int SS), .val (.int UL), .val (.int PL), .val (.int HL), .val (.int v2), .val (.ref b4), .val (.int v50), .unset, .unset, .unset, .val (.int ((SS + (3 : Int32)) + UL)), .val (.int v68)] [(.int (64 : Int32)), (.int v68), (.ref b4)])) rfl rfl (hb hby at_256)
          obtain ⟨y71, hy71⟩ : ∃ yy_ : Int32 → Int32, yy_ = fun i => if i = v68 then (nar .char (64 : Int32)) else y70 i := ⟨_, rfl⟩
          have K71 := K69.wr W71 (Or.inr sz_b4)
          have Zs71 := Nat.le_trans Zs69 (Keep.of_wr W71).1
          have N71 := Fr.snoc X71 N69 g_b4
          have O71 := O69.wr W71 g_b4
          have A_b4_71 : own_A Z h71 b4 .char (20 : Int32) (fun i => .int (y71 i)) := by subst hy71; exact own_A_set Ar72 Sz72 Mz72 Hz72 hin71 W71 (own_setI (y := y70) (j := v68) (x := (nar .char (64 : Int32)))) (own_setI' (y := y70) (j := v68) (x := (nar .char (64 : Int32))))
          have P_b4_71 : own_P y71 := by subst hy71; exact own_P_set P_b4_69 (by decide)
          have pre73 : ∀ t, Steps p.tables e below (T71.setTop (mkF m 280 #[.val (.int p1), .val (.int p2), .val (.int p3), .val (.int p4), .val (.int p5), .val (.int SS), .val (.int UL), .val (.int PL), .val (.int HL), .val (.int v2), .val (.ref b4), .val (.int v50), .val (.int ((SS + (3 : Int32)) + UL)), .val (.int (v68 + (1 : Int32))), .unset, .val (.int ((SS + (3 : Int32)) + UL)), .val (.int v68)] [])) t → Steps p.tables e below (s₁.setTop (entryFrame m #[(.int p1), (.int p2), (.int p3), (.int p4), (.int p5)] maxLocals)) t := fun t k => pre69 t (by
            show Steps p.tables e below (T69.setTop (mkF m 250 #[.val (.int p1), .val (.int p2), .val (.int p3), .val (.int p4), .val (.int p5), .val (.int SS), .val (.int UL), .val (.int PL), .val (.int HL), .val (.int v2), .val (.ref b4), .val (.int v50), .unset, .unset, .unset, .val (.int ((SS + (3 : Int32)) + UL)), .val (.int v68)] [])) _
            refine XS.aload X69.here hx rfl (hb hby at_250) rfl rfl ?_
            show Steps p.tables e below (T69.setTop (mkF m 252 #[.val (.int p1), .val (.int p2), .val (.int p3), .val (.int p4), .val (.int p5), .val (.int SS), .val (.int UL), .val (.int PL), .val (.int HL), .val (.int v2), .val (.ref b4), .val (.int v50), .unset, .unset, .unset, .val (.int ((SS + (3 : Int32)) + UL)), .val (.int v68)] [(.ref b4)])) _
            refine XS.iload X69.here hx rfl (hb hby at_252) rfl ?_
            show Steps p.tables e below (T69.setTop (mkF m 254 #[.val (.int p1), .val (.int p2), .val (.int p3), .val (.int p4), .val (.int p5), .val (.int SS), .val (.int UL), .val (.int PL), .val (.int HL), .val (.int v2), .val (.ref b4), .val (.int v50), .unset, .unset, .unset, .val (.int ((SS + (3 : Int32)) + UL)), .val (.int v68)] [(.int v68), (.ref b4)])) _
            refine XS.bipush X69.here hx rfl (hb hby at_254) ?_
            show Steps p.tables e below (T69.setTop (mkF m 256 #[.val (.int p1), .val (.int p2), .val (.int p3), .val (.int p4), .val (.int p5), .val (.int SS), .val (.int UL), .val (.int PL), .val (.int HL), .val (.int v2), .val (.ref b4), .val (.int v50), .unset, .unset, .unset, .val (.int ((SS + (3 : Int32)) + UL)), .val (.int v68)] [(.int (64 : Int32)), (.int v68), (.ref b4)])) _
            refine st71 _ ?_
            show Steps p.tables e below (T71.setTop (mkF m 257 #[.val (.int p1), .val (.int p2), .val (.int p3), .val (.int p4), .val (.int p5), .val (.int SS), .val (.int UL), .val (.int PL), .val (.int HL), .val (.int v2), .val (.ref b4), .val (.int v50), .unset, .unset, .unset, .val (.int ((SS + (3 : Int32)) + UL)), .val (.int v68)] [])) _
            refine XS.iload X71.here hx rfl (hb hby at_257) rfl ?_
            show Steps p.tables e below (T71.setTop (mkF m 259 #[.val (.int p1), .val (.int p2), .val (.int p3), .val (.int p4), .val (.int p5), .val (.int SS), .val (.int UL), .val (.int PL), .val (.int HL), .val (.int v2), .val (.ref b4), .val (.int v50), .unset, .unset, .unset, .val (.int ((SS + (3 : Int32)) + UL)), .val (.int v68)] [(.int v68)])) _
            refine XS.iconst X71.here hx rfl (hb hby at_259) ?_
            show Steps p.tables e below (T71.setTop (mkF m 260 #[.val (.int p1), .val (.int p2), .val (.int p3), .val (.int p4), .val (.int p5), .val (.int SS), .val (.int UL), .val (.int PL), .val (.int HL), .val (.int v2), .val (.ref b4), .val (.int v50), .unset, .unset, .unset, .val (.int ((SS + (3 : Int32)) + UL)), .val (.int v68)] [(.int (1 : Int32)), (.int v68)])) _
            refine XS.iadd X71.here hx rfl (hb hby at_260) rfl ?_
            show Steps p.tables e below (T71.setTop (mkF m 261 #[.val (.int p1), .val (.int p2), .val (.int p3), .val (.int p4), .val (.int p5), .val (.int SS), .val (.int UL), .val (.int PL), .val (.int HL), .val (.int v2), .val (.ref b4), .val (.int v50), .unset, .unset, .unset, .val (.int ((SS + (3 : Int32)) + UL)), .val (.int v68)] [(.int (v68 + (1 : Int32)))])) _
            refine XS.istore X71.here hx rfl (hb hby at_261) rfl (l' := #[.val (.int p1), .val (.int p2), .val (.int p3), .val (.int p4), .val (.int p5), .val (.int SS), .val (.int UL), .val (.int PL), .val (.int HL), .val (.int v2), .val (.ref b4), .val (.int v50), .unset, .val (.int (v68 + (1 : Int32))), .unset, .val (.int ((SS + (3 : Int32)) + UL)), .val (.int v68)]) rfl ?_
            show Steps p.tables e below (T71.setTop (mkF m 263 #[.val (.int p1), .val (.int p2), .val (.int p3), .val (.int p4), .val (.int p5), .val (.int SS), .val (.int UL), .val (.int PL), .val (.int HL), .val (.int v2), .val (.ref b4), .val (.int v50), .unset, .val (.int (v68 + (1 : Int32))), .unset, .val (.int ((SS + (3 : Int32)) + UL)), .val (.int v68)] [])) _
            refine XS.iload X71.here hx rfl (hb hby at_263) rfl ?_
            show Steps p.tables e below (T71.setTop (mkF m 265 #[.val (.int p1), .val (.int p2), .val (.int p3), .val (.int p4), .val (.int p5), .val (.int SS), .val (.int UL), .val (.int PL), .val (.int HL), .val (.int v2), .val (.ref b4), .val (.int v50), .unset, .val (.int (v68 + (1 : Int32))), .unset, .val (.int ((SS + (3 : Int32)) + UL)), .val (.int v68)] [(.int ((SS + (3 : Int32)) + UL))])) _
            refine XS.istore X71.here hx rfl (hb hby at_265) rfl (l' := #[.val (.int p1), .val (.int p2), .val (.int p3), .val (.int p4), .val (.int p5), .val (.int SS), .val (.int UL), .val (.int PL), .val (.int HL), .val (.int v2), .val (.ref b4), .val (.int v50), .val (.int ((SS + (3 : Int32)) + UL)), .val (.int (v68 + (1 : Int32))), .unset, .val (.int ((SS + (3 : Int32)) + UL)), .val (.int v68)]) rfl ?_
            show Steps p.tables e below (T71.setTop (mkF m 267 #[.val (.int p1), .val (.int p2), .val (.int p3), .val (.int p4), .val (.int p5), .val (.int SS), .val (.int UL), .val (.int PL), .val (.int HL), .val (.int v2), .val (.ref b4), .val (.int v50), .val (.int ((SS + (3 : Int32)) + UL)), .val (.int (v68 + (1 : Int32))), .unset, .val (.int ((SS + (3 : Int32)) + UL)), .val (.int v68)] [])) _
            refine XS.goto X71.here hx rfl (pc0 := 267) (pc' := 280) rfl (hb hby at_267) (by decide) (by decide) ?_
            exact k)
          have evv74 : v74 = ((SS + (3 : Int32)) + UL) := by subst hv68 hy70 hy71; exact hv74.trans (if_neg hc60)
          have evv75 : v75 = (v68 + (1 : Int32)) := by subst hv68 hy70 hy71; exact hv75.trans (if_neg hc60)
          have evsl76 : sl76 = (.val (.int v68) : Slot) := by subst hv68 hy70 hy71; exact hsl76.trans (if_neg hc60)
          have evy78 : y78 = y71 := by subst hv68 hy70 hy71; exact hy78.trans (if_neg hc60)
          subst evv74
          subst evv75
          subst evsl76
          subst evy78
          exact ⟨T71, _, h71, X71, e71, N71, K71, Zs71, O71, P_b4_71, A_b4_71, pre73⟩
      have pre79 : ∀ t, Steps p.tables e below (T77.setTop (mkF m 304 #[.val (.int p1), .val (.int p2), .val (.int p3), .val (.int p4), .val (.int p5), .val (.int SS), .val (.int UL), .val (.int PL), .val (.int HL), .val (.int v2), .val (.ref b4), .val (.int v50), .val (.int v74), .val (.int v75), .val (.int (v75 + HL)), .val (.int ((SS + (3 : Int32)) + UL)), sl76] [])) t → Steps p.tables e below (s₁.setTop (entryFrame m #[(.int p1), (.int p2), (.int p3), (.int p4), (.int p5)] maxLocals)) t := fun t k => pre77 t (by
        show Steps p.tables e below (T77.setTop (mkF m 280 #[.val (.int p1), .val (.int p2), .val (.int p3), .val (.int p4), .val (.int p5), .val (.int SS), .val (.int UL), .val (.int PL), .val (.int HL), .val (.int v2), .val (.ref b4), .val (.int v50), .val (.int v74), .val (.int v75), .unset, .val (.int ((SS + (3 : Int32)) + UL)), sl76] [])) _
        refine XS.iload X77.here hx rfl (hb hby at_280) rfl ?_
        show Steps p.tables e below (T77.setTop (mkF m 282 #[.val (.int p1), .val (.int p2), .val (.int p3), .val (.int p4), .val (.int p5), .val (.int SS), .val (.int UL), .val (.int PL), .val (.int HL), .val (.int v2), .val (.ref b4), .val (.int v50), .val (.int v74), .val (.int v75), .unset, .val (.int ((SS + (3 : Int32)) + UL)), sl76] [(.int v75)])) _
        refine XS.iload X77.here hx rfl (hb hby at_282) rfl ?_
        show Steps p.tables e below (T77.setTop (mkF m 284 #[.val (.int p1), .val (.int p2), .val (.int p3), .val (.int p4), .val (.int p5), .val (.int SS), .val (.int UL), .val (.int PL), .val (.int HL), .val (.int v2), .val (.ref b4), .val (.int v50), .val (.int v74), .val (.int v75), .unset, .val (.int ((SS + (3 : Int32)) + UL)), sl76] [(.int HL), (.int v75)])) _
        refine XS.iadd X77.here hx rfl (hb hby at_284) rfl ?_
        show Steps p.tables e below (T77.setTop (mkF m 285 #[.val (.int p1), .val (.int p2), .val (.int p3), .val (.int p4), .val (.int p5), .val (.int SS), .val (.int UL), .val (.int PL), .val (.int HL), .val (.int v2), .val (.ref b4), .val (.int v50), .val (.int v74), .val (.int v75), .unset, .val (.int ((SS + (3 : Int32)) + UL)), sl76] [(.int (v75 + HL))])) _
        refine XS.istore X77.here hx rfl (hb hby at_285) rfl (l' := #[.val (.int p1), .val (.int p2), .val (.int p3), .val (.int p4), .val (.int p5), .val (.int SS), .val (.int UL), .val (.int PL), .val (.int HL), .val (.int v2), .val (.ref b4), .val (.int v50), .val (.int v74), .val (.int v75), .val (.int (v75 + HL)), .val (.int ((SS + (3 : Int32)) + UL)), sl76]) rfl ?_
        show Steps p.tables e below (T77.setTop (mkF m 287 #[.val (.int p1), .val (.int p2), .val (.int p3), .val (.int p4), .val (.int p5), .val (.int SS), .val (.int UL), .val (.int PL), .val (.int HL), .val (.int v2), .val (.ref b4), .val (.int v50), .val (.int v74), .val (.int v75), .val (.int (v75 + HL)), .val (.int ((SS + (3 : Int32)) + UL)), sl76] [])) _
        refine XS.goto X77.here hx rfl (pc0 := 287) (pc' := 304) rfl (hb hby at_287) (by decide) (by decide) ?_
        exact k)
      have evv80 : v80 = v74 := by subst hy55 hy57 hv74 hv75 hsl76 hy78; exact hv80.trans (if_neg hc53)
      have evv81 : v81 = v75 := by subst hy55 hy57 hv74 hv75 hsl76 hy78; exact hv81.trans (if_neg hc53)
      have evv82 : v82 = (v75 + HL) := by subst hy55 hy57 hv74 hv75 hsl76 hy78; exact hv82.trans (if_neg hc53)
      have evsl83 : sl83 = (.val (.int ((SS + (3 : Int32)) + UL)) : Slot) := by subst hy55 hy57 hv74 hv75 hsl76 hy78; exact hsl83.trans (if_neg hc53)
      have evsl84 : sl84 = (sl76 : Slot) := by subst hy55 hy57 hv74 hv75 hsl76 hy78; exact hsl84.trans (if_neg hc53)
      have evy86 : y86 = y78 := by subst hy55 hy57 hv74 hv75 hsl76 hy78; exact hy86.trans (if_neg hc53)
      subst evv80
      subst evv81
      subst evv82
      subst evsl83
      subst evsl84
      subst evy86
      exact ⟨T77, _, h77, X77, e77, N77, K77, Zs77, O77, P_b4_77, A_b4_77, pre79⟩
  obtain ⟨cl88, Ar88, Sz88, Mz88, Hz88⟩ := id A_b4_85
  have hin87 := inb_of (j := v82) Sz88 (own_i4 hSS hUL hPL hHL hv82)
  obtain ⟨T87, h87, X87, e87, W87, st87⟩ := stC X85 hx hZ e85 Ar88 (j := v82) hin87 (g := (mkF m 314 #[.val (.int p1), .val (.int p2), .val (.int p3), .val (.int p4), .val (.int p5), .val (.int SS), .val (.int UL), .val (.int PL), .val (.int HL), .val (.int v2), .val (.ref b4), .val (.int v50), .val (.int v80), .val (.int v81), .val (.int v82), .val (.int v82), sl84] [(.int (47 : Int32)), (.int v82), (.ref b4)])) rfl rfl (hb hby at_314)
  obtain ⟨y87, hy87⟩ : ∃ yy_ : Int32 → Int32, yy_ = fun i => if i = v82 then (nar .char (47 : Int32)) else y86 i := ⟨_, rfl⟩
  have K87 := K85.wr W87 (Or.inr sz_b4)
  have Zs87 := Nat.le_trans Zs85 (Keep.of_wr W87).1
  have N87 := Fr.snoc X87 N85 g_b4
  have O87 := O85.wr W87 g_b4
  have A_b4_87 : own_A Z h87 b4 .char (20 : Int32) (fun i => .int (y87 i)) := by subst hy87; exact own_A_set Ar88 Sz88 Mz88 Hz88 hin87 W87 (own_setI (y := y86) (j := v82) (x := (nar .char (47 : Int32)))) (own_setI' (y := y86) (j := v82) (x := (nar .char (47 : Int32))))
  have P_b4_87 : own_P y87 := by subst hy87; exact own_P_set P_b4_85 (by decide)
  obtain ⟨T89, h89, X89, e89, E89, Ax89, D89, -, st89⟩ := newO X87 hx hZ hown (hw _ (List.mem_of_getElem? (i := 1) rfl)) (hw _ (List.mem_of_getElem? (i := 2) rfl)) (hw _ (List.mem_of_getElem? (i := 3) rfl)) e87 (g := (mkF m 315 #[.val (.int p1), .val (.int p2), .val (.int p3), .val (.int p4), .val (.int p5), .val (.int SS), .val (.int UL), .val (.int PL), .val (.int HL), .val (.int v2), .val (.ref b4), .val (.int v50), .val (.int v80), .val (.int v81), .val (.int v82), .val (.int v82), sl84] [])) rfl (hb hby at_315) (by decide) (by decide)
  obtain ⟨b89, g89⟩ : ∃ z, z = h87.size := ⟨_, rfl⟩
  rw [← g89] at Ax89 D89 st89
  have ne_b4_b89 : b4 ≠ b89 := Nat.ne_of_lt (Nat.lt_of_lt_of_le (own_A_lt A_b4_87) (Nat.le_of_eq g89.symm))
  have g_b89 : n0 ≤ b89 := Nat.le_trans Zs87 (Nat.le_of_eq g89.symm)
  have sz_b89 : h0.size ≤ b89 := Nat.le_trans K87.1 (Nat.le_of_eq g89.symm)
  have A_b4_89 : own_A Z h89 b4 .char (20 : Int32) (fun i => .int (y87 i)) := own_A_ext A_b4_87 E89
  have K89 := K87.ext E89
  have Zs89 := Nat.le_trans Zs87 E89.1
  have O89 := O87.ext E89
  have E_b89_89 : Exa Z h89 b89 "com/example/cadmus/cadmus/internal/UrlRecord" := Ax89
  have F_href_b89_89 : Fld Z h89 b89 "com/example/cadmus/cadmus/internal/UrlRecord" "href" "Ljava/lang/String;" .null := D89 (Or.inr (hw _ (List.mem_of_getElem? (i := 38) rfl))) (ty := (.object "java/lang/String")) (by decide)
  have F_schemeEnd_b89_89 : Fld Z h89 b89 "com/example/cadmus/cadmus/internal/UrlRecord" "schemeEnd" "I" (.int (0 : Int32)) := D89 (Or.inr (hw _ (List.mem_of_getElem? (i := 40) rfl))) (ty := .int) (by decide)
  have F_usernameEnd_b89_89 : Fld Z h89 b89 "com/example/cadmus/cadmus/internal/UrlRecord" "usernameEnd" "I" (.int (0 : Int32)) := D89 (Or.inr (hw _ (List.mem_of_getElem? (i := 42) rfl))) (ty := .int) (by decide)
  have F_hostStart_b89_89 : Fld Z h89 b89 "com/example/cadmus/cadmus/internal/UrlRecord" "hostStart" "I" (.int (0 : Int32)) := D89 (Or.inr (hw _ (List.mem_of_getElem? (i := 44) rfl))) (ty := .int) (by decide)
  have F_hostEnd_b89_89 : Fld Z h89 b89 "com/example/cadmus/cadmus/internal/UrlRecord" "hostEnd" "I" (.int (0 : Int32)) := D89 (Or.inr (hw _ (List.mem_of_getElem? (i := 46) rfl))) (ty := .int) (by decide)
  have F_pathStart_b89_89 : Fld Z h89 b89 "com/example/cadmus/cadmus/internal/UrlRecord" "pathStart" "I" (.int (0 : Int32)) := D89 (Or.inr (hw _ (List.mem_of_getElem? (i := 48) rfl))) (ty := .int) (by decide)
  have F_queryStart_b89_89 : Fld Z h89 b89 "com/example/cadmus/cadmus/internal/UrlRecord" "queryStart" "I" (.int (0 : Int32)) := D89 (Or.inr (hw _ (List.mem_of_getElem? (i := 50) rfl))) (ty := .int) (by decide)
  have F_fragmentStart_b89_89 : Fld Z h89 b89 "com/example/cadmus/cadmus/internal/UrlRecord" "fragmentStart" "I" (.int (0 : Int32)) := D89 (Or.inr (hw _ (List.mem_of_getElem? (i := 52) rfl))) (ty := .int) (by decide)
  obtain ⟨T90, h90, X90, e90, E90, Ax90, D90, -, st90⟩ := newO X89 hx hZ hown (hw _ (List.mem_of_getElem? (i := 4) rfl)) (hw _ (List.mem_of_getElem? (i := 5) rfl)) (hw _ (List.mem_of_getElem? (i := 6) rfl)) e89 (g := (mkF m 319 #[.val (.int p1), .val (.int p2), .val (.int p3), .val (.int p4), .val (.int p5), .val (.int SS), .val (.int UL), .val (.int PL), .val (.int HL), .val (.int v2), .val (.ref b4), .val (.int v50), .val (.int v80), .val (.int v81), .val (.int v82), .val (.int v82), sl84] [(.ref b89), (.ref b89)])) rfl (hb hby at_319) (by decide) (by decide)
  obtain ⟨b90, g90⟩ : ∃ z, z = h89.size := ⟨_, rfl⟩
  rw [← g90] at Ax90 D90 st90
  have ne_b4_b90 : b4 ≠ b90 := Nat.ne_of_lt (Nat.lt_of_lt_of_le (own_A_lt A_b4_89) (Nat.le_of_eq g90.symm))
  have ne_b89_b90 : b89 ≠ b90 := Nat.ne_of_lt (Nat.lt_of_lt_of_le E_b89_89.lt (Nat.le_of_eq g90.symm))
  have g_b90 : n0 ≤ b90 := Nat.le_trans Zs89 (Nat.le_of_eq g90.symm)
  have sz_b90 : h0.size ≤ b90 := Nat.le_trans K89.1 (Nat.le_of_eq g90.symm)
  have A_b4_90 : own_A Z h90 b4 .char (20 : Int32) (fun i => .int (y87 i)) := own_A_ext A_b4_89 E90
  have E_b89_90 : Exa Z h90 b89 "com/example/cadmus/cadmus/internal/UrlRecord" := E_b89_89.ext E90
  have F_href_b89_90 : Fld Z h90 b89 "com/example/cadmus/cadmus/internal/UrlRecord" "href" "Ljava/lang/String;" .null := F_href_b89_89.ext E90
  have F_schemeEnd_b89_90 : Fld Z h90 b89 "com/example/cadmus/cadmus/internal/UrlRecord" "schemeEnd" "I" (.int (0 : Int32)) := F_schemeEnd_b89_89.ext E90
  have F_usernameEnd_b89_90 : Fld Z h90 b89 "com/example/cadmus/cadmus/internal/UrlRecord" "usernameEnd" "I" (.int (0 : Int32)) := F_usernameEnd_b89_89.ext E90
  have F_hostStart_b89_90 : Fld Z h90 b89 "com/example/cadmus/cadmus/internal/UrlRecord" "hostStart" "I" (.int (0 : Int32)) := F_hostStart_b89_89.ext E90
  have F_hostEnd_b89_90 : Fld Z h90 b89 "com/example/cadmus/cadmus/internal/UrlRecord" "hostEnd" "I" (.int (0 : Int32)) := F_hostEnd_b89_89.ext E90
  have F_pathStart_b89_90 : Fld Z h90 b89 "com/example/cadmus/cadmus/internal/UrlRecord" "pathStart" "I" (.int (0 : Int32)) := F_pathStart_b89_89.ext E90
  have F_queryStart_b89_90 : Fld Z h90 b89 "com/example/cadmus/cadmus/internal/UrlRecord" "queryStart" "I" (.int (0 : Int32)) := F_queryStart_b89_89.ext E90
  have F_fragmentStart_b89_90 : Fld Z h90 b89 "com/example/cadmus/cadmus/internal/UrlRecord" "fragmentStart" "I" (.int (0 : Int32)) := F_fragmentStart_b89_89.ext E90
  have K90 := K89.ext E90
  have Zs90 := Nat.le_trans Zs89 E90.1
  have O90 := O89.ext E90
  have E_b90_90 : Exa Z h90 b90 "java/lang/String" := Ax90
  have F_coder_b90_90 : Fld Z h90 b90 "java/lang/String" "coder" "B" (.int (0 : Int32)) := D90 (Or.inr (hw _ (List.mem_of_getElem? (i := 30) rfl))) (ty := .byte) (by decide)
  have F_value_b90_90 : Fld Z h90 b90 "java/lang/String" "value" "[B" .null := D90 (Or.inr (hw _ (List.mem_of_getElem? (i := 32) rfl))) (ty := (.array .byte)) (by decide)
  obtain ⟨kA91, KA91⟩ := own_arv20 A_b4_90 P_b4_87
  have hws91 : ∀ d ∈ StrChars.Road.words, d.before a0 Z = true := fun d hd => hw d ((by decide +kernel : ∀ d ∈ StrChars.Road.words, d ∈ tables_1) d hd)
  obtain ⟨_, _, ⟨T91, L91, k91, n91⟩, -, X91, ⟨Lc91, hQ91, l91, y91, z91⟩, st91⟩ := X90.specialBack hx (y := (⟨"java/lang/String", "<init>", "([C)V"⟩ : MethodName)) rfl hown (mvT hZ (hw _ (List.mem_of_getElem? (i := 7) rfl))) (mvT hZ (hw _ (List.mem_of_getElem? (i := 8) rfl))) (mvT hZ (hw _ (List.mem_of_getElem? (i := 9) rfl))) (by decide) (StrChars.Road.backV (W := 3) hZ hws91 (kI := 4) (hw _ (List.mem_of_getElem? (i := 5) rfl)) (n := 20) (N := (20 : Int32)) g_b90 Zs90 E_b90_90 F_value_b90_90 F_coder_b90_90 KA91 (S_COMPACT_STRINGS.ext O90.2) hz0 (own_csl _) rfl (by decide) (by decide) (own_Pl P_b4_87) rfl (by decide) (by decide)) (g := (mkF m 325 #[.val (.int p1), .val (.int p2), .val (.int p3), .val (.int p4), .val (.int p5), .val (.int SS), .val (.int UL), .val (.int PL), .val (.int HL), .val (.int v2), .val (.ref b4), .val (.int v50), .val (.int v80), .val (.int v81), .val (.int v82), .val (.int v82), sl84] [(.ref b4), (.ref b90), (.ref b90), (.ref b89), (.ref b89)])) rfl (by rw [hml]; rfl) (Steps.refl _) (a := b90) (argsL := [(.ref b4)]) (rest := [(.ref b90), (.ref b89), (.ref b89)]) (lenOf pd_0 rfl) rfl (by show 2 * 0 + _ ≤ _; exact Nat.le_of_eq rfl) (hb hby at_325) (fun _ _ => ⟨rfl, e90, (by decide : 3 + 1 ≤ _), (by decide : 32 + 20 ≤ _)⟩)
  dsimp only [Pt.U, Pt.locs, Pt.cells, Pt.slots] at X91 l91 y91 z91 st91 hQ91
  subst l91 y91 z91
  obtain ⟨h91, e91⟩ : ∃ z, T91.heap = z := ⟨_, rfl⟩
  rw [e91] at hQ91
  obtain ⟨rfl, N91q, Kc91, Eq91, -⟩ := hQ91
  have A_b4_91 : own_A Z h91 b4 .char (20 : Int32) (fun i => .int (y87 i)) := own_A_keep A_b4_90 Kc91 (ninS ne_b4_b90 nin0)
  have E_b89_91 : Exa Z h91 b89 "com/example/cadmus/cadmus/internal/UrlRecord" := E_b89_90.keep Kc91
  have F_href_b89_91 : Fld Z h91 b89 "com/example/cadmus/cadmus/internal/UrlRecord" "href" "Ljava/lang/String;" .null := F_href_b89_90.keep Kc91 (ninS ne_b89_b90 nin0)
  have F_schemeEnd_b89_91 : Fld Z h91 b89 "com/example/cadmus/cadmus/internal/UrlRecord" "schemeEnd" "I" (.int (0 : Int32)) := F_schemeEnd_b89_90.keep Kc91 (ninS ne_b89_b90 nin0)
  have F_usernameEnd_b89_91 : Fld Z h91 b89 "com/example/cadmus/cadmus/internal/UrlRecord" "usernameEnd" "I" (.int (0 : Int32)) := F_usernameEnd_b89_90.keep Kc91 (ninS ne_b89_b90 nin0)
  have F_hostStart_b89_91 : Fld Z h91 b89 "com/example/cadmus/cadmus/internal/UrlRecord" "hostStart" "I" (.int (0 : Int32)) := F_hostStart_b89_90.keep Kc91 (ninS ne_b89_b90 nin0)
  have F_hostEnd_b89_91 : Fld Z h91 b89 "com/example/cadmus/cadmus/internal/UrlRecord" "hostEnd" "I" (.int (0 : Int32)) := F_hostEnd_b89_90.keep Kc91 (ninS ne_b89_b90 nin0)
  have F_pathStart_b89_91 : Fld Z h91 b89 "com/example/cadmus/cadmus/internal/UrlRecord" "pathStart" "I" (.int (0 : Int32)) := F_pathStart_b89_90.keep Kc91 (ninS ne_b89_b90 nin0)
  have F_queryStart_b89_91 : Fld Z h91 b89 "com/example/cadmus/cadmus/internal/UrlRecord" "queryStart" "I" (.int (0 : Int32)) := F_queryStart_b89_90.keep Kc91 (ninS ne_b89_b90 nin0)
  have F_fragmentStart_b89_91 : Fld Z h91 b89 "com/example/cadmus/cadmus/internal/UrlRecord" "fragmentStart" "I" (.int (0 : Int32)) := F_fragmentStart_b89_90.keep Kc91 (ninS ne_b89_b90 nin0)
  have E_b90_91 : Exa Z h91 b90 "java/lang/String" := E_b90_90.keep Kc91
  have K91 := K90.trans Kc91 (allS (Or.inr sz_b90) all0)
  have Zs91 := Nat.le_trans Zs90 Kc91.1
  have O91 := O90.keep Kc91 (allS g_b90 all0)
  have N91 := Fr.app N87 N91q
  obtain ⟨_, _, ⟨T92, L92, k92, n92⟩, -, X92, ⟨Lc92, hQ92, l92, y92, z92⟩, st92⟩ := X91.specialBack hx (y := (⟨"com/example/cadmus/cadmus/internal/UrlRecord", "<init>", "(Ljava/lang/String;IIIIIII)V"⟩ : MethodName)) rfl hown (mvT hZ (hw _ (List.mem_of_getElem? (i := 33) rfl))) (mvT hZ (hw _ (List.mem_of_getElem? (i := 34) rfl))) (mvT hZ (hw _ (List.mem_of_getElem? (i := 35) rfl))) (by decide) (backOf (W := 1) (rm7 l Z a0 hw [] b89 b90 SS v80 v81 v82 v82 (-1 : Int32) (-1 : Int32) h91 n0 Zs91 E_b89_91 F_href_b89_91 F_schemeEnd_b89_91 F_usernameEnd_b89_91 F_hostStart_b89_91 F_hostEnd_b89_91 F_pathStart_b89_91 F_queryStart_b89_91 F_fragmentStart_b89_91 g_b89) hZ (hw _ (List.mem_of_getElem? (i := 35) rfl)) (hw _ (List.mem_of_getElem? (i := 3) rfl)) (by decide) (by decide)) (g := (mkF m 340 #[.val (.int p1), .val (.int p2), .val (.int p3), .val (.int p4), .val (.int p5), .val (.int SS), .val (.int UL), .val (.int PL), .val (.int HL), .val (.int v2), .val (.ref b4), .val (.int v50), .val (.int v80), .val (.int v81), .val (.int v82), .val (.int v82), sl84] [(.int (-1 : Int32)), (.int (-1 : Int32)), (.int v82), (.int v82), (.int v81), (.int v80), (.int SS), (.ref b90), (.ref b89), (.ref b89)])) rfl (by rw [hml]; rfl) (Steps.refl _) (a := b89) (argsL := [(.ref b90), (.int SS), (.int v80), (.int v81), (.int v82), (.int v82), (.int (-1 : Int32)), (.int (-1 : Int32))]) (rest := [(.ref b89)]) (lenOf pd_1 rfl) rfl (by show 2 * 0 + _ ≤ _; exact Nat.le_of_eq rfl) (hb hby at_340) (fun _ _ => ⟨rfl, e91, (by decide : 4 + 0 ≤ _), (by decide : 52 + 0 ≤ _)⟩)
  dsimp only [Pt.U, Pt.locs, Pt.cells, Pt.slots] at X92 l92 y92 z92 st92 hQ92
  subst l92 y92 z92
  obtain ⟨h92, e92⟩ : ∃ z, T92.heap = z := ⟨_, rfl⟩
  rw [e92] at hQ92
  obtain ⟨rfl, N92q, Kc92, E_b89_92q, F_schemeEnd_b89_92q, F_usernameEnd_b89_92q, F_hostStart_b89_92q, F_hostEnd_b89_92q, F_pathStart_b89_92q, F_queryStart_b89_92q, F_fragmentStart_b89_92q⟩ := hQ92
  have A_b4_92 : own_A Z h92 b4 .char (20 : Int32) (fun i => .int (y87 i)) := own_A_keep A_b4_91 Kc92 (ninS ne_b4_b89 nin0)
  have E_b90_92 : Exa Z h92 b90 "java/lang/String" := E_b90_91.keep Kc92
  have K92 := K91.trans Kc92 (allS (Or.inr sz_b89) all0)
  have Zs92 := Nat.le_trans Zs91 Kc92.1
  have O92 := O91.keep Kc92 (allS g_b89 all0)
  have E_b89_92 : Exa Z h92 b89 "com/example/cadmus/cadmus/internal/UrlRecord" := E_b89_92q
  have F_schemeEnd_b89_92 : Fld Z h92 b89 "com/example/cadmus/cadmus/internal/UrlRecord" "schemeEnd" "I" (.int SS) := F_schemeEnd_b89_92q
  have F_usernameEnd_b89_92 : Fld Z h92 b89 "com/example/cadmus/cadmus/internal/UrlRecord" "usernameEnd" "I" (.int v80) := F_usernameEnd_b89_92q
  have F_hostStart_b89_92 : Fld Z h92 b89 "com/example/cadmus/cadmus/internal/UrlRecord" "hostStart" "I" (.int v81) := F_hostStart_b89_92q
  have F_hostEnd_b89_92 : Fld Z h92 b89 "com/example/cadmus/cadmus/internal/UrlRecord" "hostEnd" "I" (.int v82) := F_hostEnd_b89_92q
  have F_pathStart_b89_92 : Fld Z h92 b89 "com/example/cadmus/cadmus/internal/UrlRecord" "pathStart" "I" (.int v82) := F_pathStart_b89_92q
  have F_queryStart_b89_92 : Fld Z h92 b89 "com/example/cadmus/cadmus/internal/UrlRecord" "queryStart" "I" (.int (-1 : Int32)) := F_queryStart_b89_92q
  have F_fragmentStart_b89_92 : Fld Z h92 b89 "com/example/cadmus/cadmus/internal/UrlRecord" "fragmentStart" "I" (.int (-1 : Int32)) := F_fragmentStart_b89_92q
  have N92 := Fr.app N91 N92q
  obtain ⟨cq93, kq93, q93a, q93b, q93c⟩ := isOf hZ e92 E_b89_92
  obtain ⟨_, _, ⟨T93, L93, k93, n93⟩, -, X93, ⟨Lc93, hQ93, l93, y93, z93⟩, st93⟩ := X92.virtualBack hx (y := (⟨"com/example/cadmus/cadmus/internal/UrlRecord", "hasCredentials", "()Z"⟩ : MethodName)) (z := (⟨"com/example/cadmus/cadmus/internal/UrlRecord", "hasCredentials", "()Z"⟩ : MethodName)) hown (mvT hZ (hw _ (List.mem_of_getElem? (i := 53) rfl))) (mvT hZ (hw _ (List.mem_of_getElem? (i := 54) rfl))) (notFace_of_selects (args := #[]) (mvT hZ (hw _ (List.mem_of_getElem? (i := 56) rfl)))) (mvT hZ (hw _ (List.mem_of_getElem? (i := 56) rfl))) (mvT hZ (hw _ (List.mem_of_getElem? (i := 55) rfl))) (by decide) (backOf (W := 0) (rm8 l Z a0 hw [] b89 v81 SS h92 n0 Zs92 F_hostStart_b89_92 F_schemeEnd_b89_92) hZ (hw _ (List.mem_of_getElem? (i := 57) rfl)) (hw _ (List.mem_of_getElem? (i := 3) rfl)) (by decide) (by decide)) q93a q93c (g := (mkF m 347 #[.val (.int p1), .val (.int p2), .val (.int p3), .val (.int p4), .val (.int p5), .val (.int SS), .val (.int UL), .val (.int PL), .val (.int HL), .val (.int v2), .val (.ref b4), .val (.int v50), .val (.int v80), .val (.int v81), .val (.int v82), .val (.int v82), .val (.ref b89)] [(.ref b89)])) rfl (by rw [hml]; rfl) (Steps.refl _) (argsL := []) (rest := []) (lenOf pd_2 rfl) rfl (by show 2 * 0 + _ ≤ _; exact Nat.le_of_eq rfl) (hb hby at_347) (fun _ _ => ⟨rfl, e92, (by decide : 4 + 0 ≤ _), (by decide : 52 + 0 ≤ _)⟩)
  dsimp only [Pt.U, Pt.locs, Pt.cells, Pt.slots] at X93 l93 y93 z93 st93 hQ93
  subst l93 y93 z93
  obtain ⟨rfl, N93q, e93⟩ := hQ93
  have N93 := Fr.app N92 N93q
  obtain ⟨v95, hv95⟩ : ∃ z : Int32, z = (if (f8 v81 SS) = v50 then (1 : Int32) else (0 : Int32)) := ⟨_, rfl⟩
  have pre96 : ∀ t, Steps p.tables e below (T93.setTop (mkF m 360 #[.val (.int p1), .val (.int p2), .val (.int p3), .val (.int p4), .val (.int p5), .val (.int SS), .val (.int UL), .val (.int PL), .val (.int HL), .val (.int v2), .val (.ref b4), .val (.int v50), .val (.int v80), .val (.int v81), .val (.int v82), .val (.int v82), .val (.ref b89)] [(.int v95)])) t → Steps p.tables e below (s₁.setTop (entryFrame m #[(.int p1), (.int p2), (.int p3), (.int p4), (.int p5)] maxLocals)) t := fun t k => pre85 t (by
    show Steps p.tables e below (T85.setTop (mkF m 304 #[.val (.int p1), .val (.int p2), .val (.int p3), .val (.int p4), .val (.int p5), .val (.int SS), .val (.int UL), .val (.int PL), .val (.int HL), .val (.int v2), .val (.ref b4), .val (.int v50), .val (.int v80), .val (.int v81), .val (.int v82), sl83, sl84] [])) _
    refine XS.iload X85.here hx rfl (hb hby at_304) rfl ?_
    show Steps p.tables e below (T85.setTop (mkF m 306 #[.val (.int p1), .val (.int p2), .val (.int p3), .val (.int p4), .val (.int p5), .val (.int SS), .val (.int UL), .val (.int PL), .val (.int HL), .val (.int v2), .val (.ref b4), .val (.int v50), .val (.int v80), .val (.int v81), .val (.int v82), sl83, sl84] [(.int v82)])) _
    refine XS.istore X85.here hx rfl (hb hby at_306) rfl (l' := #[.val (.int p1), .val (.int p2), .val (.int p3), .val (.int p4), .val (.int p5), .val (.int SS), .val (.int UL), .val (.int PL), .val (.int HL), .val (.int v2), .val (.ref b4), .val (.int v50), .val (.int v80), .val (.int v81), .val (.int v82), .val (.int v82), sl84]) (XS.store1 (o := sl83) rfl (by show One _; rw [hsl83]; repeat' (first | exact One.u | exact One.val rfl | apply own_one)) rfl) ?_
    show Steps p.tables e below (T85.setTop (mkF m 308 #[.val (.int p1), .val (.int p2), .val (.int p3), .val (.int p4), .val (.int p5), .val (.int SS), .val (.int UL), .val (.int PL), .val (.int HL), .val (.int v2), .val (.ref b4), .val (.int v50), .val (.int v80), .val (.int v81), .val (.int v82), .val (.int v82), sl84] [])) _
    refine XS.aload X85.here hx rfl (hb hby at_308) rfl rfl ?_
    show Steps p.tables e below (T85.setTop (mkF m 310 #[.val (.int p1), .val (.int p2), .val (.int p3), .val (.int p4), .val (.int p5), .val (.int SS), .val (.int UL), .val (.int PL), .val (.int HL), .val (.int v2), .val (.ref b4), .val (.int v50), .val (.int v80), .val (.int v81), .val (.int v82), .val (.int v82), sl84] [(.ref b4)])) _
    refine XS.iload X85.here hx rfl (hb hby at_310) rfl ?_
    show Steps p.tables e below (T85.setTop (mkF m 312 #[.val (.int p1), .val (.int p2), .val (.int p3), .val (.int p4), .val (.int p5), .val (.int SS), .val (.int UL), .val (.int PL), .val (.int HL), .val (.int v2), .val (.ref b4), .val (.int v50), .val (.int v80), .val (.int v81), .val (.int v82), .val (.int v82), sl84] [(.int v82), (.ref b4)])) _
    refine XS.bipush X85.here hx rfl (hb hby at_312) ?_
    show Steps p.tables e below (T85.setTop (mkF m 314 #[.val (.int p1), .val (.int p2), .val (.int p3), .val (.int p4), .val (.int p5), .val (.int SS), .val (.int UL), .val (.int PL), .val (.int HL), .val (.int v2), .val (.ref b4), .val (.int v50), .val (.int v80), .val (.int v81), .val (.int v82), .val (.int v82), sl84] [(.int (47 : Int32)), (.int v82), (.ref b4)])) _
    refine st87 _ ?_
    show Steps p.tables e below (T87.setTop (mkF m 315 #[.val (.int p1), .val (.int p2), .val (.int p3), .val (.int p4), .val (.int p5), .val (.int SS), .val (.int UL), .val (.int PL), .val (.int HL), .val (.int v2), .val (.ref b4), .val (.int v50), .val (.int v80), .val (.int v81), .val (.int v82), .val (.int v82), sl84] [])) _
    refine st89 _ ?_
    show Steps p.tables e below (T89.setTop (mkF m 318 #[.val (.int p1), .val (.int p2), .val (.int p3), .val (.int p4), .val (.int p5), .val (.int SS), .val (.int UL), .val (.int PL), .val (.int HL), .val (.int v2), .val (.ref b4), .val (.int v50), .val (.int v80), .val (.int v81), .val (.int v82), .val (.int v82), sl84] [(.ref b89)])) _
    refine XS.dup X89.here hx rfl (hb hby at_318) rfl rfl ?_
    show Steps p.tables e below (T89.setTop (mkF m 319 #[.val (.int p1), .val (.int p2), .val (.int p3), .val (.int p4), .val (.int p5), .val (.int SS), .val (.int UL), .val (.int PL), .val (.int HL), .val (.int v2), .val (.ref b4), .val (.int v50), .val (.int v80), .val (.int v81), .val (.int v82), .val (.int v82), sl84] [(.ref b89), (.ref b89)])) _
    refine st90 _ ?_
    show Steps p.tables e below (T90.setTop (mkF m 322 #[.val (.int p1), .val (.int p2), .val (.int p3), .val (.int p4), .val (.int p5), .val (.int SS), .val (.int UL), .val (.int PL), .val (.int HL), .val (.int v2), .val (.ref b4), .val (.int v50), .val (.int v80), .val (.int v81), .val (.int v82), .val (.int v82), sl84] [(.ref b90), (.ref b89), (.ref b89)])) _
    refine XS.dup X90.here hx rfl (hb hby at_322) rfl rfl ?_
    show Steps p.tables e below (T90.setTop (mkF m 323 #[.val (.int p1), .val (.int p2), .val (.int p3), .val (.int p4), .val (.int p5), .val (.int SS), .val (.int UL), .val (.int PL), .val (.int HL), .val (.int v2), .val (.ref b4), .val (.int v50), .val (.int v80), .val (.int v81), .val (.int v82), .val (.int v82), sl84] [(.ref b90), (.ref b90), (.ref b89), (.ref b89)])) _
    refine XS.aload X90.here hx rfl (hb hby at_323) rfl rfl ?_
    show Steps p.tables e below (T90.setTop (mkF m 325 #[.val (.int p1), .val (.int p2), .val (.int p3), .val (.int p4), .val (.int p5), .val (.int SS), .val (.int UL), .val (.int PL), .val (.int HL), .val (.int v2), .val (.ref b4), .val (.int v50), .val (.int v80), .val (.int v81), .val (.int v82), .val (.int v82), sl84] [(.ref b4), (.ref b90), (.ref b90), (.ref b89), (.ref b89)])) _
    refine st91.trans ?_
    show Steps p.tables e below (T91.setTop (mkF m 328 #[.val (.int p1), .val (.int p2), .val (.int p3), .val (.int p4), .val (.int p5), .val (.int SS), .val (.int UL), .val (.int PL), .val (.int HL), .val (.int v2), .val (.ref b4), .val (.int v50), .val (.int v80), .val (.int v81), .val (.int v82), .val (.int v82), sl84] [(.ref b90), (.ref b89), (.ref b89)])) _
    refine XS.iload X91.here hx rfl (hb hby at_328) rfl ?_
    show Steps p.tables e below (T91.setTop (mkF m 330 #[.val (.int p1), .val (.int p2), .val (.int p3), .val (.int p4), .val (.int p5), .val (.int SS), .val (.int UL), .val (.int PL), .val (.int HL), .val (.int v2), .val (.ref b4), .val (.int v50), .val (.int v80), .val (.int v81), .val (.int v82), .val (.int v82), sl84] [(.int SS), (.ref b90), (.ref b89), (.ref b89)])) _
    refine XS.iload X91.here hx rfl (hb hby at_330) rfl ?_
    show Steps p.tables e below (T91.setTop (mkF m 332 #[.val (.int p1), .val (.int p2), .val (.int p3), .val (.int p4), .val (.int p5), .val (.int SS), .val (.int UL), .val (.int PL), .val (.int HL), .val (.int v2), .val (.ref b4), .val (.int v50), .val (.int v80), .val (.int v81), .val (.int v82), .val (.int v82), sl84] [(.int v80), (.int SS), (.ref b90), (.ref b89), (.ref b89)])) _
    refine XS.iload X91.here hx rfl (hb hby at_332) rfl ?_
    show Steps p.tables e below (T91.setTop (mkF m 334 #[.val (.int p1), .val (.int p2), .val (.int p3), .val (.int p4), .val (.int p5), .val (.int SS), .val (.int UL), .val (.int PL), .val (.int HL), .val (.int v2), .val (.ref b4), .val (.int v50), .val (.int v80), .val (.int v81), .val (.int v82), .val (.int v82), sl84] [(.int v81), (.int v80), (.int SS), (.ref b90), (.ref b89), (.ref b89)])) _
    refine XS.iload X91.here hx rfl (hb hby at_334) rfl ?_
    show Steps p.tables e below (T91.setTop (mkF m 336 #[.val (.int p1), .val (.int p2), .val (.int p3), .val (.int p4), .val (.int p5), .val (.int SS), .val (.int UL), .val (.int PL), .val (.int HL), .val (.int v2), .val (.ref b4), .val (.int v50), .val (.int v80), .val (.int v81), .val (.int v82), .val (.int v82), sl84] [(.int v82), (.int v81), (.int v80), (.int SS), (.ref b90), (.ref b89), (.ref b89)])) _
    refine XS.iload X91.here hx rfl (hb hby at_336) rfl ?_
    show Steps p.tables e below (T91.setTop (mkF m 338 #[.val (.int p1), .val (.int p2), .val (.int p3), .val (.int p4), .val (.int p5), .val (.int SS), .val (.int UL), .val (.int PL), .val (.int HL), .val (.int v2), .val (.ref b4), .val (.int v50), .val (.int v80), .val (.int v81), .val (.int v82), .val (.int v82), sl84] [(.int v82), (.int v82), (.int v81), (.int v80), (.int SS), (.ref b90), (.ref b89), (.ref b89)])) _
    refine XS.iconst X91.here hx rfl (hb hby at_338) ?_
    show Steps p.tables e below (T91.setTop (mkF m 339 #[.val (.int p1), .val (.int p2), .val (.int p3), .val (.int p4), .val (.int p5), .val (.int SS), .val (.int UL), .val (.int PL), .val (.int HL), .val (.int v2), .val (.ref b4), .val (.int v50), .val (.int v80), .val (.int v81), .val (.int v82), .val (.int v82), sl84] [(.int (-1 : Int32)), (.int v82), (.int v82), (.int v81), (.int v80), (.int SS), (.ref b90), (.ref b89), (.ref b89)])) _
    refine XS.iconst X91.here hx rfl (hb hby at_339) ?_
    show Steps p.tables e below (T91.setTop (mkF m 340 #[.val (.int p1), .val (.int p2), .val (.int p3), .val (.int p4), .val (.int p5), .val (.int SS), .val (.int UL), .val (.int PL), .val (.int HL), .val (.int v2), .val (.ref b4), .val (.int v50), .val (.int v80), .val (.int v81), .val (.int v82), .val (.int v82), sl84] [(.int (-1 : Int32)), (.int (-1 : Int32)), (.int v82), (.int v82), (.int v81), (.int v80), (.int SS), (.ref b90), (.ref b89), (.ref b89)])) _
    refine st92.trans ?_
    show Steps p.tables e below (T92.setTop (mkF m 343 #[.val (.int p1), .val (.int p2), .val (.int p3), .val (.int p4), .val (.int p5), .val (.int SS), .val (.int UL), .val (.int PL), .val (.int HL), .val (.int v2), .val (.ref b4), .val (.int v50), .val (.int v80), .val (.int v81), .val (.int v82), .val (.int v82), sl84] [(.ref b89)])) _
    refine XS.astore X92.here hx rfl (hb hby at_343) rfl rfl (l' := #[.val (.int p1), .val (.int p2), .val (.int p3), .val (.int p4), .val (.int p5), .val (.int SS), .val (.int UL), .val (.int PL), .val (.int HL), .val (.int v2), .val (.ref b4), .val (.int v50), .val (.int v80), .val (.int v81), .val (.int v82), .val (.int v82), .val (.ref b89)]) (XS.store1 (o := sl84) rfl (by show One _; rw [hsl84]; repeat' (first | exact One.u | exact One.val rfl | apply own_one)) rfl) ?_
    show Steps p.tables e below (T92.setTop (mkF m 345 #[.val (.int p1), .val (.int p2), .val (.int p3), .val (.int p4), .val (.int p5), .val (.int SS), .val (.int UL), .val (.int PL), .val (.int HL), .val (.int v2), .val (.ref b4), .val (.int v50), .val (.int v80), .val (.int v81), .val (.int v82), .val (.int v82), .val (.ref b89)] [])) _
    refine XS.aload X92.here hx rfl (hb hby at_345) rfl rfl ?_
    show Steps p.tables e below (T92.setTop (mkF m 347 #[.val (.int p1), .val (.int p2), .val (.int p3), .val (.int p4), .val (.int p5), .val (.int SS), .val (.int UL), .val (.int PL), .val (.int HL), .val (.int v2), .val (.ref b4), .val (.int v50), .val (.int v80), .val (.int v81), .val (.int v82), .val (.int v82), .val (.ref b89)] [(.ref b89)])) _
    refine st93.trans ?_
    show Steps p.tables e below (T93.setTop (mkF m 350 #[.val (.int p1), .val (.int p2), .val (.int p3), .val (.int p4), .val (.int p5), .val (.int SS), .val (.int UL), .val (.int PL), .val (.int HL), .val (.int v2), .val (.ref b4), .val (.int v50), .val (.int v80), .val (.int v81), .val (.int v82), .val (.int v82), .val (.ref b89)] [(.int (f8 v81 SS))])) _
    refine XS.iload X93.here hx rfl (hb hby at_350) rfl ?_
    show Steps p.tables e below (T93.setTop (mkF m 352 #[.val (.int p1), .val (.int p2), .val (.int p3), .val (.int p4), .val (.int p5), .val (.int SS), .val (.int UL), .val (.int PL), .val (.int HL), .val (.int v2), .val (.ref b4), .val (.int v50), .val (.int v80), .val (.int v81), .val (.int v82), .val (.int v82), .val (.ref b89)] [(.int v50), (.int (f8 v81 SS))])) _
    by_cases hc94 : (f8 v81 SS) = v50
    · refine XS.icmpNo X93.here hx rfl (hb hby at_352) rfl (teq hc94).2 ?_
      show Steps p.tables e below (T93.setTop (mkF m 355 #[.val (.int p1), .val (.int p2), .val (.int p3), .val (.int p4), .val (.int p5), .val (.int SS), .val (.int UL), .val (.int PL), .val (.int HL), .val (.int v2), .val (.ref b4), .val (.int v50), .val (.int v80), .val (.int v81), .val (.int v82), .val (.int v82), .val (.ref b89)] [])) _
      refine XS.iconst X93.here hx rfl (hb hby at_355) ?_
      show Steps p.tables e below (T93.setTop (mkF m 356 #[.val (.int p1), .val (.int p2), .val (.int p3), .val (.int p4), .val (.int p5), .val (.int SS), .val (.int UL), .val (.int PL), .val (.int HL), .val (.int v2), .val (.ref b4), .val (.int v50), .val (.int v80), .val (.int v81), .val (.int v82), .val (.int v82), .val (.ref b89)] [(.int (1 : Int32))])) _
      refine XS.goto X93.here hx rfl (pc0 := 356) (pc' := 360) rfl (hb hby at_356) (by decide) (by decide) ?_
      rw [show v95 = (1 : Int32) from hv95.trans (if_pos hc94)] at k
      exact k
    · refine XS.icmpYes X93.here hx rfl (pc0 := 352) (pc' := 359) rfl (hb hby at_352) rfl (feq hc94).2 (by decide) (by decide) ?_
      show Steps p.tables e below (T93.setTop (mkF m 359 #[.val (.int p1), .val (.int p2), .val (.int p3), .val (.int p4), .val (.int p5), .val (.int SS), .val (.int UL), .val (.int PL), .val (.int HL), .val (.int v2), .val (.ref b4), .val (.int v50), .val (.int v80), .val (.int v81), .val (.int v82), .val (.int v82), .val (.ref b89)] [])) _
      refine XS.iconst X93.here hx rfl (hb hby at_359) ?_
      rw [show v95 = (0 : Int32) from hv95.trans (if_neg hc94)] at k
      exact k)
  have er : (f0 p1 p2 p3 p4 p5) = (nar .boolean v95) := by subst hSS hUL hPL hHL hv2 hy5 hy7 hy9 hy11 hy13 hy15 hy17 hy19 hy21 hy23 hy25 hy27 hy29 hy31 hy33 hy35 hy37 hy39 hy41 hy43 hy45 hv50 hv80 hv81 hv82 hsl83 hsl84 hy86 hy87 hv95; exact rfl
  obtain ⟨fs, hr, hrun, hended, hW, hsame⟩ := X93.leave (v := some (.int (nar .boolean v95))) (fun h => by rw [Bd.returns] at h; cases h)
  refine ⟨_, _, pre96 _ ?_, hrun, hended, _, _, rfl, ?_, ⟨_, rfl⟩, hW, hsame.mono (by decide) (by decide)⟩
  · show Steps p.tables e below (T93.setTop (mkF m 360 #[.val (.int p1), .val (.int p2), .val (.int p3), .val (.int p4), .val (.int p5), .val (.int SS), .val (.int UL), .val (.int PL), .val (.int HL), .val (.int v2), .val (.ref b4), .val (.int v50), .val (.int v80), .val (.int v81), .val (.int v82), .val (.int v82), .val (.ref b89)] [(.int v95)])) _
    exact retN X93 hx (t := .boolean) Bd.returns (by simp) (hb hby at_360) hr
  · show Q0 Z p1 p2 p3 p4 p5 zc h0 n0 _ T93.heap _
    rw [e93]
    exact ⟨congrArg (fun z => some (Value.int z)) er.symm, N93, trivial⟩
theorem own_cred {a u l : Int32} {v : Int32} (hv : v = (if a = (0 : Int32) then (0 : Int32) else (if (0 : Int32) < u then (1 : Int32) else (if (0 : Int32) < l then (1 : Int32) else (0 : Int32))))) : (v = 0 ∨ v = 1) ∧ (a = 0 → v = 0) := by
  subst hv
  by_cases c : a = (0 : Int32)
  · rw [if_pos c]; exact ⟨Or.inl rfl, fun _ => rfl⟩
  · rw [if_neg c]
    by_cases d : (0 : Int32) < u
    · rw [if_pos d]; exact ⟨Or.inr rfl, fun q => absurd q c⟩
    · rw [if_neg d]
      by_cases e : (0 : Int32) < l
      · rw [if_pos e]; exact ⟨Or.inr rfl, fun q => absurd q c⟩
      · rw [if_neg e]; exact ⟨Or.inl rfl, fun q => absurd q c⟩
theorem own_main {p q t SS UL PL a b v : Int32} (h : SS = ((1 : Int32) + (p &&& (3 : Int32)))) (hu : UL = (q &&& (3 : Int32))) (hp : PL = (t &&& (3 : Int32))) (hb : (b = 0 ∨ b = 1) ∧ (a = 0 → b = 0)) (hv : v = (if a = (0 : Int32) then (SS + (1 : Int32)) else (if b = (0 : Int32) then (SS + (3 : Int32)) else ((if (0 : Int32) < PL then ((((SS + (3 : Int32)) + UL) + (1 : Int32)) + PL) else ((SS + (3 : Int32)) + UL)) + (1 : Int32))))) : f8 v SS = b := by
  have w := own_v4 h hu hp hv
  have rs := own_rS h
  have e3 : (3 : Int32).toInt = 3 := by decide
  have a3 := own_add SS 3 ⟨by omega, by omega⟩ ⟨by omega, by omega⟩
  unfold f8
  rcases hb.1 with c | c
  · have k : ¬ (SS + (3 : Int32)) < v := by rw [Int32.lt_iff_toInt_lt]; have := w.2.2.2.1 c; omega
    rw [if_neg k, c]; decide
  · have ha : ¬ a = 0 := fun z => by rw [hb.2 z] at c; exact absurd c (by decide)
    have k : (SS + (3 : Int32)) < v := by rw [Int32.lt_iff_toInt_lt]; have := w.2.2.2.2 ha (by rw [c]; decide); omega
    rw [if_pos k, c]; decide
theorem own_law (p1 p2 p3 p4 p5 : Int32) : f0 p1 p2 p3 p4 p5 = 1 := by
  unfold f0
  exact (congrArg (nar .boolean) (if_pos (own_main (p := p1) (q := p2) (t := p3) rfl rfl rfl (own_cred rfl) rfl))).trans (by decide)
set_option maxRecDepth 65536 in
set_option maxHeartbeats 40000000 in
theorem comes_1 {Post : Tables → Env → Array Value → State → Outcome → State → Prop} (hpost : ∀ tb e args s v u, (limb_1_1.after args s (.returned v) u = true ∧ limb_1_2.after args s (.returned v) u = true ∧ True) → FrameEnd s (.returned v) u (Jvm.fieldLocs frame_1_writes args s ++ Jvm.arrayLocs frame_1_arrays args s ++ Jvm.staticLocs frame_1_statics s) 16 192 → Post tb e args s (.returned v) u) :
    ArmFor flags0 classFile x code maxLocals ret World_1 tables_1 room_1 Calls_1 rest_1 Pre_1 Post := by
  intro l hfl _ _ p e ha hc hk s m args below hf hA hF happ hP
  obtain ⟨hcalls, hrest, hpre⟩ := hP
  obtain ⟨-, -, -, hnamed, -, -, -, hat⟩ := (Spec.applies_iff hf).mp happ
  obtain ⟨hg, hn⟩ := and_e (Cond.before_iff.mp (show (Jvm.Cond.and given_1 narrow_1).before args s = true from hpre))
  obtain ⟨g1, g2⟩ := and_e hg
  obtain ⟨g3, g4⟩ := and_e g2
  obtain ⟨g5, g6⟩ := and_e g4
  obtain ⟨g7, g8⟩ := and_e g6
  obtain ⟨g9, g10⟩ := and_e g8
  obtain ⟨w0, w1, w2, w3, w4, rfl⟩ : ∃ w0 w1 w2 w3 w4 : Value, args = #[w0, w1, w2, w3, w4] := by
    have hs : args.size = 5 := by simpa [Cond.value, given_1] using g1
    obtain ⟨L⟩ := args
    match L, hs with
    | [w0, w1, w2, w3, w4], _ => exact ⟨w0, w1, w2, w3, w4, rfl⟩
  have hw := fun d (hd : d ∈ tables_1) => atoms_spec (ws := Jvm.Cond.code x code maxLocals ret :: tables_1) hat d (List.mem_cons_of_mem _ hd)
  obtain ⟨i0, ei0⟩ := is_v g3
  obtain rfl : w0 = (.int i0) := Option.some.inj ei0
  obtain ⟨i1, ei1⟩ := is_v g5
  obtain rfl : w1 = (.int i1) := Option.some.inj ei1
  obtain ⟨i2, ei2⟩ := is_v g7
  obtain rfl : w2 = (.int i2) := Option.some.inj ei2
  obtain ⟨i3, ei3⟩ := is_v g9
  obtain rfl : w3 = (.int i3) := Option.some.inj ei3
  obtain ⟨i4, ei4⟩ := is_v g10
  obtain rfl : w4 = (.int i4) := Option.some.inj ei4
  obtain ⟨hsets, hown0⟩ := atoms_of _ (rest_1_c_eq ▸ (show rest_1_c.before _ s = true from hrest))
  have n3 := not_v (Cond.before_iff.mp (hsets _ (List.mem_of_getElem? (i := 2) rfl)))
  obtain ⟨zc, ezc⟩ := is_v (Cond.before_iff.mp (hsets _ (List.mem_of_getElem? (i := 1) rfl)))
  have S8 : Sta s s.heap "java/lang/String" "COMPACT_STRINGS" "Z" (.int zc) := Sta.start ezc (Or.inl (hsets _ (List.mem_of_getElem? (i := 0) rfl)))
  have c9 : ¬ (zc = (0 : Int32)) := gotF (Cond.eq_ints ezc (Term.int_eval (0))) n3
  obtain ⟨n, o, h1, h2, h3, _, L, rfl, ⟨rfl, N, -⟩, hq⟩ := rm0 l s _ hw tables_1 i0 i1 i2 i3 i4 zc s.heap s.heap.size (Nat.le_refl _) S8 c9 (Old.start s) p e ha hc hk s m _ below hf ((Spec.applies_iff_loose hf).mp happ).1 ⟨rfl, State.Warmed39.refl s, rfl⟩ trivial
  refine ⟨n, _, h1, h2, h3, hpost _ _ _ _ _ _ ⟨Cond.after_iff.mpr rfl, Cond.after_iff.mpr (eq_i res_at (Term.int_eval (1)) (congrArg Value.int (own_law i0 i1 i2 i3 i4))), trivial⟩ ⟨hq.1, hq.2.1, (hq.2.2.sift fun y hy => Or.inr (N y hy)).mono (by decide) (by decide)⟩⟩
theorem main_1_1 : Claimed_1_1 := comes_1 fun _ _ _ _ _ _ h hF => ⟨h.1, hF⟩
theorem main_1_2 : Claimed_1_2 := comes_1 fun _ _ _ _ _ _ h hF => ⟨h.2.1, hF⟩
end Jvm.Pilot.@@N@@
namespace Jvm.Pilot.@@N@@
open Jvm Jvm.ClassFile Sem Op Lib Jvm.Free Jvm.Stand Jvm.Pilot.@@N@@.Jvm.D
/-! MADE BY PROGRAM (witnessworld.py) out of the Statement's table words and the real class files: 20 classes; the members and pool entries that the words name. The judged class is class 1, her method 1. -/
namespace start1
open Jvm.ClassFile
def u (s : String) : CpInfo := .utf8 (stringToUtf16 s)
/-- a pool by its gaps: so many unusable entries, then the entry; so many at the end -/
def gap : Nat → List CpInfo → List CpInfo
  | 0, r => r
  | n + 1, r => .unusable :: gap n r
def poolList (es : List (Nat × CpInfo)) (last : Nat) : List CpInfo := es.foldr (fun e r => gap e.1 (e.2 :: r)) (gap last [])
def pool (es : List (Nat × CpInfo)) (last : Nat) : Array CpInfo := ⟨poolList es last⟩
def fileOf (pool : Array CpInfo) (this : Nat) (attrs : Array Attribute := #[]) (ms : Array MethodInfo := #[]) (fl : Nat := 33) (sup : Nat := 0) (ifs : Array Nat := #[]) (fds : Array FieldInfo := #[]) : ClassFile where
  minorVersion := 0
  majorVersion := 65
  constantPool := pool
  accessFlags := fl
  thisClass := this
  superClass := sup
  interfaces := ifs
  fields := fds
  methods := ms
  attributes := attrs
def plain (name : String) (sup : Option ClassId) : Class where
  name := name
  kind := .ordinary
  loader := none
  accessFlags := 33
  super := sup
  interfaces := #[]
  cf := none
  fields := #[]
  methods := #[]
  instanceTypes := #[]
  staticTypes := #[]
  resolved := #[]
  callSites := []
  init := .initialized
  statics := none
  mirror := none

def pool0 : Array CpInfo := pool [(5, u "<init>"), (0, u "()V"), (1, .class_ 10), (1, u "java/lang/Object")] 113

def k0c0 : Code := { maxStack := 0, maxLocals := 1, code := object_method_1_code, exceptionTable := #[], attributes := #[] }
def k0m0 : Method := { name := "<init>", desc := "()V", sig := { parameters := [], returnType := none }, accessFlags := 1, code := some k0c0 }
/-- java/lang/Object -/
def k0 : Class := { plain "java/lang/Object" none with
  accessFlags := 33
  interfaces := #[]
  cf := some (fileOf pool0 8 #[] #[{ accessFlags := 1, nameIndex := 5, descriptorIndex := 6, attributes := #[] }] 33 0 #[] #[])
  fields := #[]
  methods := #[k0m0]
  instanceTypes := #[]
  staticTypes := #[]
  resolved := Array.replicate 124 none
  statics := none }

def pool1 : Array CpInfo := pool [(2, .class_ 4), (1, u "java/lang/Object"), (0, u "<init>"), (0, u "()V"), (0, .class_ 8), (0, u "com/example/cadmus/cadmus/internal/UrlRecord"), (0, .class_ 10), (0, u "java/lang/String"), (0, .methodref 9 12), (0, .nameAndType 5 13), (0, u "([C)V"), (0, .methodref 7 15), (0, .nameAndType 5 16), (0, u "(Ljava/lang/String;IIIIIII)V"), (0, .methodref 7 18), (0, .nameAndType 19 20), (0, u "hasCredentials"), (0, u "()Z"), (0, .class_ 22), (0, u "com/example/cadmus/cadmus/internal/UrlRecordHasCredentialsPinLaw"), (2, u "law"), (0, u "(IIIII)Z")] 5

def k1m0 : Method := { name := "<init>", desc := "()V", sig := { parameters := [], returnType := none }, accessFlags := 1, code := none }
def k1c1 : Code := { maxStack := 10, maxLocals := 17, code := code, exceptionTable := #[], attributes := #[] }
def k1m1 : Method := { name := "law", desc := "(IIIII)Z", sig := { parameters := [.int, .int, .int, .int, .int], returnType := some .boolean }, accessFlags := 9, code := some k1c1 }
/-- com/example/cadmus/cadmus/internal/UrlRecordHasCredentialsPinLaw -/
def k1 : Class := { plain "com/example/cadmus/cadmus/internal/UrlRecordHasCredentialsPinLaw" (some 0) with
  accessFlags := 49
  interfaces := #[]
  cf := some (fileOf pool1 21 #[] #[{ accessFlags := 1, nameIndex := 5, descriptorIndex := 6, attributes := #[] }, { accessFlags := 9, nameIndex := 25, descriptorIndex := 26, attributes := #[] }] 49 2 #[] #[])
  fields := #[]
  methods := #[k1m0, k1m1]
  instanceTypes := #[]
  staticTypes := #[]
  resolved := Array.replicate 32 none
  statics := none }

def pool2 : Array CpInfo := pool [(1, .methodref 2 3), (0, .class_ 4), (0, .nameAndType 5 6), (0, u "java/lang/Object"), (0, u "<init>"), (0, u "()V"), (0, .fieldref 8 9), (0, .class_ 10), (0, .nameAndType 11 12), (0, u "com/example/cadmus/cadmus/internal/UrlRecord"), (0, u "href"), (0, u "Ljava/lang/String;"), (0, .fieldref 8 14), (0, .nameAndType 15 16), (0, u "schemeEnd"), (0, u "I"), (0, .fieldref 8 18), (0, .nameAndType 19 16), (0, u "usernameEnd"), (0, .fieldref 8 21), (0, .nameAndType 22 16), (0, u "hostStart"), (0, .fieldref 8 24), (0, .nameAndType 25 16), (0, u "hostEnd"), (0, .fieldref 8 27), (0, .nameAndType 28 16), (0, u "pathStart"), (0, .fieldref 8 30), (0, .nameAndType 31 16), (0, u "queryStart"), (0, .fieldref 8 33), (0, .nameAndType 34 16), (0, u "fragmentStart"), (18, u "()Z"), (11, u "(Ljava/lang/String;IIIIIII)V"), (6, u "hasCredentials")] 4

def k2c0 : Code := { maxStack := 2, maxLocals := 9, code := prog_30_method_1_code, exceptionTable := #[], attributes := #[] }
def k2m0 : Method := { name := "<init>", desc := "(Ljava/lang/String;IIIIIII)V", sig := { parameters := [(.object "java/lang/String"), .int, .int, .int, .int, .int, .int, .int], returnType := none }, accessFlags := 1, code := some k2c0 }
def k2c1 : Code := { maxStack := 3, maxLocals := 1, code := prog_30_method_14_code, exceptionTable := #[], attributes := #[] }
def k2m1 : Method := { name := "hasCredentials", desc := "()Z", sig := { parameters := [], returnType := some .boolean }, accessFlags := 1, code := some k2c1 }
/-- com/example/cadmus/cadmus/internal/UrlRecord -/
def k2 : Class := { plain "com/example/cadmus/cadmus/internal/UrlRecord" (some 0) with
  accessFlags := 33
  interfaces := #[]
  cf := some (fileOf pool2 8 #[] #[{ accessFlags := 1, nameIndex := 5, descriptorIndex := 65, attributes := #[] }, { accessFlags := 1, nameIndex := 72, descriptorIndex := 53, attributes := #[] }] 33 2 #[] #[{ accessFlags := 18, nameIndex := 11, descriptorIndex := 12, attributes := #[] }, { accessFlags := 18, nameIndex := 15, descriptorIndex := 16, attributes := #[] }, { accessFlags := 18, nameIndex := 19, descriptorIndex := 16, attributes := #[] }, { accessFlags := 18, nameIndex := 22, descriptorIndex := 16, attributes := #[] }, { accessFlags := 18, nameIndex := 25, descriptorIndex := 16, attributes := #[] }, { accessFlags := 18, nameIndex := 28, descriptorIndex := 16, attributes := #[] }, { accessFlags := 18, nameIndex := 31, descriptorIndex := 16, attributes := #[] }, { accessFlags := 18, nameIndex := 34, descriptorIndex := 16, attributes := #[] }])
  fields := #[{ name := "href", type := (.object "java/lang/String"), accessFlags := 18, slot := 0, constantValue := 0 }, { name := "schemeEnd", type := .int, accessFlags := 18, slot := 1, constantValue := 0 }, { name := "usernameEnd", type := .int, accessFlags := 18, slot := 2, constantValue := 0 }, { name := "hostStart", type := .int, accessFlags := 18, slot := 3, constantValue := 0 }, { name := "hostEnd", type := .int, accessFlags := 18, slot := 4, constantValue := 0 }, { name := "pathStart", type := .int, accessFlags := 18, slot := 5, constantValue := 0 }, { name := "queryStart", type := .int, accessFlags := 18, slot := 6, constantValue := 0 }, { name := "fragmentStart", type := .int, accessFlags := 18, slot := 7, constantValue := 0 }]
  methods := #[k2m0, k2m1]
  instanceTypes := #[(.object "java/lang/String"), .int, .int, .int, .int, .int, .int, .int]
  staticTypes := #[]
  resolved := Array.replicate 77 none
  statics := none }

def pool3 : Array CpInfo := pool [(1, .class_ 2), (0, u "java/io/Serializable"), (0, .class_ 4), (0, u "java/lang/Object")] 2

/-- java/io/Serializable -/
def k3 : Class := { plain "java/io/Serializable" (some 0) with
  accessFlags := 1537
  interfaces := #[]
  cf := some (fileOf pool3 1 #[] #[] 1537 3 #[] #[])
  fields := #[]
  methods := #[]
  instanceTypes := #[]
  staticTypes := #[]
  resolved := Array.replicate 7 none
  statics := none }

def pool4 : Array CpInfo := pool [(1, .class_ 2), (0, u "java/lang/Comparable"), (0, .class_ 4), (0, u "java/lang/Object")] 7

/-- java/lang/Comparable -/
def k4 : Class := { plain "java/lang/Comparable" (some 0) with
  accessFlags := 1537
  interfaces := #[]
  cf := some (fileOf pool4 1 #[] #[] 1537 3 #[] #[])
  fields := #[]
  methods := #[]
  instanceTypes := #[]
  staticTypes := #[]
  resolved := Array.replicate 12 none
  statics := none }

def pool5 : Array CpInfo := pool [(2, .class_ 4), (1, u "java/lang/CharSequence"), (42, .class_ 48), (0, u "java/lang/CharSequence$1CodePointIterator"), (10, .class_ 60), (0, u "java/lang/CharSequence$1CharIterator"), (5, .class_ 67), (0, u "java/lang/Object")] 63

/-- java/lang/CharSequence -/
def k5 : Class := { plain "java/lang/CharSequence" (some 0) with
  accessFlags := 1537
  interfaces := #[]
  cf := some (fileOf pool5 2 #[.nestMembers #[47, 59]] #[] 1537 66 #[] #[])
  fields := #[]
  methods := #[]
  instanceTypes := #[]
  staticTypes := #[]
  resolved := Array.replicate 131 none
  statics := none }

def pool6 : Array CpInfo := pool [(1, .class_ 2), (0, u "java/lang/constant/Constable"), (0, .class_ 4), (0, u "java/lang/Object")] 6

/-- java/lang/constant/Constable -/
def k6 : Class := { plain "java/lang/constant/Constable" (some 0) with
  accessFlags := 1537
  interfaces := #[]
  cf := some (fileOf pool6 1 #[] #[] 1537 3 #[] #[])
  fields := #[]
  methods := #[]
  instanceTypes := #[]
  staticTypes := #[]
  resolved := Array.replicate 11 none
  statics := none }

def pool7 : Array CpInfo := pool [(1, .class_ 2), (0, u "java/lang/constant/ConstantDesc"), (0, .class_ 4), (0, u "java/lang/Object")] 32

/-- java/lang/constant/ConstantDesc -/
def k7 : Class := { plain "java/lang/constant/ConstantDesc" (some 0) with
  accessFlags := 1537
  interfaces := #[]
  cf := some (fileOf pool7 1 #[] #[] 1537 3 #[] #[])
  fields := #[]
  methods := #[]
  instanceTypes := #[]
  staticTypes := #[]
  resolved := Array.replicate 37 none
  statics := none }

def pool8 : Array CpInfo := pool [(1, .methodref 2 3), (0, .class_ 4), (0, .nameAndType 5 6), (0, u "java/lang/Object"), (0, u "<init>"), (0, u "()V"), (2, .fieldref 10 11), (0, .class_ 12), (0, .nameAndType 13 14), (0, u "java/lang/String"), (0, u "value"), (0, u "[B"), (0, .fieldref 10 16), (0, .nameAndType 17 18), (0, u "coder"), (0, u "B"), (2, u "hash"), (0, u "I"), (2, u "hashIsZero"), (0, u "Z"), (0, .methodref 10 28), (0, .nameAndType 5 29), (0, u "([CIILjava/lang/Void;)V"), (8, .fieldref 10 39), (0, .nameAndType 40 26), (0, u "COMPACT_STRINGS"), (1, .class_ 44), (1, u "java/lang/StringUTF16"), (0, u "compress"), (1, .methodref 42 48), (0, .nameAndType 49 50), (0, u "coderFromArrayLen"), (0, u "([BI)B"), (126, .methodref 42 178), (0, .nameAndType 45 179), (0, u "([CII)[B"), (395, .class_ 576), (0, u "java/lang/CharSequence"), (22, u "CASE_INSENSITIVE_ORDER"), (0, u "Ljava/util/Comparator;"), (409, u "([C)V"), (90, u "serialPersistentFields"), (0, u "[Ljava/io/ObjectStreamField;"), (0, .class_ 1104), (0, u "java/lang/String$CaseInsensitiveComparator"), (1, .class_ 1107), (0, u "java/io/Serializable"), (0, .class_ 1109), (0, u "java/lang/Comparable"), (0, .class_ 1111), (0, u "java/lang/constant/Constable"), (0, .class_ 1113), (0, u "java/lang/constant/ConstantDesc"), (2, u "serialVersionUID"), (0, u "J"), (3, u "REPL"), (0, u "C"), (2, u "LATIN1"), (1, u "UTF16")] 323

def k8m0 : Method := { name := "<init>", desc := "()V", sig := { parameters := [], returnType := none }, accessFlags := 1, code := none }
def k8c1 : Code := { maxStack := 5, maxLocals := 2, code := jdk_42_method_3_code, exceptionTable := #[], attributes := #[] }
def k8m1 : Method := { name := "<init>", desc := "([C)V", sig := { parameters := [(.array .char)], returnType := none }, accessFlags := 1, code := some k8c1 }
def k8c2 : Code := { maxStack := 4, maxLocals := 6, code := jdk_42_method_149_code, exceptionTable := #[], attributes := #[] }
def k8m2 : Method := { name := "<init>", desc := "([CIILjava/lang/Void;)V", sig := { parameters := [(.array .char), .int, .int, (.object "java/lang/Void")], returnType := none }, accessFlags := 2, code := some k8c2 }
/-- java/lang/String -/
def k8 : Class := { plain "java/lang/String" (some 0) with
  accessFlags := 49
  interfaces := #[3, 4, 5, 6, 7]
  cf := some (fileOf pool8 10 #[.nestMembers #[1103]] #[{ accessFlags := 1, nameIndex := 5, descriptorIndex := 6, attributes := #[] }, { accessFlags := 1, nameIndex := 5, descriptorIndex := 1010, attributes := #[] }, { accessFlags := 2, nameIndex := 5, descriptorIndex := 29, attributes := #[] }] 49 2 #[1106, 1108, 575, 1110, 1112] #[{ accessFlags := 18, nameIndex := 13, descriptorIndex := 14, attributes := #[] }, { accessFlags := 18, nameIndex := 17, descriptorIndex := 18, attributes := #[] }, { accessFlags := 2, nameIndex := 21, descriptorIndex := 22, attributes := #[] }, { accessFlags := 2, nameIndex := 25, descriptorIndex := 26, attributes := #[] }, { accessFlags := 26, nameIndex := 1116, descriptorIndex := 1117, attributes := #[] }, { accessFlags := 24, nameIndex := 40, descriptorIndex := 26, attributes := #[] }, { accessFlags := 26, nameIndex := 1101, descriptorIndex := 1102, attributes := #[] }, { accessFlags := 26, nameIndex := 1121, descriptorIndex := 1122, attributes := #[] }, { accessFlags := 25, nameIndex := 599, descriptorIndex := 600, attributes := #[] }, { accessFlags := 24, nameIndex := 1125, descriptorIndex := 18, attributes := #[] }, { accessFlags := 24, nameIndex := 1127, descriptorIndex := 18, attributes := #[] }])
  fields := #[{ name := "value", type := (.array .byte), accessFlags := 18, slot := 0, constantValue := 0 }, { name := "coder", type := .byte, accessFlags := 18, slot := 1, constantValue := 0 }, { name := "hash", type := .int, accessFlags := 2, slot := 2, constantValue := 0 }, { name := "hashIsZero", type := .boolean, accessFlags := 2, slot := 3, constantValue := 0 }, { name := "serialVersionUID", type := .long, accessFlags := 26, slot := 0, constantValue := 0 }, { name := "COMPACT_STRINGS", type := .boolean, accessFlags := 24, slot := 1, constantValue := 0 }, { name := "serialPersistentFields", type := (.array (.object "java/io/ObjectStreamField")), accessFlags := 26, slot := 2, constantValue := 0 }, { name := "REPL", type := .char, accessFlags := 26, slot := 3, constantValue := 0 }, { name := "CASE_INSENSITIVE_ORDER", type := (.object "java/util/Comparator"), accessFlags := 25, slot := 4, constantValue := 0 }, { name := "LATIN1", type := .byte, accessFlags := 24, slot := 5, constantValue := 0 }, { name := "UTF16", type := .byte, accessFlags := 24, slot := 6, constantValue := 0 }]
  methods := #[k8m0, k8m1, k8m2]
  instanceTypes := #[(.array .byte), .byte, .int, .boolean]
  staticTypes := #[.long, .boolean, (.array (.object "java/io/ObjectStreamField")), .char, (.object "java/util/Comparator"), .byte, .byte]
  resolved := Array.replicate 1451 none
  statics := some 0 }

def pool9 : Array CpInfo := pool [(6, .class_ 8), (1, u "java/lang/Object"), (0, u "<init>"), (0, u "()V"), (1, .class_ 14), (1, u "java/lang/StringUTF16"), (31, u "$assertionsDisabled"), (0, u "Z"), (13, u "HI_BYTE_SHIFT"), (0, u "I"), (2, u "LO_BYTE_SHIFT"), (49, .methodref 12 116), (0, .nameAndType 117 118), (0, u "compress"), (0, u "([CI[BII)I"), (3, u "([CII)[B"), (138, u "coderFromArrayLen"), (0, u "([BI)B"), (106, .class_ 371), (1, u "java/lang/StringUTF16$LinesSpliterator"), (58, u "MAX_LENGTH"), (196, .class_ 628), (0, u "java/lang/StringUTF16$CodePointsSpliterator"), (0, .class_ 630), (0, u "java/lang/StringUTF16$CharsSpliterator")] 4

def k9m0 : Method := { name := "<init>", desc := "()V", sig := { parameters := [], returnType := none }, accessFlags := 0, code := none }
def k9c1 : Code := { maxStack := 2, maxLocals := 2, code := jdk_52_method_15_code, exceptionTable := #[], attributes := #[] }
def k9m1 : Method := { name := "coderFromArrayLen", desc := "([BI)B", sig := { parameters := [(.array .byte), .int], returnType := some .byte }, accessFlags := 8, code := some k9c1 }
def k9c2 : Code := { maxStack := 5, maxLocals := 6, code := jdk_52_method_16_code, exceptionTable := #[], attributes := #[] }
def k9m2 : Method := { name := "compress", desc := "([CII)[B", sig := { parameters := [(.array .char), .int, .int], returnType := some (.array .byte) }, accessFlags := 9, code := some k9c2 }
def k9c3 : Code := { maxStack := 3, maxLocals := 7, code := jdk_52_method_21_code, exceptionTable := #[], attributes := #[] }
def k9m3 : Method := { name := "compress", desc := "([CI[BII)I", sig := { parameters := [(.array .char), .int, (.array .byte), .int, .int], returnType := some .int }, accessFlags := 9, code := some k9c3 }
/-- java/lang/StringUTF16 -/
def k9 : Class := { plain "java/lang/StringUTF16" (some 0) with
  accessFlags := 48
  interfaces := #[]
  cf := some (fileOf pool9 12 #[.nestMembers #[627, 629, 369]] #[{ accessFlags := 0, nameIndex := 9, descriptorIndex := 10, attributes := #[] }, { accessFlags := 8, nameIndex := 261, descriptorIndex := 262, attributes := #[] }, { accessFlags := 9, nameIndex := 117, descriptorIndex := 122, attributes := #[] }, { accessFlags := 9, nameIndex := 117, descriptorIndex := 118, attributes := #[] }] 48 6 #[] #[{ accessFlags := 26, nameIndex := 61, descriptorIndex := 62, attributes := #[] }, { accessFlags := 26, nameIndex := 65, descriptorIndex := 62, attributes := #[] }, { accessFlags := 24, nameIndex := 430, descriptorIndex := 62, attributes := #[] }, { accessFlags := 4120, nameIndex := 46, descriptorIndex := 47, attributes := #[] }])
  fields := #[{ name := "HI_BYTE_SHIFT", type := .int, accessFlags := 26, slot := 0, constantValue := 0 }, { name := "LO_BYTE_SHIFT", type := .int, accessFlags := 26, slot := 1, constantValue := 0 }, { name := "MAX_LENGTH", type := .int, accessFlags := 24, slot := 2, constantValue := 0 }, { name := "$assertionsDisabled", type := .boolean, accessFlags := 4120, slot := 3, constantValue := 0 }]
  methods := #[k9m0, k9m1, k9m2, k9m3]
  instanceTypes := #[]
  staticTypes := #[.int, .int, .int, .boolean]
  resolved := Array.replicate 635 none
  statics := none }

def pool10 : Array CpInfo := pool [(4, .class_ 6), (1, u "java/lang/Object"), (0, u "<init>"), (0, u "()V"), (5, .class_ 16), (1, u "java/lang/StringLatin1"), (104, u "$assertionsDisabled"), (0, u "Z"), (98, .class_ 223), (1, u "java/lang/StringLatin1$LinesSpliterator"), (166, .class_ 391), (0, u "java/lang/StringLatin1$CharsSpliterator")] 3

def k10m0 : Method := { name := "<init>", desc := "()V", sig := { parameters := [], returnType := none }, accessFlags := 0, code := none }
/-- java/lang/StringLatin1 -/
def k10 : Class := { plain "java/lang/StringLatin1" (some 0) with
  accessFlags := 48
  interfaces := #[]
  cf := some (fileOf pool10 14 #[.nestMembers #[390, 221]] #[{ accessFlags := 0, nameIndex := 7, descriptorIndex := 8, attributes := #[] }] 48 4 #[] #[{ accessFlags := 4120, nameIndex := 121, descriptorIndex := 122, attributes := #[] }])
  fields := #[{ name := "$assertionsDisabled", type := .boolean, accessFlags := 4120, slot := 0, constantValue := 0 }]
  methods := #[k10m0]
  instanceTypes := #[]
  staticTypes := #[.boolean]
  resolved := Array.replicate 395 none
  statics := none }

def pool11 : Array CpInfo := pool [(2, .class_ 4), (1, u "java/lang/Object"), (0, u "<init>"), (0, u "()V"), (17, .class_ 26), (1, u "jdk/internal/util/Preconditions"), (28, .class_ 56), (0, u "jdk/internal/util/Preconditions$4"), (57, .class_ 115), (0, u "jdk/internal/util/Preconditions$1"), (7, u "SIOOBE_FORMATTER"), (0, u "Ljava/util/function/BiFunction;"), (0, .class_ 126), (0, u "jdk/internal/util/Preconditions$2"), (3, u "AIOOBE_FORMATTER"), (0, .class_ 132), (0, u "jdk/internal/util/Preconditions$3"), (3, u "IOOBE_FORMATTER")] 57

def k11m0 : Method := { name := "<init>", desc := "()V", sig := { parameters := [], returnType := none }, accessFlags := 1, code := none }
/-- jdk/internal/util/Preconditions -/
def k11 : Class := { plain "jdk/internal/util/Preconditions" (some 0) with
  accessFlags := 33
  interfaces := #[]
  cf := some (fileOf pool11 24 #[.nestMembers #[55, 131, 125, 114]] #[{ accessFlags := 1, nameIndex := 5, descriptorIndex := 6, attributes := #[] }] 33 2 #[] #[{ accessFlags := 25, nameIndex := 123, descriptorIndex := 124, attributes := #[] }, { accessFlags := 25, nameIndex := 130, descriptorIndex := 124, attributes := #[] }, { accessFlags := 25, nameIndex := 136, descriptorIndex := 124, attributes := #[] }])
  fields := #[{ name := "SIOOBE_FORMATTER", type := (.object "java/util/function/BiFunction"), accessFlags := 25, slot := 0, constantValue := 0 }, { name := "AIOOBE_FORMATTER", type := (.object "java/util/function/BiFunction"), accessFlags := 25, slot := 1, constantValue := 0 }, { name := "IOOBE_FORMATTER", type := (.object "java/util/function/BiFunction"), accessFlags := 25, slot := 2, constantValue := 0 }]
  methods := #[k11m0]
  instanceTypes := #[]
  staticTypes := #[(.object "java/util/function/BiFunction"), (.object "java/util/function/BiFunction"), (.object "java/util/function/BiFunction")]
  resolved := Array.replicate 194 none
  statics := some 1 }

def pool12 : Array CpInfo := pool [(9, u "<init>"), (6, .class_ 18), (1, u "java/lang/Object"), (0, u "()V"), (1, .class_ 23), (1, u "jdk/internal/util/ArraysSupport"), (0, u "LOG2_ARRAY_LONG_INDEX_SCALE"), (0, u "I"), (2, u "U"), (0, u "Ljdk/internal/misc/Unsafe;"), (8, u "BIG_ENDIAN"), (0, u "Z"), (8, u "LOG2_BYTE_BIT_SIZE"), (4, u "LOG2_ARRAY_INT_INDEX_SCALE"), (54, u "JLA"), (0, u "Ljdk/internal/access/JavaLangAccess;"), (11, u "LOG2_ARRAY_BOOLEAN_INDEX_SCALE"), (9, u "LOG2_ARRAY_BYTE_INDEX_SCALE"), (5, u "LOG2_ARRAY_CHAR_INDEX_SCALE"), (5, u "LOG2_ARRAY_SHORT_INDEX_SCALE"), (18, u "LOG2_ARRAY_FLOAT_INDEX_SCALE"), (24, u "LOG2_ARRAY_DOUBLE_INDEX_SCALE"), (89, u "T_BOOLEAN"), (2, u "T_CHAR"), (1, u "T_FLOAT"), (1, u "T_DOUBLE"), (1, u "T_BYTE"), (1, u "T_SHORT"), (1, u "T_INT"), (1, u "T_LONG"), (1, u "SOFT_MAX_ARRAY_LENGTH")] 83

def k12m0 : Method := { name := "<init>", desc := "()V", sig := { parameters := [], returnType := none }, accessFlags := 2, code := none }
/-- jdk/internal/util/ArraysSupport -/
def k12 : Class := { plain "jdk/internal/util/ArraysSupport" (some 0) with
  accessFlags := 33
  interfaces := #[]
  cf := some (fileOf pool12 21 #[] #[{ accessFlags := 2, nameIndex := 9, descriptorIndex := 19, attributes := #[] }] 33 16 #[] #[{ accessFlags := 24, nameIndex := 28, descriptorIndex := 29, attributes := #[] }, { accessFlags := 26, nameIndex := 38, descriptorIndex := 39, attributes := #[] }, { accessFlags := 25, nameIndex := 121, descriptorIndex := 25, attributes := #[] }, { accessFlags := 25, nameIndex := 131, descriptorIndex := 25, attributes := #[] }, { accessFlags := 25, nameIndex := 137, descriptorIndex := 25, attributes := #[] }, { accessFlags := 25, nameIndex := 143, descriptorIndex := 25, attributes := #[] }, { accessFlags := 25, nameIndex := 53, descriptorIndex := 25, attributes := #[] }, { accessFlags := 25, nameIndex := 24, descriptorIndex := 25, attributes := #[] }, { accessFlags := 25, nameIndex := 162, descriptorIndex := 25, attributes := #[] }, { accessFlags := 25, nameIndex := 187, descriptorIndex := 25, attributes := #[] }, { accessFlags := 26, nameIndex := 48, descriptorIndex := 25, attributes := #[] }, { accessFlags := 25, nameIndex := 277, descriptorIndex := 25, attributes := #[] }, { accessFlags := 25, nameIndex := 280, descriptorIndex := 25, attributes := #[] }, { accessFlags := 25, nameIndex := 282, descriptorIndex := 25, attributes := #[] }, { accessFlags := 25, nameIndex := 284, descriptorIndex := 25, attributes := #[] }, { accessFlags := 25, nameIndex := 286, descriptorIndex := 25, attributes := #[] }, { accessFlags := 25, nameIndex := 288, descriptorIndex := 25, attributes := #[] }, { accessFlags := 25, nameIndex := 290, descriptorIndex := 25, attributes := #[] }, { accessFlags := 25, nameIndex := 292, descriptorIndex := 25, attributes := #[] }, { accessFlags := 26, nameIndex := 108, descriptorIndex := 109, attributes := #[] }, { accessFlags := 25, nameIndex := 294, descriptorIndex := 25, attributes := #[] }])
  fields := #[{ name := "U", type := (.object "jdk/internal/misc/Unsafe"), accessFlags := 24, slot := 0, constantValue := 0 }, { name := "BIG_ENDIAN", type := .boolean, accessFlags := 26, slot := 1, constantValue := 0 }, { name := "LOG2_ARRAY_BOOLEAN_INDEX_SCALE", type := .int, accessFlags := 25, slot := 2, constantValue := 0 }, { name := "LOG2_ARRAY_BYTE_INDEX_SCALE", type := .int, accessFlags := 25, slot := 3, constantValue := 0 }, { name := "LOG2_ARRAY_CHAR_INDEX_SCALE", type := .int, accessFlags := 25, slot := 4, constantValue := 0 }, { name := "LOG2_ARRAY_SHORT_INDEX_SCALE", type := .int, accessFlags := 25, slot := 5, constantValue := 0 }, { name := "LOG2_ARRAY_INT_INDEX_SCALE", type := .int, accessFlags := 25, slot := 6, constantValue := 0 }, { name := "LOG2_ARRAY_LONG_INDEX_SCALE", type := .int, accessFlags := 25, slot := 7, constantValue := 0 }, { name := "LOG2_ARRAY_FLOAT_INDEX_SCALE", type := .int, accessFlags := 25, slot := 8, constantValue := 0 }, { name := "LOG2_ARRAY_DOUBLE_INDEX_SCALE", type := .int, accessFlags := 25, slot := 9, constantValue := 0 }, { name := "LOG2_BYTE_BIT_SIZE", type := .int, accessFlags := 26, slot := 10, constantValue := 0 }, { name := "T_BOOLEAN", type := .int, accessFlags := 25, slot := 11, constantValue := 0 }, { name := "T_CHAR", type := .int, accessFlags := 25, slot := 12, constantValue := 0 }, { name := "T_FLOAT", type := .int, accessFlags := 25, slot := 13, constantValue := 0 }, { name := "T_DOUBLE", type := .int, accessFlags := 25, slot := 14, constantValue := 0 }, { name := "T_BYTE", type := .int, accessFlags := 25, slot := 15, constantValue := 0 }, { name := "T_SHORT", type := .int, accessFlags := 25, slot := 16, constantValue := 0 }, { name := "T_INT", type := .int, accessFlags := 25, slot := 17, constantValue := 0 }, { name := "T_LONG", type := .int, accessFlags := 25, slot := 18, constantValue := 0 }, { name := "JLA", type := (.object "jdk/internal/access/JavaLangAccess"), accessFlags := 26, slot := 19, constantValue := 0 }, { name := "SOFT_MAX_ARRAY_LENGTH", type := .int, accessFlags := 25, slot := 20, constantValue := 0 }]
  methods := #[k12m0]
  instanceTypes := #[]
  staticTypes := #[(.object "jdk/internal/misc/Unsafe"), .boolean, .int, .int, .int, .int, .int, .int, .int, .int, .int, .int, .int, .int, .int, .int, .int, .int, .int, (.object "jdk/internal/access/JavaLangAccess"), .int]
  resolved := Array.replicate 378 none
  statics := none }

def pool13 : Array CpInfo := pool [(1, u "java/lang/Cloneable"), (0, .class_ 1), (0, u "java/lang/Object"), (0, .class_ 3)] 3

/-- java/lang/Cloneable -/
def k13 : Class := { plain "java/lang/Cloneable" (some 0) with
  accessFlags := 1537
  interfaces := #[]
  cf := some (fileOf pool13 2 #[] #[] 1537 4 #[] #[])
  fields := #[]
  methods := #[]
  instanceTypes := #[]
  staticTypes := #[]
  resolved := Array.replicate 8 none
  statics := none }

/-- the primitive byte -/
def k14 : Class := { plain "byte" none with kind := .primitive 'B', accessFlags := 0x411 }
/-- [B -/
def k15 : Class := { plain "[B" (some 0) with kind := .array 14 .byte, interfaces := #[13, 3], accessFlags := 1041 }

/-- the primitive char -/
def k16 : Class := { plain "char" none with kind := .primitive 'C', accessFlags := 0x411 }
/-- [C -/
def k17 : Class := { plain "[C" (some 0) with kind := .array 16 .char, interfaces := #[13, 3], accessFlags := 1041 }

/-- the primitive int -/
def k18 : Class := { plain "int" none with kind := .primitive 'I', accessFlags := 0x411 }
/-- [I -/
def k19 : Class := { plain "[I" (some 0) with kind := .array 18 .int, interfaces := #[13, 3], accessFlags := 1041 }

def heap : Heap := #[{ cls := 8, slots := #[.long 0, .int 1, .null, .int 0, .null, .int 0, .int 0], vm := .statics 8 },
  { cls := 11, slots := #[.null, .null, .null], vm := .statics 11 }]
def classes : Array Class := #[k0, k1, k2, k3, k4, k5, k6, k7, k8, k9, k10, k11, k12, k13, k14, k15, k16, k17, k18, k19]
def interned : List (Array UInt16 × Addr) := []
def slotsUsed : Nat := 10
def theMethod : MethodId := ⟨1, 1⟩
def args0 : Array Value := #[.int 1, .int 2, .int 1, .int 2, .int 1]
def aboutOver (below : List Frame) : State where
  vm := { classes := classes, interned := interned.toArray }
  heap := heap
  slotsUsed := slotsUsed
  threads := #[{ frames := .invoking theMethod args0 :: below }]
def below0 : List Frame := [.native { method := ⟨0, 0⟩, args := #[] }]
def about1 : State := aboutOver below0
def p0 : Program := .bare "" "" ""
def e0 : Env := launch0.env 0 0 0
theorem w_frames : about1.frames = Frame.invoking theMethod args0 :: below0 := rfl
set_option maxRecDepth 65536 in
theorem w_args : argsFit about1.vm theMethod args0 = true := by decide +kernel
set_option maxRecDepth 65536 in
theorem w_heap : heapFits about1 = true := by decide +kernel
set_option maxRecDepth 65536 in
theorem w_runnable : about1.curStatus? = some .runnable := by decide +kernel
set_option maxRecDepth 65536 in
theorem w_alone : about1.alone = true := by decide +kernel
set_option maxRecDepth 65536 in
theorem w_named : about1.methodNamed? x = some theMethod := by decide +kernel
set_option maxRecDepth 65536 in
theorem w_hears : about1.hears theMethod below0 = true := by decide +kernel
set_option maxRecDepth 65536 in
theorem w_ripe : about1.ripe theMethod args0 below0 = true := by decide +kernel
theorem w_running : about1.status = .running := rfl
set_option maxRecDepth 65536 in
theorem w_room : about1.hasRoom e0.platform room_1 = true :=
  launch0.hasRoom_least _ room_1 (by decide +kernel) (by decide +kernel) (by decide +kernel) (by decide +kernel) (by decide +kernel) (by decide +kernel)
theorem allAtoms_all (ts : List Jvm.Cond) (a : Array Jvm.Value) (st : Jvm.State) : (allAtoms ts).before a st = ts.all (fun c => c.before a st) := by
  induction ts with
  | nil => rfl
  | cons c t ih =>
    show (Jvm.Cond.and c (allAtoms t)).before a st = _
    rw [Jvm.Cond.before_and, ih, List.all_cons]
def words1 : List Jvm.Cond := Jvm.Cond.code x code maxLocals ret :: tables_1
/-- a 'code' word, met by the world's own term for the bytes: nothing is compared byte by byte -/
theorem code_word {y : MethodName} {bytes : ByteArray} {mx : Nat} {rt : Option FieldType} {a : Array Value} {s : State} {m : MethodId} {meth : Method} {c : Code} (h1 : s.methodNamed? y = some m) (h2 : s.vm.method? m = some meth) (h3 : meth.code = some c) (h4 : c.code = bytes)
    (h5 : (c.maxLocals == mx && c.exceptionTable.isEmpty && decide (c.maxStack ≤ mostOperands) && decide (meth.sig.returnType = rt) && !meth.locks && decide (parseMethodDescriptor y.desc = some meth.sig)) = true) : (Jvm.Cond.code y bytes mx rt).before a s = true := by
  simp only [Bool.and_eq_true, beq_iff_eq, Bool.not_eq_true', decide_eq_true_eq] at h5
  obtain ⟨⟨⟨⟨⟨g1, g2⟩, g3⟩, g4⟩, g5⟩, g6⟩ := h5
  simp [Cond.before, Cond.holds, Cond.value, h1, h2, h3, h4, g1, g2, g3, g4, g5, g6]
def isCode : Jvm.Cond → Bool
  | .code _ _ _ _ => true
  | _ => false
theorem all_split {L : List Jvm.Cond} {P : Jvm.Cond → Bool} (h1 : L.all (fun c => isCode c || P c) = true) (h2 : ∀ c ∈ L.filter isCode, P c = true) : L.all P = true := by
  refine List.all_eq_true.mpr fun c hc => ?_
  have h := List.all_eq_true.mp h1 c hc
  rcases Bool.eq_false_or_eq_true (isCode c) with hi | hi
  · exact h2 c (List.mem_filter.mpr ⟨hc, hi⟩)
  · simpa [hi] using h
set_option maxRecDepth 65536 in
theorem w_c0 : (Jvm.Cond.code x code maxLocals ret).before args0 about1 = true := code_word (m := ⟨1, 1⟩) (meth := k1m1) (c := k1c1) (by decide +kernel) rfl rfl rfl (by decide +kernel)
set_option maxRecDepth 65536 in
theorem w_c1 : (Jvm.Cond.code ({ cls := "java/lang/String", name := "<init>", desc := "([C)V" } : Jvm.MethodName) jdk_42_method_3_code (2 : Nat) (Option.none : Option Jvm.ClassFile.FieldType)).before args0 about1 = true := code_word (m := ⟨8, 1⟩) (meth := k8m1) (c := k8c1) (by decide +kernel) rfl rfl rfl (by decide +kernel)
set_option maxRecDepth 65536 in
theorem w_c2 : (Jvm.Cond.code ({ cls := "java/lang/String", name := "<init>", desc := "([CIILjava/lang/Void;)V" } : Jvm.MethodName) jdk_42_method_149_code (6 : Nat) (Option.none : Option Jvm.ClassFile.FieldType)).before args0 about1 = true := code_word (m := ⟨8, 2⟩) (meth := k8m2) (c := k8c2) (by decide +kernel) rfl rfl rfl (by decide +kernel)
set_option maxRecDepth 65536 in
theorem w_c3 : (Jvm.Cond.code ({ cls := "java/lang/Object", name := "<init>", desc := "()V" } : Jvm.MethodName) object_method_1_code (1 : Nat) (Option.none : Option Jvm.ClassFile.FieldType)).before args0 about1 = true := code_word (m := ⟨0, 0⟩) (meth := k0m0) (c := k0c0) (by decide +kernel) rfl rfl rfl (by decide +kernel)
set_option maxRecDepth 65536 in
theorem w_c4 : (Jvm.Cond.code ({ cls := "java/lang/StringUTF16", name := "compress", desc := "([CII)[B" } : Jvm.MethodName) jdk_52_method_16_code (6 : Nat) (Option.some (Jvm.ClassFile.FieldType.array Jvm.ClassFile.FieldType.byte))).before args0 about1 = true := code_word (m := ⟨9, 2⟩) (meth := k9m2) (c := k9c2) (by decide +kernel) rfl rfl rfl (by decide +kernel)
set_option maxRecDepth 65536 in
theorem w_c5 : (Jvm.Cond.code ({ cls := "java/lang/StringUTF16", name := "compress", desc := "([CI[BII)I" } : Jvm.MethodName) jdk_52_method_21_code (7 : Nat) (Option.some Jvm.ClassFile.FieldType.int)).before args0 about1 = true := code_word (m := ⟨9, 3⟩) (meth := k9m3) (c := k9c3) (by decide +kernel) rfl rfl rfl (by decide +kernel)
set_option maxRecDepth 65536 in
theorem w_c6 : (Jvm.Cond.code ({ cls := "java/lang/StringUTF16", name := "coderFromArrayLen", desc := "([BI)B" } : Jvm.MethodName) jdk_52_method_15_code (2 : Nat) (Option.some Jvm.ClassFile.FieldType.byte)).before args0 about1 = true := code_word (m := ⟨9, 1⟩) (meth := k9m1) (c := k9c1) (by decide +kernel) rfl rfl rfl (by decide +kernel)
set_option maxRecDepth 65536 in
theorem w_c7 : (Jvm.Cond.code ({ cls := "com/example/cadmus/cadmus/internal/UrlRecord", name := "<init>", desc := "(Ljava/lang/String;IIIIIII)V" } : Jvm.MethodName) prog_30_method_1_code (9 : Nat) (Option.none : Option Jvm.ClassFile.FieldType)).before args0 about1 = true := code_word (m := ⟨2, 0⟩) (meth := k2m0) (c := k2c0) (by decide +kernel) rfl rfl rfl (by decide +kernel)
set_option maxRecDepth 65536 in
theorem w_c8 : (Jvm.Cond.code ({ cls := "com/example/cadmus/cadmus/internal/UrlRecord", name := "hasCredentials", desc := "()Z" } : Jvm.MethodName) prog_30_method_14_code (1 : Nat) (Option.some Jvm.ClassFile.FieldType.boolean)).before args0 about1 = true := code_word (m := ⟨2, 1⟩) (meth := k2m1) (c := k2c1) (by decide +kernel) rfl rfl rfl (by decide +kernel)
def codes1 : List Jvm.Cond := [Jvm.Cond.code x code maxLocals ret, Jvm.Cond.code ({ cls := "java/lang/String", name := "<init>", desc := "([C)V" } : Jvm.MethodName) jdk_42_method_3_code (2 : Nat) (Option.none : Option Jvm.ClassFile.FieldType), Jvm.Cond.code ({ cls := "java/lang/String", name := "<init>", desc := "([CIILjava/lang/Void;)V" } : Jvm.MethodName) jdk_42_method_149_code (6 : Nat) (Option.none : Option Jvm.ClassFile.FieldType), Jvm.Cond.code ({ cls := "java/lang/Object", name := "<init>", desc := "()V" } : Jvm.MethodName) object_method_1_code (1 : Nat) (Option.none : Option Jvm.ClassFile.FieldType), Jvm.Cond.code ({ cls := "java/lang/StringUTF16", name := "compress", desc := "([CII)[B" } : Jvm.MethodName) jdk_52_method_16_code (6 : Nat) (Option.some (Jvm.ClassFile.FieldType.array Jvm.ClassFile.FieldType.byte)), Jvm.Cond.code ({ cls := "java/lang/StringUTF16", name := "compress", desc := "([CI[BII)I" } : Jvm.MethodName) jdk_52_method_21_code (7 : Nat) (Option.some Jvm.ClassFile.FieldType.int), Jvm.Cond.code ({ cls := "java/lang/StringUTF16", name := "coderFromArrayLen", desc := "([BI)B" } : Jvm.MethodName) jdk_52_method_15_code (2 : Nat) (Option.some Jvm.ClassFile.FieldType.byte), Jvm.Cond.code ({ cls := "com/example/cadmus/cadmus/internal/UrlRecord", name := "<init>", desc := "(Ljava/lang/String;IIIIIII)V" } : Jvm.MethodName) prog_30_method_1_code (9 : Nat) (Option.none : Option Jvm.ClassFile.FieldType), Jvm.Cond.code ({ cls := "com/example/cadmus/cadmus/internal/UrlRecord", name := "hasCredentials", desc := "()Z" } : Jvm.MethodName) prog_30_method_14_code (1 : Nat) (Option.some Jvm.ClassFile.FieldType.boolean)]
set_option maxRecDepth 65536 in
theorem codes_eq : words1.filter isCode = codes1 := rfl
theorem w_codes : ∀ c ∈ words1.filter isCode, c.before args0 about1 = true := by
  rw [codes_eq]
  intro c hc
  simp only [codes1, List.mem_cons, List.not_mem_nil, or_false] at hc
  rcases hc with rfl | rfl | rfl | rfl | rfl | rfl | rfl | rfl | rfl
  · exact w_c0
  · exact w_c1
  · exact w_c2
  · exact w_c3
  · exact w_c4
  · exact w_c5
  · exact w_c6
  · exact w_c7
  · exact w_c8
set_option maxRecDepth 65536 in
theorem w_t1 : (words1.take 24).all (fun c => isCode c || c.before args0 about1) = true := by decide +kernel
set_option maxRecDepth 65536 in
theorem w_t2 : ((words1.drop 24).take 24).all (fun c => isCode c || c.before args0 about1) = true := by decide +kernel
set_option maxRecDepth 65536 in
theorem w_t3 : ((words1.drop 24).drop 24).all (fun c => isCode c || c.before args0 about1) = true := by decide +kernel
theorem w_tables : (allAtoms (Jvm.Cond.code x code maxLocals ret :: tables_1)).before args0 about1 = true := by
  rw [allAtoms_all]
  show words1.all (fun c => c.before args0 about1) = true
  refine all_split ?_ w_codes
  rw [← List.take_append_drop 24 words1, List.all_append, w_t1, ← List.take_append_drop 24 (words1.drop 24), List.all_append, w_t2, w_t3]
  rfl
set_option maxRecDepth 65536 in
theorem w_rest : rest_1_c.before args0 about1 = true := by decide +kernel
set_option maxRecDepth 65536 in
theorem w_case : (Jvm.Cond.and given_1 narrow_1).before args0 about1 = true := by decide +kernel
theorem w_applies : (headSpec (Jvm.Cond.code x code maxLocals ret :: tables_1) room_1).applies x e0.platform about1 = true :=
  (Spec.applies_iff w_frames).mpr ⟨w_running, w_runnable, w_alone, w_named, w_hears, w_ripe, w_room, w_tables⟩
theorem atStart : AtStart classFile x code maxLocals ret World_1 tables_1 room_1 Calls_1 rest_1 Pre_1 launch0 p0 e0 about1 theMethod args0 below0 :=
  ⟨lists_1, trivial, launch0.admits_env _ _ _, launch0.least_env, fairChoices_fair.cas, fairChoices_fair.clock, w_frames, w_args, w_heap, w_applies, trivial, w_rest, w_case⟩
end start1
theorem witness_1 : WitnessClaimed_1 := ⟨start1.p0, start1.e0, start1.about1, start1.theMethod, start1.args0, start1.below0, start1.atStart⟩
end Jvm.Pilot.@@N@@
