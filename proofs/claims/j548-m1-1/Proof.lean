import JvmDerived
import JvmDerived.Pilot.@@N@@Statement
import JvmDerived.Pilot.@@N@@Code
set_option linter.unusedVariables false
set_option linter.unusedSimpArgs false
namespace Jvm.RoadKit
open Sem ClassFile Op Lib Jvm.Stand Jvm.Free Jvm.LawKit
section New
variable {p : Program} {l : Launch} {e : Env} {R : Room} {s : State} {m : MethodId} {args : Array Value} {below : List Frame} {meth : Method} {c : Code} {T : State} {locs : List Loc} {cells slots : Nat}
theorem retI (X : Stand p l e R s m args below meth c T locs cells slots) (hx : p.tables.exec = Jvm.exec) {pc : Nat} {Ls : Array Slot} {z : Int32} {rest : List Value} (hret : meth.sig.returnType = some .int) (hd : decode c.code pc = .ok (.ireturn, 1)) {fs : List Frame}
    (hl : ∀ (f : JFrame) (acts : List Action), f.method = m → f.locked = none → f.entered = [] → (doReturn e (T.setTop f) acts (some (.int z))).1 = T.setFrames fs) : Steps p.tables e below (T.setTop (mkF m pc Ls (.int z :: rest))) (T.setFrames fs) := by
  have hm' : T.vm.method? m = some meth := X.method'
  have hn : narrow .int (.int z) = .int z := rfl
  show Steps p.tables e below (T.setTop { method := m, pc := pc, locals := Ls, stack := _ :: rest, locked := none }) _
  jvm_step X.here [X.here.top, hx, hd, hm', hret, hn]
  first | (intro acts; rw [hl _ acts rfl rfl rfl]) | rw [hl _ _ rfl rfl rfl]
  exact Steps.refl _
end New
theorem own_lc_tlt {a b : Int64} (h : a < b) : lcmpW a b < 0 := by rw [lcW]; exact (lc_lt _ _).2 h
theorem own_lc_flt {a b : Int64} (h : ¬ a < b) : ¬ lcmpW a b < 0 := by rw [lcW]; exact fun q => h ((lc_lt _ _).1 q)
theorem own_lc_tgt {a b : Int64} (h : b < a) : 0 < lcmpW a b := by rw [lcW]; exact (lc_gt _ _).2 h
theorem own_lc_fgt {a b : Int64} (h : ¬ b < a) : ¬ 0 < lcmpW a b := by rw [lcW]; exact fun q => h ((lc_gt _ _).1 q)
theorem own_lc_teq {a b : Int64} (h : a = b) : lcmpW a b = 0 := by rw [lcW]; exact (lc_eq _ _).2 h
theorem own_lc_feq {a b : Int64} (h : ¬ a = b) : ¬ lcmpW a b = 0 := by rw [lcW]; exact fun q => h ((lc_eq _ _).1 q)
end Jvm.RoadKit
namespace Jvm.Pilot.@@N@@
open Jvm Jvm.ClassFile Sem Op Lib Jvm.Free Jvm.Stand Jvm.LawKit Jvm.RoadKit Bundle Jvm.Pilot.@@N@@.Jvm.D

def own_A (Z : State) (h : Heap) (a : Addr) (ty : FieldType) (n : Int32) (y : Int32 → Value) : Prop := ∃ c : Cell, Arr Z h a c ty ∧ c.slots.size = n.toNatClampNeg ∧ ¬ n < 0 ∧ ∀ j : Int32, ¬ (j < 0 ∨ c.slots.size ≤ j.toNatClampNeg) → c.slots[j.toNatClampNeg]? = some (y j)
theorem own_A_lt {Z : State} {h : Heap} {a : Addr} {ty : FieldType} {n : Int32} {y : Int32 → Value} (F : own_A Z h a ty n y) : a < h.size := by obtain ⟨c, A, -⟩ := F; exact A.lt
theorem own_A_ext {Z : State} {h h' : Heap} {a : Addr} {ty : FieldType} {n : Int32} {y : Int32 → Value} (F : own_A Z h a ty n y) (E : Ext h h') : own_A Z h' a ty n y := by obtain ⟨c, A, r⟩ := F; exact ⟨c, A.ext E, r⟩
theorem own_A_other {Z : State} {h h' : Heap} {a b : Addr} {ty : FieldType} {n : Int32} {y : Int32 → Value} {sl : Nat} {v : Value} (F : own_A Z h b ty n y) (W : Wr h h' a sl v) (q : b ≠ a) : own_A Z h' b ty n y := by obtain ⟨c, A, r⟩ := F; exact ⟨c, A.other W q, r⟩
theorem own_A_keep {Z : State} {h h' : Heap} {a : Addr} {ty : FieldType} {n : Int32} {y : Int32 → Value} {ws : List Addr} (F : own_A Z h a ty n y) (K : Keep h h' ws) (q : a ∉ ws) : own_A Z h' a ty n y := by obtain ⟨c, A, r⟩ := F; exact ⟨c, ⟨K.2.1 a c A.1 q, A.2⟩, r⟩
theorem own_A_new {Z : State} {h : Heap} {a : Addr} {k : ClassId} {ty : FieldType} {n : Int32} (A : Arr Z h a (newA k ty n) ty) (q : ¬ n < 0) : own_A Z h a ty n (fun _ => defaultValue ty) := by
  obtain ⟨c, A', -, S, M, H, -⟩ := Arv.new A q
  exact ⟨c, A', S, M, fun j hj => (H _ (Nat.lt_of_not_le fun y => hj (Or.inr y))).trans (by simp)⟩
theorem own_A_set {Z : State} {h h' : Heap} {a : Addr} {ty : FieldType} {n j : Int32} {y z : Int32 → Value} {v : Value} {c : Cell} (A : Arr Z h a c ty) (S : c.slots.size = n.toNatClampNeg) (M : ¬ n < 0) (H : ∀ j : Int32, ¬ (j < 0 ∨ c.slots.size ≤ j.toNatClampNeg) → c.slots[j.toNatClampNeg]? = some (y j)) (hj : ¬ (j < 0 ∨ c.slots.size ≤ j.toNatClampNeg)) (W : Wr h h' a j.toNatClampNeg v) (hz : z j = v) (hz' : ∀ i, ¬ i = j → z i = y i) : own_A Z h' a ty n z := by
  refine ⟨_, A.same W, by rw [sz_set]; exact S, M, fun i hi => ?_⟩
  rw [sz_set] at hi
  have hs : (c.setSlot j.toNatClampNeg v).slots = c.slots.setIfInBounds j.toNatClampNeg v := rfl
  rw [hs, Array.getElem?_setIfInBounds]
  by_cases e : i = j
  · subst e
    rw [if_pos rfl, if_pos (Nat.lt_of_not_le fun q => hj (Or.inr q)), hz]
  · have e' : ¬ j.toNatClampNeg = i.toNatClampNeg := fun q => e (Int32.toInt_inj.mp (by rw [nat_of (fun z => hi (Or.inl z)), nat_of (fun z => hj (Or.inl z)), q]))
    rw [if_neg e', hz' i e]
    exact H i hi
theorem own_setI {y : Int32 → Int32} {j x : Int32} : Value.int ((fun i => if i = j then x else y i) j) = .int x := congrArg Value.int (if_pos rfl)
theorem own_setI' {y : Int32 → Int32} {j x : Int32} : ∀ i, ¬ i = j → Value.int ((fun i => if i = j then x else y i) i) = .int (y i) := fun i h => congrArg Value.int (if_neg h)
theorem own_setJ {y : Int32 → Int64} {j : Int32} {x : Int64} : Value.long ((fun i => if i = j then x else y i) j) = .long x := congrArg Value.long (if_pos rfl)
theorem own_setJ' {y : Int32 → Int64} {j : Int32} {x : Int64} : ∀ i, ¬ i = j → Value.long ((fun i => if i = j then x else y i) i) = .long (y i) := fun i h => congrArg Value.long (if_neg h)

theorem own_A_congr {Z : State} {h : Heap} {a : Addr} {ty : FieldType} {n : Int32} {y y' : Int32 → Value} (F : own_A Z h a ty n y) (e : ∀ i, y i = y' i) : own_A Z h a ty n y' := by
  have : y = y' := funext e
  subst this; exact F
theorem d1_0 : decode method_3_code 0 = .ok (.iload_n 0, 1) := by decide +kernel
theorem d1_1 : decode method_3_code 1 = .ok (.bipush 8, 2) := by decide +kernel
theorem d1_3 : decode method_3_code 3 = .ok (.iushr, 1) := by decide +kernel
theorem d1_4 : decode method_3_code 4 = .ok (.iconst 1, 1) := by decide +kernel
theorem d1_5 : decode method_3_code 5 = .ok (.iand, 1) := by decide +kernel
theorem d1_6 : decode method_3_code 6 = .ok (.ifCond .eq 5, 3) := by decide +kernel
theorem d1_9 : decode method_3_code 9 = .ok (.iload_n 1, 1) := by decide +kernel
theorem d1_10 : decode method_3_code 10 = .ok (.ireturn, 1) := by decide +kernel
theorem d1_11 : decode method_3_code 11 = .ok (.iload_n 0, 1) := by decide +kernel
theorem d1_12 : decode method_3_code 12 = .ok (.i2b, 1) := by decide +kernel
theorem d1_13 : decode method_3_code 13 = .ok (.ireturn, 1) := by decide +kernel
theorem pn_1 : plainName "com/example/sealwire/sealwire/procedure/edifact/ServiceCharactersStartsAdvicePinLaw" = true := by first | (simp [plainName, overriddenIn]; done) | decide +kernel
theorem ef_1 (m : MethodId) (p1 : Int32) (p2 : Int32) : entryFrame m #[(.int p1), (.int p2)] 2 = mkF m 0 #[.val (.int p1), .val (.int p2)] [] := by first | (simp [entryFrame, mkF, argsToLocals, Value.category]; done) | rfl
def f1 (p1 : Int32) (p2 : Int32) : Int32 :=
  (if (((p1.toUInt32 >>> ((8 : Int32) &&& 31).toUInt32).toInt32) &&& (1 : Int32)) = (0 : Int32) then (nar .byte (p1.toInt8.toInt32)) else (nar .byte p2))
def Q1 (Z : State) (p1 : Int32) (p2 : Int32)  (h0 : Heap) (n0 : Nat) (v : Option Value) (h : Heap) (L : List Loc) : Prop := v = some (.int (f1 p1 p2)) ∧ Fr n0 L ∧ h = h0
set_option maxRecDepth 65536 in
set_option maxHeartbeats 40000000 in
theorem rm1 (l : Launch) (Z : State) (a0 : Array Value) (hw : ∀ d ∈ tables_1, d.before a0 Z = true) (ws : List Jvm.Cond) (p1 : Int32) (p2 : Int32)  (h0 : Heap) (n0 : Nat) (Z0 : n0 ≤ h0.size) :
    MetFree l (⟨"com/example/sealwire/sealwire/procedure/edifact/ServiceCharactersStartsAdvicePinLaw", "pick", "(IB)B"⟩ : MethodName) (head1 (Jvm.Cond.code (⟨"com/example/sealwire/sealwire/procedure/edifact/ServiceCharactersStartsAdvicePinLaw", "pick", "(IB)B"⟩ : MethodName) method_3_code 2 (some .byte) :: ws) ({ frames := 0, cells := 0, slots := 0, locals := 0 } : Room)) (fun a U => a = #[(.int p1), (.int p2)] ∧ Z.Warmed39 U.vm ∧ U.heap = h0) (fun _ _ _ _ _ => True) (fun _ U o U' => ∃ v L, o = .returned v ∧ Q1 Z p1 p2 h0 n0 v U'.heap L ∧ FrameEnd U o U' L ({ frames := 0, cells := 0, slots := 0, locals := 0 } : Room).cells ({ frames := 0, cells := 0, slots := 0, locals := 0 } : Room).slots) := by
  refine MetFree.of_bodySF (plainFor_of_name pn_1) hisR ?_
  intro p e s m args below meth c s₁ Bd hml0 hP hK
  obtain ⟨rfl, hZ, hh⟩ := hP
  have hx := Bd.exec
  have hby := Bd.bytes
  have hml : c.maxLocals = 2 := hml0
  have hown : s.vm.findClass "com/example/sealwire/sealwire/procedure/edifact/ServiceCharactersStartsAdvicePinLaw" = some m.cls := findClass_of_methodNamed Bd.named
  have hnm := (name_of_methodNamed Bd.named Bd.method).1
  have X0 : Stand p l e ({ frames := 0, cells := 0, slots := 0, locals := 0 } : Room) s m #[(.int p1), (.int p2)] below meth c s₁ [] 0 0 := Stand.of_body Bd
  have e0 : s₁.heap = h0 := by rw [← hh, Bd.state]; rfl
  have N0 := Fr.nil n0
  have pre0 : ∀ t, Steps p.tables e below (s₁.setTop (mkF m 0 #[.val (.int p1), .val (.int p2)] [])) t → Steps p.tables e below (s₁.setTop (entryFrame m #[(.int p1), (.int p2)] 2)) t := fun t k => castTop (ef_1 m p1 p2) k
  have pre1 : ∀ t, Steps p.tables e below (s₁.setTop (mkF m 6 #[.val (.int p1), .val (.int p2)] [(.int (((p1.toUInt32 >>> ((8 : Int32) &&& 31).toUInt32).toInt32) &&& (1 : Int32)))])) t → Steps p.tables e below (s₁.setTop (entryFrame m #[(.int p1), (.int p2)] 2)) t := fun t k => pre0 t (by
    show Steps p.tables e below (s₁.setTop (mkF m 0 #[.val (.int p1), .val (.int p2)] [])) _
    refine XS.iloadN X0.here hx rfl (hb hby d1_0) rfl ?_
    show Steps p.tables e below (s₁.setTop (mkF m 1 #[.val (.int p1), .val (.int p2)] [(.int p1)])) _
    refine XS.bipush X0.here hx rfl (hb hby d1_1) ?_
    show Steps p.tables e below (s₁.setTop (mkF m 3 #[.val (.int p1), .val (.int p2)] [(.int (8 : Int32)), (.int p1)])) _
    refine XS.iushr X0.here hx rfl (hb hby d1_3) rfl ?_
    show Steps p.tables e below (s₁.setTop (mkF m 4 #[.val (.int p1), .val (.int p2)] [(.int ((p1.toUInt32 >>> ((8 : Int32) &&& 31).toUInt32).toInt32))])) _
    refine XS.iconst X0.here hx rfl (hb hby d1_4) ?_
    show Steps p.tables e below (s₁.setTop (mkF m 5 #[.val (.int p1), .val (.int p2)] [(.int (1 : Int32)), (.int ((p1.toUInt32 >>> ((8 : Int32) &&& 31).toUInt32).toInt32))])) _
    refine XS.iand X0.here hx rfl (hb hby d1_5) rfl ?_
    exact k)
  by_cases hc2 : (((p1.toUInt32 >>> ((8 : Int32) &&& 31).toUInt32).toInt32) &&& (1 : Int32)) = (0 : Int32)
  · have er : (f1 p1 p2) = (nar .byte (p1.toInt8.toInt32)) := by exact (if_pos hc2)
    obtain ⟨fs, hr, hrun, hended, hW, hsame⟩ := X0.leave (v := some (.int (nar .byte (p1.toInt8.toInt32)))) (fun h => by rw [Bd.returns] at h; cases h)
    refine ⟨_, _, pre1 _ ?_, hrun, hended, _, _, rfl, ?_, ⟨_, rfl⟩, hW, hsame.mono (by decide) (by decide)⟩
    · show Steps p.tables e below (s₁.setTop (mkF m 6 #[.val (.int p1), .val (.int p2)] [(.int (((p1.toUInt32 >>> ((8 : Int32) &&& 31).toUInt32).toInt32) &&& (1 : Int32)))])) _
      refine XS.ifYes X0.here hx rfl (pc0 := 6) (pc' := 11) rfl (hb hby d1_6) rfl ((if0 _ _).trans (teq hc2).1) (by decide) (by decide) ?_
      show Steps p.tables e below (s₁.setTop (mkF m 11 #[.val (.int p1), .val (.int p2)] [])) _
      refine XS.iloadN X0.here hx rfl (hb hby d1_11) rfl ?_
      show Steps p.tables e below (s₁.setTop (mkF m 12 #[.val (.int p1), .val (.int p2)] [(.int p1)])) _
      refine XS.i2b X0.here hx rfl (hb hby d1_12) rfl ?_
      show Steps p.tables e below (s₁.setTop (mkF m 13 #[.val (.int p1), .val (.int p2)] [(.int (p1.toInt8.toInt32))])) _
      exact retN X0 hx (t := .byte) Bd.returns (by simp) (hb hby d1_13) hr
    · show Q1 Z p1 p2 h0 n0 _ s₁.heap _
      rw [e0]
      exact ⟨congrArg (fun z => some (Value.int z)) er.symm, N0, rfl⟩
  · have er : (f1 p1 p2) = (nar .byte p2) := by exact (if_neg hc2)
    obtain ⟨fs, hr, hrun, hended, hW, hsame⟩ := X0.leave (v := some (.int (nar .byte p2))) (fun h => by rw [Bd.returns] at h; cases h)
    refine ⟨_, _, pre1 _ ?_, hrun, hended, _, _, rfl, ?_, ⟨_, rfl⟩, hW, hsame.mono (by decide) (by decide)⟩
    · show Steps p.tables e below (s₁.setTop (mkF m 6 #[.val (.int p1), .val (.int p2)] [(.int (((p1.toUInt32 >>> ((8 : Int32) &&& 31).toUInt32).toInt32) &&& (1 : Int32)))])) _
      refine XS.ifNo X0.here hx rfl (hb hby d1_6) rfl ((if0 _ _).trans (feq hc2).1) ?_
      show Steps p.tables e below (s₁.setTop (mkF m 9 #[.val (.int p1), .val (.int p2)] [])) _
      refine XS.iloadN X0.here hx rfl (hb hby d1_9) rfl ?_
      show Steps p.tables e below (s₁.setTop (mkF m 10 #[.val (.int p1), .val (.int p2)] [(.int p2)])) _
      exact retN X0 hx (t := .byte) Bd.returns (by simp) (hb hby d1_10) hr
    · show Q1 Z p1 p2 h0 n0 _ s₁.heap _
      rw [e0]
      exact ⟨congrArg (fun z => some (Value.int z)) er.symm, N0, rfl⟩
theorem d2_0 : decode prog_37_method_2_code 0 = .ok (.iload_n 1, 1) := by decide +kernel
theorem d2_1 : decode prog_37_method_2_code 1 = .ok (.getstatic 25, 3) := by decide +kernel
theorem d2_4 : decode prog_37_method_2_code 4 = .ok (.arraylength, 1) := by decide +kernel
theorem d2_5 : decode prog_37_method_2_code 5 = .ok (.if_icmp .lt 40, 3) := by decide +kernel
theorem d2_8 : decode prog_37_method_2_code 8 = .ok (.aload_n 0, 1) := by decide +kernel
theorem d2_9 : decode prog_37_method_2_code 9 = .ok (.iconst 0, 1) := by decide +kernel
theorem d2_10 : decode prog_37_method_2_code 10 = .ok (.baload, 1) := by decide +kernel
theorem d2_11 : decode prog_37_method_2_code 11 = .ok (.getstatic 25, 3) := by decide +kernel
theorem d2_14 : decode prog_37_method_2_code 14 = .ok (.iconst 0, 1) := by decide +kernel
theorem d2_15 : decode prog_37_method_2_code 15 = .ok (.baload, 1) := by decide +kernel
theorem d2_16 : decode prog_37_method_2_code 16 = .ok (.if_icmp .ne 29, 3) := by decide +kernel
theorem d2_19 : decode prog_37_method_2_code 19 = .ok (.aload_n 0, 1) := by decide +kernel
theorem d2_20 : decode prog_37_method_2_code 20 = .ok (.iconst 1, 1) := by decide +kernel
theorem d2_21 : decode prog_37_method_2_code 21 = .ok (.baload, 1) := by decide +kernel
theorem d2_22 : decode prog_37_method_2_code 22 = .ok (.getstatic 25, 3) := by decide +kernel
theorem d2_25 : decode prog_37_method_2_code 25 = .ok (.iconst 1, 1) := by decide +kernel
theorem d2_26 : decode prog_37_method_2_code 26 = .ok (.baload, 1) := by decide +kernel
theorem d2_27 : decode prog_37_method_2_code 27 = .ok (.if_icmp .ne 18, 3) := by decide +kernel
theorem d2_30 : decode prog_37_method_2_code 30 = .ok (.aload_n 0, 1) := by decide +kernel
theorem d2_31 : decode prog_37_method_2_code 31 = .ok (.iconst 2, 1) := by decide +kernel
theorem d2_32 : decode prog_37_method_2_code 32 = .ok (.baload, 1) := by decide +kernel
theorem d2_33 : decode prog_37_method_2_code 33 = .ok (.getstatic 25, 3) := by decide +kernel
theorem d2_36 : decode prog_37_method_2_code 36 = .ok (.iconst 2, 1) := by decide +kernel
theorem d2_37 : decode prog_37_method_2_code 37 = .ok (.baload, 1) := by decide +kernel
theorem d2_38 : decode prog_37_method_2_code 38 = .ok (.if_icmp .ne 7, 3) := by decide +kernel
theorem d2_41 : decode prog_37_method_2_code 41 = .ok (.iconst 1, 1) := by decide +kernel
theorem d2_42 : decode prog_37_method_2_code 42 = .ok (.goto 4, 3) := by decide +kernel
theorem d2_45 : decode prog_37_method_2_code 45 = .ok (.iconst 0, 1) := by decide +kernel
theorem d2_46 : decode prog_37_method_2_code 46 = .ok (.ireturn, 1) := by decide +kernel
theorem pn_2 : plainName "com/example/sealwire/sealwire/procedure/edifact/ServiceCharacters" = true := by first | (simp [plainName, overriddenIn]; done) | decide +kernel
theorem ef_2 (m : MethodId) (a1 : Addr) (p2 : Int32) : entryFrame m #[(.ref a1), (.int p2)] 2 = mkF m 0 #[.val (.ref a1), .val (.int p2)] [] := by first | (simp [entryFrame, mkF, argsToLocals, Value.category]; done) | rfl
def f2 (p2 : Int32) (y_a1 : Int32 → Int32) (y_s_ADVICE_TAG : Int32 → Int32) : Int32 :=
  (if p2 < (3 : Int32) then (0 : Int32) else (if (y_a1 (0 : Int32)) = (y_s_ADVICE_TAG (0 : Int32)) then (if (y_a1 (1 : Int32)) = (y_s_ADVICE_TAG (1 : Int32)) then (nar .boolean (if (y_a1 (2 : Int32)) = (y_s_ADVICE_TAG (2 : Int32)) then (1 : Int32) else (0 : Int32))) else (0 : Int32)) else (0 : Int32)))
def Q2 (Z : State) (a1 : Addr) (p2 : Int32) (y_a1 : Int32 → Int32) (s_ADVICE_TAG : Addr) (y_s_ADVICE_TAG : Int32 → Int32) (h0 : Heap) (n0 : Nat) (v : Option Value) (h : Heap) (L : List Loc) : Prop := v = some (.int (f2 p2 y_a1 y_s_ADVICE_TAG)) ∧ Fr n0 L ∧ h = h0
set_option maxRecDepth 65536 in
set_option maxHeartbeats 40000000 in
theorem rm2 (l : Launch) (Z : State) (a0 : Array Value) (hw : ∀ d ∈ tables_1, d.before a0 Z = true) (ws : List Jvm.Cond) (a1 : Addr) (p2 : Int32) (y_a1 : Int32 → Int32) (s_ADVICE_TAG : Addr) (y_s_ADVICE_TAG : Int32 → Int32) (h0 : Heap) (n0 : Nat) (Z0 : n0 ≤ h0.size) (A_a1 : own_A Z h0 a1 .byte (5 : Int32) (fun i => .int (y_a1 i))) (S_ADVICE_TAG : Sta Z h0 "com/example/sealwire/sealwire/procedure/edifact/ServiceCharacters" "ADVICE_TAG" "[B" (.ref s_ADVICE_TAG)) (A_s_ADVICE_TAG : own_A Z h0 s_ADVICE_TAG .byte (3 : Int32) (fun i => .int (y_s_ADVICE_TAG i))) :
    MetFree l (⟨"com/example/sealwire/sealwire/procedure/edifact/ServiceCharacters", "startsAdvice", "([BI)Z"⟩ : MethodName) (head1 (Jvm.Cond.code (⟨"com/example/sealwire/sealwire/procedure/edifact/ServiceCharacters", "startsAdvice", "([BI)Z"⟩ : MethodName) prog_37_method_2_code 2 (some .boolean) :: ws) ({ frames := 0, cells := 0, slots := 0, locals := 0 } : Room)) (fun a U => a = #[(.ref a1), (.int p2)] ∧ Z.Warmed39 U.vm ∧ U.heap = h0) (fun _ _ _ _ _ => True) (fun _ U o U' => ∃ v L, o = .returned v ∧ Q2 Z a1 p2 y_a1 s_ADVICE_TAG y_s_ADVICE_TAG h0 n0 v U'.heap L ∧ FrameEnd U o U' L ({ frames := 0, cells := 0, slots := 0, locals := 0 } : Room).cells ({ frames := 0, cells := 0, slots := 0, locals := 0 } : Room).slots) := by
  refine MetFree.of_bodySF (plainFor_of_name pn_2) hisR ?_
  intro p e s m args below meth c s₁ Bd hml0 hP hK
  obtain ⟨rfl, hZ, hh⟩ := hP
  have hx := Bd.exec
  have hby := Bd.bytes
  have hml : c.maxLocals = 2 := hml0
  have hown : s.vm.findClass "com/example/sealwire/sealwire/procedure/edifact/ServiceCharacters" = some m.cls := findClass_of_methodNamed Bd.named
  have hnm := (name_of_methodNamed Bd.named Bd.method).1
  have X0 : Stand p l e ({ frames := 0, cells := 0, slots := 0, locals := 0 } : Room) s m #[(.ref a1), (.int p2)] below meth c s₁ [] 0 0 := Stand.of_body Bd
  have e0 : s₁.heap = h0 := by rw [← hh, Bd.state]; rfl
  have N0 := Fr.nil n0
  have pre0 : ∀ t, Steps p.tables e below (s₁.setTop (mkF m 0 #[.val (.ref a1), .val (.int p2)] [])) t → Steps p.tables e below (s₁.setTop (entryFrame m #[(.ref a1), (.int p2)] 2)) t := fun t k => castTop (ef_2 m a1 p2) k
  obtain ⟨cl1, Ar1, Sz1, Mz1, Hz1⟩ := id A_a1
  obtain ⟨T2, X2, e2, st2⟩ := getS2 X0 hx hZ hown (host := "") (Or.inl (hw _ (List.mem_of_getElem? (i := 10) rfl))) Via.refl e0 S_ADVICE_TAG (g := (mkF m 1 #[.val (.ref a1), .val (.int p2)] [(.int p2)])) rfl (hb hby d2_1)
  obtain ⟨cl3, Ar3, Sz3, Mz3, Hz3⟩ := id A_s_ADVICE_TAG
  have pre4 : ∀ t, Steps p.tables e below (T2.setTop (mkF m 5 #[.val (.ref a1), .val (.int p2)] [(.int (3 : Int32)), (.int p2)])) t → Steps p.tables e below (s₁.setTop (entryFrame m #[(.ref a1), (.int p2)] 2)) t := fun t k => pre0 t (by
    show Steps p.tables e below (s₁.setTop (mkF m 0 #[.val (.ref a1), .val (.int p2)] [])) _
    refine XS.iloadN X0.here hx rfl (hb hby d2_0) rfl ?_
    show Steps p.tables e below (s₁.setTop (mkF m 1 #[.val (.ref a1), .val (.int p2)] [(.int p2)])) _
    refine st2 _ ?_
    show Steps p.tables e below (T2.setTop (mkF m 4 #[.val (.ref a1), .val (.int p2)] [(.ref s_ADVICE_TAG), (.int p2)])) _
    refine X2.arraylength hx (by rw [e2]; exact Ar3.1) (State.isArrayOf_alike hZ.alike Ar3.2.1) (g := (mkF m 4 #[.val (.ref a1), .val (.int p2)] [(.ref s_ADVICE_TAG), (.int p2)])) rfl rfl (hb hby d2_4) _ ?_
    rw [len_of Sz3 Mz3]
    exact k)
  by_cases hc5 : p2 < (3 : Int32)
  · have er : (f2 p2 y_a1 y_s_ADVICE_TAG) = (0 : Int32) := by exact (if_pos hc5)
    obtain ⟨fs, hr, hrun, hended, hW, hsame⟩ := X2.leave (v := some (.int (0 : Int32))) (fun h => by rw [Bd.returns] at h; cases h)
    refine ⟨_, _, pre4 _ ?_, hrun, hended, _, _, rfl, ?_, ⟨_, rfl⟩, hW, hsame.mono (by decide) (by decide)⟩
    · show Steps p.tables e below (T2.setTop (mkF m 5 #[.val (.ref a1), .val (.int p2)] [(.int (3 : Int32)), (.int p2)])) _
      refine XS.icmpYes X2.here hx rfl (pc0 := 5) (pc' := 45) rfl (hb hby d2_5) rfl (tlt hc5).1 (by decide) (by decide) ?_
      show Steps p.tables e below (T2.setTop (mkF m 45 #[.val (.ref a1), .val (.int p2)] [])) _
      refine XS.iconst X2.here hx rfl (hb hby d2_45) ?_
      show Steps p.tables e below (T2.setTop (mkF m 46 #[.val (.ref a1), .val (.int p2)] [(.int (0 : Int32))])) _
      exact retN X2 hx (t := .boolean) Bd.returns (by simp) (hb hby d2_46) hr
    · show Q2 Z a1 p2 y_a1 s_ADVICE_TAG y_s_ADVICE_TAG h0 n0 _ T2.heap _
      rw [e2]
      exact ⟨congrArg (fun z => some (Value.int z)) er.symm, N0, rfl⟩
  · obtain ⟨T6, X6, e6, st6⟩ := getS2 X2 hx hZ hown (host := "") (Or.inl (hw _ (List.mem_of_getElem? (i := 10) rfl))) Via.refl e2 S_ADVICE_TAG (g := (mkF m 11 #[.val (.ref a1), .val (.int p2)] [(.int (y_a1 (0 : Int32)))])) rfl (hb hby d2_11)
    have pre7 : ∀ t, Steps p.tables e below (T6.setTop (mkF m 16 #[.val (.ref a1), .val (.int p2)] [(.int (y_s_ADVICE_TAG (0 : Int32))), (.int (y_a1 (0 : Int32)))])) t → Steps p.tables e below (s₁.setTop (entryFrame m #[(.ref a1), (.int p2)] 2)) t := fun t k => pre4 t (by
      show Steps p.tables e below (T2.setTop (mkF m 5 #[.val (.ref a1), .val (.int p2)] [(.int (3 : Int32)), (.int p2)])) _
      refine XS.icmpNo X2.here hx rfl (hb hby d2_5) rfl (flt hc5).1 ?_
      show Steps p.tables e below (T2.setTop (mkF m 8 #[.val (.ref a1), .val (.int p2)] [])) _
      refine XS.aloadN X2.here hx rfl (hb hby d2_8) rfl rfl ?_
      show Steps p.tables e below (T2.setTop (mkF m 9 #[.val (.ref a1), .val (.int p2)] [(.ref a1)])) _
      refine XS.iconst X2.here hx rfl (hb hby d2_9) ?_
      show Steps p.tables e below (T2.setTop (mkF m 10 #[.val (.ref a1), .val (.int p2)] [(.int (0 : Int32)), (.ref a1)])) _
      refine X2.baloadBytes hx (j := (0 : Int32)) (v := (.int (y_a1 (0 : Int32)))) (by rw [e2]; exact Ar1.1) (State.isArrayOf_alike hZ.alike Ar1.2.1) Ar1.2.2 (inb_of Sz1 ⟨by decide, by decide⟩) (Hz1 _ (inb_of Sz1 ⟨by decide, by decide⟩)) (g := (mkF m 10 #[.val (.ref a1), .val (.int p2)] [(.int (0 : Int32)), (.ref a1)])) rfl rfl (hb hby d2_10) _ ?_
      show Steps p.tables e below (T2.setTop (mkF m 11 #[.val (.ref a1), .val (.int p2)] [(.int (y_a1 (0 : Int32)))])) _
      refine st6 _ ?_
      show Steps p.tables e below (T6.setTop (mkF m 14 #[.val (.ref a1), .val (.int p2)] [(.ref s_ADVICE_TAG), (.int (y_a1 (0 : Int32)))])) _
      refine XS.iconst X6.here hx rfl (hb hby d2_14) ?_
      show Steps p.tables e below (T6.setTop (mkF m 15 #[.val (.ref a1), .val (.int p2)] [(.int (0 : Int32)), (.ref s_ADVICE_TAG), (.int (y_a1 (0 : Int32)))])) _
      refine X6.baloadBytes hx (j := (0 : Int32)) (v := (.int (y_s_ADVICE_TAG (0 : Int32)))) (by rw [e6]; exact Ar3.1) (State.isArrayOf_alike hZ.alike Ar3.2.1) Ar3.2.2 (inb_of Sz3 ⟨by decide, by decide⟩) (Hz3 _ (inb_of Sz3 ⟨by decide, by decide⟩)) (g := (mkF m 15 #[.val (.ref a1), .val (.int p2)] [(.int (0 : Int32)), (.ref s_ADVICE_TAG), (.int (y_a1 (0 : Int32)))])) rfl rfl (hb hby d2_15) _ ?_
      exact k)
    by_cases hc8 : (y_a1 (0 : Int32)) = (y_s_ADVICE_TAG (0 : Int32))
    · obtain ⟨T9, X9, e9, st9⟩ := getS2 X6 hx hZ hown (host := "") (Or.inl (hw _ (List.mem_of_getElem? (i := 10) rfl))) Via.refl e6 S_ADVICE_TAG (g := (mkF m 22 #[.val (.ref a1), .val (.int p2)] [(.int (y_a1 (1 : Int32)))])) rfl (hb hby d2_22)
      have pre10 : ∀ t, Steps p.tables e below (T9.setTop (mkF m 27 #[.val (.ref a1), .val (.int p2)] [(.int (y_s_ADVICE_TAG (1 : Int32))), (.int (y_a1 (1 : Int32)))])) t → Steps p.tables e below (s₁.setTop (entryFrame m #[(.ref a1), (.int p2)] 2)) t := fun t k => pre7 t (by
        show Steps p.tables e below (T6.setTop (mkF m 16 #[.val (.ref a1), .val (.int p2)] [(.int (y_s_ADVICE_TAG (0 : Int32))), (.int (y_a1 (0 : Int32)))])) _
        refine XS.icmpNo X6.here hx rfl (hb hby d2_16) rfl (teq hc8).2 ?_
        show Steps p.tables e below (T6.setTop (mkF m 19 #[.val (.ref a1), .val (.int p2)] [])) _
        refine XS.aloadN X6.here hx rfl (hb hby d2_19) rfl rfl ?_
        show Steps p.tables e below (T6.setTop (mkF m 20 #[.val (.ref a1), .val (.int p2)] [(.ref a1)])) _
        refine XS.iconst X6.here hx rfl (hb hby d2_20) ?_
        show Steps p.tables e below (T6.setTop (mkF m 21 #[.val (.ref a1), .val (.int p2)] [(.int (1 : Int32)), (.ref a1)])) _
        refine X6.baloadBytes hx (j := (1 : Int32)) (v := (.int (y_a1 (1 : Int32)))) (by rw [e6]; exact Ar1.1) (State.isArrayOf_alike hZ.alike Ar1.2.1) Ar1.2.2 (inb_of Sz1 ⟨by decide, by decide⟩) (Hz1 _ (inb_of Sz1 ⟨by decide, by decide⟩)) (g := (mkF m 21 #[.val (.ref a1), .val (.int p2)] [(.int (1 : Int32)), (.ref a1)])) rfl rfl (hb hby d2_21) _ ?_
        show Steps p.tables e below (T6.setTop (mkF m 22 #[.val (.ref a1), .val (.int p2)] [(.int (y_a1 (1 : Int32)))])) _
        refine st9 _ ?_
        show Steps p.tables e below (T9.setTop (mkF m 25 #[.val (.ref a1), .val (.int p2)] [(.ref s_ADVICE_TAG), (.int (y_a1 (1 : Int32)))])) _
        refine XS.iconst X9.here hx rfl (hb hby d2_25) ?_
        show Steps p.tables e below (T9.setTop (mkF m 26 #[.val (.ref a1), .val (.int p2)] [(.int (1 : Int32)), (.ref s_ADVICE_TAG), (.int (y_a1 (1 : Int32)))])) _
        refine X9.baloadBytes hx (j := (1 : Int32)) (v := (.int (y_s_ADVICE_TAG (1 : Int32)))) (by rw [e9]; exact Ar3.1) (State.isArrayOf_alike hZ.alike Ar3.2.1) Ar3.2.2 (inb_of Sz3 ⟨by decide, by decide⟩) (Hz3 _ (inb_of Sz3 ⟨by decide, by decide⟩)) (g := (mkF m 26 #[.val (.ref a1), .val (.int p2)] [(.int (1 : Int32)), (.ref s_ADVICE_TAG), (.int (y_a1 (1 : Int32)))])) rfl rfl (hb hby d2_26) _ ?_
        exact k)
      by_cases hc11 : (y_a1 (1 : Int32)) = (y_s_ADVICE_TAG (1 : Int32))
      · obtain ⟨T12, X12, e12, st12⟩ := getS2 X9 hx hZ hown (host := "") (Or.inl (hw _ (List.mem_of_getElem? (i := 10) rfl))) Via.refl e9 S_ADVICE_TAG (g := (mkF m 33 #[.val (.ref a1), .val (.int p2)] [(.int (y_a1 (2 : Int32)))])) rfl (hb hby d2_33)
        obtain ⟨v14, hv14⟩ : ∃ z : Int32, z = (if (y_a1 (2 : Int32)) = (y_s_ADVICE_TAG (2 : Int32)) then (1 : Int32) else (0 : Int32)) := ⟨_, rfl⟩
        have pre15 : ∀ t, Steps p.tables e below (T12.setTop (mkF m 46 #[.val (.ref a1), .val (.int p2)] [(.int v14)])) t → Steps p.tables e below (s₁.setTop (entryFrame m #[(.ref a1), (.int p2)] 2)) t := fun t k => pre10 t (by
          show Steps p.tables e below (T9.setTop (mkF m 27 #[.val (.ref a1), .val (.int p2)] [(.int (y_s_ADVICE_TAG (1 : Int32))), (.int (y_a1 (1 : Int32)))])) _
          refine XS.icmpNo X9.here hx rfl (hb hby d2_27) rfl (teq hc11).2 ?_
          show Steps p.tables e below (T9.setTop (mkF m 30 #[.val (.ref a1), .val (.int p2)] [])) _
          refine XS.aloadN X9.here hx rfl (hb hby d2_30) rfl rfl ?_
          show Steps p.tables e below (T9.setTop (mkF m 31 #[.val (.ref a1), .val (.int p2)] [(.ref a1)])) _
          refine XS.iconst X9.here hx rfl (hb hby d2_31) ?_
          show Steps p.tables e below (T9.setTop (mkF m 32 #[.val (.ref a1), .val (.int p2)] [(.int (2 : Int32)), (.ref a1)])) _
          refine X9.baloadBytes hx (j := (2 : Int32)) (v := (.int (y_a1 (2 : Int32)))) (by rw [e9]; exact Ar1.1) (State.isArrayOf_alike hZ.alike Ar1.2.1) Ar1.2.2 (inb_of Sz1 ⟨by decide, by decide⟩) (Hz1 _ (inb_of Sz1 ⟨by decide, by decide⟩)) (g := (mkF m 32 #[.val (.ref a1), .val (.int p2)] [(.int (2 : Int32)), (.ref a1)])) rfl rfl (hb hby d2_32) _ ?_
          show Steps p.tables e below (T9.setTop (mkF m 33 #[.val (.ref a1), .val (.int p2)] [(.int (y_a1 (2 : Int32)))])) _
          refine st12 _ ?_
          show Steps p.tables e below (T12.setTop (mkF m 36 #[.val (.ref a1), .val (.int p2)] [(.ref s_ADVICE_TAG), (.int (y_a1 (2 : Int32)))])) _
          refine XS.iconst X12.here hx rfl (hb hby d2_36) ?_
          show Steps p.tables e below (T12.setTop (mkF m 37 #[.val (.ref a1), .val (.int p2)] [(.int (2 : Int32)), (.ref s_ADVICE_TAG), (.int (y_a1 (2 : Int32)))])) _
          refine X12.baloadBytes hx (j := (2 : Int32)) (v := (.int (y_s_ADVICE_TAG (2 : Int32)))) (by rw [e12]; exact Ar3.1) (State.isArrayOf_alike hZ.alike Ar3.2.1) Ar3.2.2 (inb_of Sz3 ⟨by decide, by decide⟩) (Hz3 _ (inb_of Sz3 ⟨by decide, by decide⟩)) (g := (mkF m 37 #[.val (.ref a1), .val (.int p2)] [(.int (2 : Int32)), (.ref s_ADVICE_TAG), (.int (y_a1 (2 : Int32)))])) rfl rfl (hb hby d2_37) _ ?_
          show Steps p.tables e below (T12.setTop (mkF m 38 #[.val (.ref a1), .val (.int p2)] [(.int (y_s_ADVICE_TAG (2 : Int32))), (.int (y_a1 (2 : Int32)))])) _
          by_cases hc13 : (y_a1 (2 : Int32)) = (y_s_ADVICE_TAG (2 : Int32))
          · refine XS.icmpNo X12.here hx rfl (hb hby d2_38) rfl (teq hc13).2 ?_
            show Steps p.tables e below (T12.setTop (mkF m 41 #[.val (.ref a1), .val (.int p2)] [])) _
            refine XS.iconst X12.here hx rfl (hb hby d2_41) ?_
            show Steps p.tables e below (T12.setTop (mkF m 42 #[.val (.ref a1), .val (.int p2)] [(.int (1 : Int32))])) _
            refine XS.goto X12.here hx rfl (pc0 := 42) (pc' := 46) rfl (hb hby d2_42) (by decide) (by decide) ?_
            rw [show v14 = (1 : Int32) from hv14.trans (if_pos hc13)] at k
            exact k
          · refine XS.icmpYes X12.here hx rfl (pc0 := 38) (pc' := 45) rfl (hb hby d2_38) rfl (feq hc13).2 (by decide) (by decide) ?_
            show Steps p.tables e below (T12.setTop (mkF m 45 #[.val (.ref a1), .val (.int p2)] [])) _
            refine XS.iconst X12.here hx rfl (hb hby d2_45) ?_
            rw [show v14 = (0 : Int32) from hv14.trans (if_neg hc13)] at k
            exact k)
        have er : (f2 p2 y_a1 y_s_ADVICE_TAG) = (nar .boolean v14) := by subst hv14; exact ((if_neg hc5).trans ((if_pos hc8).trans (if_pos hc11)))
        obtain ⟨fs, hr, hrun, hended, hW, hsame⟩ := X12.leave (v := some (.int (nar .boolean v14))) (fun h => by rw [Bd.returns] at h; cases h)
        refine ⟨_, _, pre15 _ ?_, hrun, hended, _, _, rfl, ?_, ⟨_, rfl⟩, hW, hsame.mono (by decide) (by decide)⟩
        · show Steps p.tables e below (T12.setTop (mkF m 46 #[.val (.ref a1), .val (.int p2)] [(.int v14)])) _
          exact retN X12 hx (t := .boolean) Bd.returns (by simp) (hb hby d2_46) hr
        · show Q2 Z a1 p2 y_a1 s_ADVICE_TAG y_s_ADVICE_TAG h0 n0 _ T12.heap _
          rw [e12]
          exact ⟨congrArg (fun z => some (Value.int z)) er.symm, N0, rfl⟩
      · have er : (f2 p2 y_a1 y_s_ADVICE_TAG) = (0 : Int32) := by exact ((if_neg hc5).trans ((if_pos hc8).trans (if_neg hc11)))
        obtain ⟨fs, hr, hrun, hended, hW, hsame⟩ := X9.leave (v := some (.int (0 : Int32))) (fun h => by rw [Bd.returns] at h; cases h)
        refine ⟨_, _, pre10 _ ?_, hrun, hended, _, _, rfl, ?_, ⟨_, rfl⟩, hW, hsame.mono (by decide) (by decide)⟩
        · show Steps p.tables e below (T9.setTop (mkF m 27 #[.val (.ref a1), .val (.int p2)] [(.int (y_s_ADVICE_TAG (1 : Int32))), (.int (y_a1 (1 : Int32)))])) _
          refine XS.icmpYes X9.here hx rfl (pc0 := 27) (pc' := 45) rfl (hb hby d2_27) rfl (feq hc11).2 (by decide) (by decide) ?_
          show Steps p.tables e below (T9.setTop (mkF m 45 #[.val (.ref a1), .val (.int p2)] [])) _
          refine XS.iconst X9.here hx rfl (hb hby d2_45) ?_
          show Steps p.tables e below (T9.setTop (mkF m 46 #[.val (.ref a1), .val (.int p2)] [(.int (0 : Int32))])) _
          exact retN X9 hx (t := .boolean) Bd.returns (by simp) (hb hby d2_46) hr
        · show Q2 Z a1 p2 y_a1 s_ADVICE_TAG y_s_ADVICE_TAG h0 n0 _ T9.heap _
          rw [e9]
          exact ⟨congrArg (fun z => some (Value.int z)) er.symm, N0, rfl⟩
    · have er : (f2 p2 y_a1 y_s_ADVICE_TAG) = (0 : Int32) := by exact ((if_neg hc5).trans (if_neg hc8))
      obtain ⟨fs, hr, hrun, hended, hW, hsame⟩ := X6.leave (v := some (.int (0 : Int32))) (fun h => by rw [Bd.returns] at h; cases h)
      refine ⟨_, _, pre7 _ ?_, hrun, hended, _, _, rfl, ?_, ⟨_, rfl⟩, hW, hsame.mono (by decide) (by decide)⟩
      · show Steps p.tables e below (T6.setTop (mkF m 16 #[.val (.ref a1), .val (.int p2)] [(.int (y_s_ADVICE_TAG (0 : Int32))), (.int (y_a1 (0 : Int32)))])) _
        refine XS.icmpYes X6.here hx rfl (pc0 := 16) (pc' := 45) rfl (hb hby d2_16) rfl (feq hc8).2 (by decide) (by decide) ?_
        show Steps p.tables e below (T6.setTop (mkF m 45 #[.val (.ref a1), .val (.int p2)] [])) _
        refine XS.iconst X6.here hx rfl (hb hby d2_45) ?_
        show Steps p.tables e below (T6.setTop (mkF m 46 #[.val (.ref a1), .val (.int p2)] [(.int (0 : Int32))])) _
        exact retN X6 hx (t := .boolean) Bd.returns (by simp) (hb hby d2_46) hr
      · show Q2 Z a1 p2 y_a1 s_ADVICE_TAG y_s_ADVICE_TAG h0 n0 _ T6.heap _
        rw [e6]
        exact ⟨congrArg (fun z => some (Value.int z)) er.symm, N0, rfl⟩
theorem pd_0 : parseMethodDescriptor "(IB)B" = some ⟨[.int, .byte], some .byte⟩ := by decide +kernel
theorem pd_1 : parseMethodDescriptor "([BI)Z" = some ⟨[(.array .byte), .int], some .boolean⟩ := by decide +kernel
theorem pn_0 : plainName "com/example/sealwire/sealwire/procedure/edifact/ServiceCharactersStartsAdvicePinLaw" = true := by first | (simp [plainName, overriddenIn]; done) | decide +kernel
theorem ef_0 (m : MethodId) (p1 : Int32) (p2 : Int32) (p3 : Int32) (p4 : Int32) (p5 : Int32) : entryFrame m #[(.int p1), (.int p2), (.int p3), (.int p4), (.int p5)] maxLocals = mkF m 0 #[.val (.int p1), .val (.int p2), .val (.int p3), .val (.int p4), .val (.int p5), .unset, .unset, .unset] [] := by first | (simp [entryFrame, mkF, argsToLocals, Value.category, maxLocals]; done) | rfl
def f0 (p1 : Int32) (p2 : Int32) (p3 : Int32) (p4 : Int32) (p5 : Int32) (y_s : Int32 → Int32) : Int32 :=
  let y3 : Int32 → Int32 := (fun i => if i = (0 : Int32) then (nar .byte (f1 p1 (85 : Int32))) else (fun _ => (0 : Int32)) i);
  let y6 : Int32 → Int32 := (fun i => if i = (1 : Int32) then (nar .byte (f1 p2 (78 : Int32))) else y3 i);
  let y9 : Int32 → Int32 := (fun i => if i = (2 : Int32) then (nar .byte (f1 p3 (65 : Int32))) else y6 i);
  let y11 : Int32 → Int32 := (fun i => if i = (3 : Int32) then (nar .byte (p4.toInt8.toInt32)) else y9 i);
  let y13 : Int32 → Int32 := (fun i => if i = (4 : Int32) then (nar .byte ((p4 >>> ((8 : Int32) &&& 31)).toInt8.toInt32)) else y11 i);
  let v20 : Int32 := (if ((p5 &&& (2147483647 : Int32)) % (6 : Int32)) < (3 : Int32) then (0 : Int32) else (if (y13 (0 : Int32)) = (85 : Int32) then (if (y13 (1 : Int32)) = (78 : Int32) then (if (y13 (2 : Int32)) = (65 : Int32) then (1 : Int32) else (0 : Int32)) else (0 : Int32)) else (0 : Int32)));
  let v24 : Int32 := (if (f2 ((p5 &&& (2147483647 : Int32)) % (6 : Int32)) y13 y_s) = v20 then (1 : Int32) else (0 : Int32));
  (nar .boolean v24)
def Q0 (Z : State) (p1 : Int32) (p2 : Int32) (p3 : Int32) (p4 : Int32) (p5 : Int32) (s_ADVICE_TAG : Addr) (y_s : Int32 → Int32) (h0 : Heap) (n0 : Nat) (v : Option Value) (h : Heap) (L : List Loc) : Prop := v = some (.int (f0 p1 p2 p3 p4 p5 y_s)) ∧ Fr n0 L ∧ True
set_option maxRecDepth 65536 in
set_option maxHeartbeats 40000000 in
theorem rm0 (l : Launch) (Z : State) (a0 : Array Value) (hw : ∀ d ∈ tables_1, d.before a0 Z = true) (ws : List Jvm.Cond) (p1 : Int32) (p2 : Int32) (p3 : Int32) (p4 : Int32) (p5 : Int32) (s_ADVICE_TAG : Addr) (y_s : Int32 → Int32) (h0 : Heap) (n0 : Nat) (Z0 : n0 ≤ h0.size) (S_ADVICE_TAG : Sta Z Z.heap "com/example/sealwire/sealwire/procedure/edifact/ServiceCharacters" "ADVICE_TAG" "[B" (.ref s_ADVICE_TAG)) (A_s_ADVICE_TAG : own_A Z Z.heap s_ADVICE_TAG .byte (3 : Int32) (fun i => .int (y_s i))) (O0 : Old Z n0 h0) :
    MetFree l x (head1 (Jvm.Cond.code x code maxLocals ret :: ws) room_1) (fun a U => a = #[(.int p1), (.int p2), (.int p3), (.int p4), (.int p5)] ∧ Z.Warmed39 U.vm ∧ U.heap = h0) (fun _ _ _ _ _ => True) (fun _ U o U' => ∃ v L, o = .returned v ∧ Q0 Z p1 p2 p3 p4 p5 s_ADVICE_TAG y_s h0 n0 v U'.heap L ∧ FrameEnd U o U' L room_1.cells room_1.slots) := by
  refine MetFree.of_bodySF (plainFor_of_name pn_0) hisR ?_
  intro p e s m args below meth c s₁ Bd hml0 hP hK
  obtain ⟨rfl, hZ, hh⟩ := hP
  have hx := Bd.exec
  have hby := Bd.bytes
  have hml : c.maxLocals = 8 := hml0
  have hown : s.vm.findClass "com/example/sealwire/sealwire/procedure/edifact/ServiceCharactersStartsAdvicePinLaw" = some m.cls := findClass_of_methodNamed Bd.named
  have hnm := (name_of_methodNamed Bd.named Bd.method).1
  have X0 : Stand p l e room_1 s m #[(.int p1), (.int p2), (.int p3), (.int p4), (.int p5)] below meth c s₁ [] 0 0 := Stand.of_body Bd
  have e0 : s₁.heap = h0 := by rw [← hh, Bd.state]; rfl
  have N0 := Fr.nil n0
  have pre0 : ∀ t, Steps p.tables e below (s₁.setTop (mkF m 0 #[.val (.int p1), .val (.int p2), .val (.int p3), .val (.int p4), .val (.int p5), .unset, .unset, .unset] [])) t → Steps p.tables e below (s₁.setTop (entryFrame m #[(.int p1), (.int p2), (.int p3), (.int p4), (.int p5)] maxLocals)) t := fun t k => castTop (ef_0 m p1 p2 p3 p4 p5) k
  have K0 := Keep.refl h0 ([] : List Addr)
  obtain ⟨T1, h1, k1, X1, e1, E1, Ax1, st1⟩ := newP X0 hx hZ (hw _ (List.mem_of_getElem? (i := 0) rfl)) e0 (g := (mkF m 1 #[.val (.int p1), .val (.int p2), .val (.int p3), .val (.int p4), .val (.int p5), .unset, .unset, .unset] [(.int (5 : Int32))])) rfl (hb hby at_1) rfl (by decide) (cap := 5) (by decide) (by decide) (by decide) (by decide)
  obtain ⟨b1, g1⟩ : ∃ z, z = h0.size := ⟨_, rfl⟩
  rw [← g1] at Ax1 st1
  have g_b1 : n0 ≤ b1 := Nat.le_trans Z0 (Nat.le_of_eq g1.symm)
  have sz_b1 : h0.size ≤ b1 := Nat.le_trans K0.1 (Nat.le_of_eq g1.symm)
  have K1 := K0.ext E1
  have Zs1 := Nat.le_trans Z0 E1.1
  have O1 := O0.ext E1
  have A_b1_1 : own_A Z h1 b1 .byte (5 : Int32) (fun i => .int ((fun _ => (0 : Int32)) i)) := own_A_new Ax1 (by decide)
  obtain ⟨_, _, ⟨T2, L2, k2, n2⟩, -, X2, ⟨Lc2, hQ2, l2, y2, z2⟩, st2⟩ := Jvm.LawKit.callS X1 hx (y := (⟨"com/example/sealwire/sealwire/procedure/edifact/ServiceCharactersStartsAdvicePinLaw", "pick", "(IB)B"⟩ : MethodName)) hown (mvT hZ (hw _ (List.mem_of_getElem? (i := 1) rfl))) (mvT hZ (hw _ (List.mem_of_getElem? (i := 2) rfl))) (mvT hZ (hw _ (List.mem_of_getElem? (i := 3) rfl))) (mvT hZ (hw _ (List.mem_of_getElem? (i := 4) rfl))) (by decide) (backOf (W := 2) (rm1 l Z a0 hw [] p1 (85 : Int32) h1 n0 Zs1) hZ (hw _ (List.mem_of_getElem? (i := 4) rfl)) (hw _ (List.mem_of_getElem? (i := 3) rfl)) (by decide) (by decide)) (g := (mkF m 11 #[.val (.int p1), .val (.int p2), .val (.int p3), .val (.int p4), .val (.int p5), .val (.ref b1), .unset, .unset] [(.int (85 : Int32)), (.int p1), (.int (0 : Int32)), (.ref b1)])) rfl (by rw [hml]; rfl) (argsL := [(.int p1), (.int (85 : Int32))]) (rest := [(.int (0 : Int32)), (.ref b1)]) (lenOf pd_0 rfl) rfl (by show 2 * 0 + _ ≤ _; exact Nat.le_of_eq rfl) (hb hby at_11) (fun _ _ => ⟨rfl, e1, (by decide : 1 + 0 ≤ _), (by decide : 5 + 0 ≤ _)⟩)
  dsimp only [Pt.U, Pt.locs, Pt.cells, Pt.slots] at X2 l2 y2 z2 st2 hQ2
  subst l2 y2 z2
  obtain ⟨rfl, N2q, e2⟩ := hQ2
  have N2 := Fr.app N0 N2q
  obtain ⟨cl4, Ar4, Sz4, Mz4, Hz4⟩ := id A_b1_1
  have hin3 := inb_of (j := (0 : Int32)) Sz4 ⟨by decide, by decide⟩
  obtain ⟨T3, h3, X3, e3, W3, st3⟩ := stB X2 hx hZ e2 Ar4 (j := (0 : Int32)) hin3 (g := (mkF m 14 #[.val (.int p1), .val (.int p2), .val (.int p3), .val (.int p4), .val (.int p5), .val (.ref b1), .unset, .unset] [(.int (f1 p1 (85 : Int32))), (.int (0 : Int32)), (.ref b1)])) rfl rfl (hb hby at_14)
  obtain ⟨y3, hy3⟩ : ∃ y : Int32 → Int32, y = fun i => if i = (0 : Int32) then (nar .byte (f1 p1 (85 : Int32))) else (fun _ => (0 : Int32)) i := ⟨_, rfl⟩
  have K3 := K1.wr W3 (Or.inr sz_b1)
  have Zs3 := Nat.le_trans Zs1 (Keep.of_wr W3).1
  have N3 := Fr.snoc X3 N2 g_b1
  have O3 := O1.wr W3 g_b1
  have A_b1_3 : own_A Z h3 b1 .byte (5 : Int32) (fun i => .int (y3 i)) := by subst hy3; exact own_A_set Ar4 Sz4 Mz4 Hz4 hin3 W3 (own_setI (y := (fun _ => (0 : Int32))) (j := (0 : Int32)) (x := (nar .byte (f1 p1 (85 : Int32))))) (own_setI' (y := (fun _ => (0 : Int32))) (j := (0 : Int32)) (x := (nar .byte (f1 p1 (85 : Int32)))))
  obtain ⟨_, _, ⟨T5, L5, k5, n5⟩, -, X5, ⟨Lc5, hQ5, l5, y5, z5⟩, st5⟩ := Jvm.LawKit.callS X3 hx (y := (⟨"com/example/sealwire/sealwire/procedure/edifact/ServiceCharactersStartsAdvicePinLaw", "pick", "(IB)B"⟩ : MethodName)) hown (mvT hZ (hw _ (List.mem_of_getElem? (i := 1) rfl))) (mvT hZ (hw _ (List.mem_of_getElem? (i := 2) rfl))) (mvT hZ (hw _ (List.mem_of_getElem? (i := 3) rfl))) (mvT hZ (hw _ (List.mem_of_getElem? (i := 4) rfl))) (by decide) (backOf (W := 2) (rm1 l Z a0 hw [] p2 (78 : Int32) h3 n0 Zs3) hZ (hw _ (List.mem_of_getElem? (i := 4) rfl)) (hw _ (List.mem_of_getElem? (i := 3) rfl)) (by decide) (by decide)) (g := (mkF m 21 #[.val (.int p1), .val (.int p2), .val (.int p3), .val (.int p4), .val (.int p5), .val (.ref b1), .unset, .unset] [(.int (78 : Int32)), (.int p2), (.int (1 : Int32)), (.ref b1)])) rfl (by rw [hml]; rfl) (argsL := [(.int p2), (.int (78 : Int32))]) (rest := [(.int (1 : Int32)), (.ref b1)]) (lenOf pd_0 rfl) rfl (by show 2 * 0 + _ ≤ _; exact Nat.le_of_eq rfl) (hb hby at_21) (fun _ _ => ⟨rfl, e3, (by decide : 1 + 0 ≤ _), (by decide : 5 + 0 ≤ _)⟩)
  dsimp only [Pt.U, Pt.locs, Pt.cells, Pt.slots] at X5 l5 y5 z5 st5 hQ5
  subst l5 y5 z5
  obtain ⟨rfl, N5q, e5⟩ := hQ5
  have N5 := Fr.app N3 N5q
  obtain ⟨cl7, Ar7, Sz7, Mz7, Hz7⟩ := id A_b1_3
  have hin6 := inb_of (j := (1 : Int32)) Sz7 ⟨by decide, by decide⟩
  obtain ⟨T6, h6, X6, e6, W6, st6⟩ := stB X5 hx hZ e5 Ar7 (j := (1 : Int32)) hin6 (g := (mkF m 24 #[.val (.int p1), .val (.int p2), .val (.int p3), .val (.int p4), .val (.int p5), .val (.ref b1), .unset, .unset] [(.int (f1 p2 (78 : Int32))), (.int (1 : Int32)), (.ref b1)])) rfl rfl (hb hby at_24)
  obtain ⟨y6, hy6⟩ : ∃ y : Int32 → Int32, y = fun i => if i = (1 : Int32) then (nar .byte (f1 p2 (78 : Int32))) else y3 i := ⟨_, rfl⟩
  have K6 := K3.wr W6 (Or.inr sz_b1)
  have Zs6 := Nat.le_trans Zs3 (Keep.of_wr W6).1
  have N6 := Fr.snoc X6 N5 g_b1
  have O6 := O3.wr W6 g_b1
  have A_b1_6 : own_A Z h6 b1 .byte (5 : Int32) (fun i => .int (y6 i)) := by subst hy6; exact own_A_set Ar7 Sz7 Mz7 Hz7 hin6 W6 (own_setI (y := y3) (j := (1 : Int32)) (x := (nar .byte (f1 p2 (78 : Int32))))) (own_setI' (y := y3) (j := (1 : Int32)) (x := (nar .byte (f1 p2 (78 : Int32)))))
  obtain ⟨_, _, ⟨T8, L8, k8, n8⟩, -, X8, ⟨Lc8, hQ8, l8, y8, z8⟩, st8⟩ := Jvm.LawKit.callS X6 hx (y := (⟨"com/example/sealwire/sealwire/procedure/edifact/ServiceCharactersStartsAdvicePinLaw", "pick", "(IB)B"⟩ : MethodName)) hown (mvT hZ (hw _ (List.mem_of_getElem? (i := 1) rfl))) (mvT hZ (hw _ (List.mem_of_getElem? (i := 2) rfl))) (mvT hZ (hw _ (List.mem_of_getElem? (i := 3) rfl))) (mvT hZ (hw _ (List.mem_of_getElem? (i := 4) rfl))) (by decide) (backOf (W := 2) (rm1 l Z a0 hw [] p3 (65 : Int32) h6 n0 Zs6) hZ (hw _ (List.mem_of_getElem? (i := 4) rfl)) (hw _ (List.mem_of_getElem? (i := 3) rfl)) (by decide) (by decide)) (g := (mkF m 31 #[.val (.int p1), .val (.int p2), .val (.int p3), .val (.int p4), .val (.int p5), .val (.ref b1), .unset, .unset] [(.int (65 : Int32)), (.int p3), (.int (2 : Int32)), (.ref b1)])) rfl (by rw [hml]; rfl) (argsL := [(.int p3), (.int (65 : Int32))]) (rest := [(.int (2 : Int32)), (.ref b1)]) (lenOf pd_0 rfl) rfl (by show 2 * 0 + _ ≤ _; exact Nat.le_of_eq rfl) (hb hby at_31) (fun _ _ => ⟨rfl, e6, (by decide : 1 + 0 ≤ _), (by decide : 5 + 0 ≤ _)⟩)
  dsimp only [Pt.U, Pt.locs, Pt.cells, Pt.slots] at X8 l8 y8 z8 st8 hQ8
  subst l8 y8 z8
  obtain ⟨rfl, N8q, e8⟩ := hQ8
  have N8 := Fr.app N6 N8q
  obtain ⟨cl10, Ar10, Sz10, Mz10, Hz10⟩ := id A_b1_6
  have hin9 := inb_of (j := (2 : Int32)) Sz10 ⟨by decide, by decide⟩
  obtain ⟨T9, h9, X9, e9, W9, st9⟩ := stB X8 hx hZ e8 Ar10 (j := (2 : Int32)) hin9 (g := (mkF m 34 #[.val (.int p1), .val (.int p2), .val (.int p3), .val (.int p4), .val (.int p5), .val (.ref b1), .unset, .unset] [(.int (f1 p3 (65 : Int32))), (.int (2 : Int32)), (.ref b1)])) rfl rfl (hb hby at_34)
  obtain ⟨y9, hy9⟩ : ∃ y : Int32 → Int32, y = fun i => if i = (2 : Int32) then (nar .byte (f1 p3 (65 : Int32))) else y6 i := ⟨_, rfl⟩
  have K9 := K6.wr W9 (Or.inr sz_b1)
  have Zs9 := Nat.le_trans Zs6 (Keep.of_wr W9).1
  have N9 := Fr.snoc X9 N8 g_b1
  have O9 := O6.wr W9 g_b1
  have A_b1_9 : own_A Z h9 b1 .byte (5 : Int32) (fun i => .int (y9 i)) := by subst hy9; exact own_A_set Ar10 Sz10 Mz10 Hz10 hin9 W9 (own_setI (y := y6) (j := (2 : Int32)) (x := (nar .byte (f1 p3 (65 : Int32))))) (own_setI' (y := y6) (j := (2 : Int32)) (x := (nar .byte (f1 p3 (65 : Int32)))))
  obtain ⟨cl12, Ar12, Sz12, Mz12, Hz12⟩ := id A_b1_9
  have hin11 := inb_of (j := (3 : Int32)) Sz12 ⟨by decide, by decide⟩
  obtain ⟨T11, h11, X11, e11, W11, st11⟩ := stB X9 hx hZ e9 Ar12 (j := (3 : Int32)) hin11 (g := (mkF m 40 #[.val (.int p1), .val (.int p2), .val (.int p3), .val (.int p4), .val (.int p5), .val (.ref b1), .unset, .unset] [(.int (p4.toInt8.toInt32)), (.int (3 : Int32)), (.ref b1)])) rfl rfl (hb hby at_40)
  obtain ⟨y11, hy11⟩ : ∃ y : Int32 → Int32, y = fun i => if i = (3 : Int32) then (nar .byte (p4.toInt8.toInt32)) else y9 i := ⟨_, rfl⟩
  have K11 := K9.wr W11 (Or.inr sz_b1)
  have Zs11 := Nat.le_trans Zs9 (Keep.of_wr W11).1
  have N11 := Fr.snoc X11 N9 g_b1
  have O11 := O9.wr W11 g_b1
  have A_b1_11 : own_A Z h11 b1 .byte (5 : Int32) (fun i => .int (y11 i)) := by subst hy11; exact own_A_set Ar12 Sz12 Mz12 Hz12 hin11 W11 (own_setI (y := y9) (j := (3 : Int32)) (x := (nar .byte (p4.toInt8.toInt32)))) (own_setI' (y := y9) (j := (3 : Int32)) (x := (nar .byte (p4.toInt8.toInt32))))
  obtain ⟨cl14, Ar14, Sz14, Mz14, Hz14⟩ := id A_b1_11
  have hin13 := inb_of (j := (4 : Int32)) Sz14 ⟨by decide, by decide⟩
  obtain ⟨T13, h13, X13, e13, W13, st13⟩ := stB X11 hx hZ e11 Ar14 (j := (4 : Int32)) hin13 (g := (mkF m 49 #[.val (.int p1), .val (.int p2), .val (.int p3), .val (.int p4), .val (.int p5), .val (.ref b1), .unset, .unset] [(.int ((p4 >>> ((8 : Int32) &&& 31)).toInt8.toInt32)), (.int (4 : Int32)), (.ref b1)])) rfl rfl (hb hby at_49)
  obtain ⟨y13, hy13⟩ : ∃ y : Int32 → Int32, y = fun i => if i = (4 : Int32) then (nar .byte ((p4 >>> ((8 : Int32) &&& 31)).toInt8.toInt32)) else y11 i := ⟨_, rfl⟩
  have K13 := K11.wr W13 (Or.inr sz_b1)
  have Zs13 := Nat.le_trans Zs11 (Keep.of_wr W13).1
  have N13 := Fr.snoc X13 N11 g_b1
  have O13 := O11.wr W13 g_b1
  have A_b1_13 : own_A Z h13 b1 .byte (5 : Int32) (fun i => .int (y13 i)) := by subst hy13; exact own_A_set Ar14 Sz14 Mz14 Hz14 hin13 W13 (own_setI (y := y11) (j := (4 : Int32)) (x := (nar .byte ((p4 >>> ((8 : Int32) &&& 31)).toInt8.toInt32)))) (own_setI' (y := y11) (j := (4 : Int32)) (x := (nar .byte ((p4 >>> ((8 : Int32) &&& 31)).toInt8.toInt32))))
  obtain ⟨cl15, Ar15, Sz15, Mz15, Hz15⟩ := id A_b1_13
  obtain ⟨v20, hv20⟩ : ∃ z : Int32, z = (if ((p5 &&& (2147483647 : Int32)) % (6 : Int32)) < (3 : Int32) then (0 : Int32) else (if (y13 (0 : Int32)) = (85 : Int32) then (if (y13 (1 : Int32)) = (78 : Int32) then (if (y13 (2 : Int32)) = (65 : Int32) then (1 : Int32) else (0 : Int32)) else (0 : Int32)) else (0 : Int32))) := ⟨_, rfl⟩
  have pre21 : ∀ t, Steps p.tables e below (T13.setTop (mkF m 120 #[.val (.int p1), .val (.int p2), .val (.int p3), .val (.int p4), .val (.int p5), .val (.ref b1), .val (.int ((p5 &&& (2147483647 : Int32)) % (6 : Int32))), .val (.int v20)] [])) t → Steps p.tables e below (s₁.setTop (entryFrame m #[(.int p1), (.int p2), (.int p3), (.int p4), (.int p5)] maxLocals)) t := fun t k => pre0 t (by
    show Steps p.tables e below (s₁.setTop (mkF m 0 #[.val (.int p1), .val (.int p2), .val (.int p3), .val (.int p4), .val (.int p5), .unset, .unset, .unset] [])) _
    refine XS.iconst X0.here hx rfl (hb hby at_0) ?_
    show Steps p.tables e below (s₁.setTop (mkF m 1 #[.val (.int p1), .val (.int p2), .val (.int p3), .val (.int p4), .val (.int p5), .unset, .unset, .unset] [(.int (5 : Int32))])) _
    refine st1 _ ?_
    show Steps p.tables e below (T1.setTop (mkF m 3 #[.val (.int p1), .val (.int p2), .val (.int p3), .val (.int p4), .val (.int p5), .unset, .unset, .unset] [(.ref b1)])) _
    refine XS.astore X1.here hx rfl (hb hby at_3) rfl rfl (l' := #[.val (.int p1), .val (.int p2), .val (.int p3), .val (.int p4), .val (.int p5), .val (.ref b1), .unset, .unset]) rfl ?_
    show Steps p.tables e below (T1.setTop (mkF m 5 #[.val (.int p1), .val (.int p2), .val (.int p3), .val (.int p4), .val (.int p5), .val (.ref b1), .unset, .unset] [])) _
    refine XS.aload X1.here hx rfl (hb hby at_5) rfl rfl ?_
    show Steps p.tables e below (T1.setTop (mkF m 7 #[.val (.int p1), .val (.int p2), .val (.int p3), .val (.int p4), .val (.int p5), .val (.ref b1), .unset, .unset] [(.ref b1)])) _
    refine XS.iconst X1.here hx rfl (hb hby at_7) ?_
    show Steps p.tables e below (T1.setTop (mkF m 8 #[.val (.int p1), .val (.int p2), .val (.int p3), .val (.int p4), .val (.int p5), .val (.ref b1), .unset, .unset] [(.int (0 : Int32)), (.ref b1)])) _
    refine XS.iloadN X1.here hx rfl (hb hby at_8) rfl ?_
    show Steps p.tables e below (T1.setTop (mkF m 9 #[.val (.int p1), .val (.int p2), .val (.int p3), .val (.int p4), .val (.int p5), .val (.ref b1), .unset, .unset] [(.int p1), (.int (0 : Int32)), (.ref b1)])) _
    refine XS.bipush X1.here hx rfl (hb hby at_9) ?_
    show Steps p.tables e below (T1.setTop (mkF m 11 #[.val (.int p1), .val (.int p2), .val (.int p3), .val (.int p4), .val (.int p5), .val (.ref b1), .unset, .unset] [(.int (85 : Int32)), (.int p1), (.int (0 : Int32)), (.ref b1)])) _
    refine st2 _ ?_
    show Steps p.tables e below (T2.setTop (mkF m 14 #[.val (.int p1), .val (.int p2), .val (.int p3), .val (.int p4), .val (.int p5), .val (.ref b1), .unset, .unset] [(.int (f1 p1 (85 : Int32))), (.int (0 : Int32)), (.ref b1)])) _
    refine st3 _ ?_
    show Steps p.tables e below (T3.setTop (mkF m 15 #[.val (.int p1), .val (.int p2), .val (.int p3), .val (.int p4), .val (.int p5), .val (.ref b1), .unset, .unset] [])) _
    refine XS.aload X3.here hx rfl (hb hby at_15) rfl rfl ?_
    show Steps p.tables e below (T3.setTop (mkF m 17 #[.val (.int p1), .val (.int p2), .val (.int p3), .val (.int p4), .val (.int p5), .val (.ref b1), .unset, .unset] [(.ref b1)])) _
    refine XS.iconst X3.here hx rfl (hb hby at_17) ?_
    show Steps p.tables e below (T3.setTop (mkF m 18 #[.val (.int p1), .val (.int p2), .val (.int p3), .val (.int p4), .val (.int p5), .val (.ref b1), .unset, .unset] [(.int (1 : Int32)), (.ref b1)])) _
    refine XS.iloadN X3.here hx rfl (hb hby at_18) rfl ?_
    show Steps p.tables e below (T3.setTop (mkF m 19 #[.val (.int p1), .val (.int p2), .val (.int p3), .val (.int p4), .val (.int p5), .val (.ref b1), .unset, .unset] [(.int p2), (.int (1 : Int32)), (.ref b1)])) _
    refine XS.bipush X3.here hx rfl (hb hby at_19) ?_
    show Steps p.tables e below (T3.setTop (mkF m 21 #[.val (.int p1), .val (.int p2), .val (.int p3), .val (.int p4), .val (.int p5), .val (.ref b1), .unset, .unset] [(.int (78 : Int32)), (.int p2), (.int (1 : Int32)), (.ref b1)])) _
    refine st5 _ ?_
    show Steps p.tables e below (T5.setTop (mkF m 24 #[.val (.int p1), .val (.int p2), .val (.int p3), .val (.int p4), .val (.int p5), .val (.ref b1), .unset, .unset] [(.int (f1 p2 (78 : Int32))), (.int (1 : Int32)), (.ref b1)])) _
    refine st6 _ ?_
    show Steps p.tables e below (T6.setTop (mkF m 25 #[.val (.int p1), .val (.int p2), .val (.int p3), .val (.int p4), .val (.int p5), .val (.ref b1), .unset, .unset] [])) _
    refine XS.aload X6.here hx rfl (hb hby at_25) rfl rfl ?_
    show Steps p.tables e below (T6.setTop (mkF m 27 #[.val (.int p1), .val (.int p2), .val (.int p3), .val (.int p4), .val (.int p5), .val (.ref b1), .unset, .unset] [(.ref b1)])) _
    refine XS.iconst X6.here hx rfl (hb hby at_27) ?_
    show Steps p.tables e below (T6.setTop (mkF m 28 #[.val (.int p1), .val (.int p2), .val (.int p3), .val (.int p4), .val (.int p5), .val (.ref b1), .unset, .unset] [(.int (2 : Int32)), (.ref b1)])) _
    refine XS.iloadN X6.here hx rfl (hb hby at_28) rfl ?_
    show Steps p.tables e below (T6.setTop (mkF m 29 #[.val (.int p1), .val (.int p2), .val (.int p3), .val (.int p4), .val (.int p5), .val (.ref b1), .unset, .unset] [(.int p3), (.int (2 : Int32)), (.ref b1)])) _
    refine XS.bipush X6.here hx rfl (hb hby at_29) ?_
    show Steps p.tables e below (T6.setTop (mkF m 31 #[.val (.int p1), .val (.int p2), .val (.int p3), .val (.int p4), .val (.int p5), .val (.ref b1), .unset, .unset] [(.int (65 : Int32)), (.int p3), (.int (2 : Int32)), (.ref b1)])) _
    refine st8 _ ?_
    show Steps p.tables e below (T8.setTop (mkF m 34 #[.val (.int p1), .val (.int p2), .val (.int p3), .val (.int p4), .val (.int p5), .val (.ref b1), .unset, .unset] [(.int (f1 p3 (65 : Int32))), (.int (2 : Int32)), (.ref b1)])) _
    refine st9 _ ?_
    show Steps p.tables e below (T9.setTop (mkF m 35 #[.val (.int p1), .val (.int p2), .val (.int p3), .val (.int p4), .val (.int p5), .val (.ref b1), .unset, .unset] [])) _
    refine XS.aload X9.here hx rfl (hb hby at_35) rfl rfl ?_
    show Steps p.tables e below (T9.setTop (mkF m 37 #[.val (.int p1), .val (.int p2), .val (.int p3), .val (.int p4), .val (.int p5), .val (.ref b1), .unset, .unset] [(.ref b1)])) _
    refine XS.iconst X9.here hx rfl (hb hby at_37) ?_
    show Steps p.tables e below (T9.setTop (mkF m 38 #[.val (.int p1), .val (.int p2), .val (.int p3), .val (.int p4), .val (.int p5), .val (.ref b1), .unset, .unset] [(.int (3 : Int32)), (.ref b1)])) _
    refine XS.iloadN X9.here hx rfl (hb hby at_38) rfl ?_
    show Steps p.tables e below (T9.setTop (mkF m 39 #[.val (.int p1), .val (.int p2), .val (.int p3), .val (.int p4), .val (.int p5), .val (.ref b1), .unset, .unset] [(.int p4), (.int (3 : Int32)), (.ref b1)])) _
    refine XS.i2b X9.here hx rfl (hb hby at_39) rfl ?_
    show Steps p.tables e below (T9.setTop (mkF m 40 #[.val (.int p1), .val (.int p2), .val (.int p3), .val (.int p4), .val (.int p5), .val (.ref b1), .unset, .unset] [(.int (p4.toInt8.toInt32)), (.int (3 : Int32)), (.ref b1)])) _
    refine st11 _ ?_
    show Steps p.tables e below (T11.setTop (mkF m 41 #[.val (.int p1), .val (.int p2), .val (.int p3), .val (.int p4), .val (.int p5), .val (.ref b1), .unset, .unset] [])) _
    refine XS.aload X11.here hx rfl (hb hby at_41) rfl rfl ?_
    show Steps p.tables e below (T11.setTop (mkF m 43 #[.val (.int p1), .val (.int p2), .val (.int p3), .val (.int p4), .val (.int p5), .val (.ref b1), .unset, .unset] [(.ref b1)])) _
    refine XS.iconst X11.here hx rfl (hb hby at_43) ?_
    show Steps p.tables e below (T11.setTop (mkF m 44 #[.val (.int p1), .val (.int p2), .val (.int p3), .val (.int p4), .val (.int p5), .val (.ref b1), .unset, .unset] [(.int (4 : Int32)), (.ref b1)])) _
    refine XS.iloadN X11.here hx rfl (hb hby at_44) rfl ?_
    show Steps p.tables e below (T11.setTop (mkF m 45 #[.val (.int p1), .val (.int p2), .val (.int p3), .val (.int p4), .val (.int p5), .val (.ref b1), .unset, .unset] [(.int p4), (.int (4 : Int32)), (.ref b1)])) _
    refine XS.bipush X11.here hx rfl (hb hby at_45) ?_
    show Steps p.tables e below (T11.setTop (mkF m 47 #[.val (.int p1), .val (.int p2), .val (.int p3), .val (.int p4), .val (.int p5), .val (.ref b1), .unset, .unset] [(.int (8 : Int32)), (.int p4), (.int (4 : Int32)), (.ref b1)])) _
    refine XS.ishr X11.here hx rfl (hb hby at_47) rfl ?_
    show Steps p.tables e below (T11.setTop (mkF m 48 #[.val (.int p1), .val (.int p2), .val (.int p3), .val (.int p4), .val (.int p5), .val (.ref b1), .unset, .unset] [(.int (p4 >>> ((8 : Int32) &&& 31))), (.int (4 : Int32)), (.ref b1)])) _
    refine XS.i2b X11.here hx rfl (hb hby at_48) rfl ?_
    show Steps p.tables e below (T11.setTop (mkF m 49 #[.val (.int p1), .val (.int p2), .val (.int p3), .val (.int p4), .val (.int p5), .val (.ref b1), .unset, .unset] [(.int ((p4 >>> ((8 : Int32) &&& 31)).toInt8.toInt32)), (.int (4 : Int32)), (.ref b1)])) _
    refine st13 _ ?_
    show Steps p.tables e below (T13.setTop (mkF m 50 #[.val (.int p1), .val (.int p2), .val (.int p3), .val (.int p4), .val (.int p5), .val (.ref b1), .unset, .unset] [])) _
    refine XS.iload X13.here hx rfl (hb hby at_50) rfl ?_
    show Steps p.tables e below (T13.setTop (mkF m 52 #[.val (.int p1), .val (.int p2), .val (.int p3), .val (.int p4), .val (.int p5), .val (.ref b1), .unset, .unset] [(.int p5)])) _
    refine X13.ldcInt hx hown (mvT hZ (hw _ (List.mem_of_getElem? (i := 5) rfl))) (g := (mkF m 52 #[.val (.int p1), .val (.int p2), .val (.int p3), .val (.int p4), .val (.int p5), .val (.ref b1), .unset, .unset] [(.int p5)])) rfl (hb hby at_52) _ ?_
    show Steps p.tables e below (T13.setTop (mkF m 54 #[.val (.int p1), .val (.int p2), .val (.int p3), .val (.int p4), .val (.int p5), .val (.ref b1), .unset, .unset] [(.int (2147483647 : Int32)), (.int p5)])) _
    refine XS.iand X13.here hx rfl (hb hby at_54) rfl ?_
    show Steps p.tables e below (T13.setTop (mkF m 55 #[.val (.int p1), .val (.int p2), .val (.int p3), .val (.int p4), .val (.int p5), .val (.ref b1), .unset, .unset] [(.int (p5 &&& (2147483647 : Int32)))])) _
    refine XS.bipush X13.here hx rfl (hb hby at_55) ?_
    show Steps p.tables e below (T13.setTop (mkF m 57 #[.val (.int p1), .val (.int p2), .val (.int p3), .val (.int p4), .val (.int p5), .val (.ref b1), .unset, .unset] [(.int (6 : Int32)), (.int (p5 &&& (2147483647 : Int32)))])) _
    refine iremM X13 hx rfl (hb hby at_57) rfl (by decide) ?_
    show Steps p.tables e below (T13.setTop (mkF m 58 #[.val (.int p1), .val (.int p2), .val (.int p3), .val (.int p4), .val (.int p5), .val (.ref b1), .unset, .unset] [(.int ((p5 &&& (2147483647 : Int32)) % (6 : Int32)))])) _
    refine XS.istore X13.here hx rfl (hb hby at_58) rfl (l' := #[.val (.int p1), .val (.int p2), .val (.int p3), .val (.int p4), .val (.int p5), .val (.ref b1), .val (.int ((p5 &&& (2147483647 : Int32)) % (6 : Int32))), .unset]) rfl ?_
    show Steps p.tables e below (T13.setTop (mkF m 60 #[.val (.int p1), .val (.int p2), .val (.int p3), .val (.int p4), .val (.int p5), .val (.ref b1), .val (.int ((p5 &&& (2147483647 : Int32)) % (6 : Int32))), .unset] [])) _
    refine XS.iload X13.here hx rfl (hb hby at_60) rfl ?_
    show Steps p.tables e below (T13.setTop (mkF m 62 #[.val (.int p1), .val (.int p2), .val (.int p3), .val (.int p4), .val (.int p5), .val (.ref b1), .val (.int ((p5 &&& (2147483647 : Int32)) % (6 : Int32))), .unset] [(.int ((p5 &&& (2147483647 : Int32)) % (6 : Int32)))])) _
    refine XS.iconst X13.here hx rfl (hb hby at_62) ?_
    show Steps p.tables e below (T13.setTop (mkF m 63 #[.val (.int p1), .val (.int p2), .val (.int p3), .val (.int p4), .val (.int p5), .val (.ref b1), .val (.int ((p5 &&& (2147483647 : Int32)) % (6 : Int32))), .unset] [(.int (3 : Int32)), (.int ((p5 &&& (2147483647 : Int32)) % (6 : Int32)))])) _
    by_cases hc16 : ((p5 &&& (2147483647 : Int32)) % (6 : Int32)) < (3 : Int32)
    · refine XS.icmpNo X13.here hx rfl (hb hby at_63) rfl (tlt hc16).2.1 ?_
      show Steps p.tables e below (T13.setTop (mkF m 66 #[.val (.int p1), .val (.int p2), .val (.int p3), .val (.int p4), .val (.int p5), .val (.ref b1), .val (.int ((p5 &&& (2147483647 : Int32)) % (6 : Int32))), .unset] [])) _
      refine XS.iconst X13.here hx rfl (hb hby at_66) ?_
      show Steps p.tables e below (T13.setTop (mkF m 67 #[.val (.int p1), .val (.int p2), .val (.int p3), .val (.int p4), .val (.int p5), .val (.ref b1), .val (.int ((p5 &&& (2147483647 : Int32)) % (6 : Int32))), .unset] [(.int (0 : Int32))])) _
      refine XS.istore X13.here hx rfl (hb hby at_67) rfl (l' := #[.val (.int p1), .val (.int p2), .val (.int p3), .val (.int p4), .val (.int p5), .val (.ref b1), .val (.int ((p5 &&& (2147483647 : Int32)) % (6 : Int32))), .val (.int (0 : Int32))]) rfl ?_
      show Steps p.tables e below (T13.setTop (mkF m 69 #[.val (.int p1), .val (.int p2), .val (.int p3), .val (.int p4), .val (.int p5), .val (.ref b1), .val (.int ((p5 &&& (2147483647 : Int32)) % (6 : Int32))), .val (.int (0 : Int32))] [])) _
      refine XS.goto X13.here hx rfl (pc0 := 69) (pc' := 120) rfl (hb hby at_69) (by decide) (by decide) ?_
      rw [show v20 = (0 : Int32) from hv20.trans (if_pos hc16)] at k
      exact k
    · refine XS.icmpYes X13.here hx rfl (pc0 := 63) (pc' := 72) rfl (hb hby at_63) rfl (flt hc16).2.1 (by decide) (by decide) ?_
      show Steps p.tables e below (T13.setTop (mkF m 72 #[.val (.int p1), .val (.int p2), .val (.int p3), .val (.int p4), .val (.int p5), .val (.ref b1), .val (.int ((p5 &&& (2147483647 : Int32)) % (6 : Int32))), .unset] [])) _
      refine XS.aload X13.here hx rfl (hb hby at_72) rfl rfl ?_
      show Steps p.tables e below (T13.setTop (mkF m 74 #[.val (.int p1), .val (.int p2), .val (.int p3), .val (.int p4), .val (.int p5), .val (.ref b1), .val (.int ((p5 &&& (2147483647 : Int32)) % (6 : Int32))), .unset] [(.ref b1)])) _
      refine XS.iconst X13.here hx rfl (hb hby at_74) ?_
      show Steps p.tables e below (T13.setTop (mkF m 75 #[.val (.int p1), .val (.int p2), .val (.int p3), .val (.int p4), .val (.int p5), .val (.ref b1), .val (.int ((p5 &&& (2147483647 : Int32)) % (6 : Int32))), .unset] [(.int (0 : Int32)), (.ref b1)])) _
      refine X13.baloadBytes hx (j := (0 : Int32)) (v := (.int (y13 (0 : Int32)))) (by rw [e13]; exact Ar15.1) (State.isArrayOf_alike hZ.alike Ar15.2.1) Ar15.2.2 (inb_of Sz15 ⟨by decide, by decide⟩) (Hz15 _ (inb_of Sz15 ⟨by decide, by decide⟩)) (g := (mkF m 75 #[.val (.int p1), .val (.int p2), .val (.int p3), .val (.int p4), .val (.int p5), .val (.ref b1), .val (.int ((p5 &&& (2147483647 : Int32)) % (6 : Int32))), .unset] [(.int (0 : Int32)), (.ref b1)])) rfl rfl (hb hby at_75) _ ?_
      show Steps p.tables e below (T13.setTop (mkF m 76 #[.val (.int p1), .val (.int p2), .val (.int p3), .val (.int p4), .val (.int p5), .val (.ref b1), .val (.int ((p5 &&& (2147483647 : Int32)) % (6 : Int32))), .unset] [(.int (y13 (0 : Int32)))])) _
      refine XS.bipush X13.here hx rfl (hb hby at_76) ?_
      show Steps p.tables e below (T13.setTop (mkF m 78 #[.val (.int p1), .val (.int p2), .val (.int p3), .val (.int p4), .val (.int p5), .val (.ref b1), .val (.int ((p5 &&& (2147483647 : Int32)) % (6 : Int32))), .unset] [(.int (85 : Int32)), (.int (y13 (0 : Int32)))])) _
      by_cases hc17 : (y13 (0 : Int32)) = (85 : Int32)
      · refine XS.icmpYes X13.here hx rfl (pc0 := 78) (pc' := 87) rfl (hb hby at_78) rfl (teq hc17).1 (by decide) (by decide) ?_
        show Steps p.tables e below (T13.setTop (mkF m 87 #[.val (.int p1), .val (.int p2), .val (.int p3), .val (.int p4), .val (.int p5), .val (.ref b1), .val (.int ((p5 &&& (2147483647 : Int32)) % (6 : Int32))), .unset] [])) _
        refine XS.aload X13.here hx rfl (hb hby at_87) rfl rfl ?_
        show Steps p.tables e below (T13.setTop (mkF m 89 #[.val (.int p1), .val (.int p2), .val (.int p3), .val (.int p4), .val (.int p5), .val (.ref b1), .val (.int ((p5 &&& (2147483647 : Int32)) % (6 : Int32))), .unset] [(.ref b1)])) _
        refine XS.iconst X13.here hx rfl (hb hby at_89) ?_
        show Steps p.tables e below (T13.setTop (mkF m 90 #[.val (.int p1), .val (.int p2), .val (.int p3), .val (.int p4), .val (.int p5), .val (.ref b1), .val (.int ((p5 &&& (2147483647 : Int32)) % (6 : Int32))), .unset] [(.int (1 : Int32)), (.ref b1)])) _
        refine X13.baloadBytes hx (j := (1 : Int32)) (v := (.int (y13 (1 : Int32)))) (by rw [e13]; exact Ar15.1) (State.isArrayOf_alike hZ.alike Ar15.2.1) Ar15.2.2 (inb_of Sz15 ⟨by decide, by decide⟩) (Hz15 _ (inb_of Sz15 ⟨by decide, by decide⟩)) (g := (mkF m 90 #[.val (.int p1), .val (.int p2), .val (.int p3), .val (.int p4), .val (.int p5), .val (.ref b1), .val (.int ((p5 &&& (2147483647 : Int32)) % (6 : Int32))), .unset] [(.int (1 : Int32)), (.ref b1)])) rfl rfl (hb hby at_90) _ ?_
        show Steps p.tables e below (T13.setTop (mkF m 91 #[.val (.int p1), .val (.int p2), .val (.int p3), .val (.int p4), .val (.int p5), .val (.ref b1), .val (.int ((p5 &&& (2147483647 : Int32)) % (6 : Int32))), .unset] [(.int (y13 (1 : Int32)))])) _
        refine XS.bipush X13.here hx rfl (hb hby at_91) ?_
        show Steps p.tables e below (T13.setTop (mkF m 93 #[.val (.int p1), .val (.int p2), .val (.int p3), .val (.int p4), .val (.int p5), .val (.ref b1), .val (.int ((p5 &&& (2147483647 : Int32)) % (6 : Int32))), .unset] [(.int (78 : Int32)), (.int (y13 (1 : Int32)))])) _
        by_cases hc18 : (y13 (1 : Int32)) = (78 : Int32)
        · refine XS.icmpYes X13.here hx rfl (pc0 := 93) (pc' := 102) rfl (hb hby at_93) rfl (teq hc18).1 (by decide) (by decide) ?_
          show Steps p.tables e below (T13.setTop (mkF m 102 #[.val (.int p1), .val (.int p2), .val (.int p3), .val (.int p4), .val (.int p5), .val (.ref b1), .val (.int ((p5 &&& (2147483647 : Int32)) % (6 : Int32))), .unset] [])) _
          refine XS.aload X13.here hx rfl (hb hby at_102) rfl rfl ?_
          show Steps p.tables e below (T13.setTop (mkF m 104 #[.val (.int p1), .val (.int p2), .val (.int p3), .val (.int p4), .val (.int p5), .val (.ref b1), .val (.int ((p5 &&& (2147483647 : Int32)) % (6 : Int32))), .unset] [(.ref b1)])) _
          refine XS.iconst X13.here hx rfl (hb hby at_104) ?_
          show Steps p.tables e below (T13.setTop (mkF m 105 #[.val (.int p1), .val (.int p2), .val (.int p3), .val (.int p4), .val (.int p5), .val (.ref b1), .val (.int ((p5 &&& (2147483647 : Int32)) % (6 : Int32))), .unset] [(.int (2 : Int32)), (.ref b1)])) _
          refine X13.baloadBytes hx (j := (2 : Int32)) (v := (.int (y13 (2 : Int32)))) (by rw [e13]; exact Ar15.1) (State.isArrayOf_alike hZ.alike Ar15.2.1) Ar15.2.2 (inb_of Sz15 ⟨by decide, by decide⟩) (Hz15 _ (inb_of Sz15 ⟨by decide, by decide⟩)) (g := (mkF m 105 #[.val (.int p1), .val (.int p2), .val (.int p3), .val (.int p4), .val (.int p5), .val (.ref b1), .val (.int ((p5 &&& (2147483647 : Int32)) % (6 : Int32))), .unset] [(.int (2 : Int32)), (.ref b1)])) rfl rfl (hb hby at_105) _ ?_
          show Steps p.tables e below (T13.setTop (mkF m 106 #[.val (.int p1), .val (.int p2), .val (.int p3), .val (.int p4), .val (.int p5), .val (.ref b1), .val (.int ((p5 &&& (2147483647 : Int32)) % (6 : Int32))), .unset] [(.int (y13 (2 : Int32)))])) _
          refine XS.bipush X13.here hx rfl (hb hby at_106) ?_
          show Steps p.tables e below (T13.setTop (mkF m 108 #[.val (.int p1), .val (.int p2), .val (.int p3), .val (.int p4), .val (.int p5), .val (.ref b1), .val (.int ((p5 &&& (2147483647 : Int32)) % (6 : Int32))), .unset] [(.int (65 : Int32)), (.int (y13 (2 : Int32)))])) _
          by_cases hc19 : (y13 (2 : Int32)) = (65 : Int32)
          · refine XS.icmpYes X13.here hx rfl (pc0 := 108) (pc' := 117) rfl (hb hby at_108) rfl (teq hc19).1 (by decide) (by decide) ?_
            show Steps p.tables e below (T13.setTop (mkF m 117 #[.val (.int p1), .val (.int p2), .val (.int p3), .val (.int p4), .val (.int p5), .val (.ref b1), .val (.int ((p5 &&& (2147483647 : Int32)) % (6 : Int32))), .unset] [])) _
            refine XS.iconst X13.here hx rfl (hb hby at_117) ?_
            show Steps p.tables e below (T13.setTop (mkF m 118 #[.val (.int p1), .val (.int p2), .val (.int p3), .val (.int p4), .val (.int p5), .val (.ref b1), .val (.int ((p5 &&& (2147483647 : Int32)) % (6 : Int32))), .unset] [(.int (1 : Int32))])) _
            refine XS.istore X13.here hx rfl (hb hby at_118) rfl (l' := #[.val (.int p1), .val (.int p2), .val (.int p3), .val (.int p4), .val (.int p5), .val (.ref b1), .val (.int ((p5 &&& (2147483647 : Int32)) % (6 : Int32))), .val (.int (1 : Int32))]) rfl ?_
            rw [show v20 = (1 : Int32) from hv20.trans ((if_neg hc16).trans ((if_pos hc17).trans ((if_pos hc18).trans (if_pos hc19))))] at k
            exact k
          · refine XS.icmpNo X13.here hx rfl (hb hby at_108) rfl (feq hc19).1 ?_
            show Steps p.tables e below (T13.setTop (mkF m 111 #[.val (.int p1), .val (.int p2), .val (.int p3), .val (.int p4), .val (.int p5), .val (.ref b1), .val (.int ((p5 &&& (2147483647 : Int32)) % (6 : Int32))), .unset] [])) _
            refine XS.iconst X13.here hx rfl (hb hby at_111) ?_
            show Steps p.tables e below (T13.setTop (mkF m 112 #[.val (.int p1), .val (.int p2), .val (.int p3), .val (.int p4), .val (.int p5), .val (.ref b1), .val (.int ((p5 &&& (2147483647 : Int32)) % (6 : Int32))), .unset] [(.int (0 : Int32))])) _
            refine XS.istore X13.here hx rfl (hb hby at_112) rfl (l' := #[.val (.int p1), .val (.int p2), .val (.int p3), .val (.int p4), .val (.int p5), .val (.ref b1), .val (.int ((p5 &&& (2147483647 : Int32)) % (6 : Int32))), .val (.int (0 : Int32))]) rfl ?_
            show Steps p.tables e below (T13.setTop (mkF m 114 #[.val (.int p1), .val (.int p2), .val (.int p3), .val (.int p4), .val (.int p5), .val (.ref b1), .val (.int ((p5 &&& (2147483647 : Int32)) % (6 : Int32))), .val (.int (0 : Int32))] [])) _
            refine XS.goto X13.here hx rfl (pc0 := 114) (pc' := 120) rfl (hb hby at_114) (by decide) (by decide) ?_
            rw [show v20 = (0 : Int32) from hv20.trans ((if_neg hc16).trans ((if_pos hc17).trans ((if_pos hc18).trans (if_neg hc19))))] at k
            exact k
        · refine XS.icmpNo X13.here hx rfl (hb hby at_93) rfl (feq hc18).1 ?_
          show Steps p.tables e below (T13.setTop (mkF m 96 #[.val (.int p1), .val (.int p2), .val (.int p3), .val (.int p4), .val (.int p5), .val (.ref b1), .val (.int ((p5 &&& (2147483647 : Int32)) % (6 : Int32))), .unset] [])) _
          refine XS.iconst X13.here hx rfl (hb hby at_96) ?_
          show Steps p.tables e below (T13.setTop (mkF m 97 #[.val (.int p1), .val (.int p2), .val (.int p3), .val (.int p4), .val (.int p5), .val (.ref b1), .val (.int ((p5 &&& (2147483647 : Int32)) % (6 : Int32))), .unset] [(.int (0 : Int32))])) _
          refine XS.istore X13.here hx rfl (hb hby at_97) rfl (l' := #[.val (.int p1), .val (.int p2), .val (.int p3), .val (.int p4), .val (.int p5), .val (.ref b1), .val (.int ((p5 &&& (2147483647 : Int32)) % (6 : Int32))), .val (.int (0 : Int32))]) rfl ?_
          show Steps p.tables e below (T13.setTop (mkF m 99 #[.val (.int p1), .val (.int p2), .val (.int p3), .val (.int p4), .val (.int p5), .val (.ref b1), .val (.int ((p5 &&& (2147483647 : Int32)) % (6 : Int32))), .val (.int (0 : Int32))] [])) _
          refine XS.goto X13.here hx rfl (pc0 := 99) (pc' := 120) rfl (hb hby at_99) (by decide) (by decide) ?_
          rw [show v20 = (0 : Int32) from hv20.trans ((if_neg hc16).trans ((if_pos hc17).trans (if_neg hc18)))] at k
          exact k
      · refine XS.icmpNo X13.here hx rfl (hb hby at_78) rfl (feq hc17).1 ?_
        show Steps p.tables e below (T13.setTop (mkF m 81 #[.val (.int p1), .val (.int p2), .val (.int p3), .val (.int p4), .val (.int p5), .val (.ref b1), .val (.int ((p5 &&& (2147483647 : Int32)) % (6 : Int32))), .unset] [])) _
        refine XS.iconst X13.here hx rfl (hb hby at_81) ?_
        show Steps p.tables e below (T13.setTop (mkF m 82 #[.val (.int p1), .val (.int p2), .val (.int p3), .val (.int p4), .val (.int p5), .val (.ref b1), .val (.int ((p5 &&& (2147483647 : Int32)) % (6 : Int32))), .unset] [(.int (0 : Int32))])) _
        refine XS.istore X13.here hx rfl (hb hby at_82) rfl (l' := #[.val (.int p1), .val (.int p2), .val (.int p3), .val (.int p4), .val (.int p5), .val (.ref b1), .val (.int ((p5 &&& (2147483647 : Int32)) % (6 : Int32))), .val (.int (0 : Int32))]) rfl ?_
        show Steps p.tables e below (T13.setTop (mkF m 84 #[.val (.int p1), .val (.int p2), .val (.int p3), .val (.int p4), .val (.int p5), .val (.ref b1), .val (.int ((p5 &&& (2147483647 : Int32)) % (6 : Int32))), .val (.int (0 : Int32))] [])) _
        refine XS.goto X13.here hx rfl (pc0 := 84) (pc' := 120) rfl (hb hby at_84) (by decide) (by decide) ?_
        rw [show v20 = (0 : Int32) from hv20.trans ((if_neg hc16).trans (if_neg hc17))] at k
        exact k)
  obtain ⟨_, _, ⟨T22, L22, k22, n22⟩, -, X22, ⟨Lc22, hQ22, l22, y22, z22⟩, st22⟩ := Jvm.LawKit.callS X13 hx (y := (⟨"com/example/sealwire/sealwire/procedure/edifact/ServiceCharacters", "startsAdvice", "([BI)Z"⟩ : MethodName)) hown (mvT hZ (hw _ (List.mem_of_getElem? (i := 6) rfl))) (mvT hZ (hw _ (List.mem_of_getElem? (i := 7) rfl))) (mvT hZ (hw _ (List.mem_of_getElem? (i := 8) rfl))) (mvT hZ (hw _ (List.mem_of_getElem? (i := 9) rfl))) (by decide) (backOf (W := 0) (rm2 l Z a0 hw [] b1 ((p5 &&& (2147483647 : Int32)) % (6 : Int32)) y13 s_ADVICE_TAG y_s h13 n0 Zs13 A_b1_13 (S_ADVICE_TAG.ext O13.2) (own_A_ext A_s_ADVICE_TAG O13.2)) hZ (hw _ (List.mem_of_getElem? (i := 9) rfl)) (hw _ (List.mem_of_getElem? (i := 8) rfl)) (by decide) (by decide)) (g := (mkF m 124 #[.val (.int p1), .val (.int p2), .val (.int p3), .val (.int p4), .val (.int p5), .val (.ref b1), .val (.int ((p5 &&& (2147483647 : Int32)) % (6 : Int32))), .val (.int v20)] [(.int ((p5 &&& (2147483647 : Int32)) % (6 : Int32))), (.ref b1)])) rfl (by rw [hml]; rfl) (argsL := [(.ref b1), (.int ((p5 &&& (2147483647 : Int32)) % (6 : Int32)))]) (rest := []) (lenOf pd_1 rfl) rfl (by show 2 * 0 + _ ≤ _; exact Nat.le_of_eq rfl) (hb hby at_124) (fun _ _ => ⟨rfl, e13, (by decide : 1 + 0 ≤ _), (by decide : 5 + 0 ≤ _)⟩)
  dsimp only [Pt.U, Pt.locs, Pt.cells, Pt.slots] at X22 l22 y22 z22 st22 hQ22
  subst l22 y22 z22
  obtain ⟨rfl, N22q, e22⟩ := hQ22
  have N22 := Fr.app N13 N22q
  obtain ⟨v24, hv24⟩ : ∃ z : Int32, z = (if (f2 ((p5 &&& (2147483647 : Int32)) % (6 : Int32)) y13 y_s) = v20 then (1 : Int32) else (0 : Int32)) := ⟨_, rfl⟩
  have pre25 : ∀ t, Steps p.tables e below (T22.setTop (mkF m 137 #[.val (.int p1), .val (.int p2), .val (.int p3), .val (.int p4), .val (.int p5), .val (.ref b1), .val (.int ((p5 &&& (2147483647 : Int32)) % (6 : Int32))), .val (.int v20)] [(.int v24)])) t → Steps p.tables e below (s₁.setTop (entryFrame m #[(.int p1), (.int p2), (.int p3), (.int p4), (.int p5)] maxLocals)) t := fun t k => pre21 t (by
    show Steps p.tables e below (T13.setTop (mkF m 120 #[.val (.int p1), .val (.int p2), .val (.int p3), .val (.int p4), .val (.int p5), .val (.ref b1), .val (.int ((p5 &&& (2147483647 : Int32)) % (6 : Int32))), .val (.int v20)] [])) _
    refine XS.aload X13.here hx rfl (hb hby at_120) rfl rfl ?_
    show Steps p.tables e below (T13.setTop (mkF m 122 #[.val (.int p1), .val (.int p2), .val (.int p3), .val (.int p4), .val (.int p5), .val (.ref b1), .val (.int ((p5 &&& (2147483647 : Int32)) % (6 : Int32))), .val (.int v20)] [(.ref b1)])) _
    refine XS.iload X13.here hx rfl (hb hby at_122) rfl ?_
    show Steps p.tables e below (T13.setTop (mkF m 124 #[.val (.int p1), .val (.int p2), .val (.int p3), .val (.int p4), .val (.int p5), .val (.ref b1), .val (.int ((p5 &&& (2147483647 : Int32)) % (6 : Int32))), .val (.int v20)] [(.int ((p5 &&& (2147483647 : Int32)) % (6 : Int32))), (.ref b1)])) _
    refine st22 _ ?_
    show Steps p.tables e below (T22.setTop (mkF m 127 #[.val (.int p1), .val (.int p2), .val (.int p3), .val (.int p4), .val (.int p5), .val (.ref b1), .val (.int ((p5 &&& (2147483647 : Int32)) % (6 : Int32))), .val (.int v20)] [(.int (f2 ((p5 &&& (2147483647 : Int32)) % (6 : Int32)) y13 y_s))])) _
    refine XS.iload X22.here hx rfl (hb hby at_127) rfl ?_
    show Steps p.tables e below (T22.setTop (mkF m 129 #[.val (.int p1), .val (.int p2), .val (.int p3), .val (.int p4), .val (.int p5), .val (.ref b1), .val (.int ((p5 &&& (2147483647 : Int32)) % (6 : Int32))), .val (.int v20)] [(.int v20), (.int (f2 ((p5 &&& (2147483647 : Int32)) % (6 : Int32)) y13 y_s))])) _
    by_cases hc23 : (f2 ((p5 &&& (2147483647 : Int32)) % (6 : Int32)) y13 y_s) = v20
    · refine XS.icmpNo X22.here hx rfl (hb hby at_129) rfl (teq hc23).2 ?_
      show Steps p.tables e below (T22.setTop (mkF m 132 #[.val (.int p1), .val (.int p2), .val (.int p3), .val (.int p4), .val (.int p5), .val (.ref b1), .val (.int ((p5 &&& (2147483647 : Int32)) % (6 : Int32))), .val (.int v20)] [])) _
      refine XS.iconst X22.here hx rfl (hb hby at_132) ?_
      show Steps p.tables e below (T22.setTop (mkF m 133 #[.val (.int p1), .val (.int p2), .val (.int p3), .val (.int p4), .val (.int p5), .val (.ref b1), .val (.int ((p5 &&& (2147483647 : Int32)) % (6 : Int32))), .val (.int v20)] [(.int (1 : Int32))])) _
      refine XS.goto X22.here hx rfl (pc0 := 133) (pc' := 137) rfl (hb hby at_133) (by decide) (by decide) ?_
      rw [show v24 = (1 : Int32) from hv24.trans (if_pos hc23)] at k
      exact k
    · refine XS.icmpYes X22.here hx rfl (pc0 := 129) (pc' := 136) rfl (hb hby at_129) rfl (feq hc23).2 (by decide) (by decide) ?_
      show Steps p.tables e below (T22.setTop (mkF m 136 #[.val (.int p1), .val (.int p2), .val (.int p3), .val (.int p4), .val (.int p5), .val (.ref b1), .val (.int ((p5 &&& (2147483647 : Int32)) % (6 : Int32))), .val (.int v20)] [])) _
      refine XS.iconst X22.here hx rfl (hb hby at_136) ?_
      rw [show v24 = (0 : Int32) from hv24.trans (if_neg hc23)] at k
      exact k)
  have er : (f0 p1 p2 p3 p4 p5 y_s) = (nar .boolean v24) := by subst hy3 hy6 hy9 hy11 hy13 hv20 hv24; exact rfl
  obtain ⟨fs, hr, hrun, hended, hW, hsame⟩ := X22.leave (v := some (.int (nar .boolean v24))) (fun h => by rw [Bd.returns] at h; cases h)
  refine ⟨_, _, pre25 _ ?_, hrun, hended, _, _, rfl, ?_, ⟨_, rfl⟩, hW, hsame.mono (by decide) (by decide)⟩
  · show Steps p.tables e below (T22.setTop (mkF m 137 #[.val (.int p1), .val (.int p2), .val (.int p3), .val (.int p4), .val (.int p5), .val (.ref b1), .val (.int ((p5 &&& (2147483647 : Int32)) % (6 : Int32))), .val (.int v20)] [(.int v24)])) _
    exact retN X22 hx (t := .boolean) Bd.returns (by simp) (hb hby at_137) hr
  · show Q0 Z p1 p2 p3 p4 p5 s_ADVICE_TAG y_s h0 n0 _ T22.heap _
    rw [e22]
    exact ⟨congrArg (fun z => some (Value.int z)) er.symm, N22, trivial⟩
theorem own_elem {args : Array Value} {s : State} {t : Term} {a : Addr} {cl : Cell} {k z : Int32} (A : Arr s s.heap a cl .byte) (ev : t.eval args s none [] s = some (.ref a)) (h : (Jvm.Cond.eq (.elem t (.int k)) (.int z)).value args s none s [] = some true) : atv cl k = z := by
  obtain ⟨u, w, e1, e2, k1, k2⟩ := cmp_v (Or.inl h)
  have ew : w = .int z := Option.some.inj (e2.symm.trans (Term.int_eval z))
  subst ew
  obtain ⟨z', rfl⟩ : ∃ z', u = .int z' := k2
  have hz : z' = z := by simpa [Cond.value, e1, e2] using h
  subst hz
  exact atv_of (elem_in e1 ev (Term.int_eval k) A.1).2
theorem own_tab {args : Array Value} {s : State} {t : Term} {a : Addr} (hf : Fit s) (ev : t.eval args s none [] s = some (.ref a)) (hx : (Jvm.Cond.arrayOf t .byte).value args s none s [] = some true) (hl : (Jvm.Cond.eq (.length t) (.int 3)).value args s none s [] = some true) : ∃ cl, Tab s s.heap a cl .byte 3 := by
  obtain ⟨cl, A⟩ := Arr.start ev hx
  obtain ⟨u, w, e1, e2, k1, k2⟩ := cmp_v (Or.inl hl)
  have ew : w = .int 3 := Option.some.inj (e2.symm.trans (Term.int_eval 3))
  subst ew
  obtain ⟨z', rfl⟩ : ∃ z', u = .int z' := k2
  have hz : z' = 3 := by simpa [Cond.value, e1, e2] using hl
  subst hz
  have hA : s.arrayAt? a = some cl := Arr.fin (Vm.Alike.refl _) A
  have hs : cl.slots.size < 2 ^ 31 := by
    apply Nat.lt_of_not_le; intro q
    simp [Term.eval, ev, hA, Nat.not_lt.mpr q] at e1
  have h3 : cl.slots.size.toInt32 = 3 := by
    rw [len_f ev hA hs] at e1
    exact Value.int.inj (Option.some.inj e1)
  exact ⟨cl, Tab.start hf A (by simp) hs h3 (by decide)⟩
theorem own_A_tab {Z : State} {h : Heap} {a : Addr} {cl : Cell} {ty : FieldType} {n : Int32} (F : Tab Z h a cl ty n) : own_A Z h a ty n (fun i => .int (atv cl i)) := ⟨cl, F.1, F.2.1, F.2.2.1, F.2.2.2⟩

theorem own_core (L : Int32) (y y_s : Int32 → Int32) (h0 : y_s 0 = 85) (h1 : y_s 1 = 78) (h2 : y_s 2 = 65) : f2 L y y_s = (if L < (3 : Int32) then (0 : Int32) else (if (y (0 : Int32)) = (85 : Int32) then (if (y (1 : Int32)) = (78 : Int32) then (if (y (2 : Int32)) = (65 : Int32) then (1 : Int32) else (0 : Int32)) else (0 : Int32)) else (0 : Int32))) := by
  unfold f2
  rw [h0, h1, h2]
  by_cases c : L < (3 : Int32)
  · rw [if_pos c, if_pos c]
  · rw [if_neg c, if_neg c]
    by_cases c0 : (y (0 : Int32)) = (85 : Int32)
    · rw [if_pos c0, if_pos c0]
      by_cases c1 : (y (1 : Int32)) = (78 : Int32)
      · rw [if_pos c1, if_pos c1]
        by_cases c2 : (y (2 : Int32)) = (65 : Int32)
        · rw [if_pos c2]; decide
        · rw [if_neg c2]; decide
      · rw [if_neg c1, if_neg c1]
    · rw [if_neg c0, if_neg c0]
theorem own_law (p1 p2 p3 p4 p5 : Int32) (y_s : Int32 → Int32) (h0 : y_s 0 = 85) (h1 : y_s 1 = 78) (h2 : y_s 2 = 65) : f0 p1 p2 p3 p4 p5 y_s = 1 := by
  unfold f0
  exact (congrArg (nar .boolean) (if_pos (own_core _ _ _ h0 h1 h2))).trans (by decide)
set_option maxRecDepth 65536 in
set_option maxHeartbeats 40000000 in
theorem comes_1 {Post : Tables → Env → Array Value → State → Outcome → State → Prop} (hpost : ∀ tb e args s v u, (limb_1_1.after args s (.returned v) u = true ∧ limb_1_2.after args s (.returned v) u = true ∧ True) → FrameEnd s (.returned v) u (Jvm.fieldLocs frame_1_writes args s ++ Jvm.arrayLocs frame_1_arrays args s ++ Jvm.staticLocs frame_1_statics s) 16 128 → Post tb e args s (.returned v) u) :
    ArmFor flags0 classFile x code maxLocals ret World_1 tables_1 room_1 Calls_1 rest_1 Pre_1 Post := by
  intro l hfl _ _ p e ha hc hk s m args below hf hA hF happ hP
  obtain ⟨hcalls, hrest, hpre⟩ := hP
  obtain ⟨-, -, -, hnamed, -, -, -, hat⟩ := (Spec.applies_iff hf).mp happ
  obtain ⟨hg, hn⟩ := and_e (Cond.before_iff.mp (show (Jvm.Cond.and given_1 narrow_1).before args s = true from hpre))
  obtain ⟨g1, g2⟩ := and_e hg
  obtain ⟨g3, g4⟩ := and_e g2
  obtain ⟨g5, g6⟩ := and_e g4
  obtain ⟨g7, g8⟩ := and_e g6
  obtain ⟨g9, g10⟩ := and_e g8
  obtain ⟨w0, w1, w2, w3, w4, rfl⟩ : ∃ w0 w1 w2 w3 w4 : Value, args = #[w0, w1, w2, w3, w4] := by
    have hs : args.size = 5 := by simpa [Cond.value, given_1] using g1
    obtain ⟨L⟩ := args
    match L, hs with
    | [w0, w1, w2, w3, w4], _ => exact ⟨w0, w1, w2, w3, w4, rfl⟩
  have hw := fun d (hd : d ∈ tables_1) => atoms_spec (ws := Jvm.Cond.code x code maxLocals ret :: tables_1) hat d (List.mem_cons_of_mem _ hd)
  obtain ⟨i0, ei0⟩ := is_v g3
  obtain rfl : w0 = (.int i0) := Option.some.inj ei0
  obtain ⟨i1, ei1⟩ := is_v g5
  obtain rfl : w1 = (.int i1) := Option.some.inj ei1
  obtain ⟨i2, ei2⟩ := is_v g7
  obtain rfl : w2 = (.int i2) := Option.some.inj ei2
  obtain ⟨i3, ei3⟩ := is_v g9
  obtain rfl : w3 = (.int i3) := Option.some.inj ei3
  obtain ⟨i4, ei4⟩ := is_v g10
  obtain rfl : w4 = (.int i4) := Option.some.inj ei4
  have hfit : Fit s := fun {y c} hc i hi => by
    obtain ⟨ha, rfl⟩ := Array.getElem?_eq_some_iff.mp hc
    have q := List.all_eq_true.mp ((Array.all_eq_true_iff_forall_mem.mp hF) _ (Array.getElem_mem ha)) i (List.mem_range.mpr hi)
    simpa [Array.getElem?_eq_getElem hi] using q
  obtain ⟨n1, n2⟩ := and_e hn
  obtain ⟨n3, n4⟩ := and_e n2
  obtain ⟨n5, n6⟩ := and_e n4
  obtain ⟨n7, n8⟩ := and_e n6
  obtain ⟨sA, ev⟩ := arr_v n1
  have hS := Sta.start ev (Or.inr ⟨(hw _ (List.mem_of_getElem? (i := 8) rfl)), (hw _ (List.mem_of_getElem? (i := 11) rfl))⟩)
  obtain ⟨cl, hT⟩ := own_tab hfit ev n1 n3
  have hA := own_A_tab hT
  have q0 := own_elem hT.1 ev n5
  have q1 := own_elem hT.1 ev n7
  have q2 := own_elem hT.1 ev n8
  obtain ⟨n, o, h1, h2, h3, _, L, rfl, ⟨rfl, N, -⟩, hq⟩ := rm0 l s _ hw tables_1 i0 i1 i2 i3 i4 sA (atv cl) s.heap s.heap.size (Nat.le_refl _) hS hA (Old.start s) p e ha hc hk s m _ below hf ((Spec.applies_iff_loose hf).mp happ).1 ⟨rfl, State.Warmed39.refl s, rfl⟩ trivial
  refine ⟨n, _, h1, h2, h3, hpost _ _ _ _ _ _ ⟨Cond.after_iff.mpr rfl, Cond.after_iff.mpr (eq_i res_at (Term.int_eval (1)) (congrArg Value.int (own_law i0 i1 i2 i3 i4 (atv cl) q0 q1 q2))), trivial⟩ ⟨hq.1, hq.2.1, (hq.2.2.sift fun y hy => Or.inr (N y hy)).mono (by decide) (by decide)⟩⟩
theorem main_1_1 : Claimed_1_1 := comes_1 fun _ _ _ _ _ _ h hF => ⟨h.1, hF⟩
theorem main_1_2 : Claimed_1_2 := comes_1 fun _ _ _ _ _ _ h hF => ⟨h.2.1, hF⟩
end Jvm.Pilot.@@N@@
namespace Jvm.Pilot.@@N@@
open Jvm Jvm.ClassFile Sem Op Lib Jvm.Free Jvm.Stand Jvm.Pilot.@@N@@.Jvm.D
/-! MADE BY PROGRAM (witnessworld.py) out of the Statement's table words and the real class files: 9 classes; the members and pool entries that the words name. The judged class is class 1, her method 1. -/
namespace start1
open Jvm.ClassFile
def u (s : String) : CpInfo := .utf8 (stringToUtf16 s)
/-- a pool by its gaps: so many unusable entries, then the entry; so many at the end -/
def gap : Nat → List CpInfo → List CpInfo
  | 0, r => r
  | n + 1, r => .unusable :: gap n r
def poolList (es : List (Nat × CpInfo)) (last : Nat) : List CpInfo := es.foldr (fun e r => gap e.1 (e.2 :: r)) (gap last [])
def pool (es : List (Nat × CpInfo)) (last : Nat) : Array CpInfo := ⟨poolList es last⟩
def fileOf (pool : Array CpInfo) (this : Nat) (attrs : Array Attribute := #[]) (ms : Array MethodInfo := #[]) (fl : Nat := 33) (sup : Nat := 0) (ifs : Array Nat := #[]) (fds : Array FieldInfo := #[]) : ClassFile where
  minorVersion := 0
  majorVersion := 65
  constantPool := pool
  accessFlags := fl
  thisClass := this
  superClass := sup
  interfaces := ifs
  fields := fds
  methods := ms
  attributes := attrs
def plain (name : String) (sup : Option ClassId) : Class where
  name := name
  kind := .ordinary
  loader := none
  accessFlags := 33
  super := sup
  interfaces := #[]
  cf := none
  fields := #[]
  methods := #[]
  instanceTypes := #[]
  staticTypes := #[]
  resolved := #[]
  callSites := []
  init := .initialized
  statics := none
  mirror := none

def pool0 : Array CpInfo := pool [(5, u "<init>"), (0, u "()V"), (1, .class_ 10), (1, u "java/lang/Object")] 113

def k0m0 : Method := { name := "<init>", desc := "()V", sig := { parameters := [], returnType := none }, accessFlags := 1, code := none }
/-- java/lang/Object -/
def k0 : Class := { plain "java/lang/Object" none with
  accessFlags := 33
  interfaces := #[]
  cf := some (fileOf pool0 8 #[] #[{ accessFlags := 1, nameIndex := 5, descriptorIndex := 6, attributes := #[] }] 33 0 #[] #[])
  fields := #[]
  methods := #[k0m0]
  instanceTypes := #[]
  staticTypes := #[]
  resolved := Array.replicate 124 none
  statics := none }

def pool1 : Array CpInfo := pool [(2, .class_ 4), (1, u "java/lang/Object"), (0, u "<init>"), (0, u "()V"), (0, .methodref 8 9), (0, .class_ 10), (0, .nameAndType 11 12), (0, u "com/example/sealwire/sealwire/procedure/edifact/ServiceCharactersStartsAdvicePinLaw"), (0, u "pick"), (0, u "(IB)B"), (0, .integer 2147483647), (0, .methodref 15 16), (0, .class_ 17), (0, .nameAndType 18 19), (0, u "com/example/sealwire/sealwire/procedure/edifact/ServiceCharacters"), (0, u "startsAdvice"), (0, u "([BI)Z"), (2, u "law"), (0, u "(IIIII)Z")] 5

def k1m0 : Method := { name := "<init>", desc := "()V", sig := { parameters := [], returnType := none }, accessFlags := 1, code := none }
def k1c1 : Code := { maxStack := 4, maxLocals := 8, code := code, exceptionTable := #[], attributes := #[] }
def k1m1 : Method := { name := "law", desc := "(IIIII)Z", sig := { parameters := [.int, .int, .int, .int, .int], returnType := some .boolean }, accessFlags := 9, code := some k1c1 }
def k1c2 : Code := { maxStack := 2, maxLocals := 2, code := method_3_code, exceptionTable := #[], attributes := #[] }
def k1m2 : Method := { name := "pick", desc := "(IB)B", sig := { parameters := [.int, .byte], returnType := some .byte }, accessFlags := 10, code := some k1c2 }
/-- com/example/sealwire/sealwire/procedure/edifact/ServiceCharactersStartsAdvicePinLaw -/
def k1 : Class := { plain "com/example/sealwire/sealwire/procedure/edifact/ServiceCharactersStartsAdvicePinLaw" (some 0) with
  accessFlags := 49
  interfaces := #[]
  cf := some (fileOf pool1 8 #[] #[{ accessFlags := 1, nameIndex := 5, descriptorIndex := 6, attributes := #[] }, { accessFlags := 9, nameIndex := 22, descriptorIndex := 23, attributes := #[] }, { accessFlags := 10, nameIndex := 11, descriptorIndex := 12, attributes := #[] }] 49 2 #[] #[])
  fields := #[]
  methods := #[k1m0, k1m1, k1m2]
  instanceTypes := #[]
  staticTypes := #[]
  resolved := Array.replicate 29 none
  statics := none }

def pool2 : Array CpInfo := pool [(2, .class_ 4), (1, u "java/lang/Object"), (3, .class_ 10), (1, u "com/example/sealwire/sealwire/procedure/edifact/ServiceCharacters"), (0, u "component"), (0, u "I"), (2, u "element"), (2, u "release"), (2, u "repetition"), (2, u "terminator"), (0, .fieldref 8 26), (0, .nameAndType 27 28), (0, u "ADVICE_TAG"), (0, u "[B"), (122, u "DEFAULTS"), (0, u "Lcom/example/sealwire/sealwire/procedure/edifact/ServiceCharacters;"), (0, u "ADVICE_LENGTH"), (2, u "DEFAULT_REPETITION"), (0, u "C"), (1, u "BLANK"), (3, u "startsAdvice"), (0, u "([BI)Z")] 14

def k2c0 : Code := { maxStack := 3, maxLocals := 2, code := prog_37_method_2_code, exceptionTable := #[], attributes := #[] }
def k2m0 : Method := { name := "startsAdvice", desc := "([BI)Z", sig := { parameters := [(.array .byte), .int], returnType := some .boolean }, accessFlags := 8, code := some k2c0 }
/-- com/example/sealwire/sealwire/procedure/edifact/ServiceCharacters -/
def k2 : Class := { plain "com/example/sealwire/sealwire/procedure/edifact/ServiceCharacters" (some 0) with
  accessFlags := 49
  interfaces := #[]
  cf := some (fileOf pool2 8 #[] #[{ accessFlags := 8, nameIndex := 163, descriptorIndex := 164, attributes := #[] }] 49 2 #[] #[{ accessFlags := 25, nameIndex := 153, descriptorIndex := 12, attributes := #[] }, { accessFlags := 25, nameIndex := 151, descriptorIndex := 152, attributes := #[] }, { accessFlags := 25, nameIndex := 156, descriptorIndex := 157, attributes := #[] }, { accessFlags := 26, nameIndex := 27, descriptorIndex := 28, attributes := #[] }, { accessFlags := 26, nameIndex := 159, descriptorIndex := 12, attributes := #[] }, { accessFlags := 18, nameIndex := 11, descriptorIndex := 12, attributes := #[] }, { accessFlags := 18, nameIndex := 15, descriptorIndex := 12, attributes := #[] }, { accessFlags := 18, nameIndex := 18, descriptorIndex := 12, attributes := #[] }, { accessFlags := 18, nameIndex := 21, descriptorIndex := 12, attributes := #[] }, { accessFlags := 18, nameIndex := 24, descriptorIndex := 12, attributes := #[] }])
  fields := #[{ name := "ADVICE_LENGTH", type := .int, accessFlags := 25, slot := 0, constantValue := 0 }, { name := "DEFAULTS", type := (.object "com/example/sealwire/sealwire/procedure/edifact/ServiceCharacters"), accessFlags := 25, slot := 1, constantValue := 0 }, { name := "DEFAULT_REPETITION", type := .char, accessFlags := 25, slot := 2, constantValue := 0 }, { name := "ADVICE_TAG", type := (.array .byte), accessFlags := 26, slot := 3, constantValue := 0 }, { name := "BLANK", type := .int, accessFlags := 26, slot := 4, constantValue := 0 }, { name := "component", type := .int, accessFlags := 18, slot := 0, constantValue := 0 }, { name := "element", type := .int, accessFlags := 18, slot := 1, constantValue := 0 }, { name := "release", type := .int, accessFlags := 18, slot := 2, constantValue := 0 }, { name := "repetition", type := .int, accessFlags := 18, slot := 3, constantValue := 0 }, { name := "terminator", type := .int, accessFlags := 18, slot := 4, constantValue := 0 }]
  methods := #[k2m0]
  instanceTypes := #[.int, .int, .int, .int, .int]
  staticTypes := #[.int, (.object "com/example/sealwire/sealwire/procedure/edifact/ServiceCharacters"), .char, (.array .byte), .int]
  resolved := Array.replicate 179 none
  statics := some 0 }

def pool3 : Array CpInfo := pool [(1, u "java/lang/Cloneable"), (0, .class_ 1), (0, u "java/lang/Object"), (0, .class_ 3)] 3

/-- java/lang/Cloneable -/
def k3 : Class := { plain "java/lang/Cloneable" (some 0) with
  accessFlags := 1537
  interfaces := #[]
  cf := some (fileOf pool3 2 #[] #[] 1537 4 #[] #[])
  fields := #[]
  methods := #[]
  instanceTypes := #[]
  staticTypes := #[]
  resolved := Array.replicate 8 none
  statics := none }

def pool4 : Array CpInfo := pool [(1, u "java/io/Serializable"), (0, .class_ 1), (0, u "java/lang/Object"), (0, .class_ 3)] 3

/-- java/io/Serializable -/
def k4 : Class := { plain "java/io/Serializable" (some 0) with
  accessFlags := 1537
  interfaces := #[]
  cf := some (fileOf pool4 2 #[] #[] 1537 4 #[] #[])
  fields := #[]
  methods := #[]
  instanceTypes := #[]
  staticTypes := #[]
  resolved := Array.replicate 8 none
  statics := none }

/-- the primitive byte -/
def k5 : Class := { plain "byte" none with kind := .primitive 'B', accessFlags := 0x411 }
/-- [B -/
def k6 : Class := { plain "[B" (some 0) with kind := .array 5 .byte, interfaces := #[3, 4], accessFlags := 1041 }

/-- the primitive int -/
def k7 : Class := { plain "int" none with kind := .primitive 'I', accessFlags := 0x411 }
/-- [I -/
def k8 : Class := { plain "[I" (some 0) with kind := .array 7 .int, interfaces := #[3, 4], accessFlags := 1041 }

def heap : Heap := #[{ cls := 2, slots := #[.int 0, .null, .int 0, .ref 1, .int 0], vm := .statics 2 },
  { cls := 6, slots := #[.int 85, .int 78, .int 65], vm := .none }]
def classes : Array Class := #[k0, k1, k2, k3, k4, k5, k6, k7, k8]
def interned : List (Array UInt16 × Addr) := []
def slotsUsed : Nat := 8
def theMethod : MethodId := ⟨1, 1⟩
def args0 : Array Value := #[.int 85, .int 78, .int 65, .int 3, .int 4]
def aboutOver (below : List Frame) : State where
  vm := { classes := classes, interned := interned.toArray }
  heap := heap
  slotsUsed := slotsUsed
  threads := #[{ frames := .invoking theMethod args0 :: below }]
def below0 : List Frame := [.native { method := ⟨0, 0⟩, args := #[] }]
def about1 : State := aboutOver below0
def p0 : Program := .bare "" "" ""
def e0 : Env := launch0.env 0 0 0
theorem w_frames : about1.frames = Frame.invoking theMethod args0 :: below0 := rfl
set_option maxRecDepth 65536 in
theorem w_args : argsFit about1.vm theMethod args0 = true := by decide +kernel
set_option maxRecDepth 65536 in
theorem w_heap : heapFits about1 = true := by decide +kernel
set_option maxRecDepth 65536 in
theorem w_runnable : about1.curStatus? = some .runnable := by decide +kernel
set_option maxRecDepth 65536 in
theorem w_alone : about1.alone = true := by decide +kernel
set_option maxRecDepth 65536 in
theorem w_named : about1.methodNamed? x = some theMethod := by decide +kernel
set_option maxRecDepth 65536 in
theorem w_hears : about1.hears theMethod below0 = true := by decide +kernel
set_option maxRecDepth 65536 in
theorem w_ripe : about1.ripe theMethod args0 below0 = true := by decide +kernel
theorem w_running : about1.status = .running := rfl
set_option maxRecDepth 65536 in
theorem w_room : about1.hasRoom e0.platform room_1 = true :=
  launch0.hasRoom_least _ room_1 (by decide +kernel) (by decide +kernel) (by decide +kernel) (by decide +kernel) (by decide +kernel) (by decide +kernel)
theorem allAtoms_all (ts : List Jvm.Cond) (a : Array Jvm.Value) (st : Jvm.State) : (allAtoms ts).before a st = ts.all (fun c => c.before a st) := by
  induction ts with
  | nil => rfl
  | cons c t ih =>
    show (Jvm.Cond.and c (allAtoms t)).before a st = _
    rw [Jvm.Cond.before_and, ih, List.all_cons]
def words1 : List Jvm.Cond := Jvm.Cond.code x code maxLocals ret :: tables_1
/-- a 'code' word, met by the world's own term for the bytes: nothing is compared byte by byte -/
theorem code_word {y : MethodName} {bytes : ByteArray} {mx : Nat} {rt : Option FieldType} {a : Array Value} {s : State} {m : MethodId} {meth : Method} {c : Code} (h1 : s.methodNamed? y = some m) (h2 : s.vm.method? m = some meth) (h3 : meth.code = some c) (h4 : c.code = bytes)
    (h5 : (c.maxLocals == mx && c.exceptionTable.isEmpty && decide (c.maxStack ≤ mostOperands) && decide (meth.sig.returnType = rt) && !meth.locks && decide (parseMethodDescriptor y.desc = some meth.sig)) = true) : (Jvm.Cond.code y bytes mx rt).before a s = true := by
  simp only [Bool.and_eq_true, beq_iff_eq, Bool.not_eq_true', decide_eq_true_eq] at h5
  obtain ⟨⟨⟨⟨⟨g1, g2⟩, g3⟩, g4⟩, g5⟩, g6⟩ := h5
  simp [Cond.before, Cond.holds, Cond.value, h1, h2, h3, h4, g1, g2, g3, g4, g5, g6]
def isCode : Jvm.Cond → Bool
  | .code _ _ _ _ => true
  | _ => false
theorem all_split {L : List Jvm.Cond} {P : Jvm.Cond → Bool} (h1 : L.all (fun c => isCode c || P c) = true) (h2 : ∀ c ∈ L.filter isCode, P c = true) : L.all P = true := by
  refine List.all_eq_true.mpr fun c hc => ?_
  have h := List.all_eq_true.mp h1 c hc
  rcases Bool.eq_false_or_eq_true (isCode c) with hi | hi
  · exact h2 c (List.mem_filter.mpr ⟨hc, hi⟩)
  · simpa [hi] using h
set_option maxRecDepth 65536 in
theorem w_c0 : (Jvm.Cond.code x code maxLocals ret).before args0 about1 = true := code_word (m := ⟨1, 1⟩) (meth := k1m1) (c := k1c1) (by decide +kernel) rfl rfl rfl (by decide +kernel)
set_option maxRecDepth 65536 in
theorem w_c1 : (Jvm.Cond.code ({ cls := "com/example/sealwire/sealwire/procedure/edifact/ServiceCharactersStartsAdvicePinLaw", name := "pick", desc := "(IB)B" } : Jvm.MethodName) method_3_code (2 : Nat) (Option.some Jvm.ClassFile.FieldType.byte)).before args0 about1 = true := code_word (m := ⟨1, 2⟩) (meth := k1m2) (c := k1c2) (by decide +kernel) rfl rfl rfl (by decide +kernel)
set_option maxRecDepth 65536 in
theorem w_c2 : (Jvm.Cond.code ({ cls := "com/example/sealwire/sealwire/procedure/edifact/ServiceCharacters", name := "startsAdvice", desc := "([BI)Z" } : Jvm.MethodName) prog_37_method_2_code (2 : Nat) (Option.some Jvm.ClassFile.FieldType.boolean)).before args0 about1 = true := code_word (m := ⟨2, 0⟩) (meth := k2m0) (c := k2c0) (by decide +kernel) rfl rfl rfl (by decide +kernel)
def codes1 : List Jvm.Cond := [Jvm.Cond.code x code maxLocals ret, Jvm.Cond.code ({ cls := "com/example/sealwire/sealwire/procedure/edifact/ServiceCharactersStartsAdvicePinLaw", name := "pick", desc := "(IB)B" } : Jvm.MethodName) method_3_code (2 : Nat) (Option.some Jvm.ClassFile.FieldType.byte), Jvm.Cond.code ({ cls := "com/example/sealwire/sealwire/procedure/edifact/ServiceCharacters", name := "startsAdvice", desc := "([BI)Z" } : Jvm.MethodName) prog_37_method_2_code (2 : Nat) (Option.some Jvm.ClassFile.FieldType.boolean)]
set_option maxRecDepth 65536 in
theorem codes_eq : words1.filter isCode = codes1 := rfl
theorem w_codes : ∀ c ∈ words1.filter isCode, c.before args0 about1 = true := by
  rw [codes_eq]
  intro c hc
  simp only [codes1, List.mem_cons, List.not_mem_nil, or_false] at hc
  rcases hc with rfl | rfl | rfl
  · exact w_c0
  · exact w_c1
  · exact w_c2
set_option maxRecDepth 65536 in
theorem w_t1 : words1.all (fun c => isCode c || c.before args0 about1) = true := by decide +kernel
theorem w_tables : (allAtoms (Jvm.Cond.code x code maxLocals ret :: tables_1)).before args0 about1 = true := by
  rw [allAtoms_all]
  show words1.all (fun c => c.before args0 about1) = true
  refine all_split ?_ w_codes
  rw [w_t1]
set_option maxRecDepth 65536 in
theorem w_case : (Jvm.Cond.and given_1 narrow_1).before args0 about1 = true := by decide +kernel
theorem w_applies : (headSpec (Jvm.Cond.code x code maxLocals ret :: tables_1) room_1).applies x e0.platform about1 = true :=
  (Spec.applies_iff w_frames).mpr ⟨w_running, w_runnable, w_alone, w_named, w_hears, w_ripe, w_room, w_tables⟩
theorem atStart : AtStart classFile x code maxLocals ret World_1 tables_1 room_1 Calls_1 rest_1 Pre_1 launch0 p0 e0 about1 theMethod args0 below0 :=
  ⟨lists_1, trivial, launch0.admits_env _ _ _, launch0.least_env, fairChoices_fair.cas, fairChoices_fair.clock, w_frames, w_args, w_heap, w_applies, trivial, trivial, w_case⟩
end start1
theorem witness_1 : WitnessClaimed_1 := ⟨start1.p0, start1.e0, start1.about1, start1.theMethod, start1.args0, start1.below0, start1.atStart⟩
end Jvm.Pilot.@@N@@
