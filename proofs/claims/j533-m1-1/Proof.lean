import JvmDerived
import JvmDerived.Pilot.@@N@@Statement
import JvmDerived.Pilot.@@N@@Code
set_option linter.unusedVariables false
set_option linter.unusedSimpArgs false
namespace Jvm.RoadKit
open Sem ClassFile Op Lib Jvm.Stand Jvm.Free Jvm.LawKit
section New
variable {p : Program} {l : Launch} {e : Env} {R : Room} {s : State} {m : MethodId} {args : Array Value} {below : List Frame} {meth : Method} {c : Code} {T : State} {locs : List Loc} {cells slots : Nat}
theorem retI (X : Stand p l e R s m args below meth c T locs cells slots) (hx : p.tables.exec = Jvm.exec) {pc : Nat} {Ls : Array Slot} {z : Int32} {rest : List Value} (hret : meth.sig.returnType = some .int) (hd : decode c.code pc = .ok (.ireturn, 1)) {fs : List Frame}
    (hl : ∀ (f : JFrame) (acts : List Action), f.method = m → f.locked = none → f.entered = [] → (doReturn e (T.setTop f) acts (some (.int z))).1 = T.setFrames fs) : Steps p.tables e below (T.setTop (mkF m pc Ls (.int z :: rest))) (T.setFrames fs) := by
  have hm' : T.vm.method? m = some meth := X.method'
  have hn : narrow .int (.int z) = .int z := rfl
  show Steps p.tables e below (T.setTop { method := m, pc := pc, locals := Ls, stack := _ :: rest, locked := none }) _
  jvm_step X.here [X.here.top, hx, hd, hm', hret, hn]
  first | (intro acts; rw [hl _ acts rfl rfl rfl]) | rw [hl _ _ rfl rfl rfl]
  exact Steps.refl _
end New
theorem own_lc_tlt {a b : Int64} (h : a < b) : lcmpW a b < 0 := by rw [lcW]; exact (lc_lt _ _).2 h
theorem own_lc_flt {a b : Int64} (h : ¬ a < b) : ¬ lcmpW a b < 0 := by rw [lcW]; exact fun q => h ((lc_lt _ _).1 q)
theorem own_lc_tgt {a b : Int64} (h : b < a) : 0 < lcmpW a b := by rw [lcW]; exact (lc_gt _ _).2 h
theorem own_lc_fgt {a b : Int64} (h : ¬ b < a) : ¬ 0 < lcmpW a b := by rw [lcW]; exact fun q => h ((lc_gt _ _).1 q)
theorem own_lc_teq {a b : Int64} (h : a = b) : lcmpW a b = 0 := by rw [lcW]; exact (lc_eq _ _).2 h
theorem own_lc_feq {a b : Int64} (h : ¬ a = b) : ¬ lcmpW a b = 0 := by rw [lcW]; exact fun q => h ((lc_eq _ _).1 q)
end Jvm.RoadKit
namespace Jvm.Pilot.@@N@@
open Jvm Jvm.ClassFile Sem Op Lib Jvm.Free Jvm.Stand Jvm.LawKit Jvm.RoadKit Bundle Jvm.Pilot.@@N@@.Jvm.D
theorem d1_0 : decode prog_7_method_2_code 0 = .ok (.lload_n 0, 1) := by decide +kernel
theorem d1_1 : decode prog_7_method_2_code 1 = .ok (.lconst 1, 1) := by decide +kernel
theorem d1_2 : decode prog_7_method_2_code 2 = .ok (.lcmp, 1) := by decide +kernel
theorem d1_3 : decode prog_7_method_2_code 3 = .ok (.ifCond .lt 15, 3) := by decide +kernel
theorem d1_6 : decode prog_7_method_2_code 6 = .ok (.lload_n 0, 1) := by decide +kernel
theorem d1_7 : decode prog_7_method_2_code 7 = .ok (.ldc2_w 24, 3) := by decide +kernel
theorem d1_10 : decode prog_7_method_2_code 10 = .ok (.lcmp, 1) := by decide +kernel
theorem d1_11 : decode prog_7_method_2_code 11 = .ok (.ifCond .gt 7, 3) := by decide +kernel
theorem d1_14 : decode prog_7_method_2_code 14 = .ok (.iconst 1, 1) := by decide +kernel
theorem d1_15 : decode prog_7_method_2_code 15 = .ok (.goto 4, 3) := by decide +kernel
theorem d1_18 : decode prog_7_method_2_code 18 = .ok (.iconst 0, 1) := by decide +kernel
theorem d1_19 : decode prog_7_method_2_code 19 = .ok (.ireturn, 1) := by decide +kernel
theorem pn_1 : plainName "com/example/stockwall/stockwall/Deduction" = true := by first | (simp [plainName, overriddenIn]; done) | decide +kernel
theorem ef_1 (m : MethodId) (q1 : Int64) : entryFrame m #[(.long q1)] 2 = mkF m 0 #[.val (.long q1), .second] [] := by first | (simp [entryFrame, mkF, argsToLocals, Value.category]; done) | rfl
def f1 (q1 : Int64) : Int32 :=
  (nar .boolean (if q1 < (1 : Int64) then (0 : Int32) else (if (1000000 : Int64) < q1 then (0 : Int32) else (1 : Int32))))
def Q1 (Z : State) (q1 : Int64)  (h0 : Heap) (n0 : Nat) (v : Option Value) (h : Heap) (L : List Loc) : Prop := v = some (.int (f1 q1)) ∧ Fr n0 L ∧ h = h0
set_option maxRecDepth 65536 in
set_option maxHeartbeats 40000000 in
theorem rm1 (l : Launch) (Z : State) (a0 : Array Value) (hw : ∀ d ∈ tables_1, d.before a0 Z = true) (ws : List Jvm.Cond) (q1 : Int64)  (h0 : Heap) (n0 : Nat) (Z0 : n0 ≤ h0.size) :
    MetFree l (⟨"com/example/stockwall/stockwall/Deduction", "isValidQuantity", "(J)Z"⟩ : MethodName) (head1 (Jvm.Cond.code (⟨"com/example/stockwall/stockwall/Deduction", "isValidQuantity", "(J)Z"⟩ : MethodName) prog_7_method_2_code 2 (some .boolean) :: ws) ({ frames := 0, cells := 0, slots := 0, locals := 0 } : Room)) (fun a U => a = #[(.long q1)] ∧ Z.Warmed39 U.vm ∧ U.heap = h0) (fun _ _ _ _ _ => True) (fun _ U o U' => ∃ v L, o = .returned v ∧ Q1 Z q1 h0 n0 v U'.heap L ∧ FrameEnd U o U' L ({ frames := 0, cells := 0, slots := 0, locals := 0 } : Room).cells ({ frames := 0, cells := 0, slots := 0, locals := 0 } : Room).slots) := by
  refine MetFree.of_bodySF (plainFor_of_name pn_1) hisR ?_
  intro p e s m args below meth c s₁ Bd hml0 hP hK
  obtain ⟨rfl, hZ, hh⟩ := hP
  have hx := Bd.exec
  have hby := Bd.bytes
  have hml : c.maxLocals = 2 := hml0
  have hown : s.vm.findClass "com/example/stockwall/stockwall/Deduction" = some m.cls := findClass_of_methodNamed Bd.named
  have hnm := (name_of_methodNamed Bd.named Bd.method).1
  have X0 : Stand p l e ({ frames := 0, cells := 0, slots := 0, locals := 0 } : Room) s m #[(.long q1)] below meth c s₁ [] 0 0 := Stand.of_body Bd
  have e0 : s₁.heap = h0 := by rw [← hh, Bd.state]; rfl
  have N0 := Fr.nil n0
  have pre0 : ∀ t, Steps p.tables e below (s₁.setTop (mkF m 0 #[.val (.long q1), .second] [])) t → Steps p.tables e below (s₁.setTop (entryFrame m #[(.long q1)] 2)) t := fun t k => castTop (ef_1 m q1) k
  obtain ⟨v3, hv3⟩ : ∃ z : Int32, z = (if q1 < (1 : Int64) then (0 : Int32) else (if (1000000 : Int64) < q1 then (0 : Int32) else (1 : Int32))) := ⟨_, rfl⟩
  have pre4 : ∀ t, Steps p.tables e below (s₁.setTop (mkF m 19 #[.val (.long q1), .second] [(.int v3)])) t → Steps p.tables e below (s₁.setTop (entryFrame m #[(.long q1)] 2)) t := fun t k => pre0 t (by
    show Steps p.tables e below (s₁.setTop (mkF m 0 #[.val (.long q1), .second] [])) _
    refine XS.lloadN X0.here hx rfl (hb hby d1_0) rfl ?_
    show Steps p.tables e below (s₁.setTop (mkF m 1 #[.val (.long q1), .second] [(.long q1)])) _
    refine XS.lconst X0.here hx rfl (hb hby d1_1) ?_
    show Steps p.tables e below (s₁.setTop (mkF m 2 #[.val (.long q1), .second] [(.long (1 : Int64)), (.long q1)])) _
    refine XS.lcmp X0.here hx rfl (hb hby d1_2) rfl ?_
    show Steps p.tables e below (s₁.setTop (mkF m 3 #[.val (.long q1), .second] [(.int (lcmpW q1 (1 : Int64)))])) _
    by_cases hc1 : q1 < (1 : Int64)
    · refine XS.ifYes X0.here hx rfl (pc0 := 3) (pc' := 18) rfl (hb hby d1_3) rfl ((if0 _ _).trans (tlt (own_lc_tlt hc1)).1) (by decide) (by decide) ?_
      show Steps p.tables e below (s₁.setTop (mkF m 18 #[.val (.long q1), .second] [])) _
      refine XS.iconst X0.here hx rfl (hb hby d1_18) ?_
      rw [show v3 = (0 : Int32) from hv3.trans (if_pos hc1)] at k
      exact k
    · refine XS.ifNo X0.here hx rfl (hb hby d1_3) rfl ((if0 _ _).trans (flt (own_lc_flt hc1)).1) ?_
      show Steps p.tables e below (s₁.setTop (mkF m 6 #[.val (.long q1), .second] [])) _
      refine XS.lloadN X0.here hx rfl (hb hby d1_6) rfl ?_
      show Steps p.tables e below (s₁.setTop (mkF m 7 #[.val (.long q1), .second] [(.long q1)])) _
      refine X0.ldc2Long hx hown (mvT hZ (hw _ (List.mem_of_getElem? (i := 5) rfl))) (g := (mkF m 7 #[.val (.long q1), .second] [(.long q1)])) rfl (hb hby d1_7) _ ?_
      show Steps p.tables e below (s₁.setTop (mkF m 10 #[.val (.long q1), .second] [(.long (1000000 : Int64)), (.long q1)])) _
      refine XS.lcmp X0.here hx rfl (hb hby d1_10) rfl ?_
      show Steps p.tables e below (s₁.setTop (mkF m 11 #[.val (.long q1), .second] [(.int (lcmpW q1 (1000000 : Int64)))])) _
      by_cases hc2 : (1000000 : Int64) < q1
      · refine XS.ifYes X0.here hx rfl (pc0 := 11) (pc' := 18) rfl (hb hby d1_11) rfl ((if0 _ _).trans (tlt (own_lc_tgt hc2)).2.2.1) (by decide) (by decide) ?_
        show Steps p.tables e below (s₁.setTop (mkF m 18 #[.val (.long q1), .second] [])) _
        refine XS.iconst X0.here hx rfl (hb hby d1_18) ?_
        rw [show v3 = (0 : Int32) from hv3.trans ((if_neg hc1).trans (if_pos hc2))] at k
        exact k
      · refine XS.ifNo X0.here hx rfl (hb hby d1_11) rfl ((if0 _ _).trans (flt (own_lc_fgt hc2)).2.2.1) ?_
        show Steps p.tables e below (s₁.setTop (mkF m 14 #[.val (.long q1), .second] [])) _
        refine XS.iconst X0.here hx rfl (hb hby d1_14) ?_
        show Steps p.tables e below (s₁.setTop (mkF m 15 #[.val (.long q1), .second] [(.int (1 : Int32))])) _
        refine XS.goto X0.here hx rfl (pc0 := 15) (pc' := 19) rfl (hb hby d1_15) (by decide) (by decide) ?_
        rw [show v3 = (1 : Int32) from hv3.trans ((if_neg hc1).trans (if_neg hc2))] at k
        exact k)
  have er : (f1 q1) = (nar .boolean v3) := by subst hv3; exact rfl
  obtain ⟨fs, hr, hrun, hended, hW, hsame⟩ := X0.leave (v := some (.int (nar .boolean v3))) (fun h => by rw [Bd.returns] at h; cases h)
  refine ⟨_, _, pre4 _ ?_, hrun, hended, _, _, rfl, ?_, ⟨_, rfl⟩, hW, hsame.mono (by decide) (by decide)⟩
  · show Steps p.tables e below (s₁.setTop (mkF m 19 #[.val (.long q1), .second] [(.int v3)])) _
    exact retN X0 hx (t := .boolean) Bd.returns (by simp) (hb hby d1_19) hr
  · show Q1 Z q1 h0 n0 _ s₁.heap _
    rw [e0]
    exact ⟨congrArg (fun z => some (Value.int z)) er.symm, N0, rfl⟩
theorem pd_0 : parseMethodDescriptor "(J)Z" = some ⟨[.long], some .boolean⟩ := by decide +kernel
theorem pn_0 : plainName "com/example/stockwall/stockwall/DeductionIsValidQuantityPinLaw" = true := by first | (simp [plainName, overriddenIn]; done) | decide +kernel
theorem ef_0 (m : MethodId) (q1 : Int64) (p2 : Int32) (p3 : Int32) : entryFrame m #[(.long q1), (.int p2), (.int p3)] maxLocals = mkF m 0 #[.val (.long q1), .second, .val (.int p2), .val (.int p3), .unset, .unset, .unset, .unset, .unset, .unset] [] := by first | (simp [entryFrame, mkF, argsToLocals, Value.category, maxLocals]; done) | rfl
def f0 (q1 : Int64) (p2 : Int32) (p3 : Int32) : Int32 :=
  (nar .boolean (if (f1 (if (p2 &&& (3 : Int32)) = (0 : Int32) then q1 else (if (p2 &&& (3 : Int32)) = (1 : Int32) then (((p3 &&& (7 : Int32)) - (4 : Int32)).toInt64) else (if (p2 &&& (3 : Int32)) = (2 : Int32) then ((1000000 : Int64) + (((p3 &&& (7 : Int32)) - (4 : Int32)).toInt64)) else (if (p3 &&& (8 : Int32)) = (0 : Int32) then ((9223372036854775807 : Int64) + (((p3 &&& (7 : Int32)) - (4 : Int32)).toInt64)) else ((-9223372036854775808 : Int64) - (((p3 &&& (7 : Int32)) - (4 : Int32)).toInt64))))))) = (if (0 : Int64) < (if (p2 &&& (3 : Int32)) = (0 : Int32) then q1 else (if (p2 &&& (3 : Int32)) = (1 : Int32) then (((p3 &&& (7 : Int32)) - (4 : Int32)).toInt64) else (if (p2 &&& (3 : Int32)) = (2 : Int32) then ((1000000 : Int64) + (((p3 &&& (7 : Int32)) - (4 : Int32)).toInt64)) else (if (p3 &&& (8 : Int32)) = (0 : Int32) then ((9223372036854775807 : Int64) + (((p3 &&& (7 : Int32)) - (4 : Int32)).toInt64)) else ((-9223372036854775808 : Int64) - (((p3 &&& (7 : Int32)) - (4 : Int32)).toInt64)))))) then (if (1000000 : Int64) < (if (p2 &&& (3 : Int32)) = (0 : Int32) then q1 else (if (p2 &&& (3 : Int32)) = (1 : Int32) then (((p3 &&& (7 : Int32)) - (4 : Int32)).toInt64) else (if (p2 &&& (3 : Int32)) = (2 : Int32) then ((1000000 : Int64) + (((p3 &&& (7 : Int32)) - (4 : Int32)).toInt64)) else (if (p3 &&& (8 : Int32)) = (0 : Int32) then ((9223372036854775807 : Int64) + (((p3 &&& (7 : Int32)) - (4 : Int32)).toInt64)) else ((-9223372036854775808 : Int64) - (((p3 &&& (7 : Int32)) - (4 : Int32)).toInt64)))))) then (0 : Int32) else (1 : Int32)) else (0 : Int32)) then (1 : Int32) else (0 : Int32)))
def Q0 (Z : State) (q1 : Int64) (p2 : Int32) (p3 : Int32)  (h0 : Heap) (n0 : Nat) (v : Option Value) (h : Heap) (L : List Loc) : Prop := v = some (.int (f0 q1 p2 p3)) ∧ Fr n0 L ∧ h = h0
set_option maxRecDepth 65536 in
set_option maxHeartbeats 40000000 in
theorem rm0 (l : Launch) (Z : State) (a0 : Array Value) (hw : ∀ d ∈ tables_1, d.before a0 Z = true) (ws : List Jvm.Cond) (q1 : Int64) (p2 : Int32) (p3 : Int32)  (h0 : Heap) (n0 : Nat) (Z0 : n0 ≤ h0.size) :
    MetFree l x (head1 (Jvm.Cond.code x code maxLocals ret :: ws) room_1) (fun a U => a = #[(.long q1), (.int p2), (.int p3)] ∧ Z.Warmed39 U.vm ∧ U.heap = h0) (fun _ _ _ _ _ => True) (fun _ U o U' => ∃ v L, o = .returned v ∧ Q0 Z q1 p2 p3 h0 n0 v U'.heap L ∧ FrameEnd U o U' L room_1.cells room_1.slots) := by
  refine MetFree.of_bodySF (plainFor_of_name pn_0) hisR ?_
  intro p e s m args below meth c s₁ Bd hml0 hP hK
  obtain ⟨rfl, hZ, hh⟩ := hP
  have hx := Bd.exec
  have hby := Bd.bytes
  have hml : c.maxLocals = 10 := hml0
  have hown : s.vm.findClass "com/example/stockwall/stockwall/DeductionIsValidQuantityPinLaw" = some m.cls := findClass_of_methodNamed Bd.named
  have hnm := (name_of_methodNamed Bd.named Bd.method).1
  have X0 : Stand p l e room_1 s m #[(.long q1), (.int p2), (.int p3)] below meth c s₁ [] 0 0 := Stand.of_body Bd
  have e0 : s₁.heap = h0 := by rw [← hh, Bd.state]; rfl
  have N0 := Fr.nil n0
  have pre0 : ∀ t, Steps p.tables e below (s₁.setTop (mkF m 0 #[.val (.long q1), .second, .val (.int p2), .val (.int p3), .unset, .unset, .unset, .unset, .unset, .unset] [])) t → Steps p.tables e below (s₁.setTop (entryFrame m #[(.long q1), (.int p2), (.int p3)] maxLocals)) t := fun t k => castTop (ef_0 m q1 p2 p3) k
  obtain ⟨v5, hv5⟩ : ∃ z : Int64, z = (if (p2 &&& (3 : Int32)) = (0 : Int32) then q1 else (if (p2 &&& (3 : Int32)) = (1 : Int32) then (((p3 &&& (7 : Int32)) - (4 : Int32)).toInt64) else (if (p2 &&& (3 : Int32)) = (2 : Int32) then ((1000000 : Int64) + (((p3 &&& (7 : Int32)) - (4 : Int32)).toInt64)) else (if (p3 &&& (8 : Int32)) = (0 : Int32) then ((9223372036854775807 : Int64) + (((p3 &&& (7 : Int32)) - (4 : Int32)).toInt64)) else ((-9223372036854775808 : Int64) - (((p3 &&& (7 : Int32)) - (4 : Int32)).toInt64)))))) := ⟨_, rfl⟩
  have pre6 : ∀ t, Steps p.tables e below (s₁.setTop (mkF m 81 #[.val (.long q1), .second, .val (.int p2), .val (.int p3), .val (.long (((p3 &&& (7 : Int32)) - (4 : Int32)).toInt64)), .second, .val (.int (p2 &&& (3 : Int32))), .val (.long v5), .second, .unset] [])) t → Steps p.tables e below (s₁.setTop (entryFrame m #[(.long q1), (.int p2), (.int p3)] maxLocals)) t := fun t k => pre0 t (by
    show Steps p.tables e below (s₁.setTop (mkF m 0 #[.val (.long q1), .second, .val (.int p2), .val (.int p3), .unset, .unset, .unset, .unset, .unset, .unset] [])) _
    refine XS.iloadN X0.here hx rfl (hb hby at_0) rfl ?_
    show Steps p.tables e below (s₁.setTop (mkF m 1 #[.val (.long q1), .second, .val (.int p2), .val (.int p3), .unset, .unset, .unset, .unset, .unset, .unset] [(.int p3)])) _
    refine XS.bipush X0.here hx rfl (hb hby at_1) ?_
    show Steps p.tables e below (s₁.setTop (mkF m 3 #[.val (.long q1), .second, .val (.int p2), .val (.int p3), .unset, .unset, .unset, .unset, .unset, .unset] [(.int (7 : Int32)), (.int p3)])) _
    refine XS.iand X0.here hx rfl (hb hby at_3) rfl ?_
    show Steps p.tables e below (s₁.setTop (mkF m 4 #[.val (.long q1), .second, .val (.int p2), .val (.int p3), .unset, .unset, .unset, .unset, .unset, .unset] [(.int (p3 &&& (7 : Int32)))])) _
    refine XS.iconst X0.here hx rfl (hb hby at_4) ?_
    show Steps p.tables e below (s₁.setTop (mkF m 5 #[.val (.long q1), .second, .val (.int p2), .val (.int p3), .unset, .unset, .unset, .unset, .unset, .unset] [(.int (4 : Int32)), (.int (p3 &&& (7 : Int32)))])) _
    refine XS.isub X0.here hx rfl (hb hby at_5) rfl ?_
    show Steps p.tables e below (s₁.setTop (mkF m 6 #[.val (.long q1), .second, .val (.int p2), .val (.int p3), .unset, .unset, .unset, .unset, .unset, .unset] [(.int ((p3 &&& (7 : Int32)) - (4 : Int32)))])) _
    refine XS.i2l X0.here hx rfl (hb hby at_6) rfl ?_
    show Steps p.tables e below (s₁.setTop (mkF m 7 #[.val (.long q1), .second, .val (.int p2), .val (.int p3), .unset, .unset, .unset, .unset, .unset, .unset] [(.long (((p3 &&& (7 : Int32)) - (4 : Int32)).toInt64))])) _
    refine XS.lstore X0.here hx rfl (hb hby at_7) rfl (l' := #[.val (.long q1), .second, .val (.int p2), .val (.int p3), .val (.long (((p3 &&& (7 : Int32)) - (4 : Int32)).toInt64)), .second, .unset, .unset, .unset, .unset]) rfl ?_
    show Steps p.tables e below (s₁.setTop (mkF m 9 #[.val (.long q1), .second, .val (.int p2), .val (.int p3), .val (.long (((p3 &&& (7 : Int32)) - (4 : Int32)).toInt64)), .second, .unset, .unset, .unset, .unset] [])) _
    refine XS.iloadN X0.here hx rfl (hb hby at_9) rfl ?_
    show Steps p.tables e below (s₁.setTop (mkF m 10 #[.val (.long q1), .second, .val (.int p2), .val (.int p3), .val (.long (((p3 &&& (7 : Int32)) - (4 : Int32)).toInt64)), .second, .unset, .unset, .unset, .unset] [(.int p2)])) _
    refine XS.iconst X0.here hx rfl (hb hby at_10) ?_
    show Steps p.tables e below (s₁.setTop (mkF m 11 #[.val (.long q1), .second, .val (.int p2), .val (.int p3), .val (.long (((p3 &&& (7 : Int32)) - (4 : Int32)).toInt64)), .second, .unset, .unset, .unset, .unset] [(.int (3 : Int32)), (.int p2)])) _
    refine XS.iand X0.here hx rfl (hb hby at_11) rfl ?_
    show Steps p.tables e below (s₁.setTop (mkF m 12 #[.val (.long q1), .second, .val (.int p2), .val (.int p3), .val (.long (((p3 &&& (7 : Int32)) - (4 : Int32)).toInt64)), .second, .unset, .unset, .unset, .unset] [(.int (p2 &&& (3 : Int32)))])) _
    refine XS.istore X0.here hx rfl (hb hby at_12) rfl (l' := #[.val (.long q1), .second, .val (.int p2), .val (.int p3), .val (.long (((p3 &&& (7 : Int32)) - (4 : Int32)).toInt64)), .second, .val (.int (p2 &&& (3 : Int32))), .unset, .unset, .unset]) rfl ?_
    show Steps p.tables e below (s₁.setTop (mkF m 14 #[.val (.long q1), .second, .val (.int p2), .val (.int p3), .val (.long (((p3 &&& (7 : Int32)) - (4 : Int32)).toInt64)), .second, .val (.int (p2 &&& (3 : Int32))), .unset, .unset, .unset] [])) _
    refine XS.iload X0.here hx rfl (hb hby at_14) rfl ?_
    show Steps p.tables e below (s₁.setTop (mkF m 16 #[.val (.long q1), .second, .val (.int p2), .val (.int p3), .val (.long (((p3 &&& (7 : Int32)) - (4 : Int32)).toInt64)), .second, .val (.int (p2 &&& (3 : Int32))), .unset, .unset, .unset] [(.int (p2 &&& (3 : Int32)))])) _
    by_cases hc1 : (p2 &&& (3 : Int32)) = (0 : Int32)
    · refine XS.ifNo X0.here hx rfl (hb hby at_16) rfl ((if0 _ _).trans (teq hc1).2) ?_
      show Steps p.tables e below (s₁.setTop (mkF m 19 #[.val (.long q1), .second, .val (.int p2), .val (.int p3), .val (.long (((p3 &&& (7 : Int32)) - (4 : Int32)).toInt64)), .second, .val (.int (p2 &&& (3 : Int32))), .unset, .unset, .unset] [])) _
      refine XS.lloadN X0.here hx rfl (hb hby at_19) rfl ?_
      show Steps p.tables e below (s₁.setTop (mkF m 20 #[.val (.long q1), .second, .val (.int p2), .val (.int p3), .val (.long (((p3 &&& (7 : Int32)) - (4 : Int32)).toInt64)), .second, .val (.int (p2 &&& (3 : Int32))), .unset, .unset, .unset] [(.long q1)])) _
      refine XS.lstore X0.here hx rfl (hb hby at_20) rfl (l' := #[.val (.long q1), .second, .val (.int p2), .val (.int p3), .val (.long (((p3 &&& (7 : Int32)) - (4 : Int32)).toInt64)), .second, .val (.int (p2 &&& (3 : Int32))), .val (.long q1), .second, .unset]) rfl ?_
      show Steps p.tables e below (s₁.setTop (mkF m 22 #[.val (.long q1), .second, .val (.int p2), .val (.int p3), .val (.long (((p3 &&& (7 : Int32)) - (4 : Int32)).toInt64)), .second, .val (.int (p2 &&& (3 : Int32))), .val (.long q1), .second, .unset] [])) _
      refine XS.goto X0.here hx rfl (pc0 := 22) (pc' := 81) rfl (hb hby at_22) (by decide) (by decide) ?_
      rw [show v5 = q1 from hv5.trans (if_pos hc1)] at k
      exact k
    · refine XS.ifYes X0.here hx rfl (pc0 := 16) (pc' := 25) rfl (hb hby at_16) rfl ((if0 _ _).trans (feq hc1).2) (by decide) (by decide) ?_
      show Steps p.tables e below (s₁.setTop (mkF m 25 #[.val (.long q1), .second, .val (.int p2), .val (.int p3), .val (.long (((p3 &&& (7 : Int32)) - (4 : Int32)).toInt64)), .second, .val (.int (p2 &&& (3 : Int32))), .unset, .unset, .unset] [])) _
      refine XS.iload X0.here hx rfl (hb hby at_25) rfl ?_
      show Steps p.tables e below (s₁.setTop (mkF m 27 #[.val (.long q1), .second, .val (.int p2), .val (.int p3), .val (.long (((p3 &&& (7 : Int32)) - (4 : Int32)).toInt64)), .second, .val (.int (p2 &&& (3 : Int32))), .unset, .unset, .unset] [(.int (p2 &&& (3 : Int32)))])) _
      refine XS.iconst X0.here hx rfl (hb hby at_27) ?_
      show Steps p.tables e below (s₁.setTop (mkF m 28 #[.val (.long q1), .second, .val (.int p2), .val (.int p3), .val (.long (((p3 &&& (7 : Int32)) - (4 : Int32)).toInt64)), .second, .val (.int (p2 &&& (3 : Int32))), .unset, .unset, .unset] [(.int (1 : Int32)), (.int (p2 &&& (3 : Int32)))])) _
      by_cases hc2 : (p2 &&& (3 : Int32)) = (1 : Int32)
      · refine XS.icmpNo X0.here hx rfl (hb hby at_28) rfl (teq hc2).2 ?_
        show Steps p.tables e below (s₁.setTop (mkF m 31 #[.val (.long q1), .second, .val (.int p2), .val (.int p3), .val (.long (((p3 &&& (7 : Int32)) - (4 : Int32)).toInt64)), .second, .val (.int (p2 &&& (3 : Int32))), .unset, .unset, .unset] [])) _
        refine XS.lload X0.here hx rfl (hb hby at_31) rfl ?_
        show Steps p.tables e below (s₁.setTop (mkF m 33 #[.val (.long q1), .second, .val (.int p2), .val (.int p3), .val (.long (((p3 &&& (7 : Int32)) - (4 : Int32)).toInt64)), .second, .val (.int (p2 &&& (3 : Int32))), .unset, .unset, .unset] [(.long (((p3 &&& (7 : Int32)) - (4 : Int32)).toInt64))])) _
        refine XS.lstore X0.here hx rfl (hb hby at_33) rfl (l' := #[.val (.long q1), .second, .val (.int p2), .val (.int p3), .val (.long (((p3 &&& (7 : Int32)) - (4 : Int32)).toInt64)), .second, .val (.int (p2 &&& (3 : Int32))), .val (.long (((p3 &&& (7 : Int32)) - (4 : Int32)).toInt64)), .second, .unset]) rfl ?_
        show Steps p.tables e below (s₁.setTop (mkF m 35 #[.val (.long q1), .second, .val (.int p2), .val (.int p3), .val (.long (((p3 &&& (7 : Int32)) - (4 : Int32)).toInt64)), .second, .val (.int (p2 &&& (3 : Int32))), .val (.long (((p3 &&& (7 : Int32)) - (4 : Int32)).toInt64)), .second, .unset] [])) _
        refine XS.goto X0.here hx rfl (pc0 := 35) (pc' := 81) rfl (hb hby at_35) (by decide) (by decide) ?_
        rw [show v5 = (((p3 &&& (7 : Int32)) - (4 : Int32)).toInt64) from hv5.trans ((if_neg hc1).trans (if_pos hc2))] at k
        exact k
      · refine XS.icmpYes X0.here hx rfl (pc0 := 28) (pc' := 38) rfl (hb hby at_28) rfl (feq hc2).2 (by decide) (by decide) ?_
        show Steps p.tables e below (s₁.setTop (mkF m 38 #[.val (.long q1), .second, .val (.int p2), .val (.int p3), .val (.long (((p3 &&& (7 : Int32)) - (4 : Int32)).toInt64)), .second, .val (.int (p2 &&& (3 : Int32))), .unset, .unset, .unset] [])) _
        refine XS.iload X0.here hx rfl (hb hby at_38) rfl ?_
        show Steps p.tables e below (s₁.setTop (mkF m 40 #[.val (.long q1), .second, .val (.int p2), .val (.int p3), .val (.long (((p3 &&& (7 : Int32)) - (4 : Int32)).toInt64)), .second, .val (.int (p2 &&& (3 : Int32))), .unset, .unset, .unset] [(.int (p2 &&& (3 : Int32)))])) _
        refine XS.iconst X0.here hx rfl (hb hby at_40) ?_
        show Steps p.tables e below (s₁.setTop (mkF m 41 #[.val (.long q1), .second, .val (.int p2), .val (.int p3), .val (.long (((p3 &&& (7 : Int32)) - (4 : Int32)).toInt64)), .second, .val (.int (p2 &&& (3 : Int32))), .unset, .unset, .unset] [(.int (2 : Int32)), (.int (p2 &&& (3 : Int32)))])) _
        by_cases hc3 : (p2 &&& (3 : Int32)) = (2 : Int32)
        · refine XS.icmpNo X0.here hx rfl (hb hby at_41) rfl (teq hc3).2 ?_
          show Steps p.tables e below (s₁.setTop (mkF m 44 #[.val (.long q1), .second, .val (.int p2), .val (.int p3), .val (.long (((p3 &&& (7 : Int32)) - (4 : Int32)).toInt64)), .second, .val (.int (p2 &&& (3 : Int32))), .unset, .unset, .unset] [])) _
          refine X0.ldc2Long hx hown (mvT hZ (hw _ (List.mem_of_getElem? (i := 0) rfl))) (g := (mkF m 44 #[.val (.long q1), .second, .val (.int p2), .val (.int p3), .val (.long (((p3 &&& (7 : Int32)) - (4 : Int32)).toInt64)), .second, .val (.int (p2 &&& (3 : Int32))), .unset, .unset, .unset] [])) rfl (hb hby at_44) _ ?_
          show Steps p.tables e below (s₁.setTop (mkF m 47 #[.val (.long q1), .second, .val (.int p2), .val (.int p3), .val (.long (((p3 &&& (7 : Int32)) - (4 : Int32)).toInt64)), .second, .val (.int (p2 &&& (3 : Int32))), .unset, .unset, .unset] [(.long (1000000 : Int64))])) _
          refine XS.lload X0.here hx rfl (hb hby at_47) rfl ?_
          show Steps p.tables e below (s₁.setTop (mkF m 49 #[.val (.long q1), .second, .val (.int p2), .val (.int p3), .val (.long (((p3 &&& (7 : Int32)) - (4 : Int32)).toInt64)), .second, .val (.int (p2 &&& (3 : Int32))), .unset, .unset, .unset] [(.long (((p3 &&& (7 : Int32)) - (4 : Int32)).toInt64)), (.long (1000000 : Int64))])) _
          refine XS.ladd X0.here hx rfl (hb hby at_49) rfl ?_
          show Steps p.tables e below (s₁.setTop (mkF m 50 #[.val (.long q1), .second, .val (.int p2), .val (.int p3), .val (.long (((p3 &&& (7 : Int32)) - (4 : Int32)).toInt64)), .second, .val (.int (p2 &&& (3 : Int32))), .unset, .unset, .unset] [(.long ((1000000 : Int64) + (((p3 &&& (7 : Int32)) - (4 : Int32)).toInt64)))])) _
          refine XS.lstore X0.here hx rfl (hb hby at_50) rfl (l' := #[.val (.long q1), .second, .val (.int p2), .val (.int p3), .val (.long (((p3 &&& (7 : Int32)) - (4 : Int32)).toInt64)), .second, .val (.int (p2 &&& (3 : Int32))), .val (.long ((1000000 : Int64) + (((p3 &&& (7 : Int32)) - (4 : Int32)).toInt64))), .second, .unset]) rfl ?_
          show Steps p.tables e below (s₁.setTop (mkF m 52 #[.val (.long q1), .second, .val (.int p2), .val (.int p3), .val (.long (((p3 &&& (7 : Int32)) - (4 : Int32)).toInt64)), .second, .val (.int (p2 &&& (3 : Int32))), .val (.long ((1000000 : Int64) + (((p3 &&& (7 : Int32)) - (4 : Int32)).toInt64))), .second, .unset] [])) _
          refine XS.goto X0.here hx rfl (pc0 := 52) (pc' := 81) rfl (hb hby at_52) (by decide) (by decide) ?_
          rw [show v5 = ((1000000 : Int64) + (((p3 &&& (7 : Int32)) - (4 : Int32)).toInt64)) from hv5.trans ((if_neg hc1).trans ((if_neg hc2).trans (if_pos hc3)))] at k
          exact k
        · refine XS.icmpYes X0.here hx rfl (pc0 := 41) (pc' := 55) rfl (hb hby at_41) rfl (feq hc3).2 (by decide) (by decide) ?_
          show Steps p.tables e below (s₁.setTop (mkF m 55 #[.val (.long q1), .second, .val (.int p2), .val (.int p3), .val (.long (((p3 &&& (7 : Int32)) - (4 : Int32)).toInt64)), .second, .val (.int (p2 &&& (3 : Int32))), .unset, .unset, .unset] [])) _
          refine XS.iloadN X0.here hx rfl (hb hby at_55) rfl ?_
          show Steps p.tables e below (s₁.setTop (mkF m 56 #[.val (.long q1), .second, .val (.int p2), .val (.int p3), .val (.long (((p3 &&& (7 : Int32)) - (4 : Int32)).toInt64)), .second, .val (.int (p2 &&& (3 : Int32))), .unset, .unset, .unset] [(.int p3)])) _
          refine XS.bipush X0.here hx rfl (hb hby at_56) ?_
          show Steps p.tables e below (s₁.setTop (mkF m 58 #[.val (.long q1), .second, .val (.int p2), .val (.int p3), .val (.long (((p3 &&& (7 : Int32)) - (4 : Int32)).toInt64)), .second, .val (.int (p2 &&& (3 : Int32))), .unset, .unset, .unset] [(.int (8 : Int32)), (.int p3)])) _
          refine XS.iand X0.here hx rfl (hb hby at_58) rfl ?_
          show Steps p.tables e below (s₁.setTop (mkF m 59 #[.val (.long q1), .second, .val (.int p2), .val (.int p3), .val (.long (((p3 &&& (7 : Int32)) - (4 : Int32)).toInt64)), .second, .val (.int (p2 &&& (3 : Int32))), .unset, .unset, .unset] [(.int (p3 &&& (8 : Int32)))])) _
          by_cases hc4 : (p3 &&& (8 : Int32)) = (0 : Int32)
          · refine XS.ifYes X0.here hx rfl (pc0 := 59) (pc' := 73) rfl (hb hby at_59) rfl ((if0 _ _).trans (teq hc4).1) (by decide) (by decide) ?_
            show Steps p.tables e below (s₁.setTop (mkF m 73 #[.val (.long q1), .second, .val (.int p2), .val (.int p3), .val (.long (((p3 &&& (7 : Int32)) - (4 : Int32)).toInt64)), .second, .val (.int (p2 &&& (3 : Int32))), .unset, .unset, .unset] [])) _
            refine X0.ldc2Long hx hown (mvT hZ (hw _ (List.mem_of_getElem? (i := 6) rfl))) (g := (mkF m 73 #[.val (.long q1), .second, .val (.int p2), .val (.int p3), .val (.long (((p3 &&& (7 : Int32)) - (4 : Int32)).toInt64)), .second, .val (.int (p2 &&& (3 : Int32))), .unset, .unset, .unset] [])) rfl (hb hby at_73) _ ?_
            show Steps p.tables e below (s₁.setTop (mkF m 76 #[.val (.long q1), .second, .val (.int p2), .val (.int p3), .val (.long (((p3 &&& (7 : Int32)) - (4 : Int32)).toInt64)), .second, .val (.int (p2 &&& (3 : Int32))), .unset, .unset, .unset] [(.long (9223372036854775807 : Int64))])) _
            refine XS.lload X0.here hx rfl (hb hby at_76) rfl ?_
            show Steps p.tables e below (s₁.setTop (mkF m 78 #[.val (.long q1), .second, .val (.int p2), .val (.int p3), .val (.long (((p3 &&& (7 : Int32)) - (4 : Int32)).toInt64)), .second, .val (.int (p2 &&& (3 : Int32))), .unset, .unset, .unset] [(.long (((p3 &&& (7 : Int32)) - (4 : Int32)).toInt64)), (.long (9223372036854775807 : Int64))])) _
            refine XS.ladd X0.here hx rfl (hb hby at_78) rfl ?_
            show Steps p.tables e below (s₁.setTop (mkF m 79 #[.val (.long q1), .second, .val (.int p2), .val (.int p3), .val (.long (((p3 &&& (7 : Int32)) - (4 : Int32)).toInt64)), .second, .val (.int (p2 &&& (3 : Int32))), .unset, .unset, .unset] [(.long ((9223372036854775807 : Int64) + (((p3 &&& (7 : Int32)) - (4 : Int32)).toInt64)))])) _
            refine XS.lstore X0.here hx rfl (hb hby at_79) rfl (l' := #[.val (.long q1), .second, .val (.int p2), .val (.int p3), .val (.long (((p3 &&& (7 : Int32)) - (4 : Int32)).toInt64)), .second, .val (.int (p2 &&& (3 : Int32))), .val (.long ((9223372036854775807 : Int64) + (((p3 &&& (7 : Int32)) - (4 : Int32)).toInt64))), .second, .unset]) rfl ?_
            rw [show v5 = ((9223372036854775807 : Int64) + (((p3 &&& (7 : Int32)) - (4 : Int32)).toInt64)) from hv5.trans ((if_neg hc1).trans ((if_neg hc2).trans ((if_neg hc3).trans (if_pos hc4))))] at k
            exact k
          · refine XS.ifNo X0.here hx rfl (hb hby at_59) rfl ((if0 _ _).trans (feq hc4).1) ?_
            show Steps p.tables e below (s₁.setTop (mkF m 62 #[.val (.long q1), .second, .val (.int p2), .val (.int p3), .val (.long (((p3 &&& (7 : Int32)) - (4 : Int32)).toInt64)), .second, .val (.int (p2 &&& (3 : Int32))), .unset, .unset, .unset] [])) _
            refine X0.ldc2Long hx hown (mvT hZ (hw _ (List.mem_of_getElem? (i := 7) rfl))) (g := (mkF m 62 #[.val (.long q1), .second, .val (.int p2), .val (.int p3), .val (.long (((p3 &&& (7 : Int32)) - (4 : Int32)).toInt64)), .second, .val (.int (p2 &&& (3 : Int32))), .unset, .unset, .unset] [])) rfl (hb hby at_62) _ ?_
            show Steps p.tables e below (s₁.setTop (mkF m 65 #[.val (.long q1), .second, .val (.int p2), .val (.int p3), .val (.long (((p3 &&& (7 : Int32)) - (4 : Int32)).toInt64)), .second, .val (.int (p2 &&& (3 : Int32))), .unset, .unset, .unset] [(.long (-9223372036854775808 : Int64))])) _
            refine XS.lload X0.here hx rfl (hb hby at_65) rfl ?_
            show Steps p.tables e below (s₁.setTop (mkF m 67 #[.val (.long q1), .second, .val (.int p2), .val (.int p3), .val (.long (((p3 &&& (7 : Int32)) - (4 : Int32)).toInt64)), .second, .val (.int (p2 &&& (3 : Int32))), .unset, .unset, .unset] [(.long (((p3 &&& (7 : Int32)) - (4 : Int32)).toInt64)), (.long (-9223372036854775808 : Int64))])) _
            refine XS.lsub X0.here hx rfl (hb hby at_67) rfl ?_
            show Steps p.tables e below (s₁.setTop (mkF m 68 #[.val (.long q1), .second, .val (.int p2), .val (.int p3), .val (.long (((p3 &&& (7 : Int32)) - (4 : Int32)).toInt64)), .second, .val (.int (p2 &&& (3 : Int32))), .unset, .unset, .unset] [(.long ((-9223372036854775808 : Int64) - (((p3 &&& (7 : Int32)) - (4 : Int32)).toInt64)))])) _
            refine XS.lstore X0.here hx rfl (hb hby at_68) rfl (l' := #[.val (.long q1), .second, .val (.int p2), .val (.int p3), .val (.long (((p3 &&& (7 : Int32)) - (4 : Int32)).toInt64)), .second, .val (.int (p2 &&& (3 : Int32))), .val (.long ((-9223372036854775808 : Int64) - (((p3 &&& (7 : Int32)) - (4 : Int32)).toInt64))), .second, .unset]) rfl ?_
            show Steps p.tables e below (s₁.setTop (mkF m 70 #[.val (.long q1), .second, .val (.int p2), .val (.int p3), .val (.long (((p3 &&& (7 : Int32)) - (4 : Int32)).toInt64)), .second, .val (.int (p2 &&& (3 : Int32))), .val (.long ((-9223372036854775808 : Int64) - (((p3 &&& (7 : Int32)) - (4 : Int32)).toInt64))), .second, .unset] [])) _
            refine XS.goto X0.here hx rfl (pc0 := 70) (pc' := 81) rfl (hb hby at_70) (by decide) (by decide) ?_
            rw [show v5 = ((-9223372036854775808 : Int64) - (((p3 &&& (7 : Int32)) - (4 : Int32)).toInt64)) from hv5.trans ((if_neg hc1).trans ((if_neg hc2).trans ((if_neg hc3).trans (if_neg hc4))))] at k
            exact k)
  obtain ⟨v9, hv9⟩ : ∃ z : Int32, z = (if (0 : Int64) < v5 then (if (1000000 : Int64) < v5 then (0 : Int32) else (1 : Int32)) else (0 : Int32)) := ⟨_, rfl⟩
  have pre10 : ∀ t, Steps p.tables e below (s₁.setTop (mkF m 110 #[.val (.long q1), .second, .val (.int p2), .val (.int p3), .val (.long (((p3 &&& (7 : Int32)) - (4 : Int32)).toInt64)), .second, .val (.int (p2 &&& (3 : Int32))), .val (.long v5), .second, .val (.int v9)] [])) t → Steps p.tables e below (s₁.setTop (entryFrame m #[(.long q1), (.int p2), (.int p3)] maxLocals)) t := fun t k => pre6 t (by
    show Steps p.tables e below (s₁.setTop (mkF m 81 #[.val (.long q1), .second, .val (.int p2), .val (.int p3), .val (.long (((p3 &&& (7 : Int32)) - (4 : Int32)).toInt64)), .second, .val (.int (p2 &&& (3 : Int32))), .val (.long v5), .second, .unset] [])) _
    refine XS.lload X0.here hx rfl (hb hby at_81) rfl ?_
    show Steps p.tables e below (s₁.setTop (mkF m 83 #[.val (.long q1), .second, .val (.int p2), .val (.int p3), .val (.long (((p3 &&& (7 : Int32)) - (4 : Int32)).toInt64)), .second, .val (.int (p2 &&& (3 : Int32))), .val (.long v5), .second, .unset] [(.long v5)])) _
    refine XS.lconst X0.here hx rfl (hb hby at_83) ?_
    show Steps p.tables e below (s₁.setTop (mkF m 84 #[.val (.long q1), .second, .val (.int p2), .val (.int p3), .val (.long (((p3 &&& (7 : Int32)) - (4 : Int32)).toInt64)), .second, .val (.int (p2 &&& (3 : Int32))), .val (.long v5), .second, .unset] [(.long (0 : Int64)), (.long v5)])) _
    refine XS.lcmp X0.here hx rfl (hb hby at_84) rfl ?_
    show Steps p.tables e below (s₁.setTop (mkF m 85 #[.val (.long q1), .second, .val (.int p2), .val (.int p3), .val (.long (((p3 &&& (7 : Int32)) - (4 : Int32)).toInt64)), .second, .val (.int (p2 &&& (3 : Int32))), .val (.long v5), .second, .unset] [(.int (lcmpW v5 (0 : Int64)))])) _
    by_cases hc7 : (0 : Int64) < v5
    · refine XS.ifNo X0.here hx rfl (hb hby at_85) rfl ((if0 _ _).trans (tlt (own_lc_tgt hc7)).2.2.2) ?_
      show Steps p.tables e below (s₁.setTop (mkF m 88 #[.val (.long q1), .second, .val (.int p2), .val (.int p3), .val (.long (((p3 &&& (7 : Int32)) - (4 : Int32)).toInt64)), .second, .val (.int (p2 &&& (3 : Int32))), .val (.long v5), .second, .unset] [])) _
      refine XS.lload X0.here hx rfl (hb hby at_88) rfl ?_
      show Steps p.tables e below (s₁.setTop (mkF m 90 #[.val (.long q1), .second, .val (.int p2), .val (.int p3), .val (.long (((p3 &&& (7 : Int32)) - (4 : Int32)).toInt64)), .second, .val (.int (p2 &&& (3 : Int32))), .val (.long v5), .second, .unset] [(.long v5)])) _
      refine X0.ldc2Long hx hown (mvT hZ (hw _ (List.mem_of_getElem? (i := 0) rfl))) (g := (mkF m 90 #[.val (.long q1), .second, .val (.int p2), .val (.int p3), .val (.long (((p3 &&& (7 : Int32)) - (4 : Int32)).toInt64)), .second, .val (.int (p2 &&& (3 : Int32))), .val (.long v5), .second, .unset] [(.long v5)])) rfl (hb hby at_90) _ ?_
      show Steps p.tables e below (s₁.setTop (mkF m 93 #[.val (.long q1), .second, .val (.int p2), .val (.int p3), .val (.long (((p3 &&& (7 : Int32)) - (4 : Int32)).toInt64)), .second, .val (.int (p2 &&& (3 : Int32))), .val (.long v5), .second, .unset] [(.long (1000000 : Int64)), (.long v5)])) _
      refine XS.lcmp X0.here hx rfl (hb hby at_93) rfl ?_
      show Steps p.tables e below (s₁.setTop (mkF m 94 #[.val (.long q1), .second, .val (.int p2), .val (.int p3), .val (.long (((p3 &&& (7 : Int32)) - (4 : Int32)).toInt64)), .second, .val (.int (p2 &&& (3 : Int32))), .val (.long v5), .second, .unset] [(.int (lcmpW v5 (1000000 : Int64)))])) _
      by_cases hc8 : (1000000 : Int64) < v5
      · refine XS.ifYes X0.here hx rfl (pc0 := 94) (pc' := 101) rfl (hb hby at_94) rfl ((if0 _ _).trans (tlt (own_lc_tgt hc8)).2.2.1) (by decide) (by decide) ?_
        show Steps p.tables e below (s₁.setTop (mkF m 101 #[.val (.long q1), .second, .val (.int p2), .val (.int p3), .val (.long (((p3 &&& (7 : Int32)) - (4 : Int32)).toInt64)), .second, .val (.int (p2 &&& (3 : Int32))), .val (.long v5), .second, .unset] [])) _
        refine XS.iconst X0.here hx rfl (hb hby at_101) ?_
        show Steps p.tables e below (s₁.setTop (mkF m 102 #[.val (.long q1), .second, .val (.int p2), .val (.int p3), .val (.long (((p3 &&& (7 : Int32)) - (4 : Int32)).toInt64)), .second, .val (.int (p2 &&& (3 : Int32))), .val (.long v5), .second, .unset] [(.int (0 : Int32))])) _
        refine XS.istore X0.here hx rfl (hb hby at_102) rfl (l' := #[.val (.long q1), .second, .val (.int p2), .val (.int p3), .val (.long (((p3 &&& (7 : Int32)) - (4 : Int32)).toInt64)), .second, .val (.int (p2 &&& (3 : Int32))), .val (.long v5), .second, .val (.int (0 : Int32))]) rfl ?_
        show Steps p.tables e below (s₁.setTop (mkF m 104 #[.val (.long q1), .second, .val (.int p2), .val (.int p3), .val (.long (((p3 &&& (7 : Int32)) - (4 : Int32)).toInt64)), .second, .val (.int (p2 &&& (3 : Int32))), .val (.long v5), .second, .val (.int (0 : Int32))] [])) _
        refine XS.goto X0.here hx rfl (pc0 := 104) (pc' := 110) rfl (hb hby at_104) (by decide) (by decide) ?_
        rw [show v9 = (0 : Int32) from hv9.trans ((if_pos hc7).trans (if_pos hc8))] at k
        exact k
      · refine XS.ifNo X0.here hx rfl (hb hby at_94) rfl ((if0 _ _).trans (flt (own_lc_fgt hc8)).2.2.1) ?_
        show Steps p.tables e below (s₁.setTop (mkF m 97 #[.val (.long q1), .second, .val (.int p2), .val (.int p3), .val (.long (((p3 &&& (7 : Int32)) - (4 : Int32)).toInt64)), .second, .val (.int (p2 &&& (3 : Int32))), .val (.long v5), .second, .unset] [])) _
        refine XS.iconst X0.here hx rfl (hb hby at_97) ?_
        show Steps p.tables e below (s₁.setTop (mkF m 98 #[.val (.long q1), .second, .val (.int p2), .val (.int p3), .val (.long (((p3 &&& (7 : Int32)) - (4 : Int32)).toInt64)), .second, .val (.int (p2 &&& (3 : Int32))), .val (.long v5), .second, .unset] [(.int (1 : Int32))])) _
        refine XS.goto X0.here hx rfl (pc0 := 98) (pc' := 102) rfl (hb hby at_98) (by decide) (by decide) ?_
        show Steps p.tables e below (s₁.setTop (mkF m 102 #[.val (.long q1), .second, .val (.int p2), .val (.int p3), .val (.long (((p3 &&& (7 : Int32)) - (4 : Int32)).toInt64)), .second, .val (.int (p2 &&& (3 : Int32))), .val (.long v5), .second, .unset] [(.int (1 : Int32))])) _
        refine XS.istore X0.here hx rfl (hb hby at_102) rfl (l' := #[.val (.long q1), .second, .val (.int p2), .val (.int p3), .val (.long (((p3 &&& (7 : Int32)) - (4 : Int32)).toInt64)), .second, .val (.int (p2 &&& (3 : Int32))), .val (.long v5), .second, .val (.int (1 : Int32))]) rfl ?_
        show Steps p.tables e below (s₁.setTop (mkF m 104 #[.val (.long q1), .second, .val (.int p2), .val (.int p3), .val (.long (((p3 &&& (7 : Int32)) - (4 : Int32)).toInt64)), .second, .val (.int (p2 &&& (3 : Int32))), .val (.long v5), .second, .val (.int (1 : Int32))] [])) _
        refine XS.goto X0.here hx rfl (pc0 := 104) (pc' := 110) rfl (hb hby at_104) (by decide) (by decide) ?_
        rw [show v9 = (1 : Int32) from hv9.trans ((if_pos hc7).trans (if_neg hc8))] at k
        exact k
    · refine XS.ifYes X0.here hx rfl (pc0 := 85) (pc' := 107) rfl (hb hby at_85) rfl ((if0 _ _).trans (flt (own_lc_fgt hc7)).2.2.2) (by decide) (by decide) ?_
      show Steps p.tables e below (s₁.setTop (mkF m 107 #[.val (.long q1), .second, .val (.int p2), .val (.int p3), .val (.long (((p3 &&& (7 : Int32)) - (4 : Int32)).toInt64)), .second, .val (.int (p2 &&& (3 : Int32))), .val (.long v5), .second, .unset] [])) _
      refine XS.iconst X0.here hx rfl (hb hby at_107) ?_
      show Steps p.tables e below (s₁.setTop (mkF m 108 #[.val (.long q1), .second, .val (.int p2), .val (.int p3), .val (.long (((p3 &&& (7 : Int32)) - (4 : Int32)).toInt64)), .second, .val (.int (p2 &&& (3 : Int32))), .val (.long v5), .second, .unset] [(.int (0 : Int32))])) _
      refine XS.istore X0.here hx rfl (hb hby at_108) rfl (l' := #[.val (.long q1), .second, .val (.int p2), .val (.int p3), .val (.long (((p3 &&& (7 : Int32)) - (4 : Int32)).toInt64)), .second, .val (.int (p2 &&& (3 : Int32))), .val (.long v5), .second, .val (.int (0 : Int32))]) rfl ?_
      rw [show v9 = (0 : Int32) from hv9.trans (if_neg hc7)] at k
      exact k)
  obtain ⟨_, _, ⟨T11, L11, k11, n11⟩, -, X11, ⟨Lc11, hQ11, l11, y11, z11⟩, st11⟩ := Jvm.LawKit.callS X0 hx (y := (⟨"com/example/stockwall/stockwall/Deduction", "isValidQuantity", "(J)Z"⟩ : MethodName)) hown (mvT hZ (hw _ (List.mem_of_getElem? (i := 1) rfl))) (mvT hZ (hw _ (List.mem_of_getElem? (i := 2) rfl))) (mvT hZ (hw _ (List.mem_of_getElem? (i := 3) rfl))) (mvT hZ (hw _ (List.mem_of_getElem? (i := 4) rfl))) (by decide) (backOf (W := 0) (rm1 l Z a0 hw [] v5 h0 n0 Z0) hZ (hw _ (List.mem_of_getElem? (i := 4) rfl)) (hw _ (List.mem_of_getElem? (i := 3) rfl)) (by decide) (by decide)) (g := (mkF m 112 #[.val (.long q1), .second, .val (.int p2), .val (.int p3), .val (.long (((p3 &&& (7 : Int32)) - (4 : Int32)).toInt64)), .second, .val (.int (p2 &&& (3 : Int32))), .val (.long v5), .second, .val (.int v9)] [(.long v5)])) rfl (by rw [hml]; rfl) (argsL := [(.long v5)]) (rest := []) (lenOf pd_0 rfl) rfl (by show 2 * 0 + _ ≤ _; exact Nat.le_of_eq rfl) (hb hby at_112) (fun _ _ => ⟨rfl, e0, (by decide : 0 + 0 ≤ _), (by decide : 0 + 0 ≤ _)⟩)
  dsimp only [Pt.U, Pt.locs, Pt.cells, Pt.slots] at X11 l11 y11 z11 st11 hQ11
  subst l11 y11 z11
  obtain ⟨rfl, N11q, e11⟩ := hQ11
  have N11 := Fr.app N0 N11q
  obtain ⟨v13, hv13⟩ : ∃ z : Int32, z = (if (f1 v5) = v9 then (1 : Int32) else (0 : Int32)) := ⟨_, rfl⟩
  have pre14 : ∀ t, Steps p.tables e below (T11.setTop (mkF m 125 #[.val (.long q1), .second, .val (.int p2), .val (.int p3), .val (.long (((p3 &&& (7 : Int32)) - (4 : Int32)).toInt64)), .second, .val (.int (p2 &&& (3 : Int32))), .val (.long v5), .second, .val (.int v9)] [(.int v13)])) t → Steps p.tables e below (s₁.setTop (entryFrame m #[(.long q1), (.int p2), (.int p3)] maxLocals)) t := fun t k => pre10 t (by
    show Steps p.tables e below (s₁.setTop (mkF m 110 #[.val (.long q1), .second, .val (.int p2), .val (.int p3), .val (.long (((p3 &&& (7 : Int32)) - (4 : Int32)).toInt64)), .second, .val (.int (p2 &&& (3 : Int32))), .val (.long v5), .second, .val (.int v9)] [])) _
    refine XS.lload X0.here hx rfl (hb hby at_110) rfl ?_
    show Steps p.tables e below (s₁.setTop (mkF m 112 #[.val (.long q1), .second, .val (.int p2), .val (.int p3), .val (.long (((p3 &&& (7 : Int32)) - (4 : Int32)).toInt64)), .second, .val (.int (p2 &&& (3 : Int32))), .val (.long v5), .second, .val (.int v9)] [(.long v5)])) _
    refine st11 _ ?_
    show Steps p.tables e below (T11.setTop (mkF m 115 #[.val (.long q1), .second, .val (.int p2), .val (.int p3), .val (.long (((p3 &&& (7 : Int32)) - (4 : Int32)).toInt64)), .second, .val (.int (p2 &&& (3 : Int32))), .val (.long v5), .second, .val (.int v9)] [(.int (f1 v5))])) _
    refine XS.iload X11.here hx rfl (hb hby at_115) rfl ?_
    show Steps p.tables e below (T11.setTop (mkF m 117 #[.val (.long q1), .second, .val (.int p2), .val (.int p3), .val (.long (((p3 &&& (7 : Int32)) - (4 : Int32)).toInt64)), .second, .val (.int (p2 &&& (3 : Int32))), .val (.long v5), .second, .val (.int v9)] [(.int v9), (.int (f1 v5))])) _
    by_cases hc12 : (f1 v5) = v9
    · refine XS.icmpNo X11.here hx rfl (hb hby at_117) rfl (teq hc12).2 ?_
      show Steps p.tables e below (T11.setTop (mkF m 120 #[.val (.long q1), .second, .val (.int p2), .val (.int p3), .val (.long (((p3 &&& (7 : Int32)) - (4 : Int32)).toInt64)), .second, .val (.int (p2 &&& (3 : Int32))), .val (.long v5), .second, .val (.int v9)] [])) _
      refine XS.iconst X11.here hx rfl (hb hby at_120) ?_
      show Steps p.tables e below (T11.setTop (mkF m 121 #[.val (.long q1), .second, .val (.int p2), .val (.int p3), .val (.long (((p3 &&& (7 : Int32)) - (4 : Int32)).toInt64)), .second, .val (.int (p2 &&& (3 : Int32))), .val (.long v5), .second, .val (.int v9)] [(.int (1 : Int32))])) _
      refine XS.goto X11.here hx rfl (pc0 := 121) (pc' := 125) rfl (hb hby at_121) (by decide) (by decide) ?_
      rw [show v13 = (1 : Int32) from hv13.trans (if_pos hc12)] at k
      exact k
    · refine XS.icmpYes X11.here hx rfl (pc0 := 117) (pc' := 124) rfl (hb hby at_117) rfl (feq hc12).2 (by decide) (by decide) ?_
      show Steps p.tables e below (T11.setTop (mkF m 124 #[.val (.long q1), .second, .val (.int p2), .val (.int p3), .val (.long (((p3 &&& (7 : Int32)) - (4 : Int32)).toInt64)), .second, .val (.int (p2 &&& (3 : Int32))), .val (.long v5), .second, .val (.int v9)] [])) _
      refine XS.iconst X11.here hx rfl (hb hby at_124) ?_
      rw [show v13 = (0 : Int32) from hv13.trans (if_neg hc12)] at k
      exact k)
  have er : (f0 q1 p2 p3) = (nar .boolean v13) := by subst hv5 hv9 hv13; exact rfl
  obtain ⟨fs, hr, hrun, hended, hW, hsame⟩ := X11.leave (v := some (.int (nar .boolean v13))) (fun h => by rw [Bd.returns] at h; cases h)
  refine ⟨_, _, pre14 _ ?_, hrun, hended, _, _, rfl, ?_, ⟨_, rfl⟩, hW, hsame.mono (by decide) (by decide)⟩
  · show Steps p.tables e below (T11.setTop (mkF m 125 #[.val (.long q1), .second, .val (.int p2), .val (.int p3), .val (.long (((p3 &&& (7 : Int32)) - (4 : Int32)).toInt64)), .second, .val (.int (p2 &&& (3 : Int32))), .val (.long v5), .second, .val (.int v9)] [(.int v13)])) _
    exact retN X11 hx (t := .boolean) Bd.returns (by simp) (hb hby at_125) hr
  · show Q0 Z q1 p2 p3 h0 n0 _ T11.heap _
    rw [e11]
    exact ⟨congrArg (fun z => some (Value.int z)) er.symm, N11, rfl⟩
theorem own_nat {c : Int32} (n : Nat) (h0 : 0 ≤ c.toInt) (h1 : c.toInt < n) : ∃ k : Nat, k < n ∧ c = Int32.ofInt k :=
  ⟨c.toInt.toNat, by omega, by rw [Int.toNat_of_nonneg h0, Int32.ofInt_toInt]⟩
theorem own_i2c (x : Int32) : 0 ≤ (x.toUInt32.toUInt16.toUInt32.toInt32).toInt ∧ (x.toUInt32.toUInt16.toUInt32.toInt32).toInt < 65536 := by
  have h : (decide ((0 : Int32) ≤ x.toUInt32.toUInt16.toUInt32.toInt32) && decide (x.toUInt32.toUInt16.toUInt32.toInt32 ≤ (65535 : Int32))) = true := fits_nar_char x
  rw [Bool.and_eq_true, decide_eq_true_eq, decide_eq_true_eq, Int32.le_iff_toInt_le, Int32.le_iff_toInt_le] at h
  have e1 : (0 : Int32).toInt = 0 := by decide
  have e2 : (65535 : Int32).toInt = 65535 := by decide
  omega
theorem own_nb (c : Prop) [Decidable c] : nar .boolean (if c then (1 : Int32) else 0) = if c then 1 else 0 := by
  by_cases h : c
  · rw [if_pos h]; decide
  · rw [if_neg h]; decide

theorem own_key (x : Int64) : f1 x = (if (0 : Int64) < x then (if (1000000 : Int64) < x then (0 : Int32) else (1 : Int32)) else (0 : Int32)) := by
  have l0 : (0 : Int64).toInt = 0 := by decide
  have l1 : (1 : Int64).toInt = 1 := by decide
  unfold f1
  by_cases a : (0 : Int64) < x
  · have c : ¬ x < (1 : Int64) := by rw [Int64.lt_iff_toInt_lt] at *; omega
    rw [if_neg c, if_pos a]
    by_cases b : (1000000 : Int64) < x
    · rw [if_pos b]; decide
    · rw [if_neg b]; decide
  · have c : x < (1 : Int64) := by rw [Int64.lt_iff_toInt_lt] at *; omega
    rw [if_pos c, if_neg a]; decide
theorem own_law (q1 : Int64) (p2 p3 : Int32) : f0 q1 p2 p3 = 1 := by
  unfold f0
  rw [if_pos (own_key _)]
  decide
set_option maxRecDepth 65536 in
set_option maxHeartbeats 40000000 in
theorem comes_1 {Post : Tables → Env → Array Value → State → Outcome → State → Prop} (hpost : ∀ tb e args s v u, (limb_1_1.after args s (.returned v) u = true ∧ limb_1_2.after args s (.returned v) u = true ∧ True) → FrameEnd s (.returned v) u (Jvm.fieldLocs frame_1_writes args s ++ Jvm.arrayLocs frame_1_arrays args s ++ Jvm.staticLocs frame_1_statics s) 0 0 → Post tb e args s (.returned v) u) :
    ArmFor flags0 classFile x code maxLocals ret World_1 tables_1 room_1 Calls_1 rest_1 Pre_1 Post := by
  intro l hfl _ _ p e ha hc hk s m args below hf hA hF happ hP
  obtain ⟨hcalls, hrest, hpre⟩ := hP
  obtain ⟨-, -, -, hnamed, -, -, -, hat⟩ := (Spec.applies_iff hf).mp happ
  obtain ⟨hg, hn⟩ := and_e (Cond.before_iff.mp (show (Jvm.Cond.and given_1 narrow_1).before args s = true from hpre))
  obtain ⟨g1, g2⟩ := and_e hg
  obtain ⟨g3, g4⟩ := and_e g2
  obtain ⟨g5, g6⟩ := and_e g4
  obtain ⟨w0, w1, w2, rfl⟩ : ∃ w0 w1 w2 : Value, args = #[w0, w1, w2] := by
    have hs : args.size = 3 := by simpa [Cond.value, given_1] using g1
    obtain ⟨L⟩ := args
    match L, hs with
    | [w0, w1, w2], _ => exact ⟨w0, w1, w2, rfl⟩
  have hw := fun d (hd : d ∈ tables_1) => atoms_spec (ws := Jvm.Cond.code x code maxLocals ret :: tables_1) hat d (List.mem_cons_of_mem _ hd)
  obtain ⟨i0, ei0⟩ := isL_v g3
  obtain rfl : w0 = (.long i0) := Option.some.inj ei0
  obtain ⟨i1, ei1⟩ := is_v g5
  obtain rfl : w1 = (.int i1) := Option.some.inj ei1
  obtain ⟨i2, ei2⟩ := is_v g6
  obtain rfl : w2 = (.int i2) := Option.some.inj ei2
  obtain ⟨n, o, h1, h2, h3, _, L, rfl, ⟨rfl, N, -⟩, hq⟩ := rm0 l s _ hw tables_1 i0 i1 i2 s.heap s.heap.size (Nat.le_refl _) p e ha hc hk s m _ below hf ((Spec.applies_iff_loose hf).mp happ).1 ⟨rfl, State.Warmed39.refl s, rfl⟩ trivial
  refine ⟨n, _, h1, h2, h3, hpost _ _ _ _ _ _ ⟨Cond.after_iff.mpr rfl, Cond.after_iff.mpr (eq_i res_at (Term.int_eval (1)) (congrArg Value.int (own_law i0 i1 i2))), trivial⟩ ⟨hq.1, hq.2.1, (hq.2.2.sift fun y hy => Or.inr (N y hy)).mono (by decide) (by decide)⟩⟩
theorem main_1_1 : Claimed_1_1 := comes_1 fun _ _ _ _ _ _ h hF => ⟨h.1, hF⟩
theorem main_1_2 : Claimed_1_2 := comes_1 fun _ _ _ _ _ _ h hF => ⟨h.2.1, hF⟩
end Jvm.Pilot.@@N@@
namespace Jvm.Pilot.@@N@@
open Jvm Jvm.ClassFile Sem Op Lib Jvm.Free Jvm.Stand Jvm.Pilot.@@N@@.Jvm.D
/-! MADE BY PROGRAM (witnessworld.py) out of the Statement's table words and the real class files: 7 classes; the members and pool entries that the words name. The judged class is class 1, her method 1. -/
namespace start1
open Jvm.ClassFile
def u (s : String) : CpInfo := .utf8 (stringToUtf16 s)
/-- a pool by its gaps: so many unusable entries, then the entry; so many at the end -/
def gap : Nat → List CpInfo → List CpInfo
  | 0, r => r
  | n + 1, r => .unusable :: gap n r
def poolList (es : List (Nat × CpInfo)) (last : Nat) : List CpInfo := es.foldr (fun e r => gap e.1 (e.2 :: r)) (gap last [])
def pool (es : List (Nat × CpInfo)) (last : Nat) : Array CpInfo := ⟨poolList es last⟩
def fileOf (pool : Array CpInfo) (this : Nat) (attrs : Array Attribute := #[]) (ms : Array MethodInfo := #[]) (fl : Nat := 33) (sup : Nat := 0) (ifs : Array Nat := #[]) (fds : Array FieldInfo := #[]) : ClassFile where
  minorVersion := 0
  majorVersion := 65
  constantPool := pool
  accessFlags := fl
  thisClass := this
  superClass := sup
  interfaces := ifs
  fields := fds
  methods := ms
  attributes := attrs
def plain (name : String) (sup : Option ClassId) : Class where
  name := name
  kind := .ordinary
  loader := none
  accessFlags := 33
  super := sup
  interfaces := #[]
  cf := none
  fields := #[]
  methods := #[]
  instanceTypes := #[]
  staticTypes := #[]
  resolved := #[]
  callSites := []
  init := .initialized
  statics := none
  mirror := none

def pool0 : Array CpInfo := pool [(5, u "<init>"), (0, u "()V"), (1, .class_ 10), (1, u "java/lang/Object")] 113

def k0m0 : Method := { name := "<init>", desc := "()V", sig := { parameters := [], returnType := none }, accessFlags := 1, code := none }
/-- java/lang/Object -/
def k0 : Class := { plain "java/lang/Object" none with
  accessFlags := 33
  interfaces := #[]
  cf := some (fileOf pool0 8 #[] #[{ accessFlags := 1, nameIndex := 5, descriptorIndex := 6, attributes := #[] }] 33 0 #[] #[])
  fields := #[]
  methods := #[k0m0]
  instanceTypes := #[]
  staticTypes := #[]
  resolved := Array.replicate 124 none
  statics := none }

def pool1 : Array CpInfo := pool [(2, .class_ 4), (1, u "java/lang/Object"), (0, u "<init>"), (0, u "()V"), (0, .class_ 8), (0, u "com/example/stockwall/stockwall/Deduction"), (0, .long 1000000), (3, .long 9223372036854775808), (1, .long 9223372036854775807), (1, .methodref 7 18), (0, .nameAndType 19 20), (0, u "isValidQuantity"), (0, u "(J)Z"), (0, .class_ 22), (0, u "com/example/stockwall/stockwall/DeductionIsValidQuantityPinLaw"), (2, u "law"), (0, u "(JII)Z")] 3

def k1m0 : Method := { name := "<init>", desc := "()V", sig := { parameters := [], returnType := none }, accessFlags := 1, code := none }
def k1c1 : Code := { maxStack := 4, maxLocals := 10, code := code, exceptionTable := #[], attributes := #[] }
def k1m1 : Method := { name := "law", desc := "(JII)Z", sig := { parameters := [.long, .int, .int], returnType := some .boolean }, accessFlags := 9, code := some k1c1 }
/-- com/example/stockwall/stockwall/DeductionIsValidQuantityPinLaw -/
def k1 : Class := { plain "com/example/stockwall/stockwall/DeductionIsValidQuantityPinLaw" (some 0) with
  accessFlags := 49
  interfaces := #[]
  cf := some (fileOf pool1 21 #[] #[{ accessFlags := 1, nameIndex := 5, descriptorIndex := 6, attributes := #[] }, { accessFlags := 9, nameIndex := 25, descriptorIndex := 26, attributes := #[] }] 49 2 #[] #[])
  fields := #[]
  methods := #[k1m0, k1m1]
  instanceTypes := #[]
  staticTypes := #[]
  resolved := Array.replicate 30 none
  statics := none }

def pool2 : Array CpInfo := pool [(2, .class_ 4), (1, u "java/lang/Object"), (3, .class_ 10), (1, u "com/example/stockwall/stockwall/Deduction"), (0, u "sku"), (0, u "Ljava/lang/String;"), (2, u "order"), (2, u "quantity"), (0, u "J"), (2, u "state"), (0, u "Lcom/example/stockwall/stockwall/DeductionState;"), (0, .long 1000000), (31, u "MAX_QUANTITY"), (4, u "isValidQuantity"), (0, u "(J)Z")] 12

def k2c0 : Code := { maxStack := 4, maxLocals := 2, code := prog_7_method_2_code, exceptionTable := #[], attributes := #[] }
def k2m0 : Method := { name := "isValidQuantity", desc := "(J)Z", sig := { parameters := [.long], returnType := some .boolean }, accessFlags := 9, code := some k2c0 }
/-- com/example/stockwall/stockwall/Deduction -/
def k2 : Class := { plain "com/example/stockwall/stockwall/Deduction" (some 0) with
  accessFlags := 33
  interfaces := #[]
  cf := some (fileOf pool2 8 #[] #[{ accessFlags := 9, nameIndex := 61, descriptorIndex := 62, attributes := #[] }] 33 2 #[] #[{ accessFlags := 25, nameIndex := 56, descriptorIndex := 19, attributes := #[] }, { accessFlags := 18, nameIndex := 11, descriptorIndex := 12, attributes := #[] }, { accessFlags := 18, nameIndex := 15, descriptorIndex := 12, attributes := #[] }, { accessFlags := 18, nameIndex := 18, descriptorIndex := 19, attributes := #[] }, { accessFlags := 18, nameIndex := 22, descriptorIndex := 23, attributes := #[] }])
  fields := #[{ name := "MAX_QUANTITY", type := .long, accessFlags := 25, slot := 0, constantValue := 0 }, { name := "sku", type := (.object "java/lang/String"), accessFlags := 18, slot := 0, constantValue := 0 }, { name := "order", type := (.object "java/lang/String"), accessFlags := 18, slot := 1, constantValue := 0 }, { name := "quantity", type := .long, accessFlags := 18, slot := 2, constantValue := 0 }, { name := "state", type := (.object "com/example/stockwall/stockwall/DeductionState"), accessFlags := 18, slot := 3, constantValue := 0 }]
  methods := #[k2m0]
  instanceTypes := #[(.object "java/lang/String"), (.object "java/lang/String"), .long, (.object "com/example/stockwall/stockwall/DeductionState")]
  staticTypes := #[.long]
  resolved := Array.replicate 75 none
  statics := none }

def pool3 : Array CpInfo := pool [(1, u "java/lang/Cloneable"), (0, .class_ 1), (0, u "java/lang/Object"), (0, .class_ 3)] 3

/-- java/lang/Cloneable -/
def k3 : Class := { plain "java/lang/Cloneable" (some 0) with
  accessFlags := 1537
  interfaces := #[]
  cf := some (fileOf pool3 2 #[] #[] 1537 4 #[] #[])
  fields := #[]
  methods := #[]
  instanceTypes := #[]
  staticTypes := #[]
  resolved := Array.replicate 8 none
  statics := none }

def pool4 : Array CpInfo := pool [(1, u "java/io/Serializable"), (0, .class_ 1), (0, u "java/lang/Object"), (0, .class_ 3)] 3

/-- java/io/Serializable -/
def k4 : Class := { plain "java/io/Serializable" (some 0) with
  accessFlags := 1537
  interfaces := #[]
  cf := some (fileOf pool4 2 #[] #[] 1537 4 #[] #[])
  fields := #[]
  methods := #[]
  instanceTypes := #[]
  staticTypes := #[]
  resolved := Array.replicate 8 none
  statics := none }

/-- the primitive byte -/
def k5 : Class := { plain "byte" none with kind := .primitive 'B', accessFlags := 0x411 }
/-- [B -/
def k6 : Class := { plain "[B" (some 0) with kind := .array 5 .byte, interfaces := #[3, 4], accessFlags := 1041 }

def heap : Heap := #[]
def classes : Array Class := #[k0, k1, k2, k3, k4, k5, k6]
def interned : List (Array UInt16 × Addr) := []
def slotsUsed : Nat := 0
def theMethod : MethodId := ⟨1, 1⟩
def args0 : Array Value := #[.long 300, .int 1, .int 2]
def aboutOver (below : List Frame) : State where
  vm := { classes := classes, interned := interned.toArray }
  heap := heap
  slotsUsed := slotsUsed
  threads := #[{ frames := .invoking theMethod args0 :: below }]
def below0 : List Frame := [.native { method := ⟨0, 0⟩, args := #[] }]
def about1 : State := aboutOver below0
def p0 : Program := .bare "" "" ""
def e0 : Env := launch0.env 0 0 0
theorem w_frames : about1.frames = Frame.invoking theMethod args0 :: below0 := rfl
set_option maxRecDepth 65536 in
theorem w_args : argsFit about1.vm theMethod args0 = true := by decide +kernel
set_option maxRecDepth 65536 in
theorem w_heap : heapFits about1 = true := by decide +kernel
set_option maxRecDepth 65536 in
theorem w_runnable : about1.curStatus? = some .runnable := by decide +kernel
set_option maxRecDepth 65536 in
theorem w_alone : about1.alone = true := by decide +kernel
set_option maxRecDepth 65536 in
theorem w_named : about1.methodNamed? x = some theMethod := by decide +kernel
set_option maxRecDepth 65536 in
theorem w_hears : about1.hears theMethod below0 = true := by decide +kernel
set_option maxRecDepth 65536 in
theorem w_ripe : about1.ripe theMethod args0 below0 = true := by decide +kernel
theorem w_running : about1.status = .running := rfl
set_option maxRecDepth 65536 in
theorem w_room : about1.hasRoom e0.platform room_1 = true :=
  launch0.hasRoom_least _ room_1 (by decide +kernel) (by decide +kernel) (by decide +kernel) (by decide +kernel) (by decide +kernel) (by decide +kernel)
theorem allAtoms_all (ts : List Jvm.Cond) (a : Array Jvm.Value) (st : Jvm.State) : (allAtoms ts).before a st = ts.all (fun c => c.before a st) := by
  induction ts with
  | nil => rfl
  | cons c t ih =>
    show (Jvm.Cond.and c (allAtoms t)).before a st = _
    rw [Jvm.Cond.before_and, ih, List.all_cons]
def words1 : List Jvm.Cond := Jvm.Cond.code x code maxLocals ret :: tables_1
/-- a 'code' word, met by the world's own term for the bytes: nothing is compared byte by byte -/
theorem code_word {y : MethodName} {bytes : ByteArray} {mx : Nat} {rt : Option FieldType} {a : Array Value} {s : State} {m : MethodId} {meth : Method} {c : Code} (h1 : s.methodNamed? y = some m) (h2 : s.vm.method? m = some meth) (h3 : meth.code = some c) (h4 : c.code = bytes)
    (h5 : (c.maxLocals == mx && c.exceptionTable.isEmpty && decide (c.maxStack ≤ mostOperands) && decide (meth.sig.returnType = rt) && !meth.locks && decide (parseMethodDescriptor y.desc = some meth.sig)) = true) : (Jvm.Cond.code y bytes mx rt).before a s = true := by
  simp only [Bool.and_eq_true, beq_iff_eq, Bool.not_eq_true', decide_eq_true_eq] at h5
  obtain ⟨⟨⟨⟨⟨g1, g2⟩, g3⟩, g4⟩, g5⟩, g6⟩ := h5
  simp [Cond.before, Cond.holds, Cond.value, h1, h2, h3, h4, g1, g2, g3, g4, g5, g6]
def isCode : Jvm.Cond → Bool
  | .code _ _ _ _ => true
  | _ => false
theorem all_split {L : List Jvm.Cond} {P : Jvm.Cond → Bool} (h1 : L.all (fun c => isCode c || P c) = true) (h2 : ∀ c ∈ L.filter isCode, P c = true) : L.all P = true := by
  refine List.all_eq_true.mpr fun c hc => ?_
  have h := List.all_eq_true.mp h1 c hc
  rcases Bool.eq_false_or_eq_true (isCode c) with hi | hi
  · exact h2 c (List.mem_filter.mpr ⟨hc, hi⟩)
  · simpa [hi] using h
set_option maxRecDepth 65536 in
theorem w_c0 : (Jvm.Cond.code x code maxLocals ret).before args0 about1 = true := code_word (m := ⟨1, 1⟩) (meth := k1m1) (c := k1c1) (by decide +kernel) rfl rfl rfl (by decide +kernel)
set_option maxRecDepth 65536 in
theorem w_c1 : (Jvm.Cond.code ({ cls := "com/example/stockwall/stockwall/Deduction", name := "isValidQuantity", desc := "(J)Z" } : Jvm.MethodName) prog_7_method_2_code (2 : Nat) (Option.some Jvm.ClassFile.FieldType.boolean)).before args0 about1 = true := code_word (m := ⟨2, 0⟩) (meth := k2m0) (c := k2c0) (by decide +kernel) rfl rfl rfl (by decide +kernel)
def codes1 : List Jvm.Cond := [Jvm.Cond.code x code maxLocals ret, Jvm.Cond.code ({ cls := "com/example/stockwall/stockwall/Deduction", name := "isValidQuantity", desc := "(J)Z" } : Jvm.MethodName) prog_7_method_2_code (2 : Nat) (Option.some Jvm.ClassFile.FieldType.boolean)]
set_option maxRecDepth 65536 in
theorem codes_eq : words1.filter isCode = codes1 := rfl
theorem w_codes : ∀ c ∈ words1.filter isCode, c.before args0 about1 = true := by
  rw [codes_eq]
  intro c hc
  simp only [codes1, List.mem_cons, List.not_mem_nil, or_false] at hc
  rcases hc with rfl | rfl
  · exact w_c0
  · exact w_c1
set_option maxRecDepth 65536 in
theorem w_t1 : words1.all (fun c => isCode c || c.before args0 about1) = true := by decide +kernel
theorem w_tables : (allAtoms (Jvm.Cond.code x code maxLocals ret :: tables_1)).before args0 about1 = true := by
  rw [allAtoms_all]
  show words1.all (fun c => c.before args0 about1) = true
  refine all_split ?_ w_codes
  rw [w_t1]
set_option maxRecDepth 65536 in
theorem w_case : (Jvm.Cond.and given_1 narrow_1).before args0 about1 = true := by decide +kernel
theorem w_applies : (headSpec (Jvm.Cond.code x code maxLocals ret :: tables_1) room_1).applies x e0.platform about1 = true :=
  (Spec.applies_iff w_frames).mpr ⟨w_running, w_runnable, w_alone, w_named, w_hears, w_ripe, w_room, w_tables⟩
theorem atStart : AtStart classFile x code maxLocals ret World_1 tables_1 room_1 Calls_1 rest_1 Pre_1 launch0 p0 e0 about1 theMethod args0 below0 :=
  ⟨lists_1, trivial, launch0.admits_env _ _ _, launch0.least_env, fairChoices_fair.cas, fairChoices_fair.clock, w_frames, w_args, w_heap, w_applies, trivial, trivial, w_case⟩
end start1
theorem witness_1 : WitnessClaimed_1 := ⟨start1.p0, start1.e0, start1.about1, start1.theMethod, start1.args0, start1.below0, start1.atStart⟩
end Jvm.Pilot.@@N@@
