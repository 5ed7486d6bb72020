import JvmDerived
import JvmDerived.Pilot.@@N@@Statement
import JvmDerived.Pilot.@@N@@Code
set_option linter.unusedVariables false
set_option linter.unusedSimpArgs false
namespace Jvm.RoadKit
open Sem ClassFile Op Lib Jvm.Stand Jvm.Free Jvm.LawKit
section New
variable {p : Program} {l : Launch} {e : Env} {R : Room} {s : State} {m : MethodId} {args : Array Value} {below : List Frame} {meth : Method} {c : Code} {T : State} {locs : List Loc} {cells slots : Nat}
theorem retI (X : Stand p l e R s m args below meth c T locs cells slots) (hx : p.tables.exec = Jvm.exec) {pc : Nat} {Ls : Array Slot} {z : Int32} {rest : List Value} (hret : meth.sig.returnType = some .int) (hd : decode c.code pc = .ok (.ireturn, 1)) {fs : List Frame}
    (hl : ∀ (f : JFrame) (acts : List Action), f.method = m → f.locked = none → f.entered = [] → (doReturn e (T.setTop f) acts (some (.int z))).1 = T.setFrames fs) : Steps p.tables e below (T.setTop (mkF m pc Ls (.int z :: rest))) (T.setFrames fs) := by
  have hm' : T.vm.method? m = some meth := X.method'
  have hn : narrow .int (.int z) = .int z := rfl
  show Steps p.tables e below (T.setTop { method := m, pc := pc, locals := Ls, stack := _ :: rest, locked := none }) _
  jvm_step X.here [X.here.top, hx, hd, hm', hret, hn]
  first | (intro acts; rw [hl _ acts rfl rfl rfl]) | rw [hl _ _ rfl rfl rfl]
  exact Steps.refl _
end New
theorem own_lc_tlt {a b : Int64} (h : a < b) : lcmpW a b < 0 := by rw [lcW]; exact (lc_lt _ _).2 h
theorem own_lc_flt {a b : Int64} (h : ¬ a < b) : ¬ lcmpW a b < 0 := by rw [lcW]; exact fun q => h ((lc_lt _ _).1 q)
theorem own_lc_tgt {a b : Int64} (h : b < a) : 0 < lcmpW a b := by rw [lcW]; exact (lc_gt _ _).2 h
theorem own_lc_fgt {a b : Int64} (h : ¬ b < a) : ¬ 0 < lcmpW a b := by rw [lcW]; exact fun q => h ((lc_gt _ _).1 q)
theorem own_lc_teq {a b : Int64} (h : a = b) : lcmpW a b = 0 := by rw [lcW]; exact (lc_eq _ _).2 h
theorem own_lc_feq {a b : Int64} (h : ¬ a = b) : ¬ lcmpW a b = 0 := by rw [lcW]; exact fun q => h ((lc_eq _ _).1 q)
end Jvm.RoadKit
namespace Jvm.Pilot.@@N@@
open Jvm Jvm.ClassFile Sem Op Lib Jvm.Free Jvm.Stand Jvm.LawKit Jvm.RoadKit Bundle Jvm.Pilot.@@N@@.Jvm.D
theorem d1_0 : decode prog_4_method_5_code 0 = .ok (.iload_n 0, 1) := by decide +kernel
theorem d1_1 : decode prog_4_method_5_code 1 = .ok (.bipush 65, 2) := by decide +kernel
theorem d1_3 : decode prog_4_method_5_code 3 = .ok (.if_icmp .lt 17, 3) := by decide +kernel
theorem d1_6 : decode prog_4_method_5_code 6 = .ok (.iload_n 0, 1) := by decide +kernel
theorem d1_7 : decode prog_4_method_5_code 7 = .ok (.bipush 90, 2) := by decide +kernel
theorem d1_9 : decode prog_4_method_5_code 9 = .ok (.if_icmp .gt 11, 3) := by decide +kernel
theorem d1_12 : decode prog_4_method_5_code 12 = .ok (.iload_n 0, 1) := by decide +kernel
theorem d1_13 : decode prog_4_method_5_code 13 = .ok (.bipush 32, 2) := by decide +kernel
theorem d1_15 : decode prog_4_method_5_code 15 = .ok (.iadd, 1) := by decide +kernel
theorem d1_16 : decode prog_4_method_5_code 16 = .ok (.i2c, 1) := by decide +kernel
theorem d1_17 : decode prog_4_method_5_code 17 = .ok (.goto 4, 3) := by decide +kernel
theorem d1_20 : decode prog_4_method_5_code 20 = .ok (.iload_n 0, 1) := by decide +kernel
theorem d1_21 : decode prog_4_method_5_code 21 = .ok (.ireturn, 1) := by decide +kernel
theorem pn_1 : plainName "com/example/cadmus/cadmus/internal/Ascii" = true := by first | (simp [plainName, overriddenIn]; done) | decide +kernel
theorem ef_1 (m : MethodId) (p1 : Int32) : entryFrame m #[(.int p1)] 1 = mkF m 0 #[.val (.int p1)] [] := by first | (simp [entryFrame, mkF, argsToLocals, Value.category]; done) | rfl
def f1 (p1 : Int32) : Int32 :=
  (nar .char (if p1 < (65 : Int32) then p1 else (if (90 : Int32) < p1 then p1 else ((p1 + (32 : Int32)).toUInt32.toUInt16.toUInt32.toInt32))))
def Q1 (Z : State) (p1 : Int32)  (h0 : Heap) (n0 : Nat) (v : Option Value) (h : Heap) (L : List Loc) : Prop := v = some (.int (f1 p1)) ∧ Fr n0 L ∧ h = h0
set_option maxRecDepth 65536 in
set_option maxHeartbeats 40000000 in
theorem rm1 (l : Launch) (Z : State) (a0 : Array Value) (hw : ∀ d ∈ tables_1, d.before a0 Z = true) (ws : List Jvm.Cond) (p1 : Int32)  (h0 : Heap) (n0 : Nat) (Z0 : n0 ≤ h0.size) :
    MetFree l (⟨"com/example/cadmus/cadmus/internal/Ascii", "toLowerCase", "(C)C"⟩ : MethodName) (head1 (Jvm.Cond.code (⟨"com/example/cadmus/cadmus/internal/Ascii", "toLowerCase", "(C)C"⟩ : MethodName) prog_4_method_5_code 1 (some .char) :: ws) ({ frames := 0, cells := 0, slots := 0, locals := 0 } : Room)) (fun a U => a = #[(.int p1)] ∧ Z.Warmed39 U.vm ∧ U.heap = h0) (fun _ _ _ _ _ => True) (fun _ U o U' => ∃ v L, o = .returned v ∧ Q1 Z p1 h0 n0 v U'.heap L ∧ FrameEnd U o U' L ({ frames := 0, cells := 0, slots := 0, locals := 0 } : Room).cells ({ frames := 0, cells := 0, slots := 0, locals := 0 } : Room).slots) := by
  refine MetFree.of_bodySF (plainFor_of_name pn_1) hisR ?_
  intro p e s m args below meth c s₁ Bd hml0 hP hK
  obtain ⟨rfl, hZ, hh⟩ := hP
  have hx := Bd.exec
  have hby := Bd.bytes
  have hml : c.maxLocals = 1 := hml0
  have hown : s.vm.findClass "com/example/cadmus/cadmus/internal/Ascii" = some m.cls := findClass_of_methodNamed Bd.named
  have hnm := (name_of_methodNamed Bd.named Bd.method).1
  have X0 : Stand p l e ({ frames := 0, cells := 0, slots := 0, locals := 0 } : Room) s m #[(.int p1)] below meth c s₁ [] 0 0 := Stand.of_body Bd
  have e0 : s₁.heap = h0 := by rw [← hh, Bd.state]; rfl
  have N0 := Fr.nil n0
  have pre0 : ∀ t, Steps p.tables e below (s₁.setTop (mkF m 0 #[.val (.int p1)] [])) t → Steps p.tables e below (s₁.setTop (entryFrame m #[(.int p1)] 1)) t := fun t k => castTop (ef_1 m p1) k
  obtain ⟨v3, hv3⟩ : ∃ z : Int32, z = (if p1 < (65 : Int32) then p1 else (if (90 : Int32) < p1 then p1 else ((p1 + (32 : Int32)).toUInt32.toUInt16.toUInt32.toInt32))) := ⟨_, rfl⟩
  have pre4 : ∀ t, Steps p.tables e below (s₁.setTop (mkF m 21 #[.val (.int p1)] [(.int v3)])) t → Steps p.tables e below (s₁.setTop (entryFrame m #[(.int p1)] 1)) t := fun t k => pre0 t (by
    show Steps p.tables e below (s₁.setTop (mkF m 0 #[.val (.int p1)] [])) _
    refine XS.iloadN X0.here hx rfl (hb hby d1_0) rfl ?_
    show Steps p.tables e below (s₁.setTop (mkF m 1 #[.val (.int p1)] [(.int p1)])) _
    refine XS.bipush X0.here hx rfl (hb hby d1_1) ?_
    show Steps p.tables e below (s₁.setTop (mkF m 3 #[.val (.int p1)] [(.int (65 : Int32)), (.int p1)])) _
    by_cases hc1 : p1 < (65 : Int32)
    · refine XS.icmpYes X0.here hx rfl (pc0 := 3) (pc' := 20) rfl (hb hby d1_3) rfl (tlt hc1).1 (by decide) (by decide) ?_
      show Steps p.tables e below (s₁.setTop (mkF m 20 #[.val (.int p1)] [])) _
      refine XS.iloadN X0.here hx rfl (hb hby d1_20) rfl ?_
      rw [show v3 = p1 from hv3.trans (if_pos hc1)] at k
      exact k
    · refine XS.icmpNo X0.here hx rfl (hb hby d1_3) rfl (flt hc1).1 ?_
      show Steps p.tables e below (s₁.setTop (mkF m 6 #[.val (.int p1)] [])) _
      refine XS.iloadN X0.here hx rfl (hb hby d1_6) rfl ?_
      show Steps p.tables e below (s₁.setTop (mkF m 7 #[.val (.int p1)] [(.int p1)])) _
      refine XS.bipush X0.here hx rfl (hb hby d1_7) ?_
      show Steps p.tables e below (s₁.setTop (mkF m 9 #[.val (.int p1)] [(.int (90 : Int32)), (.int p1)])) _
      by_cases hc2 : (90 : Int32) < p1
      · refine XS.icmpYes X0.here hx rfl (pc0 := 9) (pc' := 20) rfl (hb hby d1_9) rfl (tlt hc2).2.2.1 (by decide) (by decide) ?_
        show Steps p.tables e below (s₁.setTop (mkF m 20 #[.val (.int p1)] [])) _
        refine XS.iloadN X0.here hx rfl (hb hby d1_20) rfl ?_
        rw [show v3 = p1 from hv3.trans ((if_neg hc1).trans (if_pos hc2))] at k
        exact k
      · refine XS.icmpNo X0.here hx rfl (hb hby d1_9) rfl (flt hc2).2.2.1 ?_
        show Steps p.tables e below (s₁.setTop (mkF m 12 #[.val (.int p1)] [])) _
        refine XS.iloadN X0.here hx rfl (hb hby d1_12) rfl ?_
        show Steps p.tables e below (s₁.setTop (mkF m 13 #[.val (.int p1)] [(.int p1)])) _
        refine XS.bipush X0.here hx rfl (hb hby d1_13) ?_
        show Steps p.tables e below (s₁.setTop (mkF m 15 #[.val (.int p1)] [(.int (32 : Int32)), (.int p1)])) _
        refine XS.iadd X0.here hx rfl (hb hby d1_15) rfl ?_
        show Steps p.tables e below (s₁.setTop (mkF m 16 #[.val (.int p1)] [(.int (p1 + (32 : Int32)))])) _
        refine XS.i2c X0.here hx rfl (hb hby d1_16) rfl ?_
        show Steps p.tables e below (s₁.setTop (mkF m 17 #[.val (.int p1)] [(.int ((p1 + (32 : Int32)).toUInt32.toUInt16.toUInt32.toInt32))])) _
        refine XS.goto X0.here hx rfl (pc0 := 17) (pc' := 21) rfl (hb hby d1_17) (by decide) (by decide) ?_
        rw [show v3 = ((p1 + (32 : Int32)).toUInt32.toUInt16.toUInt32.toInt32) from hv3.trans ((if_neg hc1).trans (if_neg hc2))] at k
        exact k)
  have er : (f1 p1) = (nar .char v3) := by subst hv3; exact rfl
  obtain ⟨fs, hr, hrun, hended, hW, hsame⟩ := X0.leave (v := some (.int (nar .char v3))) (fun h => by rw [Bd.returns] at h; cases h)
  refine ⟨_, _, pre4 _ ?_, hrun, hended, _, _, rfl, ?_, ⟨_, rfl⟩, hW, hsame.mono (by decide) (by decide)⟩
  · show Steps p.tables e below (s₁.setTop (mkF m 21 #[.val (.int p1)] [(.int v3)])) _
    exact retN X0 hx (t := .char) Bd.returns (by simp) (hb hby d1_21) hr
  · show Q1 Z p1 h0 n0 _ s₁.heap _
    rw [e0]
    exact ⟨congrArg (fun z => some (Value.int z)) er.symm, N0, rfl⟩
theorem pd_0 : parseMethodDescriptor "(C)C" = some ⟨[.char], some .char⟩ := by decide +kernel
theorem pn_0 : plainName "com/example/cadmus/cadmus/internal/AsciiToLowerCasePinLaw" = true := by first | (simp [plainName, overriddenIn]; done) | decide +kernel
theorem ef_0 (m : MethodId) (p1 : Int32) : entryFrame m #[(.int p1)] maxLocals = mkF m 0 #[.val (.int p1), .unset, .unset, .unset, .unset] [] := by first | (simp [entryFrame, mkF, argsToLocals, Value.category, maxLocals]; done) | rfl
def f0 (p1 : Int32) : Int32 :=
  (if (f1 ((p1 &&& (65535 : Int32)).toUInt32.toUInt16.toUInt32.toInt32)) = (if (if ((p1 &&& (65535 : Int32)).toUInt32.toUInt16.toUInt32.toInt32) < (65 : Int32) then (0 : Int32) else (if (90 : Int32) < ((p1 &&& (65535 : Int32)).toUInt32.toUInt16.toUInt32.toInt32) then (0 : Int32) else (1 : Int32))) = (0 : Int32) then ((p1 &&& (65535 : Int32)).toUInt32.toUInt16.toUInt32.toInt32) else ((((p1 &&& (65535 : Int32)).toUInt32.toUInt16.toUInt32.toInt32) ||| (32 : Int32)).toUInt32.toUInt16.toUInt32.toInt32)) then (nar .boolean (if (f1 (f1 ((p1 &&& (65535 : Int32)).toUInt32.toUInt16.toUInt32.toInt32))) = (f1 ((p1 &&& (65535 : Int32)).toUInt32.toUInt16.toUInt32.toInt32)) then (1 : Int32) else (0 : Int32))) else (0 : Int32))
def Q0 (Z : State) (p1 : Int32)  (h0 : Heap) (n0 : Nat) (v : Option Value) (h : Heap) (L : List Loc) : Prop := v = some (.int (f0 p1)) ∧ Fr n0 L ∧ h = h0
set_option maxRecDepth 65536 in
set_option maxHeartbeats 40000000 in
theorem rm0 (l : Launch) (Z : State) (a0 : Array Value) (hw : ∀ d ∈ tables_1, d.before a0 Z = true) (ws : List Jvm.Cond) (p1 : Int32)  (h0 : Heap) (n0 : Nat) (Z0 : n0 ≤ h0.size) :
    MetFree l x (head1 (Jvm.Cond.code x code maxLocals ret :: ws) room_1) (fun a U => a = #[(.int p1)] ∧ Z.Warmed39 U.vm ∧ U.heap = h0) (fun _ _ _ _ _ => True) (fun _ U o U' => ∃ v L, o = .returned v ∧ Q0 Z p1 h0 n0 v U'.heap L ∧ FrameEnd U o U' L room_1.cells room_1.slots) := by
  refine MetFree.of_bodySF (plainFor_of_name pn_0) hisR ?_
  intro p e s m args below meth c s₁ Bd hml0 hP hK
  obtain ⟨rfl, hZ, hh⟩ := hP
  have hx := Bd.exec
  have hby := Bd.bytes
  have hml : c.maxLocals = 5 := hml0
  have hown : s.vm.findClass "com/example/cadmus/cadmus/internal/AsciiToLowerCasePinLaw" = some m.cls := findClass_of_methodNamed Bd.named
  have hnm := (name_of_methodNamed Bd.named Bd.method).1
  have X0 : Stand p l e room_1 s m #[(.int p1)] below meth c s₁ [] 0 0 := Stand.of_body Bd
  have e0 : s₁.heap = h0 := by rw [← hh, Bd.state]; rfl
  have N0 := Fr.nil n0
  have pre0 : ∀ t, Steps p.tables e below (s₁.setTop (mkF m 0 #[.val (.int p1), .unset, .unset, .unset, .unset] [])) t → Steps p.tables e below (s₁.setTop (entryFrame m #[(.int p1)] maxLocals)) t := fun t k => castTop (ef_0 m p1) k
  obtain ⟨_, _, ⟨T1, L1, k1, n1⟩, -, X1, ⟨Lc1, hQ1, l1, y1, z1⟩, st1⟩ := Jvm.LawKit.callS X0 hx (y := (⟨"com/example/cadmus/cadmus/internal/Ascii", "toLowerCase", "(C)C"⟩ : MethodName)) hown (mvT hZ (hw _ (List.mem_of_getElem? (i := 1) rfl))) (mvT hZ (hw _ (List.mem_of_getElem? (i := 2) rfl))) (mvT hZ (hw _ (List.mem_of_getElem? (i := 3) rfl))) (mvT hZ (hw _ (List.mem_of_getElem? (i := 4) rfl))) (by decide) (backOf (W := 0) (rm1 l Z a0 hw [] ((p1 &&& (65535 : Int32)).toUInt32.toUInt16.toUInt32.toInt32) h0 n0 Z0) hZ (hw _ (List.mem_of_getElem? (i := 4) rfl)) (hw _ (List.mem_of_getElem? (i := 3) rfl)) (by decide) (by decide)) (g := (mkF m 7 #[.val (.int p1), .val (.int ((p1 &&& (65535 : Int32)).toUInt32.toUInt16.toUInt32.toInt32)), .unset, .unset, .unset] [(.int ((p1 &&& (65535 : Int32)).toUInt32.toUInt16.toUInt32.toInt32))])) rfl (by rw [hml]; rfl) (argsL := [(.int ((p1 &&& (65535 : Int32)).toUInt32.toUInt16.toUInt32.toInt32))]) (rest := []) (lenOf pd_0 rfl) rfl (by show 2 * 0 + _ ≤ _; exact Nat.le_of_eq rfl) (hb hby at_7) (fun _ _ => ⟨rfl, e0, (by decide : 0 + 0 ≤ _), (by decide : 0 + 0 ≤ _)⟩)
  dsimp only [Pt.U, Pt.locs, Pt.cells, Pt.slots] at X1 l1 y1 z1 st1 hQ1
  subst l1 y1 z1
  obtain ⟨rfl, N1q, e1⟩ := hQ1
  have N1 := Fr.app N0 N1q
  obtain ⟨v4, hv4⟩ : ∃ z : Int32, z = (if ((p1 &&& (65535 : Int32)).toUInt32.toUInt16.toUInt32.toInt32) < (65 : Int32) then (0 : Int32) else (if (90 : Int32) < ((p1 &&& (65535 : Int32)).toUInt32.toUInt16.toUInt32.toInt32) then (0 : Int32) else (1 : Int32))) := ⟨_, rfl⟩
  have pre5 : ∀ t, Steps p.tables e below (T1.setTop (mkF m 28 #[.val (.int p1), .val (.int ((p1 &&& (65535 : Int32)).toUInt32.toUInt16.toUInt32.toInt32)), .val (.int (f1 ((p1 &&& (65535 : Int32)).toUInt32.toUInt16.toUInt32.toInt32))), .unset, .unset] [(.int v4)])) t → Steps p.tables e below (s₁.setTop (entryFrame m #[(.int p1)] maxLocals)) t := fun t k => pre0 t (by
    show Steps p.tables e below (s₁.setTop (mkF m 0 #[.val (.int p1), .unset, .unset, .unset, .unset] [])) _
    refine XS.iloadN X0.here hx rfl (hb hby at_0) rfl ?_
    show Steps p.tables e below (s₁.setTop (mkF m 1 #[.val (.int p1), .unset, .unset, .unset, .unset] [(.int p1)])) _
    refine X0.ldcInt hx hown (mvT hZ (hw _ (List.mem_of_getElem? (i := 0) rfl))) (g := (mkF m 1 #[.val (.int p1), .unset, .unset, .unset, .unset] [(.int p1)])) rfl (hb hby at_1) _ ?_
    show Steps p.tables e below (s₁.setTop (mkF m 3 #[.val (.int p1), .unset, .unset, .unset, .unset] [(.int (65535 : Int32)), (.int p1)])) _
    refine XS.iand X0.here hx rfl (hb hby at_3) rfl ?_
    show Steps p.tables e below (s₁.setTop (mkF m 4 #[.val (.int p1), .unset, .unset, .unset, .unset] [(.int (p1 &&& (65535 : Int32)))])) _
    refine XS.i2c X0.here hx rfl (hb hby at_4) rfl ?_
    show Steps p.tables e below (s₁.setTop (mkF m 5 #[.val (.int p1), .unset, .unset, .unset, .unset] [(.int ((p1 &&& (65535 : Int32)).toUInt32.toUInt16.toUInt32.toInt32))])) _
    refine XS.istoreN X0.here hx rfl (hb hby at_5) rfl (l' := #[.val (.int p1), .val (.int ((p1 &&& (65535 : Int32)).toUInt32.toUInt16.toUInt32.toInt32)), .unset, .unset, .unset]) rfl ?_
    show Steps p.tables e below (s₁.setTop (mkF m 6 #[.val (.int p1), .val (.int ((p1 &&& (65535 : Int32)).toUInt32.toUInt16.toUInt32.toInt32)), .unset, .unset, .unset] [])) _
    refine XS.iloadN X0.here hx rfl (hb hby at_6) rfl ?_
    show Steps p.tables e below (s₁.setTop (mkF m 7 #[.val (.int p1), .val (.int ((p1 &&& (65535 : Int32)).toUInt32.toUInt16.toUInt32.toInt32)), .unset, .unset, .unset] [(.int ((p1 &&& (65535 : Int32)).toUInt32.toUInt16.toUInt32.toInt32))])) _
    refine st1 _ ?_
    show Steps p.tables e below (T1.setTop (mkF m 10 #[.val (.int p1), .val (.int ((p1 &&& (65535 : Int32)).toUInt32.toUInt16.toUInt32.toInt32)), .unset, .unset, .unset] [(.int (f1 ((p1 &&& (65535 : Int32)).toUInt32.toUInt16.toUInt32.toInt32)))])) _
    refine XS.istoreN X1.here hx rfl (hb hby at_10) rfl (l' := #[.val (.int p1), .val (.int ((p1 &&& (65535 : Int32)).toUInt32.toUInt16.toUInt32.toInt32)), .val (.int (f1 ((p1 &&& (65535 : Int32)).toUInt32.toUInt16.toUInt32.toInt32))), .unset, .unset]) rfl ?_
    show Steps p.tables e below (T1.setTop (mkF m 11 #[.val (.int p1), .val (.int ((p1 &&& (65535 : Int32)).toUInt32.toUInt16.toUInt32.toInt32)), .val (.int (f1 ((p1 &&& (65535 : Int32)).toUInt32.toUInt16.toUInt32.toInt32))), .unset, .unset] [])) _
    refine XS.iloadN X1.here hx rfl (hb hby at_11) rfl ?_
    show Steps p.tables e below (T1.setTop (mkF m 12 #[.val (.int p1), .val (.int ((p1 &&& (65535 : Int32)).toUInt32.toUInt16.toUInt32.toInt32)), .val (.int (f1 ((p1 &&& (65535 : Int32)).toUInt32.toUInt16.toUInt32.toInt32))), .unset, .unset] [(.int ((p1 &&& (65535 : Int32)).toUInt32.toUInt16.toUInt32.toInt32))])) _
    refine XS.bipush X1.here hx rfl (hb hby at_12) ?_
    show Steps p.tables e below (T1.setTop (mkF m 14 #[.val (.int p1), .val (.int ((p1 &&& (65535 : Int32)).toUInt32.toUInt16.toUInt32.toInt32)), .val (.int (f1 ((p1 &&& (65535 : Int32)).toUInt32.toUInt16.toUInt32.toInt32))), .unset, .unset] [(.int (65 : Int32)), (.int ((p1 &&& (65535 : Int32)).toUInt32.toUInt16.toUInt32.toInt32))])) _
    by_cases hc2 : ((p1 &&& (65535 : Int32)).toUInt32.toUInt16.toUInt32.toInt32) < (65 : Int32)
    · refine XS.icmpYes X1.here hx rfl (pc0 := 14) (pc' := 27) rfl (hb hby at_14) rfl (tlt hc2).1 (by decide) (by decide) ?_
      show Steps p.tables e below (T1.setTop (mkF m 27 #[.val (.int p1), .val (.int ((p1 &&& (65535 : Int32)).toUInt32.toUInt16.toUInt32.toInt32)), .val (.int (f1 ((p1 &&& (65535 : Int32)).toUInt32.toUInt16.toUInt32.toInt32))), .unset, .unset] [])) _
      refine XS.iconst X1.here hx rfl (hb hby at_27) ?_
      rw [show v4 = (0 : Int32) from hv4.trans (if_pos hc2)] at k
      exact k
    · refine XS.icmpNo X1.here hx rfl (hb hby at_14) rfl (flt hc2).1 ?_
      show Steps p.tables e below (T1.setTop (mkF m 17 #[.val (.int p1), .val (.int ((p1 &&& (65535 : Int32)).toUInt32.toUInt16.toUInt32.toInt32)), .val (.int (f1 ((p1 &&& (65535 : Int32)).toUInt32.toUInt16.toUInt32.toInt32))), .unset, .unset] [])) _
      refine XS.iloadN X1.here hx rfl (hb hby at_17) rfl ?_
      show Steps p.tables e below (T1.setTop (mkF m 18 #[.val (.int p1), .val (.int ((p1 &&& (65535 : Int32)).toUInt32.toUInt16.toUInt32.toInt32)), .val (.int (f1 ((p1 &&& (65535 : Int32)).toUInt32.toUInt16.toUInt32.toInt32))), .unset, .unset] [(.int ((p1 &&& (65535 : Int32)).toUInt32.toUInt16.toUInt32.toInt32))])) _
      refine XS.bipush X1.here hx rfl (hb hby at_18) ?_
      show Steps p.tables e below (T1.setTop (mkF m 20 #[.val (.int p1), .val (.int ((p1 &&& (65535 : Int32)).toUInt32.toUInt16.toUInt32.toInt32)), .val (.int (f1 ((p1 &&& (65535 : Int32)).toUInt32.toUInt16.toUInt32.toInt32))), .unset, .unset] [(.int (90 : Int32)), (.int ((p1 &&& (65535 : Int32)).toUInt32.toUInt16.toUInt32.toInt32))])) _
      by_cases hc3 : (90 : Int32) < ((p1 &&& (65535 : Int32)).toUInt32.toUInt16.toUInt32.toInt32)
      · refine XS.icmpYes X1.here hx rfl (pc0 := 20) (pc' := 27) rfl (hb hby at_20) rfl (tlt hc3).2.2.1 (by decide) (by decide) ?_
        show Steps p.tables e below (T1.setTop (mkF m 27 #[.val (.int p1), .val (.int ((p1 &&& (65535 : Int32)).toUInt32.toUInt16.toUInt32.toInt32)), .val (.int (f1 ((p1 &&& (65535 : Int32)).toUInt32.toUInt16.toUInt32.toInt32))), .unset, .unset] [])) _
        refine XS.iconst X1.here hx rfl (hb hby at_27) ?_
        rw [show v4 = (0 : Int32) from hv4.trans ((if_neg hc2).trans (if_pos hc3))] at k
        exact k
      · refine XS.icmpNo X1.here hx rfl (hb hby at_20) rfl (flt hc3).2.2.1 ?_
        show Steps p.tables e below (T1.setTop (mkF m 23 #[.val (.int p1), .val (.int ((p1 &&& (65535 : Int32)).toUInt32.toUInt16.toUInt32.toInt32)), .val (.int (f1 ((p1 &&& (65535 : Int32)).toUInt32.toUInt16.toUInt32.toInt32))), .unset, .unset] [])) _
        refine XS.iconst X1.here hx rfl (hb hby at_23) ?_
        show Steps p.tables e below (T1.setTop (mkF m 24 #[.val (.int p1), .val (.int ((p1 &&& (65535 : Int32)).toUInt32.toUInt16.toUInt32.toInt32)), .val (.int (f1 ((p1 &&& (65535 : Int32)).toUInt32.toUInt16.toUInt32.toInt32))), .unset, .unset] [(.int (1 : Int32))])) _
        refine XS.goto X1.here hx rfl (pc0 := 24) (pc' := 28) rfl (hb hby at_24) (by decide) (by decide) ?_
        rw [show v4 = (1 : Int32) from hv4.trans ((if_neg hc2).trans (if_neg hc3))] at k
        exact k)
  obtain ⟨v7, hv7⟩ : ∃ z : Int32, z = (if v4 = (0 : Int32) then ((p1 &&& (65535 : Int32)).toUInt32.toUInt16.toUInt32.toInt32) else ((((p1 &&& (65535 : Int32)).toUInt32.toUInt16.toUInt32.toInt32) ||| (32 : Int32)).toUInt32.toUInt16.toUInt32.toInt32)) := ⟨_, rfl⟩
  have pre8 : ∀ t, Steps p.tables e below (T1.setTop (mkF m 42 #[.val (.int p1), .val (.int ((p1 &&& (65535 : Int32)).toUInt32.toUInt16.toUInt32.toInt32)), .val (.int (f1 ((p1 &&& (65535 : Int32)).toUInt32.toUInt16.toUInt32.toInt32))), .val (.int v4), .unset] [(.int v7)])) t → Steps p.tables e below (s₁.setTop (entryFrame m #[(.int p1)] maxLocals)) t := fun t k => pre5 t (by
    show Steps p.tables e below (T1.setTop (mkF m 28 #[.val (.int p1), .val (.int ((p1 &&& (65535 : Int32)).toUInt32.toUInt16.toUInt32.toInt32)), .val (.int (f1 ((p1 &&& (65535 : Int32)).toUInt32.toUInt16.toUInt32.toInt32))), .unset, .unset] [(.int v4)])) _
    refine XS.istoreN X1.here hx rfl (hb hby at_28) rfl (l' := #[.val (.int p1), .val (.int ((p1 &&& (65535 : Int32)).toUInt32.toUInt16.toUInt32.toInt32)), .val (.int (f1 ((p1 &&& (65535 : Int32)).toUInt32.toUInt16.toUInt32.toInt32))), .val (.int v4), .unset]) rfl ?_
    show Steps p.tables e below (T1.setTop (mkF m 29 #[.val (.int p1), .val (.int ((p1 &&& (65535 : Int32)).toUInt32.toUInt16.toUInt32.toInt32)), .val (.int (f1 ((p1 &&& (65535 : Int32)).toUInt32.toUInt16.toUInt32.toInt32))), .val (.int v4), .unset] [])) _
    refine XS.iloadN X1.here hx rfl (hb hby at_29) rfl ?_
    show Steps p.tables e below (T1.setTop (mkF m 30 #[.val (.int p1), .val (.int ((p1 &&& (65535 : Int32)).toUInt32.toUInt16.toUInt32.toInt32)), .val (.int (f1 ((p1 &&& (65535 : Int32)).toUInt32.toUInt16.toUInt32.toInt32))), .val (.int v4), .unset] [(.int v4)])) _
    by_cases hc6 : v4 = (0 : Int32)
    · refine XS.ifYes X1.here hx rfl (pc0 := 30) (pc' := 41) rfl (hb hby at_30) rfl ((if0 _ _).trans (teq hc6).1) (by decide) (by decide) ?_
      show Steps p.tables e below (T1.setTop (mkF m 41 #[.val (.int p1), .val (.int ((p1 &&& (65535 : Int32)).toUInt32.toUInt16.toUInt32.toInt32)), .val (.int (f1 ((p1 &&& (65535 : Int32)).toUInt32.toUInt16.toUInt32.toInt32))), .val (.int v4), .unset] [])) _
      refine XS.iloadN X1.here hx rfl (hb hby at_41) rfl ?_
      rw [show v7 = ((p1 &&& (65535 : Int32)).toUInt32.toUInt16.toUInt32.toInt32) from hv7.trans (if_pos hc6)] at k
      exact k
    · refine XS.ifNo X1.here hx rfl (hb hby at_30) rfl ((if0 _ _).trans (feq hc6).1) ?_
      show Steps p.tables e below (T1.setTop (mkF m 33 #[.val (.int p1), .val (.int ((p1 &&& (65535 : Int32)).toUInt32.toUInt16.toUInt32.toInt32)), .val (.int (f1 ((p1 &&& (65535 : Int32)).toUInt32.toUInt16.toUInt32.toInt32))), .val (.int v4), .unset] [])) _
      refine XS.iloadN X1.here hx rfl (hb hby at_33) rfl ?_
      show Steps p.tables e below (T1.setTop (mkF m 34 #[.val (.int p1), .val (.int ((p1 &&& (65535 : Int32)).toUInt32.toUInt16.toUInt32.toInt32)), .val (.int (f1 ((p1 &&& (65535 : Int32)).toUInt32.toUInt16.toUInt32.toInt32))), .val (.int v4), .unset] [(.int ((p1 &&& (65535 : Int32)).toUInt32.toUInt16.toUInt32.toInt32))])) _
      refine XS.bipush X1.here hx rfl (hb hby at_34) ?_
      show Steps p.tables e below (T1.setTop (mkF m 36 #[.val (.int p1), .val (.int ((p1 &&& (65535 : Int32)).toUInt32.toUInt16.toUInt32.toInt32)), .val (.int (f1 ((p1 &&& (65535 : Int32)).toUInt32.toUInt16.toUInt32.toInt32))), .val (.int v4), .unset] [(.int (32 : Int32)), (.int ((p1 &&& (65535 : Int32)).toUInt32.toUInt16.toUInt32.toInt32))])) _
      refine XS.ior X1.here hx rfl (hb hby at_36) rfl ?_
      show Steps p.tables e below (T1.setTop (mkF m 37 #[.val (.int p1), .val (.int ((p1 &&& (65535 : Int32)).toUInt32.toUInt16.toUInt32.toInt32)), .val (.int (f1 ((p1 &&& (65535 : Int32)).toUInt32.toUInt16.toUInt32.toInt32))), .val (.int v4), .unset] [(.int (((p1 &&& (65535 : Int32)).toUInt32.toUInt16.toUInt32.toInt32) ||| (32 : Int32)))])) _
      refine XS.i2c X1.here hx rfl (hb hby at_37) rfl ?_
      show Steps p.tables e below (T1.setTop (mkF m 38 #[.val (.int p1), .val (.int ((p1 &&& (65535 : Int32)).toUInt32.toUInt16.toUInt32.toInt32)), .val (.int (f1 ((p1 &&& (65535 : Int32)).toUInt32.toUInt16.toUInt32.toInt32))), .val (.int v4), .unset] [(.int ((((p1 &&& (65535 : Int32)).toUInt32.toUInt16.toUInt32.toInt32) ||| (32 : Int32)).toUInt32.toUInt16.toUInt32.toInt32))])) _
      refine XS.goto X1.here hx rfl (pc0 := 38) (pc' := 42) rfl (hb hby at_38) (by decide) (by decide) ?_
      rw [show v7 = ((((p1 &&& (65535 : Int32)).toUInt32.toUInt16.toUInt32.toInt32) ||| (32 : Int32)).toUInt32.toUInt16.toUInt32.toInt32) from hv7.trans (if_neg hc6)] at k
      exact k)
  have pre9 : ∀ t, Steps p.tables e below (T1.setTop (mkF m 47 #[.val (.int p1), .val (.int ((p1 &&& (65535 : Int32)).toUInt32.toUInt16.toUInt32.toInt32)), .val (.int (f1 ((p1 &&& (65535 : Int32)).toUInt32.toUInt16.toUInt32.toInt32))), .val (.int v4), .val (.int v7)] [(.int v7), (.int (f1 ((p1 &&& (65535 : Int32)).toUInt32.toUInt16.toUInt32.toInt32)))])) t → Steps p.tables e below (s₁.setTop (entryFrame m #[(.int p1)] maxLocals)) t := fun t k => pre8 t (by
    show Steps p.tables e below (T1.setTop (mkF m 42 #[.val (.int p1), .val (.int ((p1 &&& (65535 : Int32)).toUInt32.toUInt16.toUInt32.toInt32)), .val (.int (f1 ((p1 &&& (65535 : Int32)).toUInt32.toUInt16.toUInt32.toInt32))), .val (.int v4), .unset] [(.int v7)])) _
    refine XS.istore X1.here hx rfl (hb hby at_42) rfl (l' := #[.val (.int p1), .val (.int ((p1 &&& (65535 : Int32)).toUInt32.toUInt16.toUInt32.toInt32)), .val (.int (f1 ((p1 &&& (65535 : Int32)).toUInt32.toUInt16.toUInt32.toInt32))), .val (.int v4), .val (.int v7)]) rfl ?_
    show Steps p.tables e below (T1.setTop (mkF m 44 #[.val (.int p1), .val (.int ((p1 &&& (65535 : Int32)).toUInt32.toUInt16.toUInt32.toInt32)), .val (.int (f1 ((p1 &&& (65535 : Int32)).toUInt32.toUInt16.toUInt32.toInt32))), .val (.int v4), .val (.int v7)] [])) _
    refine XS.iloadN X1.here hx rfl (hb hby at_44) rfl ?_
    show Steps p.tables e below (T1.setTop (mkF m 45 #[.val (.int p1), .val (.int ((p1 &&& (65535 : Int32)).toUInt32.toUInt16.toUInt32.toInt32)), .val (.int (f1 ((p1 &&& (65535 : Int32)).toUInt32.toUInt16.toUInt32.toInt32))), .val (.int v4), .val (.int v7)] [(.int (f1 ((p1 &&& (65535 : Int32)).toUInt32.toUInt16.toUInt32.toInt32)))])) _
    refine XS.iload X1.here hx rfl (hb hby at_45) rfl ?_
    exact k)
  by_cases hc10 : (f1 ((p1 &&& (65535 : Int32)).toUInt32.toUInt16.toUInt32.toInt32)) = v7
  · obtain ⟨_, _, ⟨T11, L11, k11, n11⟩, -, X11, ⟨Lc11, hQ11, l11, y11, z11⟩, st11⟩ := Jvm.LawKit.callS X1 hx (y := (⟨"com/example/cadmus/cadmus/internal/Ascii", "toLowerCase", "(C)C"⟩ : MethodName)) hown (mvT hZ (hw _ (List.mem_of_getElem? (i := 1) rfl))) (mvT hZ (hw _ (List.mem_of_getElem? (i := 2) rfl))) (mvT hZ (hw _ (List.mem_of_getElem? (i := 3) rfl))) (mvT hZ (hw _ (List.mem_of_getElem? (i := 4) rfl))) (by decide) (backOf (W := 0) (rm1 l Z a0 hw [] (f1 ((p1 &&& (65535 : Int32)).toUInt32.toUInt16.toUInt32.toInt32)) h0 n0 Z0) hZ (hw _ (List.mem_of_getElem? (i := 4) rfl)) (hw _ (List.mem_of_getElem? (i := 3) rfl)) (by decide) (by decide)) (g := (mkF m 51 #[.val (.int p1), .val (.int ((p1 &&& (65535 : Int32)).toUInt32.toUInt16.toUInt32.toInt32)), .val (.int (f1 ((p1 &&& (65535 : Int32)).toUInt32.toUInt16.toUInt32.toInt32))), .val (.int v4), .val (.int v7)] [(.int (f1 ((p1 &&& (65535 : Int32)).toUInt32.toUInt16.toUInt32.toInt32)))])) rfl (by rw [hml]; rfl) (argsL := [(.int (f1 ((p1 &&& (65535 : Int32)).toUInt32.toUInt16.toUInt32.toInt32)))]) (rest := []) (lenOf pd_0 rfl) rfl (by show 2 * 0 + _ ≤ _; exact Nat.le_of_eq rfl) (hb hby at_51) (fun _ _ => ⟨rfl, e1, (by decide : 0 + 0 ≤ _), (by decide : 0 + 0 ≤ _)⟩)
    dsimp only [Pt.U, Pt.locs, Pt.cells, Pt.slots] at X11 l11 y11 z11 st11 hQ11
    subst l11 y11 z11
    obtain ⟨rfl, N11q, e11⟩ := hQ11
    have N11 := Fr.app N1 N11q
    obtain ⟨v13, hv13⟩ : ∃ z : Int32, z = (if (f1 (f1 ((p1 &&& (65535 : Int32)).toUInt32.toUInt16.toUInt32.toInt32))) = (f1 ((p1 &&& (65535 : Int32)).toUInt32.toUInt16.toUInt32.toInt32)) then (1 : Int32) else (0 : Int32)) := ⟨_, rfl⟩
    have pre14 : ∀ t, Steps p.tables e below (T11.setTop (mkF m 63 #[.val (.int p1), .val (.int ((p1 &&& (65535 : Int32)).toUInt32.toUInt16.toUInt32.toInt32)), .val (.int (f1 ((p1 &&& (65535 : Int32)).toUInt32.toUInt16.toUInt32.toInt32))), .val (.int v4), .val (.int v7)] [(.int v13)])) t → Steps p.tables e below (s₁.setTop (entryFrame m #[(.int p1)] maxLocals)) t := fun t k => pre9 t (by
      show Steps p.tables e below (T1.setTop (mkF m 47 #[.val (.int p1), .val (.int ((p1 &&& (65535 : Int32)).toUInt32.toUInt16.toUInt32.toInt32)), .val (.int (f1 ((p1 &&& (65535 : Int32)).toUInt32.toUInt16.toUInt32.toInt32))), .val (.int v4), .val (.int v7)] [(.int v7), (.int (f1 ((p1 &&& (65535 : Int32)).toUInt32.toUInt16.toUInt32.toInt32)))])) _
      refine XS.icmpNo X1.here hx rfl (hb hby at_47) rfl (teq hc10).2 ?_
      show Steps p.tables e below (T1.setTop (mkF m 50 #[.val (.int p1), .val (.int ((p1 &&& (65535 : Int32)).toUInt32.toUInt16.toUInt32.toInt32)), .val (.int (f1 ((p1 &&& (65535 : Int32)).toUInt32.toUInt16.toUInt32.toInt32))), .val (.int v4), .val (.int v7)] [])) _
      refine XS.iloadN X1.here hx rfl (hb hby at_50) rfl ?_
      show Steps p.tables e below (T1.setTop (mkF m 51 #[.val (.int p1), .val (.int ((p1 &&& (65535 : Int32)).toUInt32.toUInt16.toUInt32.toInt32)), .val (.int (f1 ((p1 &&& (65535 : Int32)).toUInt32.toUInt16.toUInt32.toInt32))), .val (.int v4), .val (.int v7)] [(.int (f1 ((p1 &&& (65535 : Int32)).toUInt32.toUInt16.toUInt32.toInt32)))])) _
      refine st11 _ ?_
      show Steps p.tables e below (T11.setTop (mkF m 54 #[.val (.int p1), .val (.int ((p1 &&& (65535 : Int32)).toUInt32.toUInt16.toUInt32.toInt32)), .val (.int (f1 ((p1 &&& (65535 : Int32)).toUInt32.toUInt16.toUInt32.toInt32))), .val (.int v4), .val (.int v7)] [(.int (f1 (f1 ((p1 &&& (65535 : Int32)).toUInt32.toUInt16.toUInt32.toInt32))))])) _
      refine XS.iloadN X11.here hx rfl (hb hby at_54) rfl ?_
      show Steps p.tables e below (T11.setTop (mkF m 55 #[.val (.int p1), .val (.int ((p1 &&& (65535 : Int32)).toUInt32.toUInt16.toUInt32.toInt32)), .val (.int (f1 ((p1 &&& (65535 : Int32)).toUInt32.toUInt16.toUInt32.toInt32))), .val (.int v4), .val (.int v7)] [(.int (f1 ((p1 &&& (65535 : Int32)).toUInt32.toUInt16.toUInt32.toInt32))), (.int (f1 (f1 ((p1 &&& (65535 : Int32)).toUInt32.toUInt16.toUInt32.toInt32))))])) _
      by_cases hc12 : (f1 (f1 ((p1 &&& (65535 : Int32)).toUInt32.toUInt16.toUInt32.toInt32))) = (f1 ((p1 &&& (65535 : Int32)).toUInt32.toUInt16.toUInt32.toInt32))
      · refine XS.icmpNo X11.here hx rfl (hb hby at_55) rfl (teq hc12).2 ?_
        show Steps p.tables e below (T11.setTop (mkF m 58 #[.val (.int p1), .val (.int ((p1 &&& (65535 : Int32)).toUInt32.toUInt16.toUInt32.toInt32)), .val (.int (f1 ((p1 &&& (65535 : Int32)).toUInt32.toUInt16.toUInt32.toInt32))), .val (.int v4), .val (.int v7)] [])) _
        refine XS.iconst X11.here hx rfl (hb hby at_58) ?_
        show Steps p.tables e below (T11.setTop (mkF m 59 #[.val (.int p1), .val (.int ((p1 &&& (65535 : Int32)).toUInt32.toUInt16.toUInt32.toInt32)), .val (.int (f1 ((p1 &&& (65535 : Int32)).toUInt32.toUInt16.toUInt32.toInt32))), .val (.int v4), .val (.int v7)] [(.int (1 : Int32))])) _
        refine XS.goto X11.here hx rfl (pc0 := 59) (pc' := 63) rfl (hb hby at_59) (by decide) (by decide) ?_
        rw [show v13 = (1 : Int32) from hv13.trans (if_pos hc12)] at k
        exact k
      · refine XS.icmpYes X11.here hx rfl (pc0 := 55) (pc' := 62) rfl (hb hby at_55) rfl (feq hc12).2 (by decide) (by decide) ?_
        show Steps p.tables e below (T11.setTop (mkF m 62 #[.val (.int p1), .val (.int ((p1 &&& (65535 : Int32)).toUInt32.toUInt16.toUInt32.toInt32)), .val (.int (f1 ((p1 &&& (65535 : Int32)).toUInt32.toUInt16.toUInt32.toInt32))), .val (.int v4), .val (.int v7)] [])) _
        refine XS.iconst X11.here hx rfl (hb hby at_62) ?_
        rw [show v13 = (0 : Int32) from hv13.trans (if_neg hc12)] at k
        exact k)
    have er : (f0 p1) = (nar .boolean v13) := by subst hv4 hv7 hv13; exact (if_pos hc10)
    obtain ⟨fs, hr, hrun, hended, hW, hsame⟩ := X11.leave (v := some (.int (nar .boolean v13))) (fun h => by rw [Bd.returns] at h; cases h)
    refine ⟨_, _, pre14 _ ?_, hrun, hended, _, _, rfl, ?_, ⟨_, rfl⟩, hW, hsame.mono (by decide) (by decide)⟩
    · show Steps p.tables e below (T11.setTop (mkF m 63 #[.val (.int p1), .val (.int ((p1 &&& (65535 : Int32)).toUInt32.toUInt16.toUInt32.toInt32)), .val (.int (f1 ((p1 &&& (65535 : Int32)).toUInt32.toUInt16.toUInt32.toInt32))), .val (.int v4), .val (.int v7)] [(.int v13)])) _
      exact retN X11 hx (t := .boolean) Bd.returns (by simp) (hb hby at_63) hr
    · show Q0 Z p1 h0 n0 _ T11.heap _
      rw [e11]
      exact ⟨congrArg (fun z => some (Value.int z)) er.symm, N11, rfl⟩
  · have er : (f0 p1) = (0 : Int32) := by subst hv4 hv7; exact (if_neg hc10)
    obtain ⟨fs, hr, hrun, hended, hW, hsame⟩ := X1.leave (v := some (.int (0 : Int32))) (fun h => by rw [Bd.returns] at h; cases h)
    refine ⟨_, _, pre9 _ ?_, hrun, hended, _, _, rfl, ?_, ⟨_, rfl⟩, hW, hsame.mono (by decide) (by decide)⟩
    · show Steps p.tables e below (T1.setTop (mkF m 47 #[.val (.int p1), .val (.int ((p1 &&& (65535 : Int32)).toUInt32.toUInt16.toUInt32.toInt32)), .val (.int (f1 ((p1 &&& (65535 : Int32)).toUInt32.toUInt16.toUInt32.toInt32))), .val (.int v4), .val (.int v7)] [(.int v7), (.int (f1 ((p1 &&& (65535 : Int32)).toUInt32.toUInt16.toUInt32.toInt32)))])) _
      refine XS.icmpYes X1.here hx rfl (pc0 := 47) (pc' := 62) rfl (hb hby at_47) rfl (feq hc10).2 (by decide) (by decide) ?_
      show Steps p.tables e below (T1.setTop (mkF m 62 #[.val (.int p1), .val (.int ((p1 &&& (65535 : Int32)).toUInt32.toUInt16.toUInt32.toInt32)), .val (.int (f1 ((p1 &&& (65535 : Int32)).toUInt32.toUInt16.toUInt32.toInt32))), .val (.int v4), .val (.int v7)] [])) _
      refine XS.iconst X1.here hx rfl (hb hby at_62) ?_
      show Steps p.tables e below (T1.setTop (mkF m 63 #[.val (.int p1), .val (.int ((p1 &&& (65535 : Int32)).toUInt32.toUInt16.toUInt32.toInt32)), .val (.int (f1 ((p1 &&& (65535 : Int32)).toUInt32.toUInt16.toUInt32.toInt32))), .val (.int v4), .val (.int v7)] [(.int (0 : Int32))])) _
      exact retN X1 hx (t := .boolean) Bd.returns (by simp) (hb hby at_63) hr
    · show Q0 Z p1 h0 n0 _ T1.heap _
      rw [e1]
      exact ⟨congrArg (fun z => some (Value.int z)) er.symm, N1, rfl⟩
theorem own_nat {c : Int32} (n : Nat) (h0 : 0 ≤ c.toInt) (h1 : c.toInt < n) : ∃ k : Nat, k < n ∧ c = Int32.ofInt k :=
  ⟨c.toInt.toNat, by omega, by rw [Int.toNat_of_nonneg h0, Int32.ofInt_toInt]⟩
theorem own_i2c (x : Int32) : 0 ≤ (x.toUInt32.toUInt16.toUInt32.toInt32).toInt ∧ (x.toUInt32.toUInt16.toUInt32.toInt32).toInt < 65536 := by
  have h : (decide ((0 : Int32) ≤ x.toUInt32.toUInt16.toUInt32.toInt32) && decide (x.toUInt32.toUInt16.toUInt32.toInt32 ≤ (65535 : Int32))) = true := fits_nar_char x
  rw [Bool.and_eq_true, decide_eq_true_eq, decide_eq_true_eq, Int32.le_iff_toInt_le, Int32.le_iff_toInt_le] at h
  have e1 : (0 : Int32).toInt = 0 := by decide
  have e2 : (65535 : Int32).toInt = 65535 := by decide
  omega
theorem own_nb (c : Prop) [Decidable c] : nar .boolean (if c then (1 : Int32) else 0) = if c then 1 else 0 := by
  by_cases h : c
  · rw [if_pos h]; decide
  · rw [if_neg h]; decide

theorem own_idem (x : Int32) : (x.toUInt32.toUInt16.toUInt32.toInt32).toUInt32.toUInt16.toUInt32.toInt32 = x.toUInt32.toUInt16.toUInt32.toInt32 := by
  have h1 := c_i2c x
  have h2 := c_i2c (x.toUInt32.toUInt16.toUInt32.toInt32)
  apply Int32.toInt_inj.mp
  omega
theorem own_key (c : Int32) (h0 : 0 ≤ c.toInt) (h1 : c.toInt < 65536) (hi : c.toUInt32.toUInt16.toUInt32.toInt32 = c) :
    f1 c = (if (if c < (65 : Int32) then (0 : Int32) else (if (90 : Int32) < c then (0 : Int32) else (1 : Int32))) = (0 : Int32) then c else ((c ||| (32 : Int32)).toUInt32.toUInt16.toUInt32.toInt32)) ∧ f1 (f1 c) = f1 c := by
  have e3 : (65 : Int32).toInt = 65 := by decide
  have e4 : (90 : Int32).toInt = 90 := by decide
  by_cases h : c < (65 : Int32)
  · have e : f1 c = c := by unfold f1; rw [if_pos h]; exact hi
    rw [if_pos h, if_pos rfl, e, e]; exact ⟨rfl, rfl⟩
  · by_cases h' : (90 : Int32) < c
    · have e : f1 c = c := by unfold f1; rw [if_neg h, if_pos h']; exact hi
      rw [if_neg h, if_pos h', if_pos rfl, e, e]; exact ⟨rfl, rfl⟩
    · rw [Int32.lt_iff_toInt_lt] at h h'
      obtain ⟨k, hk, rfl⟩ := own_nat (c := c) 91 h0 (by omega)
      have hk2 : 65 ≤ k := by
        apply Nat.le_of_not_lt; intro q
        exact h (Int32.lt_iff_toInt_lt.mp ((by decide +kernel : ∀ k : Nat, k < 65 → Int32.ofInt k < (65 : Int32)) k q))
      exact (by decide +kernel : ∀ k : Nat, k < 91 → 65 ≤ k → f1 (Int32.ofInt k) = (if (if (Int32.ofInt k) < (65 : Int32) then (0 : Int32) else (if (90 : Int32) < (Int32.ofInt k) then (0 : Int32) else (1 : Int32))) = (0 : Int32) then (Int32.ofInt k) else (((Int32.ofInt k) ||| (32 : Int32)).toUInt32.toUInt16.toUInt32.toInt32)) ∧ f1 (f1 (Int32.ofInt k)) = f1 (Int32.ofInt k)) k hk hk2
theorem own_law (p1 : Int32) : f0 p1 = 1 := by
  unfold f0
  have h := own_key _ (own_i2c (p1 &&& (65535 : Int32))).1 (own_i2c _).2 (own_idem _)
  rw [if_pos h.1, if_pos h.2]
  decide
set_option maxRecDepth 65536 in
set_option maxHeartbeats 40000000 in
theorem comes_1 {Post : Tables → Env → Array Value → State → Outcome → State → Prop} (hpost : ∀ tb e args s v u, (limb_1_1.after args s (.returned v) u = true ∧ limb_1_2.after args s (.returned v) u = true ∧ True) → FrameEnd s (.returned v) u (Jvm.fieldLocs frame_1_writes args s ++ Jvm.arrayLocs frame_1_arrays args s ++ Jvm.staticLocs frame_1_statics s) 0 0 → Post tb e args s (.returned v) u) :
    ArmFor flags0 classFile x code maxLocals ret World_1 tables_1 room_1 Calls_1 rest_1 Pre_1 Post := by
  intro l hfl _ _ p e ha hc hk s m args below hf hA hF happ hP
  obtain ⟨hcalls, hrest, hpre⟩ := hP
  obtain ⟨-, -, -, hnamed, -, -, -, hat⟩ := (Spec.applies_iff hf).mp happ
  obtain ⟨hg, hn⟩ := and_e (Cond.before_iff.mp (show (Jvm.Cond.and given_1 narrow_1).before args s = true from hpre))
  obtain ⟨g1, g2⟩ := and_e hg
  obtain ⟨w0, rfl⟩ : ∃ w0 : Value, args = #[w0] := by
    have hs : args.size = 1 := by simpa [Cond.value, given_1] using g1
    obtain ⟨L⟩ := args
    match L, hs with
    | [w0], _ => exact ⟨w0, rfl⟩
  have hw := fun d (hd : d ∈ tables_1) => atoms_spec (ws := Jvm.Cond.code x code maxLocals ret :: tables_1) hat d (List.mem_cons_of_mem _ hd)
  obtain ⟨i0, ei0⟩ := is_v g2
  obtain rfl : w0 = (.int i0) := Option.some.inj ei0
  obtain ⟨n, o, h1, h2, h3, _, L, rfl, ⟨rfl, N, -⟩, hq⟩ := rm0 l s _ hw tables_1 i0 s.heap s.heap.size (Nat.le_refl _) p e ha hc hk s m _ below hf ((Spec.applies_iff_loose hf).mp happ).1 ⟨rfl, State.Warmed39.refl s, rfl⟩ trivial
  refine ⟨n, _, h1, h2, h3, hpost _ _ _ _ _ _ ⟨Cond.after_iff.mpr rfl, Cond.after_iff.mpr (eq_i res_at (Term.int_eval (1)) (congrArg Value.int (own_law i0))), trivial⟩ ⟨hq.1, hq.2.1, (hq.2.2.sift fun y hy => Or.inr (N y hy)).mono (by decide) (by decide)⟩⟩
theorem main_1_1 : Claimed_1_1 := comes_1 fun _ _ _ _ _ _ h hF => ⟨h.1, hF⟩
theorem main_1_2 : Claimed_1_2 := comes_1 fun _ _ _ _ _ _ h hF => ⟨h.2.1, hF⟩
end Jvm.Pilot.@@N@@
namespace Jvm.Pilot.@@N@@
open Jvm Jvm.ClassFile Sem Op Lib Jvm.Free Jvm.Stand Jvm.Pilot.@@N@@.Jvm.D
/-! MADE BY PROGRAM (witnessworld.py) out of the Statement's table words and the real class files: 7 classes; the members and pool entries that the words name. The judged class is class 1, her method 1. -/
namespace start1
open Jvm.ClassFile
def u (s : String) : CpInfo := .utf8 (stringToUtf16 s)
/-- a pool by its gaps: so many unusable entries, then the entry; so many at the end -/
def gap : Nat → List CpInfo → List CpInfo
  | 0, r => r
  | n + 1, r => .unusable :: gap n r
def poolList (es : List (Nat × CpInfo)) (last : Nat) : List CpInfo := es.foldr (fun e r => gap e.1 (e.2 :: r)) (gap last [])
def pool (es : List (Nat × CpInfo)) (last : Nat) : Array CpInfo := ⟨poolList es last⟩
def fileOf (pool : Array CpInfo) (this : Nat) (attrs : Array Attribute := #[]) (ms : Array MethodInfo := #[]) (fl : Nat := 33) (sup : Nat := 0) (ifs : Array Nat := #[]) (fds : Array FieldInfo := #[]) : ClassFile where
  minorVersion := 0
  majorVersion := 65
  constantPool := pool
  accessFlags := fl
  thisClass := this
  superClass := sup
  interfaces := ifs
  fields := fds
  methods := ms
  attributes := attrs
def plain (name : String) (sup : Option ClassId) : Class where
  name := name
  kind := .ordinary
  loader := none
  accessFlags := 33
  super := sup
  interfaces := #[]
  cf := none
  fields := #[]
  methods := #[]
  instanceTypes := #[]
  staticTypes := #[]
  resolved := #[]
  callSites := []
  init := .initialized
  statics := none
  mirror := none

def pool0 : Array CpInfo := pool [(5, u "<init>"), (0, u "()V"), (1, .class_ 10), (1, u "java/lang/Object")] 113

def k0m0 : Method := { name := "<init>", desc := "()V", sig := { parameters := [], returnType := none }, accessFlags := 1, code := none }
/-- java/lang/Object -/
def k0 : Class := { plain "java/lang/Object" none with
  accessFlags := 33
  interfaces := #[]
  cf := some (fileOf pool0 8 #[] #[{ accessFlags := 1, nameIndex := 5, descriptorIndex := 6, attributes := #[] }] 33 0 #[] #[])
  fields := #[]
  methods := #[k0m0]
  instanceTypes := #[]
  staticTypes := #[]
  resolved := Array.replicate 124 none
  statics := none }

def pool1 : Array CpInfo := pool [(2, .class_ 4), (1, u "java/lang/Object"), (0, u "<init>"), (0, u "()V"), (0, .integer 65535), (0, .methodref 9 10), (0, .class_ 11), (0, .nameAndType 12 13), (0, u "com/example/cadmus/cadmus/internal/Ascii"), (0, u "toLowerCase"), (0, u "(C)C"), (0, .class_ 15), (0, u "com/example/cadmus/cadmus/internal/AsciiToLowerCasePinLaw"), (2, u "law"), (0, u "(I)Z")] 3

def k1m0 : Method := { name := "<init>", desc := "()V", sig := { parameters := [], returnType := none }, accessFlags := 2, code := none }
def k1c1 : Code := { maxStack := 2, maxLocals := 5, code := code, exceptionTable := #[], attributes := #[] }
def k1m1 : Method := { name := "law", desc := "(I)Z", sig := { parameters := [.int], returnType := some .boolean }, accessFlags := 9, code := some k1c1 }
/-- com/example/cadmus/cadmus/internal/AsciiToLowerCasePinLaw -/
def k1 : Class := { plain "com/example/cadmus/cadmus/internal/AsciiToLowerCasePinLaw" (some 0) with
  accessFlags := 49
  interfaces := #[]
  cf := some (fileOf pool1 14 #[] #[{ accessFlags := 2, nameIndex := 5, descriptorIndex := 6, attributes := #[] }, { accessFlags := 9, nameIndex := 18, descriptorIndex := 19, attributes := #[] }] 49 2 #[] #[])
  fields := #[]
  methods := #[k1m0, k1m1]
  instanceTypes := #[]
  staticTypes := #[]
  resolved := Array.replicate 23 none
  statics := none }

def pool2 : Array CpInfo := pool [(2, .class_ 4), (1, u "java/lang/Object"), (0, u "<init>"), (0, u "()V"), (1, .class_ 10), (1, u "com/example/cadmus/cadmus/internal/Ascii"), (8, u "toLowerCase"), (0, u "(C)C")] 2

def k2m0 : Method := { name := "<init>", desc := "()V", sig := { parameters := [], returnType := none }, accessFlags := 2, code := none }
def k2c1 : Code := { maxStack := 2, maxLocals := 1, code := prog_4_method_5_code, exceptionTable := #[], attributes := #[] }
def k2m1 : Method := { name := "toLowerCase", desc := "(C)C", sig := { parameters := [.char], returnType := some .char }, accessFlags := 8, code := some k2c1 }
/-- com/example/cadmus/cadmus/internal/Ascii -/
def k2 : Class := { plain "com/example/cadmus/cadmus/internal/Ascii" (some 0) with
  accessFlags := 32
  interfaces := #[]
  cf := some (fileOf pool2 8 #[] #[{ accessFlags := 2, nameIndex := 5, descriptorIndex := 6, attributes := #[] }, { accessFlags := 8, nameIndex := 19, descriptorIndex := 20, attributes := #[] }] 32 2 #[] #[])
  fields := #[]
  methods := #[k2m0, k2m1]
  instanceTypes := #[]
  staticTypes := #[]
  resolved := Array.replicate 23 none
  statics := none }

def pool3 : Array CpInfo := pool [(1, u "java/lang/Cloneable"), (0, .class_ 1), (0, u "java/lang/Object"), (0, .class_ 3)] 3

/-- java/lang/Cloneable -/
def k3 : Class := { plain "java/lang/Cloneable" (some 0) with
  accessFlags := 1537
  interfaces := #[]
  cf := some (fileOf pool3 2 #[] #[] 1537 4 #[] #[])
  fields := #[]
  methods := #[]
  instanceTypes := #[]
  staticTypes := #[]
  resolved := Array.replicate 8 none
  statics := none }

def pool4 : Array CpInfo := pool [(1, u "java/io/Serializable"), (0, .class_ 1), (0, u "java/lang/Object"), (0, .class_ 3)] 3

/-- java/io/Serializable -/
def k4 : Class := { plain "java/io/Serializable" (some 0) with
  accessFlags := 1537
  interfaces := #[]
  cf := some (fileOf pool4 2 #[] #[] 1537 4 #[] #[])
  fields := #[]
  methods := #[]
  instanceTypes := #[]
  staticTypes := #[]
  resolved := Array.replicate 8 none
  statics := none }

/-- the primitive byte -/
def k5 : Class := { plain "byte" none with kind := .primitive 'B', accessFlags := 0x411 }
/-- [B -/
def k6 : Class := { plain "[B" (some 0) with kind := .array 5 .byte, interfaces := #[3, 4], accessFlags := 1041 }

def heap : Heap := #[]
def classes : Array Class := #[k0, k1, k2, k3, k4, k5, k6]
def interned : List (Array UInt16 × Addr) := []
def slotsUsed : Nat := 0
def theMethod : MethodId := ⟨1, 1⟩
def args0 : Array Value := #[.int 65]
def aboutOver (below : List Frame) : State where
  vm := { classes := classes, interned := interned.toArray }
  heap := heap
  slotsUsed := slotsUsed
  threads := #[{ frames := .invoking theMethod args0 :: below }]
def below0 : List Frame := [.native { method := ⟨0, 0⟩, args := #[] }]
def about1 : State := aboutOver below0
def p0 : Program := .bare "" "" ""
def e0 : Env := launch0.env 0 0 0
theorem w_frames : about1.frames = Frame.invoking theMethod args0 :: below0 := rfl
set_option maxRecDepth 65536 in
theorem w_args : argsFit about1.vm theMethod args0 = true := by decide +kernel
set_option maxRecDepth 65536 in
theorem w_heap : heapFits about1 = true := by decide +kernel
set_option maxRecDepth 65536 in
theorem w_runnable : about1.curStatus? = some .runnable := by decide +kernel
set_option maxRecDepth 65536 in
theorem w_alone : about1.alone = true := by decide +kernel
set_option maxRecDepth 65536 in
theorem w_named : about1.methodNamed? x = some theMethod := by decide +kernel
set_option maxRecDepth 65536 in
theorem w_hears : about1.hears theMethod below0 = true := by decide +kernel
set_option maxRecDepth 65536 in
theorem w_ripe : about1.ripe theMethod args0 below0 = true := by decide +kernel
theorem w_running : about1.status = .running := rfl
set_option maxRecDepth 65536 in
theorem w_room : about1.hasRoom e0.platform room_1 = true :=
  launch0.hasRoom_least _ room_1 (by decide +kernel) (by decide +kernel) (by decide +kernel) (by decide +kernel) (by decide +kernel) (by decide +kernel)
theorem allAtoms_all (ts : List Jvm.Cond) (a : Array Jvm.Value) (st : Jvm.State) : (allAtoms ts).before a st = ts.all (fun c => c.before a st) := by
  induction ts with
  | nil => rfl
  | cons c t ih =>
    show (Jvm.Cond.and c (allAtoms t)).before a st = _
    rw [Jvm.Cond.before_and, ih, List.all_cons]
def words1 : List Jvm.Cond := Jvm.Cond.code x code maxLocals ret :: tables_1
/-- a 'code' word, met by the world's own term for the bytes: nothing is compared byte by byte -/
theorem code_word {y : MethodName} {bytes : ByteArray} {mx : Nat} {rt : Option FieldType} {a : Array Value} {s : State} {m : MethodId} {meth : Method} {c : Code} (h1 : s.methodNamed? y = some m) (h2 : s.vm.method? m = some meth) (h3 : meth.code = some c) (h4 : c.code = bytes)
    (h5 : (c.maxLocals == mx && c.exceptionTable.isEmpty && decide (c.maxStack ≤ mostOperands) && decide (meth.sig.returnType = rt) && !meth.locks && decide (parseMethodDescriptor y.desc = some meth.sig)) = true) : (Jvm.Cond.code y bytes mx rt).before a s = true := by
  simp only [Bool.and_eq_true, beq_iff_eq, Bool.not_eq_true', decide_eq_true_eq] at h5
  obtain ⟨⟨⟨⟨⟨g1, g2⟩, g3⟩, g4⟩, g5⟩, g6⟩ := h5
  simp [Cond.before, Cond.holds, Cond.value, h1, h2, h3, h4, g1, g2, g3, g4, g5, g6]
def isCode : Jvm.Cond → Bool
  | .code _ _ _ _ => true
  | _ => false
theorem all_split {L : List Jvm.Cond} {P : Jvm.Cond → Bool} (h1 : L.all (fun c => isCode c || P c) = true) (h2 : ∀ c ∈ L.filter isCode, P c = true) : L.all P = true := by
  refine List.all_eq_true.mpr fun c hc => ?_
  have h := List.all_eq_true.mp h1 c hc
  rcases Bool.eq_false_or_eq_true (isCode c) with hi | hi
  · exact h2 c (List.mem_filter.mpr ⟨hc, hi⟩)
  · simpa [hi] using h
set_option maxRecDepth 65536 in
theorem w_c0 : (Jvm.Cond.code x code maxLocals ret).before args0 about1 = true := code_word (m := ⟨1, 1⟩) (meth := k1m1) (c := k1c1) (by decide +kernel) rfl rfl rfl (by decide +kernel)
set_option maxRecDepth 65536 in
theorem w_c1 : (Jvm.Cond.code ({ cls := "com/example/cadmus/cadmus/internal/Ascii", name := "toLowerCase", desc := "(C)C" } : Jvm.MethodName) prog_4_method_5_code (1 : Nat) (Option.some Jvm.ClassFile.FieldType.char)).before args0 about1 = true := code_word (m := ⟨2, 1⟩) (meth := k2m1) (c := k2c1) (by decide +kernel) rfl rfl rfl (by decide +kernel)
def codes1 : List Jvm.Cond := [Jvm.Cond.code x code maxLocals ret, Jvm.Cond.code ({ cls := "com/example/cadmus/cadmus/internal/Ascii", name := "toLowerCase", desc := "(C)C" } : Jvm.MethodName) prog_4_method_5_code (1 : Nat) (Option.some Jvm.ClassFile.FieldType.char)]
set_option maxRecDepth 65536 in
theorem codes_eq : words1.filter isCode = codes1 := rfl
theorem w_codes : ∀ c ∈ words1.filter isCode, c.before args0 about1 = true := by
  rw [codes_eq]
  intro c hc
  simp only [codes1, List.mem_cons, List.not_mem_nil, or_false] at hc
  rcases hc with rfl | rfl
  · exact w_c0
  · exact w_c1
set_option maxRecDepth 65536 in
theorem w_t1 : words1.all (fun c => isCode c || c.before args0 about1) = true := by decide +kernel
theorem w_tables : (allAtoms (Jvm.Cond.code x code maxLocals ret :: tables_1)).before args0 about1 = true := by
  rw [allAtoms_all]
  show words1.all (fun c => c.before args0 about1) = true
  refine all_split ?_ w_codes
  rw [w_t1]
set_option maxRecDepth 65536 in
theorem w_case : (Jvm.Cond.and given_1 narrow_1).before args0 about1 = true := by decide +kernel
theorem w_applies : (headSpec (Jvm.Cond.code x code maxLocals ret :: tables_1) room_1).applies x e0.platform about1 = true :=
  (Spec.applies_iff w_frames).mpr ⟨w_running, w_runnable, w_alone, w_named, w_hears, w_ripe, w_room, w_tables⟩
theorem atStart : AtStart classFile x code maxLocals ret World_1 tables_1 room_1 Calls_1 rest_1 Pre_1 launch0 p0 e0 about1 theMethod args0 below0 :=
  ⟨lists_1, trivial, launch0.admits_env _ _ _, launch0.least_env, fairChoices_fair.cas, fairChoices_fair.clock, w_frames, w_args, w_heap, w_applies, trivial, trivial, w_case⟩
end start1
theorem witness_1 : WitnessClaimed_1 := ⟨start1.p0, start1.e0, start1.about1, start1.theMethod, start1.args0, start1.below0, start1.atStart⟩
end Jvm.Pilot.@@N@@
