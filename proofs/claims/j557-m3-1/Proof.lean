import JvmDerived
import JvmDerived.Pilot.@@N@@Statement
import JvmDerived.Pilot.@@N@@Code
set_option linter.unusedVariables false
set_option linter.unusedSimpArgs false
namespace Jvm.RoadKit
open Sem ClassFile Op Lib Jvm.Stand Jvm.Free Jvm.LawKit
section New
variable {p : Program} {l : Launch} {e : Env} {R : Room} {s : State} {m : MethodId} {args : Array Value} {below : List Frame} {meth : Method} {c : Code} {T : State} {locs : List Loc} {cells slots : Nat}
theorem retI (X : Stand p l e R s m args below meth c T locs cells slots) (hx : p.tables.exec = Jvm.exec) {pc : Nat} {Ls : Array Slot} {z : Int32} {rest : List Value} (hret : meth.sig.returnType = some .int) (hd : decode c.code pc = .ok (.ireturn, 1)) {fs : List Frame}
    (hl : ∀ (f : JFrame) (acts : List Action), f.method = m → f.locked = none → f.entered = [] → (doReturn e (T.setTop f) acts (some (.int z))).1 = T.setFrames fs) : Steps p.tables e below (T.setTop (mkF m pc Ls (.int z :: rest))) (T.setFrames fs) := by
  have hm' : T.vm.method? m = some meth := X.method'
  have hn : narrow .int (.int z) = .int z := rfl
  show Steps p.tables e below (T.setTop { method := m, pc := pc, locals := Ls, stack := _ :: rest, locked := none }) _
  jvm_step X.here [X.here.top, hx, hd, hm', hret, hn]
  first | (intro acts; rw [hl _ acts rfl rfl rfl]) | rw [hl _ _ rfl rfl rfl]
  exact Steps.refl _
end New
theorem own_lc_tlt {a b : Int64} (h : a < b) : lcmpW a b < 0 := by rw [lcW]; exact (lc_lt _ _).2 h
theorem own_lc_flt {a b : Int64} (h : ¬ a < b) : ¬ lcmpW a b < 0 := by rw [lcW]; exact fun q => h ((lc_lt _ _).1 q)
theorem own_lc_tgt {a b : Int64} (h : b < a) : 0 < lcmpW a b := by rw [lcW]; exact (lc_gt _ _).2 h
theorem own_lc_fgt {a b : Int64} (h : ¬ b < a) : ¬ 0 < lcmpW a b := by rw [lcW]; exact fun q => h ((lc_gt _ _).1 q)
theorem own_lc_teq {a b : Int64} (h : a = b) : lcmpW a b = 0 := by rw [lcW]; exact (lc_eq _ _).2 h
theorem own_lc_feq {a b : Int64} (h : ¬ a = b) : ¬ lcmpW a b = 0 := by rw [lcW]; exact fun q => h ((lc_eq _ _).1 q)
end Jvm.RoadKit
namespace Jvm.Pilot.@@N@@
open Jvm Jvm.ClassFile Sem Op Lib Jvm.Free Jvm.Stand Jvm.LawKit Jvm.RoadKit Bundle Jvm.Pilot.@@N@@.Jvm.D
theorem d1_0 : decode prog_51_method_5_code 0 = .ok (.iload_n 0, 1) := by decide +kernel
theorem d1_1 : decode prog_51_method_5_code 1 = .ok (.lookupswitch 39 #[(1, 27), (2, 33)], 27) := by decide +kernel
theorem d1_28 : decode prog_51_method_5_code 28 = .ok (.sipush 128, 3) := by decide +kernel
theorem d1_31 : decode prog_51_method_5_code 31 = .ok (.goto 12, 3) := by decide +kernel
theorem d1_34 : decode prog_51_method_5_code 34 = .ok (.sipush 160, 3) := by decide +kernel
theorem d1_37 : decode prog_51_method_5_code 37 = .ok (.goto 6, 3) := by decide +kernel
theorem d1_40 : decode prog_51_method_5_code 40 = .ok (.sipush 192, 3) := by decide +kernel
theorem d1_43 : decode prog_51_method_5_code 43 = .ok (.ireturn, 1) := by decide +kernel
theorem pn_1 : plainName "com/example/tagwire/tagwire/formats/Binn" = true := by first | (simp [plainName, overriddenIn]; done) | decide +kernel
theorem ef_1 (m : MethodId) (p1 : Int32) : entryFrame m #[(.int p1)] 1 = mkF m 0 #[.val (.int p1)] [] := by first | (simp [entryFrame, mkF, argsToLocals, Value.category]; done) | rfl
def f1 (p1 : Int32) : Int32 :=
  (if p1 = (1 : Int32) then (128 : Int32) else (if p1 = (2 : Int32) then (160 : Int32) else (192 : Int32)))
def Q1 (Z : State) (p1 : Int32)  (h0 : Heap) (n0 : Nat) (v : Option Value) (h : Heap) (L : List Loc) : Prop := v = some (.int (f1 p1)) ∧ Fr n0 L ∧ h = h0
set_option maxRecDepth 65536 in
set_option maxHeartbeats 40000000 in
theorem rm1 (l : Launch) (Z : State) (a0 : Array Value) (hw : ∀ d ∈ tables_1, d.before a0 Z = true) (ws : List Jvm.Cond) (p1 : Int32)  (h0 : Heap) (n0 : Nat) (Z0 : n0 ≤ h0.size) :
    MetFree l (⟨"com/example/tagwire/tagwire/formats/Binn", "keyForm", "(I)I"⟩ : MethodName) (head1 (Jvm.Cond.code (⟨"com/example/tagwire/tagwire/formats/Binn", "keyForm", "(I)I"⟩ : MethodName) prog_51_method_5_code 1 (some .int) :: ws) ({ frames := 0, cells := 0, slots := 0, locals := 0 } : Room)) (fun a U => a = #[(.int p1)] ∧ Z.Warmed39 U.vm ∧ U.heap = h0) (fun _ _ _ _ _ => True) (fun _ U o U' => ∃ v L, o = .returned v ∧ Q1 Z p1 h0 n0 v U'.heap L ∧ FrameEnd U o U' L ({ frames := 0, cells := 0, slots := 0, locals := 0 } : Room).cells ({ frames := 0, cells := 0, slots := 0, locals := 0 } : Room).slots) := by
  refine MetFree.of_bodySF (plainFor_of_name pn_1) hisR ?_
  intro p e s m args below meth c s₁ Bd hml0 hP hK
  obtain ⟨rfl, hZ, hh⟩ := hP
  have hx := Bd.exec
  have hby := Bd.bytes
  have hml : c.maxLocals = 1 := hml0
  have hown : s.vm.findClass "com/example/tagwire/tagwire/formats/Binn" = some m.cls := findClass_of_methodNamed Bd.named
  have hnm := (name_of_methodNamed Bd.named Bd.method).1
  have X0 : Stand p l e ({ frames := 0, cells := 0, slots := 0, locals := 0 } : Room) s m #[(.int p1)] below meth c s₁ [] 0 0 := Stand.of_body Bd
  have e0 : s₁.heap = h0 := by rw [← hh, Bd.state]; rfl
  have N0 := Fr.nil n0
  have pre0 : ∀ t, Steps p.tables e below (s₁.setTop (mkF m 0 #[.val (.int p1)] [])) t → Steps p.tables e below (s₁.setTop (entryFrame m #[(.int p1)] 1)) t := fun t k => castTop (ef_1 m p1) k
  obtain ⟨v3, hv3⟩ : ∃ z : Int32, z = (if p1 = (1 : Int32) then (128 : Int32) else (if p1 = (2 : Int32) then (160 : Int32) else (192 : Int32))) := ⟨_, rfl⟩
  have pre4 : ∀ t, Steps p.tables e below (s₁.setTop (mkF m 43 #[.val (.int p1)] [(.int v3)])) t → Steps p.tables e below (s₁.setTop (entryFrame m #[(.int p1)] 1)) t := fun t k => pre0 t (by
    show Steps p.tables e below (s₁.setTop (mkF m 0 #[.val (.int p1)] [])) _
    refine XS.iloadN X0.here hx rfl (hb hby d1_0) rfl ?_
    show Steps p.tables e below (s₁.setTop (mkF m 1 #[.val (.int p1)] [(.int p1)])) _
    by_cases hc1 : p1 = (1 : Int32)
    · refine X0.lookupswitchHit hx (g := (mkF m 1 #[.val (.int p1)] [(.int p1)])) rfl (k := p1) rfl (hb hby d1_1) (by decide) (a := 1) (off := 27) (by rw [hc1]; decide) (by show (0 : Int) ≤ (1 : Nat) + 27; decide) _ ?_
      show Steps p.tables e below (s₁.setTop (mkF m 28 #[.val (.int p1)] [])) _
      refine XS.sipush X0.here hx rfl (hb hby d1_28) ?_
      show Steps p.tables e below (s₁.setTop (mkF m 31 #[.val (.int p1)] [(.int (128 : Int32))])) _
      refine XS.goto X0.here hx rfl (pc0 := 31) (pc' := 43) rfl (hb hby d1_31) (by decide) (by decide) ?_
      rw [show v3 = (128 : Int32) from hv3.trans (if_pos hc1)] at k
      exact k
    · by_cases hc2 : p1 = (2 : Int32)
      · refine X0.lookupswitchHit hx (g := (mkF m 1 #[.val (.int p1)] [(.int p1)])) rfl (k := p1) rfl (hb hby d1_1) (by decide) (a := 2) (off := 33) (by rw [hc2]; decide) (by show (0 : Int) ≤ (1 : Nat) + 33; decide) _ ?_
        show Steps p.tables e below (s₁.setTop (mkF m 34 #[.val (.int p1)] [])) _
        refine XS.sipush X0.here hx rfl (hb hby d1_34) ?_
        show Steps p.tables e below (s₁.setTop (mkF m 37 #[.val (.int p1)] [(.int (160 : Int32))])) _
        refine XS.goto X0.here hx rfl (pc0 := 37) (pc' := 43) rfl (hb hby d1_37) (by decide) (by decide) ?_
        rw [show v3 = (160 : Int32) from hv3.trans ((if_neg hc1).trans (if_pos hc2))] at k
        exact k
      · refine X0.lookupswitchMiss hx (g := (mkF m 1 #[.val (.int p1)] [(.int p1)])) rfl (k := p1) rfl (hb hby d1_1) (by decide) (find_miss (fun q hq => ?_)) (by show (0 : Int) ≤ (1 : Nat) + 39; decide) _ ?_
        · have hq' : q = (1, 27) ∨ q = (2, 33) := by simpa using hq
          rcases hq' with rfl | rfl
          · exact fun q => hc1 (Int32.toInt_inj.mp (q.symm.trans rfl))
          · exact fun q => hc2 (Int32.toInt_inj.mp (q.symm.trans rfl))
        show Steps p.tables e below (s₁.setTop (mkF m 40 #[.val (.int p1)] [])) _
        refine XS.sipush X0.here hx rfl (hb hby d1_40) ?_
        rw [show v3 = (192 : Int32) from hv3.trans ((if_neg hc1).trans (if_neg hc2))] at k
        exact k)
  have er : (f1 p1) = v3 := by subst hv3; exact rfl
  obtain ⟨fs, hr, hrun, hended, hW, hsame⟩ := X0.leave (v := some (.int v3)) (fun h => by rw [Bd.returns] at h; cases h)
  refine ⟨_, _, pre4 _ ?_, hrun, hended, _, _, rfl, ?_, ⟨_, rfl⟩, hW, hsame.mono (by decide) (by decide)⟩
  · show Steps p.tables e below (s₁.setTop (mkF m 43 #[.val (.int p1)] [(.int v3)])) _
    exact retI X0 hx Bd.returns (hb hby d1_43) hr
  · show Q1 Z p1 h0 n0 _ s₁.heap _
    rw [e0]
    exact ⟨congrArg (fun z => some (Value.int z)) er.symm, N0, rfl⟩
theorem d2_0 : decode prog_51_method_6_code 0 = .ok (.iload_n 0, 1) := by decide +kernel
theorem d2_1 : decode prog_51_method_6_code 1 = .ok (.lookupswitch 35 #[(128, 27), (160, 31)], 27) := by decide +kernel
theorem d2_28 : decode prog_51_method_6_code 28 = .ok (.iconst 1, 1) := by decide +kernel
theorem d2_29 : decode prog_51_method_6_code 29 = .ok (.goto 8, 3) := by decide +kernel
theorem d2_32 : decode prog_51_method_6_code 32 = .ok (.iconst 2, 1) := by decide +kernel
theorem d2_33 : decode prog_51_method_6_code 33 = .ok (.goto 4, 3) := by decide +kernel
theorem d2_36 : decode prog_51_method_6_code 36 = .ok (.iconst 3, 1) := by decide +kernel
theorem d2_37 : decode prog_51_method_6_code 37 = .ok (.ireturn, 1) := by decide +kernel
theorem pn_2 : plainName "com/example/tagwire/tagwire/formats/Binn" = true := by first | (simp [plainName, overriddenIn]; done) | decide +kernel
theorem ef_2 (m : MethodId) (p1 : Int32) : entryFrame m #[(.int p1)] 1 = mkF m 0 #[.val (.int p1)] [] := by first | (simp [entryFrame, mkF, argsToLocals, Value.category]; done) | rfl
def f2 (p1 : Int32) : Int32 :=
  (if p1 = (128 : Int32) then (1 : Int32) else (if p1 = (160 : Int32) then (2 : Int32) else (3 : Int32)))
def Q2 (Z : State) (p1 : Int32)  (h0 : Heap) (n0 : Nat) (v : Option Value) (h : Heap) (L : List Loc) : Prop := v = some (.int (f2 p1)) ∧ Fr n0 L ∧ h = h0
set_option maxRecDepth 65536 in
set_option maxHeartbeats 40000000 in
theorem rm2 (l : Launch) (Z : State) (a0 : Array Value) (hw : ∀ d ∈ tables_1, d.before a0 Z = true) (ws : List Jvm.Cond) (p1 : Int32)  (h0 : Heap) (n0 : Nat) (Z0 : n0 ≤ h0.size) :
    MetFree l (⟨"com/example/tagwire/tagwire/formats/Binn", "keyBytesAfterFirst", "(I)I"⟩ : MethodName) (head1 (Jvm.Cond.code (⟨"com/example/tagwire/tagwire/formats/Binn", "keyBytesAfterFirst", "(I)I"⟩ : MethodName) prog_51_method_6_code 1 (some .int) :: ws) ({ frames := 0, cells := 0, slots := 0, locals := 0 } : Room)) (fun a U => a = #[(.int p1)] ∧ Z.Warmed39 U.vm ∧ U.heap = h0) (fun _ _ _ _ _ => True) (fun _ U o U' => ∃ v L, o = .returned v ∧ Q2 Z p1 h0 n0 v U'.heap L ∧ FrameEnd U o U' L ({ frames := 0, cells := 0, slots := 0, locals := 0 } : Room).cells ({ frames := 0, cells := 0, slots := 0, locals := 0 } : Room).slots) := by
  refine MetFree.of_bodySF (plainFor_of_name pn_2) hisR ?_
  intro p e s m args below meth c s₁ Bd hml0 hP hK
  obtain ⟨rfl, hZ, hh⟩ := hP
  have hx := Bd.exec
  have hby := Bd.bytes
  have hml : c.maxLocals = 1 := hml0
  have hown : s.vm.findClass "com/example/tagwire/tagwire/formats/Binn" = some m.cls := findClass_of_methodNamed Bd.named
  have hnm := (name_of_methodNamed Bd.named Bd.method).1
  have X0 : Stand p l e ({ frames := 0, cells := 0, slots := 0, locals := 0 } : Room) s m #[(.int p1)] below meth c s₁ [] 0 0 := Stand.of_body Bd
  have e0 : s₁.heap = h0 := by rw [← hh, Bd.state]; rfl
  have N0 := Fr.nil n0
  have pre0 : ∀ t, Steps p.tables e below (s₁.setTop (mkF m 0 #[.val (.int p1)] [])) t → Steps p.tables e below (s₁.setTop (entryFrame m #[(.int p1)] 1)) t := fun t k => castTop (ef_2 m p1) k
  obtain ⟨v3, hv3⟩ : ∃ z : Int32, z = (if p1 = (128 : Int32) then (1 : Int32) else (if p1 = (160 : Int32) then (2 : Int32) else (3 : Int32))) := ⟨_, rfl⟩
  have pre4 : ∀ t, Steps p.tables e below (s₁.setTop (mkF m 37 #[.val (.int p1)] [(.int v3)])) t → Steps p.tables e below (s₁.setTop (entryFrame m #[(.int p1)] 1)) t := fun t k => pre0 t (by
    show Steps p.tables e below (s₁.setTop (mkF m 0 #[.val (.int p1)] [])) _
    refine XS.iloadN X0.here hx rfl (hb hby d2_0) rfl ?_
    show Steps p.tables e below (s₁.setTop (mkF m 1 #[.val (.int p1)] [(.int p1)])) _
    by_cases hc1 : p1 = (128 : Int32)
    · refine X0.lookupswitchHit hx (g := (mkF m 1 #[.val (.int p1)] [(.int p1)])) rfl (k := p1) rfl (hb hby d2_1) (by decide) (a := 128) (off := 27) (by rw [hc1]; decide) (by show (0 : Int) ≤ (1 : Nat) + 27; decide) _ ?_
      show Steps p.tables e below (s₁.setTop (mkF m 28 #[.val (.int p1)] [])) _
      refine XS.iconst X0.here hx rfl (hb hby d2_28) ?_
      show Steps p.tables e below (s₁.setTop (mkF m 29 #[.val (.int p1)] [(.int (1 : Int32))])) _
      refine XS.goto X0.here hx rfl (pc0 := 29) (pc' := 37) rfl (hb hby d2_29) (by decide) (by decide) ?_
      rw [show v3 = (1 : Int32) from hv3.trans (if_pos hc1)] at k
      exact k
    · by_cases hc2 : p1 = (160 : Int32)
      · refine X0.lookupswitchHit hx (g := (mkF m 1 #[.val (.int p1)] [(.int p1)])) rfl (k := p1) rfl (hb hby d2_1) (by decide) (a := 160) (off := 31) (by rw [hc2]; decide) (by show (0 : Int) ≤ (1 : Nat) + 31; decide) _ ?_
        show Steps p.tables e below (s₁.setTop (mkF m 32 #[.val (.int p1)] [])) _
        refine XS.iconst X0.here hx rfl (hb hby d2_32) ?_
        show Steps p.tables e below (s₁.setTop (mkF m 33 #[.val (.int p1)] [(.int (2 : Int32))])) _
        refine XS.goto X0.here hx rfl (pc0 := 33) (pc' := 37) rfl (hb hby d2_33) (by decide) (by decide) ?_
        rw [show v3 = (2 : Int32) from hv3.trans ((if_neg hc1).trans (if_pos hc2))] at k
        exact k
      · refine X0.lookupswitchMiss hx (g := (mkF m 1 #[.val (.int p1)] [(.int p1)])) rfl (k := p1) rfl (hb hby d2_1) (by decide) (find_miss (fun q hq => ?_)) (by show (0 : Int) ≤ (1 : Nat) + 35; decide) _ ?_
        · have hq' : q = (128, 27) ∨ q = (160, 31) := by simpa using hq
          rcases hq' with rfl | rfl
          · exact fun q => hc1 (Int32.toInt_inj.mp (q.symm.trans rfl))
          · exact fun q => hc2 (Int32.toInt_inj.mp (q.symm.trans rfl))
        show Steps p.tables e below (s₁.setTop (mkF m 36 #[.val (.int p1)] [])) _
        refine XS.iconst X0.here hx rfl (hb hby d2_36) ?_
        rw [show v3 = (3 : Int32) from hv3.trans ((if_neg hc1).trans (if_neg hc2))] at k
        exact k)
  have er : (f2 p1) = v3 := by subst hv3; exact rfl
  obtain ⟨fs, hr, hrun, hended, hW, hsame⟩ := X0.leave (v := some (.int v3)) (fun h => by rw [Bd.returns] at h; cases h)
  refine ⟨_, _, pre4 _ ?_, hrun, hended, _, _, rfl, ?_, ⟨_, rfl⟩, hW, hsame.mono (by decide) (by decide)⟩
  · show Steps p.tables e below (s₁.setTop (mkF m 37 #[.val (.int p1)] [(.int v3)])) _
    exact retI X0 hx Bd.returns (hb hby d2_37) hr
  · show Q2 Z p1 h0 n0 _ s₁.heap _
    rw [e0]
    exact ⟨congrArg (fun z => some (Value.int z)) er.symm, N0, rfl⟩
theorem pd_0 : parseMethodDescriptor "(I)I" = some ⟨[.int], some .int⟩ := by decide +kernel
theorem pn_0 : plainName "com/example/tagwire/tagwire/formats/BinnKeyFormPinLaw" = true := by first | (simp [plainName, overriddenIn]; done) | decide +kernel
theorem ef_0 (m : MethodId) (p1 : Int32) : entryFrame m #[(.int p1)] maxLocals = mkF m 0 #[.val (.int p1), .unset, .unset, .unset, .unset, .unset, .unset, .unset] [] := by first | (simp [entryFrame, mkF, argsToLocals, Value.category, maxLocals]; done) | rfl
def f0 (p1 : Int32) : Int32 :=
  (nar .boolean (if (if (f1 (((p1 &&& (2147483647 : Int32)) % (3 : Int32)) + (1 : Int32))) = ((128 : Int32) + (((((p1 &&& (2147483647 : Int32)) % (3 : Int32)) + (1 : Int32)) - (1 : Int32)) <<< ((5 : Int32) &&& 31))) then (1 : Int32) else (0 : Int32)) = (0 : Int32) then (0 : Int32) else (if (if (f2 (f1 (((p1 &&& (2147483647 : Int32)) % (3 : Int32)) + (1 : Int32)))) = (((p1 &&& (2147483647 : Int32)) % (3 : Int32)) + (1 : Int32)) then (1 : Int32) else (0 : Int32)) = (0 : Int32) then (0 : Int32) else (if (if ((f1 (((p1 &&& (2147483647 : Int32)) % (3 : Int32)) + (1 : Int32))) &&& (224 : Int32)) = (f1 (((p1 &&& (2147483647 : Int32)) % (3 : Int32)) + (1 : Int32))) then (1 : Int32) else (0 : Int32)) = (0 : Int32) then (0 : Int32) else (if (if (f1 (((p1 &&& (2147483647 : Int32)) % (3 : Int32)) + (1 : Int32))) = (224 : Int32) then (0 : Int32) else (1 : Int32)) = (0 : Int32) then (0 : Int32) else (1 : Int32))))))
def Q0 (Z : State) (p1 : Int32)  (h0 : Heap) (n0 : Nat) (v : Option Value) (h : Heap) (L : List Loc) : Prop := v = some (.int (f0 p1)) ∧ Fr n0 L ∧ h = h0
set_option maxRecDepth 65536 in
set_option maxHeartbeats 40000000 in
theorem rm0 (l : Launch) (Z : State) (a0 : Array Value) (hw : ∀ d ∈ tables_1, d.before a0 Z = true) (ws : List Jvm.Cond) (p1 : Int32)  (h0 : Heap) (n0 : Nat) (Z0 : n0 ≤ h0.size) :
    MetFree l x (head1 (Jvm.Cond.code x code maxLocals ret :: ws) room_1) (fun a U => a = #[(.int p1)] ∧ Z.Warmed39 U.vm ∧ U.heap = h0) (fun _ _ _ _ _ => True) (fun _ U o U' => ∃ v L, o = .returned v ∧ Q0 Z p1 h0 n0 v U'.heap L ∧ FrameEnd U o U' L room_1.cells room_1.slots) := by
  refine MetFree.of_bodySF (plainFor_of_name pn_0) hisR ?_
  intro p e s m args below meth c s₁ Bd hml0 hP hK
  obtain ⟨rfl, hZ, hh⟩ := hP
  have hx := Bd.exec
  have hby := Bd.bytes
  have hml : c.maxLocals = 8 := hml0
  have hown : s.vm.findClass "com/example/tagwire/tagwire/formats/BinnKeyFormPinLaw" = some m.cls := findClass_of_methodNamed Bd.named
  have hnm := (name_of_methodNamed Bd.named Bd.method).1
  have X0 : Stand p l e room_1 s m #[(.int p1)] below meth c s₁ [] 0 0 := Stand.of_body Bd
  have e0 : s₁.heap = h0 := by rw [← hh, Bd.state]; rfl
  have N0 := Fr.nil n0
  have pre0 : ∀ t, Steps p.tables e below (s₁.setTop (mkF m 0 #[.val (.int p1), .unset, .unset, .unset, .unset, .unset, .unset, .unset] [])) t → Steps p.tables e below (s₁.setTop (entryFrame m #[(.int p1)] maxLocals)) t := fun t k => castTop (ef_0 m p1) k
  obtain ⟨_, _, ⟨T1, L1, k1, n1⟩, -, X1, ⟨Lc1, hQ1, l1, y1, z1⟩, st1⟩ := Jvm.LawKit.callS X0 hx (y := (⟨"com/example/tagwire/tagwire/formats/Binn", "keyForm", "(I)I"⟩ : MethodName)) hown (mvT hZ (hw _ (List.mem_of_getElem? (i := 1) rfl))) (mvT hZ (hw _ (List.mem_of_getElem? (i := 2) rfl))) (mvT hZ (hw _ (List.mem_of_getElem? (i := 3) rfl))) (mvT hZ (hw _ (List.mem_of_getElem? (i := 4) rfl))) (by decide) (backOf (W := 0) (rm1 l Z a0 hw [] (((p1 &&& (2147483647 : Int32)) % (3 : Int32)) + (1 : Int32)) h0 n0 Z0) hZ (hw _ (List.mem_of_getElem? (i := 4) rfl)) (hw _ (List.mem_of_getElem? (i := 3) rfl)) (by decide) (by decide)) (g := (mkF m 10 #[.val (.int p1), .val (.int (((p1 &&& (2147483647 : Int32)) % (3 : Int32)) + (1 : Int32))), .unset, .unset, .unset, .unset, .unset, .unset] [(.int (((p1 &&& (2147483647 : Int32)) % (3 : Int32)) + (1 : Int32)))])) rfl (by rw [hml]; rfl) (argsL := [(.int (((p1 &&& (2147483647 : Int32)) % (3 : Int32)) + (1 : Int32)))]) (rest := []) (lenOf pd_0 rfl) rfl (by show 2 * 0 + _ ≤ _; exact Nat.le_of_eq rfl) (hb hby at_10) (fun _ _ => ⟨rfl, e0, (by decide : 0 + 0 ≤ _), (by decide : 0 + 0 ≤ _)⟩)
  dsimp only [Pt.U, Pt.locs, Pt.cells, Pt.slots] at X1 l1 y1 z1 st1 hQ1
  subst l1 y1 z1
  obtain ⟨rfl, N1q, e1⟩ := hQ1
  have N1 := Fr.app N0 N1q
  obtain ⟨v3, hv3⟩ : ∃ z : Int32, z = (if (f1 (((p1 &&& (2147483647 : Int32)) % (3 : Int32)) + (1 : Int32))) = ((128 : Int32) + (((((p1 &&& (2147483647 : Int32)) % (3 : Int32)) + (1 : Int32)) - (1 : Int32)) <<< ((5 : Int32) &&& 31))) then (1 : Int32) else (0 : Int32)) := ⟨_, rfl⟩
  have pre4 : ∀ t, Steps p.tables e below (T1.setTop (mkF m 34 #[.val (.int p1), .val (.int (((p1 &&& (2147483647 : Int32)) % (3 : Int32)) + (1 : Int32))), .val (.int (f1 (((p1 &&& (2147483647 : Int32)) % (3 : Int32)) + (1 : Int32)))), .val (.int ((128 : Int32) + (((((p1 &&& (2147483647 : Int32)) % (3 : Int32)) + (1 : Int32)) - (1 : Int32)) <<< ((5 : Int32) &&& 31)))), .unset, .unset, .unset, .unset] [(.int v3)])) t → Steps p.tables e below (s₁.setTop (entryFrame m #[(.int p1)] maxLocals)) t := fun t k => pre0 t (by
    show Steps p.tables e below (s₁.setTop (mkF m 0 #[.val (.int p1), .unset, .unset, .unset, .unset, .unset, .unset, .unset] [])) _
    refine XS.iloadN X0.here hx rfl (hb hby at_0) rfl ?_
    show Steps p.tables e below (s₁.setTop (mkF m 1 #[.val (.int p1), .unset, .unset, .unset, .unset, .unset, .unset, .unset] [(.int p1)])) _
    refine X0.ldcInt hx hown (mvT hZ (hw _ (List.mem_of_getElem? (i := 0) rfl))) (g := (mkF m 1 #[.val (.int p1), .unset, .unset, .unset, .unset, .unset, .unset, .unset] [(.int p1)])) rfl (hb hby at_1) _ ?_
    show Steps p.tables e below (s₁.setTop (mkF m 3 #[.val (.int p1), .unset, .unset, .unset, .unset, .unset, .unset, .unset] [(.int (2147483647 : Int32)), (.int p1)])) _
    refine XS.iand X0.here hx rfl (hb hby at_3) rfl ?_
    show Steps p.tables e below (s₁.setTop (mkF m 4 #[.val (.int p1), .unset, .unset, .unset, .unset, .unset, .unset, .unset] [(.int (p1 &&& (2147483647 : Int32)))])) _
    refine XS.iconst X0.here hx rfl (hb hby at_4) ?_
    show Steps p.tables e below (s₁.setTop (mkF m 5 #[.val (.int p1), .unset, .unset, .unset, .unset, .unset, .unset, .unset] [(.int (3 : Int32)), (.int (p1 &&& (2147483647 : Int32)))])) _
    refine iremM X0 hx rfl (hb hby at_5) rfl (by decide) ?_
    show Steps p.tables e below (s₁.setTop (mkF m 6 #[.val (.int p1), .unset, .unset, .unset, .unset, .unset, .unset, .unset] [(.int ((p1 &&& (2147483647 : Int32)) % (3 : Int32)))])) _
    refine XS.iconst X0.here hx rfl (hb hby at_6) ?_
    show Steps p.tables e below (s₁.setTop (mkF m 7 #[.val (.int p1), .unset, .unset, .unset, .unset, .unset, .unset, .unset] [(.int (1 : Int32)), (.int ((p1 &&& (2147483647 : Int32)) % (3 : Int32)))])) _
    refine XS.iadd X0.here hx rfl (hb hby at_7) rfl ?_
    show Steps p.tables e below (s₁.setTop (mkF m 8 #[.val (.int p1), .unset, .unset, .unset, .unset, .unset, .unset, .unset] [(.int (((p1 &&& (2147483647 : Int32)) % (3 : Int32)) + (1 : Int32)))])) _
    refine XS.istoreN X0.here hx rfl (hb hby at_8) rfl (l' := #[.val (.int p1), .val (.int (((p1 &&& (2147483647 : Int32)) % (3 : Int32)) + (1 : Int32))), .unset, .unset, .unset, .unset, .unset, .unset]) rfl ?_
    show Steps p.tables e below (s₁.setTop (mkF m 9 #[.val (.int p1), .val (.int (((p1 &&& (2147483647 : Int32)) % (3 : Int32)) + (1 : Int32))), .unset, .unset, .unset, .unset, .unset, .unset] [])) _
    refine XS.iloadN X0.here hx rfl (hb hby at_9) rfl ?_
    show Steps p.tables e below (s₁.setTop (mkF m 10 #[.val (.int p1), .val (.int (((p1 &&& (2147483647 : Int32)) % (3 : Int32)) + (1 : Int32))), .unset, .unset, .unset, .unset, .unset, .unset] [(.int (((p1 &&& (2147483647 : Int32)) % (3 : Int32)) + (1 : Int32)))])) _
    refine st1 _ ?_
    show Steps p.tables e below (T1.setTop (mkF m 13 #[.val (.int p1), .val (.int (((p1 &&& (2147483647 : Int32)) % (3 : Int32)) + (1 : Int32))), .unset, .unset, .unset, .unset, .unset, .unset] [(.int (f1 (((p1 &&& (2147483647 : Int32)) % (3 : Int32)) + (1 : Int32))))])) _
    refine XS.istoreN X1.here hx rfl (hb hby at_13) rfl (l' := #[.val (.int p1), .val (.int (((p1 &&& (2147483647 : Int32)) % (3 : Int32)) + (1 : Int32))), .val (.int (f1 (((p1 &&& (2147483647 : Int32)) % (3 : Int32)) + (1 : Int32)))), .unset, .unset, .unset, .unset, .unset]) rfl ?_
    show Steps p.tables e below (T1.setTop (mkF m 14 #[.val (.int p1), .val (.int (((p1 &&& (2147483647 : Int32)) % (3 : Int32)) + (1 : Int32))), .val (.int (f1 (((p1 &&& (2147483647 : Int32)) % (3 : Int32)) + (1 : Int32)))), .unset, .unset, .unset, .unset, .unset] [])) _
    refine XS.sipush X1.here hx rfl (hb hby at_14) ?_
    show Steps p.tables e below (T1.setTop (mkF m 17 #[.val (.int p1), .val (.int (((p1 &&& (2147483647 : Int32)) % (3 : Int32)) + (1 : Int32))), .val (.int (f1 (((p1 &&& (2147483647 : Int32)) % (3 : Int32)) + (1 : Int32)))), .unset, .unset, .unset, .unset, .unset] [(.int (128 : Int32))])) _
    refine XS.iloadN X1.here hx rfl (hb hby at_17) rfl ?_
    show Steps p.tables e below (T1.setTop (mkF m 18 #[.val (.int p1), .val (.int (((p1 &&& (2147483647 : Int32)) % (3 : Int32)) + (1 : Int32))), .val (.int (f1 (((p1 &&& (2147483647 : Int32)) % (3 : Int32)) + (1 : Int32)))), .unset, .unset, .unset, .unset, .unset] [(.int (((p1 &&& (2147483647 : Int32)) % (3 : Int32)) + (1 : Int32))), (.int (128 : Int32))])) _
    refine XS.iconst X1.here hx rfl (hb hby at_18) ?_
    show Steps p.tables e below (T1.setTop (mkF m 19 #[.val (.int p1), .val (.int (((p1 &&& (2147483647 : Int32)) % (3 : Int32)) + (1 : Int32))), .val (.int (f1 (((p1 &&& (2147483647 : Int32)) % (3 : Int32)) + (1 : Int32)))), .unset, .unset, .unset, .unset, .unset] [(.int (1 : Int32)), (.int (((p1 &&& (2147483647 : Int32)) % (3 : Int32)) + (1 : Int32))), (.int (128 : Int32))])) _
    refine XS.isub X1.here hx rfl (hb hby at_19) rfl ?_
    show Steps p.tables e below (T1.setTop (mkF m 20 #[.val (.int p1), .val (.int (((p1 &&& (2147483647 : Int32)) % (3 : Int32)) + (1 : Int32))), .val (.int (f1 (((p1 &&& (2147483647 : Int32)) % (3 : Int32)) + (1 : Int32)))), .unset, .unset, .unset, .unset, .unset] [(.int ((((p1 &&& (2147483647 : Int32)) % (3 : Int32)) + (1 : Int32)) - (1 : Int32))), (.int (128 : Int32))])) _
    refine XS.iconst X1.here hx rfl (hb hby at_20) ?_
    show Steps p.tables e below (T1.setTop (mkF m 21 #[.val (.int p1), .val (.int (((p1 &&& (2147483647 : Int32)) % (3 : Int32)) + (1 : Int32))), .val (.int (f1 (((p1 &&& (2147483647 : Int32)) % (3 : Int32)) + (1 : Int32)))), .unset, .unset, .unset, .unset, .unset] [(.int (5 : Int32)), (.int ((((p1 &&& (2147483647 : Int32)) % (3 : Int32)) + (1 : Int32)) - (1 : Int32))), (.int (128 : Int32))])) _
    refine XS.ishl X1.here hx rfl (hb hby at_21) rfl ?_
    show Steps p.tables e below (T1.setTop (mkF m 22 #[.val (.int p1), .val (.int (((p1 &&& (2147483647 : Int32)) % (3 : Int32)) + (1 : Int32))), .val (.int (f1 (((p1 &&& (2147483647 : Int32)) % (3 : Int32)) + (1 : Int32)))), .unset, .unset, .unset, .unset, .unset] [(.int (((((p1 &&& (2147483647 : Int32)) % (3 : Int32)) + (1 : Int32)) - (1 : Int32)) <<< ((5 : Int32) &&& 31))), (.int (128 : Int32))])) _
    refine XS.iadd X1.here hx rfl (hb hby at_22) rfl ?_
    show Steps p.tables e below (T1.setTop (mkF m 23 #[.val (.int p1), .val (.int (((p1 &&& (2147483647 : Int32)) % (3 : Int32)) + (1 : Int32))), .val (.int (f1 (((p1 &&& (2147483647 : Int32)) % (3 : Int32)) + (1 : Int32)))), .unset, .unset, .unset, .unset, .unset] [(.int ((128 : Int32) + (((((p1 &&& (2147483647 : Int32)) % (3 : Int32)) + (1 : Int32)) - (1 : Int32)) <<< ((5 : Int32) &&& 31))))])) _
    refine XS.istoreN X1.here hx rfl (hb hby at_23) rfl (l' := #[.val (.int p1), .val (.int (((p1 &&& (2147483647 : Int32)) % (3 : Int32)) + (1 : Int32))), .val (.int (f1 (((p1 &&& (2147483647 : Int32)) % (3 : Int32)) + (1 : Int32)))), .val (.int ((128 : Int32) + (((((p1 &&& (2147483647 : Int32)) % (3 : Int32)) + (1 : Int32)) - (1 : Int32)) <<< ((5 : Int32) &&& 31)))), .unset, .unset, .unset, .unset]) rfl ?_
    show Steps p.tables e below (T1.setTop (mkF m 24 #[.val (.int p1), .val (.int (((p1 &&& (2147483647 : Int32)) % (3 : Int32)) + (1 : Int32))), .val (.int (f1 (((p1 &&& (2147483647 : Int32)) % (3 : Int32)) + (1 : Int32)))), .val (.int ((128 : Int32) + (((((p1 &&& (2147483647 : Int32)) % (3 : Int32)) + (1 : Int32)) - (1 : Int32)) <<< ((5 : Int32) &&& 31)))), .unset, .unset, .unset, .unset] [])) _
    refine XS.iloadN X1.here hx rfl (hb hby at_24) rfl ?_
    show Steps p.tables e below (T1.setTop (mkF m 25 #[.val (.int p1), .val (.int (((p1 &&& (2147483647 : Int32)) % (3 : Int32)) + (1 : Int32))), .val (.int (f1 (((p1 &&& (2147483647 : Int32)) % (3 : Int32)) + (1 : Int32)))), .val (.int ((128 : Int32) + (((((p1 &&& (2147483647 : Int32)) % (3 : Int32)) + (1 : Int32)) - (1 : Int32)) <<< ((5 : Int32) &&& 31)))), .unset, .unset, .unset, .unset] [(.int (f1 (((p1 &&& (2147483647 : Int32)) % (3 : Int32)) + (1 : Int32))))])) _
    refine XS.iloadN X1.here hx rfl (hb hby at_25) rfl ?_
    show Steps p.tables e below (T1.setTop (mkF m 26 #[.val (.int p1), .val (.int (((p1 &&& (2147483647 : Int32)) % (3 : Int32)) + (1 : Int32))), .val (.int (f1 (((p1 &&& (2147483647 : Int32)) % (3 : Int32)) + (1 : Int32)))), .val (.int ((128 : Int32) + (((((p1 &&& (2147483647 : Int32)) % (3 : Int32)) + (1 : Int32)) - (1 : Int32)) <<< ((5 : Int32) &&& 31)))), .unset, .unset, .unset, .unset] [(.int ((128 : Int32) + (((((p1 &&& (2147483647 : Int32)) % (3 : Int32)) + (1 : Int32)) - (1 : Int32)) <<< ((5 : Int32) &&& 31)))), (.int (f1 (((p1 &&& (2147483647 : Int32)) % (3 : Int32)) + (1 : Int32))))])) _
    by_cases hc2 : (f1 (((p1 &&& (2147483647 : Int32)) % (3 : Int32)) + (1 : Int32))) = ((128 : Int32) + (((((p1 &&& (2147483647 : Int32)) % (3 : Int32)) + (1 : Int32)) - (1 : Int32)) <<< ((5 : Int32) &&& 31)))
    · refine XS.icmpNo X1.here hx rfl (hb hby at_26) rfl (teq hc2).2 ?_
      show Steps p.tables e below (T1.setTop (mkF m 29 #[.val (.int p1), .val (.int (((p1 &&& (2147483647 : Int32)) % (3 : Int32)) + (1 : Int32))), .val (.int (f1 (((p1 &&& (2147483647 : Int32)) % (3 : Int32)) + (1 : Int32)))), .val (.int ((128 : Int32) + (((((p1 &&& (2147483647 : Int32)) % (3 : Int32)) + (1 : Int32)) - (1 : Int32)) <<< ((5 : Int32) &&& 31)))), .unset, .unset, .unset, .unset] [])) _
      refine XS.iconst X1.here hx rfl (hb hby at_29) ?_
      show Steps p.tables e below (T1.setTop (mkF m 30 #[.val (.int p1), .val (.int (((p1 &&& (2147483647 : Int32)) % (3 : Int32)) + (1 : Int32))), .val (.int (f1 (((p1 &&& (2147483647 : Int32)) % (3 : Int32)) + (1 : Int32)))), .val (.int ((128 : Int32) + (((((p1 &&& (2147483647 : Int32)) % (3 : Int32)) + (1 : Int32)) - (1 : Int32)) <<< ((5 : Int32) &&& 31)))), .unset, .unset, .unset, .unset] [(.int (1 : Int32))])) _
      refine XS.goto X1.here hx rfl (pc0 := 30) (pc' := 34) rfl (hb hby at_30) (by decide) (by decide) ?_
      rw [show v3 = (1 : Int32) from hv3.trans (if_pos hc2)] at k
      exact k
    · refine XS.icmpYes X1.here hx rfl (pc0 := 26) (pc' := 33) rfl (hb hby at_26) rfl (feq hc2).2 (by decide) (by decide) ?_
      show Steps p.tables e below (T1.setTop (mkF m 33 #[.val (.int p1), .val (.int (((p1 &&& (2147483647 : Int32)) % (3 : Int32)) + (1 : Int32))), .val (.int (f1 (((p1 &&& (2147483647 : Int32)) % (3 : Int32)) + (1 : Int32)))), .val (.int ((128 : Int32) + (((((p1 &&& (2147483647 : Int32)) % (3 : Int32)) + (1 : Int32)) - (1 : Int32)) <<< ((5 : Int32) &&& 31)))), .unset, .unset, .unset, .unset] [])) _
      refine XS.iconst X1.here hx rfl (hb hby at_33) ?_
      rw [show v3 = (0 : Int32) from hv3.trans (if_neg hc2)] at k
      exact k)
  obtain ⟨_, _, ⟨T5, L5, k5, n5⟩, -, X5, ⟨Lc5, hQ5, l5, y5, z5⟩, st5⟩ := Jvm.LawKit.callS X1 hx (y := (⟨"com/example/tagwire/tagwire/formats/Binn", "keyBytesAfterFirst", "(I)I"⟩ : MethodName)) hown (mvT hZ (hw _ (List.mem_of_getElem? (i := 5) rfl))) (mvT hZ (hw _ (List.mem_of_getElem? (i := 6) rfl))) (mvT hZ (hw _ (List.mem_of_getElem? (i := 3) rfl))) (mvT hZ (hw _ (List.mem_of_getElem? (i := 7) rfl))) (by decide) (backOf (W := 0) (rm2 l Z a0 hw [] (f1 (((p1 &&& (2147483647 : Int32)) % (3 : Int32)) + (1 : Int32))) h0 n0 Z0) hZ (hw _ (List.mem_of_getElem? (i := 7) rfl)) (hw _ (List.mem_of_getElem? (i := 3) rfl)) (by decide) (by decide)) (g := (mkF m 37 #[.val (.int p1), .val (.int (((p1 &&& (2147483647 : Int32)) % (3 : Int32)) + (1 : Int32))), .val (.int (f1 (((p1 &&& (2147483647 : Int32)) % (3 : Int32)) + (1 : Int32)))), .val (.int ((128 : Int32) + (((((p1 &&& (2147483647 : Int32)) % (3 : Int32)) + (1 : Int32)) - (1 : Int32)) <<< ((5 : Int32) &&& 31)))), .val (.int v3), .unset, .unset, .unset] [(.int (f1 (((p1 &&& (2147483647 : Int32)) % (3 : Int32)) + (1 : Int32))))])) rfl (by rw [hml]; rfl) (argsL := [(.int (f1 (((p1 &&& (2147483647 : Int32)) % (3 : Int32)) + (1 : Int32))))]) (rest := []) (lenOf pd_0 rfl) rfl (by show 2 * 0 + _ ≤ _; exact Nat.le_of_eq rfl) (hb hby at_37) (fun _ _ => ⟨rfl, e1, (by decide : 0 + 0 ≤ _), (by decide : 0 + 0 ≤ _)⟩)
  dsimp only [Pt.U, Pt.locs, Pt.cells, Pt.slots] at X5 l5 y5 z5 st5 hQ5
  subst l5 y5 z5
  obtain ⟨rfl, N5q, e5⟩ := hQ5
  have N5 := Fr.app N1 N5q
  obtain ⟨v7, hv7⟩ : ∃ z : Int32, z = (if (f2 (f1 (((p1 &&& (2147483647 : Int32)) % (3 : Int32)) + (1 : Int32)))) = (((p1 &&& (2147483647 : Int32)) % (3 : Int32)) + (1 : Int32)) then (1 : Int32) else (0 : Int32)) := ⟨_, rfl⟩
  have pre8 : ∀ t, Steps p.tables e below (T5.setTop (mkF m 49 #[.val (.int p1), .val (.int (((p1 &&& (2147483647 : Int32)) % (3 : Int32)) + (1 : Int32))), .val (.int (f1 (((p1 &&& (2147483647 : Int32)) % (3 : Int32)) + (1 : Int32)))), .val (.int ((128 : Int32) + (((((p1 &&& (2147483647 : Int32)) % (3 : Int32)) + (1 : Int32)) - (1 : Int32)) <<< ((5 : Int32) &&& 31)))), .val (.int v3), .unset, .unset, .unset] [(.int v7)])) t → Steps p.tables e below (s₁.setTop (entryFrame m #[(.int p1)] maxLocals)) t := fun t k => pre4 t (by
    show Steps p.tables e below (T1.setTop (mkF m 34 #[.val (.int p1), .val (.int (((p1 &&& (2147483647 : Int32)) % (3 : Int32)) + (1 : Int32))), .val (.int (f1 (((p1 &&& (2147483647 : Int32)) % (3 : Int32)) + (1 : Int32)))), .val (.int ((128 : Int32) + (((((p1 &&& (2147483647 : Int32)) % (3 : Int32)) + (1 : Int32)) - (1 : Int32)) <<< ((5 : Int32) &&& 31)))), .unset, .unset, .unset, .unset] [(.int v3)])) _
    refine XS.istore X1.here hx rfl (hb hby at_34) rfl (l' := #[.val (.int p1), .val (.int (((p1 &&& (2147483647 : Int32)) % (3 : Int32)) + (1 : Int32))), .val (.int (f1 (((p1 &&& (2147483647 : Int32)) % (3 : Int32)) + (1 : Int32)))), .val (.int ((128 : Int32) + (((((p1 &&& (2147483647 : Int32)) % (3 : Int32)) + (1 : Int32)) - (1 : Int32)) <<< ((5 : Int32) &&& 31)))), .val (.int v3), .unset, .unset, .unset]) rfl ?_
    show Steps p.tables e below (T1.setTop (mkF m 36 #[.val (.int p1), .val (.int (((p1 &&& (2147483647 : Int32)) % (3 : Int32)) + (1 : Int32))), .val (.int (f1 (((p1 &&& (2147483647 : Int32)) % (3 : Int32)) + (1 : Int32)))), .val (.int ((128 : Int32) + (((((p1 &&& (2147483647 : Int32)) % (3 : Int32)) + (1 : Int32)) - (1 : Int32)) <<< ((5 : Int32) &&& 31)))), .val (.int v3), .unset, .unset, .unset] [])) _
    refine XS.iloadN X1.here hx rfl (hb hby at_36) rfl ?_
    show Steps p.tables e below (T1.setTop (mkF m 37 #[.val (.int p1), .val (.int (((p1 &&& (2147483647 : Int32)) % (3 : Int32)) + (1 : Int32))), .val (.int (f1 (((p1 &&& (2147483647 : Int32)) % (3 : Int32)) + (1 : Int32)))), .val (.int ((128 : Int32) + (((((p1 &&& (2147483647 : Int32)) % (3 : Int32)) + (1 : Int32)) - (1 : Int32)) <<< ((5 : Int32) &&& 31)))), .val (.int v3), .unset, .unset, .unset] [(.int (f1 (((p1 &&& (2147483647 : Int32)) % (3 : Int32)) + (1 : Int32))))])) _
    refine st5 _ ?_
    show Steps p.tables e below (T5.setTop (mkF m 40 #[.val (.int p1), .val (.int (((p1 &&& (2147483647 : Int32)) % (3 : Int32)) + (1 : Int32))), .val (.int (f1 (((p1 &&& (2147483647 : Int32)) % (3 : Int32)) + (1 : Int32)))), .val (.int ((128 : Int32) + (((((p1 &&& (2147483647 : Int32)) % (3 : Int32)) + (1 : Int32)) - (1 : Int32)) <<< ((5 : Int32) &&& 31)))), .val (.int v3), .unset, .unset, .unset] [(.int (f2 (f1 (((p1 &&& (2147483647 : Int32)) % (3 : Int32)) + (1 : Int32)))))])) _
    refine XS.iloadN X5.here hx rfl (hb hby at_40) rfl ?_
    show Steps p.tables e below (T5.setTop (mkF m 41 #[.val (.int p1), .val (.int (((p1 &&& (2147483647 : Int32)) % (3 : Int32)) + (1 : Int32))), .val (.int (f1 (((p1 &&& (2147483647 : Int32)) % (3 : Int32)) + (1 : Int32)))), .val (.int ((128 : Int32) + (((((p1 &&& (2147483647 : Int32)) % (3 : Int32)) + (1 : Int32)) - (1 : Int32)) <<< ((5 : Int32) &&& 31)))), .val (.int v3), .unset, .unset, .unset] [(.int (((p1 &&& (2147483647 : Int32)) % (3 : Int32)) + (1 : Int32))), (.int (f2 (f1 (((p1 &&& (2147483647 : Int32)) % (3 : Int32)) + (1 : Int32)))))])) _
    by_cases hc6 : (f2 (f1 (((p1 &&& (2147483647 : Int32)) % (3 : Int32)) + (1 : Int32)))) = (((p1 &&& (2147483647 : Int32)) % (3 : Int32)) + (1 : Int32))
    · refine XS.icmpNo X5.here hx rfl (hb hby at_41) rfl (teq hc6).2 ?_
      show Steps p.tables e below (T5.setTop (mkF m 44 #[.val (.int p1), .val (.int (((p1 &&& (2147483647 : Int32)) % (3 : Int32)) + (1 : Int32))), .val (.int (f1 (((p1 &&& (2147483647 : Int32)) % (3 : Int32)) + (1 : Int32)))), .val (.int ((128 : Int32) + (((((p1 &&& (2147483647 : Int32)) % (3 : Int32)) + (1 : Int32)) - (1 : Int32)) <<< ((5 : Int32) &&& 31)))), .val (.int v3), .unset, .unset, .unset] [])) _
      refine XS.iconst X5.here hx rfl (hb hby at_44) ?_
      show Steps p.tables e below (T5.setTop (mkF m 45 #[.val (.int p1), .val (.int (((p1 &&& (2147483647 : Int32)) % (3 : Int32)) + (1 : Int32))), .val (.int (f1 (((p1 &&& (2147483647 : Int32)) % (3 : Int32)) + (1 : Int32)))), .val (.int ((128 : Int32) + (((((p1 &&& (2147483647 : Int32)) % (3 : Int32)) + (1 : Int32)) - (1 : Int32)) <<< ((5 : Int32) &&& 31)))), .val (.int v3), .unset, .unset, .unset] [(.int (1 : Int32))])) _
      refine XS.goto X5.here hx rfl (pc0 := 45) (pc' := 49) rfl (hb hby at_45) (by decide) (by decide) ?_
      rw [show v7 = (1 : Int32) from hv7.trans (if_pos hc6)] at k
      exact k
    · refine XS.icmpYes X5.here hx rfl (pc0 := 41) (pc' := 48) rfl (hb hby at_41) rfl (feq hc6).2 (by decide) (by decide) ?_
      show Steps p.tables e below (T5.setTop (mkF m 48 #[.val (.int p1), .val (.int (((p1 &&& (2147483647 : Int32)) % (3 : Int32)) + (1 : Int32))), .val (.int (f1 (((p1 &&& (2147483647 : Int32)) % (3 : Int32)) + (1 : Int32)))), .val (.int ((128 : Int32) + (((((p1 &&& (2147483647 : Int32)) % (3 : Int32)) + (1 : Int32)) - (1 : Int32)) <<< ((5 : Int32) &&& 31)))), .val (.int v3), .unset, .unset, .unset] [])) _
      refine XS.iconst X5.here hx rfl (hb hby at_48) ?_
      rw [show v7 = (0 : Int32) from hv7.trans (if_neg hc6)] at k
      exact k)
  obtain ⟨v10, hv10⟩ : ∃ z : Int32, z = (if ((f1 (((p1 &&& (2147483647 : Int32)) % (3 : Int32)) + (1 : Int32))) &&& (224 : Int32)) = (f1 (((p1 &&& (2147483647 : Int32)) % (3 : Int32)) + (1 : Int32))) then (1 : Int32) else (0 : Int32)) := ⟨_, rfl⟩
  have pre11 : ∀ t, Steps p.tables e below (T5.setTop (mkF m 65 #[.val (.int p1), .val (.int (((p1 &&& (2147483647 : Int32)) % (3 : Int32)) + (1 : Int32))), .val (.int (f1 (((p1 &&& (2147483647 : Int32)) % (3 : Int32)) + (1 : Int32)))), .val (.int ((128 : Int32) + (((((p1 &&& (2147483647 : Int32)) % (3 : Int32)) + (1 : Int32)) - (1 : Int32)) <<< ((5 : Int32) &&& 31)))), .val (.int v3), .val (.int v7), .unset, .unset] [(.int v10)])) t → Steps p.tables e below (s₁.setTop (entryFrame m #[(.int p1)] maxLocals)) t := fun t k => pre8 t (by
    show Steps p.tables e below (T5.setTop (mkF m 49 #[.val (.int p1), .val (.int (((p1 &&& (2147483647 : Int32)) % (3 : Int32)) + (1 : Int32))), .val (.int (f1 (((p1 &&& (2147483647 : Int32)) % (3 : Int32)) + (1 : Int32)))), .val (.int ((128 : Int32) + (((((p1 &&& (2147483647 : Int32)) % (3 : Int32)) + (1 : Int32)) - (1 : Int32)) <<< ((5 : Int32) &&& 31)))), .val (.int v3), .unset, .unset, .unset] [(.int v7)])) _
    refine XS.istore X5.here hx rfl (hb hby at_49) rfl (l' := #[.val (.int p1), .val (.int (((p1 &&& (2147483647 : Int32)) % (3 : Int32)) + (1 : Int32))), .val (.int (f1 (((p1 &&& (2147483647 : Int32)) % (3 : Int32)) + (1 : Int32)))), .val (.int ((128 : Int32) + (((((p1 &&& (2147483647 : Int32)) % (3 : Int32)) + (1 : Int32)) - (1 : Int32)) <<< ((5 : Int32) &&& 31)))), .val (.int v3), .val (.int v7), .unset, .unset]) rfl ?_
    show Steps p.tables e below (T5.setTop (mkF m 51 #[.val (.int p1), .val (.int (((p1 &&& (2147483647 : Int32)) % (3 : Int32)) + (1 : Int32))), .val (.int (f1 (((p1 &&& (2147483647 : Int32)) % (3 : Int32)) + (1 : Int32)))), .val (.int ((128 : Int32) + (((((p1 &&& (2147483647 : Int32)) % (3 : Int32)) + (1 : Int32)) - (1 : Int32)) <<< ((5 : Int32) &&& 31)))), .val (.int v3), .val (.int v7), .unset, .unset] [])) _
    refine XS.iloadN X5.here hx rfl (hb hby at_51) rfl ?_
    show Steps p.tables e below (T5.setTop (mkF m 52 #[.val (.int p1), .val (.int (((p1 &&& (2147483647 : Int32)) % (3 : Int32)) + (1 : Int32))), .val (.int (f1 (((p1 &&& (2147483647 : Int32)) % (3 : Int32)) + (1 : Int32)))), .val (.int ((128 : Int32) + (((((p1 &&& (2147483647 : Int32)) % (3 : Int32)) + (1 : Int32)) - (1 : Int32)) <<< ((5 : Int32) &&& 31)))), .val (.int v3), .val (.int v7), .unset, .unset] [(.int (f1 (((p1 &&& (2147483647 : Int32)) % (3 : Int32)) + (1 : Int32))))])) _
    refine XS.sipush X5.here hx rfl (hb hby at_52) ?_
    show Steps p.tables e below (T5.setTop (mkF m 55 #[.val (.int p1), .val (.int (((p1 &&& (2147483647 : Int32)) % (3 : Int32)) + (1 : Int32))), .val (.int (f1 (((p1 &&& (2147483647 : Int32)) % (3 : Int32)) + (1 : Int32)))), .val (.int ((128 : Int32) + (((((p1 &&& (2147483647 : Int32)) % (3 : Int32)) + (1 : Int32)) - (1 : Int32)) <<< ((5 : Int32) &&& 31)))), .val (.int v3), .val (.int v7), .unset, .unset] [(.int (224 : Int32)), (.int (f1 (((p1 &&& (2147483647 : Int32)) % (3 : Int32)) + (1 : Int32))))])) _
    refine XS.iand X5.here hx rfl (hb hby at_55) rfl ?_
    show Steps p.tables e below (T5.setTop (mkF m 56 #[.val (.int p1), .val (.int (((p1 &&& (2147483647 : Int32)) % (3 : Int32)) + (1 : Int32))), .val (.int (f1 (((p1 &&& (2147483647 : Int32)) % (3 : Int32)) + (1 : Int32)))), .val (.int ((128 : Int32) + (((((p1 &&& (2147483647 : Int32)) % (3 : Int32)) + (1 : Int32)) - (1 : Int32)) <<< ((5 : Int32) &&& 31)))), .val (.int v3), .val (.int v7), .unset, .unset] [(.int ((f1 (((p1 &&& (2147483647 : Int32)) % (3 : Int32)) + (1 : Int32))) &&& (224 : Int32)))])) _
    refine XS.iloadN X5.here hx rfl (hb hby at_56) rfl ?_
    show Steps p.tables e below (T5.setTop (mkF m 57 #[.val (.int p1), .val (.int (((p1 &&& (2147483647 : Int32)) % (3 : Int32)) + (1 : Int32))), .val (.int (f1 (((p1 &&& (2147483647 : Int32)) % (3 : Int32)) + (1 : Int32)))), .val (.int ((128 : Int32) + (((((p1 &&& (2147483647 : Int32)) % (3 : Int32)) + (1 : Int32)) - (1 : Int32)) <<< ((5 : Int32) &&& 31)))), .val (.int v3), .val (.int v7), .unset, .unset] [(.int (f1 (((p1 &&& (2147483647 : Int32)) % (3 : Int32)) + (1 : Int32)))), (.int ((f1 (((p1 &&& (2147483647 : Int32)) % (3 : Int32)) + (1 : Int32))) &&& (224 : Int32)))])) _
    by_cases hc9 : ((f1 (((p1 &&& (2147483647 : Int32)) % (3 : Int32)) + (1 : Int32))) &&& (224 : Int32)) = (f1 (((p1 &&& (2147483647 : Int32)) % (3 : Int32)) + (1 : Int32)))
    · refine XS.icmpNo X5.here hx rfl (hb hby at_57) rfl (teq hc9).2 ?_
      show Steps p.tables e below (T5.setTop (mkF m 60 #[.val (.int p1), .val (.int (((p1 &&& (2147483647 : Int32)) % (3 : Int32)) + (1 : Int32))), .val (.int (f1 (((p1 &&& (2147483647 : Int32)) % (3 : Int32)) + (1 : Int32)))), .val (.int ((128 : Int32) + (((((p1 &&& (2147483647 : Int32)) % (3 : Int32)) + (1 : Int32)) - (1 : Int32)) <<< ((5 : Int32) &&& 31)))), .val (.int v3), .val (.int v7), .unset, .unset] [])) _
      refine XS.iconst X5.here hx rfl (hb hby at_60) ?_
      show Steps p.tables e below (T5.setTop (mkF m 61 #[.val (.int p1), .val (.int (((p1 &&& (2147483647 : Int32)) % (3 : Int32)) + (1 : Int32))), .val (.int (f1 (((p1 &&& (2147483647 : Int32)) % (3 : Int32)) + (1 : Int32)))), .val (.int ((128 : Int32) + (((((p1 &&& (2147483647 : Int32)) % (3 : Int32)) + (1 : Int32)) - (1 : Int32)) <<< ((5 : Int32) &&& 31)))), .val (.int v3), .val (.int v7), .unset, .unset] [(.int (1 : Int32))])) _
      refine XS.goto X5.here hx rfl (pc0 := 61) (pc' := 65) rfl (hb hby at_61) (by decide) (by decide) ?_
      rw [show v10 = (1 : Int32) from hv10.trans (if_pos hc9)] at k
      exact k
    · refine XS.icmpYes X5.here hx rfl (pc0 := 57) (pc' := 64) rfl (hb hby at_57) rfl (feq hc9).2 (by decide) (by decide) ?_
      show Steps p.tables e below (T5.setTop (mkF m 64 #[.val (.int p1), .val (.int (((p1 &&& (2147483647 : Int32)) % (3 : Int32)) + (1 : Int32))), .val (.int (f1 (((p1 &&& (2147483647 : Int32)) % (3 : Int32)) + (1 : Int32)))), .val (.int ((128 : Int32) + (((((p1 &&& (2147483647 : Int32)) % (3 : Int32)) + (1 : Int32)) - (1 : Int32)) <<< ((5 : Int32) &&& 31)))), .val (.int v3), .val (.int v7), .unset, .unset] [])) _
      refine XS.iconst X5.here hx rfl (hb hby at_64) ?_
      rw [show v10 = (0 : Int32) from hv10.trans (if_neg hc9)] at k
      exact k)
  obtain ⟨v13, hv13⟩ : ∃ z : Int32, z = (if (f1 (((p1 &&& (2147483647 : Int32)) % (3 : Int32)) + (1 : Int32))) = (224 : Int32) then (0 : Int32) else (1 : Int32)) := ⟨_, rfl⟩
  have pre14 : ∀ t, Steps p.tables e below (T5.setTop (mkF m 79 #[.val (.int p1), .val (.int (((p1 &&& (2147483647 : Int32)) % (3 : Int32)) + (1 : Int32))), .val (.int (f1 (((p1 &&& (2147483647 : Int32)) % (3 : Int32)) + (1 : Int32)))), .val (.int ((128 : Int32) + (((((p1 &&& (2147483647 : Int32)) % (3 : Int32)) + (1 : Int32)) - (1 : Int32)) <<< ((5 : Int32) &&& 31)))), .val (.int v3), .val (.int v7), .val (.int v10), .unset] [(.int v13)])) t → Steps p.tables e below (s₁.setTop (entryFrame m #[(.int p1)] maxLocals)) t := fun t k => pre11 t (by
    show Steps p.tables e below (T5.setTop (mkF m 65 #[.val (.int p1), .val (.int (((p1 &&& (2147483647 : Int32)) % (3 : Int32)) + (1 : Int32))), .val (.int (f1 (((p1 &&& (2147483647 : Int32)) % (3 : Int32)) + (1 : Int32)))), .val (.int ((128 : Int32) + (((((p1 &&& (2147483647 : Int32)) % (3 : Int32)) + (1 : Int32)) - (1 : Int32)) <<< ((5 : Int32) &&& 31)))), .val (.int v3), .val (.int v7), .unset, .unset] [(.int v10)])) _
    refine XS.istore X5.here hx rfl (hb hby at_65) rfl (l' := #[.val (.int p1), .val (.int (((p1 &&& (2147483647 : Int32)) % (3 : Int32)) + (1 : Int32))), .val (.int (f1 (((p1 &&& (2147483647 : Int32)) % (3 : Int32)) + (1 : Int32)))), .val (.int ((128 : Int32) + (((((p1 &&& (2147483647 : Int32)) % (3 : Int32)) + (1 : Int32)) - (1 : Int32)) <<< ((5 : Int32) &&& 31)))), .val (.int v3), .val (.int v7), .val (.int v10), .unset]) rfl ?_
    show Steps p.tables e below (T5.setTop (mkF m 67 #[.val (.int p1), .val (.int (((p1 &&& (2147483647 : Int32)) % (3 : Int32)) + (1 : Int32))), .val (.int (f1 (((p1 &&& (2147483647 : Int32)) % (3 : Int32)) + (1 : Int32)))), .val (.int ((128 : Int32) + (((((p1 &&& (2147483647 : Int32)) % (3 : Int32)) + (1 : Int32)) - (1 : Int32)) <<< ((5 : Int32) &&& 31)))), .val (.int v3), .val (.int v7), .val (.int v10), .unset] [])) _
    refine XS.iloadN X5.here hx rfl (hb hby at_67) rfl ?_
    show Steps p.tables e below (T5.setTop (mkF m 68 #[.val (.int p1), .val (.int (((p1 &&& (2147483647 : Int32)) % (3 : Int32)) + (1 : Int32))), .val (.int (f1 (((p1 &&& (2147483647 : Int32)) % (3 : Int32)) + (1 : Int32)))), .val (.int ((128 : Int32) + (((((p1 &&& (2147483647 : Int32)) % (3 : Int32)) + (1 : Int32)) - (1 : Int32)) <<< ((5 : Int32) &&& 31)))), .val (.int v3), .val (.int v7), .val (.int v10), .unset] [(.int (f1 (((p1 &&& (2147483647 : Int32)) % (3 : Int32)) + (1 : Int32))))])) _
    refine XS.sipush X5.here hx rfl (hb hby at_68) ?_
    show Steps p.tables e below (T5.setTop (mkF m 71 #[.val (.int p1), .val (.int (((p1 &&& (2147483647 : Int32)) % (3 : Int32)) + (1 : Int32))), .val (.int (f1 (((p1 &&& (2147483647 : Int32)) % (3 : Int32)) + (1 : Int32)))), .val (.int ((128 : Int32) + (((((p1 &&& (2147483647 : Int32)) % (3 : Int32)) + (1 : Int32)) - (1 : Int32)) <<< ((5 : Int32) &&& 31)))), .val (.int v3), .val (.int v7), .val (.int v10), .unset] [(.int (224 : Int32)), (.int (f1 (((p1 &&& (2147483647 : Int32)) % (3 : Int32)) + (1 : Int32))))])) _
    by_cases hc12 : (f1 (((p1 &&& (2147483647 : Int32)) % (3 : Int32)) + (1 : Int32))) = (224 : Int32)
    · refine XS.icmpYes X5.here hx rfl (pc0 := 71) (pc' := 78) rfl (hb hby at_71) rfl (teq hc12).1 (by decide) (by decide) ?_
      show Steps p.tables e below (T5.setTop (mkF m 78 #[.val (.int p1), .val (.int (((p1 &&& (2147483647 : Int32)) % (3 : Int32)) + (1 : Int32))), .val (.int (f1 (((p1 &&& (2147483647 : Int32)) % (3 : Int32)) + (1 : Int32)))), .val (.int ((128 : Int32) + (((((p1 &&& (2147483647 : Int32)) % (3 : Int32)) + (1 : Int32)) - (1 : Int32)) <<< ((5 : Int32) &&& 31)))), .val (.int v3), .val (.int v7), .val (.int v10), .unset] [])) _
      refine XS.iconst X5.here hx rfl (hb hby at_78) ?_
      rw [show v13 = (0 : Int32) from hv13.trans (if_pos hc12)] at k
      exact k
    · refine XS.icmpNo X5.here hx rfl (hb hby at_71) rfl (feq hc12).1 ?_
      show Steps p.tables e below (T5.setTop (mkF m 74 #[.val (.int p1), .val (.int (((p1 &&& (2147483647 : Int32)) % (3 : Int32)) + (1 : Int32))), .val (.int (f1 (((p1 &&& (2147483647 : Int32)) % (3 : Int32)) + (1 : Int32)))), .val (.int ((128 : Int32) + (((((p1 &&& (2147483647 : Int32)) % (3 : Int32)) + (1 : Int32)) - (1 : Int32)) <<< ((5 : Int32) &&& 31)))), .val (.int v3), .val (.int v7), .val (.int v10), .unset] [])) _
      refine XS.iconst X5.here hx rfl (hb hby at_74) ?_
      show Steps p.tables e below (T5.setTop (mkF m 75 #[.val (.int p1), .val (.int (((p1 &&& (2147483647 : Int32)) % (3 : Int32)) + (1 : Int32))), .val (.int (f1 (((p1 &&& (2147483647 : Int32)) % (3 : Int32)) + (1 : Int32)))), .val (.int ((128 : Int32) + (((((p1 &&& (2147483647 : Int32)) % (3 : Int32)) + (1 : Int32)) - (1 : Int32)) <<< ((5 : Int32) &&& 31)))), .val (.int v3), .val (.int v7), .val (.int v10), .unset] [(.int (1 : Int32))])) _
      refine XS.goto X5.here hx rfl (pc0 := 75) (pc' := 79) rfl (hb hby at_75) (by decide) (by decide) ?_
      rw [show v13 = (1 : Int32) from hv13.trans (if_neg hc12)] at k
      exact k)
  obtain ⟨v19, hv19⟩ : ∃ z : Int32, z = (if v3 = (0 : Int32) then (0 : Int32) else (if v7 = (0 : Int32) then (0 : Int32) else (if v10 = (0 : Int32) then (0 : Int32) else (if v13 = (0 : Int32) then (0 : Int32) else (1 : Int32))))) := ⟨_, rfl⟩
  have pre20 : ∀ t, Steps p.tables e below (T5.setTop (mkF m 106 #[.val (.int p1), .val (.int (((p1 &&& (2147483647 : Int32)) % (3 : Int32)) + (1 : Int32))), .val (.int (f1 (((p1 &&& (2147483647 : Int32)) % (3 : Int32)) + (1 : Int32)))), .val (.int ((128 : Int32) + (((((p1 &&& (2147483647 : Int32)) % (3 : Int32)) + (1 : Int32)) - (1 : Int32)) <<< ((5 : Int32) &&& 31)))), .val (.int v3), .val (.int v7), .val (.int v10), .val (.int v13)] [(.int v19)])) t → Steps p.tables e below (s₁.setTop (entryFrame m #[(.int p1)] maxLocals)) t := fun t k => pre14 t (by
    show Steps p.tables e below (T5.setTop (mkF m 79 #[.val (.int p1), .val (.int (((p1 &&& (2147483647 : Int32)) % (3 : Int32)) + (1 : Int32))), .val (.int (f1 (((p1 &&& (2147483647 : Int32)) % (3 : Int32)) + (1 : Int32)))), .val (.int ((128 : Int32) + (((((p1 &&& (2147483647 : Int32)) % (3 : Int32)) + (1 : Int32)) - (1 : Int32)) <<< ((5 : Int32) &&& 31)))), .val (.int v3), .val (.int v7), .val (.int v10), .unset] [(.int v13)])) _
    refine XS.istore X5.here hx rfl (hb hby at_79) rfl (l' := #[.val (.int p1), .val (.int (((p1 &&& (2147483647 : Int32)) % (3 : Int32)) + (1 : Int32))), .val (.int (f1 (((p1 &&& (2147483647 : Int32)) % (3 : Int32)) + (1 : Int32)))), .val (.int ((128 : Int32) + (((((p1 &&& (2147483647 : Int32)) % (3 : Int32)) + (1 : Int32)) - (1 : Int32)) <<< ((5 : Int32) &&& 31)))), .val (.int v3), .val (.int v7), .val (.int v10), .val (.int v13)]) rfl ?_
    show Steps p.tables e below (T5.setTop (mkF m 81 #[.val (.int p1), .val (.int (((p1 &&& (2147483647 : Int32)) % (3 : Int32)) + (1 : Int32))), .val (.int (f1 (((p1 &&& (2147483647 : Int32)) % (3 : Int32)) + (1 : Int32)))), .val (.int ((128 : Int32) + (((((p1 &&& (2147483647 : Int32)) % (3 : Int32)) + (1 : Int32)) - (1 : Int32)) <<< ((5 : Int32) &&& 31)))), .val (.int v3), .val (.int v7), .val (.int v10), .val (.int v13)] [])) _
    refine XS.iload X5.here hx rfl (hb hby at_81) rfl ?_
    show Steps p.tables e below (T5.setTop (mkF m 83 #[.val (.int p1), .val (.int (((p1 &&& (2147483647 : Int32)) % (3 : Int32)) + (1 : Int32))), .val (.int (f1 (((p1 &&& (2147483647 : Int32)) % (3 : Int32)) + (1 : Int32)))), .val (.int ((128 : Int32) + (((((p1 &&& (2147483647 : Int32)) % (3 : Int32)) + (1 : Int32)) - (1 : Int32)) <<< ((5 : Int32) &&& 31)))), .val (.int v3), .val (.int v7), .val (.int v10), .val (.int v13)] [(.int v3)])) _
    by_cases hc15 : v3 = (0 : Int32)
    · refine XS.ifYes X5.here hx rfl (pc0 := 83) (pc' := 105) rfl (hb hby at_83) rfl ((if0 _ _).trans (teq hc15).1) (by decide) (by decide) ?_
      show Steps p.tables e below (T5.setTop (mkF m 105 #[.val (.int p1), .val (.int (((p1 &&& (2147483647 : Int32)) % (3 : Int32)) + (1 : Int32))), .val (.int (f1 (((p1 &&& (2147483647 : Int32)) % (3 : Int32)) + (1 : Int32)))), .val (.int ((128 : Int32) + (((((p1 &&& (2147483647 : Int32)) % (3 : Int32)) + (1 : Int32)) - (1 : Int32)) <<< ((5 : Int32) &&& 31)))), .val (.int v3), .val (.int v7), .val (.int v10), .val (.int v13)] [])) _
      refine XS.iconst X5.here hx rfl (hb hby at_105) ?_
      rw [show v19 = (0 : Int32) from hv19.trans (if_pos hc15)] at k
      exact k
    · refine XS.ifNo X5.here hx rfl (hb hby at_83) rfl ((if0 _ _).trans (feq hc15).1) ?_
      show Steps p.tables e below (T5.setTop (mkF m 86 #[.val (.int p1), .val (.int (((p1 &&& (2147483647 : Int32)) % (3 : Int32)) + (1 : Int32))), .val (.int (f1 (((p1 &&& (2147483647 : Int32)) % (3 : Int32)) + (1 : Int32)))), .val (.int ((128 : Int32) + (((((p1 &&& (2147483647 : Int32)) % (3 : Int32)) + (1 : Int32)) - (1 : Int32)) <<< ((5 : Int32) &&& 31)))), .val (.int v3), .val (.int v7), .val (.int v10), .val (.int v13)] [])) _
      refine XS.iload X5.here hx rfl (hb hby at_86) rfl ?_
      show Steps p.tables e below (T5.setTop (mkF m 88 #[.val (.int p1), .val (.int (((p1 &&& (2147483647 : Int32)) % (3 : Int32)) + (1 : Int32))), .val (.int (f1 (((p1 &&& (2147483647 : Int32)) % (3 : Int32)) + (1 : Int32)))), .val (.int ((128 : Int32) + (((((p1 &&& (2147483647 : Int32)) % (3 : Int32)) + (1 : Int32)) - (1 : Int32)) <<< ((5 : Int32) &&& 31)))), .val (.int v3), .val (.int v7), .val (.int v10), .val (.int v13)] [(.int v7)])) _
      by_cases hc16 : v7 = (0 : Int32)
      · refine XS.ifYes X5.here hx rfl (pc0 := 88) (pc' := 105) rfl (hb hby at_88) rfl ((if0 _ _).trans (teq hc16).1) (by decide) (by decide) ?_
        show Steps p.tables e below (T5.setTop (mkF m 105 #[.val (.int p1), .val (.int (((p1 &&& (2147483647 : Int32)) % (3 : Int32)) + (1 : Int32))), .val (.int (f1 (((p1 &&& (2147483647 : Int32)) % (3 : Int32)) + (1 : Int32)))), .val (.int ((128 : Int32) + (((((p1 &&& (2147483647 : Int32)) % (3 : Int32)) + (1 : Int32)) - (1 : Int32)) <<< ((5 : Int32) &&& 31)))), .val (.int v3), .val (.int v7), .val (.int v10), .val (.int v13)] [])) _
        refine XS.iconst X5.here hx rfl (hb hby at_105) ?_
        rw [show v19 = (0 : Int32) from hv19.trans ((if_neg hc15).trans (if_pos hc16))] at k
        exact k
      · refine XS.ifNo X5.here hx rfl (hb hby at_88) rfl ((if0 _ _).trans (feq hc16).1) ?_
        show Steps p.tables e below (T5.setTop (mkF m 91 #[.val (.int p1), .val (.int (((p1 &&& (2147483647 : Int32)) % (3 : Int32)) + (1 : Int32))), .val (.int (f1 (((p1 &&& (2147483647 : Int32)) % (3 : Int32)) + (1 : Int32)))), .val (.int ((128 : Int32) + (((((p1 &&& (2147483647 : Int32)) % (3 : Int32)) + (1 : Int32)) - (1 : Int32)) <<< ((5 : Int32) &&& 31)))), .val (.int v3), .val (.int v7), .val (.int v10), .val (.int v13)] [])) _
        refine XS.iload X5.here hx rfl (hb hby at_91) rfl ?_
        show Steps p.tables e below (T5.setTop (mkF m 93 #[.val (.int p1), .val (.int (((p1 &&& (2147483647 : Int32)) % (3 : Int32)) + (1 : Int32))), .val (.int (f1 (((p1 &&& (2147483647 : Int32)) % (3 : Int32)) + (1 : Int32)))), .val (.int ((128 : Int32) + (((((p1 &&& (2147483647 : Int32)) % (3 : Int32)) + (1 : Int32)) - (1 : Int32)) <<< ((5 : Int32) &&& 31)))), .val (.int v3), .val (.int v7), .val (.int v10), .val (.int v13)] [(.int v10)])) _
        by_cases hc17 : v10 = (0 : Int32)
        · refine XS.ifYes X5.here hx rfl (pc0 := 93) (pc' := 105) rfl (hb hby at_93) rfl ((if0 _ _).trans (teq hc17).1) (by decide) (by decide) ?_
          show Steps p.tables e below (T5.setTop (mkF m 105 #[.val (.int p1), .val (.int (((p1 &&& (2147483647 : Int32)) % (3 : Int32)) + (1 : Int32))), .val (.int (f1 (((p1 &&& (2147483647 : Int32)) % (3 : Int32)) + (1 : Int32)))), .val (.int ((128 : Int32) + (((((p1 &&& (2147483647 : Int32)) % (3 : Int32)) + (1 : Int32)) - (1 : Int32)) <<< ((5 : Int32) &&& 31)))), .val (.int v3), .val (.int v7), .val (.int v10), .val (.int v13)] [])) _
          refine XS.iconst X5.here hx rfl (hb hby at_105) ?_
          rw [show v19 = (0 : Int32) from hv19.trans ((if_neg hc15).trans ((if_neg hc16).trans (if_pos hc17)))] at k
          exact k
        · refine XS.ifNo X5.here hx rfl (hb hby at_93) rfl ((if0 _ _).trans (feq hc17).1) ?_
          show Steps p.tables e below (T5.setTop (mkF m 96 #[.val (.int p1), .val (.int (((p1 &&& (2147483647 : Int32)) % (3 : Int32)) + (1 : Int32))), .val (.int (f1 (((p1 &&& (2147483647 : Int32)) % (3 : Int32)) + (1 : Int32)))), .val (.int ((128 : Int32) + (((((p1 &&& (2147483647 : Int32)) % (3 : Int32)) + (1 : Int32)) - (1 : Int32)) <<< ((5 : Int32) &&& 31)))), .val (.int v3), .val (.int v7), .val (.int v10), .val (.int v13)] [])) _
          refine XS.iload X5.here hx rfl (hb hby at_96) rfl ?_
          show Steps p.tables e below (T5.setTop (mkF m 98 #[.val (.int p1), .val (.int (((p1 &&& (2147483647 : Int32)) % (3 : Int32)) + (1 : Int32))), .val (.int (f1 (((p1 &&& (2147483647 : Int32)) % (3 : Int32)) + (1 : Int32)))), .val (.int ((128 : Int32) + (((((p1 &&& (2147483647 : Int32)) % (3 : Int32)) + (1 : Int32)) - (1 : Int32)) <<< ((5 : Int32) &&& 31)))), .val (.int v3), .val (.int v7), .val (.int v10), .val (.int v13)] [(.int v13)])) _
          by_cases hc18 : v13 = (0 : Int32)
          · refine XS.ifYes X5.here hx rfl (pc0 := 98) (pc' := 105) rfl (hb hby at_98) rfl ((if0 _ _).trans (teq hc18).1) (by decide) (by decide) ?_
            show Steps p.tables e below (T5.setTop (mkF m 105 #[.val (.int p1), .val (.int (((p1 &&& (2147483647 : Int32)) % (3 : Int32)) + (1 : Int32))), .val (.int (f1 (((p1 &&& (2147483647 : Int32)) % (3 : Int32)) + (1 : Int32)))), .val (.int ((128 : Int32) + (((((p1 &&& (2147483647 : Int32)) % (3 : Int32)) + (1 : Int32)) - (1 : Int32)) <<< ((5 : Int32) &&& 31)))), .val (.int v3), .val (.int v7), .val (.int v10), .val (.int v13)] [])) _
            refine XS.iconst X5.here hx rfl (hb hby at_105) ?_
            rw [show v19 = (0 : Int32) from hv19.trans ((if_neg hc15).trans ((if_neg hc16).trans ((if_neg hc17).trans (if_pos hc18))))] at k
            exact k
          · refine XS.ifNo X5.here hx rfl (hb hby at_98) rfl ((if0 _ _).trans (feq hc18).1) ?_
            show Steps p.tables e below (T5.setTop (mkF m 101 #[.val (.int p1), .val (.int (((p1 &&& (2147483647 : Int32)) % (3 : Int32)) + (1 : Int32))), .val (.int (f1 (((p1 &&& (2147483647 : Int32)) % (3 : Int32)) + (1 : Int32)))), .val (.int ((128 : Int32) + (((((p1 &&& (2147483647 : Int32)) % (3 : Int32)) + (1 : Int32)) - (1 : Int32)) <<< ((5 : Int32) &&& 31)))), .val (.int v3), .val (.int v7), .val (.int v10), .val (.int v13)] [])) _
            refine XS.iconst X5.here hx rfl (hb hby at_101) ?_
            show Steps p.tables e below (T5.setTop (mkF m 102 #[.val (.int p1), .val (.int (((p1 &&& (2147483647 : Int32)) % (3 : Int32)) + (1 : Int32))), .val (.int (f1 (((p1 &&& (2147483647 : Int32)) % (3 : Int32)) + (1 : Int32)))), .val (.int ((128 : Int32) + (((((p1 &&& (2147483647 : Int32)) % (3 : Int32)) + (1 : Int32)) - (1 : Int32)) <<< ((5 : Int32) &&& 31)))), .val (.int v3), .val (.int v7), .val (.int v10), .val (.int v13)] [(.int (1 : Int32))])) _
            refine XS.goto X5.here hx rfl (pc0 := 102) (pc' := 106) rfl (hb hby at_102) (by decide) (by decide) ?_
            rw [show v19 = (1 : Int32) from hv19.trans ((if_neg hc15).trans ((if_neg hc16).trans ((if_neg hc17).trans (if_neg hc18))))] at k
            exact k)
  have er : (f0 p1) = (nar .boolean v19) := by subst hv3 hv7 hv10 hv13 hv19; exact rfl
  obtain ⟨fs, hr, hrun, hended, hW, hsame⟩ := X5.leave (v := some (.int (nar .boolean v19))) (fun h => by rw [Bd.returns] at h; cases h)
  refine ⟨_, _, pre20 _ ?_, hrun, hended, _, _, rfl, ?_, ⟨_, rfl⟩, hW, hsame.mono (by decide) (by decide)⟩
  · show Steps p.tables e below (T5.setTop (mkF m 106 #[.val (.int p1), .val (.int (((p1 &&& (2147483647 : Int32)) % (3 : Int32)) + (1 : Int32))), .val (.int (f1 (((p1 &&& (2147483647 : Int32)) % (3 : Int32)) + (1 : Int32)))), .val (.int ((128 : Int32) + (((((p1 &&& (2147483647 : Int32)) % (3 : Int32)) + (1 : Int32)) - (1 : Int32)) <<< ((5 : Int32) &&& 31)))), .val (.int v3), .val (.int v7), .val (.int v10), .val (.int v13)] [(.int v19)])) _
    exact retN X5 hx (t := .boolean) Bd.returns (by simp) (hb hby at_106) hr
  · show Q0 Z p1 h0 n0 _ T5.heap _
    rw [e5]
    exact ⟨congrArg (fun z => some (Value.int z)) er.symm, N5, rfl⟩
theorem own_nat {c : Int32} (n : Nat) (h0 : 0 ≤ c.toInt) (h1 : c.toInt < n) : ∃ k : Nat, k < n ∧ c = Int32.ofInt k :=
  ⟨c.toInt.toNat, by omega, by rw [Int.toNat_of_nonneg h0, Int32.ofInt_toInt]⟩
theorem own_i2c (x : Int32) : 0 ≤ (x.toUInt32.toUInt16.toUInt32.toInt32).toInt ∧ (x.toUInt32.toUInt16.toUInt32.toInt32).toInt < 65536 := by
  have h : (decide ((0 : Int32) ≤ x.toUInt32.toUInt16.toUInt32.toInt32) && decide (x.toUInt32.toUInt16.toUInt32.toInt32 ≤ (65535 : Int32))) = true := fits_nar_char x
  rw [Bool.and_eq_true, decide_eq_true_eq, decide_eq_true_eq, Int32.le_iff_toInt_le, Int32.le_iff_toInt_le] at h
  have e1 : (0 : Int32).toInt = 0 := by decide
  have e2 : (65535 : Int32).toInt = 65535 := by decide
  omega
theorem own_nb (c : Prop) [Decidable c] : nar .boolean (if c then (1 : Int32) else 0) = if c then 1 else 0 := by
  by_cases h : c
  · rw [if_pos h]; decide
  · rw [if_neg h]; decide

theorem own_law (p1 : Int32) : f0 p1 = 1 := by
  have hm := c_mask p1 2147483647 31 (by decide) (by decide)
  unfold f0
  have h0 : 0 ≤ (p1 &&& (2147483647 : Int32)).toInt := by omega
  have hr := (c_irem (p1 &&& (2147483647 : Int32)) 3 3 (by decide)).1 h0
  generalize (p1 &&& (2147483647 : Int32)) % (3 : Int32) = r at *
  obtain ⟨k, hk, rfl⟩ := own_nat (c := r) 3 (by omega) (by omega)
  match k, hk with
  | 0, _ => decide +kernel
  | 1, _ => decide +kernel
  | 2, _ => decide +kernel
set_option maxRecDepth 65536 in
set_option maxHeartbeats 40000000 in
theorem comes_1 {Post : Tables → Env → Array Value → State → Outcome → State → Prop} (hpost : ∀ tb e args s v u, (limb_1_1.after args s (.returned v) u = true ∧ limb_1_2.after args s (.returned v) u = true ∧ True) → FrameEnd s (.returned v) u (Jvm.fieldLocs frame_1_writes args s ++ Jvm.arrayLocs frame_1_arrays args s ++ Jvm.staticLocs frame_1_statics s) 0 0 → Post tb e args s (.returned v) u) :
    ArmFor flags0 classFile x code maxLocals ret World_1 tables_1 room_1 Calls_1 rest_1 Pre_1 Post := by
  intro l hfl _ _ p e ha hc hk s m args below hf hA hF happ hP
  obtain ⟨hcalls, hrest, hpre⟩ := hP
  obtain ⟨-, -, -, hnamed, -, -, -, hat⟩ := (Spec.applies_iff hf).mp happ
  obtain ⟨hg, hn⟩ := and_e (Cond.before_iff.mp (show (Jvm.Cond.and given_1 narrow_1).before args s = true from hpre))
  obtain ⟨g1, g2⟩ := and_e hg
  obtain ⟨w0, rfl⟩ : ∃ w0 : Value, args = #[w0] := by
    have hs : args.size = 1 := by simpa [Cond.value, given_1] using g1
    obtain ⟨L⟩ := args
    match L, hs with
    | [w0], _ => exact ⟨w0, rfl⟩
  have hw := fun d (hd : d ∈ tables_1) => atoms_spec (ws := Jvm.Cond.code x code maxLocals ret :: tables_1) hat d (List.mem_cons_of_mem _ hd)
  obtain ⟨i0, ei0⟩ := is_v g2
  obtain rfl : w0 = (.int i0) := Option.some.inj ei0
  obtain ⟨n, o, h1, h2, h3, _, L, rfl, ⟨rfl, N, -⟩, hq⟩ := rm0 l s _ hw tables_1 i0 s.heap s.heap.size (Nat.le_refl _) p e ha hc hk s m _ below hf ((Spec.applies_iff_loose hf).mp happ).1 ⟨rfl, State.Warmed39.refl s, rfl⟩ trivial
  refine ⟨n, _, h1, h2, h3, hpost _ _ _ _ _ _ ⟨Cond.after_iff.mpr rfl, Cond.after_iff.mpr (eq_i res_at (Term.int_eval (1)) (congrArg Value.int (own_law i0))), trivial⟩ ⟨hq.1, hq.2.1, (hq.2.2.sift fun y hy => Or.inr (N y hy)).mono (by decide) (by decide)⟩⟩
theorem main_1_1 : Claimed_1_1 := comes_1 fun _ _ _ _ _ _ h hF => ⟨h.1, hF⟩
theorem main_1_2 : Claimed_1_2 := comes_1 fun _ _ _ _ _ _ h hF => ⟨h.2.1, hF⟩
end Jvm.Pilot.@@N@@
namespace Jvm.Pilot.@@N@@
open Jvm Jvm.ClassFile Sem Op Lib Jvm.Free Jvm.Stand Jvm.Pilot.@@N@@.Jvm.D
/-! MADE BY PROGRAM (witnessworld.py) out of the Statement's table words and the real class files: 9 classes; the members and pool entries that the words name. The judged class is class 1, her method 1. -/
namespace start1
open Jvm.ClassFile
def u (s : String) : CpInfo := .utf8 (stringToUtf16 s)
/-- a pool by its gaps: so many unusable entries, then the entry; so many at the end -/
def gap : Nat → List CpInfo → List CpInfo
  | 0, r => r
  | n + 1, r => .unusable :: gap n r
def poolList (es : List (Nat × CpInfo)) (last : Nat) : List CpInfo := es.foldr (fun e r => gap e.1 (e.2 :: r)) (gap last [])
def pool (es : List (Nat × CpInfo)) (last : Nat) : Array CpInfo := ⟨poolList es last⟩
def fileOf (pool : Array CpInfo) (this : Nat) (attrs : Array Attribute := #[]) (ms : Array MethodInfo := #[]) (fl : Nat := 33) (sup : Nat := 0) (ifs : Array Nat := #[]) (fds : Array FieldInfo := #[]) : ClassFile where
  minorVersion := 0
  majorVersion := 65
  constantPool := pool
  accessFlags := fl
  thisClass := this
  superClass := sup
  interfaces := ifs
  fields := fds
  methods := ms
  attributes := attrs
def plain (name : String) (sup : Option ClassId) : Class where
  name := name
  kind := .ordinary
  loader := none
  accessFlags := 33
  super := sup
  interfaces := #[]
  cf := none
  fields := #[]
  methods := #[]
  instanceTypes := #[]
  staticTypes := #[]
  resolved := #[]
  callSites := []
  init := .initialized
  statics := none
  mirror := none

def pool0 : Array CpInfo := pool [(5, u "<init>"), (0, u "()V"), (1, .class_ 10), (1, u "java/lang/Object")] 113

def k0m0 : Method := { name := "<init>", desc := "()V", sig := { parameters := [], returnType := none }, accessFlags := 1, code := none }
/-- java/lang/Object -/
def k0 : Class := { plain "java/lang/Object" none with
  accessFlags := 33
  interfaces := #[]
  cf := some (fileOf pool0 8 #[] #[{ accessFlags := 1, nameIndex := 5, descriptorIndex := 6, attributes := #[] }] 33 0 #[] #[])
  fields := #[]
  methods := #[k0m0]
  instanceTypes := #[]
  staticTypes := #[]
  resolved := Array.replicate 124 none
  statics := none }

def pool1 : Array CpInfo := pool [(2, .class_ 4), (1, u "java/lang/Object"), (0, u "<init>"), (0, u "()V"), (0, .integer 2147483647), (0, .methodref 9 10), (0, .class_ 11), (0, .nameAndType 12 13), (0, u "com/example/tagwire/tagwire/formats/Binn"), (0, u "keyForm"), (0, u "(I)I"), (0, .methodref 9 15), (0, .nameAndType 16 13), (0, u "keyBytesAfterFirst"), (0, .class_ 18), (0, u "com/example/tagwire/tagwire/formats/BinnKeyFormPinLaw"), (2, u "law"), (0, u "(I)Z")] 3

def k1m0 : Method := { name := "<init>", desc := "()V", sig := { parameters := [], returnType := none }, accessFlags := 2, code := none }
def k1c1 : Code := { maxStack := 3, maxLocals := 8, code := code, exceptionTable := #[], attributes := #[] }
def k1m1 : Method := { name := "law", desc := "(I)Z", sig := { parameters := [.int], returnType := some .boolean }, accessFlags := 9, code := some k1c1 }
/-- com/example/tagwire/tagwire/formats/BinnKeyFormPinLaw -/
def k1 : Class := { plain "com/example/tagwire/tagwire/formats/BinnKeyFormPinLaw" (some 0) with
  accessFlags := 49
  interfaces := #[]
  cf := some (fileOf pool1 17 #[] #[{ accessFlags := 2, nameIndex := 5, descriptorIndex := 6, attributes := #[] }, { accessFlags := 9, nameIndex := 21, descriptorIndex := 22, attributes := #[] }] 49 2 #[] #[])
  fields := #[]
  methods := #[k1m0, k1m1]
  instanceTypes := #[]
  staticTypes := #[]
  resolved := Array.replicate 26 none
  statics := none }

def pool2 : Array CpInfo := pool [(4, .class_ 6), (1, u "java/lang/Object"), (0, u "<init>"), (0, u "()V"), (1, .class_ 12), (1, u "com/example/tagwire/tagwire/formats/Binn$Storage"), (2, .class_ 16), (0, u "com/example/tagwire/tagwire/formats/Binn"), (1, u "NULL"), (0, u "I"), (2, u "TRUE"), (1, u "FALSE"), (1, u "UINT8"), (1, u "INT8"), (1, u "UINT16"), (1, u "INT16"), (1, u "UINT32"), (1, u "INT32"), (1, u "FLOAT32"), (1, u "UINT64"), (1, u "INT64"), (1, u "FLOAT64"), (1, u "STRING"), (1, u "BLOB"), (1, u "LIST"), (1, u "MAP"), (1, u "OBJECT"), (1, u "WIDE_TYPE"), (1, u "MAX_SHORT_SIZE"), (1, u "LONG_SIZE"), (0, u "LONG_SIZE_BYTES"), (1, u "MAX_SIZE"), (1, u "MAX_KEY_BYTES"), (1, u "INT32_KEY_BYTES"), (0, u "MAX_SHORT_KEY"), (1, u "SHORT_KEY_SIGN"), (0, u "KEY_BYTES_2"), (0, u "KEY_BYTES_3"), (0, u "KEY_BYTES_4"), (0, u "FULL_KEY"), (0, u "KEY_FORM"), (0, u "KEY_SIGN"), (0, u "KEY_TOP_BITS"), (1, u "KEY_TOP_BIT_COUNT"), (0, u "OTHER_CONTAINERS"), (0, u "Ljava/lang/String;"), (10, u "keyForm"), (0, u "(I)I"), (0, u "keyBytesAfterFirst")] 5

def k2m0 : Method := { name := "<init>", desc := "()V", sig := { parameters := [], returnType := none }, accessFlags := 2, code := none }
def k2c1 : Code := { maxStack := 1, maxLocals := 1, code := prog_51_method_5_code, exceptionTable := #[], attributes := #[] }
def k2m1 : Method := { name := "keyForm", desc := "(I)I", sig := { parameters := [.int], returnType := some .int }, accessFlags := 8, code := some k2c1 }
def k2c2 : Code := { maxStack := 1, maxLocals := 1, code := prog_51_method_6_code, exceptionTable := #[], attributes := #[] }
def k2m2 : Method := { name := "keyBytesAfterFirst", desc := "(I)I", sig := { parameters := [.int], returnType := some .int }, accessFlags := 8, code := some k2c2 }
/-- com/example/tagwire/tagwire/formats/Binn -/
def k2 : Class := { plain "com/example/tagwire/tagwire/formats/Binn" (some 0) with
  accessFlags := 48
  interfaces := #[]
  cf := some (fileOf pool2 15 #[.nestMembers #[10]] #[{ accessFlags := 2, nameIndex := 7, descriptorIndex := 8, attributes := #[] }, { accessFlags := 8, nameIndex := 92, descriptorIndex := 93, attributes := #[] }, { accessFlags := 8, nameIndex := 94, descriptorIndex := 93, attributes := #[] }] 48 4 #[] #[{ accessFlags := 24, nameIndex := 18, descriptorIndex := 19, attributes := #[] }, { accessFlags := 24, nameIndex := 22, descriptorIndex := 19, attributes := #[] }, { accessFlags := 24, nameIndex := 24, descriptorIndex := 19, attributes := #[] }, { accessFlags := 24, nameIndex := 26, descriptorIndex := 19, attributes := #[] }, { accessFlags := 24, nameIndex := 28, descriptorIndex := 19, attributes := #[] }, { accessFlags := 24, nameIndex := 30, descriptorIndex := 19, attributes := #[] }, { accessFlags := 24, nameIndex := 32, descriptorIndex := 19, attributes := #[] }, { accessFlags := 24, nameIndex := 34, descriptorIndex := 19, attributes := #[] }, { accessFlags := 24, nameIndex := 36, descriptorIndex := 19, attributes := #[] }, { accessFlags := 24, nameIndex := 38, descriptorIndex := 19, attributes := #[] }, { accessFlags := 24, nameIndex := 40, descriptorIndex := 19, attributes := #[] }, { accessFlags := 24, nameIndex := 42, descriptorIndex := 19, attributes := #[] }, { accessFlags := 24, nameIndex := 44, descriptorIndex := 19, attributes := #[] }, { accessFlags := 24, nameIndex := 46, descriptorIndex := 19, attributes := #[] }, { accessFlags := 24, nameIndex := 48, descriptorIndex := 19, attributes := #[] }, { accessFlags := 24, nameIndex := 50, descriptorIndex := 19, attributes := #[] }, { accessFlags := 24, nameIndex := 52, descriptorIndex := 19, attributes := #[] }, { accessFlags := 24, nameIndex := 54, descriptorIndex := 19, attributes := #[] }, { accessFlags := 24, nameIndex := 56, descriptorIndex := 19, attributes := #[] }, { accessFlags := 24, nameIndex := 58, descriptorIndex := 19, attributes := #[] }, { accessFlags := 24, nameIndex := 60, descriptorIndex := 19, attributes := #[] }, { accessFlags := 24, nameIndex := 61, descriptorIndex := 19, attributes := #[] }, { accessFlags := 24, nameIndex := 63, descriptorIndex := 19, attributes := #[] }, { accessFlags := 24, nameIndex := 65, descriptorIndex := 19, attributes := #[] }, { accessFlags := 24, nameIndex := 67, descriptorIndex := 19, attributes := #[] }, { accessFlags := 24, nameIndex := 68, descriptorIndex := 19, attributes := #[] }, { accessFlags := 24, nameIndex := 70, descriptorIndex := 19, attributes := #[] }, { accessFlags := 24, nameIndex := 71, descriptorIndex := 19, attributes := #[] }, { accessFlags := 24, nameIndex := 72, descriptorIndex := 19, attributes := #[] }, { accessFlags := 24, nameIndex := 73, descriptorIndex := 19, attributes := #[] }, { accessFlags := 24, nameIndex := 74, descriptorIndex := 19, attributes := #[] }, { accessFlags := 24, nameIndex := 75, descriptorIndex := 19, attributes := #[] }, { accessFlags := 24, nameIndex := 76, descriptorIndex := 19, attributes := #[] }, { accessFlags := 24, nameIndex := 77, descriptorIndex := 19, attributes := #[] }, { accessFlags := 24, nameIndex := 79, descriptorIndex := 19, attributes := #[] }, { accessFlags := 24, nameIndex := 80, descriptorIndex := 81, attributes := #[] }])
  fields := #[{ name := "NULL", type := .int, accessFlags := 24, slot := 0, constantValue := 0 }, { name := "TRUE", type := .int, accessFlags := 24, slot := 1, constantValue := 0 }, { name := "FALSE", type := .int, accessFlags := 24, slot := 2, constantValue := 0 }, { name := "UINT8", type := .int, accessFlags := 24, slot := 3, constantValue := 0 }, { name := "INT8", type := .int, accessFlags := 24, slot := 4, constantValue := 0 }, { name := "UINT16", type := .int, accessFlags := 24, slot := 5, constantValue := 0 }, { name := "INT16", type := .int, accessFlags := 24, slot := 6, constantValue := 0 }, { name := "UINT32", type := .int, accessFlags := 24, slot := 7, constantValue := 0 }, { name := "INT32", type := .int, accessFlags := 24, slot := 8, constantValue := 0 }, { name := "FLOAT32", type := .int, accessFlags := 24, slot := 9, constantValue := 0 }, { name := "UINT64", type := .int, accessFlags := 24, slot := 10, constantValue := 0 }, { name := "INT64", type := .int, accessFlags := 24, slot := 11, constantValue := 0 }, { name := "FLOAT64", type := .int, accessFlags := 24, slot := 12, constantValue := 0 }, { name := "STRING", type := .int, accessFlags := 24, slot := 13, constantValue := 0 }, { name := "BLOB", type := .int, accessFlags := 24, slot := 14, constantValue := 0 }, { name := "LIST", type := .int, accessFlags := 24, slot := 15, constantValue := 0 }, { name := "MAP", type := .int, accessFlags := 24, slot := 16, constantValue := 0 }, { name := "OBJECT", type := .int, accessFlags := 24, slot := 17, constantValue := 0 }, { name := "WIDE_TYPE", type := .int, accessFlags := 24, slot := 18, constantValue := 0 }, { name := "MAX_SHORT_SIZE", type := .int, accessFlags := 24, slot := 19, constantValue := 0 }, { name := "LONG_SIZE", type := .int, accessFlags := 24, slot := 20, constantValue := 0 }, { name := "LONG_SIZE_BYTES", type := .int, accessFlags := 24, slot := 21, constantValue := 0 }, { name := "MAX_SIZE", type := .int, accessFlags := 24, slot := 22, constantValue := 0 }, { name := "MAX_KEY_BYTES", type := .int, accessFlags := 24, slot := 23, constantValue := 0 }, { name := "INT32_KEY_BYTES", type := .int, accessFlags := 24, slot := 24, constantValue := 0 }, { name := "MAX_SHORT_KEY", type := .int, accessFlags := 24, slot := 25, constantValue := 0 }, { name := "SHORT_KEY_SIGN", type := .int, accessFlags := 24, slot := 26, constantValue := 0 }, { name := "KEY_BYTES_2", type := .int, accessFlags := 24, slot := 27, constantValue := 0 }, { name := "KEY_BYTES_3", type := .int, accessFlags := 24, slot := 28, constantValue := 0 }, { name := "KEY_BYTES_4", type := .int, accessFlags := 24, slot := 29, constantValue := 0 }, { name := "FULL_KEY", type := .int, accessFlags := 24, slot := 30, constantValue := 0 }, { name := "KEY_FORM", type := .int, accessFlags := 24, slot := 31, constantValue := 0 }, { name := "KEY_SIGN", type := .int, accessFlags := 24, slot := 32, constantValue := 0 }, { name := "KEY_TOP_BITS", type := .int, accessFlags := 24, slot := 33, constantValue := 0 }, { name := "KEY_TOP_BIT_COUNT", type := .int, accessFlags := 24, slot := 34, constantValue := 0 }, { name := "OTHER_CONTAINERS", type := (.object "java/lang/String"), accessFlags := 24, slot := 35, constantValue := 0 }]
  methods := #[k2m0, k2m1, k2m2]
  instanceTypes := #[]
  staticTypes := #[.int, .int, .int, .int, .int, .int, .int, .int, .int, .int, .int, .int, .int, .int, .int, .int, .int, .int, .int, .int, .int, .int, .int, .int, .int, .int, .int, .int, .int, .int, .int, .int, .int, .int, .int, (.object "java/lang/String")]
  resolved := Array.replicate 100 none
  statics := none }

def pool3 : Array CpInfo := pool [(1, u "java/lang/Cloneable"), (0, .class_ 1), (0, u "java/lang/Object"), (0, .class_ 3)] 3

/-- java/lang/Cloneable -/
def k3 : Class := { plain "java/lang/Cloneable" (some 0) with
  accessFlags := 1537
  interfaces := #[]
  cf := some (fileOf pool3 2 #[] #[] 1537 4 #[] #[])
  fields := #[]
  methods := #[]
  instanceTypes := #[]
  staticTypes := #[]
  resolved := Array.replicate 8 none
  statics := none }

def pool4 : Array CpInfo := pool [(1, u "java/io/Serializable"), (0, .class_ 1), (0, u "java/lang/Object"), (0, .class_ 3)] 3

/-- java/io/Serializable -/
def k4 : Class := { plain "java/io/Serializable" (some 0) with
  accessFlags := 1537
  interfaces := #[]
  cf := some (fileOf pool4 2 #[] #[] 1537 4 #[] #[])
  fields := #[]
  methods := #[]
  instanceTypes := #[]
  staticTypes := #[]
  resolved := Array.replicate 8 none
  statics := none }

/-- the primitive byte -/
def k5 : Class := { plain "byte" none with kind := .primitive 'B', accessFlags := 0x411 }
/-- [B -/
def k6 : Class := { plain "[B" (some 0) with kind := .array 5 .byte, interfaces := #[3, 4], accessFlags := 1041 }

/-- the primitive int -/
def k7 : Class := { plain "int" none with kind := .primitive 'I', accessFlags := 0x411 }
/-- [I -/
def k8 : Class := { plain "[I" (some 0) with kind := .array 7 .int, interfaces := #[3, 4], accessFlags := 1041 }

def heap : Heap := #[]
def classes : Array Class := #[k0, k1, k2, k3, k4, k5, k6, k7, k8]
def interned : List (Array UInt16 × Addr) := []
def slotsUsed : Nat := 0
def theMethod : MethodId := ⟨1, 1⟩
def args0 : Array Value := #[.int 300]
def aboutOver (below : List Frame) : State where
  vm := { classes := classes, interned := interned.toArray }
  heap := heap
  slotsUsed := slotsUsed
  threads := #[{ frames := .invoking theMethod args0 :: below }]
def below0 : List Frame := [.native { method := ⟨0, 0⟩, args := #[] }]
def about1 : State := aboutOver below0
def p0 : Program := .bare "" "" ""
def e0 : Env := launch0.env 0 0 0
theorem w_frames : about1.frames = Frame.invoking theMethod args0 :: below0 := rfl
set_option maxRecDepth 65536 in
theorem w_args : argsFit about1.vm theMethod args0 = true := by decide +kernel
set_option maxRecDepth 65536 in
theorem w_heap : heapFits about1 = true := by decide +kernel
set_option maxRecDepth 65536 in
theorem w_runnable : about1.curStatus? = some .runnable := by decide +kernel
set_option maxRecDepth 65536 in
theorem w_alone : about1.alone = true := by decide +kernel
set_option maxRecDepth 65536 in
theorem w_named : about1.methodNamed? x = some theMethod := by decide +kernel
set_option maxRecDepth 65536 in
theorem w_hears : about1.hears theMethod below0 = true := by decide +kernel
set_option maxRecDepth 65536 in
theorem w_ripe : about1.ripe theMethod args0 below0 = true := by decide +kernel
theorem w_running : about1.status = .running := rfl
set_option maxRecDepth 65536 in
theorem w_room : about1.hasRoom e0.platform room_1 = true :=
  launch0.hasRoom_least _ room_1 (by decide +kernel) (by decide +kernel) (by decide +kernel) (by decide +kernel) (by decide +kernel) (by decide +kernel)
theorem allAtoms_all (ts : List Jvm.Cond) (a : Array Jvm.Value) (st : Jvm.State) : (allAtoms ts).before a st = ts.all (fun c => c.before a st) := by
  induction ts with
  | nil => rfl
  | cons c t ih =>
    show (Jvm.Cond.and c (allAtoms t)).before a st = _
    rw [Jvm.Cond.before_and, ih, List.all_cons]
def words1 : List Jvm.Cond := Jvm.Cond.code x code maxLocals ret :: tables_1
/-- a 'code' word, met by the world's own term for the bytes: nothing is compared byte by byte -/
theorem code_word {y : MethodName} {bytes : ByteArray} {mx : Nat} {rt : Option FieldType} {a : Array Value} {s : State} {m : MethodId} {meth : Method} {c : Code} (h1 : s.methodNamed? y = some m) (h2 : s.vm.method? m = some meth) (h3 : meth.code = some c) (h4 : c.code = bytes)
    (h5 : (c.maxLocals == mx && c.exceptionTable.isEmpty && decide (c.maxStack ≤ mostOperands) && decide (meth.sig.returnType = rt) && !meth.locks && decide (parseMethodDescriptor y.desc = some meth.sig)) = true) : (Jvm.Cond.code y bytes mx rt).before a s = true := by
  simp only [Bool.and_eq_true, beq_iff_eq, Bool.not_eq_true', decide_eq_true_eq] at h5
  obtain ⟨⟨⟨⟨⟨g1, g2⟩, g3⟩, g4⟩, g5⟩, g6⟩ := h5
  simp [Cond.before, Cond.holds, Cond.value, h1, h2, h3, h4, g1, g2, g3, g4, g5, g6]
def isCode : Jvm.Cond → Bool
  | .code _ _ _ _ => true
  | _ => false
theorem all_split {L : List Jvm.Cond} {P : Jvm.Cond → Bool} (h1 : L.all (fun c => isCode c || P c) = true) (h2 : ∀ c ∈ L.filter isCode, P c = true) : L.all P = true := by
  refine List.all_eq_true.mpr fun c hc => ?_
  have h := List.all_eq_true.mp h1 c hc
  rcases Bool.eq_false_or_eq_true (isCode c) with hi | hi
  · exact h2 c (List.mem_filter.mpr ⟨hc, hi⟩)
  · simpa [hi] using h
set_option maxRecDepth 65536 in
theorem w_c0 : (Jvm.Cond.code x code maxLocals ret).before args0 about1 = true := code_word (m := ⟨1, 1⟩) (meth := k1m1) (c := k1c1) (by decide +kernel) rfl rfl rfl (by decide +kernel)
set_option maxRecDepth 65536 in
theorem w_c1 : (Jvm.Cond.code ({ cls := "com/example/tagwire/tagwire/formats/Binn", name := "keyForm", desc := "(I)I" } : Jvm.MethodName) prog_51_method_5_code (1 : Nat) (Option.some Jvm.ClassFile.FieldType.int)).before args0 about1 = true := code_word (m := ⟨2, 1⟩) (meth := k2m1) (c := k2c1) (by decide +kernel) rfl rfl rfl (by decide +kernel)
set_option maxRecDepth 65536 in
theorem w_c2 : (Jvm.Cond.code ({ cls := "com/example/tagwire/tagwire/formats/Binn", name := "keyBytesAfterFirst", desc := "(I)I" } : Jvm.MethodName) prog_51_method_6_code (1 : Nat) (Option.some Jvm.ClassFile.FieldType.int)).before args0 about1 = true := code_word (m := ⟨2, 2⟩) (meth := k2m2) (c := k2c2) (by decide +kernel) rfl rfl rfl (by decide +kernel)
def codes1 : List Jvm.Cond := [Jvm.Cond.code x code maxLocals ret, Jvm.Cond.code ({ cls := "com/example/tagwire/tagwire/formats/Binn", name := "keyForm", desc := "(I)I" } : Jvm.MethodName) prog_51_method_5_code (1 : Nat) (Option.some Jvm.ClassFile.FieldType.int), Jvm.Cond.code ({ cls := "com/example/tagwire/tagwire/formats/Binn", name := "keyBytesAfterFirst", desc := "(I)I" } : Jvm.MethodName) prog_51_method_6_code (1 : Nat) (Option.some Jvm.ClassFile.FieldType.int)]
set_option maxRecDepth 65536 in
theorem codes_eq : words1.filter isCode = codes1 := rfl
theorem w_codes : ∀ c ∈ words1.filter isCode, c.before args0 about1 = true := by
  rw [codes_eq]
  intro c hc
  simp only [codes1, List.mem_cons, List.not_mem_nil, or_false] at hc
  rcases hc with rfl | rfl | rfl
  · exact w_c0
  · exact w_c1
  · exact w_c2
set_option maxRecDepth 65536 in
theorem w_t1 : words1.all (fun c => isCode c || c.before args0 about1) = true := by decide +kernel
theorem w_tables : (allAtoms (Jvm.Cond.code x code maxLocals ret :: tables_1)).before args0 about1 = true := by
  rw [allAtoms_all]
  show words1.all (fun c => c.before args0 about1) = true
  refine all_split ?_ w_codes
  rw [w_t1]
set_option maxRecDepth 65536 in
theorem w_case : (Jvm.Cond.and given_1 narrow_1).before args0 about1 = true := by decide +kernel
theorem w_applies : (headSpec (Jvm.Cond.code x code maxLocals ret :: tables_1) room_1).applies x e0.platform about1 = true :=
  (Spec.applies_iff w_frames).mpr ⟨w_running, w_runnable, w_alone, w_named, w_hears, w_ripe, w_room, w_tables⟩
theorem atStart : AtStart classFile x code maxLocals ret World_1 tables_1 room_1 Calls_1 rest_1 Pre_1 launch0 p0 e0 about1 theMethod args0 below0 :=
  ⟨lists_1, trivial, launch0.admits_env _ _ _, launch0.least_env, fairChoices_fair.cas, fairChoices_fair.clock, w_frames, w_args, w_heap, w_applies, trivial, trivial, w_case⟩
end start1
theorem witness_1 : WitnessClaimed_1 := ⟨start1.p0, start1.e0, start1.about1, start1.theMethod, start1.args0, start1.below0, start1.atStart⟩
end Jvm.Pilot.@@N@@
