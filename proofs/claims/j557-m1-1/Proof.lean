import JvmDerived
import JvmDerived.Pilot.@@N@@Statement
import JvmDerived.Pilot.@@N@@Code
set_option linter.unusedVariables false
set_option linter.unusedSimpArgs false
namespace Jvm.RoadKit
open Sem ClassFile Op Lib Jvm.Stand Jvm.Free Jvm.LawKit
section New
variable {p : Program} {l : Launch} {e : Env} {R : Room} {s : State} {m : MethodId} {args : Array Value} {below : List Frame} {meth : Method} {c : Code} {T : State} {locs : List Loc} {cells slots : Nat}
theorem retI (X : Stand p l e R s m args below meth c T locs cells slots) (hx : p.tables.exec = Jvm.exec) {pc : Nat} {Ls : Array Slot} {z : Int32} {rest : List Value} (hret : meth.sig.returnType = some .int) (hd : decode c.code pc = .ok (.ireturn, 1)) {fs : List Frame}
    (hl : ∀ (f : JFrame) (acts : List Action), f.method = m → f.locked = none → f.entered = [] → (doReturn e (T.setTop f) acts (some (.int z))).1 = T.setFrames fs) : Steps p.tables e below (T.setTop (mkF m pc Ls (.int z :: rest))) (T.setFrames fs) := by
  have hm' : T.vm.method? m = some meth := X.method'
  have hn : narrow .int (.int z) = .int z := rfl
  show Steps p.tables e below (T.setTop { method := m, pc := pc, locals := Ls, stack := _ :: rest, locked := none }) _
  jvm_step X.here [X.here.top, hx, hd, hm', hret, hn]
  first | (intro acts; rw [hl _ acts rfl rfl rfl]) | rw [hl _ _ rfl rfl rfl]
  exact Steps.refl _
end New
theorem own_lc_tlt {a b : Int64} (h : a < b) : lcmpW a b < 0 := by rw [lcW]; exact (lc_lt _ _).2 h
theorem own_lc_flt {a b : Int64} (h : ¬ a < b) : ¬ lcmpW a b < 0 := by rw [lcW]; exact fun q => h ((lc_lt _ _).1 q)
theorem own_lc_tgt {a b : Int64} (h : b < a) : 0 < lcmpW a b := by rw [lcW]; exact (lc_gt _ _).2 h
theorem own_lc_fgt {a b : Int64} (h : ¬ b < a) : ¬ 0 < lcmpW a b := by rw [lcW]; exact fun q => h ((lc_gt _ _).1 q)
theorem own_lc_teq {a b : Int64} (h : a = b) : lcmpW a b = 0 := by rw [lcW]; exact (lc_eq _ _).2 h
theorem own_lc_feq {a b : Int64} (h : ¬ a = b) : ¬ lcmpW a b = 0 := by rw [lcW]; exact fun q => h ((lc_eq _ _).1 q)
end Jvm.RoadKit
namespace Jvm.Pilot.@@N@@
open Jvm Jvm.ClassFile Sem Op Lib Jvm.Free Jvm.Stand Jvm.LawKit Jvm.RoadKit Bundle Jvm.Pilot.@@N@@.Jvm.D
theorem d1_0 : decode prog_51_method_4_code 0 = .ok (.iload_n 0, 1) := by decide +kernel
theorem d1_1 : decode prog_51_method_4_code 1 = .ok (.lookupswitch 167 #[(0, 155), (1, 155), (2, 155), (32, 159), (33, 159), (64, 159), (65, 159), (96, 159), (97, 159), (98, 159), (128, 159), (129, 159), (130, 159), (160, 163), (192, 163), (224, 163), (225, 163), (226, 163)], 155) := by decide +kernel
theorem d1_156 : decode prog_51_method_4_code 156 = .ok (.iconst 1, 1) := by decide +kernel
theorem d1_157 : decode prog_51_method_4_code 157 = .ok (.goto 12, 3) := by decide +kernel
theorem d1_160 : decode prog_51_method_4_code 160 = .ok (.iconst 1, 1) := by decide +kernel
theorem d1_161 : decode prog_51_method_4_code 161 = .ok (.goto 8, 3) := by decide +kernel
theorem d1_164 : decode prog_51_method_4_code 164 = .ok (.iconst 1, 1) := by decide +kernel
theorem d1_165 : decode prog_51_method_4_code 165 = .ok (.goto 4, 3) := by decide +kernel
theorem d1_168 : decode prog_51_method_4_code 168 = .ok (.iconst 0, 1) := by decide +kernel
theorem d1_169 : decode prog_51_method_4_code 169 = .ok (.ireturn, 1) := by decide +kernel
theorem pn_1 : plainName "com/example/tagwire/tagwire/formats/Binn" = true := by first | (simp [plainName, overriddenIn]; done) | decide +kernel
theorem ef_1 (m : MethodId) (p1 : Int32) : entryFrame m #[(.int p1)] 1 = mkF m 0 #[.val (.int p1)] [] := by first | (simp [entryFrame, mkF, argsToLocals, Value.category]; done) | rfl
def f1 (p1 : Int32) : Int32 :=
  (nar .boolean (if p1 = (0 : Int32) then (1 : Int32) else (if p1 = (1 : Int32) then (1 : Int32) else (if p1 = (2 : Int32) then (1 : Int32) else (if p1 = (32 : Int32) then (1 : Int32) else (if p1 = (33 : Int32) then (1 : Int32) else (if p1 = (64 : Int32) then (1 : Int32) else (if p1 = (65 : Int32) then (1 : Int32) else (if p1 = (96 : Int32) then (1 : Int32) else (if p1 = (97 : Int32) then (1 : Int32) else (if p1 = (98 : Int32) then (1 : Int32) else (if p1 = (128 : Int32) then (1 : Int32) else (if p1 = (129 : Int32) then (1 : Int32) else (if p1 = (130 : Int32) then (1 : Int32) else (if p1 = (160 : Int32) then (1 : Int32) else (if p1 = (192 : Int32) then (1 : Int32) else (if p1 = (224 : Int32) then (1 : Int32) else (if p1 = (225 : Int32) then (1 : Int32) else (if p1 = (226 : Int32) then (1 : Int32) else (0 : Int32))))))))))))))))))))
def Q1 (Z : State) (p1 : Int32)  (h0 : Heap) (n0 : Nat) (v : Option Value) (h : Heap) (L : List Loc) : Prop := v = some (.int (f1 p1)) ∧ Fr n0 L ∧ h = h0
set_option maxRecDepth 65536 in
set_option maxHeartbeats 40000000 in
theorem rm1 (l : Launch) (Z : State) (a0 : Array Value) (hw : ∀ d ∈ tables_1, d.before a0 Z = true) (ws : List Jvm.Cond) (p1 : Int32)  (h0 : Heap) (n0 : Nat) (Z0 : n0 ≤ h0.size) :
    MetFree l (⟨"com/example/tagwire/tagwire/formats/Binn", "isBasicType", "(I)Z"⟩ : MethodName) (head1 (Jvm.Cond.code (⟨"com/example/tagwire/tagwire/formats/Binn", "isBasicType", "(I)Z"⟩ : MethodName) prog_51_method_4_code 1 (some .boolean) :: ws) ({ frames := 0, cells := 0, slots := 0, locals := 0 } : Room)) (fun a U => a = #[(.int p1)] ∧ Z.Warmed39 U.vm ∧ U.heap = h0) (fun _ _ _ _ _ => True) (fun _ U o U' => ∃ v L, o = .returned v ∧ Q1 Z p1 h0 n0 v U'.heap L ∧ FrameEnd U o U' L ({ frames := 0, cells := 0, slots := 0, locals := 0 } : Room).cells ({ frames := 0, cells := 0, slots := 0, locals := 0 } : Room).slots) := by
  refine MetFree.of_bodySF (plainFor_of_name pn_1) hisR ?_
  intro p e s m args below meth c s₁ Bd hml0 hP hK
  obtain ⟨rfl, hZ, hh⟩ := hP
  have hx := Bd.exec
  have hby := Bd.bytes
  have hml : c.maxLocals = 1 := hml0
  have hown : s.vm.findClass "com/example/tagwire/tagwire/formats/Binn" = some m.cls := findClass_of_methodNamed Bd.named
  have hnm := (name_of_methodNamed Bd.named Bd.method).1
  have X0 : Stand p l e ({ frames := 0, cells := 0, slots := 0, locals := 0 } : Room) s m #[(.int p1)] below meth c s₁ [] 0 0 := Stand.of_body Bd
  have e0 : s₁.heap = h0 := by rw [← hh, Bd.state]; rfl
  have N0 := Fr.nil n0
  have pre0 : ∀ t, Steps p.tables e below (s₁.setTop (mkF m 0 #[.val (.int p1)] [])) t → Steps p.tables e below (s₁.setTop (entryFrame m #[(.int p1)] 1)) t := fun t k => castTop (ef_1 m p1) k
  obtain ⟨v19, hv19⟩ : ∃ z : Int32, z = (if p1 = (0 : Int32) then (1 : Int32) else (if p1 = (1 : Int32) then (1 : Int32) else (if p1 = (2 : Int32) then (1 : Int32) else (if p1 = (32 : Int32) then (1 : Int32) else (if p1 = (33 : Int32) then (1 : Int32) else (if p1 = (64 : Int32) then (1 : Int32) else (if p1 = (65 : Int32) then (1 : Int32) else (if p1 = (96 : Int32) then (1 : Int32) else (if p1 = (97 : Int32) then (1 : Int32) else (if p1 = (98 : Int32) then (1 : Int32) else (if p1 = (128 : Int32) then (1 : Int32) else (if p1 = (129 : Int32) then (1 : Int32) else (if p1 = (130 : Int32) then (1 : Int32) else (if p1 = (160 : Int32) then (1 : Int32) else (if p1 = (192 : Int32) then (1 : Int32) else (if p1 = (224 : Int32) then (1 : Int32) else (if p1 = (225 : Int32) then (1 : Int32) else (if p1 = (226 : Int32) then (1 : Int32) else (0 : Int32))))))))))))))))))) := ⟨_, rfl⟩
  have pre20 : ∀ t, Steps p.tables e below (s₁.setTop (mkF m 169 #[.val (.int p1)] [(.int v19)])) t → Steps p.tables e below (s₁.setTop (entryFrame m #[(.int p1)] 1)) t := fun t k => pre0 t (by
    show Steps p.tables e below (s₁.setTop (mkF m 0 #[.val (.int p1)] [])) _
    refine XS.iloadN X0.here hx rfl (hb hby d1_0) rfl ?_
    show Steps p.tables e below (s₁.setTop (mkF m 1 #[.val (.int p1)] [(.int p1)])) _
    by_cases hc1 : p1 = (0 : Int32)
    · refine X0.lookupswitchHit hx (g := (mkF m 1 #[.val (.int p1)] [(.int p1)])) rfl (k := p1) rfl (hb hby d1_1) (by decide) (a := 0) (off := 155) (by rw [hc1]; decide) (by show (0 : Int) ≤ (1 : Nat) + 155; decide) _ ?_
      show Steps p.tables e below (s₁.setTop (mkF m 156 #[.val (.int p1)] [])) _
      refine XS.iconst X0.here hx rfl (hb hby d1_156) ?_
      show Steps p.tables e below (s₁.setTop (mkF m 157 #[.val (.int p1)] [(.int (1 : Int32))])) _
      refine XS.goto X0.here hx rfl (pc0 := 157) (pc' := 169) rfl (hb hby d1_157) (by decide) (by decide) ?_
      rw [show v19 = (1 : Int32) from hv19.trans (if_pos hc1)] at k
      exact k
    · by_cases hc2 : p1 = (1 : Int32)
      · refine X0.lookupswitchHit hx (g := (mkF m 1 #[.val (.int p1)] [(.int p1)])) rfl (k := p1) rfl (hb hby d1_1) (by decide) (a := 1) (off := 155) (by rw [hc2]; decide) (by show (0 : Int) ≤ (1 : Nat) + 155; decide) _ ?_
        show Steps p.tables e below (s₁.setTop (mkF m 156 #[.val (.int p1)] [])) _
        refine XS.iconst X0.here hx rfl (hb hby d1_156) ?_
        show Steps p.tables e below (s₁.setTop (mkF m 157 #[.val (.int p1)] [(.int (1 : Int32))])) _
        refine XS.goto X0.here hx rfl (pc0 := 157) (pc' := 169) rfl (hb hby d1_157) (by decide) (by decide) ?_
        rw [show v19 = (1 : Int32) from hv19.trans ((if_neg hc1).trans (if_pos hc2))] at k
        exact k
      · by_cases hc3 : p1 = (2 : Int32)
        · refine X0.lookupswitchHit hx (g := (mkF m 1 #[.val (.int p1)] [(.int p1)])) rfl (k := p1) rfl (hb hby d1_1) (by decide) (a := 2) (off := 155) (by rw [hc3]; decide) (by show (0 : Int) ≤ (1 : Nat) + 155; decide) _ ?_
          show Steps p.tables e below (s₁.setTop (mkF m 156 #[.val (.int p1)] [])) _
          refine XS.iconst X0.here hx rfl (hb hby d1_156) ?_
          show Steps p.tables e below (s₁.setTop (mkF m 157 #[.val (.int p1)] [(.int (1 : Int32))])) _
          refine XS.goto X0.here hx rfl (pc0 := 157) (pc' := 169) rfl (hb hby d1_157) (by decide) (by decide) ?_
          rw [show v19 = (1 : Int32) from hv19.trans ((if_neg hc1).trans ((if_neg hc2).trans (if_pos hc3)))] at k
          exact k
        · by_cases hc4 : p1 = (32 : Int32)
          · refine X0.lookupswitchHit hx (g := (mkF m 1 #[.val (.int p1)] [(.int p1)])) rfl (k := p1) rfl (hb hby d1_1) (by decide) (a := 32) (off := 159) (by rw [hc4]; decide) (by show (0 : Int) ≤ (1 : Nat) + 159; decide) _ ?_
            show Steps p.tables e below (s₁.setTop (mkF m 160 #[.val (.int p1)] [])) _
            refine XS.iconst X0.here hx rfl (hb hby d1_160) ?_
            show Steps p.tables e below (s₁.setTop (mkF m 161 #[.val (.int p1)] [(.int (1 : Int32))])) _
            refine XS.goto X0.here hx rfl (pc0 := 161) (pc' := 169) rfl (hb hby d1_161) (by decide) (by decide) ?_
            rw [show v19 = (1 : Int32) from hv19.trans ((if_neg hc1).trans ((if_neg hc2).trans ((if_neg hc3).trans (if_pos hc4))))] at k
            exact k
          · by_cases hc5 : p1 = (33 : Int32)
            · refine X0.lookupswitchHit hx (g := (mkF m 1 #[.val (.int p1)] [(.int p1)])) rfl (k := p1) rfl (hb hby d1_1) (by decide) (a := 33) (off := 159) (by rw [hc5]; decide) (by show (0 : Int) ≤ (1 : Nat) + 159; decide) _ ?_
              show Steps p.tables e below (s₁.setTop (mkF m 160 #[.val (.int p1)] [])) _
              refine XS.iconst X0.here hx rfl (hb hby d1_160) ?_
              show Steps p.tables e below (s₁.setTop (mkF m 161 #[.val (.int p1)] [(.int (1 : Int32))])) _
              refine XS.goto X0.here hx rfl (pc0 := 161) (pc' := 169) rfl (hb hby d1_161) (by decide) (by decide) ?_
              rw [show v19 = (1 : Int32) from hv19.trans ((if_neg hc1).trans ((if_neg hc2).trans ((if_neg hc3).trans ((if_neg hc4).trans (if_pos hc5)))))] at k
              exact k
            · by_cases hc6 : p1 = (64 : Int32)
              · refine X0.lookupswitchHit hx (g := (mkF m 1 #[.val (.int p1)] [(.int p1)])) rfl (k := p1) rfl (hb hby d1_1) (by decide) (a := 64) (off := 159) (by rw [hc6]; decide) (by show (0 : Int) ≤ (1 : Nat) + 159; decide) _ ?_
                show Steps p.tables e below (s₁.setTop (mkF m 160 #[.val (.int p1)] [])) _
                refine XS.iconst X0.here hx rfl (hb hby d1_160) ?_
                show Steps p.tables e below (s₁.setTop (mkF m 161 #[.val (.int p1)] [(.int (1 : Int32))])) _
                refine XS.goto X0.here hx rfl (pc0 := 161) (pc' := 169) rfl (hb hby d1_161) (by decide) (by decide) ?_
                rw [show v19 = (1 : Int32) from hv19.trans ((if_neg hc1).trans ((if_neg hc2).trans ((if_neg hc3).trans ((if_neg hc4).trans ((if_neg hc5).trans (if_pos hc6))))))] at k
                exact k
              · by_cases hc7 : p1 = (65 : Int32)
                · refine X0.lookupswitchHit hx (g := (mkF m 1 #[.val (.int p1)] [(.int p1)])) rfl (k := p1) rfl (hb hby d1_1) (by decide) (a := 65) (off := 159) (by rw [hc7]; decide) (by show (0 : Int) ≤ (1 : Nat) + 159; decide) _ ?_
                  show Steps p.tables e below (s₁.setTop (mkF m 160 #[.val (.int p1)] [])) _
                  refine XS.iconst X0.here hx rfl (hb hby d1_160) ?_
                  show Steps p.tables e below (s₁.setTop (mkF m 161 #[.val (.int p1)] [(.int (1 : Int32))])) _
                  refine XS.goto X0.here hx rfl (pc0 := 161) (pc' := 169) rfl (hb hby d1_161) (by decide) (by decide) ?_
                  rw [show v19 = (1 : Int32) from hv19.trans ((if_neg hc1).trans ((if_neg hc2).trans ((if_neg hc3).trans ((if_neg hc4).trans ((if_neg hc5).trans ((if_neg hc6).trans (if_pos hc7)))))))] at k
                  exact k
                · by_cases hc8 : p1 = (96 : Int32)
                  · refine X0.lookupswitchHit hx (g := (mkF m 1 #[.val (.int p1)] [(.int p1)])) rfl (k := p1) rfl (hb hby d1_1) (by decide) (a := 96) (off := 159) (by rw [hc8]; decide) (by show (0 : Int) ≤ (1 : Nat) + 159; decide) _ ?_
                    show Steps p.tables e below (s₁.setTop (mkF m 160 #[.val (.int p1)] [])) _
                    refine XS.iconst X0.here hx rfl (hb hby d1_160) ?_
                    show Steps p.tables e below (s₁.setTop (mkF m 161 #[.val (.int p1)] [(.int (1 : Int32))])) _
                    refine XS.goto X0.here hx rfl (pc0 := 161) (pc' := 169) rfl (hb hby d1_161) (by decide) (by decide) ?_
                    rw [show v19 = (1 : Int32) from hv19.trans ((if_neg hc1).trans ((if_neg hc2).trans ((if_neg hc3).trans ((if_neg hc4).trans ((if_neg hc5).trans ((if_neg hc6).trans ((if_neg hc7).trans (if_pos hc8))))))))] at k
                    exact k
                  · by_cases hc9 : p1 = (97 : Int32)
                    · refine X0.lookupswitchHit hx (g := (mkF m 1 #[.val (.int p1)] [(.int p1)])) rfl (k := p1) rfl (hb hby d1_1) (by decide) (a := 97) (off := 159) (by rw [hc9]; decide) (by show (0 : Int) ≤ (1 : Nat) + 159; decide) _ ?_
                      show Steps p.tables e below (s₁.setTop (mkF m 160 #[.val (.int p1)] [])) _
                      refine XS.iconst X0.here hx rfl (hb hby d1_160) ?_
                      show Steps p.tables e below (s₁.setTop (mkF m 161 #[.val (.int p1)] [(.int (1 : Int32))])) _
                      refine XS.goto X0.here hx rfl (pc0 := 161) (pc' := 169) rfl (hb hby d1_161) (by decide) (by decide) ?_
                      rw [show v19 = (1 : Int32) from hv19.trans ((if_neg hc1).trans ((if_neg hc2).trans ((if_neg hc3).trans ((if_neg hc4).trans ((if_neg hc5).trans ((if_neg hc6).trans ((if_neg hc7).trans ((if_neg hc8).trans (if_pos hc9)))))))))] at k
                      exact k
                    · by_cases hc10 : p1 = (98 : Int32)
                      · refine X0.lookupswitchHit hx (g := (mkF m 1 #[.val (.int p1)] [(.int p1)])) rfl (k := p1) rfl (hb hby d1_1) (by decide) (a := 98) (off := 159) (by rw [hc10]; decide) (by show (0 : Int) ≤ (1 : Nat) + 159; decide) _ ?_
                        show Steps p.tables e below (s₁.setTop (mkF m 160 #[.val (.int p1)] [])) _
                        refine XS.iconst X0.here hx rfl (hb hby d1_160) ?_
                        show Steps p.tables e below (s₁.setTop (mkF m 161 #[.val (.int p1)] [(.int (1 : Int32))])) _
                        refine XS.goto X0.here hx rfl (pc0 := 161) (pc' := 169) rfl (hb hby d1_161) (by decide) (by decide) ?_
                        rw [show v19 = (1 : Int32) from hv19.trans ((if_neg hc1).trans ((if_neg hc2).trans ((if_neg hc3).trans ((if_neg hc4).trans ((if_neg hc5).trans ((if_neg hc6).trans ((if_neg hc7).trans ((if_neg hc8).trans ((if_neg hc9).trans (if_pos hc10))))))))))] at k
                        exact k
                      · by_cases hc11 : p1 = (128 : Int32)
                        · refine X0.lookupswitchHit hx (g := (mkF m 1 #[.val (.int p1)] [(.int p1)])) rfl (k := p1) rfl (hb hby d1_1) (by decide) (a := 128) (off := 159) (by rw [hc11]; decide) (by show (0 : Int) ≤ (1 : Nat) + 159; decide) _ ?_
                          show Steps p.tables e below (s₁.setTop (mkF m 160 #[.val (.int p1)] [])) _
                          refine XS.iconst X0.here hx rfl (hb hby d1_160) ?_
                          show Steps p.tables e below (s₁.setTop (mkF m 161 #[.val (.int p1)] [(.int (1 : Int32))])) _
                          refine XS.goto X0.here hx rfl (pc0 := 161) (pc' := 169) rfl (hb hby d1_161) (by decide) (by decide) ?_
                          rw [show v19 = (1 : Int32) from hv19.trans ((if_neg hc1).trans ((if_neg hc2).trans ((if_neg hc3).trans ((if_neg hc4).trans ((if_neg hc5).trans ((if_neg hc6).trans ((if_neg hc7).trans ((if_neg hc8).trans ((if_neg hc9).trans ((if_neg hc10).trans (if_pos hc11)))))))))))] at k
                          exact k
                        · by_cases hc12 : p1 = (129 : Int32)
                          · refine X0.lookupswitchHit hx (g := (mkF m 1 #[.val (.int p1)] [(.int p1)])) rfl (k := p1) rfl (hb hby d1_1) (by decide) (a := 129) (off := 159) (by rw [hc12]; decide) (by show (0 : Int) ≤ (1 : Nat) + 159; decide) _ ?_
                            show Steps p.tables e below (s₁.setTop (mkF m 160 #[.val (.int p1)] [])) _
                            refine XS.iconst X0.here hx rfl (hb hby d1_160) ?_
                            show Steps p.tables e below (s₁.setTop (mkF m 161 #[.val (.int p1)] [(.int (1 : Int32))])) _
                            refine XS.goto X0.here hx rfl (pc0 := 161) (pc' := 169) rfl (hb hby d1_161) (by decide) (by decide) ?_
                            rw [show v19 = (1 : Int32) from hv19.trans ((if_neg hc1).trans ((if_neg hc2).trans ((if_neg hc3).trans ((if_neg hc4).trans ((if_neg hc5).trans ((if_neg hc6).trans ((if_neg hc7).trans ((if_neg hc8).trans ((if_neg hc9).trans ((if_neg hc10).trans ((if_neg hc11).trans (if_pos hc12))))))))))))] at k
                            exact k
                          · by_cases hc13 : p1 = (130 : Int32)
                            · refine X0.lookupswitchHit hx (g := (mkF m 1 #[.val (.int p1)] [(.int p1)])) rfl (k := p1) rfl (hb hby d1_1) (by decide) (a := 130) (off := 159) (by rw [hc13]; decide) (by show (0 : Int) ≤ (1 : Nat) + 159; decide) _ ?_
                              show Steps p.tables e below (s₁.setTop (mkF m 160 #[.val (.int p1)] [])) _
                              refine XS.iconst X0.here hx rfl (hb hby d1_160) ?_
                              show Steps p.tables e below (s₁.setTop (mkF m 161 #[.val (.int p1)] [(.int (1 : Int32))])) _
                              refine XS.goto X0.here hx rfl (pc0 := 161) (pc' := 169) rfl (hb hby d1_161) (by decide) (by decide) ?_
                              rw [show v19 = (1 : Int32) from hv19.trans ((if_neg hc1).trans ((if_neg hc2).trans ((if_neg hc3).trans ((if_neg hc4).trans ((if_neg hc5).trans ((if_neg hc6).trans ((if_neg hc7).trans ((if_neg hc8).trans ((if_neg hc9).trans ((if_neg hc10).trans ((if_neg hc11).trans ((if_neg hc12).trans (if_pos hc13)))))))))))))] at k
                              exact k
                            · by_cases hc14 : p1 = (160 : Int32)
                              · refine X0.lookupswitchHit hx (g := (mkF m 1 #[.val (.int p1)] [(.int p1)])) rfl (k := p1) rfl (hb hby d1_1) (by decide) (a := 160) (off := 163) (by rw [hc14]; decide) (by show (0 : Int) ≤ (1 : Nat) + 163; decide) _ ?_
                                show Steps p.tables e below (s₁.setTop (mkF m 164 #[.val (.int p1)] [])) _
                                refine XS.iconst X0.here hx rfl (hb hby d1_164) ?_
                                show Steps p.tables e below (s₁.setTop (mkF m 165 #[.val (.int p1)] [(.int (1 : Int32))])) _
                                refine XS.goto X0.here hx rfl (pc0 := 165) (pc' := 169) rfl (hb hby d1_165) (by decide) (by decide) ?_
                                rw [show v19 = (1 : Int32) from hv19.trans ((if_neg hc1).trans ((if_neg hc2).trans ((if_neg hc3).trans ((if_neg hc4).trans ((if_neg hc5).trans ((if_neg hc6).trans ((if_neg hc7).trans ((if_neg hc8).trans ((if_neg hc9).trans ((if_neg hc10).trans ((if_neg hc11).trans ((if_neg hc12).trans ((if_neg hc13).trans (if_pos hc14))))))))))))))] at k
                                exact k
                              · by_cases hc15 : p1 = (192 : Int32)
                                · refine X0.lookupswitchHit hx (g := (mkF m 1 #[.val (.int p1)] [(.int p1)])) rfl (k := p1) rfl (hb hby d1_1) (by decide) (a := 192) (off := 163) (by rw [hc15]; decide) (by show (0 : Int) ≤ (1 : Nat) + 163; decide) _ ?_
                                  show Steps p.tables e below (s₁.setTop (mkF m 164 #[.val (.int p1)] [])) _
                                  refine XS.iconst X0.here hx rfl (hb hby d1_164) ?_
                                  show Steps p.tables e below (s₁.setTop (mkF m 165 #[.val (.int p1)] [(.int (1 : Int32))])) _
                                  refine XS.goto X0.here hx rfl (pc0 := 165) (pc' := 169) rfl (hb hby d1_165) (by decide) (by decide) ?_
                                  rw [show v19 = (1 : Int32) from hv19.trans ((if_neg hc1).trans ((if_neg hc2).trans ((if_neg hc3).trans ((if_neg hc4).trans ((if_neg hc5).trans ((if_neg hc6).trans ((if_neg hc7).trans ((if_neg hc8).trans ((if_neg hc9).trans ((if_neg hc10).trans ((if_neg hc11).trans ((if_neg hc12).trans ((if_neg hc13).trans ((if_neg hc14).trans (if_pos hc15)))))))))))))))] at k
                                  exact k
                                · by_cases hc16 : p1 = (224 : Int32)
                                  · refine X0.lookupswitchHit hx (g := (mkF m 1 #[.val (.int p1)] [(.int p1)])) rfl (k := p1) rfl (hb hby d1_1) (by decide) (a := 224) (off := 163) (by rw [hc16]; decide) (by show (0 : Int) ≤ (1 : Nat) + 163; decide) _ ?_
                                    show Steps p.tables e below (s₁.setTop (mkF m 164 #[.val (.int p1)] [])) _
                                    refine XS.iconst X0.here hx rfl (hb hby d1_164) ?_
                                    show Steps p.tables e below (s₁.setTop (mkF m 165 #[.val (.int p1)] [(.int (1 : Int32))])) _
                                    refine XS.goto X0.here hx rfl (pc0 := 165) (pc' := 169) rfl (hb hby d1_165) (by decide) (by decide) ?_
                                    rw [show v19 = (1 : Int32) from hv19.trans ((if_neg hc1).trans ((if_neg hc2).trans ((if_neg hc3).trans ((if_neg hc4).trans ((if_neg hc5).trans ((if_neg hc6).trans ((if_neg hc7).trans ((if_neg hc8).trans ((if_neg hc9).trans ((if_neg hc10).trans ((if_neg hc11).trans ((if_neg hc12).trans ((if_neg hc13).trans ((if_neg hc14).trans ((if_neg hc15).trans (if_pos hc16))))))))))))))))] at k
                                    exact k
                                  · by_cases hc17 : p1 = (225 : Int32)
                                    · refine X0.lookupswitchHit hx (g := (mkF m 1 #[.val (.int p1)] [(.int p1)])) rfl (k := p1) rfl (hb hby d1_1) (by decide) (a := 225) (off := 163) (by rw [hc17]; decide) (by show (0 : Int) ≤ (1 : Nat) + 163; decide) _ ?_
                                      show Steps p.tables e below (s₁.setTop (mkF m 164 #[.val (.int p1)] [])) _
                                      refine XS.iconst X0.here hx rfl (hb hby d1_164) ?_
                                      show Steps p.tables e below (s₁.setTop (mkF m 165 #[.val (.int p1)] [(.int (1 : Int32))])) _
                                      refine XS.goto X0.here hx rfl (pc0 := 165) (pc' := 169) rfl (hb hby d1_165) (by decide) (by decide) ?_
                                      rw [show v19 = (1 : Int32) from hv19.trans ((if_neg hc1).trans ((if_neg hc2).trans ((if_neg hc3).trans ((if_neg hc4).trans ((if_neg hc5).trans ((if_neg hc6).trans ((if_neg hc7).trans ((if_neg hc8).trans ((if_neg hc9).trans ((if_neg hc10).trans ((if_neg hc11).trans ((if_neg hc12).trans ((if_neg hc13).trans ((if_neg hc14).trans ((if_neg hc15).trans ((if_neg hc16).trans (if_pos hc17)))))))))))))))))] at k
                                      exact k
                                    · by_cases hc18 : p1 = (226 : Int32)
                                      · refine X0.lookupswitchHit hx (g := (mkF m 1 #[.val (.int p1)] [(.int p1)])) rfl (k := p1) rfl (hb hby d1_1) (by decide) (a := 226) (off := 163) (by rw [hc18]; decide) (by show (0 : Int) ≤ (1 : Nat) + 163; decide) _ ?_
                                        show Steps p.tables e below (s₁.setTop (mkF m 164 #[.val (.int p1)] [])) _
                                        refine XS.iconst X0.here hx rfl (hb hby d1_164) ?_
                                        show Steps p.tables e below (s₁.setTop (mkF m 165 #[.val (.int p1)] [(.int (1 : Int32))])) _
                                        refine XS.goto X0.here hx rfl (pc0 := 165) (pc' := 169) rfl (hb hby d1_165) (by decide) (by decide) ?_
                                        rw [show v19 = (1 : Int32) from hv19.trans ((if_neg hc1).trans ((if_neg hc2).trans ((if_neg hc3).trans ((if_neg hc4).trans ((if_neg hc5).trans ((if_neg hc6).trans ((if_neg hc7).trans ((if_neg hc8).trans ((if_neg hc9).trans ((if_neg hc10).trans ((if_neg hc11).trans ((if_neg hc12).trans ((if_neg hc13).trans ((if_neg hc14).trans ((if_neg hc15).trans ((if_neg hc16).trans ((if_neg hc17).trans (if_pos hc18))))))))))))))))))] at k
                                        exact k
                                      · refine X0.lookupswitchMiss hx (g := (mkF m 1 #[.val (.int p1)] [(.int p1)])) rfl (k := p1) rfl (hb hby d1_1) (by decide) (find_miss (fun q hq => ?_)) (by show (0 : Int) ≤ (1 : Nat) + 167; decide) _ ?_
                                        · have hq' : q = (0, 155) ∨ q = (1, 155) ∨ q = (2, 155) ∨ q = (32, 159) ∨ q = (33, 159) ∨ q = (64, 159) ∨ q = (65, 159) ∨ q = (96, 159) ∨ q = (97, 159) ∨ q = (98, 159) ∨ q = (128, 159) ∨ q = (129, 159) ∨ q = (130, 159) ∨ q = (160, 163) ∨ q = (192, 163) ∨ q = (224, 163) ∨ q = (225, 163) ∨ q = (226, 163) := by simpa using hq
                                          rcases hq' with rfl | rfl | rfl | rfl | rfl | rfl | rfl | rfl | rfl | rfl | rfl | rfl | rfl | rfl | rfl | rfl | rfl | rfl
                                          · exact fun q => hc1 (Int32.toInt_inj.mp (q.symm.trans rfl))
                                          · exact fun q => hc2 (Int32.toInt_inj.mp (q.symm.trans rfl))
                                          · exact fun q => hc3 (Int32.toInt_inj.mp (q.symm.trans rfl))
                                          · exact fun q => hc4 (Int32.toInt_inj.mp (q.symm.trans rfl))
                                          · exact fun q => hc5 (Int32.toInt_inj.mp (q.symm.trans rfl))
                                          · exact fun q => hc6 (Int32.toInt_inj.mp (q.symm.trans rfl))
                                          · exact fun q => hc7 (Int32.toInt_inj.mp (q.symm.trans rfl))
                                          · exact fun q => hc8 (Int32.toInt_inj.mp (q.symm.trans rfl))
                                          · exact fun q => hc9 (Int32.toInt_inj.mp (q.symm.trans rfl))
                                          · exact fun q => hc10 (Int32.toInt_inj.mp (q.symm.trans rfl))
                                          · exact fun q => hc11 (Int32.toInt_inj.mp (q.symm.trans rfl))
                                          · exact fun q => hc12 (Int32.toInt_inj.mp (q.symm.trans rfl))
                                          · exact fun q => hc13 (Int32.toInt_inj.mp (q.symm.trans rfl))
                                          · exact fun q => hc14 (Int32.toInt_inj.mp (q.symm.trans rfl))
                                          · exact fun q => hc15 (Int32.toInt_inj.mp (q.symm.trans rfl))
                                          · exact fun q => hc16 (Int32.toInt_inj.mp (q.symm.trans rfl))
                                          · exact fun q => hc17 (Int32.toInt_inj.mp (q.symm.trans rfl))
                                          · exact fun q => hc18 (Int32.toInt_inj.mp (q.symm.trans rfl))
                                        show Steps p.tables e below (s₁.setTop (mkF m 168 #[.val (.int p1)] [])) _
                                        refine XS.iconst X0.here hx rfl (hb hby d1_168) ?_
                                        rw [show v19 = (0 : Int32) from hv19.trans ((if_neg hc1).trans ((if_neg hc2).trans ((if_neg hc3).trans ((if_neg hc4).trans ((if_neg hc5).trans ((if_neg hc6).trans ((if_neg hc7).trans ((if_neg hc8).trans ((if_neg hc9).trans ((if_neg hc10).trans ((if_neg hc11).trans ((if_neg hc12).trans ((if_neg hc13).trans ((if_neg hc14).trans ((if_neg hc15).trans ((if_neg hc16).trans ((if_neg hc17).trans (if_neg hc18))))))))))))))))))] at k
                                        exact k)
  have er : (f1 p1) = (nar .boolean v19) := by subst hv19; exact rfl
  obtain ⟨fs, hr, hrun, hended, hW, hsame⟩ := X0.leave (v := some (.int (nar .boolean v19))) (fun h => by rw [Bd.returns] at h; cases h)
  refine ⟨_, _, pre20 _ ?_, hrun, hended, _, _, rfl, ?_, ⟨_, rfl⟩, hW, hsame.mono (by decide) (by decide)⟩
  · show Steps p.tables e below (s₁.setTop (mkF m 169 #[.val (.int p1)] [(.int v19)])) _
    exact retN X0 hx (t := .boolean) Bd.returns (by simp) (hb hby d1_169) hr
  · show Q1 Z p1 h0 n0 _ s₁.heap _
    rw [e0]
    exact ⟨congrArg (fun z => some (Value.int z)) er.symm, N0, rfl⟩
theorem d2_0 : decode method_2_code 0 = .ok (.iload_n 0, 1) := by decide +kernel
theorem d2_1 : decode method_2_code 1 = .ok (.ifCond .lt 10, 3) := by decide +kernel
theorem d2_4 : decode method_2_code 4 = .ok (.iload_n 0, 1) := by decide +kernel
theorem d2_5 : decode method_2_code 5 = .ok (.sipush 255, 3) := by decide +kernel
theorem d2_8 : decode method_2_code 8 = .ok (.if_icmp .le 5, 3) := by decide +kernel
theorem d2_11 : decode method_2_code 11 = .ok (.iconst 0, 1) := by decide +kernel
theorem d2_12 : decode method_2_code 12 = .ok (.ireturn, 1) := by decide +kernel
theorem d2_13 : decode method_2_code 13 = .ok (.iload_n 0, 1) := by decide +kernel
theorem d2_14 : decode method_2_code 14 = .ok (.iconst 5, 1) := by decide +kernel
theorem d2_15 : decode method_2_code 15 = .ok (.iushr, 1) := by decide +kernel
theorem d2_16 : decode method_2_code 16 = .ok (.istore_n 1, 1) := by decide +kernel
theorem d2_17 : decode method_2_code 17 = .ok (.iload_n 0, 1) := by decide +kernel
theorem d2_18 : decode method_2_code 18 = .ok (.bipush 31, 2) := by decide +kernel
theorem d2_20 : decode method_2_code 20 = .ok (.iand, 1) := by decide +kernel
theorem d2_21 : decode method_2_code 21 = .ok (.istore_n 2, 1) := by decide +kernel
theorem d2_22 : decode method_2_code 22 = .ok (.iload_n 1, 1) := by decide +kernel
theorem d2_23 : decode method_2_code 23 = .ok (.ifCond .eq 19, 3) := by decide +kernel
theorem d2_26 : decode method_2_code 26 = .ok (.iload_n 1, 1) := by decide +kernel
theorem d2_27 : decode method_2_code 27 = .ok (.iconst 3, 1) := by decide +kernel
theorem d2_28 : decode method_2_code 28 = .ok (.if_icmp .eq 14, 3) := by decide +kernel
theorem d2_31 : decode method_2_code 31 = .ok (.iload_n 1, 1) := by decide +kernel
theorem d2_32 : decode method_2_code 32 = .ok (.iconst 4, 1) := by decide +kernel
theorem d2_33 : decode method_2_code 33 = .ok (.if_icmp .eq 9, 3) := by decide +kernel
theorem d2_36 : decode method_2_code 36 = .ok (.iload_n 1, 1) := by decide +kernel
theorem d2_37 : decode method_2_code 37 = .ok (.bipush 7, 2) := by decide +kernel
theorem d2_39 : decode method_2_code 39 = .ok (.if_icmp .ne 8, 3) := by decide +kernel
theorem d2_42 : decode method_2_code 42 = .ok (.iconst 3, 1) := by decide +kernel
theorem d2_43 : decode method_2_code 43 = .ok (.istore_n 3, 1) := by decide +kernel
theorem d2_44 : decode method_2_code 44 = .ok (.goto 20, 3) := by decide +kernel
theorem d2_47 : decode method_2_code 47 = .ok (.iload_n 1, 1) := by decide +kernel
theorem d2_48 : decode method_2_code 48 = .ok (.iconst 1, 1) := by decide +kernel
theorem d2_49 : decode method_2_code 49 = .ok (.if_icmp .eq 8, 3) := by decide +kernel
theorem d2_52 : decode method_2_code 52 = .ok (.iload_n 1, 1) := by decide +kernel
theorem d2_53 : decode method_2_code 53 = .ok (.iconst 2, 1) := by decide +kernel
theorem d2_54 : decode method_2_code 54 = .ok (.if_icmp .ne 8, 3) := by decide +kernel
theorem d2_57 : decode method_2_code 57 = .ok (.iconst 2, 1) := by decide +kernel
theorem d2_58 : decode method_2_code 58 = .ok (.istore_n 3, 1) := by decide +kernel
theorem d2_59 : decode method_2_code 59 = .ok (.goto 5, 3) := by decide +kernel
theorem d2_62 : decode method_2_code 62 = .ok (.iconst 1, 1) := by decide +kernel
theorem d2_63 : decode method_2_code 63 = .ok (.istore_n 3, 1) := by decide +kernel
theorem d2_64 : decode method_2_code 64 = .ok (.iload_n 2, 1) := by decide +kernel
theorem d2_65 : decode method_2_code 65 = .ok (.iload_n 3, 1) := by decide +kernel
theorem d2_66 : decode method_2_code 66 = .ok (.if_icmp .ge 7, 3) := by decide +kernel
theorem d2_69 : decode method_2_code 69 = .ok (.iconst 1, 1) := by decide +kernel
theorem d2_70 : decode method_2_code 70 = .ok (.goto 4, 3) := by decide +kernel
theorem d2_73 : decode method_2_code 73 = .ok (.iconst 0, 1) := by decide +kernel
theorem d2_74 : decode method_2_code 74 = .ok (.ireturn, 1) := by decide +kernel
theorem pn_2 : plainName "com/example/tagwire/tagwire/formats/BinnIsBasicTypePinLaw" = true := by first | (simp [plainName, overriddenIn]; done) | decide +kernel
theorem ef_2 (m : MethodId) (p1 : Int32) : entryFrame m #[(.int p1)] 4 = mkF m 0 #[.val (.int p1), .unset, .unset, .unset] [] := by first | (simp [entryFrame, mkF, argsToLocals, Value.category]; done) | rfl
def f2 (p1 : Int32) : Int32 :=
  (if p1 < (0 : Int32) then (0 : Int32) else (if (255 : Int32) < p1 then (0 : Int32) else (nar .boolean (if (p1 &&& (31 : Int32)) < (if ((p1.toUInt32 >>> ((5 : Int32) &&& 31).toUInt32).toInt32) = (0 : Int32) then (3 : Int32) else (if ((p1.toUInt32 >>> ((5 : Int32) &&& 31).toUInt32).toInt32) = (3 : Int32) then (3 : Int32) else (if ((p1.toUInt32 >>> ((5 : Int32) &&& 31).toUInt32).toInt32) = (4 : Int32) then (3 : Int32) else (if ((p1.toUInt32 >>> ((5 : Int32) &&& 31).toUInt32).toInt32) = (7 : Int32) then (3 : Int32) else (if ((p1.toUInt32 >>> ((5 : Int32) &&& 31).toUInt32).toInt32) = (1 : Int32) then (2 : Int32) else (if ((p1.toUInt32 >>> ((5 : Int32) &&& 31).toUInt32).toInt32) = (2 : Int32) then (2 : Int32) else (1 : Int32))))))) then (1 : Int32) else (0 : Int32)))))
def Q2 (Z : State) (p1 : Int32)  (h0 : Heap) (n0 : Nat) (v : Option Value) (h : Heap) (L : List Loc) : Prop := v = some (.int (f2 p1)) ∧ Fr n0 L ∧ h = h0
set_option maxRecDepth 65536 in
set_option maxHeartbeats 40000000 in
theorem rm2 (l : Launch) (Z : State) (a0 : Array Value) (hw : ∀ d ∈ tables_1, d.before a0 Z = true) (ws : List Jvm.Cond) (p1 : Int32)  (h0 : Heap) (n0 : Nat) (Z0 : n0 ≤ h0.size) :
    MetFree l (⟨"com/example/tagwire/tagwire/formats/BinnIsBasicTypePinLaw", "ref", "(I)Z"⟩ : MethodName) (head1 (Jvm.Cond.code (⟨"com/example/tagwire/tagwire/formats/BinnIsBasicTypePinLaw", "ref", "(I)Z"⟩ : MethodName) method_2_code 4 (some .boolean) :: ws) ({ frames := 0, cells := 0, slots := 0, locals := 0 } : Room)) (fun a U => a = #[(.int p1)] ∧ Z.Warmed39 U.vm ∧ U.heap = h0) (fun _ _ _ _ _ => True) (fun _ U o U' => ∃ v L, o = .returned v ∧ Q2 Z p1 h0 n0 v U'.heap L ∧ FrameEnd U o U' L ({ frames := 0, cells := 0, slots := 0, locals := 0 } : Room).cells ({ frames := 0, cells := 0, slots := 0, locals := 0 } : Room).slots) := by
  refine MetFree.of_bodySF (plainFor_of_name pn_2) hisR ?_
  intro p e s m args below meth c s₁ Bd hml0 hP hK
  obtain ⟨rfl, hZ, hh⟩ := hP
  have hx := Bd.exec
  have hby := Bd.bytes
  have hml : c.maxLocals = 4 := hml0
  have hown : s.vm.findClass "com/example/tagwire/tagwire/formats/BinnIsBasicTypePinLaw" = some m.cls := findClass_of_methodNamed Bd.named
  have hnm := (name_of_methodNamed Bd.named Bd.method).1
  have X0 : Stand p l e ({ frames := 0, cells := 0, slots := 0, locals := 0 } : Room) s m #[(.int p1)] below meth c s₁ [] 0 0 := Stand.of_body Bd
  have e0 : s₁.heap = h0 := by rw [← hh, Bd.state]; rfl
  have N0 := Fr.nil n0
  have pre0 : ∀ t, Steps p.tables e below (s₁.setTop (mkF m 0 #[.val (.int p1), .unset, .unset, .unset] [])) t → Steps p.tables e below (s₁.setTop (entryFrame m #[(.int p1)] 4)) t := fun t k => castTop (ef_2 m p1) k
  have pre1 : ∀ t, Steps p.tables e below (s₁.setTop (mkF m 1 #[.val (.int p1), .unset, .unset, .unset] [(.int p1)])) t → Steps p.tables e below (s₁.setTop (entryFrame m #[(.int p1)] 4)) t := fun t k => pre0 t (by
    show Steps p.tables e below (s₁.setTop (mkF m 0 #[.val (.int p1), .unset, .unset, .unset] [])) _
    refine XS.iloadN X0.here hx rfl (hb hby d2_0) rfl ?_
    exact k)
  by_cases hc2 : p1 < (0 : Int32)
  · have er : (f2 p1) = (0 : Int32) := by exact (if_pos hc2)
    obtain ⟨fs, hr, hrun, hended, hW, hsame⟩ := X0.leave (v := some (.int (0 : Int32))) (fun h => by rw [Bd.returns] at h; cases h)
    refine ⟨_, _, pre1 _ ?_, hrun, hended, _, _, rfl, ?_, ⟨_, rfl⟩, hW, hsame.mono (by decide) (by decide)⟩
    · show Steps p.tables e below (s₁.setTop (mkF m 1 #[.val (.int p1), .unset, .unset, .unset] [(.int p1)])) _
      refine XS.ifYes X0.here hx rfl (pc0 := 1) (pc' := 11) rfl (hb hby d2_1) rfl ((if0 _ _).trans (tlt hc2).1) (by decide) (by decide) ?_
      show Steps p.tables e below (s₁.setTop (mkF m 11 #[.val (.int p1), .unset, .unset, .unset] [])) _
      refine XS.iconst X0.here hx rfl (hb hby d2_11) ?_
      show Steps p.tables e below (s₁.setTop (mkF m 12 #[.val (.int p1), .unset, .unset, .unset] [(.int (0 : Int32))])) _
      exact retN X0 hx (t := .boolean) Bd.returns (by simp) (hb hby d2_12) hr
    · show Q2 Z p1 h0 n0 _ s₁.heap _
      rw [e0]
      exact ⟨congrArg (fun z => some (Value.int z)) er.symm, N0, rfl⟩
  · have pre3 : ∀ t, Steps p.tables e below (s₁.setTop (mkF m 8 #[.val (.int p1), .unset, .unset, .unset] [(.int (255 : Int32)), (.int p1)])) t → Steps p.tables e below (s₁.setTop (entryFrame m #[(.int p1)] 4)) t := fun t k => pre1 t (by
      show Steps p.tables e below (s₁.setTop (mkF m 1 #[.val (.int p1), .unset, .unset, .unset] [(.int p1)])) _
      refine XS.ifNo X0.here hx rfl (hb hby d2_1) rfl ((if0 _ _).trans (flt hc2).1) ?_
      show Steps p.tables e below (s₁.setTop (mkF m 4 #[.val (.int p1), .unset, .unset, .unset] [])) _
      refine XS.iloadN X0.here hx rfl (hb hby d2_4) rfl ?_
      show Steps p.tables e below (s₁.setTop (mkF m 5 #[.val (.int p1), .unset, .unset, .unset] [(.int p1)])) _
      refine XS.sipush X0.here hx rfl (hb hby d2_5) ?_
      exact k)
    by_cases hc4 : (255 : Int32) < p1
    · have er : (f2 p1) = (0 : Int32) := by exact ((if_neg hc2).trans (if_pos hc4))
      obtain ⟨fs, hr, hrun, hended, hW, hsame⟩ := X0.leave (v := some (.int (0 : Int32))) (fun h => by rw [Bd.returns] at h; cases h)
      refine ⟨_, _, pre3 _ ?_, hrun, hended, _, _, rfl, ?_, ⟨_, rfl⟩, hW, hsame.mono (by decide) (by decide)⟩
      · show Steps p.tables e below (s₁.setTop (mkF m 8 #[.val (.int p1), .unset, .unset, .unset] [(.int (255 : Int32)), (.int p1)])) _
        refine XS.icmpNo X0.here hx rfl (hb hby d2_8) rfl (tlt hc4).2.2.2 ?_
        show Steps p.tables e below (s₁.setTop (mkF m 11 #[.val (.int p1), .unset, .unset, .unset] [])) _
        refine XS.iconst X0.here hx rfl (hb hby d2_11) ?_
        show Steps p.tables e below (s₁.setTop (mkF m 12 #[.val (.int p1), .unset, .unset, .unset] [(.int (0 : Int32))])) _
        exact retN X0 hx (t := .boolean) Bd.returns (by simp) (hb hby d2_12) hr
      · show Q2 Z p1 h0 n0 _ s₁.heap _
        rw [e0]
        exact ⟨congrArg (fun z => some (Value.int z)) er.symm, N0, rfl⟩
    · obtain ⟨v11, hv11⟩ : ∃ z : Int32, z = (if ((p1.toUInt32 >>> ((5 : Int32) &&& 31).toUInt32).toInt32) = (0 : Int32) then (3 : Int32) else (if ((p1.toUInt32 >>> ((5 : Int32) &&& 31).toUInt32).toInt32) = (3 : Int32) then (3 : Int32) else (if ((p1.toUInt32 >>> ((5 : Int32) &&& 31).toUInt32).toInt32) = (4 : Int32) then (3 : Int32) else (if ((p1.toUInt32 >>> ((5 : Int32) &&& 31).toUInt32).toInt32) = (7 : Int32) then (3 : Int32) else (if ((p1.toUInt32 >>> ((5 : Int32) &&& 31).toUInt32).toInt32) = (1 : Int32) then (2 : Int32) else (if ((p1.toUInt32 >>> ((5 : Int32) &&& 31).toUInt32).toInt32) = (2 : Int32) then (2 : Int32) else (1 : Int32))))))) := ⟨_, rfl⟩
      have pre12 : ∀ t, Steps p.tables e below (s₁.setTop (mkF m 64 #[.val (.int p1), .val (.int ((p1.toUInt32 >>> ((5 : Int32) &&& 31).toUInt32).toInt32)), .val (.int (p1 &&& (31 : Int32))), .val (.int v11)] [])) t → Steps p.tables e below (s₁.setTop (entryFrame m #[(.int p1)] 4)) t := fun t k => pre3 t (by
        show Steps p.tables e below (s₁.setTop (mkF m 8 #[.val (.int p1), .unset, .unset, .unset] [(.int (255 : Int32)), (.int p1)])) _
        refine XS.icmpYes X0.here hx rfl (pc0 := 8) (pc' := 13) rfl (hb hby d2_8) rfl (flt hc4).2.2.2 (by decide) (by decide) ?_
        show Steps p.tables e below (s₁.setTop (mkF m 13 #[.val (.int p1), .unset, .unset, .unset] [])) _
        refine XS.iloadN X0.here hx rfl (hb hby d2_13) rfl ?_
        show Steps p.tables e below (s₁.setTop (mkF m 14 #[.val (.int p1), .unset, .unset, .unset] [(.int p1)])) _
        refine XS.iconst X0.here hx rfl (hb hby d2_14) ?_
        show Steps p.tables e below (s₁.setTop (mkF m 15 #[.val (.int p1), .unset, .unset, .unset] [(.int (5 : Int32)), (.int p1)])) _
        refine XS.iushr X0.here hx rfl (hb hby d2_15) rfl ?_
        show Steps p.tables e below (s₁.setTop (mkF m 16 #[.val (.int p1), .unset, .unset, .unset] [(.int ((p1.toUInt32 >>> ((5 : Int32) &&& 31).toUInt32).toInt32))])) _
        refine XS.istoreN X0.here hx rfl (hb hby d2_16) rfl (l' := #[.val (.int p1), .val (.int ((p1.toUInt32 >>> ((5 : Int32) &&& 31).toUInt32).toInt32)), .unset, .unset]) rfl ?_
        show Steps p.tables e below (s₁.setTop (mkF m 17 #[.val (.int p1), .val (.int ((p1.toUInt32 >>> ((5 : Int32) &&& 31).toUInt32).toInt32)), .unset, .unset] [])) _
        refine XS.iloadN X0.here hx rfl (hb hby d2_17) rfl ?_
        show Steps p.tables e below (s₁.setTop (mkF m 18 #[.val (.int p1), .val (.int ((p1.toUInt32 >>> ((5 : Int32) &&& 31).toUInt32).toInt32)), .unset, .unset] [(.int p1)])) _
        refine XS.bipush X0.here hx rfl (hb hby d2_18) ?_
        show Steps p.tables e below (s₁.setTop (mkF m 20 #[.val (.int p1), .val (.int ((p1.toUInt32 >>> ((5 : Int32) &&& 31).toUInt32).toInt32)), .unset, .unset] [(.int (31 : Int32)), (.int p1)])) _
        refine XS.iand X0.here hx rfl (hb hby d2_20) rfl ?_
        show Steps p.tables e below (s₁.setTop (mkF m 21 #[.val (.int p1), .val (.int ((p1.toUInt32 >>> ((5 : Int32) &&& 31).toUInt32).toInt32)), .unset, .unset] [(.int (p1 &&& (31 : Int32)))])) _
        refine XS.istoreN X0.here hx rfl (hb hby d2_21) rfl (l' := #[.val (.int p1), .val (.int ((p1.toUInt32 >>> ((5 : Int32) &&& 31).toUInt32).toInt32)), .val (.int (p1 &&& (31 : Int32))), .unset]) rfl ?_
        show Steps p.tables e below (s₁.setTop (mkF m 22 #[.val (.int p1), .val (.int ((p1.toUInt32 >>> ((5 : Int32) &&& 31).toUInt32).toInt32)), .val (.int (p1 &&& (31 : Int32))), .unset] [])) _
        refine XS.iloadN X0.here hx rfl (hb hby d2_22) rfl ?_
        show Steps p.tables e below (s₁.setTop (mkF m 23 #[.val (.int p1), .val (.int ((p1.toUInt32 >>> ((5 : Int32) &&& 31).toUInt32).toInt32)), .val (.int (p1 &&& (31 : Int32))), .unset] [(.int ((p1.toUInt32 >>> ((5 : Int32) &&& 31).toUInt32).toInt32))])) _
        by_cases hc5 : ((p1.toUInt32 >>> ((5 : Int32) &&& 31).toUInt32).toInt32) = (0 : Int32)
        · refine XS.ifYes X0.here hx rfl (pc0 := 23) (pc' := 42) rfl (hb hby d2_23) rfl ((if0 _ _).trans (teq hc5).1) (by decide) (by decide) ?_
          show Steps p.tables e below (s₁.setTop (mkF m 42 #[.val (.int p1), .val (.int ((p1.toUInt32 >>> ((5 : Int32) &&& 31).toUInt32).toInt32)), .val (.int (p1 &&& (31 : Int32))), .unset] [])) _
          refine XS.iconst X0.here hx rfl (hb hby d2_42) ?_
          show Steps p.tables e below (s₁.setTop (mkF m 43 #[.val (.int p1), .val (.int ((p1.toUInt32 >>> ((5 : Int32) &&& 31).toUInt32).toInt32)), .val (.int (p1 &&& (31 : Int32))), .unset] [(.int (3 : Int32))])) _
          refine XS.istoreN X0.here hx rfl (hb hby d2_43) rfl (l' := #[.val (.int p1), .val (.int ((p1.toUInt32 >>> ((5 : Int32) &&& 31).toUInt32).toInt32)), .val (.int (p1 &&& (31 : Int32))), .val (.int (3 : Int32))]) rfl ?_
          show Steps p.tables e below (s₁.setTop (mkF m 44 #[.val (.int p1), .val (.int ((p1.toUInt32 >>> ((5 : Int32) &&& 31).toUInt32).toInt32)), .val (.int (p1 &&& (31 : Int32))), .val (.int (3 : Int32))] [])) _
          refine XS.goto X0.here hx rfl (pc0 := 44) (pc' := 64) rfl (hb hby d2_44) (by decide) (by decide) ?_
          rw [show v11 = (3 : Int32) from hv11.trans (if_pos hc5)] at k
          exact k
        · refine XS.ifNo X0.here hx rfl (hb hby d2_23) rfl ((if0 _ _).trans (feq hc5).1) ?_
          show Steps p.tables e below (s₁.setTop (mkF m 26 #[.val (.int p1), .val (.int ((p1.toUInt32 >>> ((5 : Int32) &&& 31).toUInt32).toInt32)), .val (.int (p1 &&& (31 : Int32))), .unset] [])) _
          refine XS.iloadN X0.here hx rfl (hb hby d2_26) rfl ?_
          show Steps p.tables e below (s₁.setTop (mkF m 27 #[.val (.int p1), .val (.int ((p1.toUInt32 >>> ((5 : Int32) &&& 31).toUInt32).toInt32)), .val (.int (p1 &&& (31 : Int32))), .unset] [(.int ((p1.toUInt32 >>> ((5 : Int32) &&& 31).toUInt32).toInt32))])) _
          refine XS.iconst X0.here hx rfl (hb hby d2_27) ?_
          show Steps p.tables e below (s₁.setTop (mkF m 28 #[.val (.int p1), .val (.int ((p1.toUInt32 >>> ((5 : Int32) &&& 31).toUInt32).toInt32)), .val (.int (p1 &&& (31 : Int32))), .unset] [(.int (3 : Int32)), (.int ((p1.toUInt32 >>> ((5 : Int32) &&& 31).toUInt32).toInt32))])) _
          by_cases hc6 : ((p1.toUInt32 >>> ((5 : Int32) &&& 31).toUInt32).toInt32) = (3 : Int32)
          · refine XS.icmpYes X0.here hx rfl (pc0 := 28) (pc' := 42) rfl (hb hby d2_28) rfl (teq hc6).1 (by decide) (by decide) ?_
            show Steps p.tables e below (s₁.setTop (mkF m 42 #[.val (.int p1), .val (.int ((p1.toUInt32 >>> ((5 : Int32) &&& 31).toUInt32).toInt32)), .val (.int (p1 &&& (31 : Int32))), .unset] [])) _
            refine XS.iconst X0.here hx rfl (hb hby d2_42) ?_
            show Steps p.tables e below (s₁.setTop (mkF m 43 #[.val (.int p1), .val (.int ((p1.toUInt32 >>> ((5 : Int32) &&& 31).toUInt32).toInt32)), .val (.int (p1 &&& (31 : Int32))), .unset] [(.int (3 : Int32))])) _
            refine XS.istoreN X0.here hx rfl (hb hby d2_43) rfl (l' := #[.val (.int p1), .val (.int ((p1.toUInt32 >>> ((5 : Int32) &&& 31).toUInt32).toInt32)), .val (.int (p1 &&& (31 : Int32))), .val (.int (3 : Int32))]) rfl ?_
            show Steps p.tables e below (s₁.setTop (mkF m 44 #[.val (.int p1), .val (.int ((p1.toUInt32 >>> ((5 : Int32) &&& 31).toUInt32).toInt32)), .val (.int (p1 &&& (31 : Int32))), .val (.int (3 : Int32))] [])) _
            refine XS.goto X0.here hx rfl (pc0 := 44) (pc' := 64) rfl (hb hby d2_44) (by decide) (by decide) ?_
            rw [show v11 = (3 : Int32) from hv11.trans ((if_neg hc5).trans (if_pos hc6))] at k
            exact k
          · refine XS.icmpNo X0.here hx rfl (hb hby d2_28) rfl (feq hc6).1 ?_
            show Steps p.tables e below (s₁.setTop (mkF m 31 #[.val (.int p1), .val (.int ((p1.toUInt32 >>> ((5 : Int32) &&& 31).toUInt32).toInt32)), .val (.int (p1 &&& (31 : Int32))), .unset] [])) _
            refine XS.iloadN X0.here hx rfl (hb hby d2_31) rfl ?_
            show Steps p.tables e below (s₁.setTop (mkF m 32 #[.val (.int p1), .val (.int ((p1.toUInt32 >>> ((5 : Int32) &&& 31).toUInt32).toInt32)), .val (.int (p1 &&& (31 : Int32))), .unset] [(.int ((p1.toUInt32 >>> ((5 : Int32) &&& 31).toUInt32).toInt32))])) _
            refine XS.iconst X0.here hx rfl (hb hby d2_32) ?_
            show Steps p.tables e below (s₁.setTop (mkF m 33 #[.val (.int p1), .val (.int ((p1.toUInt32 >>> ((5 : Int32) &&& 31).toUInt32).toInt32)), .val (.int (p1 &&& (31 : Int32))), .unset] [(.int (4 : Int32)), (.int ((p1.toUInt32 >>> ((5 : Int32) &&& 31).toUInt32).toInt32))])) _
            by_cases hc7 : ((p1.toUInt32 >>> ((5 : Int32) &&& 31).toUInt32).toInt32) = (4 : Int32)
            · refine XS.icmpYes X0.here hx rfl (pc0 := 33) (pc' := 42) rfl (hb hby d2_33) rfl (teq hc7).1 (by decide) (by decide) ?_
              show Steps p.tables e below (s₁.setTop (mkF m 42 #[.val (.int p1), .val (.int ((p1.toUInt32 >>> ((5 : Int32) &&& 31).toUInt32).toInt32)), .val (.int (p1 &&& (31 : Int32))), .unset] [])) _
              refine XS.iconst X0.here hx rfl (hb hby d2_42) ?_
              show Steps p.tables e below (s₁.setTop (mkF m 43 #[.val (.int p1), .val (.int ((p1.toUInt32 >>> ((5 : Int32) &&& 31).toUInt32).toInt32)), .val (.int (p1 &&& (31 : Int32))), .unset] [(.int (3 : Int32))])) _
              refine XS.istoreN X0.here hx rfl (hb hby d2_43) rfl (l' := #[.val (.int p1), .val (.int ((p1.toUInt32 >>> ((5 : Int32) &&& 31).toUInt32).toInt32)), .val (.int (p1 &&& (31 : Int32))), .val (.int (3 : Int32))]) rfl ?_
              show Steps p.tables e below (s₁.setTop (mkF m 44 #[.val (.int p1), .val (.int ((p1.toUInt32 >>> ((5 : Int32) &&& 31).toUInt32).toInt32)), .val (.int (p1 &&& (31 : Int32))), .val (.int (3 : Int32))] [])) _
              refine XS.goto X0.here hx rfl (pc0 := 44) (pc' := 64) rfl (hb hby d2_44) (by decide) (by decide) ?_
              rw [show v11 = (3 : Int32) from hv11.trans ((if_neg hc5).trans ((if_neg hc6).trans (if_pos hc7)))] at k
              exact k
            · refine XS.icmpNo X0.here hx rfl (hb hby d2_33) rfl (feq hc7).1 ?_
              show Steps p.tables e below (s₁.setTop (mkF m 36 #[.val (.int p1), .val (.int ((p1.toUInt32 >>> ((5 : Int32) &&& 31).toUInt32).toInt32)), .val (.int (p1 &&& (31 : Int32))), .unset] [])) _
              refine XS.iloadN X0.here hx rfl (hb hby d2_36) rfl ?_
              show Steps p.tables e below (s₁.setTop (mkF m 37 #[.val (.int p1), .val (.int ((p1.toUInt32 >>> ((5 : Int32) &&& 31).toUInt32).toInt32)), .val (.int (p1 &&& (31 : Int32))), .unset] [(.int ((p1.toUInt32 >>> ((5 : Int32) &&& 31).toUInt32).toInt32))])) _
              refine XS.bipush X0.here hx rfl (hb hby d2_37) ?_
              show Steps p.tables e below (s₁.setTop (mkF m 39 #[.val (.int p1), .val (.int ((p1.toUInt32 >>> ((5 : Int32) &&& 31).toUInt32).toInt32)), .val (.int (p1 &&& (31 : Int32))), .unset] [(.int (7 : Int32)), (.int ((p1.toUInt32 >>> ((5 : Int32) &&& 31).toUInt32).toInt32))])) _
              by_cases hc8 : ((p1.toUInt32 >>> ((5 : Int32) &&& 31).toUInt32).toInt32) = (7 : Int32)
              · refine XS.icmpNo X0.here hx rfl (hb hby d2_39) rfl (teq hc8).2 ?_
                show Steps p.tables e below (s₁.setTop (mkF m 42 #[.val (.int p1), .val (.int ((p1.toUInt32 >>> ((5 : Int32) &&& 31).toUInt32).toInt32)), .val (.int (p1 &&& (31 : Int32))), .unset] [])) _
                refine XS.iconst X0.here hx rfl (hb hby d2_42) ?_
                show Steps p.tables e below (s₁.setTop (mkF m 43 #[.val (.int p1), .val (.int ((p1.toUInt32 >>> ((5 : Int32) &&& 31).toUInt32).toInt32)), .val (.int (p1 &&& (31 : Int32))), .unset] [(.int (3 : Int32))])) _
                refine XS.istoreN X0.here hx rfl (hb hby d2_43) rfl (l' := #[.val (.int p1), .val (.int ((p1.toUInt32 >>> ((5 : Int32) &&& 31).toUInt32).toInt32)), .val (.int (p1 &&& (31 : Int32))), .val (.int (3 : Int32))]) rfl ?_
                show Steps p.tables e below (s₁.setTop (mkF m 44 #[.val (.int p1), .val (.int ((p1.toUInt32 >>> ((5 : Int32) &&& 31).toUInt32).toInt32)), .val (.int (p1 &&& (31 : Int32))), .val (.int (3 : Int32))] [])) _
                refine XS.goto X0.here hx rfl (pc0 := 44) (pc' := 64) rfl (hb hby d2_44) (by decide) (by decide) ?_
                rw [show v11 = (3 : Int32) from hv11.trans ((if_neg hc5).trans ((if_neg hc6).trans ((if_neg hc7).trans (if_pos hc8))))] at k
                exact k
              · refine XS.icmpYes X0.here hx rfl (pc0 := 39) (pc' := 47) rfl (hb hby d2_39) rfl (feq hc8).2 (by decide) (by decide) ?_
                show Steps p.tables e below (s₁.setTop (mkF m 47 #[.val (.int p1), .val (.int ((p1.toUInt32 >>> ((5 : Int32) &&& 31).toUInt32).toInt32)), .val (.int (p1 &&& (31 : Int32))), .unset] [])) _
                refine XS.iloadN X0.here hx rfl (hb hby d2_47) rfl ?_
                show Steps p.tables e below (s₁.setTop (mkF m 48 #[.val (.int p1), .val (.int ((p1.toUInt32 >>> ((5 : Int32) &&& 31).toUInt32).toInt32)), .val (.int (p1 &&& (31 : Int32))), .unset] [(.int ((p1.toUInt32 >>> ((5 : Int32) &&& 31).toUInt32).toInt32))])) _
                refine XS.iconst X0.here hx rfl (hb hby d2_48) ?_
                show Steps p.tables e below (s₁.setTop (mkF m 49 #[.val (.int p1), .val (.int ((p1.toUInt32 >>> ((5 : Int32) &&& 31).toUInt32).toInt32)), .val (.int (p1 &&& (31 : Int32))), .unset] [(.int (1 : Int32)), (.int ((p1.toUInt32 >>> ((5 : Int32) &&& 31).toUInt32).toInt32))])) _
                by_cases hc9 : ((p1.toUInt32 >>> ((5 : Int32) &&& 31).toUInt32).toInt32) = (1 : Int32)
                · refine XS.icmpYes X0.here hx rfl (pc0 := 49) (pc' := 57) rfl (hb hby d2_49) rfl (teq hc9).1 (by decide) (by decide) ?_
                  show Steps p.tables e below (s₁.setTop (mkF m 57 #[.val (.int p1), .val (.int ((p1.toUInt32 >>> ((5 : Int32) &&& 31).toUInt32).toInt32)), .val (.int (p1 &&& (31 : Int32))), .unset] [])) _
                  refine XS.iconst X0.here hx rfl (hb hby d2_57) ?_
                  show Steps p.tables e below (s₁.setTop (mkF m 58 #[.val (.int p1), .val (.int ((p1.toUInt32 >>> ((5 : Int32) &&& 31).toUInt32).toInt32)), .val (.int (p1 &&& (31 : Int32))), .unset] [(.int (2 : Int32))])) _
                  refine XS.istoreN X0.here hx rfl (hb hby d2_58) rfl (l' := #[.val (.int p1), .val (.int ((p1.toUInt32 >>> ((5 : Int32) &&& 31).toUInt32).toInt32)), .val (.int (p1 &&& (31 : Int32))), .val (.int (2 : Int32))]) rfl ?_
                  show Steps p.tables e below (s₁.setTop (mkF m 59 #[.val (.int p1), .val (.int ((p1.toUInt32 >>> ((5 : Int32) &&& 31).toUInt32).toInt32)), .val (.int (p1 &&& (31 : Int32))), .val (.int (2 : Int32))] [])) _
                  refine XS.goto X0.here hx rfl (pc0 := 59) (pc' := 64) rfl (hb hby d2_59) (by decide) (by decide) ?_
                  rw [show v11 = (2 : Int32) from hv11.trans ((if_neg hc5).trans ((if_neg hc6).trans ((if_neg hc7).trans ((if_neg hc8).trans (if_pos hc9)))))] at k
                  exact k
                · refine XS.icmpNo X0.here hx rfl (hb hby d2_49) rfl (feq hc9).1 ?_
                  show Steps p.tables e below (s₁.setTop (mkF m 52 #[.val (.int p1), .val (.int ((p1.toUInt32 >>> ((5 : Int32) &&& 31).toUInt32).toInt32)), .val (.int (p1 &&& (31 : Int32))), .unset] [])) _
                  refine XS.iloadN X0.here hx rfl (hb hby d2_52) rfl ?_
                  show Steps p.tables e below (s₁.setTop (mkF m 53 #[.val (.int p1), .val (.int ((p1.toUInt32 >>> ((5 : Int32) &&& 31).toUInt32).toInt32)), .val (.int (p1 &&& (31 : Int32))), .unset] [(.int ((p1.toUInt32 >>> ((5 : Int32) &&& 31).toUInt32).toInt32))])) _
                  refine XS.iconst X0.here hx rfl (hb hby d2_53) ?_
                  show Steps p.tables e below (s₁.setTop (mkF m 54 #[.val (.int p1), .val (.int ((p1.toUInt32 >>> ((5 : Int32) &&& 31).toUInt32).toInt32)), .val (.int (p1 &&& (31 : Int32))), .unset] [(.int (2 : Int32)), (.int ((p1.toUInt32 >>> ((5 : Int32) &&& 31).toUInt32).toInt32))])) _
                  by_cases hc10 : ((p1.toUInt32 >>> ((5 : Int32) &&& 31).toUInt32).toInt32) = (2 : Int32)
                  · refine XS.icmpNo X0.here hx rfl (hb hby d2_54) rfl (teq hc10).2 ?_
                    show Steps p.tables e below (s₁.setTop (mkF m 57 #[.val (.int p1), .val (.int ((p1.toUInt32 >>> ((5 : Int32) &&& 31).toUInt32).toInt32)), .val (.int (p1 &&& (31 : Int32))), .unset] [])) _
                    refine XS.iconst X0.here hx rfl (hb hby d2_57) ?_
                    show Steps p.tables e below (s₁.setTop (mkF m 58 #[.val (.int p1), .val (.int ((p1.toUInt32 >>> ((5 : Int32) &&& 31).toUInt32).toInt32)), .val (.int (p1 &&& (31 : Int32))), .unset] [(.int (2 : Int32))])) _
                    refine XS.istoreN X0.here hx rfl (hb hby d2_58) rfl (l' := #[.val (.int p1), .val (.int ((p1.toUInt32 >>> ((5 : Int32) &&& 31).toUInt32).toInt32)), .val (.int (p1 &&& (31 : Int32))), .val (.int (2 : Int32))]) rfl ?_
                    show Steps p.tables e below (s₁.setTop (mkF m 59 #[.val (.int p1), .val (.int ((p1.toUInt32 >>> ((5 : Int32) &&& 31).toUInt32).toInt32)), .val (.int (p1 &&& (31 : Int32))), .val (.int (2 : Int32))] [])) _
                    refine XS.goto X0.here hx rfl (pc0 := 59) (pc' := 64) rfl (hb hby d2_59) (by decide) (by decide) ?_
                    rw [show v11 = (2 : Int32) from hv11.trans ((if_neg hc5).trans ((if_neg hc6).trans ((if_neg hc7).trans ((if_neg hc8).trans ((if_neg hc9).trans (if_pos hc10))))))] at k
                    exact k
                  · refine XS.icmpYes X0.here hx rfl (pc0 := 54) (pc' := 62) rfl (hb hby d2_54) rfl (feq hc10).2 (by decide) (by decide) ?_
                    show Steps p.tables e below (s₁.setTop (mkF m 62 #[.val (.int p1), .val (.int ((p1.toUInt32 >>> ((5 : Int32) &&& 31).toUInt32).toInt32)), .val (.int (p1 &&& (31 : Int32))), .unset] [])) _
                    refine XS.iconst X0.here hx rfl (hb hby d2_62) ?_
                    show Steps p.tables e below (s₁.setTop (mkF m 63 #[.val (.int p1), .val (.int ((p1.toUInt32 >>> ((5 : Int32) &&& 31).toUInt32).toInt32)), .val (.int (p1 &&& (31 : Int32))), .unset] [(.int (1 : Int32))])) _
                    refine XS.istoreN X0.here hx rfl (hb hby d2_63) rfl (l' := #[.val (.int p1), .val (.int ((p1.toUInt32 >>> ((5 : Int32) &&& 31).toUInt32).toInt32)), .val (.int (p1 &&& (31 : Int32))), .val (.int (1 : Int32))]) rfl ?_
                    rw [show v11 = (1 : Int32) from hv11.trans ((if_neg hc5).trans ((if_neg hc6).trans ((if_neg hc7).trans ((if_neg hc8).trans ((if_neg hc9).trans (if_neg hc10))))))] at k
                    exact k)
      obtain ⟨v14, hv14⟩ : ∃ z : Int32, z = (if (p1 &&& (31 : Int32)) < v11 then (1 : Int32) else (0 : Int32)) := ⟨_, rfl⟩
      have pre15 : ∀ t, Steps p.tables e below (s₁.setTop (mkF m 74 #[.val (.int p1), .val (.int ((p1.toUInt32 >>> ((5 : Int32) &&& 31).toUInt32).toInt32)), .val (.int (p1 &&& (31 : Int32))), .val (.int v11)] [(.int v14)])) t → Steps p.tables e below (s₁.setTop (entryFrame m #[(.int p1)] 4)) t := fun t k => pre12 t (by
        show Steps p.tables e below (s₁.setTop (mkF m 64 #[.val (.int p1), .val (.int ((p1.toUInt32 >>> ((5 : Int32) &&& 31).toUInt32).toInt32)), .val (.int (p1 &&& (31 : Int32))), .val (.int v11)] [])) _
        refine XS.iloadN X0.here hx rfl (hb hby d2_64) rfl ?_
        show Steps p.tables e below (s₁.setTop (mkF m 65 #[.val (.int p1), .val (.int ((p1.toUInt32 >>> ((5 : Int32) &&& 31).toUInt32).toInt32)), .val (.int (p1 &&& (31 : Int32))), .val (.int v11)] [(.int (p1 &&& (31 : Int32)))])) _
        refine XS.iloadN X0.here hx rfl (hb hby d2_65) rfl ?_
        show Steps p.tables e below (s₁.setTop (mkF m 66 #[.val (.int p1), .val (.int ((p1.toUInt32 >>> ((5 : Int32) &&& 31).toUInt32).toInt32)), .val (.int (p1 &&& (31 : Int32))), .val (.int v11)] [(.int v11), (.int (p1 &&& (31 : Int32)))])) _
        by_cases hc13 : (p1 &&& (31 : Int32)) < v11
        · refine XS.icmpNo X0.here hx rfl (hb hby d2_66) rfl (tlt hc13).2.1 ?_
          show Steps p.tables e below (s₁.setTop (mkF m 69 #[.val (.int p1), .val (.int ((p1.toUInt32 >>> ((5 : Int32) &&& 31).toUInt32).toInt32)), .val (.int (p1 &&& (31 : Int32))), .val (.int v11)] [])) _
          refine XS.iconst X0.here hx rfl (hb hby d2_69) ?_
          show Steps p.tables e below (s₁.setTop (mkF m 70 #[.val (.int p1), .val (.int ((p1.toUInt32 >>> ((5 : Int32) &&& 31).toUInt32).toInt32)), .val (.int (p1 &&& (31 : Int32))), .val (.int v11)] [(.int (1 : Int32))])) _
          refine XS.goto X0.here hx rfl (pc0 := 70) (pc' := 74) rfl (hb hby d2_70) (by decide) (by decide) ?_
          rw [show v14 = (1 : Int32) from hv14.trans (if_pos hc13)] at k
          exact k
        · refine XS.icmpYes X0.here hx rfl (pc0 := 66) (pc' := 73) rfl (hb hby d2_66) rfl (flt hc13).2.1 (by decide) (by decide) ?_
          show Steps p.tables e below (s₁.setTop (mkF m 73 #[.val (.int p1), .val (.int ((p1.toUInt32 >>> ((5 : Int32) &&& 31).toUInt32).toInt32)), .val (.int (p1 &&& (31 : Int32))), .val (.int v11)] [])) _
          refine XS.iconst X0.here hx rfl (hb hby d2_73) ?_
          rw [show v14 = (0 : Int32) from hv14.trans (if_neg hc13)] at k
          exact k)
      have er : (f2 p1) = (nar .boolean v14) := by subst hv11 hv14; exact ((if_neg hc2).trans (if_neg hc4))
      obtain ⟨fs, hr, hrun, hended, hW, hsame⟩ := X0.leave (v := some (.int (nar .boolean v14))) (fun h => by rw [Bd.returns] at h; cases h)
      refine ⟨_, _, pre15 _ ?_, hrun, hended, _, _, rfl, ?_, ⟨_, rfl⟩, hW, hsame.mono (by decide) (by decide)⟩
      · show Steps p.tables e below (s₁.setTop (mkF m 74 #[.val (.int p1), .val (.int ((p1.toUInt32 >>> ((5 : Int32) &&& 31).toUInt32).toInt32)), .val (.int (p1 &&& (31 : Int32))), .val (.int v11)] [(.int v14)])) _
        exact retN X0 hx (t := .boolean) Bd.returns (by simp) (hb hby d2_74) hr
      · show Q2 Z p1 h0 n0 _ s₁.heap _
        rw [e0]
        exact ⟨congrArg (fun z => some (Value.int z)) er.symm, N0, rfl⟩
theorem pd_0 : parseMethodDescriptor "(I)Z" = some ⟨[.int], some .boolean⟩ := by decide +kernel
theorem pn_0 : plainName "com/example/tagwire/tagwire/formats/BinnIsBasicTypePinLaw" = true := by first | (simp [plainName, overriddenIn]; done) | decide +kernel
theorem ef_0 (m : MethodId) (p1 : Int32) (p2 : Int32) : entryFrame m #[(.int p1), (.int p2)] maxLocals = mkF m 0 #[.val (.int p1), .val (.int p2), .unset, .unset, .unset] [] := by first | (simp [entryFrame, mkF, argsToLocals, Value.category, maxLocals]; done) | rfl
def f0 (p1 : Int32) (p2 : Int32) : Int32 :=
  (nar .boolean (if (if (f1 p1) = (f2 p1) then (1 : Int32) else (0 : Int32)) = (0 : Int32) then (0 : Int32) else (if (if (f1 (p2 &&& (255 : Int32))) = (f2 (p2 &&& (255 : Int32))) then (1 : Int32) else (0 : Int32)) = (0 : Int32) then (0 : Int32) else (1 : Int32))))
def Q0 (Z : State) (p1 : Int32) (p2 : Int32)  (h0 : Heap) (n0 : Nat) (v : Option Value) (h : Heap) (L : List Loc) : Prop := v = some (.int (f0 p1 p2)) ∧ Fr n0 L ∧ h = h0
set_option maxRecDepth 65536 in
set_option maxHeartbeats 40000000 in
theorem rm0 (l : Launch) (Z : State) (a0 : Array Value) (hw : ∀ d ∈ tables_1, d.before a0 Z = true) (ws : List Jvm.Cond) (p1 : Int32) (p2 : Int32)  (h0 : Heap) (n0 : Nat) (Z0 : n0 ≤ h0.size) :
    MetFree l x (head1 (Jvm.Cond.code x code maxLocals ret :: ws) room_1) (fun a U => a = #[(.int p1), (.int p2)] ∧ Z.Warmed39 U.vm ∧ U.heap = h0) (fun _ _ _ _ _ => True) (fun _ U o U' => ∃ v L, o = .returned v ∧ Q0 Z p1 p2 h0 n0 v U'.heap L ∧ FrameEnd U o U' L room_1.cells room_1.slots) := by
  refine MetFree.of_bodySF (plainFor_of_name pn_0) hisR ?_
  intro p e s m args below meth c s₁ Bd hml0 hP hK
  obtain ⟨rfl, hZ, hh⟩ := hP
  have hx := Bd.exec
  have hby := Bd.bytes
  have hml : c.maxLocals = 5 := hml0
  have hown : s.vm.findClass "com/example/tagwire/tagwire/formats/BinnIsBasicTypePinLaw" = some m.cls := findClass_of_methodNamed Bd.named
  have hnm := (name_of_methodNamed Bd.named Bd.method).1
  have X0 : Stand p l e room_1 s m #[(.int p1), (.int p2)] below meth c s₁ [] 0 0 := Stand.of_body Bd
  have e0 : s₁.heap = h0 := by rw [← hh, Bd.state]; rfl
  have N0 := Fr.nil n0
  have pre0 : ∀ t, Steps p.tables e below (s₁.setTop (mkF m 0 #[.val (.int p1), .val (.int p2), .unset, .unset, .unset] [])) t → Steps p.tables e below (s₁.setTop (entryFrame m #[(.int p1), (.int p2)] maxLocals)) t := fun t k => castTop (ef_0 m p1 p2) k
  obtain ⟨_, _, ⟨T1, L1, k1, n1⟩, -, X1, ⟨Lc1, hQ1, l1, y1, z1⟩, st1⟩ := Jvm.LawKit.callS X0 hx (y := (⟨"com/example/tagwire/tagwire/formats/Binn", "isBasicType", "(I)Z"⟩ : MethodName)) hown (mvT hZ (hw _ (List.mem_of_getElem? (i := 0) rfl))) (mvT hZ (hw _ (List.mem_of_getElem? (i := 1) rfl))) (mvT hZ (hw _ (List.mem_of_getElem? (i := 2) rfl))) (mvT hZ (hw _ (List.mem_of_getElem? (i := 3) rfl))) (by decide) (backOf (W := 0) (rm1 l Z a0 hw [] p1 h0 n0 Z0) hZ (hw _ (List.mem_of_getElem? (i := 3) rfl)) (hw _ (List.mem_of_getElem? (i := 2) rfl)) (by decide) (by decide)) (g := (mkF m 7 #[.val (.int p1), .val (.int p2), .val (.int (p2 &&& (255 : Int32))), .unset, .unset] [(.int p1)])) rfl (by rw [hml]; rfl) (argsL := [(.int p1)]) (rest := []) (lenOf pd_0 rfl) rfl (by show 2 * 0 + _ ≤ _; exact Nat.le_of_eq rfl) (hb hby at_7) (fun _ _ => ⟨rfl, e0, (by decide : 0 + 0 ≤ _), (by decide : 0 + 0 ≤ _)⟩)
  dsimp only [Pt.U, Pt.locs, Pt.cells, Pt.slots] at X1 l1 y1 z1 st1 hQ1
  subst l1 y1 z1
  obtain ⟨rfl, N1q, e1⟩ := hQ1
  have N1 := Fr.app N0 N1q
  obtain ⟨_, _, ⟨T2, L2, k2, n2⟩, -, X2, ⟨Lc2, hQ2, l2, y2, z2⟩, st2⟩ := Jvm.LawKit.callS X1 hx (y := (⟨"com/example/tagwire/tagwire/formats/BinnIsBasicTypePinLaw", "ref", "(I)Z"⟩ : MethodName)) hown (mvT hZ (hw _ (List.mem_of_getElem? (i := 4) rfl))) (mvT hZ (hw _ (List.mem_of_getElem? (i := 5) rfl))) (mvT hZ (hw _ (List.mem_of_getElem? (i := 6) rfl))) (mvT hZ (hw _ (List.mem_of_getElem? (i := 7) rfl))) (by decide) (backOf (W := 1) (rm2 l Z a0 hw [] p1 h0 n0 Z0) hZ (hw _ (List.mem_of_getElem? (i := 7) rfl)) (hw _ (List.mem_of_getElem? (i := 6) rfl)) (by decide) (by decide)) (g := (mkF m 11 #[.val (.int p1), .val (.int p2), .val (.int (p2 &&& (255 : Int32))), .unset, .unset] [(.int p1), (.int (f1 p1))])) rfl (by rw [hml]; rfl) (argsL := [(.int p1)]) (rest := [(.int (f1 p1))]) (lenOf pd_0 rfl) rfl (by show 2 * 0 + _ ≤ _; exact Nat.le_of_eq rfl) (hb hby at_11) (fun _ _ => ⟨rfl, e1, (by decide : 0 + 0 ≤ _), (by decide : 0 + 0 ≤ _)⟩)
  dsimp only [Pt.U, Pt.locs, Pt.cells, Pt.slots] at X2 l2 y2 z2 st2 hQ2
  subst l2 y2 z2
  obtain ⟨rfl, N2q, e2⟩ := hQ2
  have N2 := Fr.app N1 N2q
  obtain ⟨v4, hv4⟩ : ∃ z : Int32, z = (if (f1 p1) = (f2 p1) then (1 : Int32) else (0 : Int32)) := ⟨_, rfl⟩
  have pre5 : ∀ t, Steps p.tables e below (T2.setTop (mkF m 22 #[.val (.int p1), .val (.int p2), .val (.int (p2 &&& (255 : Int32))), .unset, .unset] [(.int v4)])) t → Steps p.tables e below (s₁.setTop (entryFrame m #[(.int p1), (.int p2)] maxLocals)) t := fun t k => pre0 t (by
    show Steps p.tables e below (s₁.setTop (mkF m 0 #[.val (.int p1), .val (.int p2), .unset, .unset, .unset] [])) _
    refine XS.iloadN X0.here hx rfl (hb hby at_0) rfl ?_
    show Steps p.tables e below (s₁.setTop (mkF m 1 #[.val (.int p1), .val (.int p2), .unset, .unset, .unset] [(.int p2)])) _
    refine XS.sipush X0.here hx rfl (hb hby at_1) ?_
    show Steps p.tables e below (s₁.setTop (mkF m 4 #[.val (.int p1), .val (.int p2), .unset, .unset, .unset] [(.int (255 : Int32)), (.int p2)])) _
    refine XS.iand X0.here hx rfl (hb hby at_4) rfl ?_
    show Steps p.tables e below (s₁.setTop (mkF m 5 #[.val (.int p1), .val (.int p2), .unset, .unset, .unset] [(.int (p2 &&& (255 : Int32)))])) _
    refine XS.istoreN X0.here hx rfl (hb hby at_5) rfl (l' := #[.val (.int p1), .val (.int p2), .val (.int (p2 &&& (255 : Int32))), .unset, .unset]) rfl ?_
    show Steps p.tables e below (s₁.setTop (mkF m 6 #[.val (.int p1), .val (.int p2), .val (.int (p2 &&& (255 : Int32))), .unset, .unset] [])) _
    refine XS.iloadN X0.here hx rfl (hb hby at_6) rfl ?_
    show Steps p.tables e below (s₁.setTop (mkF m 7 #[.val (.int p1), .val (.int p2), .val (.int (p2 &&& (255 : Int32))), .unset, .unset] [(.int p1)])) _
    refine st1 _ ?_
    show Steps p.tables e below (T1.setTop (mkF m 10 #[.val (.int p1), .val (.int p2), .val (.int (p2 &&& (255 : Int32))), .unset, .unset] [(.int (f1 p1))])) _
    refine XS.iloadN X1.here hx rfl (hb hby at_10) rfl ?_
    show Steps p.tables e below (T1.setTop (mkF m 11 #[.val (.int p1), .val (.int p2), .val (.int (p2 &&& (255 : Int32))), .unset, .unset] [(.int p1), (.int (f1 p1))])) _
    refine st2 _ ?_
    show Steps p.tables e below (T2.setTop (mkF m 14 #[.val (.int p1), .val (.int p2), .val (.int (p2 &&& (255 : Int32))), .unset, .unset] [(.int (f2 p1)), (.int (f1 p1))])) _
    by_cases hc3 : (f1 p1) = (f2 p1)
    · refine XS.icmpNo X2.here hx rfl (hb hby at_14) rfl (teq hc3).2 ?_
      show Steps p.tables e below (T2.setTop (mkF m 17 #[.val (.int p1), .val (.int p2), .val (.int (p2 &&& (255 : Int32))), .unset, .unset] [])) _
      refine XS.iconst X2.here hx rfl (hb hby at_17) ?_
      show Steps p.tables e below (T2.setTop (mkF m 18 #[.val (.int p1), .val (.int p2), .val (.int (p2 &&& (255 : Int32))), .unset, .unset] [(.int (1 : Int32))])) _
      refine XS.goto X2.here hx rfl (pc0 := 18) (pc' := 22) rfl (hb hby at_18) (by decide) (by decide) ?_
      rw [show v4 = (1 : Int32) from hv4.trans (if_pos hc3)] at k
      exact k
    · refine XS.icmpYes X2.here hx rfl (pc0 := 14) (pc' := 21) rfl (hb hby at_14) rfl (feq hc3).2 (by decide) (by decide) ?_
      show Steps p.tables e below (T2.setTop (mkF m 21 #[.val (.int p1), .val (.int p2), .val (.int (p2 &&& (255 : Int32))), .unset, .unset] [])) _
      refine XS.iconst X2.here hx rfl (hb hby at_21) ?_
      rw [show v4 = (0 : Int32) from hv4.trans (if_neg hc3)] at k
      exact k)
  obtain ⟨_, _, ⟨T6, L6, k6, n6⟩, -, X6, ⟨Lc6, hQ6, l6, y6, z6⟩, st6⟩ := Jvm.LawKit.callS X2 hx (y := (⟨"com/example/tagwire/tagwire/formats/Binn", "isBasicType", "(I)Z"⟩ : MethodName)) hown (mvT hZ (hw _ (List.mem_of_getElem? (i := 0) rfl))) (mvT hZ (hw _ (List.mem_of_getElem? (i := 1) rfl))) (mvT hZ (hw _ (List.mem_of_getElem? (i := 2) rfl))) (mvT hZ (hw _ (List.mem_of_getElem? (i := 3) rfl))) (by decide) (backOf (W := 0) (rm1 l Z a0 hw [] (p2 &&& (255 : Int32)) h0 n0 Z0) hZ (hw _ (List.mem_of_getElem? (i := 3) rfl)) (hw _ (List.mem_of_getElem? (i := 2) rfl)) (by decide) (by decide)) (g := (mkF m 24 #[.val (.int p1), .val (.int p2), .val (.int (p2 &&& (255 : Int32))), .val (.int v4), .unset] [(.int (p2 &&& (255 : Int32)))])) rfl (by rw [hml]; rfl) (argsL := [(.int (p2 &&& (255 : Int32)))]) (rest := []) (lenOf pd_0 rfl) rfl (by show 2 * 0 + _ ≤ _; exact Nat.le_of_eq rfl) (hb hby at_24) (fun _ _ => ⟨rfl, e2, (by decide : 0 + 0 ≤ _), (by decide : 0 + 0 ≤ _)⟩)
  dsimp only [Pt.U, Pt.locs, Pt.cells, Pt.slots] at X6 l6 y6 z6 st6 hQ6
  subst l6 y6 z6
  obtain ⟨rfl, N6q, e6⟩ := hQ6
  have N6 := Fr.app N2 N6q
  obtain ⟨_, _, ⟨T7, L7, k7, n7⟩, -, X7, ⟨Lc7, hQ7, l7, y7, z7⟩, st7⟩ := Jvm.LawKit.callS X6 hx (y := (⟨"com/example/tagwire/tagwire/formats/BinnIsBasicTypePinLaw", "ref", "(I)Z"⟩ : MethodName)) hown (mvT hZ (hw _ (List.mem_of_getElem? (i := 4) rfl))) (mvT hZ (hw _ (List.mem_of_getElem? (i := 5) rfl))) (mvT hZ (hw _ (List.mem_of_getElem? (i := 6) rfl))) (mvT hZ (hw _ (List.mem_of_getElem? (i := 7) rfl))) (by decide) (backOf (W := 1) (rm2 l Z a0 hw [] (p2 &&& (255 : Int32)) h0 n0 Z0) hZ (hw _ (List.mem_of_getElem? (i := 7) rfl)) (hw _ (List.mem_of_getElem? (i := 6) rfl)) (by decide) (by decide)) (g := (mkF m 28 #[.val (.int p1), .val (.int p2), .val (.int (p2 &&& (255 : Int32))), .val (.int v4), .unset] [(.int (p2 &&& (255 : Int32))), (.int (f1 (p2 &&& (255 : Int32))))])) rfl (by rw [hml]; rfl) (argsL := [(.int (p2 &&& (255 : Int32)))]) (rest := [(.int (f1 (p2 &&& (255 : Int32))))]) (lenOf pd_0 rfl) rfl (by show 2 * 0 + _ ≤ _; exact Nat.le_of_eq rfl) (hb hby at_28) (fun _ _ => ⟨rfl, e6, (by decide : 0 + 0 ≤ _), (by decide : 0 + 0 ≤ _)⟩)
  dsimp only [Pt.U, Pt.locs, Pt.cells, Pt.slots] at X7 l7 y7 z7 st7 hQ7
  subst l7 y7 z7
  obtain ⟨rfl, N7q, e7⟩ := hQ7
  have N7 := Fr.app N6 N7q
  obtain ⟨v9, hv9⟩ : ∃ z : Int32, z = (if (f1 (p2 &&& (255 : Int32))) = (f2 (p2 &&& (255 : Int32))) then (1 : Int32) else (0 : Int32)) := ⟨_, rfl⟩
  have pre10 : ∀ t, Steps p.tables e below (T7.setTop (mkF m 39 #[.val (.int p1), .val (.int p2), .val (.int (p2 &&& (255 : Int32))), .val (.int v4), .unset] [(.int v9)])) t → Steps p.tables e below (s₁.setTop (entryFrame m #[(.int p1), (.int p2)] maxLocals)) t := fun t k => pre5 t (by
    show Steps p.tables e below (T2.setTop (mkF m 22 #[.val (.int p1), .val (.int p2), .val (.int (p2 &&& (255 : Int32))), .unset, .unset] [(.int v4)])) _
    refine XS.istoreN X2.here hx rfl (hb hby at_22) rfl (l' := #[.val (.int p1), .val (.int p2), .val (.int (p2 &&& (255 : Int32))), .val (.int v4), .unset]) rfl ?_
    show Steps p.tables e below (T2.setTop (mkF m 23 #[.val (.int p1), .val (.int p2), .val (.int (p2 &&& (255 : Int32))), .val (.int v4), .unset] [])) _
    refine XS.iloadN X2.here hx rfl (hb hby at_23) rfl ?_
    show Steps p.tables e below (T2.setTop (mkF m 24 #[.val (.int p1), .val (.int p2), .val (.int (p2 &&& (255 : Int32))), .val (.int v4), .unset] [(.int (p2 &&& (255 : Int32)))])) _
    refine st6 _ ?_
    show Steps p.tables e below (T6.setTop (mkF m 27 #[.val (.int p1), .val (.int p2), .val (.int (p2 &&& (255 : Int32))), .val (.int v4), .unset] [(.int (f1 (p2 &&& (255 : Int32))))])) _
    refine XS.iloadN X6.here hx rfl (hb hby at_27) rfl ?_
    show Steps p.tables e below (T6.setTop (mkF m 28 #[.val (.int p1), .val (.int p2), .val (.int (p2 &&& (255 : Int32))), .val (.int v4), .unset] [(.int (p2 &&& (255 : Int32))), (.int (f1 (p2 &&& (255 : Int32))))])) _
    refine st7 _ ?_
    show Steps p.tables e below (T7.setTop (mkF m 31 #[.val (.int p1), .val (.int p2), .val (.int (p2 &&& (255 : Int32))), .val (.int v4), .unset] [(.int (f2 (p2 &&& (255 : Int32)))), (.int (f1 (p2 &&& (255 : Int32))))])) _
    by_cases hc8 : (f1 (p2 &&& (255 : Int32))) = (f2 (p2 &&& (255 : Int32)))
    · refine XS.icmpNo X7.here hx rfl (hb hby at_31) rfl (teq hc8).2 ?_
      show Steps p.tables e below (T7.setTop (mkF m 34 #[.val (.int p1), .val (.int p2), .val (.int (p2 &&& (255 : Int32))), .val (.int v4), .unset] [])) _
      refine XS.iconst X7.here hx rfl (hb hby at_34) ?_
      show Steps p.tables e below (T7.setTop (mkF m 35 #[.val (.int p1), .val (.int p2), .val (.int (p2 &&& (255 : Int32))), .val (.int v4), .unset] [(.int (1 : Int32))])) _
      refine XS.goto X7.here hx rfl (pc0 := 35) (pc' := 39) rfl (hb hby at_35) (by decide) (by decide) ?_
      rw [show v9 = (1 : Int32) from hv9.trans (if_pos hc8)] at k
      exact k
    · refine XS.icmpYes X7.here hx rfl (pc0 := 31) (pc' := 38) rfl (hb hby at_31) rfl (feq hc8).2 (by decide) (by decide) ?_
      show Steps p.tables e below (T7.setTop (mkF m 38 #[.val (.int p1), .val (.int p2), .val (.int (p2 &&& (255 : Int32))), .val (.int v4), .unset] [])) _
      refine XS.iconst X7.here hx rfl (hb hby at_38) ?_
      rw [show v9 = (0 : Int32) from hv9.trans (if_neg hc8)] at k
      exact k)
  obtain ⟨v13, hv13⟩ : ∃ z : Int32, z = (if v4 = (0 : Int32) then (0 : Int32) else (if v9 = (0 : Int32) then (0 : Int32) else (1 : Int32))) := ⟨_, rfl⟩
  have pre14 : ∀ t, Steps p.tables e below (T7.setTop (mkF m 55 #[.val (.int p1), .val (.int p2), .val (.int (p2 &&& (255 : Int32))), .val (.int v4), .val (.int v9)] [(.int v13)])) t → Steps p.tables e below (s₁.setTop (entryFrame m #[(.int p1), (.int p2)] maxLocals)) t := fun t k => pre10 t (by
    show Steps p.tables e below (T7.setTop (mkF m 39 #[.val (.int p1), .val (.int p2), .val (.int (p2 &&& (255 : Int32))), .val (.int v4), .unset] [(.int v9)])) _
    refine XS.istore X7.here hx rfl (hb hby at_39) rfl (l' := #[.val (.int p1), .val (.int p2), .val (.int (p2 &&& (255 : Int32))), .val (.int v4), .val (.int v9)]) rfl ?_
    show Steps p.tables e below (T7.setTop (mkF m 41 #[.val (.int p1), .val (.int p2), .val (.int (p2 &&& (255 : Int32))), .val (.int v4), .val (.int v9)] [])) _
    refine XS.iloadN X7.here hx rfl (hb hby at_41) rfl ?_
    show Steps p.tables e below (T7.setTop (mkF m 42 #[.val (.int p1), .val (.int p2), .val (.int (p2 &&& (255 : Int32))), .val (.int v4), .val (.int v9)] [(.int v4)])) _
    by_cases hc11 : v4 = (0 : Int32)
    · refine XS.ifYes X7.here hx rfl (pc0 := 42) (pc' := 54) rfl (hb hby at_42) rfl ((if0 _ _).trans (teq hc11).1) (by decide) (by decide) ?_
      show Steps p.tables e below (T7.setTop (mkF m 54 #[.val (.int p1), .val (.int p2), .val (.int (p2 &&& (255 : Int32))), .val (.int v4), .val (.int v9)] [])) _
      refine XS.iconst X7.here hx rfl (hb hby at_54) ?_
      rw [show v13 = (0 : Int32) from hv13.trans (if_pos hc11)] at k
      exact k
    · refine XS.ifNo X7.here hx rfl (hb hby at_42) rfl ((if0 _ _).trans (feq hc11).1) ?_
      show Steps p.tables e below (T7.setTop (mkF m 45 #[.val (.int p1), .val (.int p2), .val (.int (p2 &&& (255 : Int32))), .val (.int v4), .val (.int v9)] [])) _
      refine XS.iload X7.here hx rfl (hb hby at_45) rfl ?_
      show Steps p.tables e below (T7.setTop (mkF m 47 #[.val (.int p1), .val (.int p2), .val (.int (p2 &&& (255 : Int32))), .val (.int v4), .val (.int v9)] [(.int v9)])) _
      by_cases hc12 : v9 = (0 : Int32)
      · refine XS.ifYes X7.here hx rfl (pc0 := 47) (pc' := 54) rfl (hb hby at_47) rfl ((if0 _ _).trans (teq hc12).1) (by decide) (by decide) ?_
        show Steps p.tables e below (T7.setTop (mkF m 54 #[.val (.int p1), .val (.int p2), .val (.int (p2 &&& (255 : Int32))), .val (.int v4), .val (.int v9)] [])) _
        refine XS.iconst X7.here hx rfl (hb hby at_54) ?_
        rw [show v13 = (0 : Int32) from hv13.trans ((if_neg hc11).trans (if_pos hc12))] at k
        exact k
      · refine XS.ifNo X7.here hx rfl (hb hby at_47) rfl ((if0 _ _).trans (feq hc12).1) ?_
        show Steps p.tables e below (T7.setTop (mkF m 50 #[.val (.int p1), .val (.int p2), .val (.int (p2 &&& (255 : Int32))), .val (.int v4), .val (.int v9)] [])) _
        refine XS.iconst X7.here hx rfl (hb hby at_50) ?_
        show Steps p.tables e below (T7.setTop (mkF m 51 #[.val (.int p1), .val (.int p2), .val (.int (p2 &&& (255 : Int32))), .val (.int v4), .val (.int v9)] [(.int (1 : Int32))])) _
        refine XS.goto X7.here hx rfl (pc0 := 51) (pc' := 55) rfl (hb hby at_51) (by decide) (by decide) ?_
        rw [show v13 = (1 : Int32) from hv13.trans ((if_neg hc11).trans (if_neg hc12))] at k
        exact k)
  have er : (f0 p1 p2) = (nar .boolean v13) := by subst hv4 hv9 hv13; exact rfl
  obtain ⟨fs, hr, hrun, hended, hW, hsame⟩ := X7.leave (v := some (.int (nar .boolean v13))) (fun h => by rw [Bd.returns] at h; cases h)
  refine ⟨_, _, pre14 _ ?_, hrun, hended, _, _, rfl, ?_, ⟨_, rfl⟩, hW, hsame.mono (by decide) (by decide)⟩
  · show Steps p.tables e below (T7.setTop (mkF m 55 #[.val (.int p1), .val (.int p2), .val (.int (p2 &&& (255 : Int32))), .val (.int v4), .val (.int v9)] [(.int v13)])) _
    exact retN X7 hx (t := .boolean) Bd.returns (by simp) (hb hby at_55) hr
  · show Q0 Z p1 p2 h0 n0 _ T7.heap _
    rw [e7]
    exact ⟨congrArg (fun z => some (Value.int z)) er.symm, N7, rfl⟩
theorem own_nat {c : Int32} (n : Nat) (h0 : 0 ≤ c.toInt) (h1 : c.toInt < n) : ∃ k : Nat, k < n ∧ c = Int32.ofInt k :=
  ⟨c.toInt.toNat, by omega, by rw [Int.toNat_of_nonneg h0, Int32.ofInt_toInt]⟩
theorem own_i2c (x : Int32) : 0 ≤ (x.toUInt32.toUInt16.toUInt32.toInt32).toInt ∧ (x.toUInt32.toUInt16.toUInt32.toInt32).toInt < 65536 := by
  have h : (decide ((0 : Int32) ≤ x.toUInt32.toUInt16.toUInt32.toInt32) && decide (x.toUInt32.toUInt16.toUInt32.toInt32 ≤ (65535 : Int32))) = true := fits_nar_char x
  rw [Bool.and_eq_true, decide_eq_true_eq, decide_eq_true_eq, Int32.le_iff_toInt_le, Int32.le_iff_toInt_le] at h
  have e1 : (0 : Int32).toInt = 0 := by decide
  have e2 : (65535 : Int32).toInt = 65535 := by decide
  omega
theorem own_nb (c : Prop) [Decidable c] : nar .boolean (if c then (1 : Int32) else 0) = if c then 1 else 0 := by
  by_cases h : c
  · rw [if_pos h]; decide
  · rw [if_neg h]; decide

theorem own_key (t : Int32) : f1 t = f2 t := by
  have e0 : (0 : Int32).toInt = 0 := by decide
  have e255 : (255 : Int32).toInt = 255 := by decide
  by_cases h : t < (0 : Int32)
  · have ne : ∀ c : Int32, 0 ≤ c.toInt → ¬ t = c := fun c hc q => by
      subst q; rw [Int32.lt_iff_toInt_lt] at h; omega
    have e2 : f2 t = 0 := by unfold f2; rw [if_pos h]
    rw [e2]; unfold f1
    repeat rw [if_neg (ne _ (by decide))]
    decide
  · by_cases h' : (255 : Int32) < t
    · have ne : ∀ c : Int32, c.toInt ≤ 255 → ¬ t = c := fun c hc q => by
        subst q; rw [Int32.lt_iff_toInt_lt] at h'; omega
      have e2 : f2 t = 0 := by unfold f2; rw [if_neg h, if_pos h']
      rw [e2]; unfold f1
      repeat rw [if_neg (ne _ (by decide))]
      decide
    · rw [Int32.lt_iff_toInt_lt] at h h'
      obtain ⟨k, hk, rfl⟩ := own_nat (c := t) 256 (by omega) (by omega)
      exact (by decide +kernel : ∀ k : Nat, k < 256 → f1 (Int32.ofInt k) = f2 (Int32.ofInt k)) k hk
theorem own_law (p1 p2 : Int32) : f0 p1 p2 = 1 := by
  unfold f0
  rw [if_pos (own_key _), if_pos (own_key _)]
  decide
set_option maxRecDepth 65536 in
set_option maxHeartbeats 40000000 in
theorem comes_1 {Post : Tables → Env → Array Value → State → Outcome → State → Prop} (hpost : ∀ tb e args s v u, (limb_1_1.after args s (.returned v) u = true ∧ limb_1_2.after args s (.returned v) u = true ∧ True) → FrameEnd s (.returned v) u (Jvm.fieldLocs frame_1_writes args s ++ Jvm.arrayLocs frame_1_arrays args s ++ Jvm.staticLocs frame_1_statics s) 0 0 → Post tb e args s (.returned v) u) :
    ArmFor flags0 classFile x code maxLocals ret World_1 tables_1 room_1 Calls_1 rest_1 Pre_1 Post := by
  intro l hfl _ _ p e ha hc hk s m args below hf hA hF happ hP
  obtain ⟨hcalls, hrest, hpre⟩ := hP
  obtain ⟨-, -, -, hnamed, -, -, -, hat⟩ := (Spec.applies_iff hf).mp happ
  obtain ⟨hg, hn⟩ := and_e (Cond.before_iff.mp (show (Jvm.Cond.and given_1 narrow_1).before args s = true from hpre))
  obtain ⟨g1, g2⟩ := and_e hg
  obtain ⟨g3, g4⟩ := and_e g2
  obtain ⟨w0, w1, rfl⟩ : ∃ w0 w1 : Value, args = #[w0, w1] := by
    have hs : args.size = 2 := by simpa [Cond.value, given_1] using g1
    obtain ⟨L⟩ := args
    match L, hs with
    | [w0, w1], _ => exact ⟨w0, w1, rfl⟩
  have hw := fun d (hd : d ∈ tables_1) => atoms_spec (ws := Jvm.Cond.code x code maxLocals ret :: tables_1) hat d (List.mem_cons_of_mem _ hd)
  obtain ⟨i0, ei0⟩ := is_v g3
  obtain rfl : w0 = (.int i0) := Option.some.inj ei0
  obtain ⟨i1, ei1⟩ := is_v g4
  obtain rfl : w1 = (.int i1) := Option.some.inj ei1
  obtain ⟨n, o, h1, h2, h3, _, L, rfl, ⟨rfl, N, -⟩, hq⟩ := rm0 l s _ hw tables_1 i0 i1 s.heap s.heap.size (Nat.le_refl _) p e ha hc hk s m _ below hf ((Spec.applies_iff_loose hf).mp happ).1 ⟨rfl, State.Warmed39.refl s, rfl⟩ trivial
  refine ⟨n, _, h1, h2, h3, hpost _ _ _ _ _ _ ⟨Cond.after_iff.mpr rfl, Cond.after_iff.mpr (eq_i res_at (Term.int_eval (1)) (congrArg Value.int (own_law i0 i1))), trivial⟩ ⟨hq.1, hq.2.1, (hq.2.2.sift fun y hy => Or.inr (N y hy)).mono (by decide) (by decide)⟩⟩
theorem main_1_1 : Claimed_1_1 := comes_1 fun _ _ _ _ _ _ h hF => ⟨h.1, hF⟩
theorem main_1_2 : Claimed_1_2 := comes_1 fun _ _ _ _ _ _ h hF => ⟨h.2.1, hF⟩
end Jvm.Pilot.@@N@@
namespace Jvm.Pilot.@@N@@
open Jvm Jvm.ClassFile Sem Op Lib Jvm.Free Jvm.Stand Jvm.Pilot.@@N@@.Jvm.D
/-! MADE BY PROGRAM (witnessworld.py) out of the Statement's table words and the real class files: 9 classes; the members and pool entries that the words name. The judged class is class 1, her method 2. -/
namespace start1
open Jvm.ClassFile
def u (s : String) : CpInfo := .utf8 (stringToUtf16 s)
/-- a pool by its gaps: so many unusable entries, then the entry; so many at the end -/
def gap : Nat → List CpInfo → List CpInfo
  | 0, r => r
  | n + 1, r => .unusable :: gap n r
def poolList (es : List (Nat × CpInfo)) (last : Nat) : List CpInfo := es.foldr (fun e r => gap e.1 (e.2 :: r)) (gap last [])
def pool (es : List (Nat × CpInfo)) (last : Nat) : Array CpInfo := ⟨poolList es last⟩
def fileOf (pool : Array CpInfo) (this : Nat) (attrs : Array Attribute := #[]) (ms : Array MethodInfo := #[]) (fl : Nat := 33) (sup : Nat := 0) (ifs : Array Nat := #[]) (fds : Array FieldInfo := #[]) : ClassFile where
  minorVersion := 0
  majorVersion := 65
  constantPool := pool
  accessFlags := fl
  thisClass := this
  superClass := sup
  interfaces := ifs
  fields := fds
  methods := ms
  attributes := attrs
def plain (name : String) (sup : Option ClassId) : Class where
  name := name
  kind := .ordinary
  loader := none
  accessFlags := 33
  super := sup
  interfaces := #[]
  cf := none
  fields := #[]
  methods := #[]
  instanceTypes := #[]
  staticTypes := #[]
  resolved := #[]
  callSites := []
  init := .initialized
  statics := none
  mirror := none

def pool0 : Array CpInfo := pool [(5, u "<init>"), (0, u "()V"), (1, .class_ 10), (1, u "java/lang/Object")] 113

def k0m0 : Method := { name := "<init>", desc := "()V", sig := { parameters := [], returnType := none }, accessFlags := 1, code := none }
/-- java/lang/Object -/
def k0 : Class := { plain "java/lang/Object" none with
  accessFlags := 33
  interfaces := #[]
  cf := some (fileOf pool0 8 #[] #[{ accessFlags := 1, nameIndex := 5, descriptorIndex := 6, attributes := #[] }] 33 0 #[] #[])
  fields := #[]
  methods := #[k0m0]
  instanceTypes := #[]
  staticTypes := #[]
  resolved := Array.replicate 124 none
  statics := none }

def pool1 : Array CpInfo := pool [(2, .class_ 4), (1, u "java/lang/Object"), (0, u "<init>"), (0, u "()V"), (0, .methodref 8 9), (0, .class_ 10), (0, .nameAndType 11 12), (0, u "com/example/tagwire/tagwire/formats/Binn"), (0, u "isBasicType"), (0, u "(I)Z"), (0, .methodref 14 15), (0, .class_ 16), (0, .nameAndType 17 12), (0, u "com/example/tagwire/tagwire/formats/BinnIsBasicTypePinLaw"), (0, u "ref"), (3, u "law"), (0, u "(II)Z")] 2

def k1m0 : Method := { name := "<init>", desc := "()V", sig := { parameters := [], returnType := none }, accessFlags := 2, code := none }
def k1c1 : Code := { maxStack := 2, maxLocals := 4, code := method_2_code, exceptionTable := #[], attributes := #[] }
def k1m1 : Method := { name := "ref", desc := "(I)Z", sig := { parameters := [.int], returnType := some .boolean }, accessFlags := 10, code := some k1c1 }
def k1c2 : Code := { maxStack := 2, maxLocals := 5, code := code, exceptionTable := #[], attributes := #[] }
def k1m2 : Method := { name := "law", desc := "(II)Z", sig := { parameters := [.int, .int], returnType := some .boolean }, accessFlags := 9, code := some k1c2 }
/-- com/example/tagwire/tagwire/formats/BinnIsBasicTypePinLaw -/
def k1 : Class := { plain "com/example/tagwire/tagwire/formats/BinnIsBasicTypePinLaw" (some 0) with
  accessFlags := 49
  interfaces := #[]
  cf := some (fileOf pool1 14 #[] #[{ accessFlags := 2, nameIndex := 5, descriptorIndex := 6, attributes := #[] }, { accessFlags := 10, nameIndex := 17, descriptorIndex := 12, attributes := #[] }, { accessFlags := 9, nameIndex := 21, descriptorIndex := 22, attributes := #[] }] 49 2 #[] #[])
  fields := #[]
  methods := #[k1m0, k1m1, k1m2]
  instanceTypes := #[]
  staticTypes := #[]
  resolved := Array.replicate 25 none
  statics := none }

def pool2 : Array CpInfo := pool [(4, .class_ 6), (1, u "java/lang/Object"), (0, u "<init>"), (0, u "()V"), (1, .class_ 12), (1, u "com/example/tagwire/tagwire/formats/Binn$Storage"), (2, .class_ 16), (0, u "com/example/tagwire/tagwire/formats/Binn"), (1, u "NULL"), (0, u "I"), (2, u "TRUE"), (1, u "FALSE"), (1, u "UINT8"), (1, u "INT8"), (1, u "UINT16"), (1, u "INT16"), (1, u "UINT32"), (1, u "INT32"), (1, u "FLOAT32"), (1, u "UINT64"), (1, u "INT64"), (1, u "FLOAT64"), (1, u "STRING"), (1, u "BLOB"), (1, u "LIST"), (1, u "MAP"), (1, u "OBJECT"), (1, u "WIDE_TYPE"), (1, u "MAX_SHORT_SIZE"), (1, u "LONG_SIZE"), (0, u "LONG_SIZE_BYTES"), (1, u "MAX_SIZE"), (1, u "MAX_KEY_BYTES"), (1, u "INT32_KEY_BYTES"), (0, u "MAX_SHORT_KEY"), (1, u "SHORT_KEY_SIGN"), (0, u "KEY_BYTES_2"), (0, u "KEY_BYTES_3"), (0, u "KEY_BYTES_4"), (0, u "FULL_KEY"), (0, u "KEY_FORM"), (0, u "KEY_SIGN"), (0, u "KEY_TOP_BITS"), (1, u "KEY_TOP_BIT_COUNT"), (0, u "OTHER_CONTAINERS"), (0, u "Ljava/lang/String;"), (8, u "(I)Z"), (0, u "isBasicType")] 8

def k2m0 : Method := { name := "<init>", desc := "()V", sig := { parameters := [], returnType := none }, accessFlags := 2, code := none }
def k2c1 : Code := { maxStack := 1, maxLocals := 1, code := prog_51_method_4_code, exceptionTable := #[], attributes := #[] }
def k2m1 : Method := { name := "isBasicType", desc := "(I)Z", sig := { parameters := [.int], returnType := some .boolean }, accessFlags := 8, code := some k2c1 }
/-- com/example/tagwire/tagwire/formats/Binn -/
def k2 : Class := { plain "com/example/tagwire/tagwire/formats/Binn" (some 0) with
  accessFlags := 48
  interfaces := #[]
  cf := some (fileOf pool2 15 #[.nestMembers #[10]] #[{ accessFlags := 2, nameIndex := 7, descriptorIndex := 8, attributes := #[] }, { accessFlags := 8, nameIndex := 91, descriptorIndex := 90, attributes := #[] }] 48 4 #[] #[{ accessFlags := 24, nameIndex := 18, descriptorIndex := 19, attributes := #[] }, { accessFlags := 24, nameIndex := 22, descriptorIndex := 19, attributes := #[] }, { accessFlags := 24, nameIndex := 24, descriptorIndex := 19, attributes := #[] }, { accessFlags := 24, nameIndex := 26, descriptorIndex := 19, attributes := #[] }, { accessFlags := 24, nameIndex := 28, descriptorIndex := 19, attributes := #[] }, { accessFlags := 24, nameIndex := 30, descriptorIndex := 19, attributes := #[] }, { accessFlags := 24, nameIndex := 32, descriptorIndex := 19, attributes := #[] }, { accessFlags := 24, nameIndex := 34, descriptorIndex := 19, attributes := #[] }, { accessFlags := 24, nameIndex := 36, descriptorIndex := 19, attributes := #[] }, { accessFlags := 24, nameIndex := 38, descriptorIndex := 19, attributes := #[] }, { accessFlags := 24, nameIndex := 40, descriptorIndex := 19, attributes := #[] }, { accessFlags := 24, nameIndex := 42, descriptorIndex := 19, attributes := #[] }, { accessFlags := 24, nameIndex := 44, descriptorIndex := 19, attributes := #[] }, { accessFlags := 24, nameIndex := 46, descriptorIndex := 19, attributes := #[] }, { accessFlags := 24, nameIndex := 48, descriptorIndex := 19, attributes := #[] }, { accessFlags := 24, nameIndex := 50, descriptorIndex := 19, attributes := #[] }, { accessFlags := 24, nameIndex := 52, descriptorIndex := 19, attributes := #[] }, { accessFlags := 24, nameIndex := 54, descriptorIndex := 19, attributes := #[] }, { accessFlags := 24, nameIndex := 56, descriptorIndex := 19, attributes := #[] }, { accessFlags := 24, nameIndex := 58, descriptorIndex := 19, attributes := #[] }, { accessFlags := 24, nameIndex := 60, descriptorIndex := 19, attributes := #[] }, { accessFlags := 24, nameIndex := 61, descriptorIndex := 19, attributes := #[] }, { accessFlags := 24, nameIndex := 63, descriptorIndex := 19, attributes := #[] }, { accessFlags := 24, nameIndex := 65, descriptorIndex := 19, attributes := #[] }, { accessFlags := 24, nameIndex := 67, descriptorIndex := 19, attributes := #[] }, { accessFlags := 24, nameIndex := 68, descriptorIndex := 19, attributes := #[] }, { accessFlags := 24, nameIndex := 70, descriptorIndex := 19, attributes := #[] }, { accessFlags := 24, nameIndex := 71, descriptorIndex := 19, attributes := #[] }, { accessFlags := 24, nameIndex := 72, descriptorIndex := 19, attributes := #[] }, { accessFlags := 24, nameIndex := 73, descriptorIndex := 19, attributes := #[] }, { accessFlags := 24, nameIndex := 74, descriptorIndex := 19, attributes := #[] }, { accessFlags := 24, nameIndex := 75, descriptorIndex := 19, attributes := #[] }, { accessFlags := 24, nameIndex := 76, descriptorIndex := 19, attributes := #[] }, { accessFlags := 24, nameIndex := 77, descriptorIndex := 19, attributes := #[] }, { accessFlags := 24, nameIndex := 79, descriptorIndex := 19, attributes := #[] }, { accessFlags := 24, nameIndex := 80, descriptorIndex := 81, attributes := #[] }])
  fields := #[{ name := "NULL", type := .int, accessFlags := 24, slot := 0, constantValue := 0 }, { name := "TRUE", type := .int, accessFlags := 24, slot := 1, constantValue := 0 }, { name := "FALSE", type := .int, accessFlags := 24, slot := 2, constantValue := 0 }, { name := "UINT8", type := .int, accessFlags := 24, slot := 3, constantValue := 0 }, { name := "INT8", type := .int, accessFlags := 24, slot := 4, constantValue := 0 }, { name := "UINT16", type := .int, accessFlags := 24, slot := 5, constantValue := 0 }, { name := "INT16", type := .int, accessFlags := 24, slot := 6, constantValue := 0 }, { name := "UINT32", type := .int, accessFlags := 24, slot := 7, constantValue := 0 }, { name := "INT32", type := .int, accessFlags := 24, slot := 8, constantValue := 0 }, { name := "FLOAT32", type := .int, accessFlags := 24, slot := 9, constantValue := 0 }, { name := "UINT64", type := .int, accessFlags := 24, slot := 10, constantValue := 0 }, { name := "INT64", type := .int, accessFlags := 24, slot := 11, constantValue := 0 }, { name := "FLOAT64", type := .int, accessFlags := 24, slot := 12, constantValue := 0 }, { name := "STRING", type := .int, accessFlags := 24, slot := 13, constantValue := 0 }, { name := "BLOB", type := .int, accessFlags := 24, slot := 14, constantValue := 0 }, { name := "LIST", type := .int, accessFlags := 24, slot := 15, constantValue := 0 }, { name := "MAP", type := .int, accessFlags := 24, slot := 16, constantValue := 0 }, { name := "OBJECT", type := .int, accessFlags := 24, slot := 17, constantValue := 0 }, { name := "WIDE_TYPE", type := .int, accessFlags := 24, slot := 18, constantValue := 0 }, { name := "MAX_SHORT_SIZE", type := .int, accessFlags := 24, slot := 19, constantValue := 0 }, { name := "LONG_SIZE", type := .int, accessFlags := 24, slot := 20, constantValue := 0 }, { name := "LONG_SIZE_BYTES", type := .int, accessFlags := 24, slot := 21, constantValue := 0 }, { name := "MAX_SIZE", type := .int, accessFlags := 24, slot := 22, constantValue := 0 }, { name := "MAX_KEY_BYTES", type := .int, accessFlags := 24, slot := 23, constantValue := 0 }, { name := "INT32_KEY_BYTES", type := .int, accessFlags := 24, slot := 24, constantValue := 0 }, { name := "MAX_SHORT_KEY", type := .int, accessFlags := 24, slot := 25, constantValue := 0 }, { name := "SHORT_KEY_SIGN", type := .int, accessFlags := 24, slot := 26, constantValue := 0 }, { name := "KEY_BYTES_2", type := .int, accessFlags := 24, slot := 27, constantValue := 0 }, { name := "KEY_BYTES_3", type := .int, accessFlags := 24, slot := 28, constantValue := 0 }, { name := "KEY_BYTES_4", type := .int, accessFlags := 24, slot := 29, constantValue := 0 }, { name := "FULL_KEY", type := .int, accessFlags := 24, slot := 30, constantValue := 0 }, { name := "KEY_FORM", type := .int, accessFlags := 24, slot := 31, constantValue := 0 }, { name := "KEY_SIGN", type := .int, accessFlags := 24, slot := 32, constantValue := 0 }, { name := "KEY_TOP_BITS", type := .int, accessFlags := 24, slot := 33, constantValue := 0 }, { name := "KEY_TOP_BIT_COUNT", type := .int, accessFlags := 24, slot := 34, constantValue := 0 }, { name := "OTHER_CONTAINERS", type := (.object "java/lang/String"), accessFlags := 24, slot := 35, constantValue := 0 }]
  methods := #[k2m0, k2m1]
  instanceTypes := #[]
  staticTypes := #[.int, .int, .int, .int, .int, .int, .int, .int, .int, .int, .int, .int, .int, .int, .int, .int, .int, .int, .int, .int, .int, .int, .int, .int, .int, .int, .int, .int, .int, .int, .int, .int, .int, .int, .int, (.object "java/lang/String")]
  resolved := Array.replicate 100 none
  statics := none }

def pool3 : Array CpInfo := pool [(1, u "java/lang/Cloneable"), (0, .class_ 1), (0, u "java/lang/Object"), (0, .class_ 3)] 3

/-- java/lang/Cloneable -/
def k3 : Class := { plain "java/lang/Cloneable" (some 0) with
  accessFlags := 1537
  interfaces := #[]
  cf := some (fileOf pool3 2 #[] #[] 1537 4 #[] #[])
  fields := #[]
  methods := #[]
  instanceTypes := #[]
  staticTypes := #[]
  resolved := Array.replicate 8 none
  statics := none }

def pool4 : Array CpInfo := pool [(1, u "java/io/Serializable"), (0, .class_ 1), (0, u "java/lang/Object"), (0, .class_ 3)] 3

/-- java/io/Serializable -/
def k4 : Class := { plain "java/io/Serializable" (some 0) with
  accessFlags := 1537
  interfaces := #[]
  cf := some (fileOf pool4 2 #[] #[] 1537 4 #[] #[])
  fields := #[]
  methods := #[]
  instanceTypes := #[]
  staticTypes := #[]
  resolved := Array.replicate 8 none
  statics := none }

/-- the primitive byte -/
def k5 : Class := { plain "byte" none with kind := .primitive 'B', accessFlags := 0x411 }
/-- [B -/
def k6 : Class := { plain "[B" (some 0) with kind := .array 5 .byte, interfaces := #[3, 4], accessFlags := 1041 }

/-- the primitive int -/
def k7 : Class := { plain "int" none with kind := .primitive 'I', accessFlags := 0x411 }
/-- [I -/
def k8 : Class := { plain "[I" (some 0) with kind := .array 7 .int, interfaces := #[3, 4], accessFlags := 1041 }

def heap : Heap := #[]
def classes : Array Class := #[k0, k1, k2, k3, k4, k5, k6, k7, k8]
def interned : List (Array UInt16 × Addr) := []
def slotsUsed : Nat := 0
def theMethod : MethodId := ⟨1, 2⟩
def args0 : Array Value := #[.int 300, .int 64]
def aboutOver (below : List Frame) : State where
  vm := { classes := classes, interned := interned.toArray }
  heap := heap
  slotsUsed := slotsUsed
  threads := #[{ frames := .invoking theMethod args0 :: below }]
def below0 : List Frame := [.native { method := ⟨0, 0⟩, args := #[] }]
def about1 : State := aboutOver below0
def p0 : Program := .bare "" "" ""
def e0 : Env := launch0.env 0 0 0
theorem w_frames : about1.frames = Frame.invoking theMethod args0 :: below0 := rfl
set_option maxRecDepth 65536 in
theorem w_args : argsFit about1.vm theMethod args0 = true := by decide +kernel
set_option maxRecDepth 65536 in
theorem w_heap : heapFits about1 = true := by decide +kernel
set_option maxRecDepth 65536 in
theorem w_runnable : about1.curStatus? = some .runnable := by decide +kernel
set_option maxRecDepth 65536 in
theorem w_alone : about1.alone = true := by decide +kernel
set_option maxRecDepth 65536 in
theorem w_named : about1.methodNamed? x = some theMethod := by decide +kernel
set_option maxRecDepth 65536 in
theorem w_hears : about1.hears theMethod below0 = true := by decide +kernel
set_option maxRecDepth 65536 in
theorem w_ripe : about1.ripe theMethod args0 below0 = true := by decide +kernel
theorem w_running : about1.status = .running := rfl
set_option maxRecDepth 65536 in
theorem w_room : about1.hasRoom e0.platform room_1 = true :=
  launch0.hasRoom_least _ room_1 (by decide +kernel) (by decide +kernel) (by decide +kernel) (by decide +kernel) (by decide +kernel) (by decide +kernel)
theorem allAtoms_all (ts : List Jvm.Cond) (a : Array Jvm.Value) (st : Jvm.State) : (allAtoms ts).before a st = ts.all (fun c => c.before a st) := by
  induction ts with
  | nil => rfl
  | cons c t ih =>
    show (Jvm.Cond.and c (allAtoms t)).before a st = _
    rw [Jvm.Cond.before_and, ih, List.all_cons]
def words1 : List Jvm.Cond := Jvm.Cond.code x code maxLocals ret :: tables_1
/-- a 'code' word, met by the world's own term for the bytes: nothing is compared byte by byte -/
theorem code_word {y : MethodName} {bytes : ByteArray} {mx : Nat} {rt : Option FieldType} {a : Array Value} {s : State} {m : MethodId} {meth : Method} {c : Code} (h1 : s.methodNamed? y = some m) (h2 : s.vm.method? m = some meth) (h3 : meth.code = some c) (h4 : c.code = bytes)
    (h5 : (c.maxLocals == mx && c.exceptionTable.isEmpty && decide (c.maxStack ≤ mostOperands) && decide (meth.sig.returnType = rt) && !meth.locks && decide (parseMethodDescriptor y.desc = some meth.sig)) = true) : (Jvm.Cond.code y bytes mx rt).before a s = true := by
  simp only [Bool.and_eq_true, beq_iff_eq, Bool.not_eq_true', decide_eq_true_eq] at h5
  obtain ⟨⟨⟨⟨⟨g1, g2⟩, g3⟩, g4⟩, g5⟩, g6⟩ := h5
  simp [Cond.before, Cond.holds, Cond.value, h1, h2, h3, h4, g1, g2, g3, g4, g5, g6]
def isCode : Jvm.Cond → Bool
  | .code _ _ _ _ => true
  | _ => false
theorem all_split {L : List Jvm.Cond} {P : Jvm.Cond → Bool} (h1 : L.all (fun c => isCode c || P c) = true) (h2 : ∀ c ∈ L.filter isCode, P c = true) : L.all P = true := by
  refine List.all_eq_true.mpr fun c hc => ?_
  have h := List.all_eq_true.mp h1 c hc
  rcases Bool.eq_false_or_eq_true (isCode c) with hi | hi
  · exact h2 c (List.mem_filter.mpr ⟨hc, hi⟩)
  · simpa [hi] using h
set_option maxRecDepth 65536 in
theorem w_c0 : (Jvm.Cond.code x code maxLocals ret).before args0 about1 = true := code_word (m := ⟨1, 2⟩) (meth := k1m2) (c := k1c2) (by decide +kernel) rfl rfl rfl (by decide +kernel)
set_option maxRecDepth 65536 in
theorem w_c1 : (Jvm.Cond.code ({ cls := "com/example/tagwire/tagwire/formats/Binn", name := "isBasicType", desc := "(I)Z" } : Jvm.MethodName) prog_51_method_4_code (1 : Nat) (Option.some Jvm.ClassFile.FieldType.boolean)).before args0 about1 = true := code_word (m := ⟨2, 1⟩) (meth := k2m1) (c := k2c1) (by decide +kernel) rfl rfl rfl (by decide +kernel)
set_option maxRecDepth 65536 in
theorem w_c2 : (Jvm.Cond.code ({ cls := "com/example/tagwire/tagwire/formats/BinnIsBasicTypePinLaw", name := "ref", desc := "(I)Z" } : Jvm.MethodName) method_2_code (4 : Nat) (Option.some Jvm.ClassFile.FieldType.boolean)).before args0 about1 = true := code_word (m := ⟨1, 1⟩) (meth := k1m1) (c := k1c1) (by decide +kernel) rfl rfl rfl (by decide +kernel)
def codes1 : List Jvm.Cond := [Jvm.Cond.code x code maxLocals ret, Jvm.Cond.code ({ cls := "com/example/tagwire/tagwire/formats/Binn", name := "isBasicType", desc := "(I)Z" } : Jvm.MethodName) prog_51_method_4_code (1 : Nat) (Option.some Jvm.ClassFile.FieldType.boolean), Jvm.Cond.code ({ cls := "com/example/tagwire/tagwire/formats/BinnIsBasicTypePinLaw", name := "ref", desc := "(I)Z" } : Jvm.MethodName) method_2_code (4 : Nat) (Option.some Jvm.ClassFile.FieldType.boolean)]
set_option maxRecDepth 65536 in
theorem codes_eq : words1.filter isCode = codes1 := rfl
theorem w_codes : ∀ c ∈ words1.filter isCode, c.before args0 about1 = true := by
  rw [codes_eq]
  intro c hc
  simp only [codes1, List.mem_cons, List.not_mem_nil, or_false] at hc
  rcases hc with rfl | rfl | rfl
  · exact w_c0
  · exact w_c1
  · exact w_c2
set_option maxRecDepth 65536 in
theorem w_t1 : words1.all (fun c => isCode c || c.before args0 about1) = true := by decide +kernel
theorem w_tables : (allAtoms (Jvm.Cond.code x code maxLocals ret :: tables_1)).before args0 about1 = true := by
  rw [allAtoms_all]
  show words1.all (fun c => c.before args0 about1) = true
  refine all_split ?_ w_codes
  rw [w_t1]
set_option maxRecDepth 65536 in
theorem w_case : (Jvm.Cond.and given_1 narrow_1).before args0 about1 = true := by decide +kernel
theorem w_applies : (headSpec (Jvm.Cond.code x code maxLocals ret :: tables_1) room_1).applies x e0.platform about1 = true :=
  (Spec.applies_iff w_frames).mpr ⟨w_running, w_runnable, w_alone, w_named, w_hears, w_ripe, w_room, w_tables⟩
theorem atStart : AtStart classFile x code maxLocals ret World_1 tables_1 room_1 Calls_1 rest_1 Pre_1 launch0 p0 e0 about1 theMethod args0 below0 :=
  ⟨lists_1, trivial, launch0.admits_env _ _ _, launch0.least_env, fairChoices_fair.cas, fairChoices_fair.clock, w_frames, w_args, w_heap, w_applies, trivial, trivial, w_case⟩
end start1
theorem witness_1 : WitnessClaimed_1 := ⟨start1.p0, start1.e0, start1.about1, start1.theMethod, start1.args0, start1.below0, start1.atStart⟩
end Jvm.Pilot.@@N@@
