import JvmDerived
import JvmDerived.Pilot.@@N@@Statement
import JvmDerived.Pilot.@@N@@Code
set_option linter.unusedVariables false
set_option linter.unusedSimpArgs false
namespace Jvm.RoadKit
open Sem ClassFile Op Lib Jvm.Stand Jvm.Free Jvm.LawKit
section New
variable {p : Program} {l : Launch} {e : Env} {R : Room} {s : State} {m : MethodId} {args : Array Value} {below : List Frame} {meth : Method} {c : Code} {T : State} {locs : List Loc} {cells slots : Nat}
theorem retI (X : Stand p l e R s m args below meth c T locs cells slots) (hx : p.tables.exec = Jvm.exec) {pc : Nat} {Ls : Array Slot} {z : Int32} {rest : List Value} (hret : meth.sig.returnType = some .int) (hd : decode c.code pc = .ok (.ireturn, 1)) {fs : List Frame}
    (hl : ∀ (f : JFrame) (acts : List Action), f.method = m → f.locked = none → f.entered = [] → (doReturn e (T.setTop f) acts (some (.int z))).1 = T.setFrames fs) : Steps p.tables e below (T.setTop (mkF m pc Ls (.int z :: rest))) (T.setFrames fs) := by
  have hm' : T.vm.method? m = some meth := X.method'
  have hn : narrow .int (.int z) = .int z := rfl
  show Steps p.tables e below (T.setTop { method := m, pc := pc, locals := Ls, stack := _ :: rest, locked := none }) _
  jvm_step X.here [X.here.top, hx, hd, hm', hret, hn]
  first | (intro acts; rw [hl _ acts rfl rfl rfl]) | rw [hl _ _ rfl rfl rfl]
  exact Steps.refl _
end New
theorem own_lc_tlt {a b : Int64} (h : a < b) : lcmpW a b < 0 := by rw [lcW]; exact (lc_lt _ _).2 h
theorem own_lc_flt {a b : Int64} (h : ¬ a < b) : ¬ lcmpW a b < 0 := by rw [lcW]; exact fun q => h ((lc_lt _ _).1 q)
theorem own_lc_tgt {a b : Int64} (h : b < a) : 0 < lcmpW a b := by rw [lcW]; exact (lc_gt _ _).2 h
theorem own_lc_fgt {a b : Int64} (h : ¬ b < a) : ¬ 0 < lcmpW a b := by rw [lcW]; exact fun q => h ((lc_gt _ _).1 q)
theorem own_lc_teq {a b : Int64} (h : a = b) : lcmpW a b = 0 := by rw [lcW]; exact (lc_eq _ _).2 h
theorem own_lc_feq {a b : Int64} (h : ¬ a = b) : ¬ lcmpW a b = 0 := by rw [lcW]; exact fun q => h ((lc_eq _ _).1 q)
end Jvm.RoadKit
namespace Jvm.Pilot.@@N@@
open Jvm Jvm.ClassFile Sem Op Lib Jvm.Free Jvm.Stand Jvm.LawKit Jvm.RoadKit Bundle Jvm.Pilot.@@N@@.Jvm.D
theorem d1_0 : decode method_2_code 0 = .ok (.iload_n 0, 1) := by decide +kernel
theorem d1_1 : decode method_2_code 1 = .ok (.ifCond .ne 7, 3) := by decide +kernel
theorem d1_4 : decode method_2_code 4 = .ok (.getstatic 7, 3) := by decide +kernel
theorem d1_7 : decode method_2_code 7 = .ok (.areturn, 1) := by decide +kernel
theorem d1_8 : decode method_2_code 8 = .ok (.iload_n 0, 1) := by decide +kernel
theorem d1_9 : decode method_2_code 9 = .ok (.iconst 1, 1) := by decide +kernel
theorem d1_10 : decode method_2_code 10 = .ok (.if_icmp .ne 7, 3) := by decide +kernel
theorem d1_13 : decode method_2_code 13 = .ok (.getstatic 13, 3) := by decide +kernel
theorem d1_16 : decode method_2_code 16 = .ok (.areturn, 1) := by decide +kernel
theorem d1_17 : decode method_2_code 17 = .ok (.getstatic 16, 3) := by decide +kernel
theorem d1_20 : decode method_2_code 20 = .ok (.areturn, 1) := by decide +kernel
theorem pn_1 : plainName "com/example/fenceline/fenceline/model/WidthHoldsPinLaw" = true := by first | (simp [plainName, overriddenIn]; done) | decide +kernel
theorem ef_1 (m : MethodId) (p1 : Int32) : entryFrame m #[(.int p1)] 1 = mkF m 0 #[.val (.int p1)] [] := by first | (simp [entryFrame, mkF, argsToLocals, Value.category]; done) | rfl
def f1 (p1 : Int32) (s_W : Addr) (s_X : Addr) (s_R : Addr) : Addr :=
  (if p1 = (0 : Int32) then s_W else (if p1 = (1 : Int32) then s_X else s_R))
def Q1 (Z : State) (p1 : Int32) (s_W : Addr) (s_X : Addr) (s_R : Addr) (h0 : Heap) (n0 : Nat) (v : Option Value) (h : Heap) (L : List Loc) : Prop := v = some (.ref (f1 p1 s_W s_X s_R)) ∧ Fr n0 L ∧ h = h0
set_option maxRecDepth 65536 in
set_option maxHeartbeats 40000000 in
theorem rm1 (l : Launch) (Z : State) (a0 : Array Value) (hw : ∀ d ∈ tables_1, d.before a0 Z = true) (ws : List Jvm.Cond) (p1 : Int32) (s_W : Addr) (s_X : Addr) (s_R : Addr) (h0 : Heap) (n0 : Nat) (Z0 : n0 ≤ h0.size) (S_W : Sta Z h0 "com/example/fenceline/fenceline/model/Register$Width" "W" "Lcom/example/fenceline/fenceline/model/Register$Width;" (.ref s_W)) (S_X : Sta Z h0 "com/example/fenceline/fenceline/model/Register$Width" "X" "Lcom/example/fenceline/fenceline/model/Register$Width;" (.ref s_X)) (S_R : Sta Z h0 "com/example/fenceline/fenceline/model/Register$Width" "R" "Lcom/example/fenceline/fenceline/model/Register$Width;" (.ref s_R)) :
    MetFree l (⟨"com/example/fenceline/fenceline/model/WidthHoldsPinLaw", "width", "(I)Lcom/example/fenceline/fenceline/model/Register$Width;"⟩ : MethodName) (head1 (Jvm.Cond.code (⟨"com/example/fenceline/fenceline/model/WidthHoldsPinLaw", "width", "(I)Lcom/example/fenceline/fenceline/model/Register$Width;"⟩ : MethodName) method_2_code 1 (some (.object "com/example/fenceline/fenceline/model/Register$Width")) :: ws) ({ frames := 0, cells := 0, slots := 0, locals := 0 } : Room)) (fun a U => a = #[(.int p1)] ∧ Z.Warmed39 U.vm ∧ U.heap = h0) (fun _ _ _ _ _ => True) (fun _ U o U' => ∃ v L, o = .returned v ∧ Q1 Z p1 s_W s_X s_R h0 n0 v U'.heap L ∧ FrameEnd U o U' L ({ frames := 0, cells := 0, slots := 0, locals := 0 } : Room).cells ({ frames := 0, cells := 0, slots := 0, locals := 0 } : Room).slots) := by
  refine MetFree.of_bodySF (plainFor_of_name pn_1) hisR ?_
  intro p e s m args below meth c s₁ Bd hml0 hP hK
  obtain ⟨rfl, hZ, hh⟩ := hP
  have hx := Bd.exec
  have hby := Bd.bytes
  have hml : c.maxLocals = 1 := hml0
  have hown : s.vm.findClass "com/example/fenceline/fenceline/model/WidthHoldsPinLaw" = some m.cls := findClass_of_methodNamed Bd.named
  have hnm := (name_of_methodNamed Bd.named Bd.method).1
  have X0 : Stand p l e ({ frames := 0, cells := 0, slots := 0, locals := 0 } : Room) s m #[(.int p1)] below meth c s₁ [] 0 0 := Stand.of_body Bd
  have e0 : s₁.heap = h0 := by rw [← hh, Bd.state]; rfl
  have N0 := Fr.nil n0
  have pre0 : ∀ t, Steps p.tables e below (s₁.setTop (mkF m 0 #[.val (.int p1)] [])) t → Steps p.tables e below (s₁.setTop (entryFrame m #[(.int p1)] 1)) t := fun t k => castTop (ef_1 m p1) k
  have pre1 : ∀ t, Steps p.tables e below (s₁.setTop (mkF m 1 #[.val (.int p1)] [(.int p1)])) t → Steps p.tables e below (s₁.setTop (entryFrame m #[(.int p1)] 1)) t := fun t k => pre0 t (by
    show Steps p.tables e below (s₁.setTop (mkF m 0 #[.val (.int p1)] [])) _
    refine XS.iloadN X0.here hx rfl (hb hby d1_0) rfl ?_
    exact k)
  by_cases hc2 : p1 = (0 : Int32)
  · obtain ⟨T3, X3, e3, st3⟩ := getS2 X0 hx hZ hown (host := "") (Or.inl (hw _ (List.mem_of_getElem? (i := 5) rfl))) Via.refl e0 S_W (g := (mkF m 4 #[.val (.int p1)] [])) rfl (hb hby d1_4)
    have er : (f1 p1 s_W s_X s_R) = s_W := by exact (if_pos hc2)
    obtain ⟨fs, hr, hrun, hended, hW, hsame⟩ := X3.leave (v := some (.ref s_W)) (fun h => by rw [Bd.returns] at h; cases h)
    refine ⟨_, _, pre1 _ ?_, hrun, hended, _, _, rfl, ?_, ⟨_, rfl⟩, hW, hsame.mono (by decide) (by decide)⟩
    · show Steps p.tables e below (s₁.setTop (mkF m 1 #[.val (.int p1)] [(.int p1)])) _
      refine XS.ifNo X0.here hx rfl (hb hby d1_1) rfl ((if0 _ _).trans (teq hc2).2) ?_
      show Steps p.tables e below (s₁.setTop (mkF m 4 #[.val (.int p1)] [])) _
      refine st3 _ ?_
      show Steps p.tables e below (T3.setTop (mkF m 7 #[.val (.int p1)] [(.ref s_W)])) _
      jvm_step X3.here [X3.here.top, hx, (hb hby d1_7), X3.method', Bd.returns, Value.isRef, FieldType.isReference]
      first | (intro acts; rw [hr _ acts rfl rfl rfl]) | rw [hr _ _ rfl rfl rfl]
      exact Steps.refl _
    · show Q1 Z p1 s_W s_X s_R h0 n0 _ T3.heap _
      rw [e3]
      exact ⟨congrArg (fun z => some (Value.ref z)) er.symm, N0, rfl⟩
  · have pre4 : ∀ t, Steps p.tables e below (s₁.setTop (mkF m 10 #[.val (.int p1)] [(.int (1 : Int32)), (.int p1)])) t → Steps p.tables e below (s₁.setTop (entryFrame m #[(.int p1)] 1)) t := fun t k => pre1 t (by
      show Steps p.tables e below (s₁.setTop (mkF m 1 #[.val (.int p1)] [(.int p1)])) _
      refine XS.ifYes X0.here hx rfl (pc0 := 1) (pc' := 8) rfl (hb hby d1_1) rfl ((if0 _ _).trans (feq hc2).2) (by decide) (by decide) ?_
      show Steps p.tables e below (s₁.setTop (mkF m 8 #[.val (.int p1)] [])) _
      refine XS.iloadN X0.here hx rfl (hb hby d1_8) rfl ?_
      show Steps p.tables e below (s₁.setTop (mkF m 9 #[.val (.int p1)] [(.int p1)])) _
      refine XS.iconst X0.here hx rfl (hb hby d1_9) ?_
      exact k)
    by_cases hc5 : p1 = (1 : Int32)
    · obtain ⟨T6, X6, e6, st6⟩ := getS2 X0 hx hZ hown (host := "") (Or.inl (hw _ (List.mem_of_getElem? (i := 18) rfl))) Via.refl e0 S_X (g := (mkF m 13 #[.val (.int p1)] [])) rfl (hb hby d1_13)
      have er : (f1 p1 s_W s_X s_R) = s_X := by exact ((if_neg hc2).trans (if_pos hc5))
      obtain ⟨fs, hr, hrun, hended, hW, hsame⟩ := X6.leave (v := some (.ref s_X)) (fun h => by rw [Bd.returns] at h; cases h)
      refine ⟨_, _, pre4 _ ?_, hrun, hended, _, _, rfl, ?_, ⟨_, rfl⟩, hW, hsame.mono (by decide) (by decide)⟩
      · show Steps p.tables e below (s₁.setTop (mkF m 10 #[.val (.int p1)] [(.int (1 : Int32)), (.int p1)])) _
        refine XS.icmpNo X0.here hx rfl (hb hby d1_10) rfl (teq hc5).2 ?_
        show Steps p.tables e below (s₁.setTop (mkF m 13 #[.val (.int p1)] [])) _
        refine st6 _ ?_
        show Steps p.tables e below (T6.setTop (mkF m 16 #[.val (.int p1)] [(.ref s_X)])) _
        jvm_step X6.here [X6.here.top, hx, (hb hby d1_16), X6.method', Bd.returns, Value.isRef, FieldType.isReference]
        first | (intro acts; rw [hr _ acts rfl rfl rfl]) | rw [hr _ _ rfl rfl rfl]
        exact Steps.refl _
      · show Q1 Z p1 s_W s_X s_R h0 n0 _ T6.heap _
        rw [e6]
        exact ⟨congrArg (fun z => some (Value.ref z)) er.symm, N0, rfl⟩
    · obtain ⟨T7, X7, e7, st7⟩ := getS2 X0 hx hZ hown (host := "") (Or.inl (hw _ (List.mem_of_getElem? (i := 20) rfl))) Via.refl e0 S_R (g := (mkF m 17 #[.val (.int p1)] [])) rfl (hb hby d1_17)
      have er : (f1 p1 s_W s_X s_R) = s_R := by exact ((if_neg hc2).trans (if_neg hc5))
      obtain ⟨fs, hr, hrun, hended, hW, hsame⟩ := X7.leave (v := some (.ref s_R)) (fun h => by rw [Bd.returns] at h; cases h)
      refine ⟨_, _, pre4 _ ?_, hrun, hended, _, _, rfl, ?_, ⟨_, rfl⟩, hW, hsame.mono (by decide) (by decide)⟩
      · show Steps p.tables e below (s₁.setTop (mkF m 10 #[.val (.int p1)] [(.int (1 : Int32)), (.int p1)])) _
        refine XS.icmpYes X0.here hx rfl (pc0 := 10) (pc' := 17) rfl (hb hby d1_10) rfl (feq hc5).2 (by decide) (by decide) ?_
        show Steps p.tables e below (s₁.setTop (mkF m 17 #[.val (.int p1)] [])) _
        refine st7 _ ?_
        show Steps p.tables e below (T7.setTop (mkF m 20 #[.val (.int p1)] [(.ref s_R)])) _
        jvm_step X7.here [X7.here.top, hx, (hb hby d1_20), X7.method', Bd.returns, Value.isRef, FieldType.isReference]
        first | (intro acts; rw [hr _ acts rfl rfl rfl]) | rw [hr _ _ rfl rfl rfl]
        exact Steps.refl _
      · show Q1 Z p1 s_W s_X s_R h0 n0 _ T7.heap _
        rw [e7]
        exact ⟨congrArg (fun z => some (Value.ref z)) er.symm, N0, rfl⟩
theorem d2_0 : decode prog_77_method_5_code 0 = .ok (.aload_n 0, 1) := by decide +kernel
theorem d2_1 : decode prog_77_method_5_code 1 = .ok (.getfield 32, 3) := by decide +kernel
theorem d2_4 : decode prog_77_method_5_code 4 = .ok (.bipush 64, 2) := by decide +kernel
theorem d2_6 : decode prog_77_method_5_code 6 = .ok (.if_icmp .eq 28, 3) := by decide +kernel
theorem d2_9 : decode prog_77_method_5_code 9 = .ok (.lload_n 1, 1) := by decide +kernel
theorem d2_10 : decode prog_77_method_5_code 10 = .ok (.lconst 1, 1) := by decide +kernel
theorem d2_11 : decode prog_77_method_5_code 11 = .ok (.aload_n 0, 1) := by decide +kernel
theorem d2_12 : decode prog_77_method_5_code 12 = .ok (.getfield 32, 3) := by decide +kernel
theorem d2_15 : decode prog_77_method_5_code 15 = .ok (.iconst 1, 1) := by decide +kernel
theorem d2_16 : decode prog_77_method_5_code 16 = .ok (.isub, 1) := by decide +kernel
theorem d2_17 : decode prog_77_method_5_code 17 = .ok (.lshl, 1) := by decide +kernel
theorem d2_18 : decode prog_77_method_5_code 18 = .ok (.lneg, 1) := by decide +kernel
theorem d2_19 : decode prog_77_method_5_code 19 = .ok (.lcmp, 1) := by decide +kernel
theorem d2_20 : decode prog_77_method_5_code 20 = .ok (.ifCond .lt 18, 3) := by decide +kernel
theorem d2_23 : decode prog_77_method_5_code 23 = .ok (.lload_n 1, 1) := by decide +kernel
theorem d2_24 : decode prog_77_method_5_code 24 = .ok (.lconst 1, 1) := by decide +kernel
theorem d2_25 : decode prog_77_method_5_code 25 = .ok (.aload_n 0, 1) := by decide +kernel
theorem d2_26 : decode prog_77_method_5_code 26 = .ok (.getfield 32, 3) := by decide +kernel
theorem d2_29 : decode prog_77_method_5_code 29 = .ok (.lshl, 1) := by decide +kernel
theorem d2_30 : decode prog_77_method_5_code 30 = .ok (.lcmp, 1) := by decide +kernel
theorem d2_31 : decode prog_77_method_5_code 31 = .ok (.ifCond .ge 7, 3) := by decide +kernel
theorem d2_34 : decode prog_77_method_5_code 34 = .ok (.iconst 1, 1) := by decide +kernel
theorem d2_35 : decode prog_77_method_5_code 35 = .ok (.goto 4, 3) := by decide +kernel
theorem d2_38 : decode prog_77_method_5_code 38 = .ok (.iconst 0, 1) := by decide +kernel
theorem d2_39 : decode prog_77_method_5_code 39 = .ok (.ireturn, 1) := by decide +kernel
theorem pn_2 : plainName "com/example/fenceline/fenceline/model/Register$Width" = true := by first | (simp [plainName, overriddenIn]; done) | decide +kernel
theorem ef_2 (m : MethodId) (a1 : Addr) (q2 : Int64) : entryFrame m #[(.ref a1), (.long q2)] 3 = mkF m 0 #[.val (.ref a1), .val (.long q2), .second] [] := by first | (simp [entryFrame, mkF, argsToLocals, Value.category]; done) | rfl
def f2 (q2 : Int64) (f_bits_a1 : Int32) : Int32 :=
  (if f_bits_a1 = (64 : Int32) then (1 : Int32) else (if q2 < (-((1 : Int64) <<< ((f_bits_a1 - (1 : Int32)) &&& 0x3f).toInt64)) then (0 : Int32) else (nar .boolean (if q2 < ((1 : Int64) <<< (f_bits_a1 &&& 0x3f).toInt64) then (1 : Int32) else (0 : Int32)))))
def Q2 (Z : State) (a1 : Addr) (q2 : Int64) (f_bits_a1 : Int32) (h0 : Heap) (n0 : Nat) (v : Option Value) (h : Heap) (L : List Loc) : Prop := v = some (.int (f2 q2 f_bits_a1)) ∧ Fr n0 L ∧ h = h0
set_option maxRecDepth 65536 in
set_option maxHeartbeats 40000000 in
theorem rm2 (l : Launch) (Z : State) (a0 : Array Value) (hw : ∀ d ∈ tables_1, d.before a0 Z = true) (ws : List Jvm.Cond) (a1 : Addr) (q2 : Int64) (f_bits_a1 : Int32) (h0 : Heap) (n0 : Nat) (Z0 : n0 ≤ h0.size) (F_bits_a1 : Fld Z h0 a1 "com/example/fenceline/fenceline/model/Register$Width" "bits" "I" (.int f_bits_a1)) :
    MetFree l (⟨"com/example/fenceline/fenceline/model/Register$Width", "holds", "(J)Z"⟩ : MethodName) (head1 (Jvm.Cond.code (⟨"com/example/fenceline/fenceline/model/Register$Width", "holds", "(J)Z"⟩ : MethodName) prog_77_method_5_code 3 (some .boolean) :: ws) ({ frames := 0, cells := 0, slots := 0, locals := 0 } : Room)) (fun a U => a = #[(.ref a1), (.long q2)] ∧ Z.Warmed39 U.vm ∧ U.heap = h0) (fun _ _ _ _ _ => True) (fun _ U o U' => ∃ v L, o = .returned v ∧ Q2 Z a1 q2 f_bits_a1 h0 n0 v U'.heap L ∧ FrameEnd U o U' L ({ frames := 0, cells := 0, slots := 0, locals := 0 } : Room).cells ({ frames := 0, cells := 0, slots := 0, locals := 0 } : Room).slots) := by
  refine MetFree.of_bodySF (plainFor_of_name pn_2) hisR ?_
  intro p e s m args below meth c s₁ Bd hml0 hP hK
  obtain ⟨rfl, hZ, hh⟩ := hP
  have hx := Bd.exec
  have hby := Bd.bytes
  have hml : c.maxLocals = 3 := hml0
  have hown : s.vm.findClass "com/example/fenceline/fenceline/model/Register$Width" = some m.cls := findClass_of_methodNamed Bd.named
  have hnm := (name_of_methodNamed Bd.named Bd.method).1
  have X0 : Stand p l e ({ frames := 0, cells := 0, slots := 0, locals := 0 } : Room) s m #[(.ref a1), (.long q2)] below meth c s₁ [] 0 0 := Stand.of_body Bd
  have e0 : s₁.heap = h0 := by rw [← hh, Bd.state]; rfl
  have N0 := Fr.nil n0
  have pre0 : ∀ t, Steps p.tables e below (s₁.setTop (mkF m 0 #[.val (.ref a1), .val (.long q2), .second] [])) t → Steps p.tables e below (s₁.setTop (entryFrame m #[(.ref a1), (.long q2)] 3)) t := fun t k => castTop (ef_2 m a1 q2) k
  obtain ⟨T1, X1, e1, st1⟩ := getF X0 hx hZ hown (host := "") (Or.inl (hw _ (List.mem_of_getElem? (i := 16) rfl))) Via.refl e0 F_bits_a1 (g := (mkF m 1 #[.val (.ref a1), .val (.long q2), .second] [(.ref a1)])) rfl rfl (hb hby d2_1)
  have pre2 : ∀ t, Steps p.tables e below (T1.setTop (mkF m 6 #[.val (.ref a1), .val (.long q2), .second] [(.int (64 : Int32)), (.int f_bits_a1)])) t → Steps p.tables e below (s₁.setTop (entryFrame m #[(.ref a1), (.long q2)] 3)) t := fun t k => pre0 t (by
    show Steps p.tables e below (s₁.setTop (mkF m 0 #[.val (.ref a1), .val (.long q2), .second] [])) _
    refine XS.aloadN X0.here hx rfl (hb hby d2_0) rfl rfl ?_
    show Steps p.tables e below (s₁.setTop (mkF m 1 #[.val (.ref a1), .val (.long q2), .second] [(.ref a1)])) _
    refine st1 _ ?_
    show Steps p.tables e below (T1.setTop (mkF m 4 #[.val (.ref a1), .val (.long q2), .second] [(.int f_bits_a1)])) _
    refine XS.bipush X1.here hx rfl (hb hby d2_4) ?_
    exact k)
  by_cases hc3 : f_bits_a1 = (64 : Int32)
  · have er : (f2 q2 f_bits_a1) = (1 : Int32) := by exact (if_pos hc3)
    obtain ⟨fs, hr, hrun, hended, hW, hsame⟩ := X1.leave (v := some (.int (1 : Int32))) (fun h => by rw [Bd.returns] at h; cases h)
    refine ⟨_, _, pre2 _ ?_, hrun, hended, _, _, rfl, ?_, ⟨_, rfl⟩, hW, hsame.mono (by decide) (by decide)⟩
    · show Steps p.tables e below (T1.setTop (mkF m 6 #[.val (.ref a1), .val (.long q2), .second] [(.int (64 : Int32)), (.int f_bits_a1)])) _
      refine XS.icmpYes X1.here hx rfl (pc0 := 6) (pc' := 34) rfl (hb hby d2_6) rfl (teq hc3).1 (by decide) (by decide) ?_
      show Steps p.tables e below (T1.setTop (mkF m 34 #[.val (.ref a1), .val (.long q2), .second] [])) _
      refine XS.iconst X1.here hx rfl (hb hby d2_34) ?_
      show Steps p.tables e below (T1.setTop (mkF m 35 #[.val (.ref a1), .val (.long q2), .second] [(.int (1 : Int32))])) _
      refine XS.goto X1.here hx rfl (pc0 := 35) (pc' := 39) rfl (hb hby d2_35) (by decide) (by decide) ?_
      show Steps p.tables e below (T1.setTop (mkF m 39 #[.val (.ref a1), .val (.long q2), .second] [(.int (1 : Int32))])) _
      exact retN X1 hx (t := .boolean) Bd.returns (by simp) (hb hby d2_39) hr
    · show Q2 Z a1 q2 f_bits_a1 h0 n0 _ T1.heap _
      rw [e1]
      exact ⟨congrArg (fun z => some (Value.int z)) er.symm, N0, rfl⟩
  · obtain ⟨T4, X4, e4, st4⟩ := getF X1 hx hZ hown (host := "") (Or.inl (hw _ (List.mem_of_getElem? (i := 16) rfl))) Via.refl e1 F_bits_a1 (g := (mkF m 12 #[.val (.ref a1), .val (.long q2), .second] [(.ref a1), (.long (1 : Int64)), (.long q2)])) rfl rfl (hb hby d2_12)
    have pre5 : ∀ t, Steps p.tables e below (T4.setTop (mkF m 20 #[.val (.ref a1), .val (.long q2), .second] [(.int (lcmpW q2 (-((1 : Int64) <<< ((f_bits_a1 - (1 : Int32)) &&& 0x3f).toInt64))))])) t → Steps p.tables e below (s₁.setTop (entryFrame m #[(.ref a1), (.long q2)] 3)) t := fun t k => pre2 t (by
      show Steps p.tables e below (T1.setTop (mkF m 6 #[.val (.ref a1), .val (.long q2), .second] [(.int (64 : Int32)), (.int f_bits_a1)])) _
      refine XS.icmpNo X1.here hx rfl (hb hby d2_6) rfl (feq hc3).1 ?_
      show Steps p.tables e below (T1.setTop (mkF m 9 #[.val (.ref a1), .val (.long q2), .second] [])) _
      refine XS.lloadN X1.here hx rfl (hb hby d2_9) rfl ?_
      show Steps p.tables e below (T1.setTop (mkF m 10 #[.val (.ref a1), .val (.long q2), .second] [(.long q2)])) _
      refine XS.lconst X1.here hx rfl (hb hby d2_10) ?_
      show Steps p.tables e below (T1.setTop (mkF m 11 #[.val (.ref a1), .val (.long q2), .second] [(.long (1 : Int64)), (.long q2)])) _
      refine XS.aloadN X1.here hx rfl (hb hby d2_11) rfl rfl ?_
      show Steps p.tables e below (T1.setTop (mkF m 12 #[.val (.ref a1), .val (.long q2), .second] [(.ref a1), (.long (1 : Int64)), (.long q2)])) _
      refine st4 _ ?_
      show Steps p.tables e below (T4.setTop (mkF m 15 #[.val (.ref a1), .val (.long q2), .second] [(.int f_bits_a1), (.long (1 : Int64)), (.long q2)])) _
      refine XS.iconst X4.here hx rfl (hb hby d2_15) ?_
      show Steps p.tables e below (T4.setTop (mkF m 16 #[.val (.ref a1), .val (.long q2), .second] [(.int (1 : Int32)), (.int f_bits_a1), (.long (1 : Int64)), (.long q2)])) _
      refine XS.isub X4.here hx rfl (hb hby d2_16) rfl ?_
      show Steps p.tables e below (T4.setTop (mkF m 17 #[.val (.ref a1), .val (.long q2), .second] [(.int (f_bits_a1 - (1 : Int32))), (.long (1 : Int64)), (.long q2)])) _
      refine XS.lshl X4.here hx rfl (hb hby d2_17) rfl ?_
      show Steps p.tables e below (T4.setTop (mkF m 18 #[.val (.ref a1), .val (.long q2), .second] [(.long ((1 : Int64) <<< ((f_bits_a1 - (1 : Int32)) &&& 0x3f).toInt64)), (.long q2)])) _
      refine XS.lneg X4.here hx rfl (hb hby d2_18) rfl ?_
      show Steps p.tables e below (T4.setTop (mkF m 19 #[.val (.ref a1), .val (.long q2), .second] [(.long (-((1 : Int64) <<< ((f_bits_a1 - (1 : Int32)) &&& 0x3f).toInt64))), (.long q2)])) _
      refine XS.lcmp X4.here hx rfl (hb hby d2_19) rfl ?_
      exact k)
    by_cases hc6 : q2 < (-((1 : Int64) <<< ((f_bits_a1 - (1 : Int32)) &&& 0x3f).toInt64))
    · have er : (f2 q2 f_bits_a1) = (0 : Int32) := by exact ((if_neg hc3).trans (if_pos hc6))
      obtain ⟨fs, hr, hrun, hended, hW, hsame⟩ := X4.leave (v := some (.int (0 : Int32))) (fun h => by rw [Bd.returns] at h; cases h)
      refine ⟨_, _, pre5 _ ?_, hrun, hended, _, _, rfl, ?_, ⟨_, rfl⟩, hW, hsame.mono (by decide) (by decide)⟩
      · show Steps p.tables e below (T4.setTop (mkF m 20 #[.val (.ref a1), .val (.long q2), .second] [(.int (lcmpW q2 (-((1 : Int64) <<< ((f_bits_a1 - (1 : Int32)) &&& 0x3f).toInt64))))])) _
        refine XS.ifYes X4.here hx rfl (pc0 := 20) (pc' := 38) rfl (hb hby d2_20) rfl ((if0 _ _).trans (tlt (own_lc_tlt hc6)).1) (by decide) (by decide) ?_
        show Steps p.tables e below (T4.setTop (mkF m 38 #[.val (.ref a1), .val (.long q2), .second] [])) _
        refine XS.iconst X4.here hx rfl (hb hby d2_38) ?_
        show Steps p.tables e below (T4.setTop (mkF m 39 #[.val (.ref a1), .val (.long q2), .second] [(.int (0 : Int32))])) _
        exact retN X4 hx (t := .boolean) Bd.returns (by simp) (hb hby d2_39) hr
      · show Q2 Z a1 q2 f_bits_a1 h0 n0 _ T4.heap _
        rw [e4]
        exact ⟨congrArg (fun z => some (Value.int z)) er.symm, N0, rfl⟩
    · obtain ⟨T7, X7, e7, st7⟩ := getF X4 hx hZ hown (host := "") (Or.inl (hw _ (List.mem_of_getElem? (i := 16) rfl))) Via.refl e4 F_bits_a1 (g := (mkF m 26 #[.val (.ref a1), .val (.long q2), .second] [(.ref a1), (.long (1 : Int64)), (.long q2)])) rfl rfl (hb hby d2_26)
      obtain ⟨v9, hv9⟩ : ∃ z : Int32, z = (if q2 < ((1 : Int64) <<< (f_bits_a1 &&& 0x3f).toInt64) then (1 : Int32) else (0 : Int32)) := ⟨_, rfl⟩
      have pre10 : ∀ t, Steps p.tables e below (T7.setTop (mkF m 39 #[.val (.ref a1), .val (.long q2), .second] [(.int v9)])) t → Steps p.tables e below (s₁.setTop (entryFrame m #[(.ref a1), (.long q2)] 3)) t := fun t k => pre5 t (by
        show Steps p.tables e below (T4.setTop (mkF m 20 #[.val (.ref a1), .val (.long q2), .second] [(.int (lcmpW q2 (-((1 : Int64) <<< ((f_bits_a1 - (1 : Int32)) &&& 0x3f).toInt64))))])) _
        refine XS.ifNo X4.here hx rfl (hb hby d2_20) rfl ((if0 _ _).trans (flt (own_lc_flt hc6)).1) ?_
        show Steps p.tables e below (T4.setTop (mkF m 23 #[.val (.ref a1), .val (.long q2), .second] [])) _
        refine XS.lloadN X4.here hx rfl (hb hby d2_23) rfl ?_
        show Steps p.tables e below (T4.setTop (mkF m 24 #[.val (.ref a1), .val (.long q2), .second] [(.long q2)])) _
        refine XS.lconst X4.here hx rfl (hb hby d2_24) ?_
        show Steps p.tables e below (T4.setTop (mkF m 25 #[.val (.ref a1), .val (.long q2), .second] [(.long (1 : Int64)), (.long q2)])) _
        refine XS.aloadN X4.here hx rfl (hb hby d2_25) rfl rfl ?_
        show Steps p.tables e below (T4.setTop (mkF m 26 #[.val (.ref a1), .val (.long q2), .second] [(.ref a1), (.long (1 : Int64)), (.long q2)])) _
        refine st7 _ ?_
        show Steps p.tables e below (T7.setTop (mkF m 29 #[.val (.ref a1), .val (.long q2), .second] [(.int f_bits_a1), (.long (1 : Int64)), (.long q2)])) _
        refine XS.lshl X7.here hx rfl (hb hby d2_29) rfl ?_
        show Steps p.tables e below (T7.setTop (mkF m 30 #[.val (.ref a1), .val (.long q2), .second] [(.long ((1 : Int64) <<< (f_bits_a1 &&& 0x3f).toInt64)), (.long q2)])) _
        refine XS.lcmp X7.here hx rfl (hb hby d2_30) rfl ?_
        show Steps p.tables e below (T7.setTop (mkF m 31 #[.val (.ref a1), .val (.long q2), .second] [(.int (lcmpW q2 ((1 : Int64) <<< (f_bits_a1 &&& 0x3f).toInt64)))])) _
        by_cases hc8 : q2 < ((1 : Int64) <<< (f_bits_a1 &&& 0x3f).toInt64)
        · refine XS.ifNo X7.here hx rfl (hb hby d2_31) rfl ((if0 _ _).trans (tlt (own_lc_tlt hc8)).2.1) ?_
          show Steps p.tables e below (T7.setTop (mkF m 34 #[.val (.ref a1), .val (.long q2), .second] [])) _
          refine XS.iconst X7.here hx rfl (hb hby d2_34) ?_
          show Steps p.tables e below (T7.setTop (mkF m 35 #[.val (.ref a1), .val (.long q2), .second] [(.int (1 : Int32))])) _
          refine XS.goto X7.here hx rfl (pc0 := 35) (pc' := 39) rfl (hb hby d2_35) (by decide) (by decide) ?_
          rw [show v9 = (1 : Int32) from hv9.trans (if_pos hc8)] at k
          exact k
        · refine XS.ifYes X7.here hx rfl (pc0 := 31) (pc' := 38) rfl (hb hby d2_31) rfl ((if0 _ _).trans (flt (own_lc_flt hc8)).2.1) (by decide) (by decide) ?_
          show Steps p.tables e below (T7.setTop (mkF m 38 #[.val (.ref a1), .val (.long q2), .second] [])) _
          refine XS.iconst X7.here hx rfl (hb hby d2_38) ?_
          rw [show v9 = (0 : Int32) from hv9.trans (if_neg hc8)] at k
          exact k)
      have er : (f2 q2 f_bits_a1) = (nar .boolean v9) := by subst hv9; exact ((if_neg hc3).trans (if_neg hc6))
      obtain ⟨fs, hr, hrun, hended, hW, hsame⟩ := X7.leave (v := some (.int (nar .boolean v9))) (fun h => by rw [Bd.returns] at h; cases h)
      refine ⟨_, _, pre10 _ ?_, hrun, hended, _, _, rfl, ?_, ⟨_, rfl⟩, hW, hsame.mono (by decide) (by decide)⟩
      · show Steps p.tables e below (T7.setTop (mkF m 39 #[.val (.ref a1), .val (.long q2), .second] [(.int v9)])) _
        exact retN X7 hx (t := .boolean) Bd.returns (by simp) (hb hby d2_39) hr
      · show Q2 Z a1 q2 f_bits_a1 h0 n0 _ T7.heap _
        rw [e7]
        exact ⟨congrArg (fun z => some (Value.int z)) er.symm, N0, rfl⟩
theorem pd_0 : parseMethodDescriptor "(I)Lcom/example/fenceline/fenceline/model/Register$Width;" = some ⟨[.int], some (.object "com/example/fenceline/fenceline/model/Register$Width")⟩ := by decide +kernel
theorem pd_1 : parseMethodDescriptor "(J)Z" = some ⟨[.long], some .boolean⟩ := by decide +kernel
theorem pn_0 : plainName "com/example/fenceline/fenceline/model/WidthHoldsPinLaw" = true := by first | (simp [plainName, overriddenIn]; done) | decide +kernel
theorem ef_0 (m : MethodId) (p1 : Int32) (q2 : Int64) (p3 : Int32) : entryFrame m #[(.int p1), (.long q2), (.int p3)] maxLocals = mkF m 0 #[.val (.int p1), .val (.long q2), .second, .val (.int p3), .unset, .unset, .unset, .unset, .unset, .unset, .unset, .unset] [] := by first | (simp [entryFrame, mkF, argsToLocals, Value.category, maxLocals]; done) | rfl
def f0 (p1 : Int32) (q2 : Int64) (p3 : Int32) (f_bits_o1 : Int32) : Int32 :=
  (nar .boolean (if (f2 (if (p3 &&& (3 : Int32)) = (0 : Int32) then q2 else (if (p3 &&& (3 : Int32)) = (1 : Int32) then ((-2147483648 : Int64) + (q2 - (q2 / (4 : Int64)) * (4 : Int64))) else (if (p3 &&& (3 : Int32)) = (2 : Int32) then ((4294967295 : Int64) + (q2 - (q2 / (4 : Int64)) * (4 : Int64))) else (if (q2 - (q2 / (4 : Int64)) * (4 : Int64)) < (0 : Int64) then ((9223372036854775807 : Int64) + (q2 - (q2 / (4 : Int64)) * (4 : Int64))) else ((-9223372036854775808 : Int64) + (q2 - (q2 / (4 : Int64)) * (4 : Int64))))))) f_bits_o1) = (if ((p1 &&& (2147483647 : Int32)) % (3 : Int32)) = (1 : Int32) then (1 : Int32) else (if (if (p3 &&& (3 : Int32)) = (0 : Int32) then q2 else (if (p3 &&& (3 : Int32)) = (1 : Int32) then ((-2147483648 : Int64) + (q2 - (q2 / (4 : Int64)) * (4 : Int64))) else (if (p3 &&& (3 : Int32)) = (2 : Int32) then ((4294967295 : Int64) + (q2 - (q2 / (4 : Int64)) * (4 : Int64))) else (if (q2 - (q2 / (4 : Int64)) * (4 : Int64)) < (0 : Int64) then ((9223372036854775807 : Int64) + (q2 - (q2 / (4 : Int64)) * (4 : Int64))) else ((-9223372036854775808 : Int64) + (q2 - (q2 / (4 : Int64)) * (4 : Int64))))))) < (-2147483648 : Int64) then (0 : Int32) else (if (4294967295 : Int64) < (if (p3 &&& (3 : Int32)) = (0 : Int32) then q2 else (if (p3 &&& (3 : Int32)) = (1 : Int32) then ((-2147483648 : Int64) + (q2 - (q2 / (4 : Int64)) * (4 : Int64))) else (if (p3 &&& (3 : Int32)) = (2 : Int32) then ((4294967295 : Int64) + (q2 - (q2 / (4 : Int64)) * (4 : Int64))) else (if (q2 - (q2 / (4 : Int64)) * (4 : Int64)) < (0 : Int64) then ((9223372036854775807 : Int64) + (q2 - (q2 / (4 : Int64)) * (4 : Int64))) else ((-9223372036854775808 : Int64) + (q2 - (q2 / (4 : Int64)) * (4 : Int64))))))) then (0 : Int32) else (1 : Int32)))) then (1 : Int32) else (0 : Int32)))
def Q0 (Z : State) (p1 : Int32) (q2 : Int64) (p3 : Int32) (s_W : Addr) (s_X : Addr) (s_R : Addr) (f_bits_o1 : Int32) (h0 : Heap) (n0 : Nat) (v : Option Value) (h : Heap) (L : List Loc) : Prop := v = some (.int (f0 p1 q2 p3 f_bits_o1)) ∧ Fr n0 L ∧ h = h0
set_option maxRecDepth 65536 in
set_option maxHeartbeats 40000000 in
theorem rm0 (l : Launch) (Z : State) (a0 : Array Value) (hw : ∀ d ∈ tables_1, d.before a0 Z = true) (ws : List Jvm.Cond) (p1 : Int32) (q2 : Int64) (p3 : Int32) (s_W : Addr) (s_X : Addr) (s_R : Addr) (f_bits_o1 : Int32) (h0 : Heap) (n0 : Nat) (Z0 : n0 ≤ h0.size) (S_W : Sta Z h0 "com/example/fenceline/fenceline/model/Register$Width" "W" "Lcom/example/fenceline/fenceline/model/Register$Width;" (.ref s_W)) (S_X : Sta Z h0 "com/example/fenceline/fenceline/model/Register$Width" "X" "Lcom/example/fenceline/fenceline/model/Register$Width;" (.ref s_X)) (S_R : Sta Z h0 "com/example/fenceline/fenceline/model/Register$Width" "R" "Lcom/example/fenceline/fenceline/model/Register$Width;" (.ref s_R)) (F_bits_o1 : Fld Z h0 (f1 ((p1 &&& (2147483647 : Int32)) % (3 : Int32)) s_W s_X s_R) "com/example/fenceline/fenceline/model/Register$Width" "bits" "I" (.int f_bits_o1)) (E_o1 : Exa Z h0 (f1 ((p1 &&& (2147483647 : Int32)) % (3 : Int32)) s_W s_X s_R) "com/example/fenceline/fenceline/model/Register$Width") :
    MetFree l x (head1 (Jvm.Cond.code x code maxLocals ret :: ws) room_1) (fun a U => a = #[(.int p1), (.long q2), (.int p3)] ∧ Z.Warmed39 U.vm ∧ U.heap = h0) (fun _ _ _ _ _ => True) (fun _ U o U' => ∃ v L, o = .returned v ∧ Q0 Z p1 q2 p3 s_W s_X s_R f_bits_o1 h0 n0 v U'.heap L ∧ FrameEnd U o U' L room_1.cells room_1.slots) := by
  refine MetFree.of_bodySF (plainFor_of_name pn_0) hisR ?_
  intro p e s m args below meth c s₁ Bd hml0 hP hK
  obtain ⟨rfl, hZ, hh⟩ := hP
  have hx := Bd.exec
  have hby := Bd.bytes
  have hml : c.maxLocals = 12 := hml0
  have hown : s.vm.findClass "com/example/fenceline/fenceline/model/WidthHoldsPinLaw" = some m.cls := findClass_of_methodNamed Bd.named
  have hnm := (name_of_methodNamed Bd.named Bd.method).1
  have X0 : Stand p l e room_1 s m #[(.int p1), (.long q2), (.int p3)] below meth c s₁ [] 0 0 := Stand.of_body Bd
  have e0 : s₁.heap = h0 := by rw [← hh, Bd.state]; rfl
  have N0 := Fr.nil n0
  have pre0 : ∀ t, Steps p.tables e below (s₁.setTop (mkF m 0 #[.val (.int p1), .val (.long q2), .second, .val (.int p3), .unset, .unset, .unset, .unset, .unset, .unset, .unset, .unset] [])) t → Steps p.tables e below (s₁.setTop (entryFrame m #[(.int p1), (.long q2), (.int p3)] maxLocals)) t := fun t k => castTop (ef_0 m p1 q2 p3) k
  obtain ⟨_, _, ⟨T1, L1, k1, n1⟩, -, X1, ⟨Lc1, hQ1, l1, y1, z1⟩, st1⟩ := Jvm.LawKit.callS X0 hx (y := (⟨"com/example/fenceline/fenceline/model/WidthHoldsPinLaw", "width", "(I)Lcom/example/fenceline/fenceline/model/Register$Width;"⟩ : MethodName)) hown (mvT hZ (hw _ (List.mem_of_getElem? (i := 1) rfl))) (mvT hZ (hw _ (List.mem_of_getElem? (i := 2) rfl))) (mvT hZ (hw _ (List.mem_of_getElem? (i := 3) rfl))) (mvT hZ (hw _ (List.mem_of_getElem? (i := 4) rfl))) (by decide) (backOf (W := 0) (rm1 l Z a0 hw [] ((p1 &&& (2147483647 : Int32)) % (3 : Int32)) s_W s_X s_R h0 n0 Z0 S_W S_X S_R) hZ (hw _ (List.mem_of_getElem? (i := 4) rfl)) (hw _ (List.mem_of_getElem? (i := 3) rfl)) (by decide) (by decide)) (g := (mkF m 10 #[.val (.int p1), .val (.long q2), .second, .val (.int p3), .val (.int ((p1 &&& (2147483647 : Int32)) % (3 : Int32))), .unset, .unset, .unset, .unset, .unset, .unset, .unset] [(.int ((p1 &&& (2147483647 : Int32)) % (3 : Int32)))])) rfl (by rw [hml]; rfl) (argsL := [(.int ((p1 &&& (2147483647 : Int32)) % (3 : Int32)))]) (rest := []) (lenOf pd_0 rfl) rfl (by show 2 * 0 + _ ≤ _; exact Nat.le_of_eq rfl) (hb hby at_10) (fun _ _ => ⟨rfl, e0, (by decide : 0 + 0 ≤ _), (by decide : 0 + 0 ≤ _)⟩)
  dsimp only [Pt.U, Pt.locs, Pt.cells, Pt.slots] at X1 l1 y1 z1 st1 hQ1
  subst l1 y1 z1
  obtain ⟨rfl, N1q, e1⟩ := hQ1
  have N1 := Fr.app N0 N1q
  obtain ⟨v6, hv6⟩ : ∃ z : Int64, z = (if (p3 &&& (3 : Int32)) = (0 : Int32) then q2 else (if (p3 &&& (3 : Int32)) = (1 : Int32) then ((-2147483648 : Int64) + (q2 - (q2 / (4 : Int64)) * (4 : Int64))) else (if (p3 &&& (3 : Int32)) = (2 : Int32) then ((4294967295 : Int64) + (q2 - (q2 / (4 : Int64)) * (4 : Int64))) else (if (q2 - (q2 / (4 : Int64)) * (4 : Int64)) < (0 : Int64) then ((9223372036854775807 : Int64) + (q2 - (q2 / (4 : Int64)) * (4 : Int64))) else ((-9223372036854775808 : Int64) + (q2 - (q2 / (4 : Int64)) * (4 : Int64))))))) := ⟨_, rfl⟩
  have pre7 : ∀ t, Steps p.tables e below (T1.setTop (mkF m 98 #[.val (.int p1), .val (.long q2), .second, .val (.int p3), .val (.int ((p1 &&& (2147483647 : Int32)) % (3 : Int32))), .val (.ref (f1 ((p1 &&& (2147483647 : Int32)) % (3 : Int32)) s_W s_X s_R)), .val (.int (p3 &&& (3 : Int32))), .val (.long (q2 - (q2 / (4 : Int64)) * (4 : Int64))), .second, .val (.long v6), .second, .unset] [])) t → Steps p.tables e below (s₁.setTop (entryFrame m #[(.int p1), (.long q2), (.int p3)] maxLocals)) t := fun t k => pre0 t (by
    show Steps p.tables e below (s₁.setTop (mkF m 0 #[.val (.int p1), .val (.long q2), .second, .val (.int p3), .unset, .unset, .unset, .unset, .unset, .unset, .unset, .unset] [])) _
    refine XS.iloadN X0.here hx rfl (hb hby at_0) rfl ?_
    show Steps p.tables e below (s₁.setTop (mkF m 1 #[.val (.int p1), .val (.long q2), .second, .val (.int p3), .unset, .unset, .unset, .unset, .unset, .unset, .unset, .unset] [(.int p1)])) _
    refine X0.ldcInt hx hown (mvT hZ (hw _ (List.mem_of_getElem? (i := 0) rfl))) (g := (mkF m 1 #[.val (.int p1), .val (.long q2), .second, .val (.int p3), .unset, .unset, .unset, .unset, .unset, .unset, .unset, .unset] [(.int p1)])) rfl (hb hby at_1) _ ?_
    show Steps p.tables e below (s₁.setTop (mkF m 3 #[.val (.int p1), .val (.long q2), .second, .val (.int p3), .unset, .unset, .unset, .unset, .unset, .unset, .unset, .unset] [(.int (2147483647 : Int32)), (.int p1)])) _
    refine XS.iand X0.here hx rfl (hb hby at_3) rfl ?_
    show Steps p.tables e below (s₁.setTop (mkF m 4 #[.val (.int p1), .val (.long q2), .second, .val (.int p3), .unset, .unset, .unset, .unset, .unset, .unset, .unset, .unset] [(.int (p1 &&& (2147483647 : Int32)))])) _
    refine XS.iconst X0.here hx rfl (hb hby at_4) ?_
    show Steps p.tables e below (s₁.setTop (mkF m 5 #[.val (.int p1), .val (.long q2), .second, .val (.int p3), .unset, .unset, .unset, .unset, .unset, .unset, .unset, .unset] [(.int (3 : Int32)), (.int (p1 &&& (2147483647 : Int32)))])) _
    refine iremM X0 hx rfl (hb hby at_5) rfl (by decide) ?_
    show Steps p.tables e below (s₁.setTop (mkF m 6 #[.val (.int p1), .val (.long q2), .second, .val (.int p3), .unset, .unset, .unset, .unset, .unset, .unset, .unset, .unset] [(.int ((p1 &&& (2147483647 : Int32)) % (3 : Int32)))])) _
    refine XS.istore X0.here hx rfl (hb hby at_6) rfl (l' := #[.val (.int p1), .val (.long q2), .second, .val (.int p3), .val (.int ((p1 &&& (2147483647 : Int32)) % (3 : Int32))), .unset, .unset, .unset, .unset, .unset, .unset, .unset]) rfl ?_
    show Steps p.tables e below (s₁.setTop (mkF m 8 #[.val (.int p1), .val (.long q2), .second, .val (.int p3), .val (.int ((p1 &&& (2147483647 : Int32)) % (3 : Int32))), .unset, .unset, .unset, .unset, .unset, .unset, .unset] [])) _
    refine XS.iload X0.here hx rfl (hb hby at_8) rfl ?_
    show Steps p.tables e below (s₁.setTop (mkF m 10 #[.val (.int p1), .val (.long q2), .second, .val (.int p3), .val (.int ((p1 &&& (2147483647 : Int32)) % (3 : Int32))), .unset, .unset, .unset, .unset, .unset, .unset, .unset] [(.int ((p1 &&& (2147483647 : Int32)) % (3 : Int32)))])) _
    refine st1 _ ?_
    show Steps p.tables e below (T1.setTop (mkF m 13 #[.val (.int p1), .val (.long q2), .second, .val (.int p3), .val (.int ((p1 &&& (2147483647 : Int32)) % (3 : Int32))), .unset, .unset, .unset, .unset, .unset, .unset, .unset] [(.ref (f1 ((p1 &&& (2147483647 : Int32)) % (3 : Int32)) s_W s_X s_R))])) _
    refine XS.astore X1.here hx rfl (hb hby at_13) rfl rfl (l' := #[.val (.int p1), .val (.long q2), .second, .val (.int p3), .val (.int ((p1 &&& (2147483647 : Int32)) % (3 : Int32))), .val (.ref (f1 ((p1 &&& (2147483647 : Int32)) % (3 : Int32)) s_W s_X s_R)), .unset, .unset, .unset, .unset, .unset, .unset]) rfl ?_
    show Steps p.tables e below (T1.setTop (mkF m 15 #[.val (.int p1), .val (.long q2), .second, .val (.int p3), .val (.int ((p1 &&& (2147483647 : Int32)) % (3 : Int32))), .val (.ref (f1 ((p1 &&& (2147483647 : Int32)) % (3 : Int32)) s_W s_X s_R)), .unset, .unset, .unset, .unset, .unset, .unset] [])) _
    refine XS.iloadN X1.here hx rfl (hb hby at_15) rfl ?_
    show Steps p.tables e below (T1.setTop (mkF m 16 #[.val (.int p1), .val (.long q2), .second, .val (.int p3), .val (.int ((p1 &&& (2147483647 : Int32)) % (3 : Int32))), .val (.ref (f1 ((p1 &&& (2147483647 : Int32)) % (3 : Int32)) s_W s_X s_R)), .unset, .unset, .unset, .unset, .unset, .unset] [(.int p3)])) _
    refine XS.iconst X1.here hx rfl (hb hby at_16) ?_
    show Steps p.tables e below (T1.setTop (mkF m 17 #[.val (.int p1), .val (.long q2), .second, .val (.int p3), .val (.int ((p1 &&& (2147483647 : Int32)) % (3 : Int32))), .val (.ref (f1 ((p1 &&& (2147483647 : Int32)) % (3 : Int32)) s_W s_X s_R)), .unset, .unset, .unset, .unset, .unset, .unset] [(.int (3 : Int32)), (.int p3)])) _
    refine XS.iand X1.here hx rfl (hb hby at_17) rfl ?_
    show Steps p.tables e below (T1.setTop (mkF m 18 #[.val (.int p1), .val (.long q2), .second, .val (.int p3), .val (.int ((p1 &&& (2147483647 : Int32)) % (3 : Int32))), .val (.ref (f1 ((p1 &&& (2147483647 : Int32)) % (3 : Int32)) s_W s_X s_R)), .unset, .unset, .unset, .unset, .unset, .unset] [(.int (p3 &&& (3 : Int32)))])) _
    refine XS.istore X1.here hx rfl (hb hby at_18) rfl (l' := #[.val (.int p1), .val (.long q2), .second, .val (.int p3), .val (.int ((p1 &&& (2147483647 : Int32)) % (3 : Int32))), .val (.ref (f1 ((p1 &&& (2147483647 : Int32)) % (3 : Int32)) s_W s_X s_R)), .val (.int (p3 &&& (3 : Int32))), .unset, .unset, .unset, .unset, .unset]) rfl ?_
    show Steps p.tables e below (T1.setTop (mkF m 20 #[.val (.int p1), .val (.long q2), .second, .val (.int p3), .val (.int ((p1 &&& (2147483647 : Int32)) % (3 : Int32))), .val (.ref (f1 ((p1 &&& (2147483647 : Int32)) % (3 : Int32)) s_W s_X s_R)), .val (.int (p3 &&& (3 : Int32))), .unset, .unset, .unset, .unset, .unset] [])) _
    refine XS.lloadN X1.here hx rfl (hb hby at_20) rfl ?_
    show Steps p.tables e below (T1.setTop (mkF m 21 #[.val (.int p1), .val (.long q2), .second, .val (.int p3), .val (.int ((p1 &&& (2147483647 : Int32)) % (3 : Int32))), .val (.ref (f1 ((p1 &&& (2147483647 : Int32)) % (3 : Int32)) s_W s_X s_R)), .val (.int (p3 &&& (3 : Int32))), .unset, .unset, .unset, .unset, .unset] [(.long q2)])) _
    refine X1.ldc2Long hx hown (mvT hZ (hw _ (List.mem_of_getElem? (i := 8) rfl))) (g := (mkF m 21 #[.val (.int p1), .val (.long q2), .second, .val (.int p3), .val (.int ((p1 &&& (2147483647 : Int32)) % (3 : Int32))), .val (.ref (f1 ((p1 &&& (2147483647 : Int32)) % (3 : Int32)) s_W s_X s_R)), .val (.int (p3 &&& (3 : Int32))), .unset, .unset, .unset, .unset, .unset] [(.long q2)])) rfl (hb hby at_21) _ ?_
    show Steps p.tables e below (T1.setTop (mkF m 24 #[.val (.int p1), .val (.long q2), .second, .val (.int p3), .val (.int ((p1 &&& (2147483647 : Int32)) % (3 : Int32))), .val (.ref (f1 ((p1 &&& (2147483647 : Int32)) % (3 : Int32)) s_W s_X s_R)), .val (.int (p3 &&& (3 : Int32))), .unset, .unset, .unset, .unset, .unset] [(.long (4 : Int64)), (.long q2)])) _
    refine XS.lrem X1.here hx rfl (hb hby at_24) rfl (by decide) ?_
    show Steps p.tables e below (T1.setTop (mkF m 25 #[.val (.int p1), .val (.long q2), .second, .val (.int p3), .val (.int ((p1 &&& (2147483647 : Int32)) % (3 : Int32))), .val (.ref (f1 ((p1 &&& (2147483647 : Int32)) % (3 : Int32)) s_W s_X s_R)), .val (.int (p3 &&& (3 : Int32))), .unset, .unset, .unset, .unset, .unset] [(.long (q2 - (q2 / (4 : Int64)) * (4 : Int64)))])) _
    refine XS.lstore X1.here hx rfl (hb hby at_25) rfl (l' := #[.val (.int p1), .val (.long q2), .second, .val (.int p3), .val (.int ((p1 &&& (2147483647 : Int32)) % (3 : Int32))), .val (.ref (f1 ((p1 &&& (2147483647 : Int32)) % (3 : Int32)) s_W s_X s_R)), .val (.int (p3 &&& (3 : Int32))), .val (.long (q2 - (q2 / (4 : Int64)) * (4 : Int64))), .second, .unset, .unset, .unset]) rfl ?_
    show Steps p.tables e below (T1.setTop (mkF m 27 #[.val (.int p1), .val (.long q2), .second, .val (.int p3), .val (.int ((p1 &&& (2147483647 : Int32)) % (3 : Int32))), .val (.ref (f1 ((p1 &&& (2147483647 : Int32)) % (3 : Int32)) s_W s_X s_R)), .val (.int (p3 &&& (3 : Int32))), .val (.long (q2 - (q2 / (4 : Int64)) * (4 : Int64))), .second, .unset, .unset, .unset] [])) _
    refine XS.iload X1.here hx rfl (hb hby at_27) rfl ?_
    show Steps p.tables e below (T1.setTop (mkF m 29 #[.val (.int p1), .val (.long q2), .second, .val (.int p3), .val (.int ((p1 &&& (2147483647 : Int32)) % (3 : Int32))), .val (.ref (f1 ((p1 &&& (2147483647 : Int32)) % (3 : Int32)) s_W s_X s_R)), .val (.int (p3 &&& (3 : Int32))), .val (.long (q2 - (q2 / (4 : Int64)) * (4 : Int64))), .second, .unset, .unset, .unset] [(.int (p3 &&& (3 : Int32)))])) _
    by_cases hc2 : (p3 &&& (3 : Int32)) = (0 : Int32)
    · refine XS.ifNo X1.here hx rfl (hb hby at_29) rfl ((if0 _ _).trans (teq hc2).2) ?_
      show Steps p.tables e below (T1.setTop (mkF m 32 #[.val (.int p1), .val (.long q2), .second, .val (.int p3), .val (.int ((p1 &&& (2147483647 : Int32)) % (3 : Int32))), .val (.ref (f1 ((p1 &&& (2147483647 : Int32)) % (3 : Int32)) s_W s_X s_R)), .val (.int (p3 &&& (3 : Int32))), .val (.long (q2 - (q2 / (4 : Int64)) * (4 : Int64))), .second, .unset, .unset, .unset] [])) _
      refine XS.lloadN X1.here hx rfl (hb hby at_32) rfl ?_
      show Steps p.tables e below (T1.setTop (mkF m 33 #[.val (.int p1), .val (.long q2), .second, .val (.int p3), .val (.int ((p1 &&& (2147483647 : Int32)) % (3 : Int32))), .val (.ref (f1 ((p1 &&& (2147483647 : Int32)) % (3 : Int32)) s_W s_X s_R)), .val (.int (p3 &&& (3 : Int32))), .val (.long (q2 - (q2 / (4 : Int64)) * (4 : Int64))), .second, .unset, .unset, .unset] [(.long q2)])) _
      refine XS.lstore X1.here hx rfl (hb hby at_33) rfl (l' := #[.val (.int p1), .val (.long q2), .second, .val (.int p3), .val (.int ((p1 &&& (2147483647 : Int32)) % (3 : Int32))), .val (.ref (f1 ((p1 &&& (2147483647 : Int32)) % (3 : Int32)) s_W s_X s_R)), .val (.int (p3 &&& (3 : Int32))), .val (.long (q2 - (q2 / (4 : Int64)) * (4 : Int64))), .second, .val (.long q2), .second, .unset]) rfl ?_
      show Steps p.tables e below (T1.setTop (mkF m 35 #[.val (.int p1), .val (.long q2), .second, .val (.int p3), .val (.int ((p1 &&& (2147483647 : Int32)) % (3 : Int32))), .val (.ref (f1 ((p1 &&& (2147483647 : Int32)) % (3 : Int32)) s_W s_X s_R)), .val (.int (p3 &&& (3 : Int32))), .val (.long (q2 - (q2 / (4 : Int64)) * (4 : Int64))), .second, .val (.long q2), .second, .unset] [])) _
      refine XS.goto X1.here hx rfl (pc0 := 35) (pc' := 98) rfl (hb hby at_35) (by decide) (by decide) ?_
      rw [show v6 = q2 from hv6.trans (if_pos hc2)] at k
      exact k
    · refine XS.ifYes X1.here hx rfl (pc0 := 29) (pc' := 38) rfl (hb hby at_29) rfl ((if0 _ _).trans (feq hc2).2) (by decide) (by decide) ?_
      show Steps p.tables e below (T1.setTop (mkF m 38 #[.val (.int p1), .val (.long q2), .second, .val (.int p3), .val (.int ((p1 &&& (2147483647 : Int32)) % (3 : Int32))), .val (.ref (f1 ((p1 &&& (2147483647 : Int32)) % (3 : Int32)) s_W s_X s_R)), .val (.int (p3 &&& (3 : Int32))), .val (.long (q2 - (q2 / (4 : Int64)) * (4 : Int64))), .second, .unset, .unset, .unset] [])) _
      refine XS.iload X1.here hx rfl (hb hby at_38) rfl ?_
      show Steps p.tables e below (T1.setTop (mkF m 40 #[.val (.int p1), .val (.long q2), .second, .val (.int p3), .val (.int ((p1 &&& (2147483647 : Int32)) % (3 : Int32))), .val (.ref (f1 ((p1 &&& (2147483647 : Int32)) % (3 : Int32)) s_W s_X s_R)), .val (.int (p3 &&& (3 : Int32))), .val (.long (q2 - (q2 / (4 : Int64)) * (4 : Int64))), .second, .unset, .unset, .unset] [(.int (p3 &&& (3 : Int32)))])) _
      refine XS.iconst X1.here hx rfl (hb hby at_40) ?_
      show Steps p.tables e below (T1.setTop (mkF m 41 #[.val (.int p1), .val (.long q2), .second, .val (.int p3), .val (.int ((p1 &&& (2147483647 : Int32)) % (3 : Int32))), .val (.ref (f1 ((p1 &&& (2147483647 : Int32)) % (3 : Int32)) s_W s_X s_R)), .val (.int (p3 &&& (3 : Int32))), .val (.long (q2 - (q2 / (4 : Int64)) * (4 : Int64))), .second, .unset, .unset, .unset] [(.int (1 : Int32)), (.int (p3 &&& (3 : Int32)))])) _
      by_cases hc3 : (p3 &&& (3 : Int32)) = (1 : Int32)
      · refine XS.icmpNo X1.here hx rfl (hb hby at_41) rfl (teq hc3).2 ?_
        show Steps p.tables e below (T1.setTop (mkF m 44 #[.val (.int p1), .val (.long q2), .second, .val (.int p3), .val (.int ((p1 &&& (2147483647 : Int32)) % (3 : Int32))), .val (.ref (f1 ((p1 &&& (2147483647 : Int32)) % (3 : Int32)) s_W s_X s_R)), .val (.int (p3 &&& (3 : Int32))), .val (.long (q2 - (q2 / (4 : Int64)) * (4 : Int64))), .second, .unset, .unset, .unset] [])) _
        refine X1.ldc2Long hx hown (mvT hZ (hw _ (List.mem_of_getElem? (i := 9) rfl))) (g := (mkF m 44 #[.val (.int p1), .val (.long q2), .second, .val (.int p3), .val (.int ((p1 &&& (2147483647 : Int32)) % (3 : Int32))), .val (.ref (f1 ((p1 &&& (2147483647 : Int32)) % (3 : Int32)) s_W s_X s_R)), .val (.int (p3 &&& (3 : Int32))), .val (.long (q2 - (q2 / (4 : Int64)) * (4 : Int64))), .second, .unset, .unset, .unset] [])) rfl (hb hby at_44) _ ?_
        show Steps p.tables e below (T1.setTop (mkF m 47 #[.val (.int p1), .val (.long q2), .second, .val (.int p3), .val (.int ((p1 &&& (2147483647 : Int32)) % (3 : Int32))), .val (.ref (f1 ((p1 &&& (2147483647 : Int32)) % (3 : Int32)) s_W s_X s_R)), .val (.int (p3 &&& (3 : Int32))), .val (.long (q2 - (q2 / (4 : Int64)) * (4 : Int64))), .second, .unset, .unset, .unset] [(.long (-2147483648 : Int64))])) _
        refine XS.lload X1.here hx rfl (hb hby at_47) rfl ?_
        show Steps p.tables e below (T1.setTop (mkF m 49 #[.val (.int p1), .val (.long q2), .second, .val (.int p3), .val (.int ((p1 &&& (2147483647 : Int32)) % (3 : Int32))), .val (.ref (f1 ((p1 &&& (2147483647 : Int32)) % (3 : Int32)) s_W s_X s_R)), .val (.int (p3 &&& (3 : Int32))), .val (.long (q2 - (q2 / (4 : Int64)) * (4 : Int64))), .second, .unset, .unset, .unset] [(.long (q2 - (q2 / (4 : Int64)) * (4 : Int64))), (.long (-2147483648 : Int64))])) _
        refine XS.ladd X1.here hx rfl (hb hby at_49) rfl ?_
        show Steps p.tables e below (T1.setTop (mkF m 50 #[.val (.int p1), .val (.long q2), .second, .val (.int p3), .val (.int ((p1 &&& (2147483647 : Int32)) % (3 : Int32))), .val (.ref (f1 ((p1 &&& (2147483647 : Int32)) % (3 : Int32)) s_W s_X s_R)), .val (.int (p3 &&& (3 : Int32))), .val (.long (q2 - (q2 / (4 : Int64)) * (4 : Int64))), .second, .unset, .unset, .unset] [(.long ((-2147483648 : Int64) + (q2 - (q2 / (4 : Int64)) * (4 : Int64))))])) _
        refine XS.lstore X1.here hx rfl (hb hby at_50) rfl (l' := #[.val (.int p1), .val (.long q2), .second, .val (.int p3), .val (.int ((p1 &&& (2147483647 : Int32)) % (3 : Int32))), .val (.ref (f1 ((p1 &&& (2147483647 : Int32)) % (3 : Int32)) s_W s_X s_R)), .val (.int (p3 &&& (3 : Int32))), .val (.long (q2 - (q2 / (4 : Int64)) * (4 : Int64))), .second, .val (.long ((-2147483648 : Int64) + (q2 - (q2 / (4 : Int64)) * (4 : Int64)))), .second, .unset]) rfl ?_
        show Steps p.tables e below (T1.setTop (mkF m 52 #[.val (.int p1), .val (.long q2), .second, .val (.int p3), .val (.int ((p1 &&& (2147483647 : Int32)) % (3 : Int32))), .val (.ref (f1 ((p1 &&& (2147483647 : Int32)) % (3 : Int32)) s_W s_X s_R)), .val (.int (p3 &&& (3 : Int32))), .val (.long (q2 - (q2 / (4 : Int64)) * (4 : Int64))), .second, .val (.long ((-2147483648 : Int64) + (q2 - (q2 / (4 : Int64)) * (4 : Int64)))), .second, .unset] [])) _
        refine XS.goto X1.here hx rfl (pc0 := 52) (pc' := 98) rfl (hb hby at_52) (by decide) (by decide) ?_
        rw [show v6 = ((-2147483648 : Int64) + (q2 - (q2 / (4 : Int64)) * (4 : Int64))) from hv6.trans ((if_neg hc2).trans (if_pos hc3))] at k
        exact k
      · refine XS.icmpYes X1.here hx rfl (pc0 := 41) (pc' := 55) rfl (hb hby at_41) rfl (feq hc3).2 (by decide) (by decide) ?_
        show Steps p.tables e below (T1.setTop (mkF m 55 #[.val (.int p1), .val (.long q2), .second, .val (.int p3), .val (.int ((p1 &&& (2147483647 : Int32)) % (3 : Int32))), .val (.ref (f1 ((p1 &&& (2147483647 : Int32)) % (3 : Int32)) s_W s_X s_R)), .val (.int (p3 &&& (3 : Int32))), .val (.long (q2 - (q2 / (4 : Int64)) * (4 : Int64))), .second, .unset, .unset, .unset] [])) _
        refine XS.iload X1.here hx rfl (hb hby at_55) rfl ?_
        show Steps p.tables e below (T1.setTop (mkF m 57 #[.val (.int p1), .val (.long q2), .second, .val (.int p3), .val (.int ((p1 &&& (2147483647 : Int32)) % (3 : Int32))), .val (.ref (f1 ((p1 &&& (2147483647 : Int32)) % (3 : Int32)) s_W s_X s_R)), .val (.int (p3 &&& (3 : Int32))), .val (.long (q2 - (q2 / (4 : Int64)) * (4 : Int64))), .second, .unset, .unset, .unset] [(.int (p3 &&& (3 : Int32)))])) _
        refine XS.iconst X1.here hx rfl (hb hby at_57) ?_
        show Steps p.tables e below (T1.setTop (mkF m 58 #[.val (.int p1), .val (.long q2), .second, .val (.int p3), .val (.int ((p1 &&& (2147483647 : Int32)) % (3 : Int32))), .val (.ref (f1 ((p1 &&& (2147483647 : Int32)) % (3 : Int32)) s_W s_X s_R)), .val (.int (p3 &&& (3 : Int32))), .val (.long (q2 - (q2 / (4 : Int64)) * (4 : Int64))), .second, .unset, .unset, .unset] [(.int (2 : Int32)), (.int (p3 &&& (3 : Int32)))])) _
        by_cases hc4 : (p3 &&& (3 : Int32)) = (2 : Int32)
        · refine XS.icmpNo X1.here hx rfl (hb hby at_58) rfl (teq hc4).2 ?_
          show Steps p.tables e below (T1.setTop (mkF m 61 #[.val (.int p1), .val (.long q2), .second, .val (.int p3), .val (.int ((p1 &&& (2147483647 : Int32)) % (3 : Int32))), .val (.ref (f1 ((p1 &&& (2147483647 : Int32)) % (3 : Int32)) s_W s_X s_R)), .val (.int (p3 &&& (3 : Int32))), .val (.long (q2 - (q2 / (4 : Int64)) * (4 : Int64))), .second, .unset, .unset, .unset] [])) _
          refine X1.ldc2Long hx hown (mvT hZ (hw _ (List.mem_of_getElem? (i := 10) rfl))) (g := (mkF m 61 #[.val (.int p1), .val (.long q2), .second, .val (.int p3), .val (.int ((p1 &&& (2147483647 : Int32)) % (3 : Int32))), .val (.ref (f1 ((p1 &&& (2147483647 : Int32)) % (3 : Int32)) s_W s_X s_R)), .val (.int (p3 &&& (3 : Int32))), .val (.long (q2 - (q2 / (4 : Int64)) * (4 : Int64))), .second, .unset, .unset, .unset] [])) rfl (hb hby at_61) _ ?_
          show Steps p.tables e below (T1.setTop (mkF m 64 #[.val (.int p1), .val (.long q2), .second, .val (.int p3), .val (.int ((p1 &&& (2147483647 : Int32)) % (3 : Int32))), .val (.ref (f1 ((p1 &&& (2147483647 : Int32)) % (3 : Int32)) s_W s_X s_R)), .val (.int (p3 &&& (3 : Int32))), .val (.long (q2 - (q2 / (4 : Int64)) * (4 : Int64))), .second, .unset, .unset, .unset] [(.long (4294967295 : Int64))])) _
          refine XS.lload X1.here hx rfl (hb hby at_64) rfl ?_
          show Steps p.tables e below (T1.setTop (mkF m 66 #[.val (.int p1), .val (.long q2), .second, .val (.int p3), .val (.int ((p1 &&& (2147483647 : Int32)) % (3 : Int32))), .val (.ref (f1 ((p1 &&& (2147483647 : Int32)) % (3 : Int32)) s_W s_X s_R)), .val (.int (p3 &&& (3 : Int32))), .val (.long (q2 - (q2 / (4 : Int64)) * (4 : Int64))), .second, .unset, .unset, .unset] [(.long (q2 - (q2 / (4 : Int64)) * (4 : Int64))), (.long (4294967295 : Int64))])) _
          refine XS.ladd X1.here hx rfl (hb hby at_66) rfl ?_
          show Steps p.tables e below (T1.setTop (mkF m 67 #[.val (.int p1), .val (.long q2), .second, .val (.int p3), .val (.int ((p1 &&& (2147483647 : Int32)) % (3 : Int32))), .val (.ref (f1 ((p1 &&& (2147483647 : Int32)) % (3 : Int32)) s_W s_X s_R)), .val (.int (p3 &&& (3 : Int32))), .val (.long (q2 - (q2 / (4 : Int64)) * (4 : Int64))), .second, .unset, .unset, .unset] [(.long ((4294967295 : Int64) + (q2 - (q2 / (4 : Int64)) * (4 : Int64))))])) _
          refine XS.lstore X1.here hx rfl (hb hby at_67) rfl (l' := #[.val (.int p1), .val (.long q2), .second, .val (.int p3), .val (.int ((p1 &&& (2147483647 : Int32)) % (3 : Int32))), .val (.ref (f1 ((p1 &&& (2147483647 : Int32)) % (3 : Int32)) s_W s_X s_R)), .val (.int (p3 &&& (3 : Int32))), .val (.long (q2 - (q2 / (4 : Int64)) * (4 : Int64))), .second, .val (.long ((4294967295 : Int64) + (q2 - (q2 / (4 : Int64)) * (4 : Int64)))), .second, .unset]) rfl ?_
          show Steps p.tables e below (T1.setTop (mkF m 69 #[.val (.int p1), .val (.long q2), .second, .val (.int p3), .val (.int ((p1 &&& (2147483647 : Int32)) % (3 : Int32))), .val (.ref (f1 ((p1 &&& (2147483647 : Int32)) % (3 : Int32)) s_W s_X s_R)), .val (.int (p3 &&& (3 : Int32))), .val (.long (q2 - (q2 / (4 : Int64)) * (4 : Int64))), .second, .val (.long ((4294967295 : Int64) + (q2 - (q2 / (4 : Int64)) * (4 : Int64)))), .second, .unset] [])) _
          refine XS.goto X1.here hx rfl (pc0 := 69) (pc' := 98) rfl (hb hby at_69) (by decide) (by decide) ?_
          rw [show v6 = ((4294967295 : Int64) + (q2 - (q2 / (4 : Int64)) * (4 : Int64))) from hv6.trans ((if_neg hc2).trans ((if_neg hc3).trans (if_pos hc4)))] at k
          exact k
        · refine XS.icmpYes X1.here hx rfl (pc0 := 58) (pc' := 72) rfl (hb hby at_58) rfl (feq hc4).2 (by decide) (by decide) ?_
          show Steps p.tables e below (T1.setTop (mkF m 72 #[.val (.int p1), .val (.long q2), .second, .val (.int p3), .val (.int ((p1 &&& (2147483647 : Int32)) % (3 : Int32))), .val (.ref (f1 ((p1 &&& (2147483647 : Int32)) % (3 : Int32)) s_W s_X s_R)), .val (.int (p3 &&& (3 : Int32))), .val (.long (q2 - (q2 / (4 : Int64)) * (4 : Int64))), .second, .unset, .unset, .unset] [])) _
          refine XS.lload X1.here hx rfl (hb hby at_72) rfl ?_
          show Steps p.tables e below (T1.setTop (mkF m 74 #[.val (.int p1), .val (.long q2), .second, .val (.int p3), .val (.int ((p1 &&& (2147483647 : Int32)) % (3 : Int32))), .val (.ref (f1 ((p1 &&& (2147483647 : Int32)) % (3 : Int32)) s_W s_X s_R)), .val (.int (p3 &&& (3 : Int32))), .val (.long (q2 - (q2 / (4 : Int64)) * (4 : Int64))), .second, .unset, .unset, .unset] [(.long (q2 - (q2 / (4 : Int64)) * (4 : Int64)))])) _
          refine XS.lconst X1.here hx rfl (hb hby at_74) ?_
          show Steps p.tables e below (T1.setTop (mkF m 75 #[.val (.int p1), .val (.long q2), .second, .val (.int p3), .val (.int ((p1 &&& (2147483647 : Int32)) % (3 : Int32))), .val (.ref (f1 ((p1 &&& (2147483647 : Int32)) % (3 : Int32)) s_W s_X s_R)), .val (.int (p3 &&& (3 : Int32))), .val (.long (q2 - (q2 / (4 : Int64)) * (4 : Int64))), .second, .unset, .unset, .unset] [(.long (0 : Int64)), (.long (q2 - (q2 / (4 : Int64)) * (4 : Int64)))])) _
          refine XS.lcmp X1.here hx rfl (hb hby at_75) rfl ?_
          show Steps p.tables e below (T1.setTop (mkF m 76 #[.val (.int p1), .val (.long q2), .second, .val (.int p3), .val (.int ((p1 &&& (2147483647 : Int32)) % (3 : Int32))), .val (.ref (f1 ((p1 &&& (2147483647 : Int32)) % (3 : Int32)) s_W s_X s_R)), .val (.int (p3 &&& (3 : Int32))), .val (.long (q2 - (q2 / (4 : Int64)) * (4 : Int64))), .second, .unset, .unset, .unset] [(.int (lcmpW (q2 - (q2 / (4 : Int64)) * (4 : Int64)) (0 : Int64)))])) _
          by_cases hc5 : (q2 - (q2 / (4 : Int64)) * (4 : Int64)) < (0 : Int64)
          · refine XS.ifNo X1.here hx rfl (hb hby at_76) rfl ((if0 _ _).trans (tlt (own_lc_tlt hc5)).2.1) ?_
            show Steps p.tables e below (T1.setTop (mkF m 79 #[.val (.int p1), .val (.long q2), .second, .val (.int p3), .val (.int ((p1 &&& (2147483647 : Int32)) % (3 : Int32))), .val (.ref (f1 ((p1 &&& (2147483647 : Int32)) % (3 : Int32)) s_W s_X s_R)), .val (.int (p3 &&& (3 : Int32))), .val (.long (q2 - (q2 / (4 : Int64)) * (4 : Int64))), .second, .unset, .unset, .unset] [])) _
            refine X1.ldc2Long hx hown (mvT hZ (hw _ (List.mem_of_getElem? (i := 23) rfl))) (g := (mkF m 79 #[.val (.int p1), .val (.long q2), .second, .val (.int p3), .val (.int ((p1 &&& (2147483647 : Int32)) % (3 : Int32))), .val (.ref (f1 ((p1 &&& (2147483647 : Int32)) % (3 : Int32)) s_W s_X s_R)), .val (.int (p3 &&& (3 : Int32))), .val (.long (q2 - (q2 / (4 : Int64)) * (4 : Int64))), .second, .unset, .unset, .unset] [])) rfl (hb hby at_79) _ ?_
            show Steps p.tables e below (T1.setTop (mkF m 82 #[.val (.int p1), .val (.long q2), .second, .val (.int p3), .val (.int ((p1 &&& (2147483647 : Int32)) % (3 : Int32))), .val (.ref (f1 ((p1 &&& (2147483647 : Int32)) % (3 : Int32)) s_W s_X s_R)), .val (.int (p3 &&& (3 : Int32))), .val (.long (q2 - (q2 / (4 : Int64)) * (4 : Int64))), .second, .unset, .unset, .unset] [(.long (9223372036854775807 : Int64))])) _
            refine XS.lload X1.here hx rfl (hb hby at_82) rfl ?_
            show Steps p.tables e below (T1.setTop (mkF m 84 #[.val (.int p1), .val (.long q2), .second, .val (.int p3), .val (.int ((p1 &&& (2147483647 : Int32)) % (3 : Int32))), .val (.ref (f1 ((p1 &&& (2147483647 : Int32)) % (3 : Int32)) s_W s_X s_R)), .val (.int (p3 &&& (3 : Int32))), .val (.long (q2 - (q2 / (4 : Int64)) * (4 : Int64))), .second, .unset, .unset, .unset] [(.long (q2 - (q2 / (4 : Int64)) * (4 : Int64))), (.long (9223372036854775807 : Int64))])) _
            refine XS.ladd X1.here hx rfl (hb hby at_84) rfl ?_
            show Steps p.tables e below (T1.setTop (mkF m 85 #[.val (.int p1), .val (.long q2), .second, .val (.int p3), .val (.int ((p1 &&& (2147483647 : Int32)) % (3 : Int32))), .val (.ref (f1 ((p1 &&& (2147483647 : Int32)) % (3 : Int32)) s_W s_X s_R)), .val (.int (p3 &&& (3 : Int32))), .val (.long (q2 - (q2 / (4 : Int64)) * (4 : Int64))), .second, .unset, .unset, .unset] [(.long ((9223372036854775807 : Int64) + (q2 - (q2 / (4 : Int64)) * (4 : Int64))))])) _
            refine XS.lstore X1.here hx rfl (hb hby at_85) rfl (l' := #[.val (.int p1), .val (.long q2), .second, .val (.int p3), .val (.int ((p1 &&& (2147483647 : Int32)) % (3 : Int32))), .val (.ref (f1 ((p1 &&& (2147483647 : Int32)) % (3 : Int32)) s_W s_X s_R)), .val (.int (p3 &&& (3 : Int32))), .val (.long (q2 - (q2 / (4 : Int64)) * (4 : Int64))), .second, .val (.long ((9223372036854775807 : Int64) + (q2 - (q2 / (4 : Int64)) * (4 : Int64)))), .second, .unset]) rfl ?_
            show Steps p.tables e below (T1.setTop (mkF m 87 #[.val (.int p1), .val (.long q2), .second, .val (.int p3), .val (.int ((p1 &&& (2147483647 : Int32)) % (3 : Int32))), .val (.ref (f1 ((p1 &&& (2147483647 : Int32)) % (3 : Int32)) s_W s_X s_R)), .val (.int (p3 &&& (3 : Int32))), .val (.long (q2 - (q2 / (4 : Int64)) * (4 : Int64))), .second, .val (.long ((9223372036854775807 : Int64) + (q2 - (q2 / (4 : Int64)) * (4 : Int64)))), .second, .unset] [])) _
            refine XS.goto X1.here hx rfl (pc0 := 87) (pc' := 98) rfl (hb hby at_87) (by decide) (by decide) ?_
            rw [show v6 = ((9223372036854775807 : Int64) + (q2 - (q2 / (4 : Int64)) * (4 : Int64))) from hv6.trans ((if_neg hc2).trans ((if_neg hc3).trans ((if_neg hc4).trans (if_pos hc5))))] at k
            exact k
          · refine XS.ifYes X1.here hx rfl (pc0 := 76) (pc' := 90) rfl (hb hby at_76) rfl ((if0 _ _).trans (flt (own_lc_flt hc5)).2.1) (by decide) (by decide) ?_
            show Steps p.tables e below (T1.setTop (mkF m 90 #[.val (.int p1), .val (.long q2), .second, .val (.int p3), .val (.int ((p1 &&& (2147483647 : Int32)) % (3 : Int32))), .val (.ref (f1 ((p1 &&& (2147483647 : Int32)) % (3 : Int32)) s_W s_X s_R)), .val (.int (p3 &&& (3 : Int32))), .val (.long (q2 - (q2 / (4 : Int64)) * (4 : Int64))), .second, .unset, .unset, .unset] [])) _
            refine X1.ldc2Long hx hown (mvT hZ (hw _ (List.mem_of_getElem? (i := 22) rfl))) (g := (mkF m 90 #[.val (.int p1), .val (.long q2), .second, .val (.int p3), .val (.int ((p1 &&& (2147483647 : Int32)) % (3 : Int32))), .val (.ref (f1 ((p1 &&& (2147483647 : Int32)) % (3 : Int32)) s_W s_X s_R)), .val (.int (p3 &&& (3 : Int32))), .val (.long (q2 - (q2 / (4 : Int64)) * (4 : Int64))), .second, .unset, .unset, .unset] [])) rfl (hb hby at_90) _ ?_
            show Steps p.tables e below (T1.setTop (mkF m 93 #[.val (.int p1), .val (.long q2), .second, .val (.int p3), .val (.int ((p1 &&& (2147483647 : Int32)) % (3 : Int32))), .val (.ref (f1 ((p1 &&& (2147483647 : Int32)) % (3 : Int32)) s_W s_X s_R)), .val (.int (p3 &&& (3 : Int32))), .val (.long (q2 - (q2 / (4 : Int64)) * (4 : Int64))), .second, .unset, .unset, .unset] [(.long (-9223372036854775808 : Int64))])) _
            refine XS.lload X1.here hx rfl (hb hby at_93) rfl ?_
            show Steps p.tables e below (T1.setTop (mkF m 95 #[.val (.int p1), .val (.long q2), .second, .val (.int p3), .val (.int ((p1 &&& (2147483647 : Int32)) % (3 : Int32))), .val (.ref (f1 ((p1 &&& (2147483647 : Int32)) % (3 : Int32)) s_W s_X s_R)), .val (.int (p3 &&& (3 : Int32))), .val (.long (q2 - (q2 / (4 : Int64)) * (4 : Int64))), .second, .unset, .unset, .unset] [(.long (q2 - (q2 / (4 : Int64)) * (4 : Int64))), (.long (-9223372036854775808 : Int64))])) _
            refine XS.ladd X1.here hx rfl (hb hby at_95) rfl ?_
            show Steps p.tables e below (T1.setTop (mkF m 96 #[.val (.int p1), .val (.long q2), .second, .val (.int p3), .val (.int ((p1 &&& (2147483647 : Int32)) % (3 : Int32))), .val (.ref (f1 ((p1 &&& (2147483647 : Int32)) % (3 : Int32)) s_W s_X s_R)), .val (.int (p3 &&& (3 : Int32))), .val (.long (q2 - (q2 / (4 : Int64)) * (4 : Int64))), .second, .unset, .unset, .unset] [(.long ((-9223372036854775808 : Int64) + (q2 - (q2 / (4 : Int64)) * (4 : Int64))))])) _
            refine XS.lstore X1.here hx rfl (hb hby at_96) rfl (l' := #[.val (.int p1), .val (.long q2), .second, .val (.int p3), .val (.int ((p1 &&& (2147483647 : Int32)) % (3 : Int32))), .val (.ref (f1 ((p1 &&& (2147483647 : Int32)) % (3 : Int32)) s_W s_X s_R)), .val (.int (p3 &&& (3 : Int32))), .val (.long (q2 - (q2 / (4 : Int64)) * (4 : Int64))), .second, .val (.long ((-9223372036854775808 : Int64) + (q2 - (q2 / (4 : Int64)) * (4 : Int64)))), .second, .unset]) rfl ?_
            rw [show v6 = ((-9223372036854775808 : Int64) + (q2 - (q2 / (4 : Int64)) * (4 : Int64))) from hv6.trans ((if_neg hc2).trans ((if_neg hc3).trans ((if_neg hc4).trans (if_neg hc5))))] at k
            exact k)
  obtain ⟨v11, hv11⟩ : ∃ z : Int32, z = (if ((p1 &&& (2147483647 : Int32)) % (3 : Int32)) = (1 : Int32) then (1 : Int32) else (if v6 < (-2147483648 : Int64) then (0 : Int32) else (if (4294967295 : Int64) < v6 then (0 : Int32) else (1 : Int32)))) := ⟨_, rfl⟩
  have pre12 : ∀ t, Steps p.tables e below (T1.setTop (mkF m 127 #[.val (.int p1), .val (.long q2), .second, .val (.int p3), .val (.int ((p1 &&& (2147483647 : Int32)) % (3 : Int32))), .val (.ref (f1 ((p1 &&& (2147483647 : Int32)) % (3 : Int32)) s_W s_X s_R)), .val (.int (p3 &&& (3 : Int32))), .val (.long (q2 - (q2 / (4 : Int64)) * (4 : Int64))), .second, .val (.long v6), .second, .unset] [(.int v11)])) t → Steps p.tables e below (s₁.setTop (entryFrame m #[(.int p1), (.long q2), (.int p3)] maxLocals)) t := fun t k => pre7 t (by
    show Steps p.tables e below (T1.setTop (mkF m 98 #[.val (.int p1), .val (.long q2), .second, .val (.int p3), .val (.int ((p1 &&& (2147483647 : Int32)) % (3 : Int32))), .val (.ref (f1 ((p1 &&& (2147483647 : Int32)) % (3 : Int32)) s_W s_X s_R)), .val (.int (p3 &&& (3 : Int32))), .val (.long (q2 - (q2 / (4 : Int64)) * (4 : Int64))), .second, .val (.long v6), .second, .unset] [])) _
    refine XS.iload X1.here hx rfl (hb hby at_98) rfl ?_
    show Steps p.tables e below (T1.setTop (mkF m 100 #[.val (.int p1), .val (.long q2), .second, .val (.int p3), .val (.int ((p1 &&& (2147483647 : Int32)) % (3 : Int32))), .val (.ref (f1 ((p1 &&& (2147483647 : Int32)) % (3 : Int32)) s_W s_X s_R)), .val (.int (p3 &&& (3 : Int32))), .val (.long (q2 - (q2 / (4 : Int64)) * (4 : Int64))), .second, .val (.long v6), .second, .unset] [(.int ((p1 &&& (2147483647 : Int32)) % (3 : Int32)))])) _
    refine XS.iconst X1.here hx rfl (hb hby at_100) ?_
    show Steps p.tables e below (T1.setTop (mkF m 101 #[.val (.int p1), .val (.long q2), .second, .val (.int p3), .val (.int ((p1 &&& (2147483647 : Int32)) % (3 : Int32))), .val (.ref (f1 ((p1 &&& (2147483647 : Int32)) % (3 : Int32)) s_W s_X s_R)), .val (.int (p3 &&& (3 : Int32))), .val (.long (q2 - (q2 / (4 : Int64)) * (4 : Int64))), .second, .val (.long v6), .second, .unset] [(.int (1 : Int32)), (.int ((p1 &&& (2147483647 : Int32)) % (3 : Int32)))])) _
    by_cases hc8 : ((p1 &&& (2147483647 : Int32)) % (3 : Int32)) = (1 : Int32)
    · refine XS.icmpYes X1.here hx rfl (pc0 := 101) (pc' := 122) rfl (hb hby at_101) rfl (teq hc8).1 (by decide) (by decide) ?_
      show Steps p.tables e below (T1.setTop (mkF m 122 #[.val (.int p1), .val (.long q2), .second, .val (.int p3), .val (.int ((p1 &&& (2147483647 : Int32)) % (3 : Int32))), .val (.ref (f1 ((p1 &&& (2147483647 : Int32)) % (3 : Int32)) s_W s_X s_R)), .val (.int (p3 &&& (3 : Int32))), .val (.long (q2 - (q2 / (4 : Int64)) * (4 : Int64))), .second, .val (.long v6), .second, .unset] [])) _
      refine XS.iconst X1.here hx rfl (hb hby at_122) ?_
      show Steps p.tables e below (T1.setTop (mkF m 123 #[.val (.int p1), .val (.long q2), .second, .val (.int p3), .val (.int ((p1 &&& (2147483647 : Int32)) % (3 : Int32))), .val (.ref (f1 ((p1 &&& (2147483647 : Int32)) % (3 : Int32)) s_W s_X s_R)), .val (.int (p3 &&& (3 : Int32))), .val (.long (q2 - (q2 / (4 : Int64)) * (4 : Int64))), .second, .val (.long v6), .second, .unset] [(.int (1 : Int32))])) _
      refine XS.goto X1.here hx rfl (pc0 := 123) (pc' := 127) rfl (hb hby at_123) (by decide) (by decide) ?_
      rw [show v11 = (1 : Int32) from hv11.trans (if_pos hc8)] at k
      exact k
    · refine XS.icmpNo X1.here hx rfl (hb hby at_101) rfl (feq hc8).1 ?_
      show Steps p.tables e below (T1.setTop (mkF m 104 #[.val (.int p1), .val (.long q2), .second, .val (.int p3), .val (.int ((p1 &&& (2147483647 : Int32)) % (3 : Int32))), .val (.ref (f1 ((p1 &&& (2147483647 : Int32)) % (3 : Int32)) s_W s_X s_R)), .val (.int (p3 &&& (3 : Int32))), .val (.long (q2 - (q2 / (4 : Int64)) * (4 : Int64))), .second, .val (.long v6), .second, .unset] [])) _
      refine XS.lload X1.here hx rfl (hb hby at_104) rfl ?_
      show Steps p.tables e below (T1.setTop (mkF m 106 #[.val (.int p1), .val (.long q2), .second, .val (.int p3), .val (.int ((p1 &&& (2147483647 : Int32)) % (3 : Int32))), .val (.ref (f1 ((p1 &&& (2147483647 : Int32)) % (3 : Int32)) s_W s_X s_R)), .val (.int (p3 &&& (3 : Int32))), .val (.long (q2 - (q2 / (4 : Int64)) * (4 : Int64))), .second, .val (.long v6), .second, .unset] [(.long v6)])) _
      refine X1.ldc2Long hx hown (mvT hZ (hw _ (List.mem_of_getElem? (i := 9) rfl))) (g := (mkF m 106 #[.val (.int p1), .val (.long q2), .second, .val (.int p3), .val (.int ((p1 &&& (2147483647 : Int32)) % (3 : Int32))), .val (.ref (f1 ((p1 &&& (2147483647 : Int32)) % (3 : Int32)) s_W s_X s_R)), .val (.int (p3 &&& (3 : Int32))), .val (.long (q2 - (q2 / (4 : Int64)) * (4 : Int64))), .second, .val (.long v6), .second, .unset] [(.long v6)])) rfl (hb hby at_106) _ ?_
      show Steps p.tables e below (T1.setTop (mkF m 109 #[.val (.int p1), .val (.long q2), .second, .val (.int p3), .val (.int ((p1 &&& (2147483647 : Int32)) % (3 : Int32))), .val (.ref (f1 ((p1 &&& (2147483647 : Int32)) % (3 : Int32)) s_W s_X s_R)), .val (.int (p3 &&& (3 : Int32))), .val (.long (q2 - (q2 / (4 : Int64)) * (4 : Int64))), .second, .val (.long v6), .second, .unset] [(.long (-2147483648 : Int64)), (.long v6)])) _
      refine XS.lcmp X1.here hx rfl (hb hby at_109) rfl ?_
      show Steps p.tables e below (T1.setTop (mkF m 110 #[.val (.int p1), .val (.long q2), .second, .val (.int p3), .val (.int ((p1 &&& (2147483647 : Int32)) % (3 : Int32))), .val (.ref (f1 ((p1 &&& (2147483647 : Int32)) % (3 : Int32)) s_W s_X s_R)), .val (.int (p3 &&& (3 : Int32))), .val (.long (q2 - (q2 / (4 : Int64)) * (4 : Int64))), .second, .val (.long v6), .second, .unset] [(.int (lcmpW v6 (-2147483648 : Int64)))])) _
      by_cases hc9 : v6 < (-2147483648 : Int64)
      · refine XS.ifYes X1.here hx rfl (pc0 := 110) (pc' := 126) rfl (hb hby at_110) rfl ((if0 _ _).trans (tlt (own_lc_tlt hc9)).1) (by decide) (by decide) ?_
        show Steps p.tables e below (T1.setTop (mkF m 126 #[.val (.int p1), .val (.long q2), .second, .val (.int p3), .val (.int ((p1 &&& (2147483647 : Int32)) % (3 : Int32))), .val (.ref (f1 ((p1 &&& (2147483647 : Int32)) % (3 : Int32)) s_W s_X s_R)), .val (.int (p3 &&& (3 : Int32))), .val (.long (q2 - (q2 / (4 : Int64)) * (4 : Int64))), .second, .val (.long v6), .second, .unset] [])) _
        refine XS.iconst X1.here hx rfl (hb hby at_126) ?_
        rw [show v11 = (0 : Int32) from hv11.trans ((if_neg hc8).trans (if_pos hc9))] at k
        exact k
      · refine XS.ifNo X1.here hx rfl (hb hby at_110) rfl ((if0 _ _).trans (flt (own_lc_flt hc9)).1) ?_
        show Steps p.tables e below (T1.setTop (mkF m 113 #[.val (.int p1), .val (.long q2), .second, .val (.int p3), .val (.int ((p1 &&& (2147483647 : Int32)) % (3 : Int32))), .val (.ref (f1 ((p1 &&& (2147483647 : Int32)) % (3 : Int32)) s_W s_X s_R)), .val (.int (p3 &&& (3 : Int32))), .val (.long (q2 - (q2 / (4 : Int64)) * (4 : Int64))), .second, .val (.long v6), .second, .unset] [])) _
        refine XS.lload X1.here hx rfl (hb hby at_113) rfl ?_
        show Steps p.tables e below (T1.setTop (mkF m 115 #[.val (.int p1), .val (.long q2), .second, .val (.int p3), .val (.int ((p1 &&& (2147483647 : Int32)) % (3 : Int32))), .val (.ref (f1 ((p1 &&& (2147483647 : Int32)) % (3 : Int32)) s_W s_X s_R)), .val (.int (p3 &&& (3 : Int32))), .val (.long (q2 - (q2 / (4 : Int64)) * (4 : Int64))), .second, .val (.long v6), .second, .unset] [(.long v6)])) _
        refine X1.ldc2Long hx hown (mvT hZ (hw _ (List.mem_of_getElem? (i := 10) rfl))) (g := (mkF m 115 #[.val (.int p1), .val (.long q2), .second, .val (.int p3), .val (.int ((p1 &&& (2147483647 : Int32)) % (3 : Int32))), .val (.ref (f1 ((p1 &&& (2147483647 : Int32)) % (3 : Int32)) s_W s_X s_R)), .val (.int (p3 &&& (3 : Int32))), .val (.long (q2 - (q2 / (4 : Int64)) * (4 : Int64))), .second, .val (.long v6), .second, .unset] [(.long v6)])) rfl (hb hby at_115) _ ?_
        show Steps p.tables e below (T1.setTop (mkF m 118 #[.val (.int p1), .val (.long q2), .second, .val (.int p3), .val (.int ((p1 &&& (2147483647 : Int32)) % (3 : Int32))), .val (.ref (f1 ((p1 &&& (2147483647 : Int32)) % (3 : Int32)) s_W s_X s_R)), .val (.int (p3 &&& (3 : Int32))), .val (.long (q2 - (q2 / (4 : Int64)) * (4 : Int64))), .second, .val (.long v6), .second, .unset] [(.long (4294967295 : Int64)), (.long v6)])) _
        refine XS.lcmp X1.here hx rfl (hb hby at_118) rfl ?_
        show Steps p.tables e below (T1.setTop (mkF m 119 #[.val (.int p1), .val (.long q2), .second, .val (.int p3), .val (.int ((p1 &&& (2147483647 : Int32)) % (3 : Int32))), .val (.ref (f1 ((p1 &&& (2147483647 : Int32)) % (3 : Int32)) s_W s_X s_R)), .val (.int (p3 &&& (3 : Int32))), .val (.long (q2 - (q2 / (4 : Int64)) * (4 : Int64))), .second, .val (.long v6), .second, .unset] [(.int (lcmpW v6 (4294967295 : Int64)))])) _
        by_cases hc10 : (4294967295 : Int64) < v6
        · refine XS.ifYes X1.here hx rfl (pc0 := 119) (pc' := 126) rfl (hb hby at_119) rfl ((if0 _ _).trans (tlt (own_lc_tgt hc10)).2.2.1) (by decide) (by decide) ?_
          show Steps p.tables e below (T1.setTop (mkF m 126 #[.val (.int p1), .val (.long q2), .second, .val (.int p3), .val (.int ((p1 &&& (2147483647 : Int32)) % (3 : Int32))), .val (.ref (f1 ((p1 &&& (2147483647 : Int32)) % (3 : Int32)) s_W s_X s_R)), .val (.int (p3 &&& (3 : Int32))), .val (.long (q2 - (q2 / (4 : Int64)) * (4 : Int64))), .second, .val (.long v6), .second, .unset] [])) _
          refine XS.iconst X1.here hx rfl (hb hby at_126) ?_
          rw [show v11 = (0 : Int32) from hv11.trans ((if_neg hc8).trans ((if_neg hc9).trans (if_pos hc10)))] at k
          exact k
        · refine XS.ifNo X1.here hx rfl (hb hby at_119) rfl ((if0 _ _).trans (flt (own_lc_fgt hc10)).2.2.1) ?_
          show Steps p.tables e below (T1.setTop (mkF m 122 #[.val (.int p1), .val (.long q2), .second, .val (.int p3), .val (.int ((p1 &&& (2147483647 : Int32)) % (3 : Int32))), .val (.ref (f1 ((p1 &&& (2147483647 : Int32)) % (3 : Int32)) s_W s_X s_R)), .val (.int (p3 &&& (3 : Int32))), .val (.long (q2 - (q2 / (4 : Int64)) * (4 : Int64))), .second, .val (.long v6), .second, .unset] [])) _
          refine XS.iconst X1.here hx rfl (hb hby at_122) ?_
          show Steps p.tables e below (T1.setTop (mkF m 123 #[.val (.int p1), .val (.long q2), .second, .val (.int p3), .val (.int ((p1 &&& (2147483647 : Int32)) % (3 : Int32))), .val (.ref (f1 ((p1 &&& (2147483647 : Int32)) % (3 : Int32)) s_W s_X s_R)), .val (.int (p3 &&& (3 : Int32))), .val (.long (q2 - (q2 / (4 : Int64)) * (4 : Int64))), .second, .val (.long v6), .second, .unset] [(.int (1 : Int32))])) _
          refine XS.goto X1.here hx rfl (pc0 := 123) (pc' := 127) rfl (hb hby at_123) (by decide) (by decide) ?_
          rw [show v11 = (1 : Int32) from hv11.trans ((if_neg hc8).trans ((if_neg hc9).trans (if_neg hc10)))] at k
          exact k)
  obtain ⟨cq13, kq13, q13a, q13b, q13c⟩ := isOf hZ e1 E_o1
  obtain ⟨_, _, ⟨T13, L13, k13, n13⟩, -, X13, ⟨Lc13, hQ13, l13, y13, z13⟩, st13⟩ := X1.virtualBack hx (y := (⟨"com/example/fenceline/fenceline/model/Register$Width", "holds", "(J)Z"⟩ : MethodName)) (z := (⟨"com/example/fenceline/fenceline/model/Register$Width", "holds", "(J)Z"⟩ : MethodName)) hown (mvT hZ (hw _ (List.mem_of_getElem? (i := 11) rfl))) (mvT hZ (hw _ (List.mem_of_getElem? (i := 12) rfl))) (notFace_of_selects (args := #[]) (mvT hZ (hw _ (List.mem_of_getElem? (i := 14) rfl)))) (mvT hZ (hw _ (List.mem_of_getElem? (i := 14) rfl))) (mvT hZ (hw _ (List.mem_of_getElem? (i := 13) rfl))) (by decide) (backOf (W := 0) (rm2 l Z a0 hw [] (f1 ((p1 &&& (2147483647 : Int32)) % (3 : Int32)) s_W s_X s_R) v6 f_bits_o1 h0 n0 Z0 F_bits_o1) hZ (hw _ (List.mem_of_getElem? (i := 15) rfl)) (hw _ (List.mem_of_getElem? (i := 6) rfl)) (by decide) (by decide)) q13a q13c (g := (mkF m 133 #[.val (.int p1), .val (.long q2), .second, .val (.int p3), .val (.int ((p1 &&& (2147483647 : Int32)) % (3 : Int32))), .val (.ref (f1 ((p1 &&& (2147483647 : Int32)) % (3 : Int32)) s_W s_X s_R)), .val (.int (p3 &&& (3 : Int32))), .val (.long (q2 - (q2 / (4 : Int64)) * (4 : Int64))), .second, .val (.long v6), .second, .val (.int v11)] [(.long v6), (.ref (f1 ((p1 &&& (2147483647 : Int32)) % (3 : Int32)) s_W s_X s_R))])) rfl (by rw [hml]; rfl) (Steps.refl _) (argsL := [(.long v6)]) (rest := []) (lenOf pd_1 rfl) rfl (by show 2 * 0 + _ ≤ _; exact Nat.le_of_eq rfl) (hb hby at_133) (fun _ _ => ⟨rfl, e1, (by decide : 0 + 0 ≤ _), (by decide : 0 + 0 ≤ _)⟩)
  dsimp only [Pt.U, Pt.locs, Pt.cells, Pt.slots] at X13 l13 y13 z13 st13 hQ13
  subst l13 y13 z13
  obtain ⟨rfl, N13q, e13⟩ := hQ13
  have N13 := Fr.app N1 N13q
  obtain ⟨v15, hv15⟩ : ∃ z : Int32, z = (if (f2 v6 f_bits_o1) = v11 then (1 : Int32) else (0 : Int32)) := ⟨_, rfl⟩
  have pre16 : ∀ t, Steps p.tables e below (T13.setTop (mkF m 146 #[.val (.int p1), .val (.long q2), .second, .val (.int p3), .val (.int ((p1 &&& (2147483647 : Int32)) % (3 : Int32))), .val (.ref (f1 ((p1 &&& (2147483647 : Int32)) % (3 : Int32)) s_W s_X s_R)), .val (.int (p3 &&& (3 : Int32))), .val (.long (q2 - (q2 / (4 : Int64)) * (4 : Int64))), .second, .val (.long v6), .second, .val (.int v11)] [(.int v15)])) t → Steps p.tables e below (s₁.setTop (entryFrame m #[(.int p1), (.long q2), (.int p3)] maxLocals)) t := fun t k => pre12 t (by
    show Steps p.tables e below (T1.setTop (mkF m 127 #[.val (.int p1), .val (.long q2), .second, .val (.int p3), .val (.int ((p1 &&& (2147483647 : Int32)) % (3 : Int32))), .val (.ref (f1 ((p1 &&& (2147483647 : Int32)) % (3 : Int32)) s_W s_X s_R)), .val (.int (p3 &&& (3 : Int32))), .val (.long (q2 - (q2 / (4 : Int64)) * (4 : Int64))), .second, .val (.long v6), .second, .unset] [(.int v11)])) _
    refine XS.istore X1.here hx rfl (hb hby at_127) rfl (l' := #[.val (.int p1), .val (.long q2), .second, .val (.int p3), .val (.int ((p1 &&& (2147483647 : Int32)) % (3 : Int32))), .val (.ref (f1 ((p1 &&& (2147483647 : Int32)) % (3 : Int32)) s_W s_X s_R)), .val (.int (p3 &&& (3 : Int32))), .val (.long (q2 - (q2 / (4 : Int64)) * (4 : Int64))), .second, .val (.long v6), .second, .val (.int v11)]) rfl ?_
    show Steps p.tables e below (T1.setTop (mkF m 129 #[.val (.int p1), .val (.long q2), .second, .val (.int p3), .val (.int ((p1 &&& (2147483647 : Int32)) % (3 : Int32))), .val (.ref (f1 ((p1 &&& (2147483647 : Int32)) % (3 : Int32)) s_W s_X s_R)), .val (.int (p3 &&& (3 : Int32))), .val (.long (q2 - (q2 / (4 : Int64)) * (4 : Int64))), .second, .val (.long v6), .second, .val (.int v11)] [])) _
    refine XS.aload X1.here hx rfl (hb hby at_129) rfl rfl ?_
    show Steps p.tables e below (T1.setTop (mkF m 131 #[.val (.int p1), .val (.long q2), .second, .val (.int p3), .val (.int ((p1 &&& (2147483647 : Int32)) % (3 : Int32))), .val (.ref (f1 ((p1 &&& (2147483647 : Int32)) % (3 : Int32)) s_W s_X s_R)), .val (.int (p3 &&& (3 : Int32))), .val (.long (q2 - (q2 / (4 : Int64)) * (4 : Int64))), .second, .val (.long v6), .second, .val (.int v11)] [(.ref (f1 ((p1 &&& (2147483647 : Int32)) % (3 : Int32)) s_W s_X s_R))])) _
    refine XS.lload X1.here hx rfl (hb hby at_131) rfl ?_
    show Steps p.tables e below (T1.setTop (mkF m 133 #[.val (.int p1), .val (.long q2), .second, .val (.int p3), .val (.int ((p1 &&& (2147483647 : Int32)) % (3 : Int32))), .val (.ref (f1 ((p1 &&& (2147483647 : Int32)) % (3 : Int32)) s_W s_X s_R)), .val (.int (p3 &&& (3 : Int32))), .val (.long (q2 - (q2 / (4 : Int64)) * (4 : Int64))), .second, .val (.long v6), .second, .val (.int v11)] [(.long v6), (.ref (f1 ((p1 &&& (2147483647 : Int32)) % (3 : Int32)) s_W s_X s_R))])) _
    refine st13.trans ?_
    show Steps p.tables e below (T13.setTop (mkF m 136 #[.val (.int p1), .val (.long q2), .second, .val (.int p3), .val (.int ((p1 &&& (2147483647 : Int32)) % (3 : Int32))), .val (.ref (f1 ((p1 &&& (2147483647 : Int32)) % (3 : Int32)) s_W s_X s_R)), .val (.int (p3 &&& (3 : Int32))), .val (.long (q2 - (q2 / (4 : Int64)) * (4 : Int64))), .second, .val (.long v6), .second, .val (.int v11)] [(.int (f2 v6 f_bits_o1))])) _
    refine XS.iload X13.here hx rfl (hb hby at_136) rfl ?_
    show Steps p.tables e below (T13.setTop (mkF m 138 #[.val (.int p1), .val (.long q2), .second, .val (.int p3), .val (.int ((p1 &&& (2147483647 : Int32)) % (3 : Int32))), .val (.ref (f1 ((p1 &&& (2147483647 : Int32)) % (3 : Int32)) s_W s_X s_R)), .val (.int (p3 &&& (3 : Int32))), .val (.long (q2 - (q2 / (4 : Int64)) * (4 : Int64))), .second, .val (.long v6), .second, .val (.int v11)] [(.int v11), (.int (f2 v6 f_bits_o1))])) _
    by_cases hc14 : (f2 v6 f_bits_o1) = v11
    · refine XS.icmpNo X13.here hx rfl (hb hby at_138) rfl (teq hc14).2 ?_
      show Steps p.tables e below (T13.setTop (mkF m 141 #[.val (.int p1), .val (.long q2), .second, .val (.int p3), .val (.int ((p1 &&& (2147483647 : Int32)) % (3 : Int32))), .val (.ref (f1 ((p1 &&& (2147483647 : Int32)) % (3 : Int32)) s_W s_X s_R)), .val (.int (p3 &&& (3 : Int32))), .val (.long (q2 - (q2 / (4 : Int64)) * (4 : Int64))), .second, .val (.long v6), .second, .val (.int v11)] [])) _
      refine XS.iconst X13.here hx rfl (hb hby at_141) ?_
      show Steps p.tables e below (T13.setTop (mkF m 142 #[.val (.int p1), .val (.long q2), .second, .val (.int p3), .val (.int ((p1 &&& (2147483647 : Int32)) % (3 : Int32))), .val (.ref (f1 ((p1 &&& (2147483647 : Int32)) % (3 : Int32)) s_W s_X s_R)), .val (.int (p3 &&& (3 : Int32))), .val (.long (q2 - (q2 / (4 : Int64)) * (4 : Int64))), .second, .val (.long v6), .second, .val (.int v11)] [(.int (1 : Int32))])) _
      refine XS.goto X13.here hx rfl (pc0 := 142) (pc' := 146) rfl (hb hby at_142) (by decide) (by decide) ?_
      rw [show v15 = (1 : Int32) from hv15.trans (if_pos hc14)] at k
      exact k
    · refine XS.icmpYes X13.here hx rfl (pc0 := 138) (pc' := 145) rfl (hb hby at_138) rfl (feq hc14).2 (by decide) (by decide) ?_
      show Steps p.tables e below (T13.setTop (mkF m 145 #[.val (.int p1), .val (.long q2), .second, .val (.int p3), .val (.int ((p1 &&& (2147483647 : Int32)) % (3 : Int32))), .val (.ref (f1 ((p1 &&& (2147483647 : Int32)) % (3 : Int32)) s_W s_X s_R)), .val (.int (p3 &&& (3 : Int32))), .val (.long (q2 - (q2 / (4 : Int64)) * (4 : Int64))), .second, .val (.long v6), .second, .val (.int v11)] [])) _
      refine XS.iconst X13.here hx rfl (hb hby at_145) ?_
      rw [show v15 = (0 : Int32) from hv15.trans (if_neg hc14)] at k
      exact k)
  have er : (f0 p1 q2 p3 f_bits_o1) = (nar .boolean v15) := by subst hv6 hv11 hv15; exact rfl
  obtain ⟨fs, hr, hrun, hended, hW, hsame⟩ := X13.leave (v := some (.int (nar .boolean v15))) (fun h => by rw [Bd.returns] at h; cases h)
  refine ⟨_, _, pre16 _ ?_, hrun, hended, _, _, rfl, ?_, ⟨_, rfl⟩, hW, hsame.mono (by decide) (by decide)⟩
  · show Steps p.tables e below (T13.setTop (mkF m 146 #[.val (.int p1), .val (.long q2), .second, .val (.int p3), .val (.int ((p1 &&& (2147483647 : Int32)) % (3 : Int32))), .val (.ref (f1 ((p1 &&& (2147483647 : Int32)) % (3 : Int32)) s_W s_X s_R)), .val (.int (p3 &&& (3 : Int32))), .val (.long (q2 - (q2 / (4 : Int64)) * (4 : Int64))), .second, .val (.long v6), .second, .val (.int v11)] [(.int v15)])) _
    exact retN X13 hx (t := .boolean) Bd.returns (by simp) (hb hby at_146) hr
  · show Q0 Z p1 q2 p3 s_W s_X s_R f_bits_o1 h0 n0 _ T13.heap _
    rw [e13]
    exact ⟨congrArg (fun z => some (Value.int z)) er.symm, N13, rfl⟩
theorem own_nat {c : Int32} (n : Nat) (h0 : 0 ≤ c.toInt) (h1 : c.toInt < n) : ∃ k : Nat, k < n ∧ c = Int32.ofInt k :=
  ⟨c.toInt.toNat, by omega, by rw [Int.toNat_of_nonneg h0, Int32.ofInt_toInt]⟩
theorem own_i2c (x : Int32) : 0 ≤ (x.toUInt32.toUInt16.toUInt32.toInt32).toInt ∧ (x.toUInt32.toUInt16.toUInt32.toInt32).toInt < 65536 := by
  have h : (decide ((0 : Int32) ≤ x.toUInt32.toUInt16.toUInt32.toInt32) && decide (x.toUInt32.toUInt16.toUInt32.toInt32 ≤ (65535 : Int32))) = true := fits_nar_char x
  rw [Bool.and_eq_true, decide_eq_true_eq, decide_eq_true_eq, Int32.le_iff_toInt_le, Int32.le_iff_toInt_le] at h
  have e1 : (0 : Int32).toInt = 0 := by decide
  have e2 : (65535 : Int32).toInt = 65535 := by decide
  omega
theorem own_nb (c : Prop) [Decidable c] : nar .boolean (if c then (1 : Int32) else 0) = if c then 1 else 0 := by
  by_cases h : c
  · rw [if_pos h]; decide
  · rw [if_neg h]; decide

theorem own_fld_eq {args : Array Value} {s : State} {t : Term} {x : Addr} {C n d : String} {k : Int32} (ht : t.eval args s none [] s = some (.ref x)) (h : (Jvm.Cond.eq (.field t C n d) (.int k)).value args s none s [] = some true) : Fld s s.heap x C n d (.int k) := by
  obtain ⟨u, w, e1, e2, k1, k2⟩ := cmp_v (Or.inl h)
  have ew : w = .int k := Option.some.inj (e2.symm.trans (Term.int_eval k))
  subst ew
  obtain ⟨z, rfl⟩ : ∃ z, u = .int z := k2
  have hz : z = k := by simpa [Cond.value, e1, e2] using h
  subst hz
  exact Fld.start (by rw [← fld_at ht]; exact e1)

theorem own_key (n : Int64) : f2 n 32 = (if n < (-2147483648 : Int64) then (0 : Int32) else (if (4294967295 : Int64) < n then (0 : Int32) else (1 : Int32))) := by
  have e1 : (-((1 : Int64) <<< (((32 : Int32) - (1 : Int32)) &&& 0x3f).toInt64)) = (-2147483648 : Int64) := by decide +kernel
  have e2 : ((1 : Int64) <<< ((32 : Int32) &&& 0x3f).toInt64) = (4294967296 : Int64) := by decide +kernel
  have l1 : (4294967295 : Int64).toInt = 4294967295 := by decide
  have l2 : (4294967296 : Int64).toInt = 4294967296 := by decide
  unfold f2
  rw [if_neg (by decide), e1, e2]
  by_cases h : n < (-2147483648 : Int64)
  · rw [if_pos h, if_pos h]
  · rw [if_neg h, if_neg h]
    by_cases h' : (4294967295 : Int64) < n
    · have h2 : ¬ n < (4294967296 : Int64) := by rw [Int64.lt_iff_toInt_lt] at *; omega
      rw [if_neg h2, if_pos h']; decide
    · have h2 : n < (4294967296 : Int64) := by rw [Int64.lt_iff_toInt_lt] at *; omega
      rw [if_pos h2, if_neg h']; decide
theorem own_key2 (n : Int64) (S : Int32) : f2 n (if S = (1 : Int32) then 64 else 32) = (if S = (1 : Int32) then (1 : Int32) else (if n < (-2147483648 : Int64) then (0 : Int32) else (if (4294967295 : Int64) < n then (0 : Int32) else (1 : Int32)))) := by
  by_cases h : S = (1 : Int32)
  · rw [if_pos h, if_pos h]; unfold f2; rw [if_pos rfl]
  · rw [if_neg h, if_neg h]; exact own_key n
theorem own_law (p1 : Int32) (q2 : Int64) (p3 : Int32) : f0 p1 q2 p3 (if ((p1 &&& (2147483647 : Int32)) % (3 : Int32)) = (1 : Int32) then 64 else 32) = 1 := by
  unfold f0
  rw [if_pos (own_key2 _ _)]
  decide
theorem own_pick {P : Addr → Int32 → Prop} (S : Int32) (a b c : Addr) (ha : P a 32) (hb : P b 64) (hc : P c 32) : P (f1 S a b c) (if S = (1 : Int32) then 64 else 32) := by
  unfold f1
  by_cases h : S = (0 : Int32)
  · rw [if_pos h, if_neg (by rw [h]; decide)]; exact ha
  · by_cases h' : S = (1 : Int32)
    · rw [if_neg h, if_pos h', if_pos h']; exact hb
    · rw [if_neg h, if_neg h', if_neg h']; exact hc
set_option maxRecDepth 65536 in
set_option maxHeartbeats 40000000 in
theorem comes_1 {Post : Tables → Env → Array Value → State → Outcome → State → Prop} (hpost : ∀ tb e args s v u, (limb_1_1.after args s (.returned v) u = true ∧ limb_1_2.after args s (.returned v) u = true ∧ True) → FrameEnd s (.returned v) u (Jvm.fieldLocs frame_1_writes args s ++ Jvm.arrayLocs frame_1_arrays args s ++ Jvm.staticLocs frame_1_statics s) 0 0 → Post tb e args s (.returned v) u) :
    ArmFor flags0 classFile x code maxLocals ret World_1 tables_1 room_1 Calls_1 rest_1 Pre_1 Post := by
  intro l hfl _ _ p e ha hc hk s m args below hf hA hF happ hP
  obtain ⟨hcalls, hrest, hpre⟩ := hP
  obtain ⟨-, -, -, hnamed, -, -, -, hat⟩ := (Spec.applies_iff hf).mp happ
  obtain ⟨hg, hn⟩ := and_e (Cond.before_iff.mp (show (Jvm.Cond.and given_1 narrow_1).before args s = true from hpre))
  obtain ⟨g1, g2⟩ := and_e hg
  obtain ⟨g3, g4⟩ := and_e g2
  obtain ⟨g5, g6⟩ := and_e g4
  obtain ⟨w0, w1, w2, rfl⟩ : ∃ w0 w1 w2 : Value, args = #[w0, w1, w2] := by
    have hs : args.size = 3 := by simpa [Cond.value, given_1] using g1
    obtain ⟨L⟩ := args
    match L, hs with
    | [w0, w1, w2], _ => exact ⟨w0, w1, w2, rfl⟩
  have hw := fun d (hd : d ∈ tables_1) => atoms_spec (ws := Jvm.Cond.code x code maxLocals ret :: tables_1) hat d (List.mem_cons_of_mem _ hd)
  obtain ⟨i0, ei0⟩ := is_v g3
  obtain rfl : w0 = (.int i0) := Option.some.inj ei0
  obtain ⟨i1, ei1⟩ := isL_v g5
  obtain rfl : w1 = (.long i1) := Option.some.inj ei1
  obtain ⟨i2, ei2⟩ := is_v g6
  obtain rfl : w2 = (.int i2) := Option.some.inj ei2
  obtain ⟨n1a, n1b⟩ := and_e hn
  obtain ⟨n2a, n2b⟩ := and_e n1b
  obtain ⟨n3a, n3b⟩ := and_e n2b
  obtain ⟨n4a, n4b⟩ := and_e n3b
  obtain ⟨n5a, n5b⟩ := and_e n4b
  obtain ⟨s_W, v_W⟩ := exa_v n1a
  have S_W := Sta.start v_W (Or.inr ⟨(hw _ (List.mem_of_getElem? (i := 6) rfl)), (hw _ (List.mem_of_getElem? (i := 7) rfl))⟩)
  have E_s_W := Exa.start v_W n1a
  obtain ⟨s_X, v_X⟩ := exa_v n3a
  have S_X := Sta.start v_X (Or.inr ⟨(hw _ (List.mem_of_getElem? (i := 6) rfl)), (hw _ (List.mem_of_getElem? (i := 19) rfl))⟩)
  have E_s_X := Exa.start v_X n3a
  obtain ⟨s_R, v_R⟩ := exa_v n5a
  have S_R := Sta.start v_R (Or.inr ⟨(hw _ (List.mem_of_getElem? (i := 6) rfl)), (hw _ (List.mem_of_getElem? (i := 21) rfl))⟩)
  have E_s_R := Exa.start v_R n5a
  have F_bits_s_W := own_fld_eq v_W n2a
  have F_bits_s_X := own_fld_eq v_X n4a
  have F_bits_s_R := own_fld_eq v_R n5b
  have hF := own_pick (P := fun a z => Fld s s.heap a "com/example/fenceline/fenceline/model/Register$Width" "bits" "I" (.int z)) ((i0 &&& (2147483647 : Int32)) % (3 : Int32)) s_W s_X s_R F_bits_s_W F_bits_s_X F_bits_s_R
  have hE := own_pick (P := fun a z => Exa s s.heap a "com/example/fenceline/fenceline/model/Register$Width") ((i0 &&& (2147483647 : Int32)) % (3 : Int32)) s_W s_X s_R E_s_W E_s_X E_s_R
  obtain ⟨n, o, h1, h2, h3, _, L, rfl, ⟨rfl, N, -⟩, hq⟩ := rm0 l s _ hw tables_1 i0 i1 i2 s_W s_X s_R (if ((i0 &&& (2147483647 : Int32)) % (3 : Int32)) = (1 : Int32) then 64 else 32) s.heap s.heap.size (Nat.le_refl _) S_W S_X S_R hF hE p e ha hc hk s m _ below hf ((Spec.applies_iff_loose hf).mp happ).1 ⟨rfl, State.Warmed39.refl s, rfl⟩ trivial
  refine ⟨n, _, h1, h2, h3, hpost _ _ _ _ _ _ ⟨Cond.after_iff.mpr rfl, Cond.after_iff.mpr (eq_i res_at (Term.int_eval (1)) (congrArg Value.int (own_law i0 i1 i2))), trivial⟩ ⟨hq.1, hq.2.1, (hq.2.2.sift fun y hy => Or.inr (N y hy)).mono (by decide) (by decide)⟩⟩
theorem main_1_1 : Claimed_1_1 := comes_1 fun _ _ _ _ _ _ h hF => ⟨h.1, hF⟩
theorem main_1_2 : Claimed_1_2 := comes_1 fun _ _ _ _ _ _ h hF => ⟨h.2.1, hF⟩
end Jvm.Pilot.@@N@@
namespace Jvm.Pilot.@@N@@
open Jvm Jvm.ClassFile Sem Op Lib Jvm.Free Jvm.Stand Jvm.Pilot.@@N@@.Jvm.D
/-! MADE BY PROGRAM (witnessworld.py) out of the Statement's table words and the real class files: 12 classes; the members and pool entries that the words name. The judged class is class 1, her method 2. -/
namespace start1
open Jvm.ClassFile
def u (s : String) : CpInfo := .utf8 (stringToUtf16 s)
/-- a pool by its gaps: so many unusable entries, then the entry; so many at the end -/
def gap : Nat → List CpInfo → List CpInfo
  | 0, r => r
  | n + 1, r => .unusable :: gap n r
def poolList (es : List (Nat × CpInfo)) (last : Nat) : List CpInfo := es.foldr (fun e r => gap e.1 (e.2 :: r)) (gap last [])
def pool (es : List (Nat × CpInfo)) (last : Nat) : Array CpInfo := ⟨poolList es last⟩
def fileOf (pool : Array CpInfo) (this : Nat) (attrs : Array Attribute := #[]) (ms : Array MethodInfo := #[]) (fl : Nat := 33) (sup : Nat := 0) (ifs : Array Nat := #[]) (fds : Array FieldInfo := #[]) : ClassFile where
  minorVersion := 0
  majorVersion := 65
  constantPool := pool
  accessFlags := fl
  thisClass := this
  superClass := sup
  interfaces := ifs
  fields := fds
  methods := ms
  attributes := attrs
def plain (name : String) (sup : Option ClassId) : Class where
  name := name
  kind := .ordinary
  loader := none
  accessFlags := 33
  super := sup
  interfaces := #[]
  cf := none
  fields := #[]
  methods := #[]
  instanceTypes := #[]
  staticTypes := #[]
  resolved := #[]
  callSites := []
  init := .initialized
  statics := none
  mirror := none

def pool0 : Array CpInfo := pool [(5, u "<init>"), (0, u "()V"), (1, .class_ 10), (1, u "java/lang/Object")] 113

def k0m0 : Method := { name := "<init>", desc := "()V", sig := { parameters := [], returnType := none }, accessFlags := 1, code := none }
/-- java/lang/Object -/
def k0 : Class := { plain "java/lang/Object" none with
  accessFlags := 33
  interfaces := #[]
  cf := some (fileOf pool0 8 #[] #[{ accessFlags := 1, nameIndex := 5, descriptorIndex := 6, attributes := #[] }] 33 0 #[] #[])
  fields := #[]
  methods := #[k0m0]
  instanceTypes := #[]
  staticTypes := #[]
  resolved := Array.replicate 124 none
  statics := none }

def pool1 : Array CpInfo := pool [(2, .class_ 4), (1, u "java/lang/Object"), (0, u "<init>"), (0, u "()V"), (0, .fieldref 8 9), (0, .class_ 10), (0, .nameAndType 11 12), (0, u "com/example/fenceline/fenceline/model/Register$Width"), (0, u "W"), (0, u "Lcom/example/fenceline/fenceline/model/Register$Width;"), (0, .fieldref 8 14), (0, .nameAndType 15 12), (0, u "X"), (0, .fieldref 8 17), (0, .nameAndType 18 12), (0, u "R"), (0, .integer 2147483647), (0, .methodref 21 22), (0, .class_ 23), (0, .nameAndType 24 25), (0, u "com/example/fenceline/fenceline/model/WidthHoldsPinLaw"), (0, u "width"), (0, u "(I)Lcom/example/fenceline/fenceline/model/Register$Width;"), (0, .long 4), (1, .long 18446744071562067968), (1, .long 4294967295), (3, .long 9223372036854775807), (1, .long 9223372036854775808), (1, .methodref 8 39), (0, .nameAndType 40 41), (0, u "holds"), (0, u "(J)Z"), (3, u "law"), (0, u "(IJI)Z")] 6

def k1m0 : Method := { name := "<init>", desc := "()V", sig := { parameters := [], returnType := none }, accessFlags := 1, code := none }
def k1c1 : Code := { maxStack := 2, maxLocals := 1, code := method_2_code, exceptionTable := #[], attributes := #[] }
def k1m1 : Method := { name := "width", desc := "(I)Lcom/example/fenceline/fenceline/model/Register$Width;", sig := { parameters := [.int], returnType := some (.object "com/example/fenceline/fenceline/model/Register$Width") }, accessFlags := 10, code := some k1c1 }
def k1c2 : Code := { maxStack := 4, maxLocals := 12, code := code, exceptionTable := #[], attributes := #[] }
def k1m2 : Method := { name := "law", desc := "(IJI)Z", sig := { parameters := [.int, .long, .int], returnType := some .boolean }, accessFlags := 9, code := some k1c2 }
/-- com/example/fenceline/fenceline/model/WidthHoldsPinLaw -/
def k1 : Class := { plain "com/example/fenceline/fenceline/model/WidthHoldsPinLaw" (some 0) with
  accessFlags := 49
  interfaces := #[]
  cf := some (fileOf pool1 21 #[] #[{ accessFlags := 1, nameIndex := 5, descriptorIndex := 6, attributes := #[] }, { accessFlags := 10, nameIndex := 24, descriptorIndex := 25, attributes := #[] }, { accessFlags := 9, nameIndex := 45, descriptorIndex := 46, attributes := #[] }] 49 2 #[] #[])
  fields := #[]
  methods := #[k1m0, k1m1, k1m2]
  instanceTypes := #[]
  staticTypes := #[]
  resolved := Array.replicate 53 none
  statics := none }

def pool2 : Array CpInfo := pool [(1, .class_ 2), (0, u "java/lang/constant/Constable"), (0, .class_ 4), (0, u "java/lang/Object")] 6

/-- java/lang/constant/Constable -/
def k2 : Class := { plain "java/lang/constant/Constable" (some 0) with
  accessFlags := 1537
  interfaces := #[]
  cf := some (fileOf pool2 1 #[] #[] 1537 3 #[] #[])
  fields := #[]
  methods := #[]
  instanceTypes := #[]
  staticTypes := #[]
  resolved := Array.replicate 11 none
  statics := none }

def pool3 : Array CpInfo := pool [(1, .class_ 2), (0, u "java/lang/Comparable"), (0, .class_ 4), (0, u "java/lang/Object")] 7

/-- java/lang/Comparable -/
def k3 : Class := { plain "java/lang/Comparable" (some 0) with
  accessFlags := 1537
  interfaces := #[]
  cf := some (fileOf pool3 1 #[] #[] 1537 3 #[] #[])
  fields := #[]
  methods := #[]
  instanceTypes := #[]
  staticTypes := #[]
  resolved := Array.replicate 12 none
  statics := none }

def pool4 : Array CpInfo := pool [(1, .class_ 2), (0, u "java/io/Serializable"), (0, .class_ 4), (0, u "java/lang/Object")] 2

/-- java/io/Serializable -/
def k4 : Class := { plain "java/io/Serializable" (some 0) with
  accessFlags := 1537
  interfaces := #[]
  cf := some (fileOf pool4 1 #[] #[] 1537 3 #[] #[])
  fields := #[]
  methods := #[]
  instanceTypes := #[]
  staticTypes := #[]
  resolved := Array.replicate 7 none
  statics := none }

def pool5 : Array CpInfo := pool [(2, .class_ 4), (1, u "java/lang/Enum"), (0, u "name"), (0, u "Ljava/lang/String;"), (2, u "ordinal"), (0, u "I"), (1, .class_ 14), (1, u "java/lang/Object"), (4, u "hash"), (86, .class_ 108), (1, u "java/lang/Enum$EnumDesc"), (2, .class_ 112), (0, u "java/lang/constant/Constable"), (0, .class_ 114), (0, u "java/lang/Comparable"), (0, .class_ 116), (0, u "java/io/Serializable")] 87

/-- java/lang/Enum -/
def k5 : Class := { plain "java/lang/Enum" (some 0) with
  accessFlags := 1057
  interfaces := #[2, 3, 4]
  cf := some (fileOf pool5 2 #[.nestMembers #[106]] #[] 1057 12 #[111, 113, 115] #[{ accessFlags := 18, nameIndex := 5, descriptorIndex := 6, attributes := #[] }, { accessFlags := 18, nameIndex := 9, descriptorIndex := 10, attributes := #[] }, { accessFlags := 2, nameIndex := 19, descriptorIndex := 10, attributes := #[] }])
  fields := #[{ name := "name", type := (.object "java/lang/String"), accessFlags := 18, slot := 0, constantValue := 0 }, { name := "ordinal", type := .int, accessFlags := 18, slot := 1, constantValue := 0 }, { name := "hash", type := .int, accessFlags := 2, slot := 2, constantValue := 0 }]
  methods := #[]
  instanceTypes := #[(.object "java/lang/String"), .int, .int]
  staticTypes := #[]
  resolved := Array.replicate 204 none
  statics := none }

def pool6 : Array CpInfo := pool [(1, .class_ 2), (0, u "com/example/fenceline/fenceline/model/Register$Width"), (2, u "W"), (0, u "Lcom/example/fenceline/fenceline/model/Register$Width;"), (2, u "X"), (2, u "R"), (2, u "$VALUES"), (0, u "[Lcom/example/fenceline/fenceline/model/Register$Width;"), (6, .class_ 25), (1, u "java/lang/Enum"), (6, .fieldref 1 33), (0, .nameAndType 34 35), (0, u "bits"), (0, u "I"), (34, u "holds"), (0, u "(J)Z"), (9, .class_ 82), (0, u "com/example/fenceline/fenceline/model/Register")] 2

def k6c0 : Code := { maxStack := 6, maxLocals := 3, code := prog_77_method_5_code, exceptionTable := #[], attributes := #[] }
def k6m0 : Method := { name := "holds", desc := "(J)Z", sig := { parameters := [.long], returnType := some .boolean }, accessFlags := 1, code := some k6c0 }
/-- com/example/fenceline/fenceline/model/Register$Width -/
def k6 : Class := { plain "com/example/fenceline/fenceline/model/Register$Width" (some 5) with
  accessFlags := 16433
  interfaces := #[]
  cf := some (fileOf pool6 1 #[.nestHost 81] #[{ accessFlags := 1, nameIndex := 70, descriptorIndex := 71, attributes := #[] }] 16433 23 #[] #[{ accessFlags := 16409, nameIndex := 5, descriptorIndex := 6, attributes := #[] }, { accessFlags := 16409, nameIndex := 9, descriptorIndex := 6, attributes := #[] }, { accessFlags := 16409, nameIndex := 12, descriptorIndex := 6, attributes := #[] }, { accessFlags := 18, nameIndex := 34, descriptorIndex := 35, attributes := #[] }, { accessFlags := 4122, nameIndex := 15, descriptorIndex := 16, attributes := #[] }])
  fields := #[{ name := "W", type := (.object "com/example/fenceline/fenceline/model/Register$Width"), accessFlags := 16409, slot := 0, constantValue := 0 }, { name := "X", type := (.object "com/example/fenceline/fenceline/model/Register$Width"), accessFlags := 16409, slot := 1, constantValue := 0 }, { name := "R", type := (.object "com/example/fenceline/fenceline/model/Register$Width"), accessFlags := 16409, slot := 2, constantValue := 0 }, { name := "bits", type := .int, accessFlags := 18, slot := 3, constantValue := 0 }, { name := "$VALUES", type := (.array (.object "com/example/fenceline/fenceline/model/Register$Width")), accessFlags := 4122, slot := 3, constantValue := 0 }]
  methods := #[k6m0]
  instanceTypes := #[(.object "java/lang/String"), .int, .int, .int]
  staticTypes := #[(.object "com/example/fenceline/fenceline/model/Register$Width"), (.object "com/example/fenceline/fenceline/model/Register$Width"), (.object "com/example/fenceline/fenceline/model/Register$Width"), (.array (.object "com/example/fenceline/fenceline/model/Register$Width"))]
  resolved := Array.replicate 85 none
  statics := some 0 }

def pool7 : Array CpInfo := pool [(1, u "java/lang/Cloneable"), (0, .class_ 1), (0, u "java/lang/Object"), (0, .class_ 3)] 3

/-- java/lang/Cloneable -/
def k7 : Class := { plain "java/lang/Cloneable" (some 0) with
  accessFlags := 1537
  interfaces := #[]
  cf := some (fileOf pool7 2 #[] #[] 1537 4 #[] #[])
  fields := #[]
  methods := #[]
  instanceTypes := #[]
  staticTypes := #[]
  resolved := Array.replicate 8 none
  statics := none }

/-- the primitive byte -/
def k8 : Class := { plain "byte" none with kind := .primitive 'B', accessFlags := 0x411 }
/-- [B -/
def k9 : Class := { plain "[B" (some 0) with kind := .array 8 .byte, interfaces := #[7, 4], accessFlags := 1041 }

/-- the primitive int -/
def k10 : Class := { plain "int" none with kind := .primitive 'I', accessFlags := 0x411 }
/-- [I -/
def k11 : Class := { plain "[I" (some 0) with kind := .array 10 .int, interfaces := #[7, 4], accessFlags := 1041 }

def heap : Heap := #[{ cls := 6, slots := #[.ref 1, .ref 2, .ref 3, .null], vm := .statics 6 },
  { cls := 6, slots := #[.null, .int 0, .int 0, .int 32], vm := .none },
  { cls := 6, slots := #[.null, .int 1, .int 0, .int 64], vm := .none },
  { cls := 6, slots := #[.null, .int 2, .int 0, .int 32], vm := .none }]
def classes : Array Class := #[k0, k1, k2, k3, k4, k5, k6, k7, k8, k9, k10, k11]
def interned : List (Array UInt16 × Addr) := []
def slotsUsed : Nat := 16
def theMethod : MethodId := ⟨1, 2⟩
def args0 : Array Value := #[.int 5, .long 7, .int 1]
def aboutOver (below : List Frame) : State where
  vm := { classes := classes, interned := interned.toArray }
  heap := heap
  slotsUsed := slotsUsed
  threads := #[{ frames := .invoking theMethod args0 :: below }]
def below0 : List Frame := [.native { method := ⟨0, 0⟩, args := #[] }]
def about1 : State := aboutOver below0
def p0 : Program := .bare "" "" ""
def e0 : Env := launch0.env 0 0 0
theorem w_frames : about1.frames = Frame.invoking theMethod args0 :: below0 := rfl
set_option maxRecDepth 65536 in
theorem w_args : argsFit about1.vm theMethod args0 = true := by decide +kernel
set_option maxRecDepth 65536 in
theorem w_heap : heapFits about1 = true := by decide +kernel
set_option maxRecDepth 65536 in
theorem w_runnable : about1.curStatus? = some .runnable := by decide +kernel
set_option maxRecDepth 65536 in
theorem w_alone : about1.alone = true := by decide +kernel
set_option maxRecDepth 65536 in
theorem w_named : about1.methodNamed? x = some theMethod := by decide +kernel
set_option maxRecDepth 65536 in
theorem w_hears : about1.hears theMethod below0 = true := by decide +kernel
set_option maxRecDepth 65536 in
theorem w_ripe : about1.ripe theMethod args0 below0 = true := by decide +kernel
theorem w_running : about1.status = .running := rfl
set_option maxRecDepth 65536 in
theorem w_room : about1.hasRoom e0.platform room_1 = true :=
  launch0.hasRoom_least _ room_1 (by decide +kernel) (by decide +kernel) (by decide +kernel) (by decide +kernel) (by decide +kernel) (by decide +kernel)
theorem allAtoms_all (ts : List Jvm.Cond) (a : Array Jvm.Value) (st : Jvm.State) : (allAtoms ts).before a st = ts.all (fun c => c.before a st) := by
  induction ts with
  | nil => rfl
  | cons c t ih =>
    show (Jvm.Cond.and c (allAtoms t)).before a st = _
    rw [Jvm.Cond.before_and, ih, List.all_cons]
def words1 : List Jvm.Cond := Jvm.Cond.code x code maxLocals ret :: tables_1
/-- a 'code' word, met by the world's own term for the bytes: nothing is compared byte by byte -/
theorem code_word {y : MethodName} {bytes : ByteArray} {mx : Nat} {rt : Option FieldType} {a : Array Value} {s : State} {m : MethodId} {meth : Method} {c : Code} (h1 : s.methodNamed? y = some m) (h2 : s.vm.method? m = some meth) (h3 : meth.code = some c) (h4 : c.code = bytes)
    (h5 : (c.maxLocals == mx && c.exceptionTable.isEmpty && decide (c.maxStack ≤ mostOperands) && decide (meth.sig.returnType = rt) && !meth.locks && decide (parseMethodDescriptor y.desc = some meth.sig)) = true) : (Jvm.Cond.code y bytes mx rt).before a s = true := by
  simp only [Bool.and_eq_true, beq_iff_eq, Bool.not_eq_true', decide_eq_true_eq] at h5
  obtain ⟨⟨⟨⟨⟨g1, g2⟩, g3⟩, g4⟩, g5⟩, g6⟩ := h5
  simp [Cond.before, Cond.holds, Cond.value, h1, h2, h3, h4, g1, g2, g3, g4, g5, g6]
def isCode : Jvm.Cond → Bool
  | .code _ _ _ _ => true
  | _ => false
theorem all_split {L : List Jvm.Cond} {P : Jvm.Cond → Bool} (h1 : L.all (fun c => isCode c || P c) = true) (h2 : ∀ c ∈ L.filter isCode, P c = true) : L.all P = true := by
  refine List.all_eq_true.mpr fun c hc => ?_
  have h := List.all_eq_true.mp h1 c hc
  rcases Bool.eq_false_or_eq_true (isCode c) with hi | hi
  · exact h2 c (List.mem_filter.mpr ⟨hc, hi⟩)
  · simpa [hi] using h
set_option maxRecDepth 65536 in
theorem w_c0 : (Jvm.Cond.code x code maxLocals ret).before args0 about1 = true := code_word (m := ⟨1, 2⟩) (meth := k1m2) (c := k1c2) (by decide +kernel) rfl rfl rfl (by decide +kernel)
set_option maxRecDepth 65536 in
theorem w_c1 : (Jvm.Cond.code ({ cls := "com/example/fenceline/fenceline/model/WidthHoldsPinLaw", name := "width", desc := "(I)Lcom/example/fenceline/fenceline/model/Register$Width;" } : Jvm.MethodName) method_2_code (1 : Nat) (Option.some (Jvm.ClassFile.FieldType.object "com/example/fenceline/fenceline/model/Register$Width"))).before args0 about1 = true := code_word (m := ⟨1, 1⟩) (meth := k1m1) (c := k1c1) (by decide +kernel) rfl rfl rfl (by decide +kernel)
set_option maxRecDepth 65536 in
theorem w_c2 : (Jvm.Cond.code ({ cls := "com/example/fenceline/fenceline/model/Register$Width", name := "holds", desc := "(J)Z" } : Jvm.MethodName) prog_77_method_5_code (3 : Nat) (Option.some Jvm.ClassFile.FieldType.boolean)).before args0 about1 = true := code_word (m := ⟨6, 0⟩) (meth := k6m0) (c := k6c0) (by decide +kernel) rfl rfl rfl (by decide +kernel)
def codes1 : List Jvm.Cond := [Jvm.Cond.code x code maxLocals ret, Jvm.Cond.code ({ cls := "com/example/fenceline/fenceline/model/WidthHoldsPinLaw", name := "width", desc := "(I)Lcom/example/fenceline/fenceline/model/Register$Width;" } : Jvm.MethodName) method_2_code (1 : Nat) (Option.some (Jvm.ClassFile.FieldType.object "com/example/fenceline/fenceline/model/Register$Width")), Jvm.Cond.code ({ cls := "com/example/fenceline/fenceline/model/Register$Width", name := "holds", desc := "(J)Z" } : Jvm.MethodName) prog_77_method_5_code (3 : Nat) (Option.some Jvm.ClassFile.FieldType.boolean)]
set_option maxRecDepth 65536 in
theorem codes_eq : words1.filter isCode = codes1 := rfl
theorem w_codes : ∀ c ∈ words1.filter isCode, c.before args0 about1 = true := by
  rw [codes_eq]
  intro c hc
  simp only [codes1, List.mem_cons, List.not_mem_nil, or_false] at hc
  rcases hc with rfl | rfl | rfl
  · exact w_c0
  · exact w_c1
  · exact w_c2
set_option maxRecDepth 65536 in
theorem w_t1 : (words1.take 24).all (fun c => isCode c || c.before args0 about1) = true := by decide +kernel
set_option maxRecDepth 65536 in
theorem w_t2 : (words1.drop 24).all (fun c => isCode c || c.before args0 about1) = true := by decide +kernel
theorem w_tables : (allAtoms (Jvm.Cond.code x code maxLocals ret :: tables_1)).before args0 about1 = true := by
  rw [allAtoms_all]
  show words1.all (fun c => c.before args0 about1) = true
  refine all_split ?_ w_codes
  rw [← List.take_append_drop 24 words1, List.all_append, w_t1, w_t2]
  rfl
set_option maxRecDepth 65536 in
theorem w_case : (Jvm.Cond.and given_1 narrow_1).before args0 about1 = true := by decide +kernel
theorem w_applies : (headSpec (Jvm.Cond.code x code maxLocals ret :: tables_1) room_1).applies x e0.platform about1 = true :=
  (Spec.applies_iff w_frames).mpr ⟨w_running, w_runnable, w_alone, w_named, w_hears, w_ripe, w_room, w_tables⟩
theorem atStart : AtStart classFile x code maxLocals ret World_1 tables_1 room_1 Calls_1 rest_1 Pre_1 launch0 p0 e0 about1 theMethod args0 below0 :=
  ⟨lists_1, trivial, launch0.admits_env _ _ _, launch0.least_env, fairChoices_fair.cas, fairChoices_fair.clock, w_frames, w_args, w_heap, w_applies, trivial, trivial, w_case⟩
end start1
theorem witness_1 : WitnessClaimed_1 := ⟨start1.p0, start1.e0, start1.about1, start1.theMethod, start1.args0, start1.below0, start1.atStart⟩
end Jvm.Pilot.@@N@@
