import JvmDerived
import JvmDerived.Pilot.@@N@@Statement
import JvmDerived.Pilot.@@N@@Code
set_option linter.unusedVariables false
set_option linter.unusedSimpArgs false
@@BLOCK:NumsL.lean.txt@@
namespace Jvm.RoadKit
open Sem ClassFile Op Lib Jvm.Stand Jvm.Free Jvm.LawKit
section New
variable {p : Program} {l : Launch} {e : Env} {R : Room} {s : State} {m : MethodId} {args : Array Value} {below : List Frame} {meth : Method} {c : Code} {T : State} {locs : List Loc} {cells slots : Nat}
theorem retI (X : Stand p l e R s m args below meth c T locs cells slots) (hx : p.tables.exec = Jvm.exec) {pc : Nat} {Ls : Array Slot} {z : Int32} {rest : List Value} (hret : meth.sig.returnType = some .int) (hd : decode c.code pc = .ok (.ireturn, 1)) {fs : List Frame}
    (hl : ∀ (f : JFrame) (acts : List Action), f.method = m → f.locked = none → f.entered = [] → (doReturn e (T.setTop f) acts (some (.int z))).1 = T.setFrames fs) : Steps p.tables e below (T.setTop (mkF m pc Ls (.int z :: rest))) (T.setFrames fs) := by
  have hm' : T.vm.method? m = some meth := X.method'
  have hn : narrow .int (.int z) = .int z := rfl
  show Steps p.tables e below (T.setTop { method := m, pc := pc, locals := Ls, stack := _ :: rest, locked := none }) _
  jvm_step X.here [X.here.top, hx, hd, hm', hret, hn]
  first | (intro acts; rw [hl _ acts rfl rfl rfl]) | rw [hl _ _ rfl rfl rfl]
  exact Steps.refl _
end New
end Jvm.RoadKit
namespace Jvm.Pilot.@@N@@
open Jvm Jvm.ClassFile Sem Op Lib Jvm.Free Jvm.Stand Jvm.LawKit Jvm.RoadKit Bundle Jvm.Pilot.@@N@@.Jvm.D
def geach (u0 : Int64) : Int64 := (if (u0 - (u0 / (1000 : Int64)) * (1000 : Int64)) = (0 : Int64) then (1000 : Int64) else u0)
def gcount (u0 : Int64) : Int64 := (if (u0 - (u0 / (1000 : Int64)) * (1000 : Int64)) = (0 : Int64) then (u0 / (1000 : Int64)) else (1 : Int64))
theorem ef_1 (m : MethodId) (x0 : Int64) : entryFrame m #[(.long x0)] 4 = mkF m 0 #[.val (.long x0), .second, .unset, .unset] [] := by first | (simp [entryFrame, mkF, argsToLocals, Value.category]; done) | rfl
theorem pn_com_example_berth_berth_model_Gpus : plainName "com/example/berth/berth/model/Gpus" = true := by first | (simp [plainName, overriddenIn]; done) | decide +kernel
theorem d1_0 : decode prog_13_method_3_code 0 = .ok (.lload_n 0, 1) := by decide +kernel
theorem d1_1 : decode prog_13_method_3_code 1 = .ok (.ldc2_w 9, 3) := by decide +kernel
theorem d1_4 : decode prog_13_method_3_code 4 = .ok (.lrem, 1) := by decide +kernel
theorem d1_5 : decode prog_13_method_3_code 5 = .ok (.lconst 0, 1) := by decide +kernel
theorem d1_6 : decode prog_13_method_3_code 6 = .ok (.lcmp, 1) := by decide +kernel
theorem d1_7 : decode prog_13_method_3_code 7 = .ok (.ifCond .ne 10, 3) := by decide +kernel
theorem d1_17 : decode prog_13_method_3_code 17 = .ok (.lload_n 0, 1) := by decide +kernel
theorem d1_18 : decode prog_13_method_3_code 18 = .ok (.lstore_n 2, 1) := by decide +kernel
theorem d1_10 : decode prog_13_method_3_code 10 = .ok (.ldc2_w 9, 3) := by decide +kernel
theorem d1_13 : decode prog_13_method_3_code 13 = .ok (.lstore_n 2, 1) := by decide +kernel
theorem d1_14 : decode prog_13_method_3_code 14 = .ok (.goto 5, 3) := by decide +kernel
theorem d1_19 : decode prog_13_method_3_code 19 = .ok (.lload_n 2, 1) := by decide +kernel
theorem d1_20 : decode prog_13_method_3_code 20 = .ok (.lreturn, 1) := by decide +kernel
theorem ef_2 (m : MethodId) (x0 : Int64) : entryFrame m #[(.long x0)] 4 = mkF m 0 #[.val (.long x0), .second, .unset, .unset] [] := by first | (simp [entryFrame, mkF, argsToLocals, Value.category]; done) | rfl
theorem d2_0 : decode prog_13_method_2_code 0 = .ok (.lload_n 0, 1) := by decide +kernel
theorem d2_1 : decode prog_13_method_2_code 1 = .ok (.ldc2_w 9, 3) := by decide +kernel
theorem d2_4 : decode prog_13_method_2_code 4 = .ok (.lrem, 1) := by decide +kernel
theorem d2_5 : decode prog_13_method_2_code 5 = .ok (.lconst 0, 1) := by decide +kernel
theorem d2_6 : decode prog_13_method_2_code 6 = .ok (.lcmp, 1) := by decide +kernel
theorem d2_7 : decode prog_13_method_2_code 7 = .ok (.ifCond .ne 12, 3) := by decide +kernel
theorem d2_19 : decode prog_13_method_2_code 19 = .ok (.lconst 1, 1) := by decide +kernel
theorem d2_20 : decode prog_13_method_2_code 20 = .ok (.lstore_n 2, 1) := by decide +kernel
theorem d2_10 : decode prog_13_method_2_code 10 = .ok (.lload_n 0, 1) := by decide +kernel
theorem d2_11 : decode prog_13_method_2_code 11 = .ok (.ldc2_w 9, 3) := by decide +kernel
theorem d2_14 : decode prog_13_method_2_code 14 = .ok (.ldiv, 1) := by decide +kernel
theorem d2_15 : decode prog_13_method_2_code 15 = .ok (.lstore_n 2, 1) := by decide +kernel
theorem d2_16 : decode prog_13_method_2_code 16 = .ok (.goto 5, 3) := by decide +kernel
theorem d2_21 : decode prog_13_method_2_code 21 = .ok (.lload_n 2, 1) := by decide +kernel
theorem d2_22 : decode prog_13_method_2_code 22 = .ok (.lreturn, 1) := by decide +kernel
theorem ef_0 (m : MethodId) (x0 : Int64) (x1 : Int32) (x2 : Int64) : entryFrame m #[(.long x0), (.int x1), (.long x2)] maxLocals = mkF m 0 #[.val (.long x0), .second, .val (.int x1), .val (.long x2), .second, .unset, .unset, .unset, .unset, .unset, .unset, .unset, .unset, .unset, .unset, .unset] [] := by first | (simp [entryFrame, mkF, argsToLocals, Value.category, maxLocals]; done) | rfl
theorem pn_com_example_berth_berth_model_GpusEachPinLaw : plainName "com/example/berth/berth/model/GpusEachPinLaw" = true := by first | (simp [plainName, overriddenIn]; done) | decide +kernel
theorem pd_oJcJ : parseMethodDescriptor "(J)J" = some ⟨[.long], some .long⟩ := by decide +kernel
def Q1 (Z : State) (u0 : Int64) (h0 : Heap) (n0 : Nat) (v : Option Value) (h : Heap) (L : List Loc) : Prop := v = some (.long (geach u0)) ∧ Fr n0 L ∧ h = h0
set_option maxRecDepth 65536 in
set_option maxHeartbeats 40000000 in
theorem rm1 (l : Launch) (Z : State) (a0 : Array Value) (hw : ∀ d ∈ tables_1, d.before a0 Z = true) (ws : List Jvm.Cond) (u0 : Int64) (h0 : Heap) (n0 : Nat) (Z0 : n0 ≤ h0.size)  :
    MetFree l (⟨"com/example/berth/berth/model/Gpus", "each", "(J)J"⟩ : MethodName) (head1 (Jvm.Cond.code (⟨"com/example/berth/berth/model/Gpus", "each", "(J)J"⟩ : MethodName) prog_13_method_3_code 4 (some .long) :: ws) ({ frames := 0, cells := 0, slots := 0, locals := 0 } : Room)) (fun a U => a = #[(.long u0)] ∧ Z.Warmed39 U.vm ∧ U.heap = h0) (fun _ _ _ _ _ => True) (fun _ U o U' => ∃ v L, o = .returned v ∧ Q1 Z u0 h0 n0 v U'.heap L ∧ FrameEnd U o U' L ({ frames := 0, cells := 0, slots := 0, locals := 0 } : Room).cells ({ frames := 0, cells := 0, slots := 0, locals := 0 } : Room).slots) := by
  refine MetFree.of_bodySF (plainFor_of_name pn_com_example_berth_berth_model_Gpus) hisR ?_
  intro p e s m args0 below meth c s₁ Bd hml0 hP hK
  obtain ⟨rfl, hZ, hh⟩ := hP
  have hx := Bd.exec
  have hby := Bd.bytes
  have hml : c.maxLocals = 4 := hml0
  have hown : s.vm.findClass "com/example/berth/berth/model/Gpus" = some m.cls := findClass_of_methodNamed Bd.named
  have hnm := (name_of_methodNamed Bd.named Bd.method).1
  have X0 : Stand p l e ({ frames := 0, cells := 0, slots := 0, locals := 0 } : Room) s m #[(.long u0)] below meth c s₁ [] 0 0 := Stand.of_body Bd
  have e0 : s₁.heap = h0 := by rw [← hh, Bd.state]; rfl
  have N0 := Fr.nil n0
  have pre0 : ∀ t, Steps p.tables e below (s₁.setTop (mkF m 0 #[.val (.long u0), .second, .unset, .unset] [])) t → Steps p.tables e below (s₁.setTop (entryFrame m #[(.long u0)] 4)) t := fun t k => castTop (ef_1 m u0) k
  have s1 : ∀ t, Steps p.tables e below (s₁.setTop (mkF m 7 #[.val (.long u0), .second, .unset, .unset] [(.int (lcmpW (u0 - (u0 / (1000 : Int64)) * (1000 : Int64)) (0 : Int64)))])) t → Steps p.tables e below (s₁.setTop (mkF m 0 #[.val (.long u0), .second, .unset, .unset] [])) t := by
    intro t kt
    refine XS.lloadN X0.here hx rfl (hb hby d1_0) rfl ?_
    show Steps p.tables e below (s₁.setTop (mkF m 1 #[.val (.long u0), .second, .unset, .unset] [(.long u0)])) t
    refine X0.ldc2Long hx hown (mvT hZ (hw _ (List.mem_of_getElem? (i := 6) rfl))) (g := (mkF m 1 #[.val (.long u0), .second, .unset, .unset] [(.long u0)])) rfl (hb hby d1_1) _ ?_
    show Steps p.tables e below (s₁.setTop (mkF m 4 #[.val (.long u0), .second, .unset, .unset] [(.long (1000 : Int64)), (.long u0)])) t
    refine XS.lrem X0.here hx rfl (hb hby d1_4) rfl (by decide) ?_
    show Steps p.tables e below (s₁.setTop (mkF m 5 #[.val (.long u0), .second, .unset, .unset] [(.long (u0 - (u0 / (1000 : Int64)) * (1000 : Int64)))])) t
    refine XS.lconst X0.here hx rfl (hb hby d1_5) ?_
    show Steps p.tables e below (s₁.setTop (mkF m 6 #[.val (.long u0), .second, .unset, .unset] [(.long (0 : Int64)), (.long (u0 - (u0 / (1000 : Int64)) * (1000 : Int64)))])) t
    refine XS.lcmp X0.here hx rfl (hb hby d1_6) rfl ?_
    exact kt
  obtain ⟨w5, rfl, j11⟩ : ∃ (w5 : Int64), w5 = (if (u0 - (u0 / (1000 : Int64)) * (1000 : Int64)) = (0 : Int64) then (1000 : Int64) else u0) ∧ ∀ t, Steps p.tables e below (s₁.setTop (mkF m 19 #[.val (.long u0), .second, .val (.long w5), .second] [])) t → Steps p.tables e below (s₁.setTop (mkF m 7 #[.val (.long u0), .second, .unset, .unset] [(.int (lcmpW (u0 - (u0 / (1000 : Int64)) * (1000 : Int64)) (0 : Int64)))])) t := by
    by_cases c2 : (u0 - (u0 / (1000 : Int64)) * (1000 : Int64)) = (0 : Int64)
    ·
      have s4 : ∀ t, Steps p.tables e below (s₁.setTop (mkF m 19 #[.val (.long u0), .second, .val (.long (1000 : Int64)), .second] [])) t → Steps p.tables e below (s₁.setTop (mkF m 7 #[.val (.long u0), .second, .unset, .unset] [(.int (lcmpW (u0 - (u0 / (1000 : Int64)) * (1000 : Int64)) (0 : Int64)))])) t := by
        intro t kt
        refine XS.ifNo X0.here hx rfl (hb hby d1_7) rfl ((if0 _ _).trans (teq ((lw_eq _ _).mpr c2)).2) ?_
        show Steps p.tables e below (s₁.setTop (mkF m 10 #[.val (.long u0), .second, .unset, .unset] [])) t
        refine X0.ldc2Long hx hown (mvT hZ (hw _ (List.mem_of_getElem? (i := 6) rfl))) (g := (mkF m 10 #[.val (.long u0), .second, .unset, .unset] [])) rfl (hb hby d1_10) _ ?_
        show Steps p.tables e below (s₁.setTop (mkF m 13 #[.val (.long u0), .second, .unset, .unset] [(.long (1000 : Int64))])) t
        refine XS.lstoreN X0.here hx rfl (hb hby d1_13) rfl (l' := #[.val (.long u0), .second, .val (.long (1000 : Int64)), .second]) rfl ?_
        show Steps p.tables e below (s₁.setTop (mkF m 14 #[.val (.long u0), .second, .val (.long (1000 : Int64)), .second] [])) t
        refine XS.goto X0.here hx rfl (pc0 := 14) (pc' := 19) rfl (hb hby d1_14) (by decide) (by decide) ?_
        exact kt
      exact ⟨(1000 : Int64), (if_pos c2).symm, fun t kt => s4 _ (kt)⟩
    ·
      have s3 : ∀ t, Steps p.tables e below (s₁.setTop (mkF m 19 #[.val (.long u0), .second, .val (.long u0), .second] [])) t → Steps p.tables e below (s₁.setTop (mkF m 7 #[.val (.long u0), .second, .unset, .unset] [(.int (lcmpW (u0 - (u0 / (1000 : Int64)) * (1000 : Int64)) (0 : Int64)))])) t := by
        intro t kt
        refine XS.ifYes X0.here hx rfl (pc0 := 7) (pc' := 17) rfl (hb hby d1_7) rfl ((if0 _ _).trans (feq (mt (lw_eq _ _).mp c2)).2) (by decide) (by decide) ?_
        show Steps p.tables e below (s₁.setTop (mkF m 17 #[.val (.long u0), .second, .unset, .unset] [])) t
        refine XS.lloadN X0.here hx rfl (hb hby d1_17) rfl ?_
        show Steps p.tables e below (s₁.setTop (mkF m 18 #[.val (.long u0), .second, .unset, .unset] [(.long u0)])) t
        refine XS.lstoreN X0.here hx rfl (hb hby d1_18) rfl (l' := #[.val (.long u0), .second, .val (.long u0), .second]) rfl ?_
        exact kt
      exact ⟨u0, (if_neg c2).symm, fun t kt => s3 _ (kt)⟩
  have s12 : ∀ t, Steps p.tables e below (s₁.setTop (mkF m 20 #[.val (.long u0), .second, .val (.long (if (u0 - (u0 / (1000 : Int64)) * (1000 : Int64)) = (0 : Int64) then (1000 : Int64) else u0)), .second] [(.long (if (u0 - (u0 / (1000 : Int64)) * (1000 : Int64)) = (0 : Int64) then (1000 : Int64) else u0))])) t → Steps p.tables e below (s₁.setTop (mkF m 19 #[.val (.long u0), .second, .val (.long (if (u0 - (u0 / (1000 : Int64)) * (1000 : Int64)) = (0 : Int64) then (1000 : Int64) else u0)), .second] [])) t := by
    intro t kt
    refine XS.lloadN X0.here hx rfl (hb hby d1_19) rfl ?_
    exact kt
  obtain ⟨fs, hr, hrun, hended, hW, hsame⟩ := X0.leave (v := some (.long (if (u0 - (u0 / (1000 : Int64)) * (1000 : Int64)) = (0 : Int64) then (1000 : Int64) else u0))) (fun h => by rw [Bd.returns] at h; cases h)
  refine ⟨_, _, pre0 _ (s1 _ (j11 _ (s12 _ (?_)))), hrun, hended, _, _, rfl, ?_, ⟨_, rfl⟩, hW, hsame.mono (by decide) (by decide)⟩
  · show Steps p.tables e below (s₁.setTop (mkF m 20 #[.val (.long u0), .second, .val (.long (if (u0 - (u0 / (1000 : Int64)) * (1000 : Int64)) = (0 : Int64) then (1000 : Int64) else u0)), .second] [(.long (if (u0 - (u0 / (1000 : Int64)) * (1000 : Int64)) = (0 : Int64) then (1000 : Int64) else u0))])) _
    exact X0.lreturnOut hx Bd.returns (hb hby d1_20) hr
  · show Q1 Z u0 h0 n0 _ s₁.heap _
    rw [e0]
    exact ⟨rfl, N0, rfl⟩
def Q2 (Z : State) (u0 : Int64) (h0 : Heap) (n0 : Nat) (v : Option Value) (h : Heap) (L : List Loc) : Prop := v = some (.long (gcount u0)) ∧ Fr n0 L ∧ h = h0
set_option maxRecDepth 65536 in
set_option maxHeartbeats 40000000 in
theorem rm2 (l : Launch) (Z : State) (a0 : Array Value) (hw : ∀ d ∈ tables_1, d.before a0 Z = true) (ws : List Jvm.Cond) (u0 : Int64) (h0 : Heap) (n0 : Nat) (Z0 : n0 ≤ h0.size)  :
    MetFree l (⟨"com/example/berth/berth/model/Gpus", "count", "(J)J"⟩ : MethodName) (head1 (Jvm.Cond.code (⟨"com/example/berth/berth/model/Gpus", "count", "(J)J"⟩ : MethodName) prog_13_method_2_code 4 (some .long) :: ws) ({ frames := 0, cells := 0, slots := 0, locals := 0 } : Room)) (fun a U => a = #[(.long u0)] ∧ Z.Warmed39 U.vm ∧ U.heap = h0) (fun _ _ _ _ _ => True) (fun _ U o U' => ∃ v L, o = .returned v ∧ Q2 Z u0 h0 n0 v U'.heap L ∧ FrameEnd U o U' L ({ frames := 0, cells := 0, slots := 0, locals := 0 } : Room).cells ({ frames := 0, cells := 0, slots := 0, locals := 0 } : Room).slots) := by
  refine MetFree.of_bodySF (plainFor_of_name pn_com_example_berth_berth_model_Gpus) hisR ?_
  intro p e s m args0 below meth c s₁ Bd hml0 hP hK
  obtain ⟨rfl, hZ, hh⟩ := hP
  have hx := Bd.exec
  have hby := Bd.bytes
  have hml : c.maxLocals = 4 := hml0
  have hown : s.vm.findClass "com/example/berth/berth/model/Gpus" = some m.cls := findClass_of_methodNamed Bd.named
  have hnm := (name_of_methodNamed Bd.named Bd.method).1
  have X0 : Stand p l e ({ frames := 0, cells := 0, slots := 0, locals := 0 } : Room) s m #[(.long u0)] below meth c s₁ [] 0 0 := Stand.of_body Bd
  have e0 : s₁.heap = h0 := by rw [← hh, Bd.state]; rfl
  have N0 := Fr.nil n0
  have pre0 : ∀ t, Steps p.tables e below (s₁.setTop (mkF m 0 #[.val (.long u0), .second, .unset, .unset] [])) t → Steps p.tables e below (s₁.setTop (entryFrame m #[(.long u0)] 4)) t := fun t k => castTop (ef_2 m u0) k
  have s13 : ∀ t, Steps p.tables e below (s₁.setTop (mkF m 7 #[.val (.long u0), .second, .unset, .unset] [(.int (lcmpW (u0 - (u0 / (1000 : Int64)) * (1000 : Int64)) (0 : Int64)))])) t → Steps p.tables e below (s₁.setTop (mkF m 0 #[.val (.long u0), .second, .unset, .unset] [])) t := by
    intro t kt
    refine XS.lloadN X0.here hx rfl (hb hby d2_0) rfl ?_
    show Steps p.tables e below (s₁.setTop (mkF m 1 #[.val (.long u0), .second, .unset, .unset] [(.long u0)])) t
    refine X0.ldc2Long hx hown (mvT hZ (hw _ (List.mem_of_getElem? (i := 6) rfl))) (g := (mkF m 1 #[.val (.long u0), .second, .unset, .unset] [(.long u0)])) rfl (hb hby d2_1) _ ?_
    show Steps p.tables e below (s₁.setTop (mkF m 4 #[.val (.long u0), .second, .unset, .unset] [(.long (1000 : Int64)), (.long u0)])) t
    refine XS.lrem X0.here hx rfl (hb hby d2_4) rfl (by decide) ?_
    show Steps p.tables e below (s₁.setTop (mkF m 5 #[.val (.long u0), .second, .unset, .unset] [(.long (u0 - (u0 / (1000 : Int64)) * (1000 : Int64)))])) t
    refine XS.lconst X0.here hx rfl (hb hby d2_5) ?_
    show Steps p.tables e below (s₁.setTop (mkF m 6 #[.val (.long u0), .second, .unset, .unset] [(.long (0 : Int64)), (.long (u0 - (u0 / (1000 : Int64)) * (1000 : Int64)))])) t
    refine XS.lcmp X0.here hx rfl (hb hby d2_6) rfl ?_
    exact kt
  obtain ⟨w17, rfl, j23⟩ : ∃ (w17 : Int64), w17 = (if (u0 - (u0 / (1000 : Int64)) * (1000 : Int64)) = (0 : Int64) then (u0 / (1000 : Int64)) else (1 : Int64)) ∧ ∀ t, Steps p.tables e below (s₁.setTop (mkF m 21 #[.val (.long u0), .second, .val (.long w17), .second] [])) t → Steps p.tables e below (s₁.setTop (mkF m 7 #[.val (.long u0), .second, .unset, .unset] [(.int (lcmpW (u0 - (u0 / (1000 : Int64)) * (1000 : Int64)) (0 : Int64)))])) t := by
    by_cases c14 : (u0 - (u0 / (1000 : Int64)) * (1000 : Int64)) = (0 : Int64)
    ·
      have s16 : ∀ t, Steps p.tables e below (s₁.setTop (mkF m 21 #[.val (.long u0), .second, .val (.long (u0 / (1000 : Int64))), .second] [])) t → Steps p.tables e below (s₁.setTop (mkF m 7 #[.val (.long u0), .second, .unset, .unset] [(.int (lcmpW (u0 - (u0 / (1000 : Int64)) * (1000 : Int64)) (0 : Int64)))])) t := by
        intro t kt
        refine XS.ifNo X0.here hx rfl (hb hby d2_7) rfl ((if0 _ _).trans (teq ((lw_eq _ _).mpr c14)).2) ?_
        show Steps p.tables e below (s₁.setTop (mkF m 10 #[.val (.long u0), .second, .unset, .unset] [])) t
        refine XS.lloadN X0.here hx rfl (hb hby d2_10) rfl ?_
        show Steps p.tables e below (s₁.setTop (mkF m 11 #[.val (.long u0), .second, .unset, .unset] [(.long u0)])) t
        refine X0.ldc2Long hx hown (mvT hZ (hw _ (List.mem_of_getElem? (i := 6) rfl))) (g := (mkF m 11 #[.val (.long u0), .second, .unset, .unset] [(.long u0)])) rfl (hb hby d2_11) _ ?_
        show Steps p.tables e below (s₁.setTop (mkF m 14 #[.val (.long u0), .second, .unset, .unset] [(.long (1000 : Int64)), (.long u0)])) t
        refine XS.ldiv X0.here hx rfl (hb hby d2_14) rfl (by decide) ?_
        show Steps p.tables e below (s₁.setTop (mkF m 15 #[.val (.long u0), .second, .unset, .unset] [(.long (u0 / (1000 : Int64)))])) t
        refine XS.lstoreN X0.here hx rfl (hb hby d2_15) rfl (l' := #[.val (.long u0), .second, .val (.long (u0 / (1000 : Int64))), .second]) rfl ?_
        show Steps p.tables e below (s₁.setTop (mkF m 16 #[.val (.long u0), .second, .val (.long (u0 / (1000 : Int64))), .second] [])) t
        refine XS.goto X0.here hx rfl (pc0 := 16) (pc' := 21) rfl (hb hby d2_16) (by decide) (by decide) ?_
        exact kt
      exact ⟨(u0 / (1000 : Int64)), (if_pos c14).symm, fun t kt => s16 _ (kt)⟩
    ·
      have s15 : ∀ t, Steps p.tables e below (s₁.setTop (mkF m 21 #[.val (.long u0), .second, .val (.long (1 : Int64)), .second] [])) t → Steps p.tables e below (s₁.setTop (mkF m 7 #[.val (.long u0), .second, .unset, .unset] [(.int (lcmpW (u0 - (u0 / (1000 : Int64)) * (1000 : Int64)) (0 : Int64)))])) t := by
        intro t kt
        refine XS.ifYes X0.here hx rfl (pc0 := 7) (pc' := 19) rfl (hb hby d2_7) rfl ((if0 _ _).trans (feq (mt (lw_eq _ _).mp c14)).2) (by decide) (by decide) ?_
        show Steps p.tables e below (s₁.setTop (mkF m 19 #[.val (.long u0), .second, .unset, .unset] [])) t
        refine XS.lconst X0.here hx rfl (hb hby d2_19) ?_
        show Steps p.tables e below (s₁.setTop (mkF m 20 #[.val (.long u0), .second, .unset, .unset] [(.long (1 : Int64))])) t
        refine XS.lstoreN X0.here hx rfl (hb hby d2_20) rfl (l' := #[.val (.long u0), .second, .val (.long (1 : Int64)), .second]) rfl ?_
        exact kt
      exact ⟨(1 : Int64), (if_neg c14).symm, fun t kt => s15 _ (kt)⟩
  have s24 : ∀ t, Steps p.tables e below (s₁.setTop (mkF m 22 #[.val (.long u0), .second, .val (.long (if (u0 - (u0 / (1000 : Int64)) * (1000 : Int64)) = (0 : Int64) then (u0 / (1000 : Int64)) else (1 : Int64))), .second] [(.long (if (u0 - (u0 / (1000 : Int64)) * (1000 : Int64)) = (0 : Int64) then (u0 / (1000 : Int64)) else (1 : Int64)))])) t → Steps p.tables e below (s₁.setTop (mkF m 21 #[.val (.long u0), .second, .val (.long (if (u0 - (u0 / (1000 : Int64)) * (1000 : Int64)) = (0 : Int64) then (u0 / (1000 : Int64)) else (1 : Int64))), .second] [])) t := by
    intro t kt
    refine XS.lloadN X0.here hx rfl (hb hby d2_21) rfl ?_
    exact kt
  obtain ⟨fs, hr, hrun, hended, hW, hsame⟩ := X0.leave (v := some (.long (if (u0 - (u0 / (1000 : Int64)) * (1000 : Int64)) = (0 : Int64) then (u0 / (1000 : Int64)) else (1 : Int64)))) (fun h => by rw [Bd.returns] at h; cases h)
  refine ⟨_, _, pre0 _ (s13 _ (j23 _ (s24 _ (?_)))), hrun, hended, _, _, rfl, ?_, ⟨_, rfl⟩, hW, hsame.mono (by decide) (by decide)⟩
  · show Steps p.tables e below (s₁.setTop (mkF m 22 #[.val (.long u0), .second, .val (.long (if (u0 - (u0 / (1000 : Int64)) * (1000 : Int64)) = (0 : Int64) then (u0 / (1000 : Int64)) else (1 : Int64))), .second] [(.long (if (u0 - (u0 / (1000 : Int64)) * (1000 : Int64)) = (0 : Int64) then (u0 / (1000 : Int64)) else (1 : Int64)))])) _
    exact X0.lreturnOut hx Bd.returns (hb hby d2_22) hr
  · show Q2 Z u0 h0 n0 _ s₁.heap _
    rw [e0]
    exact ⟨rfl, N0, rfl⟩
theorem own_k1000 : (1000 : Int64).toInt = 1000 := by decide
theorem own_k0 : (0 : Int64).toInt = 0 := by decide
theorem own_rem (D : Int64) : (D - (D / (1000 : Int64)) * (1000 : Int64)).toInt = D.toInt.tmod 1000 := by rw [Jvm.Kit.i64_rem, own_k1000]
theorem own_div (D : Int64) : (D / (1000 : Int64)).toInt = D.toInt.tdiv 1000 := by rw [Jvm.Kit.i64_div (by rw [own_k1000]; omega), own_k1000]
theorem own_pin (q mm : Int64) (f : Int32) (w1 : Int32) (w2 : Int64) (w3 : Int32) (hm : mm = (q - (q / (9223372036854774 : Int64)) * (9223372036854774 : Int64)))
    (h1 : w1 = (if (f &&& (1 : Int32)) = (0 : Int32) then (0 : Int32) else (((f.toUInt32 >>> ((1 : Int32) &&& 31).toUInt32).toInt32) % (1000 : Int32))))
    (h2 : w2 = (if w1 = (0 : Int32) then (1000 : Int64) else ((mm * (1000 : Int64)) + (w1.toInt64))))
    (h3 : w3 = (if (geach ((mm * (1000 : Int64)) + (w1.toInt64))) = w2 then (1 : Int32) else (0 : Int32))) : ¬ (w3 = (0 : Int32)) := by
  have kM : (9223372036854774 : Int64).toInt = 9223372036854774 := by decide
  have bm : mm.toInt = q.toInt.tmod 9223372036854774 := by rw [hm, Jvm.Kit.i64_rem, kM]
  have t0 := Jvm.RoadKit.tr q.toInt 9223372036854774
  have e1 := Jvm.RoadKit.c_iushr f 1 1 (by decide) (by decide)
  have e2 := Jvm.RoadKit.c_irem ((f.toUInt32 >>> ((1 : Int32) &&& 31).toUInt32).toInt32) 1000 1000 (by decide)
  have b1 : 0 ≤ w1.toInt ∧ w1.toInt < 1000 := by
    rw [h1]; split
    · decide
    · omega
  have c1 : w1.toInt64.toInt = w1.toInt := Jvm.Kit.i64_of_i32 _
  have e3 : (mm * (1000 : Int64)).toInt = mm.toInt * 1000 := by
    rw [Jvm.Kit.i64_mul (by rw [own_k1000]; omega) (by rw [own_k1000]; omega), own_k1000]
  have e4 : ((mm * (1000 : Int64)) + w1.toInt64).toInt = mm.toInt * 1000 + w1.toInt := by
    rw [Jvm.Kit.i64_add (by omega) (by omega), e3, c1]
  generalize hD : (mm * (1000 : Int64)) + w1.toInt64 = D at *
  have er := own_rem D
  have t1 := Jvm.RoadKit.tr D.toInt 1000
  have g : geach D = w2 := by
    rw [h2]
    show (if (D - (D / (1000 : Int64)) * (1000 : Int64)) = (0 : Int64) then (1000 : Int64) else D) = _
    by_cases hs : w1 = 0
    · have hz : w1.toInt = 0 := by rw [hs]; rfl
      have q1 : D - (D / (1000 : Int64)) * (1000 : Int64) = 0 := Int64.toInt_inj.mp (by rw [er, own_k0]; omega)
      rw [if_pos q1, if_pos hs]
    · have hz : w1.toInt ≠ 0 := fun h => hs (Int32.toInt_inj.mp (by rw [h]; rfl))
      have q1 : ¬ (D - (D / (1000 : Int64)) * (1000 : Int64) = 0) := fun h => by
        have h' := congrArg Int64.toInt h
        rw [er, own_k0] at h'; omega
      rw [if_neg q1, if_neg hs]
  rw [h3, if_pos g]
  decide
theorem own_shape (d : Int64) (w : Int32) (h : w = (if (geach d) = (1000 : Int64) then (if ((gcount d) * (geach d)) = d then (1 : Int32) else (0 : Int32)) else (if (geach d) = d then (if ((gcount d) * (geach d)) = d then (1 : Int32) else (0 : Int32)) else (0 : Int32)))) : ¬ (w = (0 : Int32)) := by
  have er := own_rem d
  have ed := own_div d
  have t1 := Jvm.RoadKit.tr d.toInt 1000
  have t2 := Jvm.RoadKit.tq d.toInt 1000
  have r1 := d.toInt_lt
  have r2 := d.le_toInt
  by_cases hz : d - (d / (1000 : Int64)) * (1000 : Int64) = 0
  · have g1 : geach d = 1000 := if_pos hz
    have g2 : gcount d = d / 1000 := if_pos hz
    have hz' : d.toInt.tmod 1000 = 0 := by rw [← er, hz]; rfl
    have p : d / (1000 : Int64) * 1000 = d := Int64.toInt_inj.mp (by
      rw [Jvm.Kit.i64_mul (by rw [own_k1000]; omega) (by rw [own_k1000]; omega), own_k1000]; omega)
    rw [h, g1, g2, if_pos rfl, if_pos p]
    decide
  · have g1 : geach d = d := if_neg hz
    have g2 : gcount d = 1 := if_neg hz
    have p : (1 : Int64) * d = d := Int64.one_mul d
    rw [h, g1, g2, if_pos p, if_pos (rfl : d = d)]
    split <;> decide

def Q0 (Z : State) (aq : Int64) (ar : Int32) (ad : Int64) (h0 : Heap) (n0 : Nat) (v : Option Value) (h : Heap) (L : List Loc) : Prop := v = some (.int 1) ∧ Fr n0 L
set_option maxRecDepth 65536 in
set_option maxHeartbeats 40000000 in
theorem rm0 (l : Launch) (Z : State) (a0 : Array Value) (hw : ∀ d ∈ tables_1, d.before a0 Z = true) (ws : List Jvm.Cond) (aq : Int64) (ar : Int32) (ad : Int64) (h0 : Heap) (n0 : Nat) (Z0 : n0 ≤ h0.size)  :
    MetFree l x (head1 (Jvm.Cond.code x code maxLocals ret :: ws) room_1) (fun a U => a = #[(.long aq), (.int ar), (.long ad)] ∧ Z.Warmed39 U.vm ∧ U.heap = h0) (fun _ _ _ _ _ => True) (fun _ U o U' => ∃ v L, o = .returned v ∧ Q0 Z aq ar ad h0 n0 v U'.heap L ∧ FrameEnd U o U' L room_1.cells room_1.slots) := by
  refine MetFree.of_bodySF (plainFor_of_name pn_com_example_berth_berth_model_GpusEachPinLaw) hisR ?_
  intro p e s m args0 below meth c s₁ Bd hml0 hP hK
  obtain ⟨rfl, hZ, hh⟩ := hP
  have hx := Bd.exec
  have hby := Bd.bytes
  have hml : c.maxLocals = 16 := hml0
  have hown : s.vm.findClass "com/example/berth/berth/model/GpusEachPinLaw" = some m.cls := findClass_of_methodNamed Bd.named
  have hnm := (name_of_methodNamed Bd.named Bd.method).1
  have X0 : Stand p l e room_1 s m #[(.long aq), (.int ar), (.long ad)] below meth c s₁ [] 0 0 := Stand.of_body Bd
  have e0 : s₁.heap = h0 := by rw [← hh, Bd.state]; rfl
  have N0 := Fr.nil n0
  have pre0 : ∀ t, Steps p.tables e below (s₁.setTop (mkF m 0 #[.val (.long aq), .second, .val (.int ar), .val (.long ad), .second, .unset, .unset, .unset, .unset, .unset, .unset, .unset, .unset, .unset, .unset, .unset] [])) t → Steps p.tables e below (s₁.setTop (entryFrame m #[(.long aq), (.int ar), (.long ad)] maxLocals)) t := fun t k => castTop (ef_0 m aq ar ad) k
  have s25 : ∀ t, Steps p.tables e below (s₁.setTop (mkF m 10 #[.val (.long aq), .second, .val (.int ar), .val (.long ad), .second, .val (.long (aq - (aq / (9223372036854774 : Int64)) * (9223372036854774 : Int64))), .second, .unset, .unset, .unset, .unset, .unset, .unset, .unset, .unset, .unset] [(.int (ar &&& (1 : Int32)))])) t → Steps p.tables e below (s₁.setTop (mkF m 0 #[.val (.long aq), .second, .val (.int ar), .val (.long ad), .second, .unset, .unset, .unset, .unset, .unset, .unset, .unset, .unset, .unset, .unset, .unset] [])) t := by
    intro t kt
    refine XS.lloadN X0.here hx rfl (hb hby at_0) rfl ?_
    show Steps p.tables e below (s₁.setTop (mkF m 1 #[.val (.long aq), .second, .val (.int ar), .val (.long ad), .second, .unset, .unset, .unset, .unset, .unset, .unset, .unset, .unset, .unset, .unset, .unset] [(.long aq)])) t
    refine X0.ldc2Long hx hown (mvT hZ (hw _ (List.mem_of_getElem? (i := 0) rfl))) (g := (mkF m 1 #[.val (.long aq), .second, .val (.int ar), .val (.long ad), .second, .unset, .unset, .unset, .unset, .unset, .unset, .unset, .unset, .unset, .unset, .unset] [(.long aq)])) rfl (hb hby at_1) _ ?_
    show Steps p.tables e below (s₁.setTop (mkF m 4 #[.val (.long aq), .second, .val (.int ar), .val (.long ad), .second, .unset, .unset, .unset, .unset, .unset, .unset, .unset, .unset, .unset, .unset, .unset] [(.long (9223372036854774 : Int64)), (.long aq)])) t
    refine XS.lrem X0.here hx rfl (hb hby at_4) rfl (by decide) ?_
    show Steps p.tables e below (s₁.setTop (mkF m 5 #[.val (.long aq), .second, .val (.int ar), .val (.long ad), .second, .unset, .unset, .unset, .unset, .unset, .unset, .unset, .unset, .unset, .unset, .unset] [(.long (aq - (aq / (9223372036854774 : Int64)) * (9223372036854774 : Int64)))])) t
    refine XS.lstore X0.here hx rfl (hb hby at_5) rfl (l' := #[.val (.long aq), .second, .val (.int ar), .val (.long ad), .second, .val (.long (aq - (aq / (9223372036854774 : Int64)) * (9223372036854774 : Int64))), .second, .unset, .unset, .unset, .unset, .unset, .unset, .unset, .unset, .unset]) rfl ?_
    show Steps p.tables e below (s₁.setTop (mkF m 7 #[.val (.long aq), .second, .val (.int ar), .val (.long ad), .second, .val (.long (aq - (aq / (9223372036854774 : Int64)) * (9223372036854774 : Int64))), .second, .unset, .unset, .unset, .unset, .unset, .unset, .unset, .unset, .unset] [])) t
    refine XS.iloadN X0.here hx rfl (hb hby at_7) rfl ?_
    show Steps p.tables e below (s₁.setTop (mkF m 8 #[.val (.long aq), .second, .val (.int ar), .val (.long ad), .second, .val (.long (aq - (aq / (9223372036854774 : Int64)) * (9223372036854774 : Int64))), .second, .unset, .unset, .unset, .unset, .unset, .unset, .unset, .unset, .unset] [(.int ar)])) t
    refine XS.iconst X0.here hx rfl (hb hby at_8) ?_
    show Steps p.tables e below (s₁.setTop (mkF m 9 #[.val (.long aq), .second, .val (.int ar), .val (.long ad), .second, .val (.long (aq - (aq / (9223372036854774 : Int64)) * (9223372036854774 : Int64))), .second, .unset, .unset, .unset, .unset, .unset, .unset, .unset, .unset, .unset] [(.int (1 : Int32)), (.int ar)])) t
    refine XS.iand X0.here hx rfl (hb hby at_9) rfl ?_
    exact kt
  obtain ⟨w29, hw29, j35⟩ : ∃ (w29 : Int32), w29 = (if (ar &&& (1 : Int32)) = (0 : Int32) then (0 : Int32) else (((ar.toUInt32 >>> ((1 : Int32) &&& 31).toUInt32).toInt32) % (1000 : Int32))) ∧ ∀ t, Steps p.tables e below (s₁.setTop (mkF m 24 #[.val (.long aq), .second, .val (.int ar), .val (.long ad), .second, .val (.long (aq - (aq / (9223372036854774 : Int64)) * (9223372036854774 : Int64))), .second, .unset, .unset, .unset, .unset, .unset, .unset, .unset, .unset, .unset] [(.int w29)])) t → Steps p.tables e below (s₁.setTop (mkF m 10 #[.val (.long aq), .second, .val (.int ar), .val (.long ad), .second, .val (.long (aq - (aq / (9223372036854774 : Int64)) * (9223372036854774 : Int64))), .second, .unset, .unset, .unset, .unset, .unset, .unset, .unset, .unset, .unset] [(.int (ar &&& (1 : Int32)))])) t := by
    by_cases c26 : (ar &&& (1 : Int32)) = (0 : Int32)
    ·
      have s28 : ∀ t, Steps p.tables e below (s₁.setTop (mkF m 24 #[.val (.long aq), .second, .val (.int ar), .val (.long ad), .second, .val (.long (aq - (aq / (9223372036854774 : Int64)) * (9223372036854774 : Int64))), .second, .unset, .unset, .unset, .unset, .unset, .unset, .unset, .unset, .unset] [(.int (0 : Int32))])) t → Steps p.tables e below (s₁.setTop (mkF m 10 #[.val (.long aq), .second, .val (.int ar), .val (.long ad), .second, .val (.long (aq - (aq / (9223372036854774 : Int64)) * (9223372036854774 : Int64))), .second, .unset, .unset, .unset, .unset, .unset, .unset, .unset, .unset, .unset] [(.int (ar &&& (1 : Int32)))])) t := by
        intro t kt
        refine XS.ifNo X0.here hx rfl (hb hby at_10) rfl ((if0 _ _).trans (teq c26).2) ?_
        show Steps p.tables e below (s₁.setTop (mkF m 13 #[.val (.long aq), .second, .val (.int ar), .val (.long ad), .second, .val (.long (aq - (aq / (9223372036854774 : Int64)) * (9223372036854774 : Int64))), .second, .unset, .unset, .unset, .unset, .unset, .unset, .unset, .unset, .unset] [])) t
        refine XS.iconst X0.here hx rfl (hb hby at_13) ?_
        show Steps p.tables e below (s₁.setTop (mkF m 14 #[.val (.long aq), .second, .val (.int ar), .val (.long ad), .second, .val (.long (aq - (aq / (9223372036854774 : Int64)) * (9223372036854774 : Int64))), .second, .unset, .unset, .unset, .unset, .unset, .unset, .unset, .unset, .unset] [(.int (0 : Int32))])) t
        refine XS.goto X0.here hx rfl (pc0 := 14) (pc' := 24) rfl (hb hby at_14) (by decide) (by decide) ?_
        exact kt
      exact ⟨(0 : Int32), (if_pos c26).symm, fun t kt => s28 _ (kt)⟩
    ·
      have s27 : ∀ t, Steps p.tables e below (s₁.setTop (mkF m 24 #[.val (.long aq), .second, .val (.int ar), .val (.long ad), .second, .val (.long (aq - (aq / (9223372036854774 : Int64)) * (9223372036854774 : Int64))), .second, .unset, .unset, .unset, .unset, .unset, .unset, .unset, .unset, .unset] [(.int (((ar.toUInt32 >>> ((1 : Int32) &&& 31).toUInt32).toInt32) % (1000 : Int32)))])) t → Steps p.tables e below (s₁.setTop (mkF m 10 #[.val (.long aq), .second, .val (.int ar), .val (.long ad), .second, .val (.long (aq - (aq / (9223372036854774 : Int64)) * (9223372036854774 : Int64))), .second, .unset, .unset, .unset, .unset, .unset, .unset, .unset, .unset, .unset] [(.int (ar &&& (1 : Int32)))])) t := by
        intro t kt
        refine XS.ifYes X0.here hx rfl (pc0 := 10) (pc' := 17) rfl (hb hby at_10) rfl ((if0 _ _).trans (feq c26).2) (by decide) (by decide) ?_
        show Steps p.tables e below (s₁.setTop (mkF m 17 #[.val (.long aq), .second, .val (.int ar), .val (.long ad), .second, .val (.long (aq - (aq / (9223372036854774 : Int64)) * (9223372036854774 : Int64))), .second, .unset, .unset, .unset, .unset, .unset, .unset, .unset, .unset, .unset] [])) t
        refine XS.iloadN X0.here hx rfl (hb hby at_17) rfl ?_
        show Steps p.tables e below (s₁.setTop (mkF m 18 #[.val (.long aq), .second, .val (.int ar), .val (.long ad), .second, .val (.long (aq - (aq / (9223372036854774 : Int64)) * (9223372036854774 : Int64))), .second, .unset, .unset, .unset, .unset, .unset, .unset, .unset, .unset, .unset] [(.int ar)])) t
        refine XS.iconst X0.here hx rfl (hb hby at_18) ?_
        show Steps p.tables e below (s₁.setTop (mkF m 19 #[.val (.long aq), .second, .val (.int ar), .val (.long ad), .second, .val (.long (aq - (aq / (9223372036854774 : Int64)) * (9223372036854774 : Int64))), .second, .unset, .unset, .unset, .unset, .unset, .unset, .unset, .unset, .unset] [(.int (1 : Int32)), (.int ar)])) t
        refine XS.iushr X0.here hx rfl (hb hby at_19) rfl ?_
        show Steps p.tables e below (s₁.setTop (mkF m 20 #[.val (.long aq), .second, .val (.int ar), .val (.long ad), .second, .val (.long (aq - (aq / (9223372036854774 : Int64)) * (9223372036854774 : Int64))), .second, .unset, .unset, .unset, .unset, .unset, .unset, .unset, .unset, .unset] [(.int ((ar.toUInt32 >>> ((1 : Int32) &&& 31).toUInt32).toInt32))])) t
        refine XS.sipush X0.here hx rfl (hb hby at_20) ?_
        show Steps p.tables e below (s₁.setTop (mkF m 23 #[.val (.long aq), .second, .val (.int ar), .val (.long ad), .second, .val (.long (aq - (aq / (9223372036854774 : Int64)) * (9223372036854774 : Int64))), .second, .unset, .unset, .unset, .unset, .unset, .unset, .unset, .unset, .unset] [(.int (1000 : Int32)), (.int ((ar.toUInt32 >>> ((1 : Int32) &&& 31).toUInt32).toInt32))])) t
        refine Jvm.RoadKit.iremM X0 hx rfl (hb hby at_23) rfl (by decide) ?_
        exact kt
      exact ⟨(((ar.toUInt32 >>> ((1 : Int32) &&& 31).toUInt32).toInt32) % (1000 : Int32)), (if_neg c26).symm, fun t kt => s27 _ (kt)⟩
  have s36 : ∀ t, Steps p.tables e below (s₁.setTop (mkF m 40 #[.val (.long aq), .second, .val (.int ar), .val (.long ad), .second, .val (.long (aq - (aq / (9223372036854774 : Int64)) * (9223372036854774 : Int64))), .second, .val (.int w29), .val (.long (((aq - (aq / (9223372036854774 : Int64)) * (9223372036854774 : Int64)) * (1000 : Int64)) + (w29.toInt64))), .second, .unset, .unset, .unset, .unset, .unset, .unset] [(.int w29)])) t → Steps p.tables e below (s₁.setTop (mkF m 24 #[.val (.long aq), .second, .val (.int ar), .val (.long ad), .second, .val (.long (aq - (aq / (9223372036854774 : Int64)) * (9223372036854774 : Int64))), .second, .unset, .unset, .unset, .unset, .unset, .unset, .unset, .unset, .unset] [(.int w29)])) t := by
    intro t kt
    refine XS.istore X0.here hx rfl (hb hby at_24) rfl (l' := #[.val (.long aq), .second, .val (.int ar), .val (.long ad), .second, .val (.long (aq - (aq / (9223372036854774 : Int64)) * (9223372036854774 : Int64))), .second, .val (.int w29), .unset, .unset, .unset, .unset, .unset, .unset, .unset, .unset]) rfl ?_
    show Steps p.tables e below (s₁.setTop (mkF m 26 #[.val (.long aq), .second, .val (.int ar), .val (.long ad), .second, .val (.long (aq - (aq / (9223372036854774 : Int64)) * (9223372036854774 : Int64))), .second, .val (.int w29), .unset, .unset, .unset, .unset, .unset, .unset, .unset, .unset] [])) t
    refine XS.lload X0.here hx rfl (hb hby at_26) rfl ?_
    show Steps p.tables e below (s₁.setTop (mkF m 28 #[.val (.long aq), .second, .val (.int ar), .val (.long ad), .second, .val (.long (aq - (aq / (9223372036854774 : Int64)) * (9223372036854774 : Int64))), .second, .val (.int w29), .unset, .unset, .unset, .unset, .unset, .unset, .unset, .unset] [(.long (aq - (aq / (9223372036854774 : Int64)) * (9223372036854774 : Int64)))])) t
    refine X0.ldc2Long hx hown (mvT hZ (hw _ (List.mem_of_getElem? (i := 1) rfl))) (g := (mkF m 28 #[.val (.long aq), .second, .val (.int ar), .val (.long ad), .second, .val (.long (aq - (aq / (9223372036854774 : Int64)) * (9223372036854774 : Int64))), .second, .val (.int w29), .unset, .unset, .unset, .unset, .unset, .unset, .unset, .unset] [(.long (aq - (aq / (9223372036854774 : Int64)) * (9223372036854774 : Int64)))])) rfl (hb hby at_28) _ ?_
    show Steps p.tables e below (s₁.setTop (mkF m 31 #[.val (.long aq), .second, .val (.int ar), .val (.long ad), .second, .val (.long (aq - (aq / (9223372036854774 : Int64)) * (9223372036854774 : Int64))), .second, .val (.int w29), .unset, .unset, .unset, .unset, .unset, .unset, .unset, .unset] [(.long (1000 : Int64)), (.long (aq - (aq / (9223372036854774 : Int64)) * (9223372036854774 : Int64)))])) t
    refine XS.lmul X0.here hx rfl (hb hby at_31) rfl ?_
    show Steps p.tables e below (s₁.setTop (mkF m 32 #[.val (.long aq), .second, .val (.int ar), .val (.long ad), .second, .val (.long (aq - (aq / (9223372036854774 : Int64)) * (9223372036854774 : Int64))), .second, .val (.int w29), .unset, .unset, .unset, .unset, .unset, .unset, .unset, .unset] [(.long ((aq - (aq / (9223372036854774 : Int64)) * (9223372036854774 : Int64)) * (1000 : Int64)))])) t
    refine XS.iload X0.here hx rfl (hb hby at_32) rfl ?_
    show Steps p.tables e below (s₁.setTop (mkF m 34 #[.val (.long aq), .second, .val (.int ar), .val (.long ad), .second, .val (.long (aq - (aq / (9223372036854774 : Int64)) * (9223372036854774 : Int64))), .second, .val (.int w29), .unset, .unset, .unset, .unset, .unset, .unset, .unset, .unset] [(.int w29), (.long ((aq - (aq / (9223372036854774 : Int64)) * (9223372036854774 : Int64)) * (1000 : Int64)))])) t
    refine XS.i2l X0.here hx rfl (hb hby at_34) rfl ?_
    show Steps p.tables e below (s₁.setTop (mkF m 35 #[.val (.long aq), .second, .val (.int ar), .val (.long ad), .second, .val (.long (aq - (aq / (9223372036854774 : Int64)) * (9223372036854774 : Int64))), .second, .val (.int w29), .unset, .unset, .unset, .unset, .unset, .unset, .unset, .unset] [(.long (w29.toInt64)), (.long ((aq - (aq / (9223372036854774 : Int64)) * (9223372036854774 : Int64)) * (1000 : Int64)))])) t
    refine XS.ladd X0.here hx rfl (hb hby at_35) rfl ?_
    show Steps p.tables e below (s₁.setTop (mkF m 36 #[.val (.long aq), .second, .val (.int ar), .val (.long ad), .second, .val (.long (aq - (aq / (9223372036854774 : Int64)) * (9223372036854774 : Int64))), .second, .val (.int w29), .unset, .unset, .unset, .unset, .unset, .unset, .unset, .unset] [(.long (((aq - (aq / (9223372036854774 : Int64)) * (9223372036854774 : Int64)) * (1000 : Int64)) + (w29.toInt64)))])) t
    refine XS.lstore X0.here hx rfl (hb hby at_36) rfl (l' := #[.val (.long aq), .second, .val (.int ar), .val (.long ad), .second, .val (.long (aq - (aq / (9223372036854774 : Int64)) * (9223372036854774 : Int64))), .second, .val (.int w29), .val (.long (((aq - (aq / (9223372036854774 : Int64)) * (9223372036854774 : Int64)) * (1000 : Int64)) + (w29.toInt64))), .second, .unset, .unset, .unset, .unset, .unset, .unset]) rfl ?_
    show Steps p.tables e below (s₁.setTop (mkF m 38 #[.val (.long aq), .second, .val (.int ar), .val (.long ad), .second, .val (.long (aq - (aq / (9223372036854774 : Int64)) * (9223372036854774 : Int64))), .second, .val (.int w29), .val (.long (((aq - (aq / (9223372036854774 : Int64)) * (9223372036854774 : Int64)) * (1000 : Int64)) + (w29.toInt64))), .second, .unset, .unset, .unset, .unset, .unset, .unset] [])) t
    refine XS.iload X0.here hx rfl (hb hby at_38) rfl ?_
    exact kt
  obtain ⟨w40, hw40, j46⟩ : ∃ (w40 : Int64), w40 = (if w29 = (0 : Int32) then (1000 : Int64) else (((aq - (aq / (9223372036854774 : Int64)) * (9223372036854774 : Int64)) * (1000 : Int64)) + (w29.toInt64))) ∧ ∀ t, Steps p.tables e below (s₁.setTop (mkF m 55 #[.val (.long aq), .second, .val (.int ar), .val (.long ad), .second, .val (.long (aq - (aq / (9223372036854774 : Int64)) * (9223372036854774 : Int64))), .second, .val (.int w29), .val (.long (((aq - (aq / (9223372036854774 : Int64)) * (9223372036854774 : Int64)) * (1000 : Int64)) + (w29.toInt64))), .second, .val (.long w40), .second, .unset, .unset, .unset, .unset] [])) t → Steps p.tables e below (s₁.setTop (mkF m 40 #[.val (.long aq), .second, .val (.int ar), .val (.long ad), .second, .val (.long (aq - (aq / (9223372036854774 : Int64)) * (9223372036854774 : Int64))), .second, .val (.int w29), .val (.long (((aq - (aq / (9223372036854774 : Int64)) * (9223372036854774 : Int64)) * (1000 : Int64)) + (w29.toInt64))), .second, .unset, .unset, .unset, .unset, .unset, .unset] [(.int w29)])) t := by
    by_cases c37 : w29 = (0 : Int32)
    ·
      have s39 : ∀ t, Steps p.tables e below (s₁.setTop (mkF m 55 #[.val (.long aq), .second, .val (.int ar), .val (.long ad), .second, .val (.long (aq - (aq / (9223372036854774 : Int64)) * (9223372036854774 : Int64))), .second, .val (.int w29), .val (.long (((aq - (aq / (9223372036854774 : Int64)) * (9223372036854774 : Int64)) * (1000 : Int64)) + (w29.toInt64))), .second, .val (.long (1000 : Int64)), .second, .unset, .unset, .unset, .unset] [])) t → Steps p.tables e below (s₁.setTop (mkF m 40 #[.val (.long aq), .second, .val (.int ar), .val (.long ad), .second, .val (.long (aq - (aq / (9223372036854774 : Int64)) * (9223372036854774 : Int64))), .second, .val (.int w29), .val (.long (((aq - (aq / (9223372036854774 : Int64)) * (9223372036854774 : Int64)) * (1000 : Int64)) + (w29.toInt64))), .second, .unset, .unset, .unset, .unset, .unset, .unset] [(.int w29)])) t := by
        intro t kt
        refine XS.ifNo X0.here hx rfl (hb hby at_40) rfl ((if0 _ _).trans (teq c37).2) ?_
        show Steps p.tables e below (s₁.setTop (mkF m 43 #[.val (.long aq), .second, .val (.int ar), .val (.long ad), .second, .val (.long (aq - (aq / (9223372036854774 : Int64)) * (9223372036854774 : Int64))), .second, .val (.int w29), .val (.long (((aq - (aq / (9223372036854774 : Int64)) * (9223372036854774 : Int64)) * (1000 : Int64)) + (w29.toInt64))), .second, .unset, .unset, .unset, .unset, .unset, .unset] [])) t
        refine X0.ldc2Long hx hown (mvT hZ (hw _ (List.mem_of_getElem? (i := 1) rfl))) (g := (mkF m 43 #[.val (.long aq), .second, .val (.int ar), .val (.long ad), .second, .val (.long (aq - (aq / (9223372036854774 : Int64)) * (9223372036854774 : Int64))), .second, .val (.int w29), .val (.long (((aq - (aq / (9223372036854774 : Int64)) * (9223372036854774 : Int64)) * (1000 : Int64)) + (w29.toInt64))), .second, .unset, .unset, .unset, .unset, .unset, .unset] [])) rfl (hb hby at_43) _ ?_
        show Steps p.tables e below (s₁.setTop (mkF m 46 #[.val (.long aq), .second, .val (.int ar), .val (.long ad), .second, .val (.long (aq - (aq / (9223372036854774 : Int64)) * (9223372036854774 : Int64))), .second, .val (.int w29), .val (.long (((aq - (aq / (9223372036854774 : Int64)) * (9223372036854774 : Int64)) * (1000 : Int64)) + (w29.toInt64))), .second, .unset, .unset, .unset, .unset, .unset, .unset] [(.long (1000 : Int64))])) t
        refine XS.lstore X0.here hx rfl (hb hby at_46) rfl (l' := #[.val (.long aq), .second, .val (.int ar), .val (.long ad), .second, .val (.long (aq - (aq / (9223372036854774 : Int64)) * (9223372036854774 : Int64))), .second, .val (.int w29), .val (.long (((aq - (aq / (9223372036854774 : Int64)) * (9223372036854774 : Int64)) * (1000 : Int64)) + (w29.toInt64))), .second, .val (.long (1000 : Int64)), .second, .unset, .unset, .unset, .unset]) rfl ?_
        show Steps p.tables e below (s₁.setTop (mkF m 48 #[.val (.long aq), .second, .val (.int ar), .val (.long ad), .second, .val (.long (aq - (aq / (9223372036854774 : Int64)) * (9223372036854774 : Int64))), .second, .val (.int w29), .val (.long (((aq - (aq / (9223372036854774 : Int64)) * (9223372036854774 : Int64)) * (1000 : Int64)) + (w29.toInt64))), .second, .val (.long (1000 : Int64)), .second, .unset, .unset, .unset, .unset] [])) t
        refine XS.goto X0.here hx rfl (pc0 := 48) (pc' := 55) rfl (hb hby at_48) (by decide) (by decide) ?_
        exact kt
      exact ⟨(1000 : Int64), (if_pos c37).symm, fun t kt => s39 _ (kt)⟩
    ·
      have s38 : ∀ t, Steps p.tables e below (s₁.setTop (mkF m 55 #[.val (.long aq), .second, .val (.int ar), .val (.long ad), .second, .val (.long (aq - (aq / (9223372036854774 : Int64)) * (9223372036854774 : Int64))), .second, .val (.int w29), .val (.long (((aq - (aq / (9223372036854774 : Int64)) * (9223372036854774 : Int64)) * (1000 : Int64)) + (w29.toInt64))), .second, .val (.long (((aq - (aq / (9223372036854774 : Int64)) * (9223372036854774 : Int64)) * (1000 : Int64)) + (w29.toInt64))), .second, .unset, .unset, .unset, .unset] [])) t → Steps p.tables e below (s₁.setTop (mkF m 40 #[.val (.long aq), .second, .val (.int ar), .val (.long ad), .second, .val (.long (aq - (aq / (9223372036854774 : Int64)) * (9223372036854774 : Int64))), .second, .val (.int w29), .val (.long (((aq - (aq / (9223372036854774 : Int64)) * (9223372036854774 : Int64)) * (1000 : Int64)) + (w29.toInt64))), .second, .unset, .unset, .unset, .unset, .unset, .unset] [(.int w29)])) t := by
        intro t kt
        refine XS.ifYes X0.here hx rfl (pc0 := 40) (pc' := 51) rfl (hb hby at_40) rfl ((if0 _ _).trans (feq c37).2) (by decide) (by decide) ?_
        show Steps p.tables e below (s₁.setTop (mkF m 51 #[.val (.long aq), .second, .val (.int ar), .val (.long ad), .second, .val (.long (aq - (aq / (9223372036854774 : Int64)) * (9223372036854774 : Int64))), .second, .val (.int w29), .val (.long (((aq - (aq / (9223372036854774 : Int64)) * (9223372036854774 : Int64)) * (1000 : Int64)) + (w29.toInt64))), .second, .unset, .unset, .unset, .unset, .unset, .unset] [])) t
        refine XS.lload X0.here hx rfl (hb hby at_51) rfl ?_
        show Steps p.tables e below (s₁.setTop (mkF m 53 #[.val (.long aq), .second, .val (.int ar), .val (.long ad), .second, .val (.long (aq - (aq / (9223372036854774 : Int64)) * (9223372036854774 : Int64))), .second, .val (.int w29), .val (.long (((aq - (aq / (9223372036854774 : Int64)) * (9223372036854774 : Int64)) * (1000 : Int64)) + (w29.toInt64))), .second, .unset, .unset, .unset, .unset, .unset, .unset] [(.long (((aq - (aq / (9223372036854774 : Int64)) * (9223372036854774 : Int64)) * (1000 : Int64)) + (w29.toInt64)))])) t
        refine XS.lstore X0.here hx rfl (hb hby at_53) rfl (l' := #[.val (.long aq), .second, .val (.int ar), .val (.long ad), .second, .val (.long (aq - (aq / (9223372036854774 : Int64)) * (9223372036854774 : Int64))), .second, .val (.int w29), .val (.long (((aq - (aq / (9223372036854774 : Int64)) * (9223372036854774 : Int64)) * (1000 : Int64)) + (w29.toInt64))), .second, .val (.long (((aq - (aq / (9223372036854774 : Int64)) * (9223372036854774 : Int64)) * (1000 : Int64)) + (w29.toInt64))), .second, .unset, .unset, .unset, .unset]) rfl ?_
        exact kt
      exact ⟨(((aq - (aq / (9223372036854774 : Int64)) * (9223372036854774 : Int64)) * (1000 : Int64)) + (w29.toInt64)), (if_neg c37).symm, fun t kt => s38 _ (kt)⟩
  have s47 : ∀ t, Steps p.tables e below (s₁.setTop (mkF m 57 #[.val (.long aq), .second, .val (.int ar), .val (.long ad), .second, .val (.long (aq - (aq / (9223372036854774 : Int64)) * (9223372036854774 : Int64))), .second, .val (.int w29), .val (.long (((aq - (aq / (9223372036854774 : Int64)) * (9223372036854774 : Int64)) * (1000 : Int64)) + (w29.toInt64))), .second, .val (.long w40), .second, .unset, .unset, .unset, .unset] [(.long (((aq - (aq / (9223372036854774 : Int64)) * (9223372036854774 : Int64)) * (1000 : Int64)) + (w29.toInt64)))])) t → Steps p.tables e below (s₁.setTop (mkF m 55 #[.val (.long aq), .second, .val (.int ar), .val (.long ad), .second, .val (.long (aq - (aq / (9223372036854774 : Int64)) * (9223372036854774 : Int64))), .second, .val (.int w29), .val (.long (((aq - (aq / (9223372036854774 : Int64)) * (9223372036854774 : Int64)) * (1000 : Int64)) + (w29.toInt64))), .second, .val (.long w40), .second, .unset, .unset, .unset, .unset] [])) t := by
    intro t kt
    refine XS.lload X0.here hx rfl (hb hby at_55) rfl ?_
    exact kt
  obtain ⟨_, _, ⟨T48, L48, k48, n48⟩, -, X48, ⟨Lc48, hQ48, l48, y48, z48⟩, st48⟩ := Jvm.LawKit.callS X0 hx (y := (⟨"com/example/berth/berth/model/Gpus", "each", "(J)J"⟩ : MethodName)) hown (mvT hZ (hw _ (List.mem_of_getElem? (i := 2) rfl))) (mvT hZ (hw _ (List.mem_of_getElem? (i := 3) rfl))) (mvT hZ (hw _ (List.mem_of_getElem? (i := 4) rfl))) (mvT hZ (hw _ (List.mem_of_getElem? (i := 5) rfl))) (by decide) (backOf (W := 0) (rm1 l Z a0 hw [] (((aq - (aq / (9223372036854774 : Int64)) * (9223372036854774 : Int64)) * (1000 : Int64)) + (w29.toInt64)) h0 n0 Z0 ) hZ (hw _ (List.mem_of_getElem? (i := 5) rfl)) (hw _ (List.mem_of_getElem? (i := 4) rfl)) (by decide) (by decide)) (g := (mkF m 57 #[.val (.long aq), .second, .val (.int ar), .val (.long ad), .second, .val (.long (aq - (aq / (9223372036854774 : Int64)) * (9223372036854774 : Int64))), .second, .val (.int w29), .val (.long (((aq - (aq / (9223372036854774 : Int64)) * (9223372036854774 : Int64)) * (1000 : Int64)) + (w29.toInt64))), .second, .val (.long w40), .second, .unset, .unset, .unset, .unset] [(.long (((aq - (aq / (9223372036854774 : Int64)) * (9223372036854774 : Int64)) * (1000 : Int64)) + (w29.toInt64)))])) rfl (by rw [hml]; rfl) (argsL := [(.long (((aq - (aq / (9223372036854774 : Int64)) * (9223372036854774 : Int64)) * (1000 : Int64)) + (w29.toInt64)))]) (rest := []) (lenOf pd_oJcJ rfl) rfl (by show 2 * 0 + _ ≤ _; exact Nat.le_of_eq rfl) (hb hby at_57) (fun _ _ => ⟨rfl, e0, (by decide : 0 + 0 ≤ _), (by decide : 0 + 0 ≤ _)⟩)
  dsimp only [Pt.U, Pt.locs, Pt.cells, Pt.slots] at X48 l48 y48 z48 st48 hQ48
  subst l48 y48 z48
  obtain ⟨rfl, N48q, e48q⟩ := hQ48
  have N48 := Fr.app N0 N48q
  have s49 : ∀ t, Steps p.tables e below (T48.setTop (mkF m 63 #[.val (.long aq), .second, .val (.int ar), .val (.long ad), .second, .val (.long (aq - (aq / (9223372036854774 : Int64)) * (9223372036854774 : Int64))), .second, .val (.int w29), .val (.long (((aq - (aq / (9223372036854774 : Int64)) * (9223372036854774 : Int64)) * (1000 : Int64)) + (w29.toInt64))), .second, .val (.long w40), .second, .unset, .unset, .unset, .unset] [(.int (lcmpW (geach (((aq - (aq / (9223372036854774 : Int64)) * (9223372036854774 : Int64)) * (1000 : Int64)) + (w29.toInt64))) w40))])) t → Steps p.tables e below (T48.setTop (mkF m 60 #[.val (.long aq), .second, .val (.int ar), .val (.long ad), .second, .val (.long (aq - (aq / (9223372036854774 : Int64)) * (9223372036854774 : Int64))), .second, .val (.int w29), .val (.long (((aq - (aq / (9223372036854774 : Int64)) * (9223372036854774 : Int64)) * (1000 : Int64)) + (w29.toInt64))), .second, .val (.long w40), .second, .unset, .unset, .unset, .unset] [(.long (geach (((aq - (aq / (9223372036854774 : Int64)) * (9223372036854774 : Int64)) * (1000 : Int64)) + (w29.toInt64))))])) t := by
    intro t kt
    refine XS.lload X48.here hx rfl (hb hby at_60) rfl ?_
    show Steps p.tables e below (T48.setTop (mkF m 62 #[.val (.long aq), .second, .val (.int ar), .val (.long ad), .second, .val (.long (aq - (aq / (9223372036854774 : Int64)) * (9223372036854774 : Int64))), .second, .val (.int w29), .val (.long (((aq - (aq / (9223372036854774 : Int64)) * (9223372036854774 : Int64)) * (1000 : Int64)) + (w29.toInt64))), .second, .val (.long w40), .second, .unset, .unset, .unset, .unset] [(.long w40), (.long (geach (((aq - (aq / (9223372036854774 : Int64)) * (9223372036854774 : Int64)) * (1000 : Int64)) + (w29.toInt64))))])) t
    refine XS.lcmp X48.here hx rfl (hb hby at_62) rfl ?_
    exact kt
  obtain ⟨w53, hw53, j59⟩ : ∃ (w53 : Int32), w53 = (if (geach (((aq - (aq / (9223372036854774 : Int64)) * (9223372036854774 : Int64)) * (1000 : Int64)) + (w29.toInt64))) = w40 then (1 : Int32) else (0 : Int32)) ∧ ∀ t, Steps p.tables e below (T48.setTop (mkF m 71 #[.val (.long aq), .second, .val (.int ar), .val (.long ad), .second, .val (.long (aq - (aq / (9223372036854774 : Int64)) * (9223372036854774 : Int64))), .second, .val (.int w29), .val (.long (((aq - (aq / (9223372036854774 : Int64)) * (9223372036854774 : Int64)) * (1000 : Int64)) + (w29.toInt64))), .second, .val (.long w40), .second, .unset, .unset, .unset, .unset] [(.int w53)])) t → Steps p.tables e below (T48.setTop (mkF m 63 #[.val (.long aq), .second, .val (.int ar), .val (.long ad), .second, .val (.long (aq - (aq / (9223372036854774 : Int64)) * (9223372036854774 : Int64))), .second, .val (.int w29), .val (.long (((aq - (aq / (9223372036854774 : Int64)) * (9223372036854774 : Int64)) * (1000 : Int64)) + (w29.toInt64))), .second, .val (.long w40), .second, .unset, .unset, .unset, .unset] [(.int (lcmpW (geach (((aq - (aq / (9223372036854774 : Int64)) * (9223372036854774 : Int64)) * (1000 : Int64)) + (w29.toInt64))) w40))])) t := by
    by_cases c50 : (geach (((aq - (aq / (9223372036854774 : Int64)) * (9223372036854774 : Int64)) * (1000 : Int64)) + (w29.toInt64))) = w40
    ·
      have s52 : ∀ t, Steps p.tables e below (T48.setTop (mkF m 71 #[.val (.long aq), .second, .val (.int ar), .val (.long ad), .second, .val (.long (aq - (aq / (9223372036854774 : Int64)) * (9223372036854774 : Int64))), .second, .val (.int w29), .val (.long (((aq - (aq / (9223372036854774 : Int64)) * (9223372036854774 : Int64)) * (1000 : Int64)) + (w29.toInt64))), .second, .val (.long w40), .second, .unset, .unset, .unset, .unset] [(.int (1 : Int32))])) t → Steps p.tables e below (T48.setTop (mkF m 63 #[.val (.long aq), .second, .val (.int ar), .val (.long ad), .second, .val (.long (aq - (aq / (9223372036854774 : Int64)) * (9223372036854774 : Int64))), .second, .val (.int w29), .val (.long (((aq - (aq / (9223372036854774 : Int64)) * (9223372036854774 : Int64)) * (1000 : Int64)) + (w29.toInt64))), .second, .val (.long w40), .second, .unset, .unset, .unset, .unset] [(.int (lcmpW (geach (((aq - (aq / (9223372036854774 : Int64)) * (9223372036854774 : Int64)) * (1000 : Int64)) + (w29.toInt64))) w40))])) t := by
        intro t kt
        refine XS.ifNo X48.here hx rfl (hb hby at_63) rfl ((if0 _ _).trans (teq ((lw_eq _ _).mpr c50)).2) ?_
        show Steps p.tables e below (T48.setTop (mkF m 66 #[.val (.long aq), .second, .val (.int ar), .val (.long ad), .second, .val (.long (aq - (aq / (9223372036854774 : Int64)) * (9223372036854774 : Int64))), .second, .val (.int w29), .val (.long (((aq - (aq / (9223372036854774 : Int64)) * (9223372036854774 : Int64)) * (1000 : Int64)) + (w29.toInt64))), .second, .val (.long w40), .second, .unset, .unset, .unset, .unset] [])) t
        refine XS.iconst X48.here hx rfl (hb hby at_66) ?_
        show Steps p.tables e below (T48.setTop (mkF m 67 #[.val (.long aq), .second, .val (.int ar), .val (.long ad), .second, .val (.long (aq - (aq / (9223372036854774 : Int64)) * (9223372036854774 : Int64))), .second, .val (.int w29), .val (.long (((aq - (aq / (9223372036854774 : Int64)) * (9223372036854774 : Int64)) * (1000 : Int64)) + (w29.toInt64))), .second, .val (.long w40), .second, .unset, .unset, .unset, .unset] [(.int (1 : Int32))])) t
        refine XS.goto X48.here hx rfl (pc0 := 67) (pc' := 71) rfl (hb hby at_67) (by decide) (by decide) ?_
        exact kt
      exact ⟨(1 : Int32), (if_pos c50).symm, fun t kt => s52 _ (kt)⟩
    ·
      have s51 : ∀ t, Steps p.tables e below (T48.setTop (mkF m 71 #[.val (.long aq), .second, .val (.int ar), .val (.long ad), .second, .val (.long (aq - (aq / (9223372036854774 : Int64)) * (9223372036854774 : Int64))), .second, .val (.int w29), .val (.long (((aq - (aq / (9223372036854774 : Int64)) * (9223372036854774 : Int64)) * (1000 : Int64)) + (w29.toInt64))), .second, .val (.long w40), .second, .unset, .unset, .unset, .unset] [(.int (0 : Int32))])) t → Steps p.tables e below (T48.setTop (mkF m 63 #[.val (.long aq), .second, .val (.int ar), .val (.long ad), .second, .val (.long (aq - (aq / (9223372036854774 : Int64)) * (9223372036854774 : Int64))), .second, .val (.int w29), .val (.long (((aq - (aq / (9223372036854774 : Int64)) * (9223372036854774 : Int64)) * (1000 : Int64)) + (w29.toInt64))), .second, .val (.long w40), .second, .unset, .unset, .unset, .unset] [(.int (lcmpW (geach (((aq - (aq / (9223372036854774 : Int64)) * (9223372036854774 : Int64)) * (1000 : Int64)) + (w29.toInt64))) w40))])) t := by
        intro t kt
        refine XS.ifYes X48.here hx rfl (pc0 := 63) (pc' := 70) rfl (hb hby at_63) rfl ((if0 _ _).trans (feq (mt (lw_eq _ _).mp c50)).2) (by decide) (by decide) ?_
        show Steps p.tables e below (T48.setTop (mkF m 70 #[.val (.long aq), .second, .val (.int ar), .val (.long ad), .second, .val (.long (aq - (aq / (9223372036854774 : Int64)) * (9223372036854774 : Int64))), .second, .val (.int w29), .val (.long (((aq - (aq / (9223372036854774 : Int64)) * (9223372036854774 : Int64)) * (1000 : Int64)) + (w29.toInt64))), .second, .val (.long w40), .second, .unset, .unset, .unset, .unset] [])) t
        refine XS.iconst X48.here hx rfl (hb hby at_70) ?_
        exact kt
      exact ⟨(0 : Int32), (if_neg c50).symm, fun t kt => s51 _ (kt)⟩
  have s60 : ∀ t, Steps p.tables e below (T48.setTop (mkF m 74 #[.val (.long aq), .second, .val (.int ar), .val (.long ad), .second, .val (.long (aq - (aq / (9223372036854774 : Int64)) * (9223372036854774 : Int64))), .second, .val (.int w29), .val (.long (((aq - (aq / (9223372036854774 : Int64)) * (9223372036854774 : Int64)) * (1000 : Int64)) + (w29.toInt64))), .second, .val (.long w40), .second, .val (.int w53), .unset, .unset, .unset] [(.long ad)])) t → Steps p.tables e below (T48.setTop (mkF m 71 #[.val (.long aq), .second, .val (.int ar), .val (.long ad), .second, .val (.long (aq - (aq / (9223372036854774 : Int64)) * (9223372036854774 : Int64))), .second, .val (.int w29), .val (.long (((aq - (aq / (9223372036854774 : Int64)) * (9223372036854774 : Int64)) * (1000 : Int64)) + (w29.toInt64))), .second, .val (.long w40), .second, .unset, .unset, .unset, .unset] [(.int w53)])) t := by
    intro t kt
    refine XS.istore X48.here hx rfl (hb hby at_71) rfl (l' := #[.val (.long aq), .second, .val (.int ar), .val (.long ad), .second, .val (.long (aq - (aq / (9223372036854774 : Int64)) * (9223372036854774 : Int64))), .second, .val (.int w29), .val (.long (((aq - (aq / (9223372036854774 : Int64)) * (9223372036854774 : Int64)) * (1000 : Int64)) + (w29.toInt64))), .second, .val (.long w40), .second, .val (.int w53), .unset, .unset, .unset]) rfl ?_
    show Steps p.tables e below (T48.setTop (mkF m 73 #[.val (.long aq), .second, .val (.int ar), .val (.long ad), .second, .val (.long (aq - (aq / (9223372036854774 : Int64)) * (9223372036854774 : Int64))), .second, .val (.int w29), .val (.long (((aq - (aq / (9223372036854774 : Int64)) * (9223372036854774 : Int64)) * (1000 : Int64)) + (w29.toInt64))), .second, .val (.long w40), .second, .val (.int w53), .unset, .unset, .unset] [])) t
    refine XS.lloadN X48.here hx rfl (hb hby at_73) rfl ?_
    exact kt
  obtain ⟨_, _, ⟨T61, L61, k61, n61⟩, -, X61, ⟨Lc61, hQ61, l61, y61, z61⟩, st61⟩ := Jvm.LawKit.callS X48 hx (y := (⟨"com/example/berth/berth/model/Gpus", "each", "(J)J"⟩ : MethodName)) hown (mvT hZ (hw _ (List.mem_of_getElem? (i := 2) rfl))) (mvT hZ (hw _ (List.mem_of_getElem? (i := 3) rfl))) (mvT hZ (hw _ (List.mem_of_getElem? (i := 4) rfl))) (mvT hZ (hw _ (List.mem_of_getElem? (i := 5) rfl))) (by decide) (backOf (W := 0) (rm1 l Z a0 hw [] ad h0 n0 Z0 ) hZ (hw _ (List.mem_of_getElem? (i := 5) rfl)) (hw _ (List.mem_of_getElem? (i := 4) rfl)) (by decide) (by decide)) (g := (mkF m 74 #[.val (.long aq), .second, .val (.int ar), .val (.long ad), .second, .val (.long (aq - (aq / (9223372036854774 : Int64)) * (9223372036854774 : Int64))), .second, .val (.int w29), .val (.long (((aq - (aq / (9223372036854774 : Int64)) * (9223372036854774 : Int64)) * (1000 : Int64)) + (w29.toInt64))), .second, .val (.long w40), .second, .val (.int w53), .unset, .unset, .unset] [(.long ad)])) rfl (by rw [hml]; rfl) (argsL := [(.long ad)]) (rest := []) (lenOf pd_oJcJ rfl) rfl (by show 2 * 0 + _ ≤ _; exact Nat.le_of_eq rfl) (hb hby at_74) (fun _ _ => ⟨rfl, e48q, (by decide : 0 + 0 ≤ _), (by decide : 0 + 0 ≤ _)⟩)
  dsimp only [Pt.U, Pt.locs, Pt.cells, Pt.slots] at X61 l61 y61 z61 st61 hQ61
  subst l61 y61 z61
  obtain ⟨rfl, N61q, e61q⟩ := hQ61
  have N61 := Fr.app N48 N61q
  have s62 : ∀ t, Steps p.tables e below (T61.setTop (mkF m 85 #[.val (.long aq), .second, .val (.int ar), .val (.long ad), .second, .val (.long (aq - (aq / (9223372036854774 : Int64)) * (9223372036854774 : Int64))), .second, .val (.int w29), .val (.long (((aq - (aq / (9223372036854774 : Int64)) * (9223372036854774 : Int64)) * (1000 : Int64)) + (w29.toInt64))), .second, .val (.long w40), .second, .val (.int w53), .val (.long (geach ad)), .second, .unset] [(.int (lcmpW (geach ad) (1000 : Int64)))])) t → Steps p.tables e below (T61.setTop (mkF m 77 #[.val (.long aq), .second, .val (.int ar), .val (.long ad), .second, .val (.long (aq - (aq / (9223372036854774 : Int64)) * (9223372036854774 : Int64))), .second, .val (.int w29), .val (.long (((aq - (aq / (9223372036854774 : Int64)) * (9223372036854774 : Int64)) * (1000 : Int64)) + (w29.toInt64))), .second, .val (.long w40), .second, .val (.int w53), .unset, .unset, .unset] [(.long (geach ad))])) t := by
    intro t kt
    refine XS.lstore X61.here hx rfl (hb hby at_77) rfl (l' := #[.val (.long aq), .second, .val (.int ar), .val (.long ad), .second, .val (.long (aq - (aq / (9223372036854774 : Int64)) * (9223372036854774 : Int64))), .second, .val (.int w29), .val (.long (((aq - (aq / (9223372036854774 : Int64)) * (9223372036854774 : Int64)) * (1000 : Int64)) + (w29.toInt64))), .second, .val (.long w40), .second, .val (.int w53), .val (.long (geach ad)), .second, .unset]) rfl ?_
    show Steps p.tables e below (T61.setTop (mkF m 79 #[.val (.long aq), .second, .val (.int ar), .val (.long ad), .second, .val (.long (aq - (aq / (9223372036854774 : Int64)) * (9223372036854774 : Int64))), .second, .val (.int w29), .val (.long (((aq - (aq / (9223372036854774 : Int64)) * (9223372036854774 : Int64)) * (1000 : Int64)) + (w29.toInt64))), .second, .val (.long w40), .second, .val (.int w53), .val (.long (geach ad)), .second, .unset] [])) t
    refine XS.lload X61.here hx rfl (hb hby at_79) rfl ?_
    show Steps p.tables e below (T61.setTop (mkF m 81 #[.val (.long aq), .second, .val (.int ar), .val (.long ad), .second, .val (.long (aq - (aq / (9223372036854774 : Int64)) * (9223372036854774 : Int64))), .second, .val (.int w29), .val (.long (((aq - (aq / (9223372036854774 : Int64)) * (9223372036854774 : Int64)) * (1000 : Int64)) + (w29.toInt64))), .second, .val (.long w40), .second, .val (.int w53), .val (.long (geach ad)), .second, .unset] [(.long (geach ad))])) t
    refine X61.ldc2Long hx hown (mvT hZ (hw _ (List.mem_of_getElem? (i := 1) rfl))) (g := (mkF m 81 #[.val (.long aq), .second, .val (.int ar), .val (.long ad), .second, .val (.long (aq - (aq / (9223372036854774 : Int64)) * (9223372036854774 : Int64))), .second, .val (.int w29), .val (.long (((aq - (aq / (9223372036854774 : Int64)) * (9223372036854774 : Int64)) * (1000 : Int64)) + (w29.toInt64))), .second, .val (.long w40), .second, .val (.int w53), .val (.long (geach ad)), .second, .unset] [(.long (geach ad))])) rfl (hb hby at_81) _ ?_
    show Steps p.tables e below (T61.setTop (mkF m 84 #[.val (.long aq), .second, .val (.int ar), .val (.long ad), .second, .val (.long (aq - (aq / (9223372036854774 : Int64)) * (9223372036854774 : Int64))), .second, .val (.int w29), .val (.long (((aq - (aq / (9223372036854774 : Int64)) * (9223372036854774 : Int64)) * (1000 : Int64)) + (w29.toInt64))), .second, .val (.long w40), .second, .val (.int w53), .val (.long (geach ad)), .second, .unset] [(.long (1000 : Int64)), (.long (geach ad))])) t
    refine XS.lcmp X61.here hx rfl (hb hby at_84) rfl ?_
    exact kt
  obtain ⟨T101, lc102, w100, X103, e104, N105, hw100, j106⟩ : ∃ (T101 : State) (lc102 : List Loc) (w100 : Int32), Stand p l e room_1 s m #[(.long aq), (.int ar), (.long ad)] below meth c T101 lc102 0 0 ∧ T101.heap = h0 ∧ Fr n0 lc102 ∧ w100 = (if (geach ad) = (1000 : Int64) then (if ((gcount ad) * (geach ad)) = ad then (1 : Int32) else (0 : Int32)) else (if (geach ad) = ad then (if ((gcount ad) * (geach ad)) = ad then (1 : Int32) else (0 : Int32)) else (0 : Int32))) ∧ ∀ t, Steps p.tables e below (T101.setTop (mkF m 112 #[.val (.long aq), .second, .val (.int ar), .val (.long ad), .second, .val (.long (aq - (aq / (9223372036854774 : Int64)) * (9223372036854774 : Int64))), .second, .val (.int w29), .val (.long (((aq - (aq / (9223372036854774 : Int64)) * (9223372036854774 : Int64)) * (1000 : Int64)) + (w29.toInt64))), .second, .val (.long w40), .second, .val (.int w53), .val (.long (geach ad)), .second, .unset] [(.int w100)])) t → Steps p.tables e below (T61.setTop (mkF m 85 #[.val (.long aq), .second, .val (.int ar), .val (.long ad), .second, .val (.long (aq - (aq / (9223372036854774 : Int64)) * (9223372036854774 : Int64))), .second, .val (.int w29), .val (.long (((aq - (aq / (9223372036854774 : Int64)) * (9223372036854774 : Int64)) * (1000 : Int64)) + (w29.toInt64))), .second, .val (.long w40), .second, .val (.int w53), .val (.long (geach ad)), .second, .unset] [(.int (lcmpW (geach ad) (1000 : Int64)))])) t := by
    by_cases c63 : (geach ad) = (1000 : Int64)
    ·
      have s64 : ∀ t, Steps p.tables e below (T61.setTop (mkF m 96 #[.val (.long aq), .second, .val (.int ar), .val (.long ad), .second, .val (.long (aq - (aq / (9223372036854774 : Int64)) * (9223372036854774 : Int64))), .second, .val (.int w29), .val (.long (((aq - (aq / (9223372036854774 : Int64)) * (9223372036854774 : Int64)) * (1000 : Int64)) + (w29.toInt64))), .second, .val (.long w40), .second, .val (.int w53), .val (.long (geach ad)), .second, .unset] [(.long ad)])) t → Steps p.tables e below (T61.setTop (mkF m 85 #[.val (.long aq), .second, .val (.int ar), .val (.long ad), .second, .val (.long (aq - (aq / (9223372036854774 : Int64)) * (9223372036854774 : Int64))), .second, .val (.int w29), .val (.long (((aq - (aq / (9223372036854774 : Int64)) * (9223372036854774 : Int64)) * (1000 : Int64)) + (w29.toInt64))), .second, .val (.long w40), .second, .val (.int w53), .val (.long (geach ad)), .second, .unset] [(.int (lcmpW (geach ad) (1000 : Int64)))])) t := by
        intro t kt
        refine XS.ifYes X61.here hx rfl (pc0 := 85) (pc' := 95) rfl (hb hby at_85) rfl ((if0 _ _).trans (teq ((lw_eq _ _).mpr c63)).1) (by decide) (by decide) ?_
        show Steps p.tables e below (T61.setTop (mkF m 95 #[.val (.long aq), .second, .val (.int ar), .val (.long ad), .second, .val (.long (aq - (aq / (9223372036854774 : Int64)) * (9223372036854774 : Int64))), .second, .val (.int w29), .val (.long (((aq - (aq / (9223372036854774 : Int64)) * (9223372036854774 : Int64)) * (1000 : Int64)) + (w29.toInt64))), .second, .val (.long w40), .second, .val (.int w53), .val (.long (geach ad)), .second, .unset] [])) t
        refine XS.lloadN X61.here hx rfl (hb hby at_95) rfl ?_
        exact kt
      obtain ⟨_, _, ⟨T65, L65, k65, n65⟩, -, X65, ⟨Lc65, hQ65, l65, y65, z65⟩, st65⟩ := Jvm.LawKit.callS X61 hx (y := (⟨"com/example/berth/berth/model/Gpus", "count", "(J)J"⟩ : MethodName)) hown (mvT hZ (hw _ (List.mem_of_getElem? (i := 7) rfl))) (mvT hZ (hw _ (List.mem_of_getElem? (i := 8) rfl))) (mvT hZ (hw _ (List.mem_of_getElem? (i := 4) rfl))) (mvT hZ (hw _ (List.mem_of_getElem? (i := 9) rfl))) (by decide) (backOf (W := 0) (rm2 l Z a0 hw [] ad h0 n0 Z0 ) hZ (hw _ (List.mem_of_getElem? (i := 9) rfl)) (hw _ (List.mem_of_getElem? (i := 4) rfl)) (by decide) (by decide)) (g := (mkF m 96 #[.val (.long aq), .second, .val (.int ar), .val (.long ad), .second, .val (.long (aq - (aq / (9223372036854774 : Int64)) * (9223372036854774 : Int64))), .second, .val (.int w29), .val (.long (((aq - (aq / (9223372036854774 : Int64)) * (9223372036854774 : Int64)) * (1000 : Int64)) + (w29.toInt64))), .second, .val (.long w40), .second, .val (.int w53), .val (.long (geach ad)), .second, .unset] [(.long ad)])) rfl (by rw [hml]; rfl) (argsL := [(.long ad)]) (rest := []) (lenOf pd_oJcJ rfl) rfl (by show 2 * 0 + _ ≤ _; exact Nat.le_of_eq rfl) (hb hby at_96) (fun _ _ => ⟨rfl, e61q, (by decide : 0 + 0 ≤ _), (by decide : 0 + 0 ≤ _)⟩)
      dsimp only [Pt.U, Pt.locs, Pt.cells, Pt.slots] at X65 l65 y65 z65 st65 hQ65
      subst l65 y65 z65
      obtain ⟨rfl, N65q, e65q⟩ := hQ65
      have N65 := Fr.app N61 N65q
      have s66 : ∀ t, Steps p.tables e below (T65.setTop (mkF m 104 #[.val (.long aq), .second, .val (.int ar), .val (.long ad), .second, .val (.long (aq - (aq / (9223372036854774 : Int64)) * (9223372036854774 : Int64))), .second, .val (.int w29), .val (.long (((aq - (aq / (9223372036854774 : Int64)) * (9223372036854774 : Int64)) * (1000 : Int64)) + (w29.toInt64))), .second, .val (.long w40), .second, .val (.int w53), .val (.long (geach ad)), .second, .unset] [(.int (lcmpW ((gcount ad) * (geach ad)) ad))])) t → Steps p.tables e below (T65.setTop (mkF m 99 #[.val (.long aq), .second, .val (.int ar), .val (.long ad), .second, .val (.long (aq - (aq / (9223372036854774 : Int64)) * (9223372036854774 : Int64))), .second, .val (.int w29), .val (.long (((aq - (aq / (9223372036854774 : Int64)) * (9223372036854774 : Int64)) * (1000 : Int64)) + (w29.toInt64))), .second, .val (.long w40), .second, .val (.int w53), .val (.long (geach ad)), .second, .unset] [(.long (gcount ad))])) t := by
        intro t kt
        refine XS.lload X65.here hx rfl (hb hby at_99) rfl ?_
        show Steps p.tables e below (T65.setTop (mkF m 101 #[.val (.long aq), .second, .val (.int ar), .val (.long ad), .second, .val (.long (aq - (aq / (9223372036854774 : Int64)) * (9223372036854774 : Int64))), .second, .val (.int w29), .val (.long (((aq - (aq / (9223372036854774 : Int64)) * (9223372036854774 : Int64)) * (1000 : Int64)) + (w29.toInt64))), .second, .val (.long w40), .second, .val (.int w53), .val (.long (geach ad)), .second, .unset] [(.long (geach ad)), (.long (gcount ad))])) t
        refine XS.lmul X65.here hx rfl (hb hby at_101) rfl ?_
        show Steps p.tables e below (T65.setTop (mkF m 102 #[.val (.long aq), .second, .val (.int ar), .val (.long ad), .second, .val (.long (aq - (aq / (9223372036854774 : Int64)) * (9223372036854774 : Int64))), .second, .val (.int w29), .val (.long (((aq - (aq / (9223372036854774 : Int64)) * (9223372036854774 : Int64)) * (1000 : Int64)) + (w29.toInt64))), .second, .val (.long w40), .second, .val (.int w53), .val (.long (geach ad)), .second, .unset] [(.long ((gcount ad) * (geach ad)))])) t
        refine XS.lloadN X65.here hx rfl (hb hby at_102) rfl ?_
        show Steps p.tables e below (T65.setTop (mkF m 103 #[.val (.long aq), .second, .val (.int ar), .val (.long ad), .second, .val (.long (aq - (aq / (9223372036854774 : Int64)) * (9223372036854774 : Int64))), .second, .val (.int w29), .val (.long (((aq - (aq / (9223372036854774 : Int64)) * (9223372036854774 : Int64)) * (1000 : Int64)) + (w29.toInt64))), .second, .val (.long w40), .second, .val (.int w53), .val (.long (geach ad)), .second, .unset] [(.long ad), (.long ((gcount ad) * (geach ad)))])) t
        refine XS.lcmp X65.here hx rfl (hb hby at_103) rfl ?_
        exact kt
      obtain ⟨w70, rfl, j76⟩ : ∃ (w70 : Int32), w70 = (if ((gcount ad) * (geach ad)) = ad then (1 : Int32) else (0 : Int32)) ∧ ∀ t, Steps p.tables e below (T65.setTop (mkF m 112 #[.val (.long aq), .second, .val (.int ar), .val (.long ad), .second, .val (.long (aq - (aq / (9223372036854774 : Int64)) * (9223372036854774 : Int64))), .second, .val (.int w29), .val (.long (((aq - (aq / (9223372036854774 : Int64)) * (9223372036854774 : Int64)) * (1000 : Int64)) + (w29.toInt64))), .second, .val (.long w40), .second, .val (.int w53), .val (.long (geach ad)), .second, .unset] [(.int w70)])) t → Steps p.tables e below (T65.setTop (mkF m 104 #[.val (.long aq), .second, .val (.int ar), .val (.long ad), .second, .val (.long (aq - (aq / (9223372036854774 : Int64)) * (9223372036854774 : Int64))), .second, .val (.int w29), .val (.long (((aq - (aq / (9223372036854774 : Int64)) * (9223372036854774 : Int64)) * (1000 : Int64)) + (w29.toInt64))), .second, .val (.long w40), .second, .val (.int w53), .val (.long (geach ad)), .second, .unset] [(.int (lcmpW ((gcount ad) * (geach ad)) ad))])) t := by
        by_cases c67 : ((gcount ad) * (geach ad)) = ad
        ·
          have s69 : ∀ t, Steps p.tables e below (T65.setTop (mkF m 112 #[.val (.long aq), .second, .val (.int ar), .val (.long ad), .second, .val (.long (aq - (aq / (9223372036854774 : Int64)) * (9223372036854774 : Int64))), .second, .val (.int w29), .val (.long (((aq - (aq / (9223372036854774 : Int64)) * (9223372036854774 : Int64)) * (1000 : Int64)) + (w29.toInt64))), .second, .val (.long w40), .second, .val (.int w53), .val (.long (geach ad)), .second, .unset] [(.int (1 : Int32))])) t → Steps p.tables e below (T65.setTop (mkF m 104 #[.val (.long aq), .second, .val (.int ar), .val (.long ad), .second, .val (.long (aq - (aq / (9223372036854774 : Int64)) * (9223372036854774 : Int64))), .second, .val (.int w29), .val (.long (((aq - (aq / (9223372036854774 : Int64)) * (9223372036854774 : Int64)) * (1000 : Int64)) + (w29.toInt64))), .second, .val (.long w40), .second, .val (.int w53), .val (.long (geach ad)), .second, .unset] [(.int (lcmpW ((gcount ad) * (geach ad)) ad))])) t := by
            intro t kt
            refine XS.ifNo X65.here hx rfl (hb hby at_104) rfl ((if0 _ _).trans (teq ((lw_eq _ _).mpr c67)).2) ?_
            show Steps p.tables e below (T65.setTop (mkF m 107 #[.val (.long aq), .second, .val (.int ar), .val (.long ad), .second, .val (.long (aq - (aq / (9223372036854774 : Int64)) * (9223372036854774 : Int64))), .second, .val (.int w29), .val (.long (((aq - (aq / (9223372036854774 : Int64)) * (9223372036854774 : Int64)) * (1000 : Int64)) + (w29.toInt64))), .second, .val (.long w40), .second, .val (.int w53), .val (.long (geach ad)), .second, .unset] [])) t
            refine XS.iconst X65.here hx rfl (hb hby at_107) ?_
            show Steps p.tables e below (T65.setTop (mkF m 108 #[.val (.long aq), .second, .val (.int ar), .val (.long ad), .second, .val (.long (aq - (aq / (9223372036854774 : Int64)) * (9223372036854774 : Int64))), .second, .val (.int w29), .val (.long (((aq - (aq / (9223372036854774 : Int64)) * (9223372036854774 : Int64)) * (1000 : Int64)) + (w29.toInt64))), .second, .val (.long w40), .second, .val (.int w53), .val (.long (geach ad)), .second, .unset] [(.int (1 : Int32))])) t
            refine XS.goto X65.here hx rfl (pc0 := 108) (pc' := 112) rfl (hb hby at_108) (by decide) (by decide) ?_
            exact kt
          exact ⟨(1 : Int32), (if_pos c67).symm, fun t kt => s69 _ (kt)⟩
        ·
          have s68 : ∀ t, Steps p.tables e below (T65.setTop (mkF m 112 #[.val (.long aq), .second, .val (.int ar), .val (.long ad), .second, .val (.long (aq - (aq / (9223372036854774 : Int64)) * (9223372036854774 : Int64))), .second, .val (.int w29), .val (.long (((aq - (aq / (9223372036854774 : Int64)) * (9223372036854774 : Int64)) * (1000 : Int64)) + (w29.toInt64))), .second, .val (.long w40), .second, .val (.int w53), .val (.long (geach ad)), .second, .unset] [(.int (0 : Int32))])) t → Steps p.tables e below (T65.setTop (mkF m 104 #[.val (.long aq), .second, .val (.int ar), .val (.long ad), .second, .val (.long (aq - (aq / (9223372036854774 : Int64)) * (9223372036854774 : Int64))), .second, .val (.int w29), .val (.long (((aq - (aq / (9223372036854774 : Int64)) * (9223372036854774 : Int64)) * (1000 : Int64)) + (w29.toInt64))), .second, .val (.long w40), .second, .val (.int w53), .val (.long (geach ad)), .second, .unset] [(.int (lcmpW ((gcount ad) * (geach ad)) ad))])) t := by
            intro t kt
            refine XS.ifYes X65.here hx rfl (pc0 := 104) (pc' := 111) rfl (hb hby at_104) rfl ((if0 _ _).trans (feq (mt (lw_eq _ _).mp c67)).2) (by decide) (by decide) ?_
            show Steps p.tables e below (T65.setTop (mkF m 111 #[.val (.long aq), .second, .val (.int ar), .val (.long ad), .second, .val (.long (aq - (aq / (9223372036854774 : Int64)) * (9223372036854774 : Int64))), .second, .val (.int w29), .val (.long (((aq - (aq / (9223372036854774 : Int64)) * (9223372036854774 : Int64)) * (1000 : Int64)) + (w29.toInt64))), .second, .val (.long w40), .second, .val (.int w53), .val (.long (geach ad)), .second, .unset] [])) t
            refine XS.iconst X65.here hx rfl (hb hby at_111) ?_
            exact kt
          exact ⟨(0 : Int32), (if_neg c67).symm, fun t kt => s68 _ (kt)⟩
      exact ⟨T65, _, (if ((gcount ad) * (geach ad)) = ad then (1 : Int32) else (0 : Int32)), X65, e65q, N65, (if_pos c63).symm, fun t kt => s64 _ (st65 _ (s66 _ (j76 _ (kt))))⟩
    ·
      have s77 : ∀ t, Steps p.tables e below (T61.setTop (mkF m 92 #[.val (.long aq), .second, .val (.int ar), .val (.long ad), .second, .val (.long (aq - (aq / (9223372036854774 : Int64)) * (9223372036854774 : Int64))), .second, .val (.int w29), .val (.long (((aq - (aq / (9223372036854774 : Int64)) * (9223372036854774 : Int64)) * (1000 : Int64)) + (w29.toInt64))), .second, .val (.long w40), .second, .val (.int w53), .val (.long (geach ad)), .second, .unset] [(.int (lcmpW (geach ad) ad))])) t → Steps p.tables e below (T61.setTop (mkF m 85 #[.val (.long aq), .second, .val (.int ar), .val (.long ad), .second, .val (.long (aq - (aq / (9223372036854774 : Int64)) * (9223372036854774 : Int64))), .second, .val (.int w29), .val (.long (((aq - (aq / (9223372036854774 : Int64)) * (9223372036854774 : Int64)) * (1000 : Int64)) + (w29.toInt64))), .second, .val (.long w40), .second, .val (.int w53), .val (.long (geach ad)), .second, .unset] [(.int (lcmpW (geach ad) (1000 : Int64)))])) t := by
        intro t kt
        refine XS.ifNo X61.here hx rfl (hb hby at_85) rfl ((if0 _ _).trans (feq (mt (lw_eq _ _).mp c63)).1) ?_
        show Steps p.tables e below (T61.setTop (mkF m 88 #[.val (.long aq), .second, .val (.int ar), .val (.long ad), .second, .val (.long (aq - (aq / (9223372036854774 : Int64)) * (9223372036854774 : Int64))), .second, .val (.int w29), .val (.long (((aq - (aq / (9223372036854774 : Int64)) * (9223372036854774 : Int64)) * (1000 : Int64)) + (w29.toInt64))), .second, .val (.long w40), .second, .val (.int w53), .val (.long (geach ad)), .second, .unset] [])) t
        refine XS.lload X61.here hx rfl (hb hby at_88) rfl ?_
        show Steps p.tables e below (T61.setTop (mkF m 90 #[.val (.long aq), .second, .val (.int ar), .val (.long ad), .second, .val (.long (aq - (aq / (9223372036854774 : Int64)) * (9223372036854774 : Int64))), .second, .val (.int w29), .val (.long (((aq - (aq / (9223372036854774 : Int64)) * (9223372036854774 : Int64)) * (1000 : Int64)) + (w29.toInt64))), .second, .val (.long w40), .second, .val (.int w53), .val (.long (geach ad)), .second, .unset] [(.long (geach ad))])) t
        refine XS.lloadN X61.here hx rfl (hb hby at_90) rfl ?_
        show Steps p.tables e below (T61.setTop (mkF m 91 #[.val (.long aq), .second, .val (.int ar), .val (.long ad), .second, .val (.long (aq - (aq / (9223372036854774 : Int64)) * (9223372036854774 : Int64))), .second, .val (.int w29), .val (.long (((aq - (aq / (9223372036854774 : Int64)) * (9223372036854774 : Int64)) * (1000 : Int64)) + (w29.toInt64))), .second, .val (.long w40), .second, .val (.int w53), .val (.long (geach ad)), .second, .unset] [(.long ad), (.long (geach ad))])) t
        refine XS.lcmp X61.here hx rfl (hb hby at_91) rfl ?_
        exact kt
      obtain ⟨T94, lc95, w93, X96, e97, N98, rfl, j99⟩ : ∃ (T94 : State) (lc95 : List Loc) (w93 : Int32), Stand p l e room_1 s m #[(.long aq), (.int ar), (.long ad)] below meth c T94 lc95 0 0 ∧ T94.heap = h0 ∧ Fr n0 lc95 ∧ w93 = (if (geach ad) = ad then (if ((gcount ad) * (geach ad)) = ad then (1 : Int32) else (0 : Int32)) else (0 : Int32)) ∧ ∀ t, Steps p.tables e below (T94.setTop (mkF m 112 #[.val (.long aq), .second, .val (.int ar), .val (.long ad), .second, .val (.long (aq - (aq / (9223372036854774 : Int64)) * (9223372036854774 : Int64))), .second, .val (.int w29), .val (.long (((aq - (aq / (9223372036854774 : Int64)) * (9223372036854774 : Int64)) * (1000 : Int64)) + (w29.toInt64))), .second, .val (.long w40), .second, .val (.int w53), .val (.long (geach ad)), .second, .unset] [(.int w93)])) t → Steps p.tables e below (T61.setTop (mkF m 92 #[.val (.long aq), .second, .val (.int ar), .val (.long ad), .second, .val (.long (aq - (aq / (9223372036854774 : Int64)) * (9223372036854774 : Int64))), .second, .val (.int w29), .val (.long (((aq - (aq / (9223372036854774 : Int64)) * (9223372036854774 : Int64)) * (1000 : Int64)) + (w29.toInt64))), .second, .val (.long w40), .second, .val (.int w53), .val (.long (geach ad)), .second, .unset] [(.int (lcmpW (geach ad) ad))])) t := by
        by_cases c78 : (geach ad) = ad
        ·
          have s80 : ∀ t, Steps p.tables e below (T61.setTop (mkF m 96 #[.val (.long aq), .second, .val (.int ar), .val (.long ad), .second, .val (.long (aq - (aq / (9223372036854774 : Int64)) * (9223372036854774 : Int64))), .second, .val (.int w29), .val (.long (((aq - (aq / (9223372036854774 : Int64)) * (9223372036854774 : Int64)) * (1000 : Int64)) + (w29.toInt64))), .second, .val (.long w40), .second, .val (.int w53), .val (.long (geach ad)), .second, .unset] [(.long ad)])) t → Steps p.tables e below (T61.setTop (mkF m 92 #[.val (.long aq), .second, .val (.int ar), .val (.long ad), .second, .val (.long (aq - (aq / (9223372036854774 : Int64)) * (9223372036854774 : Int64))), .second, .val (.int w29), .val (.long (((aq - (aq / (9223372036854774 : Int64)) * (9223372036854774 : Int64)) * (1000 : Int64)) + (w29.toInt64))), .second, .val (.long w40), .second, .val (.int w53), .val (.long (geach ad)), .second, .unset] [(.int (lcmpW (geach ad) ad))])) t := by
            intro t kt
            refine XS.ifNo X61.here hx rfl (hb hby at_92) rfl ((if0 _ _).trans (teq ((lw_eq _ _).mpr c78)).2) ?_
            show Steps p.tables e below (T61.setTop (mkF m 95 #[.val (.long aq), .second, .val (.int ar), .val (.long ad), .second, .val (.long (aq - (aq / (9223372036854774 : Int64)) * (9223372036854774 : Int64))), .second, .val (.int w29), .val (.long (((aq - (aq / (9223372036854774 : Int64)) * (9223372036854774 : Int64)) * (1000 : Int64)) + (w29.toInt64))), .second, .val (.long w40), .second, .val (.int w53), .val (.long (geach ad)), .second, .unset] [])) t
            refine XS.lloadN X61.here hx rfl (hb hby at_95) rfl ?_
            exact kt
          obtain ⟨_, _, ⟨T81, L81, k81, n81⟩, -, X81, ⟨Lc81, hQ81, l81, y81, z81⟩, st81⟩ := Jvm.LawKit.callS X61 hx (y := (⟨"com/example/berth/berth/model/Gpus", "count", "(J)J"⟩ : MethodName)) hown (mvT hZ (hw _ (List.mem_of_getElem? (i := 7) rfl))) (mvT hZ (hw _ (List.mem_of_getElem? (i := 8) rfl))) (mvT hZ (hw _ (List.mem_of_getElem? (i := 4) rfl))) (mvT hZ (hw _ (List.mem_of_getElem? (i := 9) rfl))) (by decide) (backOf (W := 0) (rm2 l Z a0 hw [] ad h0 n0 Z0 ) hZ (hw _ (List.mem_of_getElem? (i := 9) rfl)) (hw _ (List.mem_of_getElem? (i := 4) rfl)) (by decide) (by decide)) (g := (mkF m 96 #[.val (.long aq), .second, .val (.int ar), .val (.long ad), .second, .val (.long (aq - (aq / (9223372036854774 : Int64)) * (9223372036854774 : Int64))), .second, .val (.int w29), .val (.long (((aq - (aq / (9223372036854774 : Int64)) * (9223372036854774 : Int64)) * (1000 : Int64)) + (w29.toInt64))), .second, .val (.long w40), .second, .val (.int w53), .val (.long (geach ad)), .second, .unset] [(.long ad)])) rfl (by rw [hml]; rfl) (argsL := [(.long ad)]) (rest := []) (lenOf pd_oJcJ rfl) rfl (by show 2 * 0 + _ ≤ _; exact Nat.le_of_eq rfl) (hb hby at_96) (fun _ _ => ⟨rfl, e61q, (by decide : 0 + 0 ≤ _), (by decide : 0 + 0 ≤ _)⟩)
          dsimp only [Pt.U, Pt.locs, Pt.cells, Pt.slots] at X81 l81 y81 z81 st81 hQ81
          subst l81 y81 z81
          obtain ⟨rfl, N81q, e81q⟩ := hQ81
          have N81 := Fr.app N61 N81q
          have s82 : ∀ t, Steps p.tables e below (T81.setTop (mkF m 104 #[.val (.long aq), .second, .val (.int ar), .val (.long ad), .second, .val (.long (aq - (aq / (9223372036854774 : Int64)) * (9223372036854774 : Int64))), .second, .val (.int w29), .val (.long (((aq - (aq / (9223372036854774 : Int64)) * (9223372036854774 : Int64)) * (1000 : Int64)) + (w29.toInt64))), .second, .val (.long w40), .second, .val (.int w53), .val (.long (geach ad)), .second, .unset] [(.int (lcmpW ((gcount ad) * (geach ad)) ad))])) t → Steps p.tables e below (T81.setTop (mkF m 99 #[.val (.long aq), .second, .val (.int ar), .val (.long ad), .second, .val (.long (aq - (aq / (9223372036854774 : Int64)) * (9223372036854774 : Int64))), .second, .val (.int w29), .val (.long (((aq - (aq / (9223372036854774 : Int64)) * (9223372036854774 : Int64)) * (1000 : Int64)) + (w29.toInt64))), .second, .val (.long w40), .second, .val (.int w53), .val (.long (geach ad)), .second, .unset] [(.long (gcount ad))])) t := by
            intro t kt
            refine XS.lload X81.here hx rfl (hb hby at_99) rfl ?_
            show Steps p.tables e below (T81.setTop (mkF m 101 #[.val (.long aq), .second, .val (.int ar), .val (.long ad), .second, .val (.long (aq - (aq / (9223372036854774 : Int64)) * (9223372036854774 : Int64))), .second, .val (.int w29), .val (.long (((aq - (aq / (9223372036854774 : Int64)) * (9223372036854774 : Int64)) * (1000 : Int64)) + (w29.toInt64))), .second, .val (.long w40), .second, .val (.int w53), .val (.long (geach ad)), .second, .unset] [(.long (geach ad)), (.long (gcount ad))])) t
            refine XS.lmul X81.here hx rfl (hb hby at_101) rfl ?_
            show Steps p.tables e below (T81.setTop (mkF m 102 #[.val (.long aq), .second, .val (.int ar), .val (.long ad), .second, .val (.long (aq - (aq / (9223372036854774 : Int64)) * (9223372036854774 : Int64))), .second, .val (.int w29), .val (.long (((aq - (aq / (9223372036854774 : Int64)) * (9223372036854774 : Int64)) * (1000 : Int64)) + (w29.toInt64))), .second, .val (.long w40), .second, .val (.int w53), .val (.long (geach ad)), .second, .unset] [(.long ((gcount ad) * (geach ad)))])) t
            refine XS.lloadN X81.here hx rfl (hb hby at_102) rfl ?_
            show Steps p.tables e below (T81.setTop (mkF m 103 #[.val (.long aq), .second, .val (.int ar), .val (.long ad), .second, .val (.long (aq - (aq / (9223372036854774 : Int64)) * (9223372036854774 : Int64))), .second, .val (.int w29), .val (.long (((aq - (aq / (9223372036854774 : Int64)) * (9223372036854774 : Int64)) * (1000 : Int64)) + (w29.toInt64))), .second, .val (.long w40), .second, .val (.int w53), .val (.long (geach ad)), .second, .unset] [(.long ad), (.long ((gcount ad) * (geach ad)))])) t
            refine XS.lcmp X81.here hx rfl (hb hby at_103) rfl ?_
            exact kt
          obtain ⟨w86, rfl, j92⟩ : ∃ (w86 : Int32), w86 = (if ((gcount ad) * (geach ad)) = ad then (1 : Int32) else (0 : Int32)) ∧ ∀ t, Steps p.tables e below (T81.setTop (mkF m 112 #[.val (.long aq), .second, .val (.int ar), .val (.long ad), .second, .val (.long (aq - (aq / (9223372036854774 : Int64)) * (9223372036854774 : Int64))), .second, .val (.int w29), .val (.long (((aq - (aq / (9223372036854774 : Int64)) * (9223372036854774 : Int64)) * (1000 : Int64)) + (w29.toInt64))), .second, .val (.long w40), .second, .val (.int w53), .val (.long (geach ad)), .second, .unset] [(.int w86)])) t → Steps p.tables e below (T81.setTop (mkF m 104 #[.val (.long aq), .second, .val (.int ar), .val (.long ad), .second, .val (.long (aq - (aq / (9223372036854774 : Int64)) * (9223372036854774 : Int64))), .second, .val (.int w29), .val (.long (((aq - (aq / (9223372036854774 : Int64)) * (9223372036854774 : Int64)) * (1000 : Int64)) + (w29.toInt64))), .second, .val (.long w40), .second, .val (.int w53), .val (.long (geach ad)), .second, .unset] [(.int (lcmpW ((gcount ad) * (geach ad)) ad))])) t := by
            by_cases c83 : ((gcount ad) * (geach ad)) = ad
            ·
              have s85 : ∀ t, Steps p.tables e below (T81.setTop (mkF m 112 #[.val (.long aq), .second, .val (.int ar), .val (.long ad), .second, .val (.long (aq - (aq / (9223372036854774 : Int64)) * (9223372036854774 : Int64))), .second, .val (.int w29), .val (.long (((aq - (aq / (9223372036854774 : Int64)) * (9223372036854774 : Int64)) * (1000 : Int64)) + (w29.toInt64))), .second, .val (.long w40), .second, .val (.int w53), .val (.long (geach ad)), .second, .unset] [(.int (1 : Int32))])) t → Steps p.tables e below (T81.setTop (mkF m 104 #[.val (.long aq), .second, .val (.int ar), .val (.long ad), .second, .val (.long (aq - (aq / (9223372036854774 : Int64)) * (9223372036854774 : Int64))), .second, .val (.int w29), .val (.long (((aq - (aq / (9223372036854774 : Int64)) * (9223372036854774 : Int64)) * (1000 : Int64)) + (w29.toInt64))), .second, .val (.long w40), .second, .val (.int w53), .val (.long (geach ad)), .second, .unset] [(.int (lcmpW ((gcount ad) * (geach ad)) ad))])) t := by
                intro t kt
                refine XS.ifNo X81.here hx rfl (hb hby at_104) rfl ((if0 _ _).trans (teq ((lw_eq _ _).mpr c83)).2) ?_
                show Steps p.tables e below (T81.setTop (mkF m 107 #[.val (.long aq), .second, .val (.int ar), .val (.long ad), .second, .val (.long (aq - (aq / (9223372036854774 : Int64)) * (9223372036854774 : Int64))), .second, .val (.int w29), .val (.long (((aq - (aq / (9223372036854774 : Int64)) * (9223372036854774 : Int64)) * (1000 : Int64)) + (w29.toInt64))), .second, .val (.long w40), .second, .val (.int w53), .val (.long (geach ad)), .second, .unset] [])) t
                refine XS.iconst X81.here hx rfl (hb hby at_107) ?_
                show Steps p.tables e below (T81.setTop (mkF m 108 #[.val (.long aq), .second, .val (.int ar), .val (.long ad), .second, .val (.long (aq - (aq / (9223372036854774 : Int64)) * (9223372036854774 : Int64))), .second, .val (.int w29), .val (.long (((aq - (aq / (9223372036854774 : Int64)) * (9223372036854774 : Int64)) * (1000 : Int64)) + (w29.toInt64))), .second, .val (.long w40), .second, .val (.int w53), .val (.long (geach ad)), .second, .unset] [(.int (1 : Int32))])) t
                refine XS.goto X81.here hx rfl (pc0 := 108) (pc' := 112) rfl (hb hby at_108) (by decide) (by decide) ?_
                exact kt
              exact ⟨(1 : Int32), (if_pos c83).symm, fun t kt => s85 _ (kt)⟩
            ·
              have s84 : ∀ t, Steps p.tables e below (T81.setTop (mkF m 112 #[.val (.long aq), .second, .val (.int ar), .val (.long ad), .second, .val (.long (aq - (aq / (9223372036854774 : Int64)) * (9223372036854774 : Int64))), .second, .val (.int w29), .val (.long (((aq - (aq / (9223372036854774 : Int64)) * (9223372036854774 : Int64)) * (1000 : Int64)) + (w29.toInt64))), .second, .val (.long w40), .second, .val (.int w53), .val (.long (geach ad)), .second, .unset] [(.int (0 : Int32))])) t → Steps p.tables e below (T81.setTop (mkF m 104 #[.val (.long aq), .second, .val (.int ar), .val (.long ad), .second, .val (.long (aq - (aq / (9223372036854774 : Int64)) * (9223372036854774 : Int64))), .second, .val (.int w29), .val (.long (((aq - (aq / (9223372036854774 : Int64)) * (9223372036854774 : Int64)) * (1000 : Int64)) + (w29.toInt64))), .second, .val (.long w40), .second, .val (.int w53), .val (.long (geach ad)), .second, .unset] [(.int (lcmpW ((gcount ad) * (geach ad)) ad))])) t := by
                intro t kt
                refine XS.ifYes X81.here hx rfl (pc0 := 104) (pc' := 111) rfl (hb hby at_104) rfl ((if0 _ _).trans (feq (mt (lw_eq _ _).mp c83)).2) (by decide) (by decide) ?_
                show Steps p.tables e below (T81.setTop (mkF m 111 #[.val (.long aq), .second, .val (.int ar), .val (.long ad), .second, .val (.long (aq - (aq / (9223372036854774 : Int64)) * (9223372036854774 : Int64))), .second, .val (.int w29), .val (.long (((aq - (aq / (9223372036854774 : Int64)) * (9223372036854774 : Int64)) * (1000 : Int64)) + (w29.toInt64))), .second, .val (.long w40), .second, .val (.int w53), .val (.long (geach ad)), .second, .unset] [])) t
                refine XS.iconst X81.here hx rfl (hb hby at_111) ?_
                exact kt
              exact ⟨(0 : Int32), (if_neg c83).symm, fun t kt => s84 _ (kt)⟩
          exact ⟨T81, _, (if ((gcount ad) * (geach ad)) = ad then (1 : Int32) else (0 : Int32)), X81, e81q, N81, (if_pos c78).symm, fun t kt => s80 _ (st81 _ (s82 _ (j92 _ (kt))))⟩
        ·
          have s79 : ∀ t, Steps p.tables e below (T61.setTop (mkF m 112 #[.val (.long aq), .second, .val (.int ar), .val (.long ad), .second, .val (.long (aq - (aq / (9223372036854774 : Int64)) * (9223372036854774 : Int64))), .second, .val (.int w29), .val (.long (((aq - (aq / (9223372036854774 : Int64)) * (9223372036854774 : Int64)) * (1000 : Int64)) + (w29.toInt64))), .second, .val (.long w40), .second, .val (.int w53), .val (.long (geach ad)), .second, .unset] [(.int (0 : Int32))])) t → Steps p.tables e below (T61.setTop (mkF m 92 #[.val (.long aq), .second, .val (.int ar), .val (.long ad), .second, .val (.long (aq - (aq / (9223372036854774 : Int64)) * (9223372036854774 : Int64))), .second, .val (.int w29), .val (.long (((aq - (aq / (9223372036854774 : Int64)) * (9223372036854774 : Int64)) * (1000 : Int64)) + (w29.toInt64))), .second, .val (.long w40), .second, .val (.int w53), .val (.long (geach ad)), .second, .unset] [(.int (lcmpW (geach ad) ad))])) t := by
            intro t kt
            refine XS.ifYes X61.here hx rfl (pc0 := 92) (pc' := 111) rfl (hb hby at_92) rfl ((if0 _ _).trans (feq (mt (lw_eq _ _).mp c78)).2) (by decide) (by decide) ?_
            show Steps p.tables e below (T61.setTop (mkF m 111 #[.val (.long aq), .second, .val (.int ar), .val (.long ad), .second, .val (.long (aq - (aq / (9223372036854774 : Int64)) * (9223372036854774 : Int64))), .second, .val (.int w29), .val (.long (((aq - (aq / (9223372036854774 : Int64)) * (9223372036854774 : Int64)) * (1000 : Int64)) + (w29.toInt64))), .second, .val (.long w40), .second, .val (.int w53), .val (.long (geach ad)), .second, .unset] [])) t
            refine XS.iconst X61.here hx rfl (hb hby at_111) ?_
            exact kt
          exact ⟨T61, _, (0 : Int32), X61, e61q, N61, (if_neg c78).symm, fun t kt => s79 _ (kt)⟩
      exact ⟨T94, _, (if (geach ad) = ad then (if ((gcount ad) * (geach ad)) = ad then (1 : Int32) else (0 : Int32)) else (0 : Int32)), X96, e97, N98, (if_neg c63).symm, fun t kt => s77 _ (j99 _ (kt))⟩
  have s107 : ∀ t, Steps p.tables e below (T101.setTop (mkF m 116 #[.val (.long aq), .second, .val (.int ar), .val (.long ad), .second, .val (.long (aq - (aq / (9223372036854774 : Int64)) * (9223372036854774 : Int64))), .second, .val (.int w29), .val (.long (((aq - (aq / (9223372036854774 : Int64)) * (9223372036854774 : Int64)) * (1000 : Int64)) + (w29.toInt64))), .second, .val (.long w40), .second, .val (.int w53), .val (.long (geach ad)), .second, .val (.int w100)] [(.int w53)])) t → Steps p.tables e below (T101.setTop (mkF m 112 #[.val (.long aq), .second, .val (.int ar), .val (.long ad), .second, .val (.long (aq - (aq / (9223372036854774 : Int64)) * (9223372036854774 : Int64))), .second, .val (.int w29), .val (.long (((aq - (aq / (9223372036854774 : Int64)) * (9223372036854774 : Int64)) * (1000 : Int64)) + (w29.toInt64))), .second, .val (.long w40), .second, .val (.int w53), .val (.long (geach ad)), .second, .unset] [(.int w100)])) t := by
    intro t kt
    refine XS.istore X103.here hx rfl (hb hby at_112) rfl (l' := #[.val (.long aq), .second, .val (.int ar), .val (.long ad), .second, .val (.long (aq - (aq / (9223372036854774 : Int64)) * (9223372036854774 : Int64))), .second, .val (.int w29), .val (.long (((aq - (aq / (9223372036854774 : Int64)) * (9223372036854774 : Int64)) * (1000 : Int64)) + (w29.toInt64))), .second, .val (.long w40), .second, .val (.int w53), .val (.long (geach ad)), .second, .val (.int w100)]) rfl ?_
    show Steps p.tables e below (T101.setTop (mkF m 114 #[.val (.long aq), .second, .val (.int ar), .val (.long ad), .second, .val (.long (aq - (aq / (9223372036854774 : Int64)) * (9223372036854774 : Int64))), .second, .val (.int w29), .val (.long (((aq - (aq / (9223372036854774 : Int64)) * (9223372036854774 : Int64)) * (1000 : Int64)) + (w29.toInt64))), .second, .val (.long w40), .second, .val (.int w53), .val (.long (geach ad)), .second, .val (.int w100)] [])) t
    refine XS.iload X103.here hx rfl (hb hby at_114) rfl ?_
    exact kt
  have hp : ¬ (w53 = (0 : Int32)) := own_pin _ _ _ _ _ _ rfl hw29 hw40 hw53
  have hq : ¬ (w100 = (0 : Int32)) := own_shape _ _ hw100
  have s108 : ∀ t, Steps p.tables e below (T101.setTop (mkF m 129 #[.val (.long aq), .second, .val (.int ar), .val (.long ad), .second, .val (.long (aq - (aq / (9223372036854774 : Int64)) * (9223372036854774 : Int64))), .second, .val (.int w29), .val (.long (((aq - (aq / (9223372036854774 : Int64)) * (9223372036854774 : Int64)) * (1000 : Int64)) + (w29.toInt64))), .second, .val (.long w40), .second, .val (.int w53), .val (.long (geach ad)), .second, .val (.int w100)] [(.int (1 : Int32))])) t → Steps p.tables e below (T101.setTop (mkF m 116 #[.val (.long aq), .second, .val (.int ar), .val (.long ad), .second, .val (.long (aq - (aq / (9223372036854774 : Int64)) * (9223372036854774 : Int64))), .second, .val (.int w29), .val (.long (((aq - (aq / (9223372036854774 : Int64)) * (9223372036854774 : Int64)) * (1000 : Int64)) + (w29.toInt64))), .second, .val (.long w40), .second, .val (.int w53), .val (.long (geach ad)), .second, .val (.int w100)] [(.int w53)])) t := by
    intro t kt
    refine XS.ifNo X103.here hx rfl (hb hby at_116) rfl ((if0 _ _).trans (feq hp).1) ?_
    show Steps p.tables e below (T101.setTop (mkF m 119 #[.val (.long aq), .second, .val (.int ar), .val (.long ad), .second, .val (.long (aq - (aq / (9223372036854774 : Int64)) * (9223372036854774 : Int64))), .second, .val (.int w29), .val (.long (((aq - (aq / (9223372036854774 : Int64)) * (9223372036854774 : Int64)) * (1000 : Int64)) + (w29.toInt64))), .second, .val (.long w40), .second, .val (.int w53), .val (.long (geach ad)), .second, .val (.int w100)] [])) t
    refine XS.iload X103.here hx rfl (hb hby at_119) rfl ?_
    show Steps p.tables e below (T101.setTop (mkF m 121 #[.val (.long aq), .second, .val (.int ar), .val (.long ad), .second, .val (.long (aq - (aq / (9223372036854774 : Int64)) * (9223372036854774 : Int64))), .second, .val (.int w29), .val (.long (((aq - (aq / (9223372036854774 : Int64)) * (9223372036854774 : Int64)) * (1000 : Int64)) + (w29.toInt64))), .second, .val (.long w40), .second, .val (.int w53), .val (.long (geach ad)), .second, .val (.int w100)] [(.int w100)])) t
    refine XS.ifNo X103.here hx rfl (hb hby at_121) rfl ((if0 _ _).trans (feq hq).1) ?_
    show Steps p.tables e below (T101.setTop (mkF m 124 #[.val (.long aq), .second, .val (.int ar), .val (.long ad), .second, .val (.long (aq - (aq / (9223372036854774 : Int64)) * (9223372036854774 : Int64))), .second, .val (.int w29), .val (.long (((aq - (aq / (9223372036854774 : Int64)) * (9223372036854774 : Int64)) * (1000 : Int64)) + (w29.toInt64))), .second, .val (.long w40), .second, .val (.int w53), .val (.long (geach ad)), .second, .val (.int w100)] [])) t
    refine XS.iconst X103.here hx rfl (hb hby at_124) ?_
    show Steps p.tables e below (T101.setTop (mkF m 125 #[.val (.long aq), .second, .val (.int ar), .val (.long ad), .second, .val (.long (aq - (aq / (9223372036854774 : Int64)) * (9223372036854774 : Int64))), .second, .val (.int w29), .val (.long (((aq - (aq / (9223372036854774 : Int64)) * (9223372036854774 : Int64)) * (1000 : Int64)) + (w29.toInt64))), .second, .val (.long w40), .second, .val (.int w53), .val (.long (geach ad)), .second, .val (.int w100)] [(.int (1 : Int32))])) t
    refine XS.goto X103.here hx rfl (pc0 := 125) (pc' := 129) rfl (hb hby at_125) (by decide) (by decide) ?_
    exact kt
  obtain ⟨fs, hr, hrun, hended, hW, hsame⟩ := X103.leave (v := some (.int (1 : Int32))) (fun h => by rw [Bd.returns] at h; cases h)
  refine ⟨_, _, pre0 _ (s25 _ (j35 _ (s36 _ (j46 _ (s47 _ (st48 _ (s49 _ (j59 _ (s60 _ (st61 _ (s62 _ (j106 _ (s107 _ (s108 _ (?_))))))))))))))), hrun, hended, _, _, rfl, ?_, ⟨_, rfl⟩, hW, hsame.mono (by decide) (by decide)⟩
  · show Steps p.tables e below (T101.setTop (mkF m 129 #[.val (.long aq), .second, .val (.int ar), .val (.long ad), .second, .val (.long (aq - (aq / (9223372036854774 : Int64)) * (9223372036854774 : Int64))), .second, .val (.int w29), .val (.long (((aq - (aq / (9223372036854774 : Int64)) * (9223372036854774 : Int64)) * (1000 : Int64)) + (w29.toInt64))), .second, .val (.long w40), .second, .val (.int w53), .val (.long (geach ad)), .second, .val (.int w100)] [(.int (1 : Int32))])) _
    exact retN X103 hx (t := .boolean) Bd.returns (by simp) (hb hby at_129) hr
  · show Q0 Z aq ar ad h0 n0 _ T101.heap _
    rw [e104]
    exact ⟨rfl, N105⟩
set_option maxRecDepth 65536 in
set_option maxHeartbeats 40000000 in
theorem comes_1 {Post : Tables → Env → Array Value → State → Outcome → State → Prop} (hpost : ∀ tb e args s v u, (limb_1_1.after args s (.returned v) u = true ∧ limb_1_2.after args s (.returned v) u = true ∧ True) → FrameEnd s (.returned v) u (Jvm.fieldLocs frame_1_writes args s ++ Jvm.arrayLocs frame_1_arrays args s ++ Jvm.staticLocs frame_1_statics s) 0 0 → Post tb e args s (.returned v) u) :
    ArmFor flags0 classFile x code maxLocals ret World_1 tables_1 room_1 Calls_1 rest_1 Pre_1 Post := by
  intro l hfl _ _ p e ha hc hk s m args below hf hA hF happ hP
  obtain ⟨hcalls, hrest, hpre⟩ := hP
  obtain ⟨-, -, -, hnamed, -, -, -, hat⟩ := (Spec.applies_iff hf).mp happ
  obtain ⟨hg, hn⟩ := and_e (Cond.before_iff.mp (show (Jvm.Cond.and given_1 narrow_1).before args s = true from hpre))
  obtain ⟨ha0, hb0⟩ := and_e hg
  obtain ⟨ha1, hb1⟩ := and_e hb0
  obtain ⟨ha2, hb2⟩ := and_e hb1
  obtain ⟨w0, w1, w2, rfl⟩ : ∃ w0 w1 w2 : Value, args = #[w0, w1, w2] := by
    have hs : args.size = 3 := by simpa [Cond.value, given_1] using ha0
    obtain ⟨L⟩ := args
    match L, hs with
    | [w0, w1, w2], _ => exact ⟨w0, w1, w2, rfl⟩
  have hw := fun d (hd : d ∈ tables_1) => atoms_spec (ws := Jvm.Cond.code x code maxLocals ret :: tables_1) hat d (List.mem_cons_of_mem _ hd)
  obtain ⟨i0, ei0⟩ := isL_v ha1
  obtain rfl : w0 = (.long i0) := Option.some.inj ei0
  obtain ⟨i1, ei1⟩ := is_v ha2
  obtain rfl : w1 = (.int i1) := Option.some.inj ei1
  obtain ⟨i2, ei2⟩ := isL_v hb2
  obtain rfl : w2 = (.long i2) := Option.some.inj ei2
  obtain ⟨n, o, h1, h2, h3, _, L, rfl, ⟨rfl, N⟩, hq⟩ := rm0 l s _ hw tables_1 i0 i1 i2 s.heap s.heap.size (Nat.le_refl _)  p e ha hc hk s m _ below hf ((Spec.applies_iff_loose hf).mp happ).1 ⟨rfl, State.Warmed39.refl s, rfl⟩ trivial
  refine ⟨n, _, h1, h2, h3, hpost _ _ _ _ _ _ ⟨Cond.after_iff.mpr rfl, Cond.after_iff.mpr (eq_i res_at (Term.int_eval (1)) rfl), trivial⟩ ⟨hq.1, hq.2.1, (hq.2.2.sift fun y hy => Or.inr (N y hy)).mono (by decide) (by decide)⟩⟩
theorem main_1_1 : Claimed_1_1 := comes_1 fun _ _ _ _ _ _ h hF => ⟨h.1, hF⟩
theorem main_1_2 : Claimed_1_2 := comes_1 fun _ _ _ _ _ _ h hF => ⟨h.2.1, hF⟩
end Jvm.Pilot.@@N@@
namespace Jvm.Pilot.@@N@@
open Jvm Jvm.ClassFile Sem Op Lib Jvm.Free Jvm.Stand Jvm.Pilot.@@N@@.Jvm.D
/-! MADE BY PROGRAM (witnessworld.py) out of the Statement's table words and the real class files: 9 classes; the members and pool entries that the words name. The judged class is class 1, her method 1. -/
namespace start1
open Jvm.ClassFile
def u (s : String) : CpInfo := .utf8 (stringToUtf16 s)
/-- a pool by its gaps: so many unusable entries, then the entry; so many at the end -/
def gap : Nat → List CpInfo → List CpInfo
  | 0, r => r
  | n + 1, r => .unusable :: gap n r
def poolList (es : List (Nat × CpInfo)) (last : Nat) : List CpInfo := es.foldr (fun e r => gap e.1 (e.2 :: r)) (gap last [])
def pool (es : List (Nat × CpInfo)) (last : Nat) : Array CpInfo := ⟨poolList es last⟩
def fileOf (pool : Array CpInfo) (this : Nat) (attrs : Array Attribute := #[]) (ms : Array MethodInfo := #[]) (fl : Nat := 33) (sup : Nat := 0) (ifs : Array Nat := #[]) (fds : Array FieldInfo := #[]) : ClassFile where
  minorVersion := 0
  majorVersion := 65
  constantPool := pool
  accessFlags := fl
  thisClass := this
  superClass := sup
  interfaces := ifs
  fields := fds
  methods := ms
  attributes := attrs
def plain (name : String) (sup : Option ClassId) : Class where
  name := name
  kind := .ordinary
  loader := none
  accessFlags := 33
  super := sup
  interfaces := #[]
  cf := none
  fields := #[]
  methods := #[]
  instanceTypes := #[]
  staticTypes := #[]
  resolved := #[]
  callSites := []
  init := .initialized
  statics := none
  mirror := none

def pool0 : Array CpInfo := pool [(5, u "<init>"), (0, u "()V"), (1, .class_ 10), (1, u "java/lang/Object")] 113

def k0m0 : Method := { name := "<init>", desc := "()V", sig := { parameters := [], returnType := none }, accessFlags := 1, code := none }
/-- java/lang/Object -/
def k0 : Class := { plain "java/lang/Object" none with
  accessFlags := 33
  interfaces := #[]
  cf := some (fileOf pool0 8 #[] #[{ accessFlags := 1, nameIndex := 5, descriptorIndex := 6, attributes := #[] }] 33 0 #[] #[])
  fields := #[]
  methods := #[k0m0]
  instanceTypes := #[]
  staticTypes := #[]
  resolved := Array.replicate 124 none
  statics := none }

def pool1 : Array CpInfo := pool [(2, .class_ 4), (1, u "java/lang/Object"), (0, u "<init>"), (0, u "()V"), (0, .long 9223372036854774), (1, .long 1000), (1, .methodref 12 13), (0, .class_ 14), (0, .nameAndType 15 16), (0, u "com/example/berth/berth/model/Gpus"), (0, u "each"), (0, u "(J)J"), (0, .methodref 12 18), (0, .nameAndType 19 16), (0, u "count"), (0, .class_ 21), (0, u "com/example/berth/berth/model/GpusEachPinLaw"), (2, u "law"), (0, u "(JIJ)Z")] 3

def k1m0 : Method := { name := "<init>", desc := "()V", sig := { parameters := [], returnType := none }, accessFlags := 2, code := none }
def k1c1 : Code := { maxStack := 4, maxLocals := 16, code := code, exceptionTable := #[], attributes := #[] }
def k1m1 : Method := { name := "law", desc := "(JIJ)Z", sig := { parameters := [.long, .int, .long], returnType := some .boolean }, accessFlags := 9, code := some k1c1 }
/-- com/example/berth/berth/model/GpusEachPinLaw -/
def k1 : Class := { plain "com/example/berth/berth/model/GpusEachPinLaw" (some 0) with
  accessFlags := 49
  interfaces := #[]
  cf := some (fileOf pool1 20 #[] #[{ accessFlags := 2, nameIndex := 5, descriptorIndex := 6, attributes := #[] }, { accessFlags := 9, nameIndex := 24, descriptorIndex := 25, attributes := #[] }] 49 2 #[] #[])
  fields := #[]
  methods := #[k1m0, k1m1]
  instanceTypes := #[]
  staticTypes := #[]
  resolved := Array.replicate 29 none
  statics := none }

def pool2 : Array CpInfo := pool [(2, .class_ 4), (1, u "java/lang/Object"), (0, u "<init>"), (0, u "()V"), (0, .class_ 8), (0, u "com/example/berth/berth/model/Gpus"), (0, .long 1000), (4, u "(J)J"), (12, u "count"), (2, u "each"), (0, u "RESOURCE"), (0, u "Ljava/lang/String;"), (3, u "SIZE"), (0, u "J")] 7

def k2m0 : Method := { name := "<init>", desc := "()V", sig := { parameters := [], returnType := none }, accessFlags := 2, code := none }
def k2c1 : Code := { maxStack := 4, maxLocals := 4, code := prog_13_method_2_code, exceptionTable := #[], attributes := #[] }
def k2m1 : Method := { name := "count", desc := "(J)J", sig := { parameters := [.long], returnType := some .long }, accessFlags := 9, code := some k2c1 }
def k2c2 : Code := { maxStack := 4, maxLocals := 4, code := prog_13_method_3_code, exceptionTable := #[], attributes := #[] }
def k2m2 : Method := { name := "each", desc := "(J)J", sig := { parameters := [.long], returnType := some .long }, accessFlags := 9, code := some k2c2 }
/-- com/example/berth/berth/model/Gpus -/
def k2 : Class := { plain "com/example/berth/berth/model/Gpus" (some 0) with
  accessFlags := 49
  interfaces := #[]
  cf := some (fileOf pool2 7 #[] #[{ accessFlags := 2, nameIndex := 5, descriptorIndex := 6, attributes := #[] }, { accessFlags := 9, nameIndex := 27, descriptorIndex := 14, attributes := #[] }, { accessFlags := 9, nameIndex := 30, descriptorIndex := 14, attributes := #[] }] 49 2 #[] #[{ accessFlags := 25, nameIndex := 31, descriptorIndex := 32, attributes := #[] }, { accessFlags := 25, nameIndex := 36, descriptorIndex := 37, attributes := #[] }])
  fields := #[{ name := "RESOURCE", type := (.object "java/lang/String"), accessFlags := 25, slot := 0, constantValue := 0 }, { name := "SIZE", type := .long, accessFlags := 25, slot := 1, constantValue := 0 }]
  methods := #[k2m0, k2m1, k2m2]
  instanceTypes := #[]
  staticTypes := #[(.object "java/lang/String"), .long]
  resolved := Array.replicate 45 none
  statics := none }

def pool3 : Array CpInfo := pool [(1, u "java/lang/Cloneable"), (0, .class_ 1), (0, u "java/lang/Object"), (0, .class_ 3)] 3

/-- java/lang/Cloneable -/
def k3 : Class := { plain "java/lang/Cloneable" (some 0) with
  accessFlags := 1537
  interfaces := #[]
  cf := some (fileOf pool3 2 #[] #[] 1537 4 #[] #[])
  fields := #[]
  methods := #[]
  instanceTypes := #[]
  staticTypes := #[]
  resolved := Array.replicate 8 none
  statics := none }

def pool4 : Array CpInfo := pool [(1, u "java/io/Serializable"), (0, .class_ 1), (0, u "java/lang/Object"), (0, .class_ 3)] 3

/-- java/io/Serializable -/
def k4 : Class := { plain "java/io/Serializable" (some 0) with
  accessFlags := 1537
  interfaces := #[]
  cf := some (fileOf pool4 2 #[] #[] 1537 4 #[] #[])
  fields := #[]
  methods := #[]
  instanceTypes := #[]
  staticTypes := #[]
  resolved := Array.replicate 8 none
  statics := none }

/-- the primitive byte -/
def k5 : Class := { plain "byte" none with kind := .primitive 'B', accessFlags := 0x411 }
/-- [B -/
def k6 : Class := { plain "[B" (some 0) with kind := .array 5 .byte, interfaces := #[3, 4], accessFlags := 1041 }

/-- the primitive int -/
def k7 : Class := { plain "int" none with kind := .primitive 'I', accessFlags := 0x411 }
/-- [I -/
def k8 : Class := { plain "[I" (some 0) with kind := .array 7 .int, interfaces := #[3, 4], accessFlags := 1041 }

def heap : Heap := #[]
def classes : Array Class := #[k0, k1, k2, k3, k4, k5, k6, k7, k8]
def interned : List (Array UInt16 × Addr) := []
def slotsUsed : Nat := 0
def theMethod : MethodId := ⟨1, 1⟩
def args0 : Array Value := #[.long 5, .int 7, .long 9]
def aboutOver (below : List Frame) : State where
  vm := { classes := classes, interned := interned.toArray }
  heap := heap
  slotsUsed := slotsUsed
  threads := #[{ frames := .invoking theMethod args0 :: below }]
def below0 : List Frame := [.native { method := ⟨0, 0⟩, args := #[] }]
def about1 : State := aboutOver below0
def p0 : Program := .bare "" "" ""
def e0 : Env := launch0.env 0 0 0
theorem w_frames : about1.frames = Frame.invoking theMethod args0 :: below0 := rfl
set_option maxRecDepth 65536 in
theorem w_args : argsFit about1.vm theMethod args0 = true := by decide +kernel
set_option maxRecDepth 65536 in
theorem w_heap : heapFits about1 = true := by decide +kernel
set_option maxRecDepth 65536 in
theorem w_runnable : about1.curStatus? = some .runnable := by decide +kernel
set_option maxRecDepth 65536 in
theorem w_alone : about1.alone = true := by decide +kernel
set_option maxRecDepth 65536 in
theorem w_named : about1.methodNamed? x = some theMethod := by decide +kernel
set_option maxRecDepth 65536 in
theorem w_hears : about1.hears theMethod below0 = true := by decide +kernel
set_option maxRecDepth 65536 in
theorem w_ripe : about1.ripe theMethod args0 below0 = true := by decide +kernel
theorem w_running : about1.status = .running := rfl
set_option maxRecDepth 65536 in
theorem w_room : about1.hasRoom e0.platform room_1 = true :=
  launch0.hasRoom_least _ room_1 (by decide +kernel) (by decide +kernel) (by decide +kernel) (by decide +kernel) (by decide +kernel) (by decide +kernel)
theorem allAtoms_all (ts : List Jvm.Cond) (a : Array Jvm.Value) (st : Jvm.State) : (allAtoms ts).before a st = ts.all (fun c => c.before a st) := by
  induction ts with
  | nil => rfl
  | cons c t ih =>
    show (Jvm.Cond.and c (allAtoms t)).before a st = _
    rw [Jvm.Cond.before_and, ih, List.all_cons]
def words1 : List Jvm.Cond := Jvm.Cond.code x code maxLocals ret :: tables_1
/-- a 'code' word, met by the world's own term for the bytes: nothing is compared byte by byte -/
theorem code_word {y : MethodName} {bytes : ByteArray} {mx : Nat} {rt : Option FieldType} {a : Array Value} {s : State} {m : MethodId} {meth : Method} {c : Code} (h1 : s.methodNamed? y = some m) (h2 : s.vm.method? m = some meth) (h3 : meth.code = some c) (h4 : c.code = bytes)
    (h5 : (c.maxLocals == mx && c.exceptionTable.isEmpty && decide (c.maxStack ≤ mostOperands) && decide (meth.sig.returnType = rt) && !meth.locks && decide (parseMethodDescriptor y.desc = some meth.sig)) = true) : (Jvm.Cond.code y bytes mx rt).before a s = true := by
  simp only [Bool.and_eq_true, beq_iff_eq, Bool.not_eq_true', decide_eq_true_eq] at h5
  obtain ⟨⟨⟨⟨⟨g1, g2⟩, g3⟩, g4⟩, g5⟩, g6⟩ := h5
  simp [Cond.before, Cond.holds, Cond.value, h1, h2, h3, h4, g1, g2, g3, g4, g5, g6]
def isCode : Jvm.Cond → Bool
  | .code _ _ _ _ => true
  | _ => false
theorem all_split {L : List Jvm.Cond} {P : Jvm.Cond → Bool} (h1 : L.all (fun c => isCode c || P c) = true) (h2 : ∀ c ∈ L.filter isCode, P c = true) : L.all P = true := by
  refine List.all_eq_true.mpr fun c hc => ?_
  have h := List.all_eq_true.mp h1 c hc
  rcases Bool.eq_false_or_eq_true (isCode c) with hi | hi
  · exact h2 c (List.mem_filter.mpr ⟨hc, hi⟩)
  · simpa [hi] using h
set_option maxRecDepth 65536 in
theorem w_c0 : (Jvm.Cond.code x code maxLocals ret).before args0 about1 = true := code_word (m := ⟨1, 1⟩) (meth := k1m1) (c := k1c1) (by decide +kernel) rfl rfl rfl (by decide +kernel)
set_option maxRecDepth 65536 in
theorem w_c1 : (Jvm.Cond.code ({ cls := "com/example/berth/berth/model/Gpus", name := "each", desc := "(J)J" } : Jvm.MethodName) prog_13_method_3_code (4 : Nat) (Option.some Jvm.ClassFile.FieldType.long)).before args0 about1 = true := code_word (m := ⟨2, 2⟩) (meth := k2m2) (c := k2c2) (by decide +kernel) rfl rfl rfl (by decide +kernel)
set_option maxRecDepth 65536 in
theorem w_c2 : (Jvm.Cond.code ({ cls := "com/example/berth/berth/model/Gpus", name := "count", desc := "(J)J" } : Jvm.MethodName) prog_13_method_2_code (4 : Nat) (Option.some Jvm.ClassFile.FieldType.long)).before args0 about1 = true := code_word (m := ⟨2, 1⟩) (meth := k2m1) (c := k2c1) (by decide +kernel) rfl rfl rfl (by decide +kernel)
def codes1 : List Jvm.Cond := [Jvm.Cond.code x code maxLocals ret, Jvm.Cond.code ({ cls := "com/example/berth/berth/model/Gpus", name := "each", desc := "(J)J" } : Jvm.MethodName) prog_13_method_3_code (4 : Nat) (Option.some Jvm.ClassFile.FieldType.long), Jvm.Cond.code ({ cls := "com/example/berth/berth/model/Gpus", name := "count", desc := "(J)J" } : Jvm.MethodName) prog_13_method_2_code (4 : Nat) (Option.some Jvm.ClassFile.FieldType.long)]
set_option maxRecDepth 65536 in
theorem codes_eq : words1.filter isCode = codes1 := rfl
theorem w_codes : ∀ c ∈ words1.filter isCode, c.before args0 about1 = true := by
  rw [codes_eq]
  intro c hc
  simp only [codes1, List.mem_cons, List.not_mem_nil, or_false] at hc
  rcases hc with rfl | rfl | rfl
  · exact w_c0
  · exact w_c1
  · exact w_c2
set_option maxRecDepth 65536 in
theorem w_t1 : words1.all (fun c => isCode c || c.before args0 about1) = true := by decide +kernel
theorem w_tables : (allAtoms (Jvm.Cond.code x code maxLocals ret :: tables_1)).before args0 about1 = true := by
  rw [allAtoms_all]
  show words1.all (fun c => c.before args0 about1) = true
  refine all_split ?_ w_codes
  rw [w_t1]
set_option maxRecDepth 65536 in
theorem w_case : (Jvm.Cond.and given_1 narrow_1).before args0 about1 = true := by decide +kernel
theorem w_applies : (headSpec (Jvm.Cond.code x code maxLocals ret :: tables_1) room_1).applies x e0.platform about1 = true :=
  (Spec.applies_iff w_frames).mpr ⟨w_running, w_runnable, w_alone, w_named, w_hears, w_ripe, w_room, w_tables⟩
theorem atStart : AtStart classFile x code maxLocals ret World_1 tables_1 room_1 Calls_1 rest_1 Pre_1 launch0 p0 e0 about1 theMethod args0 below0 :=
  ⟨lists_1, trivial, launch0.admits_env _ _ _, launch0.least_env, fairChoices_fair.cas, fairChoices_fair.clock, w_frames, w_args, w_heap, w_applies, trivial, trivial, w_case⟩
end start1
theorem witness_1 : WitnessClaimed_1 := ⟨start1.p0, start1.e0, start1.about1, start1.theMethod, start1.args0, start1.below0, start1.atStart⟩
end Jvm.Pilot.@@N@@
