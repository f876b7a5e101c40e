import JvmDerived
import JvmDerived.Pilot.@@N@@Statement
import JvmDerived.Pilot.@@N@@Code
set_option linter.unusedVariables false
set_option linter.unusedSimpArgs false
@@BLOCK:NumsL.lean.txt@@
namespace Jvm.RoadKit
open Sem ClassFile Op Lib Jvm.Stand Jvm.Free Jvm.LawKit
section New
variable {p : Program} {l : Launch} {e : Env} {R : Room} {s : State} {m : MethodId} {args : Array Value} {below : List Frame} {meth : Method} {c : Code} {T : State} {locs : List Loc} {cells slots : Nat}
theorem retI (X : Stand p l e R s m args below meth c T locs cells slots) (hx : p.tables.exec = Jvm.exec) {pc : Nat} {Ls : Array Slot} {z : Int32} {rest : List Value} (hret : meth.sig.returnType = some .int) (hd : decode c.code pc = .ok (.ireturn, 1)) {fs : List Frame}
    (hl : ∀ (f : JFrame) (acts : List Action), f.method = m → f.locked = none → f.entered = [] → (doReturn e (T.setTop f) acts (some (.int z))).1 = T.setFrames fs) : Steps p.tables e below (T.setTop (mkF m pc Ls (.int z :: rest))) (T.setFrames fs) := by
  have hm' : T.vm.method? m = some meth := X.method'
  have hn : narrow .int (.int z) = .int z := rfl
  show Steps p.tables e below (T.setTop { method := m, pc := pc, locals := Ls, stack := _ :: rest, locked := none }) _
  jvm_step X.here [X.here.top, hx, hd, hm', hret, hn]
  first | (intro acts; rw [hl _ acts rfl rfl rfl]) | rw [hl _ _ rfl rfl rfl]
  exact Steps.refl _
end New
end Jvm.RoadKit
namespace Jvm.Pilot.@@N@@
open Jvm Jvm.ClassFile Sem Op Lib Jvm.Free Jvm.Stand Jvm.LawKit Jvm.RoadKit Bundle Jvm.Pilot.@@N@@.Jvm.D
def gcount (u0 : Int64) : Int64 := (if (u0 - (u0 / (1000 : Int64)) * (1000 : Int64)) = (0 : Int64) then (u0 / (1000 : Int64)) else (1 : Int64))
theorem ef_1 (m : MethodId) (x0 : Int64) : entryFrame m #[(.long x0)] 4 = mkF m 0 #[.val (.long x0), .second, .unset, .unset] [] := by first | (simp [entryFrame, mkF, argsToLocals, Value.category]; done) | rfl
theorem pn_com_example_berth_berth_model_Gpus : plainName "com/example/berth/berth/model/Gpus" = true := by first | (simp [plainName, overriddenIn]; done) | decide +kernel
theorem d1_0 : decode prog_13_method_2_code 0 = .ok (.lload_n 0, 1) := by decide +kernel
theorem d1_1 : decode prog_13_method_2_code 1 = .ok (.ldc2_w 9, 3) := by decide +kernel
theorem d1_4 : decode prog_13_method_2_code 4 = .ok (.lrem, 1) := by decide +kernel
theorem d1_5 : decode prog_13_method_2_code 5 = .ok (.lconst 0, 1) := by decide +kernel
theorem d1_6 : decode prog_13_method_2_code 6 = .ok (.lcmp, 1) := by decide +kernel
theorem d1_7 : decode prog_13_method_2_code 7 = .ok (.ifCond .ne 12, 3) := by decide +kernel
theorem d1_19 : decode prog_13_method_2_code 19 = .ok (.lconst 1, 1) := by decide +kernel
theorem d1_20 : decode prog_13_method_2_code 20 = .ok (.lstore_n 2, 1) := by decide +kernel
theorem d1_10 : decode prog_13_method_2_code 10 = .ok (.lload_n 0, 1) := by decide +kernel
theorem d1_11 : decode prog_13_method_2_code 11 = .ok (.ldc2_w 9, 3) := by decide +kernel
theorem d1_14 : decode prog_13_method_2_code 14 = .ok (.ldiv, 1) := by decide +kernel
theorem d1_15 : decode prog_13_method_2_code 15 = .ok (.lstore_n 2, 1) := by decide +kernel
theorem d1_16 : decode prog_13_method_2_code 16 = .ok (.goto 5, 3) := by decide +kernel
theorem d1_21 : decode prog_13_method_2_code 21 = .ok (.lload_n 2, 1) := by decide +kernel
theorem d1_22 : decode prog_13_method_2_code 22 = .ok (.lreturn, 1) := by decide +kernel
theorem ef_0 (m : MethodId) (x0 : Int64) (x1 : Int32) (x2 : Int32) : entryFrame m #[(.long x0), (.int x1), (.int x2)] maxLocals = mkF m 0 #[.val (.long x0), .second, .val (.int x1), .val (.int x2), .unset, .unset, .unset, .unset, .unset, .unset, .unset, .unset, .unset] [] := by first | (simp [entryFrame, mkF, argsToLocals, Value.category, maxLocals]; done) | rfl
theorem pn_com_example_berth_berth_model_GpusCountPinLaw : plainName "com/example/berth/berth/model/GpusCountPinLaw" = true := by first | (simp [plainName, overriddenIn]; done) | decide +kernel
theorem pd_oJcJ : parseMethodDescriptor "(J)J" = some ⟨[.long], some .long⟩ := by decide +kernel
def Q1 (Z : State) (u0 : Int64) (h0 : Heap) (n0 : Nat) (v : Option Value) (h : Heap) (L : List Loc) : Prop := v = some (.long (gcount u0)) ∧ Fr n0 L ∧ h = h0
set_option maxRecDepth 65536 in
set_option maxHeartbeats 40000000 in
theorem rm1 (l : Launch) (Z : State) (a0 : Array Value) (hw : ∀ d ∈ tables_1, d.before a0 Z = true) (ws : List Jvm.Cond) (u0 : Int64) (h0 : Heap) (n0 : Nat) (Z0 : n0 ≤ h0.size)  :
    MetFree l (⟨"com/example/berth/berth/model/Gpus", "count", "(J)J"⟩ : MethodName) (head1 (Jvm.Cond.code (⟨"com/example/berth/berth/model/Gpus", "count", "(J)J"⟩ : MethodName) prog_13_method_2_code 4 (some .long) :: ws) ({ frames := 0, cells := 0, slots := 0, locals := 0 } : Room)) (fun a U => a = #[(.long u0)] ∧ Z.Warmed39 U.vm ∧ U.heap = h0) (fun _ _ _ _ _ => True) (fun _ U o U' => ∃ v L, o = .returned v ∧ Q1 Z u0 h0 n0 v U'.heap L ∧ FrameEnd U o U' L ({ frames := 0, cells := 0, slots := 0, locals := 0 } : Room).cells ({ frames := 0, cells := 0, slots := 0, locals := 0 } : Room).slots) := by
  refine MetFree.of_bodySF (plainFor_of_name pn_com_example_berth_berth_model_Gpus) hisR ?_
  intro p e s m args0 below meth c s₁ Bd hml0 hP hK
  obtain ⟨rfl, hZ, hh⟩ := hP
  have hx := Bd.exec
  have hby := Bd.bytes
  have hml : c.maxLocals = 4 := hml0
  have hown : s.vm.findClass "com/example/berth/berth/model/Gpus" = some m.cls := findClass_of_methodNamed Bd.named
  have hnm := (name_of_methodNamed Bd.named Bd.method).1
  have X0 : Stand p l e ({ frames := 0, cells := 0, slots := 0, locals := 0 } : Room) s m #[(.long u0)] below meth c s₁ [] 0 0 := Stand.of_body Bd
  have e0 : s₁.heap = h0 := by rw [← hh, Bd.state]; rfl
  have N0 := Fr.nil n0
  have pre0 : ∀ t, Steps p.tables e below (s₁.setTop (mkF m 0 #[.val (.long u0), .second, .unset, .unset] [])) t → Steps p.tables e below (s₁.setTop (entryFrame m #[(.long u0)] 4)) t := fun t k => castTop (ef_1 m u0) k
  have s1 : ∀ t, Steps p.tables e below (s₁.setTop (mkF m 7 #[.val (.long u0), .second, .unset, .unset] [(.int (lcmpW (u0 - (u0 / (1000 : Int64)) * (1000 : Int64)) (0 : Int64)))])) t → Steps p.tables e below (s₁.setTop (mkF m 0 #[.val (.long u0), .second, .unset, .unset] [])) t := by
    intro t kt
    refine XS.lloadN X0.here hx rfl (hb hby d1_0) rfl ?_
    show Steps p.tables e below (s₁.setTop (mkF m 1 #[.val (.long u0), .second, .unset, .unset] [(.long u0)])) t
    refine X0.ldc2Long hx hown (mvT hZ (hw _ (List.mem_of_getElem? (i := 6) rfl))) (g := (mkF m 1 #[.val (.long u0), .second, .unset, .unset] [(.long u0)])) rfl (hb hby d1_1) _ ?_
    show Steps p.tables e below (s₁.setTop (mkF m 4 #[.val (.long u0), .second, .unset, .unset] [(.long (1000 : Int64)), (.long u0)])) t
    refine XS.lrem X0.here hx rfl (hb hby d1_4) rfl (by decide) ?_
    show Steps p.tables e below (s₁.setTop (mkF m 5 #[.val (.long u0), .second, .unset, .unset] [(.long (u0 - (u0 / (1000 : Int64)) * (1000 : Int64)))])) t
    refine XS.lconst X0.here hx rfl (hb hby d1_5) ?_
    show Steps p.tables e below (s₁.setTop (mkF m 6 #[.val (.long u0), .second, .unset, .unset] [(.long (0 : Int64)), (.long (u0 - (u0 / (1000 : Int64)) * (1000 : Int64)))])) t
    refine XS.lcmp X0.here hx rfl (hb hby d1_6) rfl ?_
    exact kt
  obtain ⟨w5, rfl, j11⟩ : ∃ (w5 : Int64), w5 = (if (u0 - (u0 / (1000 : Int64)) * (1000 : Int64)) = (0 : Int64) then (u0 / (1000 : Int64)) else (1 : Int64)) ∧ ∀ t, Steps p.tables e below (s₁.setTop (mkF m 21 #[.val (.long u0), .second, .val (.long w5), .second] [])) t → Steps p.tables e below (s₁.setTop (mkF m 7 #[.val (.long u0), .second, .unset, .unset] [(.int (lcmpW (u0 - (u0 / (1000 : Int64)) * (1000 : Int64)) (0 : Int64)))])) t := by
    by_cases c2 : (u0 - (u0 / (1000 : Int64)) * (1000 : Int64)) = (0 : Int64)
    ·
      have s4 : ∀ t, Steps p.tables e below (s₁.setTop (mkF m 21 #[.val (.long u0), .second, .val (.long (u0 / (1000 : Int64))), .second] [])) t → Steps p.tables e below (s₁.setTop (mkF m 7 #[.val (.long u0), .second, .unset, .unset] [(.int (lcmpW (u0 - (u0 / (1000 : Int64)) * (1000 : Int64)) (0 : Int64)))])) t := by
        intro t kt
        refine XS.ifNo X0.here hx rfl (hb hby d1_7) rfl ((if0 _ _).trans (teq ((lw_eq _ _).mpr c2)).2) ?_
        show Steps p.tables e below (s₁.setTop (mkF m 10 #[.val (.long u0), .second, .unset, .unset] [])) t
        refine XS.lloadN X0.here hx rfl (hb hby d1_10) rfl ?_
        show Steps p.tables e below (s₁.setTop (mkF m 11 #[.val (.long u0), .second, .unset, .unset] [(.long u0)])) t
        refine X0.ldc2Long hx hown (mvT hZ (hw _ (List.mem_of_getElem? (i := 6) rfl))) (g := (mkF m 11 #[.val (.long u0), .second, .unset, .unset] [(.long u0)])) rfl (hb hby d1_11) _ ?_
        show Steps p.tables e below (s₁.setTop (mkF m 14 #[.val (.long u0), .second, .unset, .unset] [(.long (1000 : Int64)), (.long u0)])) t
        refine XS.ldiv X0.here hx rfl (hb hby d1_14) rfl (by decide) ?_
        show Steps p.tables e below (s₁.setTop (mkF m 15 #[.val (.long u0), .second, .unset, .unset] [(.long (u0 / (1000 : Int64)))])) t
        refine XS.lstoreN X0.here hx rfl (hb hby d1_15) rfl (l' := #[.val (.long u0), .second, .val (.long (u0 / (1000 : Int64))), .second]) rfl ?_
        show Steps p.tables e below (s₁.setTop (mkF m 16 #[.val (.long u0), .second, .val (.long (u0 / (1000 : Int64))), .second] [])) t
        refine XS.goto X0.here hx rfl (pc0 := 16) (pc' := 21) rfl (hb hby d1_16) (by decide) (by decide) ?_
        exact kt
      exact ⟨(u0 / (1000 : Int64)), (if_pos c2).symm, fun t kt => s4 _ (kt)⟩
    ·
      have s3 : ∀ t, Steps p.tables e below (s₁.setTop (mkF m 21 #[.val (.long u0), .second, .val (.long (1 : Int64)), .second] [])) t → Steps p.tables e below (s₁.setTop (mkF m 7 #[.val (.long u0), .second, .unset, .unset] [(.int (lcmpW (u0 - (u0 / (1000 : Int64)) * (1000 : Int64)) (0 : Int64)))])) t := by
        intro t kt
        refine XS.ifYes X0.here hx rfl (pc0 := 7) (pc' := 19) rfl (hb hby d1_7) rfl ((if0 _ _).trans (feq (mt (lw_eq _ _).mp c2)).2) (by decide) (by decide) ?_
        show Steps p.tables e below (s₁.setTop (mkF m 19 #[.val (.long u0), .second, .unset, .unset] [])) t
        refine XS.lconst X0.here hx rfl (hb hby d1_19) ?_
        show Steps p.tables e below (s₁.setTop (mkF m 20 #[.val (.long u0), .second, .unset, .unset] [(.long (1 : Int64))])) t
        refine XS.lstoreN X0.here hx rfl (hb hby d1_20) rfl (l' := #[.val (.long u0), .second, .val (.long (1 : Int64)), .second]) rfl ?_
        exact kt
      exact ⟨(1 : Int64), (if_neg c2).symm, fun t kt => s3 _ (kt)⟩
  have s12 : ∀ t, Steps p.tables e below (s₁.setTop (mkF m 22 #[.val (.long u0), .second, .val (.long (if (u0 - (u0 / (1000 : Int64)) * (1000 : Int64)) = (0 : Int64) then (u0 / (1000 : Int64)) else (1 : Int64))), .second] [(.long (if (u0 - (u0 / (1000 : Int64)) * (1000 : Int64)) = (0 : Int64) then (u0 / (1000 : Int64)) else (1 : Int64)))])) t → Steps p.tables e below (s₁.setTop (mkF m 21 #[.val (.long u0), .second, .val (.long (if (u0 - (u0 / (1000 : Int64)) * (1000 : Int64)) = (0 : Int64) then (u0 / (1000 : Int64)) else (1 : Int64))), .second] [])) t := by
    intro t kt
    refine XS.lloadN X0.here hx rfl (hb hby d1_21) rfl ?_
    exact kt
  obtain ⟨fs, hr, hrun, hended, hW, hsame⟩ := X0.leave (v := some (.long (if (u0 - (u0 / (1000 : Int64)) * (1000 : Int64)) = (0 : Int64) then (u0 / (1000 : Int64)) else (1 : Int64)))) (fun h => by rw [Bd.returns] at h; cases h)
  refine ⟨_, _, pre0 _ (s1 _ (j11 _ (s12 _ (?_)))), hrun, hended, _, _, rfl, ?_, ⟨_, rfl⟩, hW, hsame.mono (by decide) (by decide)⟩
  · show Steps p.tables e below (s₁.setTop (mkF m 22 #[.val (.long u0), .second, .val (.long (if (u0 - (u0 / (1000 : Int64)) * (1000 : Int64)) = (0 : Int64) then (u0 / (1000 : Int64)) else (1 : Int64))), .second] [(.long (if (u0 - (u0 / (1000 : Int64)) * (1000 : Int64)) = (0 : Int64) then (u0 / (1000 : Int64)) else (1 : Int64)))])) _
    exact X0.lreturnOut hx Bd.returns (hb hby d1_22) hr
  · show Q1 Z u0 h0 n0 _ s₁.heap _
    rw [e0]
    exact ⟨rfl, N0, rfl⟩
theorem own_plain (q0 : Int64) (r f : Int32) (w1 : Int32) (w2 w3 : Int64) (q : Int64) (hq : q = q0 >>> ((10 : Int32) &&& 0x3f).toInt64)
    (h1 : w1 = (if (f &&& (2 : Int32)) = (0 : Int32) then ((r &&& (2147483647 : Int32)) % (1000 : Int32)) else (0 : Int32)))
    (h2 : w2 = (if (f &&& (1 : Int32)) = (0 : Int32) then (w1.toInt64) else ((-w1.toInt64))))
    (h3 : w3 = (if w2 = (0 : Int64) then q else (1 : Int64))) : gcount ((q * (1000 : Int64)) + w2) = w3 := by
  have k1000 : (1000 : Int64).toInt = 1000 := by decide
  have k0 : (0 : Int64).toInt = 0 := by decide
  have hQ : q.toInt = q0.toInt / 2 ^ 10 := by rw [hq]; exact Jvm.Kit.i64_shr _ _ (by decide)
  have r1 := q0.toInt_lt
  have r2 := q0.le_toInt
  have hk : (r &&& (2147483647 : Int32)).toInt = r.toInt % 2 ^ 31 := Jvm.Kit.i32_mask r 2147483647 (k := 31) (by decide) (by decide)
  have hm : ((r &&& (2147483647 : Int32)) % (1000 : Int32)).toInt = (r.toInt % 2 ^ 31) % 1000 := by
    rw [Jvm.Kit.i32_rem_nonneg (by omega), hk]; rfl
  have b1 : 0 ≤ w1.toInt ∧ w1.toInt < 1000 := by
    rw [h1]; split
    · rw [hm]; omega
    · decide
  have c1 : w1.toInt64.toInt = w1.toInt := Jvm.Kit.i64_of_i32 _
  have b2 : w2.toInt = w1.toInt ∨ w2.toInt = -w1.toInt := by
    rw [h2]; split
    · left; exact c1
    · right; rw [Jvm.Kit.i64_neg (by omega), c1]
  have e1 : (q * (1000 : Int64)).toInt = q.toInt * 1000 := by
    rw [Jvm.Kit.i64_mul (by rw [k1000]; omega) (by rw [k1000]; omega), k1000]
  have e2 : ((q * (1000 : Int64)) + w2).toInt = q.toInt * 1000 + w2.toInt := by
    rw [Jvm.Kit.i64_add (by omega) (by omega), e1]
  generalize hD : (q * (1000 : Int64)) + w2 = D at *
  have er : (D - (D / (1000 : Int64)) * (1000 : Int64)).toInt = D.toInt.tmod 1000 := by rw [Jvm.Kit.i64_rem, k1000]
  have ed : (D / (1000 : Int64)).toInt = D.toInt.tdiv 1000 := by rw [Jvm.Kit.i64_div (by rw [k1000]; omega), k1000]
  have t1 := Jvm.RoadKit.tr D.toInt 1000
  have t2 := Jvm.RoadKit.tq D.toInt 1000
  rw [h3]
  show (if (D - (D / (1000 : Int64)) * (1000 : Int64)) = (0 : Int64) then (D / (1000 : Int64)) else (1 : Int64)) = _
  by_cases hs : w2 = 0
  · have hz : w2.toInt = 0 := by rw [hs]; rfl
    have q1 : D - (D / (1000 : Int64)) * (1000 : Int64) = 0 := Int64.toInt_inj.mp (by rw [er, k0]; omega)
    rw [if_pos q1, if_pos hs]
    exact Int64.toInt_inj.mp (by rw [ed]; omega)
  · have hz : w2.toInt ≠ 0 := fun h => hs (Int64.toInt_inj.mp (by rw [h]; rfl))
    have q1 : ¬ (D - (D / (1000 : Int64)) * (1000 : Int64) = 0) := fun h => by
      have h' := congrArg Int64.toInt h
      rw [er, k0] at h'; omega
    rw [if_neg q1, if_neg hs]

def Q0 (Z : State) (a0q : Int64) (a1r : Int32) (a2f : Int32) (h0 : Heap) (n0 : Nat) (v : Option Value) (h : Heap) (L : List Loc) : Prop := v = some (.int 1) ∧ Fr n0 L
set_option maxRecDepth 65536 in
set_option maxHeartbeats 40000000 in
theorem rm0 (l : Launch) (Z : State) (a0 : Array Value) (hw : ∀ d ∈ tables_1, d.before a0 Z = true) (ws : List Jvm.Cond) (a0q : Int64) (a1r : Int32) (a2f : Int32) (h0 : Heap) (n0 : Nat) (Z0 : n0 ≤ h0.size)  :
    MetFree l x (head1 (Jvm.Cond.code x code maxLocals ret :: ws) room_1) (fun a U => a = #[(.long a0q), (.int a1r), (.int a2f)] ∧ Z.Warmed39 U.vm ∧ U.heap = h0) (fun _ _ _ _ _ => True) (fun _ U o U' => ∃ v L, o = .returned v ∧ Q0 Z a0q a1r a2f h0 n0 v U'.heap L ∧ FrameEnd U o U' L room_1.cells room_1.slots) := by
  refine MetFree.of_bodySF (plainFor_of_name pn_com_example_berth_berth_model_GpusCountPinLaw) hisR ?_
  intro p e s m args0 below meth c s₁ Bd hml0 hP hK
  obtain ⟨rfl, hZ, hh⟩ := hP
  have hx := Bd.exec
  have hby := Bd.bytes
  have hml : c.maxLocals = 13 := hml0
  have hown : s.vm.findClass "com/example/berth/berth/model/GpusCountPinLaw" = some m.cls := findClass_of_methodNamed Bd.named
  have hnm := (name_of_methodNamed Bd.named Bd.method).1
  have X0 : Stand p l e room_1 s m #[(.long a0q), (.int a1r), (.int a2f)] below meth c s₁ [] 0 0 := Stand.of_body Bd
  have e0 : s₁.heap = h0 := by rw [← hh, Bd.state]; rfl
  have N0 := Fr.nil n0
  have pre0 : ∀ t, Steps p.tables e below (s₁.setTop (mkF m 0 #[.val (.long a0q), .second, .val (.int a1r), .val (.int a2f), .unset, .unset, .unset, .unset, .unset, .unset, .unset, .unset, .unset] [])) t → Steps p.tables e below (s₁.setTop (entryFrame m #[(.long a0q), (.int a1r), (.int a2f)] maxLocals)) t := fun t k => castTop (ef_0 m a0q a1r a2f) k
  have s13 : ∀ t, Steps p.tables e below (s₁.setTop (mkF m 19 #[.val (.long a0q), .second, .val (.int a1r), .val (.int a2f), .val (.long (a0q >>> ((10 : Int32) &&& 0x3f).toInt64)), .second, .val (.int ((a1r &&& (2147483647 : Int32)) % (1000 : Int32))), .unset, .unset, .unset, .unset, .unset, .unset] [(.int (a2f &&& (2 : Int32)))])) t → Steps p.tables e below (s₁.setTop (mkF m 0 #[.val (.long a0q), .second, .val (.int a1r), .val (.int a2f), .unset, .unset, .unset, .unset, .unset, .unset, .unset, .unset, .unset] [])) t := by
    intro t kt
    refine XS.lloadN X0.here hx rfl (hb hby at_0) rfl ?_
    show Steps p.tables e below (s₁.setTop (mkF m 1 #[.val (.long a0q), .second, .val (.int a1r), .val (.int a2f), .unset, .unset, .unset, .unset, .unset, .unset, .unset, .unset, .unset] [(.long a0q)])) t
    refine XS.bipush X0.here hx rfl (hb hby at_1) ?_
    show Steps p.tables e below (s₁.setTop (mkF m 3 #[.val (.long a0q), .second, .val (.int a1r), .val (.int a2f), .unset, .unset, .unset, .unset, .unset, .unset, .unset, .unset, .unset] [(.int (10 : Int32)), (.long a0q)])) t
    refine XS.lshr X0.here hx rfl (hb hby at_3) rfl ?_
    show Steps p.tables e below (s₁.setTop (mkF m 4 #[.val (.long a0q), .second, .val (.int a1r), .val (.int a2f), .unset, .unset, .unset, .unset, .unset, .unset, .unset, .unset, .unset] [(.long (a0q >>> ((10 : Int32) &&& 0x3f).toInt64))])) t
    refine XS.lstore X0.here hx rfl (hb hby at_4) rfl (l' := #[.val (.long a0q), .second, .val (.int a1r), .val (.int a2f), .val (.long (a0q >>> ((10 : Int32) &&& 0x3f).toInt64)), .second, .unset, .unset, .unset, .unset, .unset, .unset, .unset]) rfl ?_
    show Steps p.tables e below (s₁.setTop (mkF m 6 #[.val (.long a0q), .second, .val (.int a1r), .val (.int a2f), .val (.long (a0q >>> ((10 : Int32) &&& 0x3f).toInt64)), .second, .unset, .unset, .unset, .unset, .unset, .unset, .unset] [])) t
    refine XS.iloadN X0.here hx rfl (hb hby at_6) rfl ?_
    show Steps p.tables e below (s₁.setTop (mkF m 7 #[.val (.long a0q), .second, .val (.int a1r), .val (.int a2f), .val (.long (a0q >>> ((10 : Int32) &&& 0x3f).toInt64)), .second, .unset, .unset, .unset, .unset, .unset, .unset, .unset] [(.int a1r)])) t
    refine X0.ldcInt hx hown (mvT hZ (hw _ (List.mem_of_getElem? (i := 0) rfl))) (g := (mkF m 7 #[.val (.long a0q), .second, .val (.int a1r), .val (.int a2f), .val (.long (a0q >>> ((10 : Int32) &&& 0x3f).toInt64)), .second, .unset, .unset, .unset, .unset, .unset, .unset, .unset] [(.int a1r)])) rfl (hb hby at_7) _ ?_
    show Steps p.tables e below (s₁.setTop (mkF m 9 #[.val (.long a0q), .second, .val (.int a1r), .val (.int a2f), .val (.long (a0q >>> ((10 : Int32) &&& 0x3f).toInt64)), .second, .unset, .unset, .unset, .unset, .unset, .unset, .unset] [(.int (2147483647 : Int32)), (.int a1r)])) t
    refine XS.iand X0.here hx rfl (hb hby at_9) rfl ?_
    show Steps p.tables e below (s₁.setTop (mkF m 10 #[.val (.long a0q), .second, .val (.int a1r), .val (.int a2f), .val (.long (a0q >>> ((10 : Int32) &&& 0x3f).toInt64)), .second, .unset, .unset, .unset, .unset, .unset, .unset, .unset] [(.int (a1r &&& (2147483647 : Int32)))])) t
    refine XS.sipush X0.here hx rfl (hb hby at_10) ?_
    show Steps p.tables e below (s₁.setTop (mkF m 13 #[.val (.long a0q), .second, .val (.int a1r), .val (.int a2f), .val (.long (a0q >>> ((10 : Int32) &&& 0x3f).toInt64)), .second, .unset, .unset, .unset, .unset, .unset, .unset, .unset] [(.int (1000 : Int32)), (.int (a1r &&& (2147483647 : Int32)))])) t
    refine Jvm.RoadKit.iremM X0 hx rfl (hb hby at_13) rfl (by decide) ?_
    show Steps p.tables e below (s₁.setTop (mkF m 14 #[.val (.long a0q), .second, .val (.int a1r), .val (.int a2f), .val (.long (a0q >>> ((10 : Int32) &&& 0x3f).toInt64)), .second, .unset, .unset, .unset, .unset, .unset, .unset, .unset] [(.int ((a1r &&& (2147483647 : Int32)) % (1000 : Int32)))])) t
    refine XS.istore X0.here hx rfl (hb hby at_14) rfl (l' := #[.val (.long a0q), .second, .val (.int a1r), .val (.int a2f), .val (.long (a0q >>> ((10 : Int32) &&& 0x3f).toInt64)), .second, .val (.int ((a1r &&& (2147483647 : Int32)) % (1000 : Int32))), .unset, .unset, .unset, .unset, .unset, .unset]) rfl ?_
    show Steps p.tables e below (s₁.setTop (mkF m 16 #[.val (.long a0q), .second, .val (.int a1r), .val (.int a2f), .val (.long (a0q >>> ((10 : Int32) &&& 0x3f).toInt64)), .second, .val (.int ((a1r &&& (2147483647 : Int32)) % (1000 : Int32))), .unset, .unset, .unset, .unset, .unset, .unset] [])) t
    refine XS.iloadN X0.here hx rfl (hb hby at_16) rfl ?_
    show Steps p.tables e below (s₁.setTop (mkF m 17 #[.val (.long a0q), .second, .val (.int a1r), .val (.int a2f), .val (.long (a0q >>> ((10 : Int32) &&& 0x3f).toInt64)), .second, .val (.int ((a1r &&& (2147483647 : Int32)) % (1000 : Int32))), .unset, .unset, .unset, .unset, .unset, .unset] [(.int a2f)])) t
    refine XS.iconst X0.here hx rfl (hb hby at_17) ?_
    show Steps p.tables e below (s₁.setTop (mkF m 18 #[.val (.long a0q), .second, .val (.int a1r), .val (.int a2f), .val (.long (a0q >>> ((10 : Int32) &&& 0x3f).toInt64)), .second, .val (.int ((a1r &&& (2147483647 : Int32)) % (1000 : Int32))), .unset, .unset, .unset, .unset, .unset, .unset] [(.int (2 : Int32)), (.int a2f)])) t
    refine XS.iand X0.here hx rfl (hb hby at_18) rfl ?_
    exact kt
  obtain ⟨w17, hw17, j23⟩ : ∃ (w17 : Int32), w17 = (if (a2f &&& (2 : Int32)) = (0 : Int32) then ((a1r &&& (2147483647 : Int32)) % (1000 : Int32)) else (0 : Int32)) ∧ ∀ t, Steps p.tables e below (s₁.setTop (mkF m 25 #[.val (.long a0q), .second, .val (.int a1r), .val (.int a2f), .val (.long (a0q >>> ((10 : Int32) &&& 0x3f).toInt64)), .second, .val (.int w17), .unset, .unset, .unset, .unset, .unset, .unset] [])) t → Steps p.tables e below (s₁.setTop (mkF m 19 #[.val (.long a0q), .second, .val (.int a1r), .val (.int a2f), .val (.long (a0q >>> ((10 : Int32) &&& 0x3f).toInt64)), .second, .val (.int ((a1r &&& (2147483647 : Int32)) % (1000 : Int32))), .unset, .unset, .unset, .unset, .unset, .unset] [(.int (a2f &&& (2 : Int32)))])) t := by
    by_cases c14 : (a2f &&& (2 : Int32)) = (0 : Int32)
    ·
      have s15 : ∀ t, Steps p.tables e below (s₁.setTop (mkF m 25 #[.val (.long a0q), .second, .val (.int a1r), .val (.int a2f), .val (.long (a0q >>> ((10 : Int32) &&& 0x3f).toInt64)), .second, .val (.int ((a1r &&& (2147483647 : Int32)) % (1000 : Int32))), .unset, .unset, .unset, .unset, .unset, .unset] [])) t → Steps p.tables e below (s₁.setTop (mkF m 19 #[.val (.long a0q), .second, .val (.int a1r), .val (.int a2f), .val (.long (a0q >>> ((10 : Int32) &&& 0x3f).toInt64)), .second, .val (.int ((a1r &&& (2147483647 : Int32)) % (1000 : Int32))), .unset, .unset, .unset, .unset, .unset, .unset] [(.int (a2f &&& (2 : Int32)))])) t := by
        intro t kt
        refine XS.ifYes X0.here hx rfl (pc0 := 19) (pc' := 25) rfl (hb hby at_19) rfl ((if0 _ _).trans (teq c14).1) (by decide) (by decide) ?_
        exact kt
      exact ⟨((a1r &&& (2147483647 : Int32)) % (1000 : Int32)), (if_pos c14).symm, fun t kt => s15 _ (kt)⟩
    ·
      have s16 : ∀ t, Steps p.tables e below (s₁.setTop (mkF m 25 #[.val (.long a0q), .second, .val (.int a1r), .val (.int a2f), .val (.long (a0q >>> ((10 : Int32) &&& 0x3f).toInt64)), .second, .val (.int (0 : Int32)), .unset, .unset, .unset, .unset, .unset, .unset] [])) t → Steps p.tables e below (s₁.setTop (mkF m 19 #[.val (.long a0q), .second, .val (.int a1r), .val (.int a2f), .val (.long (a0q >>> ((10 : Int32) &&& 0x3f).toInt64)), .second, .val (.int ((a1r &&& (2147483647 : Int32)) % (1000 : Int32))), .unset, .unset, .unset, .unset, .unset, .unset] [(.int (a2f &&& (2 : Int32)))])) t := by
        intro t kt
        refine XS.ifNo X0.here hx rfl (hb hby at_19) rfl ((if0 _ _).trans (feq c14).1) ?_
        show Steps p.tables e below (s₁.setTop (mkF m 22 #[.val (.long a0q), .second, .val (.int a1r), .val (.int a2f), .val (.long (a0q >>> ((10 : Int32) &&& 0x3f).toInt64)), .second, .val (.int ((a1r &&& (2147483647 : Int32)) % (1000 : Int32))), .unset, .unset, .unset, .unset, .unset, .unset] [])) t
        refine XS.iconst X0.here hx rfl (hb hby at_22) ?_
        show Steps p.tables e below (s₁.setTop (mkF m 23 #[.val (.long a0q), .second, .val (.int a1r), .val (.int a2f), .val (.long (a0q >>> ((10 : Int32) &&& 0x3f).toInt64)), .second, .val (.int ((a1r &&& (2147483647 : Int32)) % (1000 : Int32))), .unset, .unset, .unset, .unset, .unset, .unset] [(.int (0 : Int32))])) t
        refine XS.istore X0.here hx rfl (hb hby at_23) rfl (l' := #[.val (.long a0q), .second, .val (.int a1r), .val (.int a2f), .val (.long (a0q >>> ((10 : Int32) &&& 0x3f).toInt64)), .second, .val (.int (0 : Int32)), .unset, .unset, .unset, .unset, .unset, .unset]) rfl ?_
        exact kt
      exact ⟨(0 : Int32), (if_neg c14).symm, fun t kt => s16 _ (kt)⟩
  have s24 : ∀ t, Steps p.tables e below (s₁.setTop (mkF m 28 #[.val (.long a0q), .second, .val (.int a1r), .val (.int a2f), .val (.long (a0q >>> ((10 : Int32) &&& 0x3f).toInt64)), .second, .val (.int w17), .unset, .unset, .unset, .unset, .unset, .unset] [(.int (a2f &&& (1 : Int32)))])) t → Steps p.tables e below (s₁.setTop (mkF m 25 #[.val (.long a0q), .second, .val (.int a1r), .val (.int a2f), .val (.long (a0q >>> ((10 : Int32) &&& 0x3f).toInt64)), .second, .val (.int w17), .unset, .unset, .unset, .unset, .unset, .unset] [])) t := by
    intro t kt
    refine XS.iloadN X0.here hx rfl (hb hby at_25) rfl ?_
    show Steps p.tables e below (s₁.setTop (mkF m 26 #[.val (.long a0q), .second, .val (.int a1r), .val (.int a2f), .val (.long (a0q >>> ((10 : Int32) &&& 0x3f).toInt64)), .second, .val (.int w17), .unset, .unset, .unset, .unset, .unset, .unset] [(.int a2f)])) t
    refine XS.iconst X0.here hx rfl (hb hby at_26) ?_
    show Steps p.tables e below (s₁.setTop (mkF m 27 #[.val (.long a0q), .second, .val (.int a1r), .val (.int a2f), .val (.long (a0q >>> ((10 : Int32) &&& 0x3f).toInt64)), .second, .val (.int w17), .unset, .unset, .unset, .unset, .unset, .unset] [(.int (1 : Int32)), (.int a2f)])) t
    refine XS.iand X0.here hx rfl (hb hby at_27) rfl ?_
    exact kt
  obtain ⟨w28, hw28, j34⟩ : ∃ (w28 : Int64), w28 = (if (a2f &&& (1 : Int32)) = (0 : Int32) then (w17.toInt64) else (-(w17.toInt64))) ∧ ∀ t, Steps p.tables e below (s₁.setTop (mkF m 41 #[.val (.long a0q), .second, .val (.int a1r), .val (.int a2f), .val (.long (a0q >>> ((10 : Int32) &&& 0x3f).toInt64)), .second, .val (.int w17), .unset, .unset, .unset, .unset, .unset, .unset] [(.long w28)])) t → Steps p.tables e below (s₁.setTop (mkF m 28 #[.val (.long a0q), .second, .val (.int a1r), .val (.int a2f), .val (.long (a0q >>> ((10 : Int32) &&& 0x3f).toInt64)), .second, .val (.int w17), .unset, .unset, .unset, .unset, .unset, .unset] [(.int (a2f &&& (1 : Int32)))])) t := by
    by_cases c25 : (a2f &&& (1 : Int32)) = (0 : Int32)
    ·
      have s26 : ∀ t, Steps p.tables e below (s₁.setTop (mkF m 41 #[.val (.long a0q), .second, .val (.int a1r), .val (.int a2f), .val (.long (a0q >>> ((10 : Int32) &&& 0x3f).toInt64)), .second, .val (.int w17), .unset, .unset, .unset, .unset, .unset, .unset] [(.long (w17.toInt64))])) t → Steps p.tables e below (s₁.setTop (mkF m 28 #[.val (.long a0q), .second, .val (.int a1r), .val (.int a2f), .val (.long (a0q >>> ((10 : Int32) &&& 0x3f).toInt64)), .second, .val (.int w17), .unset, .unset, .unset, .unset, .unset, .unset] [(.int (a2f &&& (1 : Int32)))])) t := by
        intro t kt
        refine XS.ifYes X0.here hx rfl (pc0 := 28) (pc' := 38) rfl (hb hby at_28) rfl ((if0 _ _).trans (teq c25).1) (by decide) (by decide) ?_
        show Steps p.tables e below (s₁.setTop (mkF m 38 #[.val (.long a0q), .second, .val (.int a1r), .val (.int a2f), .val (.long (a0q >>> ((10 : Int32) &&& 0x3f).toInt64)), .second, .val (.int w17), .unset, .unset, .unset, .unset, .unset, .unset] [])) t
        refine XS.iload X0.here hx rfl (hb hby at_38) rfl ?_
        show Steps p.tables e below (s₁.setTop (mkF m 40 #[.val (.long a0q), .second, .val (.int a1r), .val (.int a2f), .val (.long (a0q >>> ((10 : Int32) &&& 0x3f).toInt64)), .second, .val (.int w17), .unset, .unset, .unset, .unset, .unset, .unset] [(.int w17)])) t
        refine XS.i2l X0.here hx rfl (hb hby at_40) rfl ?_
        exact kt
      exact ⟨(w17.toInt64), (if_pos c25).symm, fun t kt => s26 _ (kt)⟩
    ·
      have s27 : ∀ t, Steps p.tables e below (s₁.setTop (mkF m 41 #[.val (.long a0q), .second, .val (.int a1r), .val (.int a2f), .val (.long (a0q >>> ((10 : Int32) &&& 0x3f).toInt64)), .second, .val (.int w17), .unset, .unset, .unset, .unset, .unset, .unset] [(.long (-(w17.toInt64)))])) t → Steps p.tables e below (s₁.setTop (mkF m 28 #[.val (.long a0q), .second, .val (.int a1r), .val (.int a2f), .val (.long (a0q >>> ((10 : Int32) &&& 0x3f).toInt64)), .second, .val (.int w17), .unset, .unset, .unset, .unset, .unset, .unset] [(.int (a2f &&& (1 : Int32)))])) t := by
        intro t kt
        refine XS.ifNo X0.here hx rfl (hb hby at_28) rfl ((if0 _ _).trans (feq c25).1) ?_
        show Steps p.tables e below (s₁.setTop (mkF m 31 #[.val (.long a0q), .second, .val (.int a1r), .val (.int a2f), .val (.long (a0q >>> ((10 : Int32) &&& 0x3f).toInt64)), .second, .val (.int w17), .unset, .unset, .unset, .unset, .unset, .unset] [])) t
        refine XS.iload X0.here hx rfl (hb hby at_31) rfl ?_
        show Steps p.tables e below (s₁.setTop (mkF m 33 #[.val (.long a0q), .second, .val (.int a1r), .val (.int a2f), .val (.long (a0q >>> ((10 : Int32) &&& 0x3f).toInt64)), .second, .val (.int w17), .unset, .unset, .unset, .unset, .unset, .unset] [(.int w17)])) t
        refine XS.i2l X0.here hx rfl (hb hby at_33) rfl ?_
        show Steps p.tables e below (s₁.setTop (mkF m 34 #[.val (.long a0q), .second, .val (.int a1r), .val (.int a2f), .val (.long (a0q >>> ((10 : Int32) &&& 0x3f).toInt64)), .second, .val (.int w17), .unset, .unset, .unset, .unset, .unset, .unset] [(.long (w17.toInt64))])) t
        refine XS.lneg X0.here hx rfl (hb hby at_34) rfl ?_
        show Steps p.tables e below (s₁.setTop (mkF m 35 #[.val (.long a0q), .second, .val (.int a1r), .val (.int a2f), .val (.long (a0q >>> ((10 : Int32) &&& 0x3f).toInt64)), .second, .val (.int w17), .unset, .unset, .unset, .unset, .unset, .unset] [(.long (-(w17.toInt64)))])) t
        refine XS.goto X0.here hx rfl (pc0 := 35) (pc' := 41) rfl (hb hby at_35) (by decide) (by decide) ?_
        exact kt
      exact ⟨(-(w17.toInt64)), (if_neg c25).symm, fun t kt => s27 _ (kt)⟩
  have s35 : ∀ t, Steps p.tables e below (s₁.setTop (mkF m 58 #[.val (.long a0q), .second, .val (.int a1r), .val (.int a2f), .val (.long (a0q >>> ((10 : Int32) &&& 0x3f).toInt64)), .second, .val (.int w17), .val (.long w28), .second, .val (.long (((a0q >>> ((10 : Int32) &&& 0x3f).toInt64) * (1000 : Int64)) + w28)), .second, .unset, .unset] [(.int (lcmpW w28 (0 : Int64)))])) t → Steps p.tables e below (s₁.setTop (mkF m 41 #[.val (.long a0q), .second, .val (.int a1r), .val (.int a2f), .val (.long (a0q >>> ((10 : Int32) &&& 0x3f).toInt64)), .second, .val (.int w17), .unset, .unset, .unset, .unset, .unset, .unset] [(.long w28)])) t := by
    intro t kt
    refine XS.lstore X0.here hx rfl (hb hby at_41) rfl (l' := #[.val (.long a0q), .second, .val (.int a1r), .val (.int a2f), .val (.long (a0q >>> ((10 : Int32) &&& 0x3f).toInt64)), .second, .val (.int w17), .val (.long w28), .second, .unset, .unset, .unset, .unset]) rfl ?_
    show Steps p.tables e below (s₁.setTop (mkF m 43 #[.val (.long a0q), .second, .val (.int a1r), .val (.int a2f), .val (.long (a0q >>> ((10 : Int32) &&& 0x3f).toInt64)), .second, .val (.int w17), .val (.long w28), .second, .unset, .unset, .unset, .unset] [])) t
    refine XS.lload X0.here hx rfl (hb hby at_43) rfl ?_
    show Steps p.tables e below (s₁.setTop (mkF m 45 #[.val (.long a0q), .second, .val (.int a1r), .val (.int a2f), .val (.long (a0q >>> ((10 : Int32) &&& 0x3f).toInt64)), .second, .val (.int w17), .val (.long w28), .second, .unset, .unset, .unset, .unset] [(.long (a0q >>> ((10 : Int32) &&& 0x3f).toInt64))])) t
    refine X0.ldc2Long hx hown (mvT hZ (hw _ (List.mem_of_getElem? (i := 1) rfl))) (g := (mkF m 45 #[.val (.long a0q), .second, .val (.int a1r), .val (.int a2f), .val (.long (a0q >>> ((10 : Int32) &&& 0x3f).toInt64)), .second, .val (.int w17), .val (.long w28), .second, .unset, .unset, .unset, .unset] [(.long (a0q >>> ((10 : Int32) &&& 0x3f).toInt64))])) rfl (hb hby at_45) _ ?_
    show Steps p.tables e below (s₁.setTop (mkF m 48 #[.val (.long a0q), .second, .val (.int a1r), .val (.int a2f), .val (.long (a0q >>> ((10 : Int32) &&& 0x3f).toInt64)), .second, .val (.int w17), .val (.long w28), .second, .unset, .unset, .unset, .unset] [(.long (1000 : Int64)), (.long (a0q >>> ((10 : Int32) &&& 0x3f).toInt64))])) t
    refine XS.lmul X0.here hx rfl (hb hby at_48) rfl ?_
    show Steps p.tables e below (s₁.setTop (mkF m 49 #[.val (.long a0q), .second, .val (.int a1r), .val (.int a2f), .val (.long (a0q >>> ((10 : Int32) &&& 0x3f).toInt64)), .second, .val (.int w17), .val (.long w28), .second, .unset, .unset, .unset, .unset] [(.long ((a0q >>> ((10 : Int32) &&& 0x3f).toInt64) * (1000 : Int64)))])) t
    refine XS.lload X0.here hx rfl (hb hby at_49) rfl ?_
    show Steps p.tables e below (s₁.setTop (mkF m 51 #[.val (.long a0q), .second, .val (.int a1r), .val (.int a2f), .val (.long (a0q >>> ((10 : Int32) &&& 0x3f).toInt64)), .second, .val (.int w17), .val (.long w28), .second, .unset, .unset, .unset, .unset] [(.long w28), (.long ((a0q >>> ((10 : Int32) &&& 0x3f).toInt64) * (1000 : Int64)))])) t
    refine XS.ladd X0.here hx rfl (hb hby at_51) rfl ?_
    show Steps p.tables e below (s₁.setTop (mkF m 52 #[.val (.long a0q), .second, .val (.int a1r), .val (.int a2f), .val (.long (a0q >>> ((10 : Int32) &&& 0x3f).toInt64)), .second, .val (.int w17), .val (.long w28), .second, .unset, .unset, .unset, .unset] [(.long (((a0q >>> ((10 : Int32) &&& 0x3f).toInt64) * (1000 : Int64)) + w28))])) t
    refine XS.lstore X0.here hx rfl (hb hby at_52) rfl (l' := #[.val (.long a0q), .second, .val (.int a1r), .val (.int a2f), .val (.long (a0q >>> ((10 : Int32) &&& 0x3f).toInt64)), .second, .val (.int w17), .val (.long w28), .second, .val (.long (((a0q >>> ((10 : Int32) &&& 0x3f).toInt64) * (1000 : Int64)) + w28)), .second, .unset, .unset]) rfl ?_
    show Steps p.tables e below (s₁.setTop (mkF m 54 #[.val (.long a0q), .second, .val (.int a1r), .val (.int a2f), .val (.long (a0q >>> ((10 : Int32) &&& 0x3f).toInt64)), .second, .val (.int w17), .val (.long w28), .second, .val (.long (((a0q >>> ((10 : Int32) &&& 0x3f).toInt64) * (1000 : Int64)) + w28)), .second, .unset, .unset] [])) t
    refine XS.lload X0.here hx rfl (hb hby at_54) rfl ?_
    show Steps p.tables e below (s₁.setTop (mkF m 56 #[.val (.long a0q), .second, .val (.int a1r), .val (.int a2f), .val (.long (a0q >>> ((10 : Int32) &&& 0x3f).toInt64)), .second, .val (.int w17), .val (.long w28), .second, .val (.long (((a0q >>> ((10 : Int32) &&& 0x3f).toInt64) * (1000 : Int64)) + w28)), .second, .unset, .unset] [(.long w28)])) t
    refine XS.lconst X0.here hx rfl (hb hby at_56) ?_
    show Steps p.tables e below (s₁.setTop (mkF m 57 #[.val (.long a0q), .second, .val (.int a1r), .val (.int a2f), .val (.long (a0q >>> ((10 : Int32) &&& 0x3f).toInt64)), .second, .val (.int w17), .val (.long w28), .second, .val (.long (((a0q >>> ((10 : Int32) &&& 0x3f).toInt64) * (1000 : Int64)) + w28)), .second, .unset, .unset] [(.long (0 : Int64)), (.long w28)])) t
    refine XS.lcmp X0.here hx rfl (hb hby at_57) rfl ?_
    exact kt
  obtain ⟨w39, hw39, j45⟩ : ∃ (w39 : Int64), w39 = (if w28 = (0 : Int64) then (a0q >>> ((10 : Int32) &&& 0x3f).toInt64) else (1 : Int64)) ∧ ∀ t, Steps p.tables e below (s₁.setTop (mkF m 67 #[.val (.long a0q), .second, .val (.int a1r), .val (.int a2f), .val (.long (a0q >>> ((10 : Int32) &&& 0x3f).toInt64)), .second, .val (.int w17), .val (.long w28), .second, .val (.long (((a0q >>> ((10 : Int32) &&& 0x3f).toInt64) * (1000 : Int64)) + w28)), .second, .unset, .unset] [(.long w39)])) t → Steps p.tables e below (s₁.setTop (mkF m 58 #[.val (.long a0q), .second, .val (.int a1r), .val (.int a2f), .val (.long (a0q >>> ((10 : Int32) &&& 0x3f).toInt64)), .second, .val (.int w17), .val (.long w28), .second, .val (.long (((a0q >>> ((10 : Int32) &&& 0x3f).toInt64) * (1000 : Int64)) + w28)), .second, .unset, .unset] [(.int (lcmpW w28 (0 : Int64)))])) t := by
    by_cases c36 : w28 = (0 : Int64)
    ·
      have s38 : ∀ t, Steps p.tables e below (s₁.setTop (mkF m 67 #[.val (.long a0q), .second, .val (.int a1r), .val (.int a2f), .val (.long (a0q >>> ((10 : Int32) &&& 0x3f).toInt64)), .second, .val (.int w17), .val (.long w28), .second, .val (.long (((a0q >>> ((10 : Int32) &&& 0x3f).toInt64) * (1000 : Int64)) + w28)), .second, .unset, .unset] [(.long (a0q >>> ((10 : Int32) &&& 0x3f).toInt64))])) t → Steps p.tables e below (s₁.setTop (mkF m 58 #[.val (.long a0q), .second, .val (.int a1r), .val (.int a2f), .val (.long (a0q >>> ((10 : Int32) &&& 0x3f).toInt64)), .second, .val (.int w17), .val (.long w28), .second, .val (.long (((a0q >>> ((10 : Int32) &&& 0x3f).toInt64) * (1000 : Int64)) + w28)), .second, .unset, .unset] [(.int (lcmpW w28 (0 : Int64)))])) t := by
        intro t kt
        refine XS.ifNo X0.here hx rfl (hb hby at_58) rfl ((if0 _ _).trans (teq ((lw_eq _ _).mpr c36)).2) ?_
        show Steps p.tables e below (s₁.setTop (mkF m 61 #[.val (.long a0q), .second, .val (.int a1r), .val (.int a2f), .val (.long (a0q >>> ((10 : Int32) &&& 0x3f).toInt64)), .second, .val (.int w17), .val (.long w28), .second, .val (.long (((a0q >>> ((10 : Int32) &&& 0x3f).toInt64) * (1000 : Int64)) + w28)), .second, .unset, .unset] [])) t
        refine XS.lload X0.here hx rfl (hb hby at_61) rfl ?_
        show Steps p.tables e below (s₁.setTop (mkF m 63 #[.val (.long a0q), .second, .val (.int a1r), .val (.int a2f), .val (.long (a0q >>> ((10 : Int32) &&& 0x3f).toInt64)), .second, .val (.int w17), .val (.long w28), .second, .val (.long (((a0q >>> ((10 : Int32) &&& 0x3f).toInt64) * (1000 : Int64)) + w28)), .second, .unset, .unset] [(.long (a0q >>> ((10 : Int32) &&& 0x3f).toInt64))])) t
        refine XS.goto X0.here hx rfl (pc0 := 63) (pc' := 67) rfl (hb hby at_63) (by decide) (by decide) ?_
        exact kt
      exact ⟨(a0q >>> ((10 : Int32) &&& 0x3f).toInt64), (if_pos c36).symm, fun t kt => s38 _ (kt)⟩
    ·
      have s37 : ∀ t, Steps p.tables e below (s₁.setTop (mkF m 67 #[.val (.long a0q), .second, .val (.int a1r), .val (.int a2f), .val (.long (a0q >>> ((10 : Int32) &&& 0x3f).toInt64)), .second, .val (.int w17), .val (.long w28), .second, .val (.long (((a0q >>> ((10 : Int32) &&& 0x3f).toInt64) * (1000 : Int64)) + w28)), .second, .unset, .unset] [(.long (1 : Int64))])) t → Steps p.tables e below (s₁.setTop (mkF m 58 #[.val (.long a0q), .second, .val (.int a1r), .val (.int a2f), .val (.long (a0q >>> ((10 : Int32) &&& 0x3f).toInt64)), .second, .val (.int w17), .val (.long w28), .second, .val (.long (((a0q >>> ((10 : Int32) &&& 0x3f).toInt64) * (1000 : Int64)) + w28)), .second, .unset, .unset] [(.int (lcmpW w28 (0 : Int64)))])) t := by
        intro t kt
        refine XS.ifYes X0.here hx rfl (pc0 := 58) (pc' := 66) rfl (hb hby at_58) rfl ((if0 _ _).trans (feq (mt (lw_eq _ _).mp c36)).2) (by decide) (by decide) ?_
        show Steps p.tables e below (s₁.setTop (mkF m 66 #[.val (.long a0q), .second, .val (.int a1r), .val (.int a2f), .val (.long (a0q >>> ((10 : Int32) &&& 0x3f).toInt64)), .second, .val (.int w17), .val (.long w28), .second, .val (.long (((a0q >>> ((10 : Int32) &&& 0x3f).toInt64) * (1000 : Int64)) + w28)), .second, .unset, .unset] [])) t
        refine XS.lconst X0.here hx rfl (hb hby at_66) ?_
        exact kt
      exact ⟨(1 : Int64), (if_neg c36).symm, fun t kt => s37 _ (kt)⟩
  have s46 : ∀ t, Steps p.tables e below (s₁.setTop (mkF m 71 #[.val (.long a0q), .second, .val (.int a1r), .val (.int a2f), .val (.long (a0q >>> ((10 : Int32) &&& 0x3f).toInt64)), .second, .val (.int w17), .val (.long w28), .second, .val (.long (((a0q >>> ((10 : Int32) &&& 0x3f).toInt64) * (1000 : Int64)) + w28)), .second, .val (.long w39), .second] [(.long (((a0q >>> ((10 : Int32) &&& 0x3f).toInt64) * (1000 : Int64)) + w28))])) t → Steps p.tables e below (s₁.setTop (mkF m 67 #[.val (.long a0q), .second, .val (.int a1r), .val (.int a2f), .val (.long (a0q >>> ((10 : Int32) &&& 0x3f).toInt64)), .second, .val (.int w17), .val (.long w28), .second, .val (.long (((a0q >>> ((10 : Int32) &&& 0x3f).toInt64) * (1000 : Int64)) + w28)), .second, .unset, .unset] [(.long w39)])) t := by
    intro t kt
    refine XS.lstore X0.here hx rfl (hb hby at_67) rfl (l' := #[.val (.long a0q), .second, .val (.int a1r), .val (.int a2f), .val (.long (a0q >>> ((10 : Int32) &&& 0x3f).toInt64)), .second, .val (.int w17), .val (.long w28), .second, .val (.long (((a0q >>> ((10 : Int32) &&& 0x3f).toInt64) * (1000 : Int64)) + w28)), .second, .val (.long w39), .second]) rfl ?_
    show Steps p.tables e below (s₁.setTop (mkF m 69 #[.val (.long a0q), .second, .val (.int a1r), .val (.int a2f), .val (.long (a0q >>> ((10 : Int32) &&& 0x3f).toInt64)), .second, .val (.int w17), .val (.long w28), .second, .val (.long (((a0q >>> ((10 : Int32) &&& 0x3f).toInt64) * (1000 : Int64)) + w28)), .second, .val (.long w39), .second] [])) t
    refine XS.lload X0.here hx rfl (hb hby at_69) rfl ?_
    exact kt
  obtain ⟨_, _, ⟨T47, L47, k47, n47⟩, -, X47, ⟨Lc47, hQ47, l47, y47, z47⟩, st47⟩ := Jvm.LawKit.callS X0 hx (y := (⟨"com/example/berth/berth/model/Gpus", "count", "(J)J"⟩ : MethodName)) hown (mvT hZ (hw _ (List.mem_of_getElem? (i := 2) rfl))) (mvT hZ (hw _ (List.mem_of_getElem? (i := 3) rfl))) (mvT hZ (hw _ (List.mem_of_getElem? (i := 4) rfl))) (mvT hZ (hw _ (List.mem_of_getElem? (i := 5) rfl))) (by decide) (backOf (W := 0) (rm1 l Z a0 hw [] (((a0q >>> ((10 : Int32) &&& 0x3f).toInt64) * (1000 : Int64)) + w28) h0 n0 Z0 ) hZ (hw _ (List.mem_of_getElem? (i := 5) rfl)) (hw _ (List.mem_of_getElem? (i := 4) rfl)) (by decide) (by decide)) (g := (mkF m 71 #[.val (.long a0q), .second, .val (.int a1r), .val (.int a2f), .val (.long (a0q >>> ((10 : Int32) &&& 0x3f).toInt64)), .second, .val (.int w17), .val (.long w28), .second, .val (.long (((a0q >>> ((10 : Int32) &&& 0x3f).toInt64) * (1000 : Int64)) + w28)), .second, .val (.long w39), .second] [(.long (((a0q >>> ((10 : Int32) &&& 0x3f).toInt64) * (1000 : Int64)) + w28))])) rfl (by rw [hml]; rfl) (argsL := [(.long (((a0q >>> ((10 : Int32) &&& 0x3f).toInt64) * (1000 : Int64)) + w28))]) (rest := []) (lenOf pd_oJcJ rfl) rfl (by show 2 * 0 + _ ≤ _; exact Nat.le_of_eq rfl) (hb hby at_71) (fun _ _ => ⟨rfl, e0, (by decide : 0 + 0 ≤ _), (by decide : 0 + 0 ≤ _)⟩)
  dsimp only [Pt.U, Pt.locs, Pt.cells, Pt.slots] at X47 l47 y47 z47 st47 hQ47
  subst l47 y47 z47
  obtain ⟨rfl, N47q, e47q⟩ := hQ47
  have N47 := Fr.app N0 N47q
  have s48 : ∀ t, Steps p.tables e below (T47.setTop (mkF m 77 #[.val (.long a0q), .second, .val (.int a1r), .val (.int a2f), .val (.long (a0q >>> ((10 : Int32) &&& 0x3f).toInt64)), .second, .val (.int w17), .val (.long w28), .second, .val (.long (((a0q >>> ((10 : Int32) &&& 0x3f).toInt64) * (1000 : Int64)) + w28)), .second, .val (.long w39), .second] [(.int (lcmpW (gcount (((a0q >>> ((10 : Int32) &&& 0x3f).toInt64) * (1000 : Int64)) + w28)) w39))])) t → Steps p.tables e below (T47.setTop (mkF m 74 #[.val (.long a0q), .second, .val (.int a1r), .val (.int a2f), .val (.long (a0q >>> ((10 : Int32) &&& 0x3f).toInt64)), .second, .val (.int w17), .val (.long w28), .second, .val (.long (((a0q >>> ((10 : Int32) &&& 0x3f).toInt64) * (1000 : Int64)) + w28)), .second, .val (.long w39), .second] [(.long (gcount (((a0q >>> ((10 : Int32) &&& 0x3f).toInt64) * (1000 : Int64)) + w28)))])) t := by
    intro t kt
    refine XS.lload X47.here hx rfl (hb hby at_74) rfl ?_
    show Steps p.tables e below (T47.setTop (mkF m 76 #[.val (.long a0q), .second, .val (.int a1r), .val (.int a2f), .val (.long (a0q >>> ((10 : Int32) &&& 0x3f).toInt64)), .second, .val (.int w17), .val (.long w28), .second, .val (.long (((a0q >>> ((10 : Int32) &&& 0x3f).toInt64) * (1000 : Int64)) + w28)), .second, .val (.long w39), .second] [(.long w39), (.long (gcount (((a0q >>> ((10 : Int32) &&& 0x3f).toInt64) * (1000 : Int64)) + w28)))])) t
    refine XS.lcmp X47.here hx rfl (hb hby at_76) rfl ?_
    exact kt
  have hfin : (gcount (((a0q >>> ((10 : Int32) &&& 0x3f).toInt64) * (1000 : Int64)) + w28)) = w39 := own_plain _ _ _ _ _ _ _ rfl hw17 hw28 hw39
  have s49 : ∀ t, Steps p.tables e below (T47.setTop (mkF m 85 #[.val (.long a0q), .second, .val (.int a1r), .val (.int a2f), .val (.long (a0q >>> ((10 : Int32) &&& 0x3f).toInt64)), .second, .val (.int w17), .val (.long w28), .second, .val (.long (((a0q >>> ((10 : Int32) &&& 0x3f).toInt64) * (1000 : Int64)) + w28)), .second, .val (.long w39), .second] [(.int (1 : Int32))])) t → Steps p.tables e below (T47.setTop (mkF m 77 #[.val (.long a0q), .second, .val (.int a1r), .val (.int a2f), .val (.long (a0q >>> ((10 : Int32) &&& 0x3f).toInt64)), .second, .val (.int w17), .val (.long w28), .second, .val (.long (((a0q >>> ((10 : Int32) &&& 0x3f).toInt64) * (1000 : Int64)) + w28)), .second, .val (.long w39), .second] [(.int (lcmpW (gcount (((a0q >>> ((10 : Int32) &&& 0x3f).toInt64) * (1000 : Int64)) + w28)) w39))])) t := by
    intro t kt
    refine XS.ifNo X47.here hx rfl (hb hby at_77) rfl ((if0 _ _).trans (teq ((lw_eq _ _).mpr hfin)).2) ?_
    show Steps p.tables e below (T47.setTop (mkF m 80 #[.val (.long a0q), .second, .val (.int a1r), .val (.int a2f), .val (.long (a0q >>> ((10 : Int32) &&& 0x3f).toInt64)), .second, .val (.int w17), .val (.long w28), .second, .val (.long (((a0q >>> ((10 : Int32) &&& 0x3f).toInt64) * (1000 : Int64)) + w28)), .second, .val (.long w39), .second] [])) t
    refine XS.iconst X47.here hx rfl (hb hby at_80) ?_
    show Steps p.tables e below (T47.setTop (mkF m 81 #[.val (.long a0q), .second, .val (.int a1r), .val (.int a2f), .val (.long (a0q >>> ((10 : Int32) &&& 0x3f).toInt64)), .second, .val (.int w17), .val (.long w28), .second, .val (.long (((a0q >>> ((10 : Int32) &&& 0x3f).toInt64) * (1000 : Int64)) + w28)), .second, .val (.long w39), .second] [(.int (1 : Int32))])) t
    refine XS.goto X47.here hx rfl (pc0 := 81) (pc' := 85) rfl (hb hby at_81) (by decide) (by decide) ?_
    exact kt
  obtain ⟨fs, hr, hrun, hended, hW, hsame⟩ := X47.leave (v := some (.int (1 : Int32))) (fun h => by rw [Bd.returns] at h; cases h)
  refine ⟨_, _, pre0 _ (s13 _ (j23 _ (s24 _ (j34 _ (s35 _ (j45 _ (s46 _ (st47 _ (s48 _ (s49 _ (?_))))))))))), hrun, hended, _, _, rfl, ?_, ⟨_, rfl⟩, hW, hsame.mono (by decide) (by decide)⟩
  · show Steps p.tables e below (T47.setTop (mkF m 85 #[.val (.long a0q), .second, .val (.int a1r), .val (.int a2f), .val (.long (a0q >>> ((10 : Int32) &&& 0x3f).toInt64)), .second, .val (.int w17), .val (.long w28), .second, .val (.long (((a0q >>> ((10 : Int32) &&& 0x3f).toInt64) * (1000 : Int64)) + w28)), .second, .val (.long w39), .second] [(.int (1 : Int32))])) _
    exact retN X47 hx (t := .boolean) Bd.returns (by simp) (hb hby at_85) hr
  · show Q0 Z a0q a1r a2f h0 n0 _ T47.heap _
    rw [e47q]
    exact ⟨rfl, N47⟩
set_option maxRecDepth 65536 in
set_option maxHeartbeats 40000000 in
theorem comes_1 {Post : Tables → Env → Array Value → State → Outcome → State → Prop} (hpost : ∀ tb e args s v u, (limb_1_1.after args s (.returned v) u = true ∧ limb_1_2.after args s (.returned v) u = true ∧ True) → FrameEnd s (.returned v) u (Jvm.fieldLocs frame_1_writes args s ++ Jvm.arrayLocs frame_1_arrays args s ++ Jvm.staticLocs frame_1_statics s) 0 0 → Post tb e args s (.returned v) u) :
    ArmFor flags0 classFile x code maxLocals ret World_1 tables_1 room_1 Calls_1 rest_1 Pre_1 Post := by
  intro l hfl _ _ p e ha hc hk s m args below hf hA hF happ hP
  obtain ⟨hcalls, hrest, hpre⟩ := hP
  obtain ⟨-, -, -, hnamed, -, -, -, hat⟩ := (Spec.applies_iff hf).mp happ
  obtain ⟨hg, hn⟩ := and_e (Cond.before_iff.mp (show (Jvm.Cond.and given_1 narrow_1).before args s = true from hpre))
  obtain ⟨ha0, hb0⟩ := and_e hg
  obtain ⟨ha1, hb1⟩ := and_e hb0
  obtain ⟨ha2, hb2⟩ := and_e hb1
  obtain ⟨w0, w1, w2, rfl⟩ : ∃ w0 w1 w2 : Value, args = #[w0, w1, w2] := by
    have hs : args.size = 3 := by simpa [Cond.value, given_1] using ha0
    obtain ⟨L⟩ := args
    match L, hs with
    | [w0, w1, w2], _ => exact ⟨w0, w1, w2, rfl⟩
  have hw := fun d (hd : d ∈ tables_1) => atoms_spec (ws := Jvm.Cond.code x code maxLocals ret :: tables_1) hat d (List.mem_cons_of_mem _ hd)
  obtain ⟨i0, ei0⟩ := isL_v ha1
  obtain rfl : w0 = (.long i0) := Option.some.inj ei0
  obtain ⟨i1, ei1⟩ := is_v ha2
  obtain rfl : w1 = (.int i1) := Option.some.inj ei1
  obtain ⟨i2, ei2⟩ := is_v hb2
  obtain rfl : w2 = (.int i2) := Option.some.inj ei2
  obtain ⟨n, o, h1, h2, h3, _, L, rfl, ⟨rfl, N⟩, hq⟩ := rm0 l s _ hw tables_1 i0 i1 i2 s.heap s.heap.size (Nat.le_refl _)  p e ha hc hk s m _ below hf ((Spec.applies_iff_loose hf).mp happ).1 ⟨rfl, State.Warmed39.refl s, rfl⟩ trivial
  refine ⟨n, _, h1, h2, h3, hpost _ _ _ _ _ _ ⟨Cond.after_iff.mpr rfl, Cond.after_iff.mpr (eq_i res_at (Term.int_eval (1)) rfl), trivial⟩ ⟨hq.1, hq.2.1, (hq.2.2.sift fun y hy => Or.inr (N y hy)).mono (by decide) (by decide)⟩⟩
theorem main_1_1 : Claimed_1_1 := comes_1 fun _ _ _ _ _ _ h hF => ⟨h.1, hF⟩
theorem main_1_2 : Claimed_1_2 := comes_1 fun _ _ _ _ _ _ h hF => ⟨h.2.1, hF⟩
end Jvm.Pilot.@@N@@
namespace Jvm.Pilot.@@N@@
open Jvm Jvm.ClassFile Sem Op Lib Jvm.Free Jvm.Stand Jvm.Pilot.@@N@@.Jvm.D
/-! MADE BY PROGRAM (witnessworld.py) out of the Statement's table words and the real class files: 9 classes; the members and pool entries that the words name. The judged class is class 1, her method 1. -/
namespace start1
open Jvm.ClassFile
def u (s : String) : CpInfo := .utf8 (stringToUtf16 s)
/-- a pool by its gaps: so many unusable entries, then the entry; so many at the end -/
def gap : Nat → List CpInfo → List CpInfo
  | 0, r => r
  | n + 1, r => .unusable :: gap n r
def poolList (es : List (Nat × CpInfo)) (last : Nat) : List CpInfo := es.foldr (fun e r => gap e.1 (e.2 :: r)) (gap last [])
def pool (es : List (Nat × CpInfo)) (last : Nat) : Array CpInfo := ⟨poolList es last⟩
def fileOf (pool : Array CpInfo) (this : Nat) (attrs : Array Attribute := #[]) (ms : Array MethodInfo := #[]) (fl : Nat := 33) (sup : Nat := 0) (ifs : Array Nat := #[]) (fds : Array FieldInfo := #[]) : ClassFile where
  minorVersion := 0
  majorVersion := 65
  constantPool := pool
  accessFlags := fl
  thisClass := this
  superClass := sup
  interfaces := ifs
  fields := fds
  methods := ms
  attributes := attrs
def plain (name : String) (sup : Option ClassId) : Class where
  name := name
  kind := .ordinary
  loader := none
  accessFlags := 33
  super := sup
  interfaces := #[]
  cf := none
  fields := #[]
  methods := #[]
  instanceTypes := #[]
  staticTypes := #[]
  resolved := #[]
  callSites := []
  init := .initialized
  statics := none
  mirror := none

def pool0 : Array CpInfo := pool [(5, u "<init>"), (0, u "()V"), (1, .class_ 10), (1, u "java/lang/Object")] 113

def k0m0 : Method := { name := "<init>", desc := "()V", sig := { parameters := [], returnType := none }, accessFlags := 1, code := none }
/-- java/lang/Object -/
def k0 : Class := { plain "java/lang/Object" none with
  accessFlags := 33
  interfaces := #[]
  cf := some (fileOf pool0 8 #[] #[{ accessFlags := 1, nameIndex := 5, descriptorIndex := 6, attributes := #[] }] 33 0 #[] #[])
  fields := #[]
  methods := #[k0m0]
  instanceTypes := #[]
  staticTypes := #[]
  resolved := Array.replicate 124 none
  statics := none }

def pool1 : Array CpInfo := pool [(2, .class_ 4), (1, u "java/lang/Object"), (0, u "<init>"), (0, u "()V"), (0, .integer 2147483647), (0, .long 1000), (1, .methodref 11 12), (0, .class_ 13), (0, .nameAndType 14 15), (0, u "com/example/berth/berth/model/Gpus"), (0, u "count"), (0, u "(J)J"), (0, .class_ 17), (0, u "com/example/berth/berth/model/GpusCountPinLaw"), (2, u "law"), (0, u "(JII)Z")] 3

def k1m0 : Method := { name := "<init>", desc := "()V", sig := { parameters := [], returnType := none }, accessFlags := 2, code := none }
def k1c1 : Code := { maxStack := 4, maxLocals := 13, code := code, exceptionTable := #[], attributes := #[] }
def k1m1 : Method := { name := "law", desc := "(JII)Z", sig := { parameters := [.long, .int, .int], returnType := some .boolean }, accessFlags := 9, code := some k1c1 }
/-- com/example/berth/berth/model/GpusCountPinLaw -/
def k1 : Class := { plain "com/example/berth/berth/model/GpusCountPinLaw" (some 0) with
  accessFlags := 49
  interfaces := #[]
  cf := some (fileOf pool1 16 #[] #[{ accessFlags := 2, nameIndex := 5, descriptorIndex := 6, attributes := #[] }, { accessFlags := 9, nameIndex := 20, descriptorIndex := 21, attributes := #[] }] 49 2 #[] #[])
  fields := #[]
  methods := #[k1m0, k1m1]
  instanceTypes := #[]
  staticTypes := #[]
  resolved := Array.replicate 25 none
  statics := none }

def pool2 : Array CpInfo := pool [(2, .class_ 4), (1, u "java/lang/Object"), (0, u "<init>"), (0, u "()V"), (0, .class_ 8), (0, u "com/example/berth/berth/model/Gpus"), (0, .long 1000), (4, u "(J)J"), (12, u "count"), (3, u "RESOURCE"), (0, u "Ljava/lang/String;"), (3, u "SIZE"), (0, u "J")] 7

def k2m0 : Method := { name := "<init>", desc := "()V", sig := { parameters := [], returnType := none }, accessFlags := 2, code := none }
def k2c1 : Code := { maxStack := 4, maxLocals := 4, code := prog_13_method_2_code, exceptionTable := #[], attributes := #[] }
def k2m1 : Method := { name := "count", desc := "(J)J", sig := { parameters := [.long], returnType := some .long }, accessFlags := 9, code := some k2c1 }
/-- com/example/berth/berth/model/Gpus -/
def k2 : Class := { plain "com/example/berth/berth/model/Gpus" (some 0) with
  accessFlags := 49
  interfaces := #[]
  cf := some (fileOf pool2 7 #[] #[{ accessFlags := 2, nameIndex := 5, descriptorIndex := 6, attributes := #[] }, { accessFlags := 9, nameIndex := 27, descriptorIndex := 14, attributes := #[] }] 49 2 #[] #[{ accessFlags := 25, nameIndex := 31, descriptorIndex := 32, attributes := #[] }, { accessFlags := 25, nameIndex := 36, descriptorIndex := 37, attributes := #[] }])
  fields := #[{ name := "RESOURCE", type := (.object "java/lang/String"), accessFlags := 25, slot := 0, constantValue := 0 }, { name := "SIZE", type := .long, accessFlags := 25, slot := 1, constantValue := 0 }]
  methods := #[k2m0, k2m1]
  instanceTypes := #[]
  staticTypes := #[(.object "java/lang/String"), .long]
  resolved := Array.replicate 45 none
  statics := none }

def pool3 : Array CpInfo := pool [(1, u "java/lang/Cloneable"), (0, .class_ 1), (0, u "java/lang/Object"), (0, .class_ 3)] 3

/-- java/lang/Cloneable -/
def k3 : Class := { plain "java/lang/Cloneable" (some 0) with
  accessFlags := 1537
  interfaces := #[]
  cf := some (fileOf pool3 2 #[] #[] 1537 4 #[] #[])
  fields := #[]
  methods := #[]
  instanceTypes := #[]
  staticTypes := #[]
  resolved := Array.replicate 8 none
  statics := none }

def pool4 : Array CpInfo := pool [(1, u "java/io/Serializable"), (0, .class_ 1), (0, u "java/lang/Object"), (0, .class_ 3)] 3

/-- java/io/Serializable -/
def k4 : Class := { plain "java/io/Serializable" (some 0) with
  accessFlags := 1537
  interfaces := #[]
  cf := some (fileOf pool4 2 #[] #[] 1537 4 #[] #[])
  fields := #[]
  methods := #[]
  instanceTypes := #[]
  staticTypes := #[]
  resolved := Array.replicate 8 none
  statics := none }

/-- the primitive byte -/
def k5 : Class := { plain "byte" none with kind := .primitive 'B', accessFlags := 0x411 }
/-- [B -/
def k6 : Class := { plain "[B" (some 0) with kind := .array 5 .byte, interfaces := #[3, 4], accessFlags := 1041 }

/-- the primitive int -/
def k7 : Class := { plain "int" none with kind := .primitive 'I', accessFlags := 0x411 }
/-- [I -/
def k8 : Class := { plain "[I" (some 0) with kind := .array 7 .int, interfaces := #[3, 4], accessFlags := 1041 }

def heap : Heap := #[]
def classes : Array Class := #[k0, k1, k2, k3, k4, k5, k6, k7, k8]
def interned : List (Array UInt16 × Addr) := []
def slotsUsed : Nat := 0
def theMethod : MethodId := ⟨1, 1⟩
def args0 : Array Value := #[.long 5000, .int 7, .int 3]
def aboutOver (below : List Frame) : State where
  vm := { classes := classes, interned := interned.toArray }
  heap := heap
  slotsUsed := slotsUsed
  threads := #[{ frames := .invoking theMethod args0 :: below }]
def below0 : List Frame := [.native { method := ⟨0, 0⟩, args := #[] }]
def about1 : State := aboutOver below0
def p0 : Program := .bare "" "" ""
def e0 : Env := launch0.env 0 0 0
theorem w_frames : about1.frames = Frame.invoking theMethod args0 :: below0 := rfl
set_option maxRecDepth 65536 in
theorem w_args : argsFit about1.vm theMethod args0 = true := by decide +kernel
set_option maxRecDepth 65536 in
theorem w_heap : heapFits about1 = true := by decide +kernel
set_option maxRecDepth 65536 in
theorem w_runnable : about1.curStatus? = some .runnable := by decide +kernel
set_option maxRecDepth 65536 in
theorem w_alone : about1.alone = true := by decide +kernel
set_option maxRecDepth 65536 in
theorem w_named : about1.methodNamed? x = some theMethod := by decide +kernel
set_option maxRecDepth 65536 in
theorem w_hears : about1.hears theMethod below0 = true := by decide +kernel
set_option maxRecDepth 65536 in
theorem w_ripe : about1.ripe theMethod args0 below0 = true := by decide +kernel
theorem w_running : about1.status = .running := rfl
set_option maxRecDepth 65536 in
theorem w_room : about1.hasRoom e0.platform room_1 = true :=
  launch0.hasRoom_least _ room_1 (by decide +kernel) (by decide +kernel) (by decide +kernel) (by decide +kernel) (by decide +kernel) (by decide +kernel)
theorem allAtoms_all (ts : List Jvm.Cond) (a : Array Jvm.Value) (st : Jvm.State) : (allAtoms ts).before a st = ts.all (fun c => c.before a st) := by
  induction ts with
  | nil => rfl
  | cons c t ih =>
    show (Jvm.Cond.and c (allAtoms t)).before a st = _
    rw [Jvm.Cond.before_and, ih, List.all_cons]
def words1 : List Jvm.Cond := Jvm.Cond.code x code maxLocals ret :: tables_1
/-- a 'code' word, met by the world's own term for the bytes: nothing is compared byte by byte -/
theorem code_word {y : MethodName} {bytes : ByteArray} {mx : Nat} {rt : Option FieldType} {a : Array Value} {s : State} {m : MethodId} {meth : Method} {c : Code} (h1 : s.methodNamed? y = some m) (h2 : s.vm.method? m = some meth) (h3 : meth.code = some c) (h4 : c.code = bytes)
    (h5 : (c.maxLocals == mx && c.exceptionTable.isEmpty && decide (c.maxStack ≤ mostOperands) && decide (meth.sig.returnType = rt) && !meth.locks && decide (parseMethodDescriptor y.desc = some meth.sig)) = true) : (Jvm.Cond.code y bytes mx rt).before a s = true := by
  simp only [Bool.and_eq_true, beq_iff_eq, Bool.not_eq_true', decide_eq_true_eq] at h5
  obtain ⟨⟨⟨⟨⟨g1, g2⟩, g3⟩, g4⟩, g5⟩, g6⟩ := h5
  simp [Cond.before, Cond.holds, Cond.value, h1, h2, h3, h4, g1, g2, g3, g4, g5, g6]
def isCode : Jvm.Cond → Bool
  | .code _ _ _ _ => true
  | _ => false
theorem all_split {L : List Jvm.Cond} {P : Jvm.Cond → Bool} (h1 : L.all (fun c => isCode c || P c) = true) (h2 : ∀ c ∈ L.filter isCode, P c = true) : L.all P = true := by
  refine List.all_eq_true.mpr fun c hc => ?_
  have h := List.all_eq_true.mp h1 c hc
  rcases Bool.eq_false_or_eq_true (isCode c) with hi | hi
  · exact h2 c (List.mem_filter.mpr ⟨hc, hi⟩)
  · simpa [hi] using h
set_option maxRecDepth 65536 in
theorem w_c0 : (Jvm.Cond.code x code maxLocals ret).before args0 about1 = true := code_word (m := ⟨1, 1⟩) (meth := k1m1) (c := k1c1) (by decide +kernel) rfl rfl rfl (by decide +kernel)
set_option maxRecDepth 65536 in
theorem w_c1 : (Jvm.Cond.code ({ cls := "com/example/berth/berth/model/Gpus", name := "count", desc := "(J)J" } : Jvm.MethodName) prog_13_method_2_code (4 : Nat) (Option.some Jvm.ClassFile.FieldType.long)).before args0 about1 = true := code_word (m := ⟨2, 1⟩) (meth := k2m1) (c := k2c1) (by decide +kernel) rfl rfl rfl (by decide +kernel)
def codes1 : List Jvm.Cond := [Jvm.Cond.code x code maxLocals ret, Jvm.Cond.code ({ cls := "com/example/berth/berth/model/Gpus", name := "count", desc := "(J)J" } : Jvm.MethodName) prog_13_method_2_code (4 : Nat) (Option.some Jvm.ClassFile.FieldType.long)]
set_option maxRecDepth 65536 in
theorem codes_eq : words1.filter isCode = codes1 := rfl
theorem w_codes : ∀ c ∈ words1.filter isCode, c.before args0 about1 = true := by
  rw [codes_eq]
  intro c hc
  simp only [codes1, List.mem_cons, List.not_mem_nil, or_false] at hc
  rcases hc with rfl | rfl
  · exact w_c0
  · exact w_c1
set_option maxRecDepth 65536 in
theorem w_t1 : words1.all (fun c => isCode c || c.before args0 about1) = true := by decide +kernel
theorem w_tables : (allAtoms (Jvm.Cond.code x code maxLocals ret :: tables_1)).before args0 about1 = true := by
  rw [allAtoms_all]
  show words1.all (fun c => c.before args0 about1) = true
  refine all_split ?_ w_codes
  rw [w_t1]
set_option maxRecDepth 65536 in
theorem w_case : (Jvm.Cond.and given_1 narrow_1).before args0 about1 = true := by decide +kernel
theorem w_applies : (headSpec (Jvm.Cond.code x code maxLocals ret :: tables_1) room_1).applies x e0.platform about1 = true :=
  (Spec.applies_iff w_frames).mpr ⟨w_running, w_runnable, w_alone, w_named, w_hears, w_ripe, w_room, w_tables⟩
theorem atStart : AtStart classFile x code maxLocals ret World_1 tables_1 room_1 Calls_1 rest_1 Pre_1 launch0 p0 e0 about1 theMethod args0 below0 :=
  ⟨lists_1, trivial, launch0.admits_env _ _ _, launch0.least_env, fairChoices_fair.cas, fairChoices_fair.clock, w_frames, w_args, w_heap, w_applies, trivial, trivial, w_case⟩
end start1
theorem witness_1 : WitnessClaimed_1 := ⟨start1.p0, start1.e0, start1.about1, start1.theMethod, start1.args0, start1.below0, start1.atStart⟩
end Jvm.Pilot.@@N@@
