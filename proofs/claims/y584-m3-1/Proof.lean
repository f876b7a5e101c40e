import JvmDerived
import JvmDerived.Pilot.@@N@@Statement
import JvmDerived.Pilot.@@N@@Code
set_option linter.unusedVariables false
set_option linter.unusedSimpArgs false

namespace Jvm.RoadKit
open Sem ClassFile Op Lib Jvm.Stand Jvm.Free Jvm.LawKit
section New
variable {p : Program} {l : Launch} {e : Env} {R : Room} {s : State} {m : MethodId} {args : Array Value} {below : List Frame} {meth : Method} {c : Code} {T : State} {locs : List Loc} {cells slots : Nat}
theorem retI (X : Stand p l e R s m args below meth c T locs cells slots) (hx : p.tables.exec = Jvm.exec) {pc : Nat} {Ls : Array Slot} {z : Int32} {rest : List Value} (hret : meth.sig.returnType = some .int) (hd : decode c.code pc = .ok (.ireturn, 1)) {fs : List Frame}
    (hl : ∀ (f : JFrame) (acts : List Action), f.method = m → f.locked = none → f.entered = [] → (doReturn e (T.setTop f) acts (some (.int z))).1 = T.setFrames fs) : Steps p.tables e below (T.setTop (mkF m pc Ls (.int z :: rest))) (T.setFrames fs) := by
  have hm' : T.vm.method? m = some meth := X.method'
  have hn : narrow .int (.int z) = .int z := rfl
  show Steps p.tables e below (T.setTop { method := m, pc := pc, locals := Ls, stack := _ :: rest, locked := none }) _
  jvm_step X.here [X.here.top, hx, hd, hm', hret, hn]
  first | (intro acts; rw [hl _ acts rfl rfl rfl]) | rw [hl _ _ rfl rfl rfl]
  exact Steps.refl _
end New
end Jvm.RoadKit
namespace Jvm.Pilot.@@N@@
open Jvm Jvm.ClassFile Sem Op Lib Jvm.Free Jvm.Stand Jvm.LawKit Jvm.RoadKit Bundle Jvm.Pilot.@@N@@.Jvm.D
def fisShort (u0 : Int64) : Int32 := (if u0 < (0 : Int64) then (if (u0 &&& (-4611686018427387904 : Int64)) = (-9223372036854775808 : Int64) then (1 : Int32) else (0 : Int32)) else (1 : Int32))
def fof (u0 : Int64) (u1 : Int32) : Int64 := ((u0 <<< ((16 : Int32) &&& 0x3f).toInt64) ||| (u1.toInt64))
def fholder (u0 : Int64) : Int64 := ((u0.toUInt64 >>> ((16 : Int32) &&& 0x3f).toInt64.toUInt64).toInt64)
def fmodes (u0 : Int64) : Int32 := ((u0 &&& (65535 : Int64)).toInt32)
def ffits (u0 : Int64) : Int32 := (if (((fholder u0).toUInt64 >>> ((23 : Int32) &&& 0x3f).toInt64.toUInt64).toInt64) = (0 : Int64) then (if (((fmodes u0).toInt64) &&& (-256 : Int64)) = (0 : Int64) then (1 : Int32) else (0 : Int32)) else (0 : Int32))
def fhalf (u0 : Int64) : Int64 := (((fholder u0) <<< ((8 : Int32) &&& 0x3f).toInt64) ||| ((fmodes u0).toInt64))
def fpaired (u0 : Int64) (u1 : Int64) : Int64 := (if (ffits u0) = (0 : Int32) then (-2 : Int64) else (if (ffits u1) = (0 : Int32) then (-2 : Int64) else (((-9223372036854775808 : Int64) ||| ((fhalf u0) <<< ((31 : Int32) &&& 0x3f).toInt64)) ||| (fhalf u1))))
theorem ef_1 (m : MethodId) (x0 : Int64) : entryFrame m #[(.long x0)] 2 = mkF m 0 #[.val (.long x0), .second] [] := by first | (simp [entryFrame, mkF, argsToLocals, Value.category]; done) | rfl
theorem pn_com_example_stern_lock_sternlock_ShortForm : plainName "com/example/stern_lock/sternlock/ShortForm" = true := by first | (simp [plainName, overriddenIn]; done) | decide +kernel
theorem d1_0 : decode prog_37_method_5_code 0 = .ok (.lload_n 0, 1) := by decide +kernel
theorem d1_1 : decode prog_37_method_5_code 1 = .ok (.lconst 0, 1) := by decide +kernel
theorem d1_2 : decode prog_37_method_5_code 2 = .ok (.lcmp, 1) := by decide +kernel
theorem d1_3 : decode prog_37_method_5_code 3 = .ok (.ifCond .ge 15, 3) := by decide +kernel
theorem d1_18 : decode prog_37_method_5_code 18 = .ok (.iconst 1, 1) := by decide +kernel
theorem d1_19 : decode prog_37_method_5_code 19 = .ok (.goto 4, 3) := by decide +kernel
theorem d1_6 : decode prog_37_method_5_code 6 = .ok (.lload_n 0, 1) := by decide +kernel
theorem d1_7 : decode prog_37_method_5_code 7 = .ok (.ldc2_w 13, 3) := by decide +kernel
theorem d1_10 : decode prog_37_method_5_code 10 = .ok (.land, 1) := by decide +kernel
theorem d1_11 : decode prog_37_method_5_code 11 = .ok (.ldc2_w 15, 3) := by decide +kernel
theorem d1_14 : decode prog_37_method_5_code 14 = .ok (.lcmp, 1) := by decide +kernel
theorem d1_15 : decode prog_37_method_5_code 15 = .ok (.ifCond .ne 7, 3) := by decide +kernel
theorem d1_22 : decode prog_37_method_5_code 22 = .ok (.iconst 0, 1) := by decide +kernel
theorem d1_23 : decode prog_37_method_5_code 23 = .ok (.ireturn, 1) := by decide +kernel
theorem ef_2 (m : MethodId) (x0 : Int64) (x1 : Int32) : entryFrame m #[(.long x0), (.int x1)] 3 = mkF m 0 #[.val (.long x0), .second, .val (.int x1)] [] := by first | (simp [entryFrame, mkF, argsToLocals, Value.category]; done) | rfl
theorem d2_0 : decode prog_37_method_2_code 0 = .ok (.lload_n 0, 1) := by decide +kernel
theorem d2_1 : decode prog_37_method_2_code 1 = .ok (.bipush 16, 2) := by decide +kernel
theorem d2_3 : decode prog_37_method_2_code 3 = .ok (.lshl, 1) := by decide +kernel
theorem d2_4 : decode prog_37_method_2_code 4 = .ok (.iload_n 2, 1) := by decide +kernel
theorem d2_5 : decode prog_37_method_2_code 5 = .ok (.i2l, 1) := by decide +kernel
theorem d2_6 : decode prog_37_method_2_code 6 = .ok (.lor, 1) := by decide +kernel
theorem d2_7 : decode prog_37_method_2_code 7 = .ok (.lreturn, 1) := by decide +kernel
theorem ef_3 (m : MethodId) (x0 : Int64) : entryFrame m #[(.long x0)] 2 = mkF m 0 #[.val (.long x0), .second] [] := by first | (simp [entryFrame, mkF, argsToLocals, Value.category]; done) | rfl
theorem d3_0 : decode prog_37_method_3_code 0 = .ok (.lload_n 0, 1) := by decide +kernel
theorem d3_1 : decode prog_37_method_3_code 1 = .ok (.bipush 16, 2) := by decide +kernel
theorem d3_3 : decode prog_37_method_3_code 3 = .ok (.lushr, 1) := by decide +kernel
theorem d3_4 : decode prog_37_method_3_code 4 = .ok (.lreturn, 1) := by decide +kernel
theorem ef_4 (m : MethodId) (x0 : Int64) : entryFrame m #[(.long x0)] 2 = mkF m 0 #[.val (.long x0), .second] [] := by first | (simp [entryFrame, mkF, argsToLocals, Value.category]; done) | rfl
theorem d4_0 : decode prog_37_method_4_code 0 = .ok (.lload_n 0, 1) := by decide +kernel
theorem d4_1 : decode prog_37_method_4_code 1 = .ok (.ldc2_w 11, 3) := by decide +kernel
theorem d4_4 : decode prog_37_method_4_code 4 = .ok (.land, 1) := by decide +kernel
theorem d4_5 : decode prog_37_method_4_code 5 = .ok (.l2i, 1) := by decide +kernel
theorem d4_6 : decode prog_37_method_4_code 6 = .ok (.ireturn, 1) := by decide +kernel
theorem ef_5 (m : MethodId) (x0 : Int64) : entryFrame m #[(.long x0)] 2 = mkF m 0 #[.val (.long x0), .second] [] := by first | (simp [entryFrame, mkF, argsToLocals, Value.category]; done) | rfl
theorem d5_0 : decode prog_37_method_16_code 0 = .ok (.lload_n 0, 1) := by decide +kernel
theorem d5_1 : decode prog_37_method_16_code 1 = .ok (.invokestatic 39, 3) := by decide +kernel
theorem pd_oJcJ : parseMethodDescriptor "(J)J" = some ⟨[.long], some .long⟩ := by decide +kernel
theorem d5_4 : decode prog_37_method_16_code 4 = .ok (.bipush 23, 2) := by decide +kernel
theorem d5_6 : decode prog_37_method_16_code 6 = .ok (.lushr, 1) := by decide +kernel
theorem d5_7 : decode prog_37_method_16_code 7 = .ok (.lconst 0, 1) := by decide +kernel
theorem d5_8 : decode prog_37_method_16_code 8 = .ok (.lcmp, 1) := by decide +kernel
theorem d5_9 : decode prog_37_method_16_code 9 = .ok (.ifCond .ne 21, 3) := by decide +kernel
theorem d5_30 : decode prog_37_method_16_code 30 = .ok (.iconst 0, 1) := by decide +kernel
theorem d5_12 : decode prog_37_method_16_code 12 = .ok (.lload_n 0, 1) := by decide +kernel
theorem d5_13 : decode prog_37_method_16_code 13 = .ok (.invokestatic 42, 3) := by decide +kernel
theorem pd_oJcI : parseMethodDescriptor "(J)I" = some ⟨[.long], some .int⟩ := by decide +kernel
theorem d5_16 : decode prog_37_method_16_code 16 = .ok (.i2l, 1) := by decide +kernel
theorem d5_17 : decode prog_37_method_16_code 17 = .ok (.ldc2_w 78, 3) := by decide +kernel
theorem d5_20 : decode prog_37_method_16_code 20 = .ok (.land, 1) := by decide +kernel
theorem d5_21 : decode prog_37_method_16_code 21 = .ok (.lconst 0, 1) := by decide +kernel
theorem d5_22 : decode prog_37_method_16_code 22 = .ok (.lcmp, 1) := by decide +kernel
theorem d5_23 : decode prog_37_method_16_code 23 = .ok (.ifCond .ne 7, 3) := by decide +kernel
theorem d5_26 : decode prog_37_method_16_code 26 = .ok (.iconst 1, 1) := by decide +kernel
theorem d5_27 : decode prog_37_method_16_code 27 = .ok (.goto 4, 3) := by decide +kernel
theorem d5_31 : decode prog_37_method_16_code 31 = .ok (.ireturn, 1) := by decide +kernel
theorem ef_6 (m : MethodId) (x0 : Int64) : entryFrame m #[(.long x0)] 2 = mkF m 0 #[.val (.long x0), .second] [] := by first | (simp [entryFrame, mkF, argsToLocals, Value.category]; done) | rfl
theorem d6_0 : decode prog_37_method_17_code 0 = .ok (.lload_n 0, 1) := by decide +kernel
theorem d6_1 : decode prog_37_method_17_code 1 = .ok (.invokestatic 39, 3) := by decide +kernel
theorem d6_4 : decode prog_37_method_17_code 4 = .ok (.bipush 8, 2) := by decide +kernel
theorem d6_6 : decode prog_37_method_17_code 6 = .ok (.lshl, 1) := by decide +kernel
theorem d6_7 : decode prog_37_method_17_code 7 = .ok (.lload_n 0, 1) := by decide +kernel
theorem d6_8 : decode prog_37_method_17_code 8 = .ok (.invokestatic 42, 3) := by decide +kernel
theorem d6_11 : decode prog_37_method_17_code 11 = .ok (.i2l, 1) := by decide +kernel
theorem d6_12 : decode prog_37_method_17_code 12 = .ok (.lor, 1) := by decide +kernel
theorem d6_13 : decode prog_37_method_17_code 13 = .ok (.lreturn, 1) := by decide +kernel
theorem ef_7 (m : MethodId) (x0 : Int64) (x1 : Int64) : entryFrame m #[(.long x0), (.long x1)] 4 = mkF m 0 #[.val (.long x0), .second, .val (.long x1), .second] [] := by first | (simp [entryFrame, mkF, argsToLocals, Value.category]; done) | rfl
theorem d7_0 : decode prog_37_method_13_code 0 = .ok (.lload_n 0, 1) := by decide +kernel
theorem d7_1 : decode prog_37_method_13_code 1 = .ok (.invokestatic 72, 3) := by decide +kernel
theorem pd_oJcZ : parseMethodDescriptor "(J)Z" = some ⟨[.long], some .boolean⟩ := by decide +kernel
theorem d7_4 : decode prog_37_method_13_code 4 = .ok (.ifCond .eq 10, 3) := by decide +kernel
theorem d7_14 : decode prog_37_method_13_code 14 = .ok (.ldc2_w 67, 3) := by decide +kernel
theorem d7_17 : decode prog_37_method_13_code 17 = .ok (.lreturn, 1) := by decide +kernel
theorem d7_7 : decode prog_37_method_13_code 7 = .ok (.lload_n 2, 1) := by decide +kernel
theorem d7_8 : decode prog_37_method_13_code 8 = .ok (.invokestatic 72, 3) := by decide +kernel
theorem d7_11 : decode prog_37_method_13_code 11 = .ok (.ifCond .ne 7, 3) := by decide +kernel
theorem d7_18 : decode prog_37_method_13_code 18 = .ok (.ldc2_w 15, 3) := by decide +kernel
theorem d7_21 : decode prog_37_method_13_code 21 = .ok (.lload_n 0, 1) := by decide +kernel
theorem d7_22 : decode prog_37_method_13_code 22 = .ok (.invokestatic 75, 3) := by decide +kernel
theorem d7_25 : decode prog_37_method_13_code 25 = .ok (.bipush 31, 2) := by decide +kernel
theorem d7_27 : decode prog_37_method_13_code 27 = .ok (.lshl, 1) := by decide +kernel
theorem d7_28 : decode prog_37_method_13_code 28 = .ok (.lor, 1) := by decide +kernel
theorem d7_29 : decode prog_37_method_13_code 29 = .ok (.lload_n 2, 1) := by decide +kernel
theorem d7_30 : decode prog_37_method_13_code 30 = .ok (.invokestatic 75, 3) := by decide +kernel
theorem d7_33 : decode prog_37_method_13_code 33 = .ok (.lor, 1) := by decide +kernel
theorem d7_34 : decode prog_37_method_13_code 34 = .ok (.lreturn, 1) := by decide +kernel
theorem ef_0 (m : MethodId) (x0 : Int64) (x1 : Int64) (x2 : Int32) (x3 : Int64) (x4 : Int32) : entryFrame m #[(.long x0), (.long x1), (.int x2), (.long x3), (.int x4)] maxLocals = mkF m 0 #[.val (.long x0), .second, .val (.long x1), .second, .val (.int x2), .val (.long x3), .second, .val (.int x4), .unset, .unset, .unset, .unset, .unset, .unset, .unset, .unset, .unset] [] := by first | (simp [entryFrame, mkF, argsToLocals, Value.category, maxLocals]; done) | rfl
theorem pn_com_example_stern_lock_sternlock_ShortFormIsShortPinLaw : plainName "com/example/stern_lock/sternlock/ShortFormIsShortPinLaw" = true := by first | (simp [plainName, overriddenIn]; done) | decide +kernel
theorem pd_oJIcJ : parseMethodDescriptor "(JI)J" = some ⟨[.long, .int], some .long⟩ := by decide +kernel
theorem pd_oJJcJ : parseMethodDescriptor "(JJ)J" = some ⟨[.long, .long], some .long⟩ := by decide +kernel
def Q1 (Z : State) (u0 : Int64) (h0 : Heap) (n0 : Nat) (v : Option Value) (h : Heap) (L : List Loc) : Prop := v = some (.int (fisShort u0)) ∧ Fr n0 L ∧ h = h0
set_option maxRecDepth 65536 in
set_option maxHeartbeats 40000000 in
theorem rm1 (l : Launch) (Z : State) (a0 : Array Value) (hw : ∀ d ∈ tables_1, d.before a0 Z = true) (ws : List Jvm.Cond) (u0 : Int64) (h0 : Heap) (n0 : Nat) (Z0 : n0 ≤ h0.size)  :
    MetFree l (⟨"com/example/stern_lock/sternlock/ShortForm", "isShort", "(J)Z"⟩ : MethodName) (head1 (Jvm.Cond.code (⟨"com/example/stern_lock/sternlock/ShortForm", "isShort", "(J)Z"⟩ : MethodName) prog_37_method_5_code 2 (some .boolean) :: ws) ({ frames := 0, cells := 0, slots := 0, locals := 0 } : Room)) (fun a U => a = #[(.long u0)] ∧ Z.Warmed39 U.vm ∧ U.heap = h0) (fun _ _ _ _ _ => True) (fun _ U o U' => ∃ v L, o = .returned v ∧ Q1 Z u0 h0 n0 v U'.heap L ∧ FrameEnd U o U' L ({ frames := 0, cells := 0, slots := 0, locals := 0 } : Room).cells ({ frames := 0, cells := 0, slots := 0, locals := 0 } : Room).slots) := by
  refine MetFree.of_bodySF (plainFor_of_name pn_com_example_stern_lock_sternlock_ShortForm) hisR ?_
  intro p e s m args0 below meth c s₁ Bd hml0 hP hK
  obtain ⟨rfl, hZ, hh⟩ := hP
  have hx := Bd.exec
  have hby := Bd.bytes
  have hml : c.maxLocals = 2 := hml0
  have hown : s.vm.findClass "com/example/stern_lock/sternlock/ShortForm" = some m.cls := findClass_of_methodNamed Bd.named
  have hnm := (name_of_methodNamed Bd.named Bd.method).1
  have X0 : Stand p l e ({ frames := 0, cells := 0, slots := 0, locals := 0 } : Room) s m #[(.long u0)] below meth c s₁ [] 0 0 := Stand.of_body Bd
  have e0 : s₁.heap = h0 := by rw [← hh, Bd.state]; rfl
  have N0 := Fr.nil n0
  have pre0 : ∀ t, Steps p.tables e below (s₁.setTop (mkF m 0 #[.val (.long u0), .second] [])) t → Steps p.tables e below (s₁.setTop (entryFrame m #[(.long u0)] 2)) t := fun t k => castTop (ef_1 m u0) k
  have s1 : ∀ t, Steps p.tables e below (s₁.setTop (mkF m 3 #[.val (.long u0), .second] [(.int (lcmpW u0 (0 : Int64)))])) t → Steps p.tables e below (s₁.setTop (mkF m 0 #[.val (.long u0), .second] [])) t := by
    intro t kt
    refine XS.lloadN X0.here hx rfl (hb hby d1_0) rfl ?_
    show Steps p.tables e below (s₁.setTop (mkF m 1 #[.val (.long u0), .second] [(.long u0)])) t
    refine XS.lconst X0.here hx rfl (hb hby d1_1) ?_
    show Steps p.tables e below (s₁.setTop (mkF m 2 #[.val (.long u0), .second] [(.long (0 : Int64)), (.long u0)])) t
    refine XS.lcmp X0.here hx rfl (hb hby d1_2) rfl ?_
    exact kt
  obtain ⟨w15, rfl, j21⟩ : ∃ (w15 : Int32), w15 = (if u0 < (0 : Int64) then (if (u0 &&& (-4611686018427387904 : Int64)) = (-9223372036854775808 : Int64) then (1 : Int32) else (0 : Int32)) else (1 : Int32)) ∧ ∀ t, Steps p.tables e below (s₁.setTop (mkF m 23 #[.val (.long u0), .second] [(.int w15)])) t → Steps p.tables e below (s₁.setTop (mkF m 3 #[.val (.long u0), .second] [(.int (lcmpW u0 (0 : Int64)))])) t := by
    by_cases c2 : u0 < (0 : Int64)
    ·
      have s4 : ∀ t, Steps p.tables e below (s₁.setTop (mkF m 15 #[.val (.long u0), .second] [(.int (lcmpW (u0 &&& (-4611686018427387904 : Int64)) (-9223372036854775808 : Int64)))])) t → Steps p.tables e below (s₁.setTop (mkF m 3 #[.val (.long u0), .second] [(.int (lcmpW u0 (0 : Int64)))])) t := by
        intro t kt
        refine XS.ifNo X0.here hx rfl (hb hby d1_3) rfl ((if0 _ _).trans (tlt ((lw_lt _ _).mpr c2)).2.1) ?_
        show Steps p.tables e below (s₁.setTop (mkF m 6 #[.val (.long u0), .second] [])) t
        refine XS.lloadN X0.here hx rfl (hb hby d1_6) rfl ?_
        show Steps p.tables e below (s₁.setTop (mkF m 7 #[.val (.long u0), .second] [(.long u0)])) t
        refine X0.ldc2Long hx hown (mvT hZ (hw _ (List.mem_of_getElem? (i := 29) rfl))) (g := (mkF m 7 #[.val (.long u0), .second] [(.long u0)])) rfl (hb hby d1_7) _ ?_
        show Steps p.tables e below (s₁.setTop (mkF m 10 #[.val (.long u0), .second] [(.long (-4611686018427387904 : Int64)), (.long u0)])) t
        refine XS.land X0.here hx rfl (hb hby d1_10) rfl ?_
        show Steps p.tables e below (s₁.setTop (mkF m 11 #[.val (.long u0), .second] [(.long (u0 &&& (-4611686018427387904 : Int64)))])) t
        refine X0.ldc2Long hx hown (mvT hZ (hw _ (List.mem_of_getElem? (i := 25) rfl))) (g := (mkF m 11 #[.val (.long u0), .second] [(.long (u0 &&& (-4611686018427387904 : Int64)))])) rfl (hb hby d1_11) _ ?_
        show Steps p.tables e below (s₁.setTop (mkF m 14 #[.val (.long u0), .second] [(.long (-9223372036854775808 : Int64)), (.long (u0 &&& (-4611686018427387904 : Int64)))])) t
        refine XS.lcmp X0.here hx rfl (hb hby d1_14) rfl ?_
        exact kt
      obtain ⟨w8, rfl, j14⟩ : ∃ (w8 : Int32), w8 = (if (u0 &&& (-4611686018427387904 : Int64)) = (-9223372036854775808 : Int64) then (1 : Int32) else (0 : Int32)) ∧ ∀ t, Steps p.tables e below (s₁.setTop (mkF m 23 #[.val (.long u0), .second] [(.int w8)])) t → Steps p.tables e below (s₁.setTop (mkF m 15 #[.val (.long u0), .second] [(.int (lcmpW (u0 &&& (-4611686018427387904 : Int64)) (-9223372036854775808 : Int64)))])) t := by
        by_cases c5 : (u0 &&& (-4611686018427387904 : Int64)) = (-9223372036854775808 : Int64)
        ·
          have s7 : ∀ t, Steps p.tables e below (s₁.setTop (mkF m 23 #[.val (.long u0), .second] [(.int (1 : Int32))])) t → Steps p.tables e below (s₁.setTop (mkF m 15 #[.val (.long u0), .second] [(.int (lcmpW (u0 &&& (-4611686018427387904 : Int64)) (-9223372036854775808 : Int64)))])) t := by
            intro t kt
            refine XS.ifNo X0.here hx rfl (hb hby d1_15) rfl ((if0 _ _).trans (teq ((lw_eq _ _).mpr c5)).2) ?_
            show Steps p.tables e below (s₁.setTop (mkF m 18 #[.val (.long u0), .second] [])) t
            refine XS.iconst X0.here hx rfl (hb hby d1_18) ?_
            show Steps p.tables e below (s₁.setTop (mkF m 19 #[.val (.long u0), .second] [(.int (1 : Int32))])) t
            refine XS.goto X0.here hx rfl (pc0 := 19) (pc' := 23) rfl (hb hby d1_19) (by decide) (by decide) ?_
            exact kt
          exact ⟨(1 : Int32), (if_pos c5).symm, fun t kt => s7 _ (kt)⟩
        ·
          have s6 : ∀ t, Steps p.tables e below (s₁.setTop (mkF m 23 #[.val (.long u0), .second] [(.int (0 : Int32))])) t → Steps p.tables e below (s₁.setTop (mkF m 15 #[.val (.long u0), .second] [(.int (lcmpW (u0 &&& (-4611686018427387904 : Int64)) (-9223372036854775808 : Int64)))])) t := by
            intro t kt
            refine XS.ifYes X0.here hx rfl (pc0 := 15) (pc' := 22) rfl (hb hby d1_15) rfl ((if0 _ _).trans (feq (mt (lw_eq _ _).mp c5)).2) (by decide) (by decide) ?_
            show Steps p.tables e below (s₁.setTop (mkF m 22 #[.val (.long u0), .second] [])) t
            refine XS.iconst X0.here hx rfl (hb hby d1_22) ?_
            exact kt
          exact ⟨(0 : Int32), (if_neg c5).symm, fun t kt => s6 _ (kt)⟩
      exact ⟨(if (u0 &&& (-4611686018427387904 : Int64)) = (-9223372036854775808 : Int64) then (1 : Int32) else (0 : Int32)), (if_pos c2).symm, fun t kt => s4 _ (j14 _ (kt))⟩
    ·
      have s3 : ∀ t, Steps p.tables e below (s₁.setTop (mkF m 23 #[.val (.long u0), .second] [(.int (1 : Int32))])) t → Steps p.tables e below (s₁.setTop (mkF m 3 #[.val (.long u0), .second] [(.int (lcmpW u0 (0 : Int64)))])) t := by
        intro t kt
        refine XS.ifYes X0.here hx rfl (pc0 := 3) (pc' := 18) rfl (hb hby d1_3) rfl ((if0 _ _).trans (flt (mt (lw_lt _ _).mp c2)).2.1) (by decide) (by decide) ?_
        show Steps p.tables e below (s₁.setTop (mkF m 18 #[.val (.long u0), .second] [])) t
        refine XS.iconst X0.here hx rfl (hb hby d1_18) ?_
        show Steps p.tables e below (s₁.setTop (mkF m 19 #[.val (.long u0), .second] [(.int (1 : Int32))])) t
        refine XS.goto X0.here hx rfl (pc0 := 19) (pc' := 23) rfl (hb hby d1_19) (by decide) (by decide) ?_
        exact kt
      exact ⟨(1 : Int32), (if_neg c2).symm, fun t kt => s3 _ (kt)⟩
  obtain ⟨fs_, hr, hrun, hended, hW, hsame⟩ := X0.leave (v := some (.int (if u0 < (0 : Int64) then (if (u0 &&& (-4611686018427387904 : Int64)) = (-9223372036854775808 : Int64) then (1 : Int32) else (0 : Int32)) else (1 : Int32)))) (fun h => by rw [Bd.returns] at h; cases h)
  refine ⟨_, _, pre0 _ (s1 _ (j21 _ (?_))), hrun, hended, _, _, rfl, ?_, ⟨_, rfl⟩, hW, hsame.mono (by decide) (by decide)⟩
  · show Steps p.tables e below (s₁.setTop (mkF m 23 #[.val (.long u0), .second] [(.int (if u0 < (0 : Int64) then (if (u0 &&& (-4611686018427387904 : Int64)) = (-9223372036854775808 : Int64) then (1 : Int32) else (0 : Int32)) else (1 : Int32)))])) _
    exact retN X0 hx (t := .boolean) Bd.returns (by simp) (hb hby d1_23) (fun f acts q1 q2 q3 => by rw [show nar .boolean (if u0 < (0 : Int64) then (if (u0 &&& (-4611686018427387904 : Int64)) = (-9223372036854775808 : Int64) then (1 : Int32) else (0 : Int32)) else (1 : Int32)) = (if u0 < (0 : Int64) then (if (u0 &&& (-4611686018427387904 : Int64)) = (-9223372036854775808 : Int64) then (1 : Int32) else (0 : Int32)) else (1 : Int32)) from by (repeat' split) <;> rfl]; exact hr f acts q1 q2 q3)
  · show Q1 Z u0 h0 n0 _ s₁.heap _
    rw [e0]
    exact ⟨rfl, N0, rfl⟩
def Q2 (Z : State) (u0 : Int64) (u1 : Int32) (h0 : Heap) (n0 : Nat) (v : Option Value) (h : Heap) (L : List Loc) : Prop := v = some (.long (fof u0 u1)) ∧ Fr n0 L ∧ h = h0
set_option maxRecDepth 65536 in
set_option maxHeartbeats 40000000 in
theorem rm2 (l : Launch) (Z : State) (a0 : Array Value) (hw : ∀ d ∈ tables_1, d.before a0 Z = true) (ws : List Jvm.Cond) (u0 : Int64) (u1 : Int32) (h0 : Heap) (n0 : Nat) (Z0 : n0 ≤ h0.size)  :
    MetFree l (⟨"com/example/stern_lock/sternlock/ShortForm", "of", "(JI)J"⟩ : MethodName) (head1 (Jvm.Cond.code (⟨"com/example/stern_lock/sternlock/ShortForm", "of", "(JI)J"⟩ : MethodName) prog_37_method_2_code 3 (some .long) :: ws) ({ frames := 0, cells := 0, slots := 0, locals := 0 } : Room)) (fun a U => a = #[(.long u0), (.int u1)] ∧ Z.Warmed39 U.vm ∧ U.heap = h0) (fun _ _ _ _ _ => True) (fun _ U o U' => ∃ v L, o = .returned v ∧ Q2 Z u0 u1 h0 n0 v U'.heap L ∧ FrameEnd U o U' L ({ frames := 0, cells := 0, slots := 0, locals := 0 } : Room).cells ({ frames := 0, cells := 0, slots := 0, locals := 0 } : Room).slots) := by
  refine MetFree.of_bodySF (plainFor_of_name pn_com_example_stern_lock_sternlock_ShortForm) hisR ?_
  intro p e s m args0 below meth c s₁ Bd hml0 hP hK
  obtain ⟨rfl, hZ, hh⟩ := hP
  have hx := Bd.exec
  have hby := Bd.bytes
  have hml : c.maxLocals = 3 := hml0
  have hown : s.vm.findClass "com/example/stern_lock/sternlock/ShortForm" = some m.cls := findClass_of_methodNamed Bd.named
  have hnm := (name_of_methodNamed Bd.named Bd.method).1
  have X0 : Stand p l e ({ frames := 0, cells := 0, slots := 0, locals := 0 } : Room) s m #[(.long u0), (.int u1)] below meth c s₁ [] 0 0 := Stand.of_body Bd
  have e0 : s₁.heap = h0 := by rw [← hh, Bd.state]; rfl
  have N0 := Fr.nil n0
  have pre0 : ∀ t, Steps p.tables e below (s₁.setTop (mkF m 0 #[.val (.long u0), .second, .val (.int u1)] [])) t → Steps p.tables e below (s₁.setTop (entryFrame m #[(.long u0), (.int u1)] 3)) t := fun t k => castTop (ef_2 m u0 u1) k
  have s22 : ∀ t, Steps p.tables e below (s₁.setTop (mkF m 7 #[.val (.long u0), .second, .val (.int u1)] [(.long ((u0 <<< ((16 : Int32) &&& 0x3f).toInt64) ||| (u1.toInt64)))])) t → Steps p.tables e below (s₁.setTop (mkF m 0 #[.val (.long u0), .second, .val (.int u1)] [])) t := by
    intro t kt
    refine XS.lloadN X0.here hx rfl (hb hby d2_0) rfl ?_
    show Steps p.tables e below (s₁.setTop (mkF m 1 #[.val (.long u0), .second, .val (.int u1)] [(.long u0)])) t
    refine XS.bipush X0.here hx rfl (hb hby d2_1) ?_
    show Steps p.tables e below (s₁.setTop (mkF m 3 #[.val (.long u0), .second, .val (.int u1)] [(.int (16 : Int32)), (.long u0)])) t
    refine XS.lshl X0.here hx rfl (hb hby d2_3) rfl ?_
    show Steps p.tables e below (s₁.setTop (mkF m 4 #[.val (.long u0), .second, .val (.int u1)] [(.long (u0 <<< ((16 : Int32) &&& 0x3f).toInt64))])) t
    refine XS.iloadN X0.here hx rfl (hb hby d2_4) rfl ?_
    show Steps p.tables e below (s₁.setTop (mkF m 5 #[.val (.long u0), .second, .val (.int u1)] [(.int u1), (.long (u0 <<< ((16 : Int32) &&& 0x3f).toInt64))])) t
    refine XS.i2l X0.here hx rfl (hb hby d2_5) rfl ?_
    show Steps p.tables e below (s₁.setTop (mkF m 6 #[.val (.long u0), .second, .val (.int u1)] [(.long (u1.toInt64)), (.long (u0 <<< ((16 : Int32) &&& 0x3f).toInt64))])) t
    refine XS.lor X0.here hx rfl (hb hby d2_6) rfl ?_
    exact kt
  obtain ⟨fs_, hr, hrun, hended, hW, hsame⟩ := X0.leave (v := some (.long ((u0 <<< ((16 : Int32) &&& 0x3f).toInt64) ||| (u1.toInt64)))) (fun h => by rw [Bd.returns] at h; cases h)
  refine ⟨_, _, pre0 _ (s22 _ (?_)), hrun, hended, _, _, rfl, ?_, ⟨_, rfl⟩, hW, hsame.mono (by decide) (by decide)⟩
  · show Steps p.tables e below (s₁.setTop (mkF m 7 #[.val (.long u0), .second, .val (.int u1)] [(.long ((u0 <<< ((16 : Int32) &&& 0x3f).toInt64) ||| (u1.toInt64)))])) _
    exact X0.lreturnOut hx Bd.returns (hb hby d2_7) hr
  · show Q2 Z u0 u1 h0 n0 _ s₁.heap _
    rw [e0]
    exact ⟨rfl, N0, rfl⟩
def Q3 (Z : State) (u0 : Int64) (h0 : Heap) (n0 : Nat) (v : Option Value) (h : Heap) (L : List Loc) : Prop := v = some (.long (fholder u0)) ∧ Fr n0 L ∧ h = h0
set_option maxRecDepth 65536 in
set_option maxHeartbeats 40000000 in
theorem rm3 (l : Launch) (Z : State) (a0 : Array Value) (hw : ∀ d ∈ tables_1, d.before a0 Z = true) (ws : List Jvm.Cond) (u0 : Int64) (h0 : Heap) (n0 : Nat) (Z0 : n0 ≤ h0.size)  :
    MetFree l (⟨"com/example/stern_lock/sternlock/ShortForm", "holderOf", "(J)J"⟩ : MethodName) (head1 (Jvm.Cond.code (⟨"com/example/stern_lock/sternlock/ShortForm", "holderOf", "(J)J"⟩ : MethodName) prog_37_method_3_code 2 (some .long) :: ws) ({ frames := 0, cells := 0, slots := 0, locals := 0 } : Room)) (fun a U => a = #[(.long u0)] ∧ Z.Warmed39 U.vm ∧ U.heap = h0) (fun _ _ _ _ _ => True) (fun _ U o U' => ∃ v L, o = .returned v ∧ Q3 Z u0 h0 n0 v U'.heap L ∧ FrameEnd U o U' L ({ frames := 0, cells := 0, slots := 0, locals := 0 } : Room).cells ({ frames := 0, cells := 0, slots := 0, locals := 0 } : Room).slots) := by
  refine MetFree.of_bodySF (plainFor_of_name pn_com_example_stern_lock_sternlock_ShortForm) hisR ?_
  intro p e s m args0 below meth c s₁ Bd hml0 hP hK
  obtain ⟨rfl, hZ, hh⟩ := hP
  have hx := Bd.exec
  have hby := Bd.bytes
  have hml : c.maxLocals = 2 := hml0
  have hown : s.vm.findClass "com/example/stern_lock/sternlock/ShortForm" = some m.cls := findClass_of_methodNamed Bd.named
  have hnm := (name_of_methodNamed Bd.named Bd.method).1
  have X0 : Stand p l e ({ frames := 0, cells := 0, slots := 0, locals := 0 } : Room) s m #[(.long u0)] below meth c s₁ [] 0 0 := Stand.of_body Bd
  have e0 : s₁.heap = h0 := by rw [← hh, Bd.state]; rfl
  have N0 := Fr.nil n0
  have pre0 : ∀ t, Steps p.tables e below (s₁.setTop (mkF m 0 #[.val (.long u0), .second] [])) t → Steps p.tables e below (s₁.setTop (entryFrame m #[(.long u0)] 2)) t := fun t k => castTop (ef_3 m u0) k
  have s23 : ∀ t, Steps p.tables e below (s₁.setTop (mkF m 4 #[.val (.long u0), .second] [(.long ((u0.toUInt64 >>> ((16 : Int32) &&& 0x3f).toInt64.toUInt64).toInt64))])) t → Steps p.tables e below (s₁.setTop (mkF m 0 #[.val (.long u0), .second] [])) t := by
    intro t kt
    refine XS.lloadN X0.here hx rfl (hb hby d3_0) rfl ?_
    show Steps p.tables e below (s₁.setTop (mkF m 1 #[.val (.long u0), .second] [(.long u0)])) t
    refine XS.bipush X0.here hx rfl (hb hby d3_1) ?_
    show Steps p.tables e below (s₁.setTop (mkF m 3 #[.val (.long u0), .second] [(.int (16 : Int32)), (.long u0)])) t
    refine XS.lushr X0.here hx rfl (hb hby d3_3) rfl ?_
    exact kt
  obtain ⟨fs_, hr, hrun, hended, hW, hsame⟩ := X0.leave (v := some (.long ((u0.toUInt64 >>> ((16 : Int32) &&& 0x3f).toInt64.toUInt64).toInt64))) (fun h => by rw [Bd.returns] at h; cases h)
  refine ⟨_, _, pre0 _ (s23 _ (?_)), hrun, hended, _, _, rfl, ?_, ⟨_, rfl⟩, hW, hsame.mono (by decide) (by decide)⟩
  · show Steps p.tables e below (s₁.setTop (mkF m 4 #[.val (.long u0), .second] [(.long ((u0.toUInt64 >>> ((16 : Int32) &&& 0x3f).toInt64.toUInt64).toInt64))])) _
    exact X0.lreturnOut hx Bd.returns (hb hby d3_4) hr
  · show Q3 Z u0 h0 n0 _ s₁.heap _
    rw [e0]
    exact ⟨rfl, N0, rfl⟩
def Q4 (Z : State) (u0 : Int64) (h0 : Heap) (n0 : Nat) (v : Option Value) (h : Heap) (L : List Loc) : Prop := v = some (.int (fmodes u0)) ∧ Fr n0 L ∧ h = h0
set_option maxRecDepth 65536 in
set_option maxHeartbeats 40000000 in
theorem rm4 (l : Launch) (Z : State) (a0 : Array Value) (hw : ∀ d ∈ tables_1, d.before a0 Z = true) (ws : List Jvm.Cond) (u0 : Int64) (h0 : Heap) (n0 : Nat) (Z0 : n0 ≤ h0.size)  :
    MetFree l (⟨"com/example/stern_lock/sternlock/ShortForm", "modesOf", "(J)I"⟩ : MethodName) (head1 (Jvm.Cond.code (⟨"com/example/stern_lock/sternlock/ShortForm", "modesOf", "(J)I"⟩ : MethodName) prog_37_method_4_code 2 (some .int) :: ws) ({ frames := 0, cells := 0, slots := 0, locals := 0 } : Room)) (fun a U => a = #[(.long u0)] ∧ Z.Warmed39 U.vm ∧ U.heap = h0) (fun _ _ _ _ _ => True) (fun _ U o U' => ∃ v L, o = .returned v ∧ Q4 Z u0 h0 n0 v U'.heap L ∧ FrameEnd U o U' L ({ frames := 0, cells := 0, slots := 0, locals := 0 } : Room).cells ({ frames := 0, cells := 0, slots := 0, locals := 0 } : Room).slots) := by
  refine MetFree.of_bodySF (plainFor_of_name pn_com_example_stern_lock_sternlock_ShortForm) hisR ?_
  intro p e s m args0 below meth c s₁ Bd hml0 hP hK
  obtain ⟨rfl, hZ, hh⟩ := hP
  have hx := Bd.exec
  have hby := Bd.bytes
  have hml : c.maxLocals = 2 := hml0
  have hown : s.vm.findClass "com/example/stern_lock/sternlock/ShortForm" = some m.cls := findClass_of_methodNamed Bd.named
  have hnm := (name_of_methodNamed Bd.named Bd.method).1
  have X0 : Stand p l e ({ frames := 0, cells := 0, slots := 0, locals := 0 } : Room) s m #[(.long u0)] below meth c s₁ [] 0 0 := Stand.of_body Bd
  have e0 : s₁.heap = h0 := by rw [← hh, Bd.state]; rfl
  have N0 := Fr.nil n0
  have pre0 : ∀ t, Steps p.tables e below (s₁.setTop (mkF m 0 #[.val (.long u0), .second] [])) t → Steps p.tables e below (s₁.setTop (entryFrame m #[(.long u0)] 2)) t := fun t k => castTop (ef_4 m u0) k
  have s24 : ∀ t, Steps p.tables e below (s₁.setTop (mkF m 6 #[.val (.long u0), .second] [(.int ((u0 &&& (65535 : Int64)).toInt32))])) t → Steps p.tables e below (s₁.setTop (mkF m 0 #[.val (.long u0), .second] [])) t := by
    intro t kt
    refine XS.lloadN X0.here hx rfl (hb hby d4_0) rfl ?_
    show Steps p.tables e below (s₁.setTop (mkF m 1 #[.val (.long u0), .second] [(.long u0)])) t
    refine X0.ldc2Long hx hown (mvT hZ (hw _ (List.mem_of_getElem? (i := 23) rfl))) (g := (mkF m 1 #[.val (.long u0), .second] [(.long u0)])) rfl (hb hby d4_1) _ ?_
    show Steps p.tables e below (s₁.setTop (mkF m 4 #[.val (.long u0), .second] [(.long (65535 : Int64)), (.long u0)])) t
    refine XS.land X0.here hx rfl (hb hby d4_4) rfl ?_
    show Steps p.tables e below (s₁.setTop (mkF m 5 #[.val (.long u0), .second] [(.long (u0 &&& (65535 : Int64)))])) t
    refine XS.l2i X0.here hx rfl (hb hby d4_5) rfl ?_
    exact kt
  obtain ⟨fs_, hr, hrun, hended, hW, hsame⟩ := X0.leave (v := some (.int ((u0 &&& (65535 : Int64)).toInt32))) (fun h => by rw [Bd.returns] at h; cases h)
  refine ⟨_, _, pre0 _ (s24 _ (?_)), hrun, hended, _, _, rfl, ?_, ⟨_, rfl⟩, hW, hsame.mono (by decide) (by decide)⟩
  · show Steps p.tables e below (s₁.setTop (mkF m 6 #[.val (.long u0), .second] [(.int ((u0 &&& (65535 : Int64)).toInt32))])) _
    exact retI X0 hx Bd.returns (hb hby d4_6) hr
  · show Q4 Z u0 h0 n0 _ s₁.heap _
    rw [e0]
    exact ⟨rfl, N0, rfl⟩
def Q5 (Z : State) (u0 : Int64) (h0 : Heap) (n0 : Nat) (v : Option Value) (h : Heap) (L : List Loc) : Prop := v = some (.int (ffits u0)) ∧ Fr n0 L ∧ h = h0
set_option maxRecDepth 65536 in
set_option maxHeartbeats 40000000 in
theorem rm5 (l : Launch) (Z : State) (a0 : Array Value) (hw : ∀ d ∈ tables_1, d.before a0 Z = true) (ws : List Jvm.Cond) (u0 : Int64) (h0 : Heap) (n0 : Nat) (Z0 : n0 ≤ h0.size)  :
    MetFree l (⟨"com/example/stern_lock/sternlock/ShortForm", "fitsInPair", "(J)Z"⟩ : MethodName) (head1 (Jvm.Cond.code (⟨"com/example/stern_lock/sternlock/ShortForm", "fitsInPair", "(J)Z"⟩ : MethodName) prog_37_method_16_code 2 (some .boolean) :: ws) ({ frames := 1, cells := 0, slots := 0, locals := 13 } : Room)) (fun a U => a = #[(.long u0)] ∧ Z.Warmed39 U.vm ∧ U.heap = h0) (fun _ _ _ _ _ => True) (fun _ U o U' => ∃ v L, o = .returned v ∧ Q5 Z u0 h0 n0 v U'.heap L ∧ FrameEnd U o U' L ({ frames := 1, cells := 0, slots := 0, locals := 13 } : Room).cells ({ frames := 1, cells := 0, slots := 0, locals := 13 } : Room).slots) := by
  refine MetFree.of_bodySF (plainFor_of_name pn_com_example_stern_lock_sternlock_ShortForm) hisR ?_
  intro p e s m args0 below meth c s₁ Bd hml0 hP hK
  obtain ⟨rfl, hZ, hh⟩ := hP
  have hx := Bd.exec
  have hby := Bd.bytes
  have hml : c.maxLocals = 2 := hml0
  have hown : s.vm.findClass "com/example/stern_lock/sternlock/ShortForm" = some m.cls := findClass_of_methodNamed Bd.named
  have hnm := (name_of_methodNamed Bd.named Bd.method).1
  have X0 : Stand p l e ({ frames := 1, cells := 0, slots := 0, locals := 13 } : Room) s m #[(.long u0)] below meth c s₁ [] 0 0 := Stand.of_body Bd
  have e0 : s₁.heap = h0 := by rw [← hh, Bd.state]; rfl
  have N0 := Fr.nil n0
  have pre0 : ∀ t, Steps p.tables e below (s₁.setTop (mkF m 0 #[.val (.long u0), .second] [])) t → Steps p.tables e below (s₁.setTop (entryFrame m #[(.long u0)] 2)) t := fun t k => castTop (ef_5 m u0) k
  have s25 : ∀ t, Steps p.tables e below (s₁.setTop (mkF m 1 #[.val (.long u0), .second] [(.long u0)])) t → Steps p.tables e below (s₁.setTop (mkF m 0 #[.val (.long u0), .second] [])) t := by
    intro t kt
    refine XS.lloadN X0.here hx rfl (hb hby d5_0) rfl ?_
    exact kt
  obtain ⟨_, _, ⟨T26, L26, k26, n26⟩, -, X26, ⟨Lc26, hQ26, l26, y26, z26⟩, st26⟩ := Jvm.LawKit.callS X0 hx (y := (⟨"com/example/stern_lock/sternlock/ShortForm", "holderOf", "(J)J"⟩ : MethodName)) hown (mvT hZ (hw _ (List.mem_of_getElem? (i := 17) rfl))) (mvT hZ (hw _ (List.mem_of_getElem? (i := 18) rfl))) (mvT hZ (hw _ (List.mem_of_getElem? (i := 2) rfl))) (mvT hZ (hw _ (List.mem_of_getElem? (i := 19) rfl))) (by decide) (backOf (W := 0) (rm3 l Z a0 hw [] u0 h0 n0 Z0 ) hZ (hw _ (List.mem_of_getElem? (i := 19) rfl)) (hw _ (List.mem_of_getElem? (i := 2) rfl)) (by decide) (by decide)) (g := (mkF m 1 #[.val (.long u0), .second] [(.long u0)])) rfl (by rw [hml]; rfl) (argsL := [(.long u0)]) (rest := []) (lenOf pd_oJcJ rfl) rfl (by show 2 * 0 + _ ≤ _; exact Nat.le_of_eq rfl) (hb hby d5_1) (fun _ _ => ⟨rfl, e0, (by decide : 0 + 0 ≤ _), (by decide : 0 + 0 ≤ _)⟩)
  dsimp only [Pt.U, Pt.locs, Pt.cells, Pt.slots] at X26 l26 y26 z26 st26 hQ26
  subst l26 y26 z26
  obtain ⟨rfl, N26q, e26q⟩ := hQ26
  have N26 := Fr.app N0 N26q
  have s27 : ∀ t, Steps p.tables e below (T26.setTop (mkF m 9 #[.val (.long u0), .second] [(.int (lcmpW (((fholder u0).toUInt64 >>> ((23 : Int32) &&& 0x3f).toInt64.toUInt64).toInt64) (0 : Int64)))])) t → Steps p.tables e below (T26.setTop (mkF m 4 #[.val (.long u0), .second] [(.long (fholder u0))])) t := by
    intro t kt
    refine XS.bipush X26.here hx rfl (hb hby d5_4) ?_
    show Steps p.tables e below (T26.setTop (mkF m 6 #[.val (.long u0), .second] [(.int (23 : Int32)), (.long (fholder u0))])) t
    refine XS.lushr X26.here hx rfl (hb hby d5_6) rfl ?_
    show Steps p.tables e below (T26.setTop (mkF m 7 #[.val (.long u0), .second] [(.long (((fholder u0).toUInt64 >>> ((23 : Int32) &&& 0x3f).toInt64.toUInt64).toInt64))])) t
    refine XS.lconst X26.here hx rfl (hb hby d5_7) ?_
    show Steps p.tables e below (T26.setTop (mkF m 8 #[.val (.long u0), .second] [(.long (0 : Int64)), (.long (((fholder u0).toUInt64 >>> ((23 : Int32) &&& 0x3f).toInt64.toUInt64).toInt64))])) t
    refine XS.lcmp X26.here hx rfl (hb hby d5_8) rfl ?_
    exact kt
  obtain ⟨T44, lc45, w43, X46, e47, N48, rfl, j49⟩ : ∃ (T44 : State) (lc45 : List Loc) (w43 : Int32), Stand p l e ({ frames := 1, cells := 0, slots := 0, locals := 13 } : Room) s m #[(.long u0)] below meth c T44 lc45 0 0 ∧ T44.heap = h0 ∧ Fr n0 lc45 ∧ w43 = (if (((fholder u0).toUInt64 >>> ((23 : Int32) &&& 0x3f).toInt64.toUInt64).toInt64) = (0 : Int64) then (if (((fmodes u0).toInt64) &&& (-256 : Int64)) = (0 : Int64) then (1 : Int32) else (0 : Int32)) else (0 : Int32)) ∧ ∀ t, Steps p.tables e below (T44.setTop (mkF m 31 #[.val (.long u0), .second] [(.int w43)])) t → Steps p.tables e below (T26.setTop (mkF m 9 #[.val (.long u0), .second] [(.int (lcmpW (((fholder u0).toUInt64 >>> ((23 : Int32) &&& 0x3f).toInt64.toUInt64).toInt64) (0 : Int64)))])) t := by
    by_cases c28 : (((fholder u0).toUInt64 >>> ((23 : Int32) &&& 0x3f).toInt64.toUInt64).toInt64) = (0 : Int64)
    ·
      have s30 : ∀ t, Steps p.tables e below (T26.setTop (mkF m 13 #[.val (.long u0), .second] [(.long u0)])) t → Steps p.tables e below (T26.setTop (mkF m 9 #[.val (.long u0), .second] [(.int (lcmpW (((fholder u0).toUInt64 >>> ((23 : Int32) &&& 0x3f).toInt64.toUInt64).toInt64) (0 : Int64)))])) t := by
        intro t kt
        refine XS.ifNo X26.here hx rfl (hb hby d5_9) rfl ((if0 _ _).trans (teq ((lw_eq _ _).mpr c28)).2) ?_
        show Steps p.tables e below (T26.setTop (mkF m 12 #[.val (.long u0), .second] [])) t
        refine XS.lloadN X26.here hx rfl (hb hby d5_12) rfl ?_
        exact kt
      obtain ⟨_, _, ⟨T31, L31, k31, n31⟩, -, X31, ⟨Lc31, hQ31, l31, y31, z31⟩, st31⟩ := Jvm.LawKit.callS X26 hx (y := (⟨"com/example/stern_lock/sternlock/ShortForm", "modesOf", "(J)I"⟩ : MethodName)) hown (mvT hZ (hw _ (List.mem_of_getElem? (i := 20) rfl))) (mvT hZ (hw _ (List.mem_of_getElem? (i := 21) rfl))) (mvT hZ (hw _ (List.mem_of_getElem? (i := 2) rfl))) (mvT hZ (hw _ (List.mem_of_getElem? (i := 22) rfl))) (by decide) (backOf (W := 0) (rm4 l Z a0 hw [] u0 h0 n0 Z0 ) hZ (hw _ (List.mem_of_getElem? (i := 22) rfl)) (hw _ (List.mem_of_getElem? (i := 2) rfl)) (by decide) (by decide)) (g := (mkF m 13 #[.val (.long u0), .second] [(.long u0)])) rfl (by rw [hml]; rfl) (argsL := [(.long u0)]) (rest := []) (lenOf pd_oJcI rfl) rfl (by show 2 * 0 + _ ≤ _; exact Nat.le_of_eq rfl) (hb hby d5_13) (fun _ _ => ⟨rfl, e26q, (by decide : 0 + 0 ≤ _), (by decide : 0 + 0 ≤ _)⟩)
      dsimp only [Pt.U, Pt.locs, Pt.cells, Pt.slots] at X31 l31 y31 z31 st31 hQ31
      subst l31 y31 z31
      obtain ⟨rfl, N31q, e31q⟩ := hQ31
      have N31 := Fr.app N26 N31q
      have s32 : ∀ t, Steps p.tables e below (T31.setTop (mkF m 23 #[.val (.long u0), .second] [(.int (lcmpW (((fmodes u0).toInt64) &&& (-256 : Int64)) (0 : Int64)))])) t → Steps p.tables e below (T31.setTop (mkF m 16 #[.val (.long u0), .second] [(.int (fmodes u0))])) t := by
        intro t kt
        refine XS.i2l X31.here hx rfl (hb hby d5_16) rfl ?_
        show Steps p.tables e below (T31.setTop (mkF m 17 #[.val (.long u0), .second] [(.long ((fmodes u0).toInt64))])) t
        refine X31.ldc2Long hx hown (mvT hZ (hw _ (List.mem_of_getElem? (i := 24) rfl))) (g := (mkF m 17 #[.val (.long u0), .second] [(.long ((fmodes u0).toInt64))])) rfl (hb hby d5_17) _ ?_
        show Steps p.tables e below (T31.setTop (mkF m 20 #[.val (.long u0), .second] [(.long (-256 : Int64)), (.long ((fmodes u0).toInt64))])) t
        refine XS.land X31.here hx rfl (hb hby d5_20) rfl ?_
        show Steps p.tables e below (T31.setTop (mkF m 21 #[.val (.long u0), .second] [(.long (((fmodes u0).toInt64) &&& (-256 : Int64)))])) t
        refine XS.lconst X31.here hx rfl (hb hby d5_21) ?_
        show Steps p.tables e below (T31.setTop (mkF m 22 #[.val (.long u0), .second] [(.long (0 : Int64)), (.long (((fmodes u0).toInt64) &&& (-256 : Int64)))])) t
        refine XS.lcmp X31.here hx rfl (hb hby d5_22) rfl ?_
        exact kt
      obtain ⟨w36, rfl, j42⟩ : ∃ (w36 : Int32), w36 = (if (((fmodes u0).toInt64) &&& (-256 : Int64)) = (0 : Int64) then (1 : Int32) else (0 : Int32)) ∧ ∀ t, Steps p.tables e below (T31.setTop (mkF m 31 #[.val (.long u0), .second] [(.int w36)])) t → Steps p.tables e below (T31.setTop (mkF m 23 #[.val (.long u0), .second] [(.int (lcmpW (((fmodes u0).toInt64) &&& (-256 : Int64)) (0 : Int64)))])) t := by
        by_cases c33 : (((fmodes u0).toInt64) &&& (-256 : Int64)) = (0 : Int64)
        ·
          have s35 : ∀ t, Steps p.tables e below (T31.setTop (mkF m 31 #[.val (.long u0), .second] [(.int (1 : Int32))])) t → Steps p.tables e below (T31.setTop (mkF m 23 #[.val (.long u0), .second] [(.int (lcmpW (((fmodes u0).toInt64) &&& (-256 : Int64)) (0 : Int64)))])) t := by
            intro t kt
            refine XS.ifNo X31.here hx rfl (hb hby d5_23) rfl ((if0 _ _).trans (teq ((lw_eq _ _).mpr c33)).2) ?_
            show Steps p.tables e below (T31.setTop (mkF m 26 #[.val (.long u0), .second] [])) t
            refine XS.iconst X31.here hx rfl (hb hby d5_26) ?_
            show Steps p.tables e below (T31.setTop (mkF m 27 #[.val (.long u0), .second] [(.int (1 : Int32))])) t
            refine XS.goto X31.here hx rfl (pc0 := 27) (pc' := 31) rfl (hb hby d5_27) (by decide) (by decide) ?_
            exact kt
          exact ⟨(1 : Int32), (if_pos c33).symm, fun t kt => s35 _ (kt)⟩
        ·
          have s34 : ∀ t, Steps p.tables e below (T31.setTop (mkF m 31 #[.val (.long u0), .second] [(.int (0 : Int32))])) t → Steps p.tables e below (T31.setTop (mkF m 23 #[.val (.long u0), .second] [(.int (lcmpW (((fmodes u0).toInt64) &&& (-256 : Int64)) (0 : Int64)))])) t := by
            intro t kt
            refine XS.ifYes X31.here hx rfl (pc0 := 23) (pc' := 30) rfl (hb hby d5_23) rfl ((if0 _ _).trans (feq (mt (lw_eq _ _).mp c33)).2) (by decide) (by decide) ?_
            show Steps p.tables e below (T31.setTop (mkF m 30 #[.val (.long u0), .second] [])) t
            refine XS.iconst X31.here hx rfl (hb hby d5_30) ?_
            exact kt
          exact ⟨(0 : Int32), (if_neg c33).symm, fun t kt => s34 _ (kt)⟩
      exact ⟨T31, _, (if (((fmodes u0).toInt64) &&& (-256 : Int64)) = (0 : Int64) then (1 : Int32) else (0 : Int32)), X31, e31q, N31, (if_pos c28).symm, fun t kt => s30 _ (st31 _ (s32 _ (j42 _ (kt))))⟩
    ·
      have s29 : ∀ t, Steps p.tables e below (T26.setTop (mkF m 31 #[.val (.long u0), .second] [(.int (0 : Int32))])) t → Steps p.tables e below (T26.setTop (mkF m 9 #[.val (.long u0), .second] [(.int (lcmpW (((fholder u0).toUInt64 >>> ((23 : Int32) &&& 0x3f).toInt64.toUInt64).toInt64) (0 : Int64)))])) t := by
        intro t kt
        refine XS.ifYes X26.here hx rfl (pc0 := 9) (pc' := 30) rfl (hb hby d5_9) rfl ((if0 _ _).trans (feq (mt (lw_eq _ _).mp c28)).2) (by decide) (by decide) ?_
        show Steps p.tables e below (T26.setTop (mkF m 30 #[.val (.long u0), .second] [])) t
        refine XS.iconst X26.here hx rfl (hb hby d5_30) ?_
        exact kt
      exact ⟨T26, _, (0 : Int32), X26, e26q, N26, (if_neg c28).symm, fun t kt => s29 _ (kt)⟩
  obtain ⟨fs_, hr, hrun, hended, hW, hsame⟩ := X46.leave (v := some (.int (if (((fholder u0).toUInt64 >>> ((23 : Int32) &&& 0x3f).toInt64.toUInt64).toInt64) = (0 : Int64) then (if (((fmodes u0).toInt64) &&& (-256 : Int64)) = (0 : Int64) then (1 : Int32) else (0 : Int32)) else (0 : Int32)))) (fun h => by rw [Bd.returns] at h; cases h)
  refine ⟨_, _, pre0 _ (s25 _ (st26 _ (s27 _ (j49 _ (?_))))), hrun, hended, _, _, rfl, ?_, ⟨_, rfl⟩, hW, hsame.mono (by decide) (by decide)⟩
  · show Steps p.tables e below (T44.setTop (mkF m 31 #[.val (.long u0), .second] [(.int (if (((fholder u0).toUInt64 >>> ((23 : Int32) &&& 0x3f).toInt64.toUInt64).toInt64) = (0 : Int64) then (if (((fmodes u0).toInt64) &&& (-256 : Int64)) = (0 : Int64) then (1 : Int32) else (0 : Int32)) else (0 : Int32)))])) _
    exact retN X46 hx (t := .boolean) Bd.returns (by simp) (hb hby d5_31) (fun f acts q1 q2 q3 => by rw [show nar .boolean (if (((fholder u0).toUInt64 >>> ((23 : Int32) &&& 0x3f).toInt64.toUInt64).toInt64) = (0 : Int64) then (if (((fmodes u0).toInt64) &&& (-256 : Int64)) = (0 : Int64) then (1 : Int32) else (0 : Int32)) else (0 : Int32)) = (if (((fholder u0).toUInt64 >>> ((23 : Int32) &&& 0x3f).toInt64.toUInt64).toInt64) = (0 : Int64) then (if (((fmodes u0).toInt64) &&& (-256 : Int64)) = (0 : Int64) then (1 : Int32) else (0 : Int32)) else (0 : Int32)) from by (repeat' split) <;> rfl]; exact hr f acts q1 q2 q3)
  · show Q5 Z u0 h0 n0 _ T44.heap _
    rw [e47]
    exact ⟨rfl, N48, rfl⟩
def Q6 (Z : State) (u0 : Int64) (h0 : Heap) (n0 : Nat) (v : Option Value) (h : Heap) (L : List Loc) : Prop := v = some (.long (fhalf u0)) ∧ Fr n0 L ∧ h = h0
set_option maxRecDepth 65536 in
set_option maxHeartbeats 40000000 in
theorem rm6 (l : Launch) (Z : State) (a0 : Array Value) (hw : ∀ d ∈ tables_1, d.before a0 Z = true) (ws : List Jvm.Cond) (u0 : Int64) (h0 : Heap) (n0 : Nat) (Z0 : n0 ≤ h0.size)  :
    MetFree l (⟨"com/example/stern_lock/sternlock/ShortForm", "half", "(J)J"⟩ : MethodName) (head1 (Jvm.Cond.code (⟨"com/example/stern_lock/sternlock/ShortForm", "half", "(J)J"⟩ : MethodName) prog_37_method_17_code 2 (some .long) :: ws) ({ frames := 1, cells := 0, slots := 0, locals := 15 } : Room)) (fun a U => a = #[(.long u0)] ∧ Z.Warmed39 U.vm ∧ U.heap = h0) (fun _ _ _ _ _ => True) (fun _ U o U' => ∃ v L, o = .returned v ∧ Q6 Z u0 h0 n0 v U'.heap L ∧ FrameEnd U o U' L ({ frames := 1, cells := 0, slots := 0, locals := 15 } : Room).cells ({ frames := 1, cells := 0, slots := 0, locals := 15 } : Room).slots) := by
  refine MetFree.of_bodySF (plainFor_of_name pn_com_example_stern_lock_sternlock_ShortForm) hisR ?_
  intro p e s m args0 below meth c s₁ Bd hml0 hP hK
  obtain ⟨rfl, hZ, hh⟩ := hP
  have hx := Bd.exec
  have hby := Bd.bytes
  have hml : c.maxLocals = 2 := hml0
  have hown : s.vm.findClass "com/example/stern_lock/sternlock/ShortForm" = some m.cls := findClass_of_methodNamed Bd.named
  have hnm := (name_of_methodNamed Bd.named Bd.method).1
  have X0 : Stand p l e ({ frames := 1, cells := 0, slots := 0, locals := 15 } : Room) s m #[(.long u0)] below meth c s₁ [] 0 0 := Stand.of_body Bd
  have e0 : s₁.heap = h0 := by rw [← hh, Bd.state]; rfl
  have N0 := Fr.nil n0
  have pre0 : ∀ t, Steps p.tables e below (s₁.setTop (mkF m 0 #[.val (.long u0), .second] [])) t → Steps p.tables e below (s₁.setTop (entryFrame m #[(.long u0)] 2)) t := fun t k => castTop (ef_6 m u0) k
  have s50 : ∀ t, Steps p.tables e below (s₁.setTop (mkF m 1 #[.val (.long u0), .second] [(.long u0)])) t → Steps p.tables e below (s₁.setTop (mkF m 0 #[.val (.long u0), .second] [])) t := by
    intro t kt
    refine XS.lloadN X0.here hx rfl (hb hby d6_0) rfl ?_
    exact kt
  obtain ⟨_, _, ⟨T51, L51, k51, n51⟩, -, X51, ⟨Lc51, hQ51, l51, y51, z51⟩, st51⟩ := Jvm.LawKit.callS X0 hx (y := (⟨"com/example/stern_lock/sternlock/ShortForm", "holderOf", "(J)J"⟩ : MethodName)) hown (mvT hZ (hw _ (List.mem_of_getElem? (i := 17) rfl))) (mvT hZ (hw _ (List.mem_of_getElem? (i := 18) rfl))) (mvT hZ (hw _ (List.mem_of_getElem? (i := 2) rfl))) (mvT hZ (hw _ (List.mem_of_getElem? (i := 19) rfl))) (by decide) (backOf (W := 0) (rm3 l Z a0 hw [] u0 h0 n0 Z0 ) hZ (hw _ (List.mem_of_getElem? (i := 19) rfl)) (hw _ (List.mem_of_getElem? (i := 2) rfl)) (by decide) (by decide)) (g := (mkF m 1 #[.val (.long u0), .second] [(.long u0)])) rfl (by rw [hml]; rfl) (argsL := [(.long u0)]) (rest := []) (lenOf pd_oJcJ rfl) rfl (by show 2 * 0 + _ ≤ _; exact Nat.le_of_eq rfl) (hb hby d6_1) (fun _ _ => ⟨rfl, e0, (by decide : 0 + 0 ≤ _), (by decide : 0 + 0 ≤ _)⟩)
  dsimp only [Pt.U, Pt.locs, Pt.cells, Pt.slots] at X51 l51 y51 z51 st51 hQ51
  subst l51 y51 z51
  obtain ⟨rfl, N51q, e51q⟩ := hQ51
  have N51 := Fr.app N0 N51q
  have s52 : ∀ t, Steps p.tables e below (T51.setTop (mkF m 8 #[.val (.long u0), .second] [(.long u0), (.long ((fholder u0) <<< ((8 : Int32) &&& 0x3f).toInt64))])) t → Steps p.tables e below (T51.setTop (mkF m 4 #[.val (.long u0), .second] [(.long (fholder u0))])) t := by
    intro t kt
    refine XS.bipush X51.here hx rfl (hb hby d6_4) ?_
    show Steps p.tables e below (T51.setTop (mkF m 6 #[.val (.long u0), .second] [(.int (8 : Int32)), (.long (fholder u0))])) t
    refine XS.lshl X51.here hx rfl (hb hby d6_6) rfl ?_
    show Steps p.tables e below (T51.setTop (mkF m 7 #[.val (.long u0), .second] [(.long ((fholder u0) <<< ((8 : Int32) &&& 0x3f).toInt64))])) t
    refine XS.lloadN X51.here hx rfl (hb hby d6_7) rfl ?_
    exact kt
  obtain ⟨_, _, ⟨T53, L53, k53, n53⟩, -, X53, ⟨Lc53, hQ53, l53, y53, z53⟩, st53⟩ := Jvm.LawKit.callS X51 hx (y := (⟨"com/example/stern_lock/sternlock/ShortForm", "modesOf", "(J)I"⟩ : MethodName)) hown (mvT hZ (hw _ (List.mem_of_getElem? (i := 20) rfl))) (mvT hZ (hw _ (List.mem_of_getElem? (i := 21) rfl))) (mvT hZ (hw _ (List.mem_of_getElem? (i := 2) rfl))) (mvT hZ (hw _ (List.mem_of_getElem? (i := 22) rfl))) (by decide) (backOf (W := 2) (rm4 l Z a0 hw [] u0 h0 n0 Z0 ) hZ (hw _ (List.mem_of_getElem? (i := 22) rfl)) (hw _ (List.mem_of_getElem? (i := 2) rfl)) (by decide) (by decide)) (g := (mkF m 8 #[.val (.long u0), .second] [(.long u0), (.long ((fholder u0) <<< ((8 : Int32) &&& 0x3f).toInt64))])) rfl (by rw [hml]; rfl) (argsL := [(.long u0)]) (rest := [(.long ((fholder u0) <<< ((8 : Int32) &&& 0x3f).toInt64))]) (lenOf pd_oJcI rfl) rfl (by show 2 * 0 + _ ≤ _; exact Nat.le_of_eq rfl) (hb hby d6_8) (fun _ _ => ⟨rfl, e51q, (by decide : 0 + 0 ≤ _), (by decide : 0 + 0 ≤ _)⟩)
  dsimp only [Pt.U, Pt.locs, Pt.cells, Pt.slots] at X53 l53 y53 z53 st53 hQ53
  subst l53 y53 z53
  obtain ⟨rfl, N53q, e53q⟩ := hQ53
  have N53 := Fr.app N51 N53q
  have s54 : ∀ t, Steps p.tables e below (T53.setTop (mkF m 13 #[.val (.long u0), .second] [(.long (((fholder u0) <<< ((8 : Int32) &&& 0x3f).toInt64) ||| ((fmodes u0).toInt64)))])) t → Steps p.tables e below (T53.setTop (mkF m 11 #[.val (.long u0), .second] [(.int (fmodes u0)), (.long ((fholder u0) <<< ((8 : Int32) &&& 0x3f).toInt64))])) t := by
    intro t kt
    refine XS.i2l X53.here hx rfl (hb hby d6_11) rfl ?_
    show Steps p.tables e below (T53.setTop (mkF m 12 #[.val (.long u0), .second] [(.long ((fmodes u0).toInt64)), (.long ((fholder u0) <<< ((8 : Int32) &&& 0x3f).toInt64))])) t
    refine XS.lor X53.here hx rfl (hb hby d6_12) rfl ?_
    exact kt
  obtain ⟨fs_, hr, hrun, hended, hW, hsame⟩ := X53.leave (v := some (.long (((fholder u0) <<< ((8 : Int32) &&& 0x3f).toInt64) ||| ((fmodes u0).toInt64)))) (fun h => by rw [Bd.returns] at h; cases h)
  refine ⟨_, _, pre0 _ (s50 _ (st51 _ (s52 _ (st53 _ (s54 _ (?_)))))), hrun, hended, _, _, rfl, ?_, ⟨_, rfl⟩, hW, hsame.mono (by decide) (by decide)⟩
  · show Steps p.tables e below (T53.setTop (mkF m 13 #[.val (.long u0), .second] [(.long (((fholder u0) <<< ((8 : Int32) &&& 0x3f).toInt64) ||| ((fmodes u0).toInt64)))])) _
    exact X53.lreturnOut hx Bd.returns (hb hby d6_13) hr
  · show Q6 Z u0 h0 n0 _ T53.heap _
    rw [e53q]
    exact ⟨rfl, N53, rfl⟩
def Q7 (Z : State) (u0 : Int64) (u1 : Int64) (h0 : Heap) (n0 : Nat) (v : Option Value) (h : Heap) (L : List Loc) : Prop := v = some (.long (fpaired u0 u1)) ∧ Fr n0 L ∧ h = h0
set_option maxRecDepth 65536 in
set_option maxHeartbeats 40000000 in
theorem rm7 (l : Launch) (Z : State) (a0 : Array Value) (hw : ∀ d ∈ tables_1, d.before a0 Z = true) (ws : List Jvm.Cond) (u0 : Int64) (u1 : Int64) (h0 : Heap) (n0 : Nat) (Z0 : n0 ≤ h0.size)  :
    MetFree l (⟨"com/example/stern_lock/sternlock/ShortForm", "paired", "(JJ)J"⟩ : MethodName) (head1 (Jvm.Cond.code (⟨"com/example/stern_lock/sternlock/ShortForm", "paired", "(JJ)J"⟩ : MethodName) prog_37_method_13_code 4 (some .long) :: ws) ({ frames := 2, cells := 0, slots := 0, locals := 30 } : Room)) (fun a U => a = #[(.long u0), (.long u1)] ∧ Z.Warmed39 U.vm ∧ U.heap = h0) (fun _ _ _ _ _ => True) (fun _ U o U' => ∃ v L, o = .returned v ∧ Q7 Z u0 u1 h0 n0 v U'.heap L ∧ FrameEnd U o U' L ({ frames := 2, cells := 0, slots := 0, locals := 30 } : Room).cells ({ frames := 2, cells := 0, slots := 0, locals := 30 } : Room).slots) := by
  refine MetFree.of_bodySF (plainFor_of_name pn_com_example_stern_lock_sternlock_ShortForm) hisR ?_
  intro p e s m args0 below meth c s₁ Bd hml0 hP hK
  obtain ⟨rfl, hZ, hh⟩ := hP
  have hx := Bd.exec
  have hby := Bd.bytes
  have hml : c.maxLocals = 4 := hml0
  have hown : s.vm.findClass "com/example/stern_lock/sternlock/ShortForm" = some m.cls := findClass_of_methodNamed Bd.named
  have hnm := (name_of_methodNamed Bd.named Bd.method).1
  have X0 : Stand p l e ({ frames := 2, cells := 0, slots := 0, locals := 30 } : Room) s m #[(.long u0), (.long u1)] below meth c s₁ [] 0 0 := Stand.of_body Bd
  have e0 : s₁.heap = h0 := by rw [← hh, Bd.state]; rfl
  have N0 := Fr.nil n0
  have pre0 : ∀ t, Steps p.tables e below (s₁.setTop (mkF m 0 #[.val (.long u0), .second, .val (.long u1), .second] [])) t → Steps p.tables e below (s₁.setTop (entryFrame m #[(.long u0), (.long u1)] 4)) t := fun t k => castTop (ef_7 m u0 u1) k
  have s55 : ∀ t, Steps p.tables e below (s₁.setTop (mkF m 1 #[.val (.long u0), .second, .val (.long u1), .second] [(.long u0)])) t → Steps p.tables e below (s₁.setTop (mkF m 0 #[.val (.long u0), .second, .val (.long u1), .second] [])) t := by
    intro t kt
    refine XS.lloadN X0.here hx rfl (hb hby d7_0) rfl ?_
    exact kt
  obtain ⟨_, _, ⟨T56, L56, k56, n56⟩, -, X56, ⟨Lc56, hQ56, l56, y56, z56⟩, st56⟩ := Jvm.LawKit.callS X0 hx (y := (⟨"com/example/stern_lock/sternlock/ShortForm", "fitsInPair", "(J)Z"⟩ : MethodName)) hown (mvT hZ (hw _ (List.mem_of_getElem? (i := 14) rfl))) (mvT hZ (hw _ (List.mem_of_getElem? (i := 15) rfl))) (mvT hZ (hw _ (List.mem_of_getElem? (i := 2) rfl))) (mvT hZ (hw _ (List.mem_of_getElem? (i := 16) rfl))) (by decide) (backOf (W := 0) (rm5 l Z a0 hw [] u0 h0 n0 Z0 ) hZ (hw _ (List.mem_of_getElem? (i := 16) rfl)) (hw _ (List.mem_of_getElem? (i := 2) rfl)) (by decide) (by decide)) (g := (mkF m 1 #[.val (.long u0), .second, .val (.long u1), .second] [(.long u0)])) rfl (by rw [hml]; rfl) (argsL := [(.long u0)]) (rest := []) (lenOf pd_oJcZ rfl) rfl (by show 2 * 0 + _ ≤ _; exact Nat.le_of_eq rfl) (hb hby d7_1) (fun _ _ => ⟨rfl, e0, (by decide : 0 + 0 ≤ _), (by decide : 0 + 0 ≤ _)⟩)
  dsimp only [Pt.U, Pt.locs, Pt.cells, Pt.slots] at X56 l56 y56 z56 st56 hQ56
  subst l56 y56 z56
  obtain ⟨rfl, N56q, e56q⟩ := hQ56
  have N56 := Fr.app N0 N56q
  by_cases c57 : (ffits u0) = (0 : Int32)
  ·
    have s58 : ∀ t, Steps p.tables e below (T56.setTop (mkF m 17 #[.val (.long u0), .second, .val (.long u1), .second] [(.long (-2 : Int64))])) t → Steps p.tables e below (T56.setTop (mkF m 4 #[.val (.long u0), .second, .val (.long u1), .second] [(.int (ffits u0))])) t := by
      intro t kt
      refine XS.ifYes X56.here hx rfl (pc0 := 4) (pc' := 14) rfl (hb hby d7_4) rfl ((if0 _ _).trans (teq c57).1) (by decide) (by decide) ?_
      show Steps p.tables e below (T56.setTop (mkF m 14 #[.val (.long u0), .second, .val (.long u1), .second] [])) t
      refine X56.ldc2Long hx hown (mvT hZ (hw _ (List.mem_of_getElem? (i := 32) rfl))) (g := (mkF m 14 #[.val (.long u0), .second, .val (.long u1), .second] [])) rfl (hb hby d7_14) _ ?_
      exact kt
    obtain ⟨fs_, hr, hrun, hended, hW, hsame⟩ := X56.leave (v := some (.long (-2 : Int64))) (fun h => by rw [Bd.returns] at h; cases h)
    refine ⟨_, _, pre0 _ (s55 _ (st56 _ (s58 _ (?_)))), hrun, hended, _, _, rfl, ?_, ⟨_, rfl⟩, hW, hsame.mono (by decide) (by decide)⟩
    · show Steps p.tables e below (T56.setTop (mkF m 17 #[.val (.long u0), .second, .val (.long u1), .second] [(.long (-2 : Int64))])) _
      exact X56.lreturnOut hx Bd.returns (hb hby d7_17) hr
    · show Q7 Z u0 u1 h0 n0 _ T56.heap _
      rw [e56q]
      exact ⟨by simp only [fpaired, if_pos c57], N56, rfl⟩
  ·
    have s59 : ∀ t, Steps p.tables e below (T56.setTop (mkF m 8 #[.val (.long u0), .second, .val (.long u1), .second] [(.long u1)])) t → Steps p.tables e below (T56.setTop (mkF m 4 #[.val (.long u0), .second, .val (.long u1), .second] [(.int (ffits u0))])) t := by
      intro t kt
      refine XS.ifNo X56.here hx rfl (hb hby d7_4) rfl ((if0 _ _).trans (feq c57).1) ?_
      show Steps p.tables e below (T56.setTop (mkF m 7 #[.val (.long u0), .second, .val (.long u1), .second] [])) t
      refine XS.lloadN X56.here hx rfl (hb hby d7_7) rfl ?_
      exact kt
    obtain ⟨_, _, ⟨T60, L60, k60, n60⟩, -, X60, ⟨Lc60, hQ60, l60, y60, z60⟩, st60⟩ := Jvm.LawKit.callS X56 hx (y := (⟨"com/example/stern_lock/sternlock/ShortForm", "fitsInPair", "(J)Z"⟩ : MethodName)) hown (mvT hZ (hw _ (List.mem_of_getElem? (i := 14) rfl))) (mvT hZ (hw _ (List.mem_of_getElem? (i := 15) rfl))) (mvT hZ (hw _ (List.mem_of_getElem? (i := 2) rfl))) (mvT hZ (hw _ (List.mem_of_getElem? (i := 16) rfl))) (by decide) (backOf (W := 0) (rm5 l Z a0 hw [] u1 h0 n0 Z0 ) hZ (hw _ (List.mem_of_getElem? (i := 16) rfl)) (hw _ (List.mem_of_getElem? (i := 2) rfl)) (by decide) (by decide)) (g := (mkF m 8 #[.val (.long u0), .second, .val (.long u1), .second] [(.long u1)])) rfl (by rw [hml]; rfl) (argsL := [(.long u1)]) (rest := []) (lenOf pd_oJcZ rfl) rfl (by show 2 * 0 + _ ≤ _; exact Nat.le_of_eq rfl) (hb hby d7_8) (fun _ _ => ⟨rfl, e56q, (by decide : 0 + 0 ≤ _), (by decide : 0 + 0 ≤ _)⟩)
    dsimp only [Pt.U, Pt.locs, Pt.cells, Pt.slots] at X60 l60 y60 z60 st60 hQ60
    subst l60 y60 z60
    obtain ⟨rfl, N60q, e60q⟩ := hQ60
    have N60 := Fr.app N56 N60q
    by_cases c61 : (ffits u1) = (0 : Int32)
    ·
      have s62 : ∀ t, Steps p.tables e below (T60.setTop (mkF m 17 #[.val (.long u0), .second, .val (.long u1), .second] [(.long (-2 : Int64))])) t → Steps p.tables e below (T60.setTop (mkF m 11 #[.val (.long u0), .second, .val (.long u1), .second] [(.int (ffits u1))])) t := by
        intro t kt
        refine XS.ifNo X60.here hx rfl (hb hby d7_11) rfl ((if0 _ _).trans (teq c61).2) ?_
        show Steps p.tables e below (T60.setTop (mkF m 14 #[.val (.long u0), .second, .val (.long u1), .second] [])) t
        refine X60.ldc2Long hx hown (mvT hZ (hw _ (List.mem_of_getElem? (i := 32) rfl))) (g := (mkF m 14 #[.val (.long u0), .second, .val (.long u1), .second] [])) rfl (hb hby d7_14) _ ?_
        exact kt
      obtain ⟨fs_, hr, hrun, hended, hW, hsame⟩ := X60.leave (v := some (.long (-2 : Int64))) (fun h => by rw [Bd.returns] at h; cases h)
      refine ⟨_, _, pre0 _ (s55 _ (st56 _ (s59 _ (st60 _ (s62 _ (?_)))))), hrun, hended, _, _, rfl, ?_, ⟨_, rfl⟩, hW, hsame.mono (by decide) (by decide)⟩
      · show Steps p.tables e below (T60.setTop (mkF m 17 #[.val (.long u0), .second, .val (.long u1), .second] [(.long (-2 : Int64))])) _
        exact X60.lreturnOut hx Bd.returns (hb hby d7_17) hr
      · show Q7 Z u0 u1 h0 n0 _ T60.heap _
        rw [e60q]
        exact ⟨by simp only [fpaired, if_neg c57, if_pos c61], N60, rfl⟩
    ·
      have s63 : ∀ t, Steps p.tables e below (T60.setTop (mkF m 22 #[.val (.long u0), .second, .val (.long u1), .second] [(.long u0), (.long (-9223372036854775808 : Int64))])) t → Steps p.tables e below (T60.setTop (mkF m 11 #[.val (.long u0), .second, .val (.long u1), .second] [(.int (ffits u1))])) t := by
        intro t kt
        refine XS.ifYes X60.here hx rfl (pc0 := 11) (pc' := 18) rfl (hb hby d7_11) rfl ((if0 _ _).trans (feq c61).2) (by decide) (by decide) ?_
        show Steps p.tables e below (T60.setTop (mkF m 18 #[.val (.long u0), .second, .val (.long u1), .second] [])) t
        refine X60.ldc2Long hx hown (mvT hZ (hw _ (List.mem_of_getElem? (i := 25) rfl))) (g := (mkF m 18 #[.val (.long u0), .second, .val (.long u1), .second] [])) rfl (hb hby d7_18) _ ?_
        show Steps p.tables e below (T60.setTop (mkF m 21 #[.val (.long u0), .second, .val (.long u1), .second] [(.long (-9223372036854775808 : Int64))])) t
        refine XS.lloadN X60.here hx rfl (hb hby d7_21) rfl ?_
        exact kt
      obtain ⟨_, _, ⟨T64, L64, k64, n64⟩, -, X64, ⟨Lc64, hQ64, l64, y64, z64⟩, st64⟩ := Jvm.LawKit.callS X60 hx (y := (⟨"com/example/stern_lock/sternlock/ShortForm", "half", "(J)J"⟩ : MethodName)) hown (mvT hZ (hw _ (List.mem_of_getElem? (i := 26) rfl))) (mvT hZ (hw _ (List.mem_of_getElem? (i := 27) rfl))) (mvT hZ (hw _ (List.mem_of_getElem? (i := 2) rfl))) (mvT hZ (hw _ (List.mem_of_getElem? (i := 28) rfl))) (by decide) (backOf (W := 2) (rm6 l Z a0 hw [] u0 h0 n0 Z0 ) hZ (hw _ (List.mem_of_getElem? (i := 28) rfl)) (hw _ (List.mem_of_getElem? (i := 2) rfl)) (by decide) (by decide)) (g := (mkF m 22 #[.val (.long u0), .second, .val (.long u1), .second] [(.long u0), (.long (-9223372036854775808 : Int64))])) rfl (by rw [hml]; rfl) (argsL := [(.long u0)]) (rest := [(.long (-9223372036854775808 : Int64))]) (lenOf pd_oJcJ rfl) rfl (by show 2 * 0 + _ ≤ _; exact Nat.le_of_eq rfl) (hb hby d7_22) (fun _ _ => ⟨rfl, e60q, (by decide : 0 + 0 ≤ _), (by decide : 0 + 0 ≤ _)⟩)
      dsimp only [Pt.U, Pt.locs, Pt.cells, Pt.slots] at X64 l64 y64 z64 st64 hQ64
      subst l64 y64 z64
      obtain ⟨rfl, N64q, e64q⟩ := hQ64
      have N64 := Fr.app N60 N64q
      have s65 : ∀ t, Steps p.tables e below (T64.setTop (mkF m 30 #[.val (.long u0), .second, .val (.long u1), .second] [(.long u1), (.long ((-9223372036854775808 : Int64) ||| ((fhalf u0) <<< ((31 : Int32) &&& 0x3f).toInt64)))])) t → Steps p.tables e below (T64.setTop (mkF m 25 #[.val (.long u0), .second, .val (.long u1), .second] [(.long (fhalf u0)), (.long (-9223372036854775808 : Int64))])) t := by
        intro t kt
        refine XS.bipush X64.here hx rfl (hb hby d7_25) ?_
        show Steps p.tables e below (T64.setTop (mkF m 27 #[.val (.long u0), .second, .val (.long u1), .second] [(.int (31 : Int32)), (.long (fhalf u0)), (.long (-9223372036854775808 : Int64))])) t
        refine XS.lshl X64.here hx rfl (hb hby d7_27) rfl ?_
        show Steps p.tables e below (T64.setTop (mkF m 28 #[.val (.long u0), .second, .val (.long u1), .second] [(.long ((fhalf u0) <<< ((31 : Int32) &&& 0x3f).toInt64)), (.long (-9223372036854775808 : Int64))])) t
        refine XS.lor X64.here hx rfl (hb hby d7_28) rfl ?_
        show Steps p.tables e below (T64.setTop (mkF m 29 #[.val (.long u0), .second, .val (.long u1), .second] [(.long ((-9223372036854775808 : Int64) ||| ((fhalf u0) <<< ((31 : Int32) &&& 0x3f).toInt64)))])) t
        refine XS.lloadN X64.here hx rfl (hb hby d7_29) rfl ?_
        exact kt
      obtain ⟨_, _, ⟨T66, L66, k66, n66⟩, -, X66, ⟨Lc66, hQ66, l66, y66, z66⟩, st66⟩ := Jvm.LawKit.callS X64 hx (y := (⟨"com/example/stern_lock/sternlock/ShortForm", "half", "(J)J"⟩ : MethodName)) hown (mvT hZ (hw _ (List.mem_of_getElem? (i := 26) rfl))) (mvT hZ (hw _ (List.mem_of_getElem? (i := 27) rfl))) (mvT hZ (hw _ (List.mem_of_getElem? (i := 2) rfl))) (mvT hZ (hw _ (List.mem_of_getElem? (i := 28) rfl))) (by decide) (backOf (W := 2) (rm6 l Z a0 hw [] u1 h0 n0 Z0 ) hZ (hw _ (List.mem_of_getElem? (i := 28) rfl)) (hw _ (List.mem_of_getElem? (i := 2) rfl)) (by decide) (by decide)) (g := (mkF m 30 #[.val (.long u0), .second, .val (.long u1), .second] [(.long u1), (.long ((-9223372036854775808 : Int64) ||| ((fhalf u0) <<< ((31 : Int32) &&& 0x3f).toInt64)))])) rfl (by rw [hml]; rfl) (argsL := [(.long u1)]) (rest := [(.long ((-9223372036854775808 : Int64) ||| ((fhalf u0) <<< ((31 : Int32) &&& 0x3f).toInt64)))]) (lenOf pd_oJcJ rfl) rfl (by show 2 * 0 + _ ≤ _; exact Nat.le_of_eq rfl) (hb hby d7_30) (fun _ _ => ⟨rfl, e64q, (by decide : 0 + 0 ≤ _), (by decide : 0 + 0 ≤ _)⟩)
      dsimp only [Pt.U, Pt.locs, Pt.cells, Pt.slots] at X66 l66 y66 z66 st66 hQ66
      subst l66 y66 z66
      obtain ⟨rfl, N66q, e66q⟩ := hQ66
      have N66 := Fr.app N64 N66q
      have s67 : ∀ t, Steps p.tables e below (T66.setTop (mkF m 34 #[.val (.long u0), .second, .val (.long u1), .second] [(.long (((-9223372036854775808 : Int64) ||| ((fhalf u0) <<< ((31 : Int32) &&& 0x3f).toInt64)) ||| (fhalf u1)))])) t → Steps p.tables e below (T66.setTop (mkF m 33 #[.val (.long u0), .second, .val (.long u1), .second] [(.long (fhalf u1)), (.long ((-9223372036854775808 : Int64) ||| ((fhalf u0) <<< ((31 : Int32) &&& 0x3f).toInt64)))])) t := by
        intro t kt
        refine XS.lor X66.here hx rfl (hb hby d7_33) rfl ?_
        exact kt
      obtain ⟨fs_, hr, hrun, hended, hW, hsame⟩ := X66.leave (v := some (.long (((-9223372036854775808 : Int64) ||| ((fhalf u0) <<< ((31 : Int32) &&& 0x3f).toInt64)) ||| (fhalf u1)))) (fun h => by rw [Bd.returns] at h; cases h)
      refine ⟨_, _, pre0 _ (s55 _ (st56 _ (s59 _ (st60 _ (s63 _ (st64 _ (s65 _ (st66 _ (s67 _ (?_)))))))))), hrun, hended, _, _, rfl, ?_, ⟨_, rfl⟩, hW, hsame.mono (by decide) (by decide)⟩
      · show Steps p.tables e below (T66.setTop (mkF m 34 #[.val (.long u0), .second, .val (.long u1), .second] [(.long (((-9223372036854775808 : Int64) ||| ((fhalf u0) <<< ((31 : Int32) &&& 0x3f).toInt64)) ||| (fhalf u1)))])) _
        exact X66.lreturnOut hx Bd.returns (hb hby d7_34) hr
      · show Q7 Z u0 u1 h0 n0 _ T66.heap _
        rw [e66q]
        exact ⟨by simp only [fpaired, if_neg c57, if_neg c61], N66, rfl⟩
theorem own_top (b : BitVec 64) : b &&& 13835058055282163712#64 = (b >>> 62) <<< 62 := by
  refine BitVec.eq_of_getLsbD_eq fun i hi => ?_
  have e : (13835058055282163712#64 : BitVec 64) = (BitVec.allOnes 64) <<< 62 := by decide
  rw [e, BitVec.getLsbD_and, BitVec.getLsbD_shiftLeft, BitVec.getLsbD_shiftLeft, BitVec.getLsbD_ushiftRight, BitVec.getLsbD_allOnes]
  by_cases h : i < 62
  · simp [h]
  · have h2 : 62 + (i - 62) = i := by omega
    have h3 : i - 62 < 64 := by omega
    simp [h, hi, h2, h3]
theorem own_int (w : Int64) : (w.toBitVec.toNat < 9223372036854775808 ∧ w.toInt = w.toBitVec.toNat) ∨ (9223372036854775808 ≤ w.toBitVec.toNat ∧ w.toBitVec.toNat < 18446744073709551616 ∧ w.toInt = w.toBitVec.toNat - 18446744073709551616) := by
  have hn := w.toBitVec.isLt
  have hi : w.toInt = w.toBitVec.toInt := rfl
  rw [hi, BitVec.toInt_eq_toNat_cond]
  split <;> omega
theorem own_iff (w : Int64) : (w &&& (-4611686018427387904 : Int64)) = (-9223372036854775808 : Int64) ↔ w.toInt < -4611686018427387904 := by
  have e : ((w &&& (-4611686018427387904 : Int64)) = (-9223372036854775808 : Int64)) ↔ ((w.toBitVec >>> 62) <<< 62).toNat = 9223372036854775808 := by
    rw [← own_top, ← Int64.toBitVec_inj, ← BitVec.toNat_inj]
    exact Iff.rfl
  have hv := own_int w
  rw [e, BitVec.toNat_shiftLeft, BitVec.toNat_ushiftRight, Nat.shiftRight_eq_div_pow, Nat.shiftLeft_eq]
  omega
theorem own_ushr (x : Int64) (n : Int32) (k : Nat) (hk : (n &&& 0x3f).toInt64.toUInt64.toBitVec.toNat % 64 = k) :
    ((x.toUInt64 >>> (n &&& 0x3f).toInt64.toUInt64).toInt64).toBitVec = x.toBitVec >>> k := by
  show (x.toUInt64 >>> (n &&& 0x3f).toInt64.toUInt64).toBitVec = _
  rw [UInt64.toBitVec_shiftRight]
  show x.toBitVec >>> ((n &&& 0x3f).toInt64.toUInt64.toBitVec % 64) = _
  rw [BitVec.ushiftRight_eq', BitVec.toNat_umod]
  exact congrArg (x.toBitVec >>> ·) hk
theorem own_ushrN (x : Int64) (n : Int32) (k : Nat) (hk : (n &&& 0x3f).toInt64.toUInt64.toBitVec.toNat % 64 = k) :
    ((x.toUInt64 >>> (n &&& 0x3f).toInt64.toUInt64).toInt64).toBitVec.toNat = x.toBitVec.toNat / 2 ^ k := by
  rw [own_ushr x n k hk, BitVec.toNat_ushiftRight, Nat.shiftRight_eq_div_pow]
theorem own_shlN (x : Int64) (n : Int32) (k : Nat) (hk : ((n &&& 0x3f).toInt64.toBitVec.smod 64).toNat = k) :
    (x <<< (n &&& 0x3f).toInt64).toBitVec.toNat = x.toBitVec.toNat * 2 ^ k % 2 ^ 64 := by
  rw [Int64.toBitVec_shiftLeft, BitVec.shiftLeft_eq', BitVec.toNat_shiftLeft, hk, Nat.shiftLeft_eq]
theorem own_eqN {x y : Int64} (h : x.toBitVec.toNat = y.toBitVec.toNat) : x = y := Int64.toBitVec_inj.mp (BitVec.toNat_inj.mp h)
theorem own_A (x : Int64) (w : Int32) (h : w = (if ((x.toUInt64 >>> ((62 : Int32) &&& 0x3f).toInt64.toUInt64).toInt64) = (3 : Int64) then (0 : Int32) else (1 : Int32))) : (fisShort x) = w := by
  have hs := own_ushrN x 62 62 (by decide)
  have hv := own_int x
  have k3 : ((x.toUInt64 >>> ((62 : Int32) &&& 0x3f).toInt64.toUInt64).toInt64) = (3 : Int64) ↔ x.toBitVec.toNat / 2 ^ 62 = 3 := by
    rw [← hs]
    exact ⟨fun q => by rw [q]; rfl, fun q => own_eqN (by rw [q]; rfl)⟩
  have kl : x < (0 : Int64) ↔ x.toInt < 0 := by rw [Int64.lt_iff_toInt_lt]; exact Iff.rfl
  rw [h]
  show (if x < (0 : Int64) then (if (x &&& (-4611686018427387904 : Int64)) = (-9223372036854775808 : Int64) then (1 : Int32) else (0 : Int32)) else (1 : Int32)) = _
  by_cases h0 : x.toInt < 0
  · rw [if_pos (kl.mpr h0)]
    by_cases h1 : x.toInt < -4611686018427387904
    · rw [if_pos ((own_iff x).mpr h1), if_neg (mt k3.mp (by omega))]
    · rw [if_neg (mt (own_iff x).mp h1), if_pos (k3.mpr (by omega))]
  · rw [if_neg (mt kl.mp h0), if_neg (mt k3.mp (by omega))]
theorem own_m (m M : Int32) (k : Nat) (hk : k ≤ 30) (h1 : 1 ≤ k) (hM : M.toBitVec.toNat < 2 ^ k) : (((m &&& M) ||| (1 : Int32)).toInt64).toBitVec.toNat < 2 ^ k := by
  have p1 : 1 < 2 ^ k := Nat.one_lt_two_pow (by omega)
  have p2 : 2 ^ k ≤ 2 ^ 30 := Nat.pow_le_pow_right (by decide) hk
  have a : ((m &&& M) ||| (1 : Int32)).toBitVec.toNat < 2 ^ k := by
    rw [Int32.toBitVec_or, Int32.toBitVec_and, BitVec.toNat_or, BitVec.toNat_and]
    exact Nat.or_lt_two_pow (Nat.lt_of_le_of_lt Nat.and_le_right hM) p1
  have b : ((m &&& M) ||| (1 : Int32)).toInt = ((m &&& M) ||| (1 : Int32)).toBitVec.toNat := by
    have hi : ((m &&& M) ||| (1 : Int32)).toInt = ((m &&& M) ||| (1 : Int32)).toBitVec.toInt := rfl
    rw [hi, BitVec.toInt_eq_toNat_cond, if_pos (by omega)]
  have c := Int32.toInt_toInt64 ((m &&& M) ||| (1 : Int32))
  have v := own_int (((m &&& M) ||| (1 : Int32)).toInt64)
  omega
theorem own_h (h M : Int64) (k : Nat) (hM : M.toBitVec.toNat < 2 ^ k) : (h &&& M).toBitVec.toNat < 2 ^ k := by
  rw [Int64.toBitVec_and, BitVec.toNat_and]
  exact Nat.lt_of_le_of_lt Nat.and_le_right hM
theorem own_of (h : Int64) (m : Int32) (hh : h.toBitVec.toNat < 2 ^ 47) (hm : m.toInt64.toBitVec.toNat < 2 ^ 16) : (fof h m).toBitVec.toNat = 2 ^ 16 * h.toBitVec.toNat + m.toInt64.toBitVec.toNat := by
  show ((h <<< ((16 : Int32) &&& 0x3f).toInt64) ||| (m.toInt64)).toBitVec.toNat = _
  rw [Int64.toBitVec_or, BitVec.toNat_or, own_shlN h 16 16 (by decide), Nat.mod_eq_of_lt (by omega), Nat.two_pow_add_eq_or_of_lt hm, Nat.mul_comm]
theorem own_B (h : Int64) (m : Int32) : ¬ ((fisShort (fof (h &&& (140737488355327 : Int64)) ((m &&& (65535 : Int32)) ||| (1 : Int32)))) = (0 : Int32)) := by
  have a := own_h h (140737488355327 : Int64) 47 (by decide)
  have b := own_m m (65535 : Int32) 16 (by decide) (by decide) (by decide)
  have c := own_of _ _ a b
  generalize fof (h &&& (140737488355327 : Int64)) ((m &&& (65535 : Int32)) ||| (1 : Int32)) = x at *
  have v := own_int x
  have kl : x < (0 : Int64) ↔ x.toInt < 0 := by rw [Int64.lt_iff_toInt_lt]; exact Iff.rfl
  show ¬ ((if x < (0 : Int64) then _ else (1 : Int32)) = 0)
  rw [if_neg (mt kl.mp (by omega))]
  decide
theorem own_parts (a : Int64) (H N : Nat) (hH : H < 2 ^ 23) (hN : N < 2 ^ 8) (ha : a.toBitVec.toNat = 2 ^ 16 * H + N) : ¬ (ffits a = 0) ∧ (fhalf a).toBitVec.toNat = 2 ^ 8 * H + N := by
  have e1 : (fholder a).toBitVec.toNat = H := by
    show ((a.toUInt64 >>> ((16 : Int32) &&& 0x3f).toInt64.toUInt64).toInt64).toBitVec.toNat = _
    rw [own_ushrN a 16 16 (by decide), ha]; omega
  have e2 : (a &&& (65535 : Int64)).toBitVec.toNat = N := by
    rw [Int64.toBitVec_and, BitVec.toNat_and, ha]
    show (2 ^ 16 * H + N) &&& (2 ^ 16 - 1) = N
    rw [Nat.and_two_pow_sub_one_eq_mod]; omega
  have v0 := own_int (a &&& (65535 : Int64))
  have e4 : (fmodes a).toInt64.toBitVec.toNat = N := by
    have b : (fmodes a).toInt = N := by
      show ((a &&& (65535 : Int64)).toInt32).toInt = N
      rw [Int64.toInt_toInt32, Int.bmod_def]; omega
    have c := Int32.toInt_toInt64 (fmodes a)
    have v := own_int (fmodes a).toInt64
    omega
  have f1 : (((fholder a).toUInt64 >>> ((23 : Int32) &&& 0x3f).toInt64.toUInt64).toInt64) = (0 : Int64) := own_eqN (by
    rw [own_ushrN (fholder a) 23 23 (by decide), e1]
    show H / 2 ^ 23 = 0
    omega)
  have low : ∀ n, n < 256 → n &&& 18446744073709551360 = 0 := by decide +kernel
  have f2 : (((fmodes a).toInt64) &&& (-256 : Int64)) = (0 : Int64) := own_eqN (by
    rw [Int64.toBitVec_and, BitVec.toNat_and, e4]
    exact low N (by omega))
  refine ⟨?_, ?_⟩
  · show ¬ ((if (((fholder a).toUInt64 >>> ((23 : Int32) &&& 0x3f).toInt64.toUInt64).toInt64) = (0 : Int64) then (if (((fmodes a).toInt64) &&& (-256 : Int64)) = (0 : Int64) then (1 : Int32) else (0 : Int32)) else (0 : Int32)) = 0)
    rw [if_pos f1, if_pos f2]; decide
  · show (((fholder a) <<< ((8 : Int32) &&& 0x3f).toInt64) ||| ((fmodes a).toInt64)).toBitVec.toNat = _
    rw [Int64.toBitVec_or, BitVec.toNat_or, own_shlN _ 8 8 (by decide), e1, e4, Nat.mod_eq_of_lt (by omega), Nat.two_pow_add_eq_or_of_lt hN, Nat.mul_comm]
theorem own_C (h1 : Int64) (m1 : Int32) (h2 : Int64) (m2 : Int32) :
    ((fpaired (fof (h1 &&& (8388607 : Int64)) ((m1 &&& (255 : Int32)) ||| (1 : Int32))) (fof (h2 &&& (8388607 : Int64)) ((m2 &&& (255 : Int32)) ||| (1 : Int32)))) < (0 : Int64)) ∧
    ¬ ((fisShort (fpaired (fof (h1 &&& (8388607 : Int64)) ((m1 &&& (255 : Int32)) ||| (1 : Int32))) (fof (h2 &&& (8388607 : Int64)) ((m2 &&& (255 : Int32)) ||| (1 : Int32))))) = (0 : Int32)) := by
  have a1 := own_h h1 (8388607 : Int64) 23 (by decide)
  have b1 := own_m m1 (255 : Int32) 8 (by decide) (by decide) (by decide)
  have c1 := own_of (h1 &&& (8388607 : Int64)) ((m1 &&& (255 : Int32)) ||| (1 : Int32)) (by omega) (by omega)
  have a2 := own_h h2 (8388607 : Int64) 23 (by decide)
  have b2 := own_m m2 (255 : Int32) 8 (by decide) (by decide) (by decide)
  have c2 := own_of (h2 &&& (8388607 : Int64)) ((m2 &&& (255 : Int32)) ||| (1 : Int32)) (by omega) (by omega)
  obtain ⟨f1, g1⟩ := own_parts _ _ _ a1 b1 c1
  obtain ⟨f2, g2⟩ := own_parts _ _ _ a2 b2 c2
  generalize fof (h1 &&& (8388607 : Int64)) ((m1 &&& (255 : Int32)) ||| (1 : Int32)) = a at *
  generalize fof (h2 &&& (8388607 : Int64)) ((m2 &&& (255 : Int32)) ||| (1 : Int32)) = b at *
  have hp : fpaired a b = (((-9223372036854775808 : Int64) ||| ((fhalf a) <<< ((31 : Int32) &&& 0x3f).toInt64)) ||| (fhalf b)) := by
    show (if (ffits a) = (0 : Int32) then (-2 : Int64) else (if (ffits b) = (0 : Int32) then (-2 : Int64) else _)) = _
    rw [if_neg f1, if_neg f2]
  have la : (fhalf a).toBitVec.toNat < 2 ^ 31 := by omega
  have lb : (fhalf b).toBitVec.toNat < 2 ^ 31 := by omega
  have hn : (fpaired a b).toBitVec.toNat = 2 ^ 63 + (2 ^ 31 * (fhalf a).toBitVec.toNat + (fhalf b).toBitVec.toNat) := by
    rw [hp, Int64.toBitVec_or, Int64.toBitVec_or, BitVec.toNat_or, BitVec.toNat_or, own_shlN _ 31 31 (by decide), Nat.mod_eq_of_lt (by omega), Nat.or_assoc, Nat.mul_comm _ (2 ^ 31), ← Nat.two_pow_add_eq_or_of_lt lb]
    have q := Nat.two_pow_add_eq_or_of_lt (i := 63) (b := 2 ^ 31 * (fhalf a).toBitVec.toNat + (fhalf b).toBitVec.toNat) (by omega) 1
    rw [Nat.mul_one] at q
    exact q.symm
  generalize fpaired a b = x at *
  have v := own_int x
  have kl : x < (0 : Int64) ↔ x.toInt < 0 := by rw [Int64.lt_iff_toInt_lt]; exact Iff.rfl
  refine ⟨kl.mpr (by omega), ?_⟩
  show ¬ ((if x < (0 : Int64) then (if (x &&& (-4611686018427387904 : Int64)) = (-9223372036854775808 : Int64) then (1 : Int32) else (0 : Int32)) else (1 : Int32)) = 0)
  rw [if_pos (kl.mpr (by omega)), if_pos ((own_iff x).mpr (by omega))]
  decide

def Q0 (Z : State) (ax : Int64) (ah1 : Int64) (am1 : Int32) (ah2 : Int64) (am2 : Int32) (h0 : Heap) (n0 : Nat) (v : Option Value) (h : Heap) (L : List Loc) : Prop := v = some (.int 1) ∧ Fr n0 L
set_option maxRecDepth 65536 in
set_option maxHeartbeats 40000000 in
theorem rm0 (l : Launch) (Z : State) (a0 : Array Value) (hw : ∀ d ∈ tables_1, d.before a0 Z = true) (ws : List Jvm.Cond) (ax : Int64) (ah1 : Int64) (am1 : Int32) (ah2 : Int64) (am2 : Int32) (h0 : Heap) (n0 : Nat) (Z0 : n0 ≤ h0.size)  :
    MetFree l x (head1 (Jvm.Cond.code x code maxLocals ret :: ws) room_1) (fun a U => a = #[(.long ax), (.long ah1), (.int am1), (.long ah2), (.int am2)] ∧ Z.Warmed39 U.vm ∧ U.heap = h0) (fun _ _ _ _ _ => True) (fun _ U o U' => ∃ v L, o = .returned v ∧ Q0 Z ax ah1 am1 ah2 am2 h0 n0 v U'.heap L ∧ FrameEnd U o U' L room_1.cells room_1.slots) := by
  refine MetFree.of_bodySF (plainFor_of_name pn_com_example_stern_lock_sternlock_ShortFormIsShortPinLaw) hisR ?_
  intro p e s m args0 below meth c s₁ Bd hml0 hP hK
  obtain ⟨rfl, hZ, hh⟩ := hP
  have hx := Bd.exec
  have hby := Bd.bytes
  have hml : c.maxLocals = 17 := hml0
  have hown : s.vm.findClass "com/example/stern_lock/sternlock/ShortFormIsShortPinLaw" = some m.cls := findClass_of_methodNamed Bd.named
  have hnm := (name_of_methodNamed Bd.named Bd.method).1
  have X0 : Stand p l e room_1 s m #[(.long ax), (.long ah1), (.int am1), (.long ah2), (.int am2)] below meth c s₁ [] 0 0 := Stand.of_body Bd
  have e0 : s₁.heap = h0 := by rw [← hh, Bd.state]; rfl
  have N0 := Fr.nil n0
  have pre0 : ∀ t, Steps p.tables e below (s₁.setTop (mkF m 0 #[.val (.long ax), .second, .val (.long ah1), .second, .val (.int am1), .val (.long ah2), .second, .val (.int am2), .unset, .unset, .unset, .unset, .unset, .unset, .unset, .unset, .unset] [])) t → Steps p.tables e below (s₁.setTop (entryFrame m #[(.long ax), (.long ah1), (.int am1), (.long ah2), (.int am2)] maxLocals)) t := fun t k => castTop (ef_0 m ax ah1 am1 ah2 am2) k
  have s68 : ∀ t, Steps p.tables e below (s₁.setTop (mkF m 1 #[.val (.long ax), .second, .val (.long ah1), .second, .val (.int am1), .val (.long ah2), .second, .val (.int am2), .unset, .unset, .unset, .unset, .unset, .unset, .unset, .unset, .unset] [(.long ax)])) t → Steps p.tables e below (s₁.setTop (mkF m 0 #[.val (.long ax), .second, .val (.long ah1), .second, .val (.int am1), .val (.long ah2), .second, .val (.int am2), .unset, .unset, .unset, .unset, .unset, .unset, .unset, .unset, .unset] [])) t := by
    intro t kt
    refine XS.lloadN X0.here hx rfl (hb hby at_0) rfl ?_
    exact kt
  obtain ⟨_, _, ⟨T69, L69, k69, n69⟩, -, X69, ⟨Lc69, hQ69, l69, y69, z69⟩, st69⟩ := Jvm.LawKit.callS X0 hx (y := (⟨"com/example/stern_lock/sternlock/ShortForm", "isShort", "(J)Z"⟩ : MethodName)) hown (mvT hZ (hw _ (List.mem_of_getElem? (i := 0) rfl))) (mvT hZ (hw _ (List.mem_of_getElem? (i := 1) rfl))) (mvT hZ (hw _ (List.mem_of_getElem? (i := 2) rfl))) (mvT hZ (hw _ (List.mem_of_getElem? (i := 3) rfl))) (by decide) (backOf (W := 0) (rm1 l Z a0 hw [] ax h0 n0 Z0 ) hZ (hw _ (List.mem_of_getElem? (i := 3) rfl)) (hw _ (List.mem_of_getElem? (i := 2) rfl)) (by decide) (by decide)) (g := (mkF m 1 #[.val (.long ax), .second, .val (.long ah1), .second, .val (.int am1), .val (.long ah2), .second, .val (.int am2), .unset, .unset, .unset, .unset, .unset, .unset, .unset, .unset, .unset] [(.long ax)])) rfl (by rw [hml]; rfl) (argsL := [(.long ax)]) (rest := []) (lenOf pd_oJcZ rfl) rfl (by show 2 * 0 + _ ≤ _; exact Nat.le_of_eq rfl) (hb hby at_1) (fun _ _ => ⟨rfl, e0, (by decide : 0 + 0 ≤ _), (by decide : 0 + 0 ≤ _)⟩)
  dsimp only [Pt.U, Pt.locs, Pt.cells, Pt.slots] at X69 l69 y69 z69 st69 hQ69
  subst l69 y69 z69
  obtain ⟨rfl, N69q, e69q⟩ := hQ69
  have N69 := Fr.app N0 N69q
  have s70 : ∀ t, Steps p.tables e below (T69.setTop (mkF m 12 #[.val (.long ax), .second, .val (.long ah1), .second, .val (.int am1), .val (.long ah2), .second, .val (.int am2), .unset, .unset, .unset, .unset, .unset, .unset, .unset, .unset, .unset] [(.int (lcmpW ((ax.toUInt64 >>> ((62 : Int32) &&& 0x3f).toInt64.toUInt64).toInt64) (3 : Int64))), (.int (fisShort ax))])) t → Steps p.tables e below (T69.setTop (mkF m 4 #[.val (.long ax), .second, .val (.long ah1), .second, .val (.int am1), .val (.long ah2), .second, .val (.int am2), .unset, .unset, .unset, .unset, .unset, .unset, .unset, .unset, .unset] [(.int (fisShort ax))])) t := by
    intro t kt
    refine XS.lloadN X69.here hx rfl (hb hby at_4) rfl ?_
    show Steps p.tables e below (T69.setTop (mkF m 5 #[.val (.long ax), .second, .val (.long ah1), .second, .val (.int am1), .val (.long ah2), .second, .val (.int am2), .unset, .unset, .unset, .unset, .unset, .unset, .unset, .unset, .unset] [(.long ax), (.int (fisShort ax))])) t
    refine XS.bipush X69.here hx rfl (hb hby at_5) ?_
    show Steps p.tables e below (T69.setTop (mkF m 7 #[.val (.long ax), .second, .val (.long ah1), .second, .val (.int am1), .val (.long ah2), .second, .val (.int am2), .unset, .unset, .unset, .unset, .unset, .unset, .unset, .unset, .unset] [(.int (62 : Int32)), (.long ax), (.int (fisShort ax))])) t
    refine XS.lushr X69.here hx rfl (hb hby at_7) rfl ?_
    show Steps p.tables e below (T69.setTop (mkF m 8 #[.val (.long ax), .second, .val (.long ah1), .second, .val (.int am1), .val (.long ah2), .second, .val (.int am2), .unset, .unset, .unset, .unset, .unset, .unset, .unset, .unset, .unset] [(.long ((ax.toUInt64 >>> ((62 : Int32) &&& 0x3f).toInt64.toUInt64).toInt64)), (.int (fisShort ax))])) t
    refine X69.ldc2Long hx hown (mvT hZ (hw _ (List.mem_of_getElem? (i := 4) rfl))) (g := (mkF m 8 #[.val (.long ax), .second, .val (.long ah1), .second, .val (.int am1), .val (.long ah2), .second, .val (.int am2), .unset, .unset, .unset, .unset, .unset, .unset, .unset, .unset, .unset] [(.long ((ax.toUInt64 >>> ((62 : Int32) &&& 0x3f).toInt64.toUInt64).toInt64)), (.int (fisShort ax))])) rfl (hb hby at_8) _ ?_
    show Steps p.tables e below (T69.setTop (mkF m 11 #[.val (.long ax), .second, .val (.long ah1), .second, .val (.int am1), .val (.long ah2), .second, .val (.int am2), .unset, .unset, .unset, .unset, .unset, .unset, .unset, .unset, .unset] [(.long (3 : Int64)), (.long ((ax.toUInt64 >>> ((62 : Int32) &&& 0x3f).toInt64.toUInt64).toInt64)), (.int (fisShort ax))])) t
    refine XS.lcmp X69.here hx rfl (hb hby at_11) rfl ?_
    exact kt
  obtain ⟨w74, hw74, j80⟩ : ∃ (w74 : Int32), w74 = (if ((ax.toUInt64 >>> ((62 : Int32) &&& 0x3f).toInt64.toUInt64).toInt64) = (3 : Int64) then (0 : Int32) else (1 : Int32)) ∧ ∀ t, Steps p.tables e below (T69.setTop (mkF m 20 #[.val (.long ax), .second, .val (.long ah1), .second, .val (.int am1), .val (.long ah2), .second, .val (.int am2), .unset, .unset, .unset, .unset, .unset, .unset, .unset, .unset, .unset] [(.int w74), (.int (fisShort ax))])) t → Steps p.tables e below (T69.setTop (mkF m 12 #[.val (.long ax), .second, .val (.long ah1), .second, .val (.int am1), .val (.long ah2), .second, .val (.int am2), .unset, .unset, .unset, .unset, .unset, .unset, .unset, .unset, .unset] [(.int (lcmpW ((ax.toUInt64 >>> ((62 : Int32) &&& 0x3f).toInt64.toUInt64).toInt64) (3 : Int64))), (.int (fisShort ax))])) t := by
    by_cases c71 : ((ax.toUInt64 >>> ((62 : Int32) &&& 0x3f).toInt64.toUInt64).toInt64) = (3 : Int64)
    ·
      have s72 : ∀ t, Steps p.tables e below (T69.setTop (mkF m 20 #[.val (.long ax), .second, .val (.long ah1), .second, .val (.int am1), .val (.long ah2), .second, .val (.int am2), .unset, .unset, .unset, .unset, .unset, .unset, .unset, .unset, .unset] [(.int (0 : Int32)), (.int (fisShort ax))])) t → Steps p.tables e below (T69.setTop (mkF m 12 #[.val (.long ax), .second, .val (.long ah1), .second, .val (.int am1), .val (.long ah2), .second, .val (.int am2), .unset, .unset, .unset, .unset, .unset, .unset, .unset, .unset, .unset] [(.int (lcmpW ((ax.toUInt64 >>> ((62 : Int32) &&& 0x3f).toInt64.toUInt64).toInt64) (3 : Int64))), (.int (fisShort ax))])) t := by
        intro t kt
        refine XS.ifYes X69.here hx rfl (pc0 := 12) (pc' := 19) rfl (hb hby at_12) rfl ((if0 _ _).trans (teq ((lw_eq _ _).mpr c71)).1) (by decide) (by decide) ?_
        show Steps p.tables e below (T69.setTop (mkF m 19 #[.val (.long ax), .second, .val (.long ah1), .second, .val (.int am1), .val (.long ah2), .second, .val (.int am2), .unset, .unset, .unset, .unset, .unset, .unset, .unset, .unset, .unset] [(.int (fisShort ax))])) t
        refine XS.iconst X69.here hx rfl (hb hby at_19) ?_
        exact kt
      exact ⟨(0 : Int32), (if_pos c71).symm, fun t kt => s72 _ (kt)⟩
    ·
      have s73 : ∀ t, Steps p.tables e below (T69.setTop (mkF m 20 #[.val (.long ax), .second, .val (.long ah1), .second, .val (.int am1), .val (.long ah2), .second, .val (.int am2), .unset, .unset, .unset, .unset, .unset, .unset, .unset, .unset, .unset] [(.int (1 : Int32)), (.int (fisShort ax))])) t → Steps p.tables e below (T69.setTop (mkF m 12 #[.val (.long ax), .second, .val (.long ah1), .second, .val (.int am1), .val (.long ah2), .second, .val (.int am2), .unset, .unset, .unset, .unset, .unset, .unset, .unset, .unset, .unset] [(.int (lcmpW ((ax.toUInt64 >>> ((62 : Int32) &&& 0x3f).toInt64.toUInt64).toInt64) (3 : Int64))), (.int (fisShort ax))])) t := by
        intro t kt
        refine XS.ifNo X69.here hx rfl (hb hby at_12) rfl ((if0 _ _).trans (feq (mt (lw_eq _ _).mp c71)).1) ?_
        show Steps p.tables e below (T69.setTop (mkF m 15 #[.val (.long ax), .second, .val (.long ah1), .second, .val (.int am1), .val (.long ah2), .second, .val (.int am2), .unset, .unset, .unset, .unset, .unset, .unset, .unset, .unset, .unset] [(.int (fisShort ax))])) t
        refine XS.iconst X69.here hx rfl (hb hby at_15) ?_
        show Steps p.tables e below (T69.setTop (mkF m 16 #[.val (.long ax), .second, .val (.long ah1), .second, .val (.int am1), .val (.long ah2), .second, .val (.int am2), .unset, .unset, .unset, .unset, .unset, .unset, .unset, .unset, .unset] [(.int (1 : Int32)), (.int (fisShort ax))])) t
        refine XS.goto X69.here hx rfl (pc0 := 16) (pc' := 20) rfl (hb hby at_16) (by decide) (by decide) ?_
        exact kt
      exact ⟨(1 : Int32), (if_neg c71).symm, fun t kt => s73 _ (kt)⟩
  have hA : (fisShort ax) = w74 := own_A _ _ hw74
  have s81 : ∀ t, Steps p.tables e below (T69.setTop (mkF m 42 #[.val (.long ax), .second, .val (.long ah1), .second, .val (.int am1), .val (.long ah2), .second, .val (.int am2), .val (.int (1 : Int32)), .unset, .unset, .unset, .unset, .unset, .unset, .unset, .unset] [(.int ((am1 &&& (65535 : Int32)) ||| (1 : Int32))), (.long (ah1 &&& (140737488355327 : Int64)))])) t → Steps p.tables e below (T69.setTop (mkF m 20 #[.val (.long ax), .second, .val (.long ah1), .second, .val (.int am1), .val (.long ah2), .second, .val (.int am2), .unset, .unset, .unset, .unset, .unset, .unset, .unset, .unset, .unset] [(.int w74), (.int (fisShort ax))])) t := by
    intro t kt
    refine XS.icmpNo X69.here hx rfl (hb hby at_20) rfl (teq hA).2 ?_
    show Steps p.tables e below (T69.setTop (mkF m 23 #[.val (.long ax), .second, .val (.long ah1), .second, .val (.int am1), .val (.long ah2), .second, .val (.int am2), .unset, .unset, .unset, .unset, .unset, .unset, .unset, .unset, .unset] [])) t
    refine XS.iconst X69.here hx rfl (hb hby at_23) ?_
    show Steps p.tables e below (T69.setTop (mkF m 24 #[.val (.long ax), .second, .val (.long ah1), .second, .val (.int am1), .val (.long ah2), .second, .val (.int am2), .unset, .unset, .unset, .unset, .unset, .unset, .unset, .unset, .unset] [(.int (1 : Int32))])) t
    refine XS.goto X69.here hx rfl (pc0 := 24) (pc' := 28) rfl (hb hby at_24) (by decide) (by decide) ?_
    show Steps p.tables e below (T69.setTop (mkF m 28 #[.val (.long ax), .second, .val (.long ah1), .second, .val (.int am1), .val (.long ah2), .second, .val (.int am2), .unset, .unset, .unset, .unset, .unset, .unset, .unset, .unset, .unset] [(.int (1 : Int32))])) t
    refine XS.istore X69.here hx rfl (hb hby at_28) rfl (l' := #[.val (.long ax), .second, .val (.long ah1), .second, .val (.int am1), .val (.long ah2), .second, .val (.int am2), .val (.int (1 : Int32)), .unset, .unset, .unset, .unset, .unset, .unset, .unset, .unset]) rfl ?_
    show Steps p.tables e below (T69.setTop (mkF m 30 #[.val (.long ax), .second, .val (.long ah1), .second, .val (.int am1), .val (.long ah2), .second, .val (.int am2), .val (.int (1 : Int32)), .unset, .unset, .unset, .unset, .unset, .unset, .unset, .unset] [])) t
    refine XS.lloadN X69.here hx rfl (hb hby at_30) rfl ?_
    show Steps p.tables e below (T69.setTop (mkF m 31 #[.val (.long ax), .second, .val (.long ah1), .second, .val (.int am1), .val (.long ah2), .second, .val (.int am2), .val (.int (1 : Int32)), .unset, .unset, .unset, .unset, .unset, .unset, .unset, .unset] [(.long ah1)])) t
    refine X69.ldc2Long hx hown (mvT hZ (hw _ (List.mem_of_getElem? (i := 5) rfl))) (g := (mkF m 31 #[.val (.long ax), .second, .val (.long ah1), .second, .val (.int am1), .val (.long ah2), .second, .val (.int am2), .val (.int (1 : Int32)), .unset, .unset, .unset, .unset, .unset, .unset, .unset, .unset] [(.long ah1)])) rfl (hb hby at_31) _ ?_
    show Steps p.tables e below (T69.setTop (mkF m 34 #[.val (.long ax), .second, .val (.long ah1), .second, .val (.int am1), .val (.long ah2), .second, .val (.int am2), .val (.int (1 : Int32)), .unset, .unset, .unset, .unset, .unset, .unset, .unset, .unset] [(.long (140737488355327 : Int64)), (.long ah1)])) t
    refine XS.land X69.here hx rfl (hb hby at_34) rfl ?_
    show Steps p.tables e below (T69.setTop (mkF m 35 #[.val (.long ax), .second, .val (.long ah1), .second, .val (.int am1), .val (.long ah2), .second, .val (.int am2), .val (.int (1 : Int32)), .unset, .unset, .unset, .unset, .unset, .unset, .unset, .unset] [(.long (ah1 &&& (140737488355327 : Int64)))])) t
    refine XS.iload X69.here hx rfl (hb hby at_35) rfl ?_
    show Steps p.tables e below (T69.setTop (mkF m 37 #[.val (.long ax), .second, .val (.long ah1), .second, .val (.int am1), .val (.long ah2), .second, .val (.int am2), .val (.int (1 : Int32)), .unset, .unset, .unset, .unset, .unset, .unset, .unset, .unset] [(.int am1), (.long (ah1 &&& (140737488355327 : Int64)))])) t
    refine X69.ldcInt hx hown (mvT hZ (hw _ (List.mem_of_getElem? (i := 6) rfl))) (g := (mkF m 37 #[.val (.long ax), .second, .val (.long ah1), .second, .val (.int am1), .val (.long ah2), .second, .val (.int am2), .val (.int (1 : Int32)), .unset, .unset, .unset, .unset, .unset, .unset, .unset, .unset] [(.int am1), (.long (ah1 &&& (140737488355327 : Int64)))])) rfl (hb hby at_37) _ ?_
    show Steps p.tables e below (T69.setTop (mkF m 39 #[.val (.long ax), .second, .val (.long ah1), .second, .val (.int am1), .val (.long ah2), .second, .val (.int am2), .val (.int (1 : Int32)), .unset, .unset, .unset, .unset, .unset, .unset, .unset, .unset] [(.int (65535 : Int32)), (.int am1), (.long (ah1 &&& (140737488355327 : Int64)))])) t
    refine XS.iand X69.here hx rfl (hb hby at_39) rfl ?_
    show Steps p.tables e below (T69.setTop (mkF m 40 #[.val (.long ax), .second, .val (.long ah1), .second, .val (.int am1), .val (.long ah2), .second, .val (.int am2), .val (.int (1 : Int32)), .unset, .unset, .unset, .unset, .unset, .unset, .unset, .unset] [(.int (am1 &&& (65535 : Int32))), (.long (ah1 &&& (140737488355327 : Int64)))])) t
    refine XS.iconst X69.here hx rfl (hb hby at_40) ?_
    show Steps p.tables e below (T69.setTop (mkF m 41 #[.val (.long ax), .second, .val (.long ah1), .second, .val (.int am1), .val (.long ah2), .second, .val (.int am2), .val (.int (1 : Int32)), .unset, .unset, .unset, .unset, .unset, .unset, .unset, .unset] [(.int (1 : Int32)), (.int (am1 &&& (65535 : Int32))), (.long (ah1 &&& (140737488355327 : Int64)))])) t
    refine XS.ior X69.here hx rfl (hb hby at_41) rfl ?_
    exact kt
  obtain ⟨_, _, ⟨T82, L82, k82, n82⟩, -, X82, ⟨Lc82, hQ82, l82, y82, z82⟩, st82⟩ := Jvm.LawKit.callS X69 hx (y := (⟨"com/example/stern_lock/sternlock/ShortForm", "of", "(JI)J"⟩ : MethodName)) hown (mvT hZ (hw _ (List.mem_of_getElem? (i := 7) rfl))) (mvT hZ (hw _ (List.mem_of_getElem? (i := 8) rfl))) (mvT hZ (hw _ (List.mem_of_getElem? (i := 2) rfl))) (mvT hZ (hw _ (List.mem_of_getElem? (i := 9) rfl))) (by decide) (backOf (W := 0) (rm2 l Z a0 hw [] (ah1 &&& (140737488355327 : Int64)) ((am1 &&& (65535 : Int32)) ||| (1 : Int32)) h0 n0 Z0 ) hZ (hw _ (List.mem_of_getElem? (i := 9) rfl)) (hw _ (List.mem_of_getElem? (i := 2) rfl)) (by decide) (by decide)) (g := (mkF m 42 #[.val (.long ax), .second, .val (.long ah1), .second, .val (.int am1), .val (.long ah2), .second, .val (.int am2), .val (.int (1 : Int32)), .unset, .unset, .unset, .unset, .unset, .unset, .unset, .unset] [(.int ((am1 &&& (65535 : Int32)) ||| (1 : Int32))), (.long (ah1 &&& (140737488355327 : Int64)))])) rfl (by rw [hml]; rfl) (argsL := [(.long (ah1 &&& (140737488355327 : Int64))), (.int ((am1 &&& (65535 : Int32)) ||| (1 : Int32)))]) (rest := []) (lenOf pd_oJIcJ rfl) rfl (by show 2 * 0 + _ ≤ _; exact Nat.le_of_eq rfl) (hb hby at_42) (fun _ _ => ⟨rfl, e69q, (by decide : 0 + 0 ≤ _), (by decide : 0 + 0 ≤ _)⟩)
  dsimp only [Pt.U, Pt.locs, Pt.cells, Pt.slots] at X82 l82 y82 z82 st82 hQ82
  subst l82 y82 z82
  obtain ⟨rfl, N82q, e82q⟩ := hQ82
  have N82 := Fr.app N69 N82q
  have s83 : ∀ t, Steps p.tables e below (T82.setTop (mkF m 49 #[.val (.long ax), .second, .val (.long ah1), .second, .val (.int am1), .val (.long ah2), .second, .val (.int am2), .val (.int (1 : Int32)), .val (.long (fof (ah1 &&& (140737488355327 : Int64)) ((am1 &&& (65535 : Int32)) ||| (1 : Int32)))), .second, .unset, .unset, .unset, .unset, .unset, .unset] [(.int (1 : Int32))])) t → Steps p.tables e below (T82.setTop (mkF m 45 #[.val (.long ax), .second, .val (.long ah1), .second, .val (.int am1), .val (.long ah2), .second, .val (.int am2), .val (.int (1 : Int32)), .unset, .unset, .unset, .unset, .unset, .unset, .unset, .unset] [(.long (fof (ah1 &&& (140737488355327 : Int64)) ((am1 &&& (65535 : Int32)) ||| (1 : Int32))))])) t := by
    intro t kt
    refine XS.lstore X82.here hx rfl (hb hby at_45) rfl (l' := #[.val (.long ax), .second, .val (.long ah1), .second, .val (.int am1), .val (.long ah2), .second, .val (.int am2), .val (.int (1 : Int32)), .val (.long (fof (ah1 &&& (140737488355327 : Int64)) ((am1 &&& (65535 : Int32)) ||| (1 : Int32)))), .second, .unset, .unset, .unset, .unset, .unset, .unset]) rfl ?_
    show Steps p.tables e below (T82.setTop (mkF m 47 #[.val (.long ax), .second, .val (.long ah1), .second, .val (.int am1), .val (.long ah2), .second, .val (.int am2), .val (.int (1 : Int32)), .val (.long (fof (ah1 &&& (140737488355327 : Int64)) ((am1 &&& (65535 : Int32)) ||| (1 : Int32)))), .second, .unset, .unset, .unset, .unset, .unset, .unset] [])) t
    refine XS.iload X82.here hx rfl (hb hby at_47) rfl ?_
    exact kt
  have s84 : ∀ t, Steps p.tables e below (T82.setTop (mkF m 54 #[.val (.long ax), .second, .val (.long ah1), .second, .val (.int am1), .val (.long ah2), .second, .val (.int am2), .val (.int (1 : Int32)), .val (.long (fof (ah1 &&& (140737488355327 : Int64)) ((am1 &&& (65535 : Int32)) ||| (1 : Int32)))), .second, .unset, .unset, .unset, .unset, .unset, .unset] [(.long (fof (ah1 &&& (140737488355327 : Int64)) ((am1 &&& (65535 : Int32)) ||| (1 : Int32))))])) t → Steps p.tables e below (T82.setTop (mkF m 49 #[.val (.long ax), .second, .val (.long ah1), .second, .val (.int am1), .val (.long ah2), .second, .val (.int am2), .val (.int (1 : Int32)), .val (.long (fof (ah1 &&& (140737488355327 : Int64)) ((am1 &&& (65535 : Int32)) ||| (1 : Int32)))), .second, .unset, .unset, .unset, .unset, .unset, .unset] [(.int (1 : Int32))])) t := by
    intro t kt
    refine XS.ifNo X82.here hx rfl (hb hby at_49) rfl ((if0 _ _).trans (feq (by decide)).1) ?_
    show Steps p.tables e below (T82.setTop (mkF m 52 #[.val (.long ax), .second, .val (.long ah1), .second, .val (.int am1), .val (.long ah2), .second, .val (.int am2), .val (.int (1 : Int32)), .val (.long (fof (ah1 &&& (140737488355327 : Int64)) ((am1 &&& (65535 : Int32)) ||| (1 : Int32)))), .second, .unset, .unset, .unset, .unset, .unset, .unset] [])) t
    refine XS.lload X82.here hx rfl (hb hby at_52) rfl ?_
    exact kt
  obtain ⟨_, _, ⟨T85, L85, k85, n85⟩, -, X85, ⟨Lc85, hQ85, l85, y85, z85⟩, st85⟩ := Jvm.LawKit.callS X82 hx (y := (⟨"com/example/stern_lock/sternlock/ShortForm", "isShort", "(J)Z"⟩ : MethodName)) hown (mvT hZ (hw _ (List.mem_of_getElem? (i := 0) rfl))) (mvT hZ (hw _ (List.mem_of_getElem? (i := 1) rfl))) (mvT hZ (hw _ (List.mem_of_getElem? (i := 2) rfl))) (mvT hZ (hw _ (List.mem_of_getElem? (i := 3) rfl))) (by decide) (backOf (W := 0) (rm1 l Z a0 hw [] (fof (ah1 &&& (140737488355327 : Int64)) ((am1 &&& (65535 : Int32)) ||| (1 : Int32))) h0 n0 Z0 ) hZ (hw _ (List.mem_of_getElem? (i := 3) rfl)) (hw _ (List.mem_of_getElem? (i := 2) rfl)) (by decide) (by decide)) (g := (mkF m 54 #[.val (.long ax), .second, .val (.long ah1), .second, .val (.int am1), .val (.long ah2), .second, .val (.int am2), .val (.int (1 : Int32)), .val (.long (fof (ah1 &&& (140737488355327 : Int64)) ((am1 &&& (65535 : Int32)) ||| (1 : Int32)))), .second, .unset, .unset, .unset, .unset, .unset, .unset] [(.long (fof (ah1 &&& (140737488355327 : Int64)) ((am1 &&& (65535 : Int32)) ||| (1 : Int32))))])) rfl (by rw [hml]; rfl) (argsL := [(.long (fof (ah1 &&& (140737488355327 : Int64)) ((am1 &&& (65535 : Int32)) ||| (1 : Int32))))]) (rest := []) (lenOf pd_oJcZ rfl) rfl (by show 2 * 0 + _ ≤ _; exact Nat.le_of_eq rfl) (hb hby at_54) (fun _ _ => ⟨rfl, e82q, (by decide : 0 + 0 ≤ _), (by decide : 0 + 0 ≤ _)⟩)
  dsimp only [Pt.U, Pt.locs, Pt.cells, Pt.slots] at X85 l85 y85 z85 st85 hQ85
  subst l85 y85 z85
  obtain ⟨rfl, N85q, e85q⟩ := hQ85
  have N85 := Fr.app N82 N85q
  have hB : ¬ ((fisShort (fof (ah1 &&& (140737488355327 : Int64)) ((am1 &&& (65535 : Int32)) ||| (1 : Int32)))) = (0 : Int32)) := own_B _ _
  have s86 : ∀ t, Steps p.tables e below (T85.setTop (mkF m 80 #[.val (.long ax), .second, .val (.long ah1), .second, .val (.int am1), .val (.long ah2), .second, .val (.int am2), .val (.int (1 : Int32)), .val (.long (fof (ah1 &&& (140737488355327 : Int64)) ((am1 &&& (65535 : Int32)) ||| (1 : Int32)))), .second, .unset, .unset, .unset, .unset, .unset, .unset] [(.int ((am1 &&& (255 : Int32)) ||| (1 : Int32))), (.long (ah1 &&& (8388607 : Int64)))])) t → Steps p.tables e below (T85.setTop (mkF m 57 #[.val (.long ax), .second, .val (.long ah1), .second, .val (.int am1), .val (.long ah2), .second, .val (.int am2), .val (.int (1 : Int32)), .val (.long (fof (ah1 &&& (140737488355327 : Int64)) ((am1 &&& (65535 : Int32)) ||| (1 : Int32)))), .second, .unset, .unset, .unset, .unset, .unset, .unset] [(.int (fisShort (fof (ah1 &&& (140737488355327 : Int64)) ((am1 &&& (65535 : Int32)) ||| (1 : Int32)))))])) t := by
    intro t kt
    refine XS.ifNo X85.here hx rfl (hb hby at_57) rfl ((if0 _ _).trans (feq hB).1) ?_
    show Steps p.tables e below (T85.setTop (mkF m 60 #[.val (.long ax), .second, .val (.long ah1), .second, .val (.int am1), .val (.long ah2), .second, .val (.int am2), .val (.int (1 : Int32)), .val (.long (fof (ah1 &&& (140737488355327 : Int64)) ((am1 &&& (65535 : Int32)) ||| (1 : Int32)))), .second, .unset, .unset, .unset, .unset, .unset, .unset] [])) t
    refine XS.iconst X85.here hx rfl (hb hby at_60) ?_
    show Steps p.tables e below (T85.setTop (mkF m 61 #[.val (.long ax), .second, .val (.long ah1), .second, .val (.int am1), .val (.long ah2), .second, .val (.int am2), .val (.int (1 : Int32)), .val (.long (fof (ah1 &&& (140737488355327 : Int64)) ((am1 &&& (65535 : Int32)) ||| (1 : Int32)))), .second, .unset, .unset, .unset, .unset, .unset, .unset] [(.int (1 : Int32))])) t
    refine XS.goto X85.here hx rfl (pc0 := 61) (pc' := 65) rfl (hb hby at_61) (by decide) (by decide) ?_
    show Steps p.tables e below (T85.setTop (mkF m 65 #[.val (.long ax), .second, .val (.long ah1), .second, .val (.int am1), .val (.long ah2), .second, .val (.int am2), .val (.int (1 : Int32)), .val (.long (fof (ah1 &&& (140737488355327 : Int64)) ((am1 &&& (65535 : Int32)) ||| (1 : Int32)))), .second, .unset, .unset, .unset, .unset, .unset, .unset] [(.int (1 : Int32))])) t
    refine XS.istore X85.here hx rfl (hb hby at_65) rfl (l' := #[.val (.long ax), .second, .val (.long ah1), .second, .val (.int am1), .val (.long ah2), .second, .val (.int am2), .val (.int (1 : Int32)), .val (.long (fof (ah1 &&& (140737488355327 : Int64)) ((am1 &&& (65535 : Int32)) ||| (1 : Int32)))), .second, .unset, .unset, .unset, .unset, .unset, .unset]) rfl ?_
    show Steps p.tables e below (T85.setTop (mkF m 67 #[.val (.long ax), .second, .val (.long ah1), .second, .val (.int am1), .val (.long ah2), .second, .val (.int am2), .val (.int (1 : Int32)), .val (.long (fof (ah1 &&& (140737488355327 : Int64)) ((am1 &&& (65535 : Int32)) ||| (1 : Int32)))), .second, .unset, .unset, .unset, .unset, .unset, .unset] [])) t
    refine XS.lloadN X85.here hx rfl (hb hby at_67) rfl ?_
    show Steps p.tables e below (T85.setTop (mkF m 68 #[.val (.long ax), .second, .val (.long ah1), .second, .val (.int am1), .val (.long ah2), .second, .val (.int am2), .val (.int (1 : Int32)), .val (.long (fof (ah1 &&& (140737488355327 : Int64)) ((am1 &&& (65535 : Int32)) ||| (1 : Int32)))), .second, .unset, .unset, .unset, .unset, .unset, .unset] [(.long ah1)])) t
    refine X85.ldc2Long hx hown (mvT hZ (hw _ (List.mem_of_getElem? (i := 10) rfl))) (g := (mkF m 68 #[.val (.long ax), .second, .val (.long ah1), .second, .val (.int am1), .val (.long ah2), .second, .val (.int am2), .val (.int (1 : Int32)), .val (.long (fof (ah1 &&& (140737488355327 : Int64)) ((am1 &&& (65535 : Int32)) ||| (1 : Int32)))), .second, .unset, .unset, .unset, .unset, .unset, .unset] [(.long ah1)])) rfl (hb hby at_68) _ ?_
    show Steps p.tables e below (T85.setTop (mkF m 71 #[.val (.long ax), .second, .val (.long ah1), .second, .val (.int am1), .val (.long ah2), .second, .val (.int am2), .val (.int (1 : Int32)), .val (.long (fof (ah1 &&& (140737488355327 : Int64)) ((am1 &&& (65535 : Int32)) ||| (1 : Int32)))), .second, .unset, .unset, .unset, .unset, .unset, .unset] [(.long (8388607 : Int64)), (.long ah1)])) t
    refine XS.land X85.here hx rfl (hb hby at_71) rfl ?_
    show Steps p.tables e below (T85.setTop (mkF m 72 #[.val (.long ax), .second, .val (.long ah1), .second, .val (.int am1), .val (.long ah2), .second, .val (.int am2), .val (.int (1 : Int32)), .val (.long (fof (ah1 &&& (140737488355327 : Int64)) ((am1 &&& (65535 : Int32)) ||| (1 : Int32)))), .second, .unset, .unset, .unset, .unset, .unset, .unset] [(.long (ah1 &&& (8388607 : Int64)))])) t
    refine XS.iload X85.here hx rfl (hb hby at_72) rfl ?_
    show Steps p.tables e below (T85.setTop (mkF m 74 #[.val (.long ax), .second, .val (.long ah1), .second, .val (.int am1), .val (.long ah2), .second, .val (.int am2), .val (.int (1 : Int32)), .val (.long (fof (ah1 &&& (140737488355327 : Int64)) ((am1 &&& (65535 : Int32)) ||| (1 : Int32)))), .second, .unset, .unset, .unset, .unset, .unset, .unset] [(.int am1), (.long (ah1 &&& (8388607 : Int64)))])) t
    refine XS.sipush X85.here hx rfl (hb hby at_74) ?_
    show Steps p.tables e below (T85.setTop (mkF m 77 #[.val (.long ax), .second, .val (.long ah1), .second, .val (.int am1), .val (.long ah2), .second, .val (.int am2), .val (.int (1 : Int32)), .val (.long (fof (ah1 &&& (140737488355327 : Int64)) ((am1 &&& (65535 : Int32)) ||| (1 : Int32)))), .second, .unset, .unset, .unset, .unset, .unset, .unset] [(.int (255 : Int32)), (.int am1), (.long (ah1 &&& (8388607 : Int64)))])) t
    refine XS.iand X85.here hx rfl (hb hby at_77) rfl ?_
    show Steps p.tables e below (T85.setTop (mkF m 78 #[.val (.long ax), .second, .val (.long ah1), .second, .val (.int am1), .val (.long ah2), .second, .val (.int am2), .val (.int (1 : Int32)), .val (.long (fof (ah1 &&& (140737488355327 : Int64)) ((am1 &&& (65535 : Int32)) ||| (1 : Int32)))), .second, .unset, .unset, .unset, .unset, .unset, .unset] [(.int (am1 &&& (255 : Int32))), (.long (ah1 &&& (8388607 : Int64)))])) t
    refine XS.iconst X85.here hx rfl (hb hby at_78) ?_
    show Steps p.tables e below (T85.setTop (mkF m 79 #[.val (.long ax), .second, .val (.long ah1), .second, .val (.int am1), .val (.long ah2), .second, .val (.int am2), .val (.int (1 : Int32)), .val (.long (fof (ah1 &&& (140737488355327 : Int64)) ((am1 &&& (65535 : Int32)) ||| (1 : Int32)))), .second, .unset, .unset, .unset, .unset, .unset, .unset] [(.int (1 : Int32)), (.int (am1 &&& (255 : Int32))), (.long (ah1 &&& (8388607 : Int64)))])) t
    refine XS.ior X85.here hx rfl (hb hby at_79) rfl ?_
    exact kt
  obtain ⟨_, _, ⟨T87, L87, k87, n87⟩, -, X87, ⟨Lc87, hQ87, l87, y87, z87⟩, st87⟩ := Jvm.LawKit.callS X85 hx (y := (⟨"com/example/stern_lock/sternlock/ShortForm", "of", "(JI)J"⟩ : MethodName)) hown (mvT hZ (hw _ (List.mem_of_getElem? (i := 7) rfl))) (mvT hZ (hw _ (List.mem_of_getElem? (i := 8) rfl))) (mvT hZ (hw _ (List.mem_of_getElem? (i := 2) rfl))) (mvT hZ (hw _ (List.mem_of_getElem? (i := 9) rfl))) (by decide) (backOf (W := 0) (rm2 l Z a0 hw [] (ah1 &&& (8388607 : Int64)) ((am1 &&& (255 : Int32)) ||| (1 : Int32)) h0 n0 Z0 ) hZ (hw _ (List.mem_of_getElem? (i := 9) rfl)) (hw _ (List.mem_of_getElem? (i := 2) rfl)) (by decide) (by decide)) (g := (mkF m 80 #[.val (.long ax), .second, .val (.long ah1), .second, .val (.int am1), .val (.long ah2), .second, .val (.int am2), .val (.int (1 : Int32)), .val (.long (fof (ah1 &&& (140737488355327 : Int64)) ((am1 &&& (65535 : Int32)) ||| (1 : Int32)))), .second, .unset, .unset, .unset, .unset, .unset, .unset] [(.int ((am1 &&& (255 : Int32)) ||| (1 : Int32))), (.long (ah1 &&& (8388607 : Int64)))])) rfl (by rw [hml]; rfl) (argsL := [(.long (ah1 &&& (8388607 : Int64))), (.int ((am1 &&& (255 : Int32)) ||| (1 : Int32)))]) (rest := []) (lenOf pd_oJIcJ rfl) rfl (by show 2 * 0 + _ ≤ _; exact Nat.le_of_eq rfl) (hb hby at_80) (fun _ _ => ⟨rfl, e85q, (by decide : 0 + 0 ≤ _), (by decide : 0 + 0 ≤ _)⟩)
  dsimp only [Pt.U, Pt.locs, Pt.cells, Pt.slots] at X87 l87 y87 z87 st87 hQ87
  subst l87 y87 z87
  obtain ⟨rfl, N87q, e87q⟩ := hQ87
  have N87 := Fr.app N85 N87q
  have s88 : ∀ t, Steps p.tables e below (T87.setTop (mkF m 99 #[.val (.long ax), .second, .val (.long ah1), .second, .val (.int am1), .val (.long ah2), .second, .val (.int am2), .val (.int (1 : Int32)), .val (.long (fof (ah1 &&& (140737488355327 : Int64)) ((am1 &&& (65535 : Int32)) ||| (1 : Int32)))), .second, .val (.long (fof (ah1 &&& (8388607 : Int64)) ((am1 &&& (255 : Int32)) ||| (1 : Int32)))), .second, .unset, .unset, .unset, .unset] [(.int ((am2 &&& (255 : Int32)) ||| (1 : Int32))), (.long (ah2 &&& (8388607 : Int64)))])) t → Steps p.tables e below (T87.setTop (mkF m 83 #[.val (.long ax), .second, .val (.long ah1), .second, .val (.int am1), .val (.long ah2), .second, .val (.int am2), .val (.int (1 : Int32)), .val (.long (fof (ah1 &&& (140737488355327 : Int64)) ((am1 &&& (65535 : Int32)) ||| (1 : Int32)))), .second, .unset, .unset, .unset, .unset, .unset, .unset] [(.long (fof (ah1 &&& (8388607 : Int64)) ((am1 &&& (255 : Int32)) ||| (1 : Int32))))])) t := by
    intro t kt
    refine XS.lstore X87.here hx rfl (hb hby at_83) rfl (l' := #[.val (.long ax), .second, .val (.long ah1), .second, .val (.int am1), .val (.long ah2), .second, .val (.int am2), .val (.int (1 : Int32)), .val (.long (fof (ah1 &&& (140737488355327 : Int64)) ((am1 &&& (65535 : Int32)) ||| (1 : Int32)))), .second, .val (.long (fof (ah1 &&& (8388607 : Int64)) ((am1 &&& (255 : Int32)) ||| (1 : Int32)))), .second, .unset, .unset, .unset, .unset]) rfl ?_
    show Steps p.tables e below (T87.setTop (mkF m 85 #[.val (.long ax), .second, .val (.long ah1), .second, .val (.int am1), .val (.long ah2), .second, .val (.int am2), .val (.int (1 : Int32)), .val (.long (fof (ah1 &&& (140737488355327 : Int64)) ((am1 &&& (65535 : Int32)) ||| (1 : Int32)))), .second, .val (.long (fof (ah1 &&& (8388607 : Int64)) ((am1 &&& (255 : Int32)) ||| (1 : Int32)))), .second, .unset, .unset, .unset, .unset] [])) t
    refine XS.lload X87.here hx rfl (hb hby at_85) rfl ?_
    show Steps p.tables e below (T87.setTop (mkF m 87 #[.val (.long ax), .second, .val (.long ah1), .second, .val (.int am1), .val (.long ah2), .second, .val (.int am2), .val (.int (1 : Int32)), .val (.long (fof (ah1 &&& (140737488355327 : Int64)) ((am1 &&& (65535 : Int32)) ||| (1 : Int32)))), .second, .val (.long (fof (ah1 &&& (8388607 : Int64)) ((am1 &&& (255 : Int32)) ||| (1 : Int32)))), .second, .unset, .unset, .unset, .unset] [(.long ah2)])) t
    refine X87.ldc2Long hx hown (mvT hZ (hw _ (List.mem_of_getElem? (i := 10) rfl))) (g := (mkF m 87 #[.val (.long ax), .second, .val (.long ah1), .second, .val (.int am1), .val (.long ah2), .second, .val (.int am2), .val (.int (1 : Int32)), .val (.long (fof (ah1 &&& (140737488355327 : Int64)) ((am1 &&& (65535 : Int32)) ||| (1 : Int32)))), .second, .val (.long (fof (ah1 &&& (8388607 : Int64)) ((am1 &&& (255 : Int32)) ||| (1 : Int32)))), .second, .unset, .unset, .unset, .unset] [(.long ah2)])) rfl (hb hby at_87) _ ?_
    show Steps p.tables e below (T87.setTop (mkF m 90 #[.val (.long ax), .second, .val (.long ah1), .second, .val (.int am1), .val (.long ah2), .second, .val (.int am2), .val (.int (1 : Int32)), .val (.long (fof (ah1 &&& (140737488355327 : Int64)) ((am1 &&& (65535 : Int32)) ||| (1 : Int32)))), .second, .val (.long (fof (ah1 &&& (8388607 : Int64)) ((am1 &&& (255 : Int32)) ||| (1 : Int32)))), .second, .unset, .unset, .unset, .unset] [(.long (8388607 : Int64)), (.long ah2)])) t
    refine XS.land X87.here hx rfl (hb hby at_90) rfl ?_
    show Steps p.tables e below (T87.setTop (mkF m 91 #[.val (.long ax), .second, .val (.long ah1), .second, .val (.int am1), .val (.long ah2), .second, .val (.int am2), .val (.int (1 : Int32)), .val (.long (fof (ah1 &&& (140737488355327 : Int64)) ((am1 &&& (65535 : Int32)) ||| (1 : Int32)))), .second, .val (.long (fof (ah1 &&& (8388607 : Int64)) ((am1 &&& (255 : Int32)) ||| (1 : Int32)))), .second, .unset, .unset, .unset, .unset] [(.long (ah2 &&& (8388607 : Int64)))])) t
    refine XS.iload X87.here hx rfl (hb hby at_91) rfl ?_
    show Steps p.tables e below (T87.setTop (mkF m 93 #[.val (.long ax), .second, .val (.long ah1), .second, .val (.int am1), .val (.long ah2), .second, .val (.int am2), .val (.int (1 : Int32)), .val (.long (fof (ah1 &&& (140737488355327 : Int64)) ((am1 &&& (65535 : Int32)) ||| (1 : Int32)))), .second, .val (.long (fof (ah1 &&& (8388607 : Int64)) ((am1 &&& (255 : Int32)) ||| (1 : Int32)))), .second, .unset, .unset, .unset, .unset] [(.int am2), (.long (ah2 &&& (8388607 : Int64)))])) t
    refine XS.sipush X87.here hx rfl (hb hby at_93) ?_
    show Steps p.tables e below (T87.setTop (mkF m 96 #[.val (.long ax), .second, .val (.long ah1), .second, .val (.int am1), .val (.long ah2), .second, .val (.int am2), .val (.int (1 : Int32)), .val (.long (fof (ah1 &&& (140737488355327 : Int64)) ((am1 &&& (65535 : Int32)) ||| (1 : Int32)))), .second, .val (.long (fof (ah1 &&& (8388607 : Int64)) ((am1 &&& (255 : Int32)) ||| (1 : Int32)))), .second, .unset, .unset, .unset, .unset] [(.int (255 : Int32)), (.int am2), (.long (ah2 &&& (8388607 : Int64)))])) t
    refine XS.iand X87.here hx rfl (hb hby at_96) rfl ?_
    show Steps p.tables e below (T87.setTop (mkF m 97 #[.val (.long ax), .second, .val (.long ah1), .second, .val (.int am1), .val (.long ah2), .second, .val (.int am2), .val (.int (1 : Int32)), .val (.long (fof (ah1 &&& (140737488355327 : Int64)) ((am1 &&& (65535 : Int32)) ||| (1 : Int32)))), .second, .val (.long (fof (ah1 &&& (8388607 : Int64)) ((am1 &&& (255 : Int32)) ||| (1 : Int32)))), .second, .unset, .unset, .unset, .unset] [(.int (am2 &&& (255 : Int32))), (.long (ah2 &&& (8388607 : Int64)))])) t
    refine XS.iconst X87.here hx rfl (hb hby at_97) ?_
    show Steps p.tables e below (T87.setTop (mkF m 98 #[.val (.long ax), .second, .val (.long ah1), .second, .val (.int am1), .val (.long ah2), .second, .val (.int am2), .val (.int (1 : Int32)), .val (.long (fof (ah1 &&& (140737488355327 : Int64)) ((am1 &&& (65535 : Int32)) ||| (1 : Int32)))), .second, .val (.long (fof (ah1 &&& (8388607 : Int64)) ((am1 &&& (255 : Int32)) ||| (1 : Int32)))), .second, .unset, .unset, .unset, .unset] [(.int (1 : Int32)), (.int (am2 &&& (255 : Int32))), (.long (ah2 &&& (8388607 : Int64)))])) t
    refine XS.ior X87.here hx rfl (hb hby at_98) rfl ?_
    exact kt
  obtain ⟨_, _, ⟨T89, L89, k89, n89⟩, -, X89, ⟨Lc89, hQ89, l89, y89, z89⟩, st89⟩ := Jvm.LawKit.callS X87 hx (y := (⟨"com/example/stern_lock/sternlock/ShortForm", "of", "(JI)J"⟩ : MethodName)) hown (mvT hZ (hw _ (List.mem_of_getElem? (i := 7) rfl))) (mvT hZ (hw _ (List.mem_of_getElem? (i := 8) rfl))) (mvT hZ (hw _ (List.mem_of_getElem? (i := 2) rfl))) (mvT hZ (hw _ (List.mem_of_getElem? (i := 9) rfl))) (by decide) (backOf (W := 0) (rm2 l Z a0 hw [] (ah2 &&& (8388607 : Int64)) ((am2 &&& (255 : Int32)) ||| (1 : Int32)) h0 n0 Z0 ) hZ (hw _ (List.mem_of_getElem? (i := 9) rfl)) (hw _ (List.mem_of_getElem? (i := 2) rfl)) (by decide) (by decide)) (g := (mkF m 99 #[.val (.long ax), .second, .val (.long ah1), .second, .val (.int am1), .val (.long ah2), .second, .val (.int am2), .val (.int (1 : Int32)), .val (.long (fof (ah1 &&& (140737488355327 : Int64)) ((am1 &&& (65535 : Int32)) ||| (1 : Int32)))), .second, .val (.long (fof (ah1 &&& (8388607 : Int64)) ((am1 &&& (255 : Int32)) ||| (1 : Int32)))), .second, .unset, .unset, .unset, .unset] [(.int ((am2 &&& (255 : Int32)) ||| (1 : Int32))), (.long (ah2 &&& (8388607 : Int64)))])) rfl (by rw [hml]; rfl) (argsL := [(.long (ah2 &&& (8388607 : Int64))), (.int ((am2 &&& (255 : Int32)) ||| (1 : Int32)))]) (rest := []) (lenOf pd_oJIcJ rfl) rfl (by show 2 * 0 + _ ≤ _; exact Nat.le_of_eq rfl) (hb hby at_99) (fun _ _ => ⟨rfl, e87q, (by decide : 0 + 0 ≤ _), (by decide : 0 + 0 ≤ _)⟩)
  dsimp only [Pt.U, Pt.locs, Pt.cells, Pt.slots] at X89 l89 y89 z89 st89 hQ89
  subst l89 y89 z89
  obtain ⟨rfl, N89q, e89q⟩ := hQ89
  have N89 := Fr.app N87 N89q
  have s90 : ∀ t, Steps p.tables e below (T89.setTop (mkF m 108 #[.val (.long ax), .second, .val (.long ah1), .second, .val (.int am1), .val (.long ah2), .second, .val (.int am2), .val (.int (1 : Int32)), .val (.long (fof (ah1 &&& (140737488355327 : Int64)) ((am1 &&& (65535 : Int32)) ||| (1 : Int32)))), .second, .val (.long (fof (ah1 &&& (8388607 : Int64)) ((am1 &&& (255 : Int32)) ||| (1 : Int32)))), .second, .val (.long (fof (ah2 &&& (8388607 : Int64)) ((am2 &&& (255 : Int32)) ||| (1 : Int32)))), .second, .unset, .unset] [(.long (fof (ah2 &&& (8388607 : Int64)) ((am2 &&& (255 : Int32)) ||| (1 : Int32)))), (.long (fof (ah1 &&& (8388607 : Int64)) ((am1 &&& (255 : Int32)) ||| (1 : Int32))))])) t → Steps p.tables e below (T89.setTop (mkF m 102 #[.val (.long ax), .second, .val (.long ah1), .second, .val (.int am1), .val (.long ah2), .second, .val (.int am2), .val (.int (1 : Int32)), .val (.long (fof (ah1 &&& (140737488355327 : Int64)) ((am1 &&& (65535 : Int32)) ||| (1 : Int32)))), .second, .val (.long (fof (ah1 &&& (8388607 : Int64)) ((am1 &&& (255 : Int32)) ||| (1 : Int32)))), .second, .unset, .unset, .unset, .unset] [(.long (fof (ah2 &&& (8388607 : Int64)) ((am2 &&& (255 : Int32)) ||| (1 : Int32))))])) t := by
    intro t kt
    refine XS.lstore X89.here hx rfl (hb hby at_102) rfl (l' := #[.val (.long ax), .second, .val (.long ah1), .second, .val (.int am1), .val (.long ah2), .second, .val (.int am2), .val (.int (1 : Int32)), .val (.long (fof (ah1 &&& (140737488355327 : Int64)) ((am1 &&& (65535 : Int32)) ||| (1 : Int32)))), .second, .val (.long (fof (ah1 &&& (8388607 : Int64)) ((am1 &&& (255 : Int32)) ||| (1 : Int32)))), .second, .val (.long (fof (ah2 &&& (8388607 : Int64)) ((am2 &&& (255 : Int32)) ||| (1 : Int32)))), .second, .unset, .unset]) rfl ?_
    show Steps p.tables e below (T89.setTop (mkF m 104 #[.val (.long ax), .second, .val (.long ah1), .second, .val (.int am1), .val (.long ah2), .second, .val (.int am2), .val (.int (1 : Int32)), .val (.long (fof (ah1 &&& (140737488355327 : Int64)) ((am1 &&& (65535 : Int32)) ||| (1 : Int32)))), .second, .val (.long (fof (ah1 &&& (8388607 : Int64)) ((am1 &&& (255 : Int32)) ||| (1 : Int32)))), .second, .val (.long (fof (ah2 &&& (8388607 : Int64)) ((am2 &&& (255 : Int32)) ||| (1 : Int32)))), .second, .unset, .unset] [])) t
    refine XS.lload X89.here hx rfl (hb hby at_104) rfl ?_
    show Steps p.tables e below (T89.setTop (mkF m 106 #[.val (.long ax), .second, .val (.long ah1), .second, .val (.int am1), .val (.long ah2), .second, .val (.int am2), .val (.int (1 : Int32)), .val (.long (fof (ah1 &&& (140737488355327 : Int64)) ((am1 &&& (65535 : Int32)) ||| (1 : Int32)))), .second, .val (.long (fof (ah1 &&& (8388607 : Int64)) ((am1 &&& (255 : Int32)) ||| (1 : Int32)))), .second, .val (.long (fof (ah2 &&& (8388607 : Int64)) ((am2 &&& (255 : Int32)) ||| (1 : Int32)))), .second, .unset, .unset] [(.long (fof (ah1 &&& (8388607 : Int64)) ((am1 &&& (255 : Int32)) ||| (1 : Int32))))])) t
    refine XS.lload X89.here hx rfl (hb hby at_106) rfl ?_
    exact kt
  obtain ⟨_, _, ⟨T91, L91, k91, n91⟩, -, X91, ⟨Lc91, hQ91, l91, y91, z91⟩, st91⟩ := Jvm.LawKit.callS X89 hx (y := (⟨"com/example/stern_lock/sternlock/ShortForm", "paired", "(JJ)J"⟩ : MethodName)) hown (mvT hZ (hw _ (List.mem_of_getElem? (i := 11) rfl))) (mvT hZ (hw _ (List.mem_of_getElem? (i := 12) rfl))) (mvT hZ (hw _ (List.mem_of_getElem? (i := 2) rfl))) (mvT hZ (hw _ (List.mem_of_getElem? (i := 13) rfl))) (by decide) (backOf (W := 0) (rm7 l Z a0 hw [] (fof (ah1 &&& (8388607 : Int64)) ((am1 &&& (255 : Int32)) ||| (1 : Int32))) (fof (ah2 &&& (8388607 : Int64)) ((am2 &&& (255 : Int32)) ||| (1 : Int32))) h0 n0 Z0 ) hZ (hw _ (List.mem_of_getElem? (i := 13) rfl)) (hw _ (List.mem_of_getElem? (i := 2) rfl)) (by decide) (by decide)) (g := (mkF m 108 #[.val (.long ax), .second, .val (.long ah1), .second, .val (.int am1), .val (.long ah2), .second, .val (.int am2), .val (.int (1 : Int32)), .val (.long (fof (ah1 &&& (140737488355327 : Int64)) ((am1 &&& (65535 : Int32)) ||| (1 : Int32)))), .second, .val (.long (fof (ah1 &&& (8388607 : Int64)) ((am1 &&& (255 : Int32)) ||| (1 : Int32)))), .second, .val (.long (fof (ah2 &&& (8388607 : Int64)) ((am2 &&& (255 : Int32)) ||| (1 : Int32)))), .second, .unset, .unset] [(.long (fof (ah2 &&& (8388607 : Int64)) ((am2 &&& (255 : Int32)) ||| (1 : Int32)))), (.long (fof (ah1 &&& (8388607 : Int64)) ((am1 &&& (255 : Int32)) ||| (1 : Int32))))])) rfl (by rw [hml]; rfl) (argsL := [(.long (fof (ah1 &&& (8388607 : Int64)) ((am1 &&& (255 : Int32)) ||| (1 : Int32)))), (.long (fof (ah2 &&& (8388607 : Int64)) ((am2 &&& (255 : Int32)) ||| (1 : Int32))))]) (rest := []) (lenOf pd_oJJcJ rfl) rfl (by show 2 * 0 + _ ≤ _; exact Nat.le_of_eq rfl) (hb hby at_108) (fun _ _ => ⟨rfl, e89q, (by decide : 0 + 0 ≤ _), (by decide : 0 + 0 ≤ _)⟩)
  dsimp only [Pt.U, Pt.locs, Pt.cells, Pt.slots] at X91 l91 y91 z91 st91 hQ91
  subst l91 y91 z91
  obtain ⟨rfl, N91q, e91q⟩ := hQ91
  have N91 := Fr.app N89 N91q
  have s92 : ∀ t, Steps p.tables e below (T91.setTop (mkF m 122 #[.val (.long ax), .second, .val (.long ah1), .second, .val (.int am1), .val (.long ah2), .second, .val (.int am2), .val (.int (1 : Int32)), .val (.long (fof (ah1 &&& (140737488355327 : Int64)) ((am1 &&& (65535 : Int32)) ||| (1 : Int32)))), .second, .val (.long (fof (ah1 &&& (8388607 : Int64)) ((am1 &&& (255 : Int32)) ||| (1 : Int32)))), .second, .val (.long (fof (ah2 &&& (8388607 : Int64)) ((am2 &&& (255 : Int32)) ||| (1 : Int32)))), .second, .val (.long (fpaired (fof (ah1 &&& (8388607 : Int64)) ((am1 &&& (255 : Int32)) ||| (1 : Int32))) (fof (ah2 &&& (8388607 : Int64)) ((am2 &&& (255 : Int32)) ||| (1 : Int32))))), .second] [(.int (lcmpW (fpaired (fof (ah1 &&& (8388607 : Int64)) ((am1 &&& (255 : Int32)) ||| (1 : Int32))) (fof (ah2 &&& (8388607 : Int64)) ((am2 &&& (255 : Int32)) ||| (1 : Int32)))) (0 : Int64)))])) t → Steps p.tables e below (T91.setTop (mkF m 111 #[.val (.long ax), .second, .val (.long ah1), .second, .val (.int am1), .val (.long ah2), .second, .val (.int am2), .val (.int (1 : Int32)), .val (.long (fof (ah1 &&& (140737488355327 : Int64)) ((am1 &&& (65535 : Int32)) ||| (1 : Int32)))), .second, .val (.long (fof (ah1 &&& (8388607 : Int64)) ((am1 &&& (255 : Int32)) ||| (1 : Int32)))), .second, .val (.long (fof (ah2 &&& (8388607 : Int64)) ((am2 &&& (255 : Int32)) ||| (1 : Int32)))), .second, .unset, .unset] [(.long (fpaired (fof (ah1 &&& (8388607 : Int64)) ((am1 &&& (255 : Int32)) ||| (1 : Int32))) (fof (ah2 &&& (8388607 : Int64)) ((am2 &&& (255 : Int32)) ||| (1 : Int32)))))])) t := by
    intro t kt
    refine XS.lstore X91.here hx rfl (hb hby at_111) rfl (l' := #[.val (.long ax), .second, .val (.long ah1), .second, .val (.int am1), .val (.long ah2), .second, .val (.int am2), .val (.int (1 : Int32)), .val (.long (fof (ah1 &&& (140737488355327 : Int64)) ((am1 &&& (65535 : Int32)) ||| (1 : Int32)))), .second, .val (.long (fof (ah1 &&& (8388607 : Int64)) ((am1 &&& (255 : Int32)) ||| (1 : Int32)))), .second, .val (.long (fof (ah2 &&& (8388607 : Int64)) ((am2 &&& (255 : Int32)) ||| (1 : Int32)))), .second, .val (.long (fpaired (fof (ah1 &&& (8388607 : Int64)) ((am1 &&& (255 : Int32)) ||| (1 : Int32))) (fof (ah2 &&& (8388607 : Int64)) ((am2 &&& (255 : Int32)) ||| (1 : Int32))))), .second]) rfl ?_
    show Steps p.tables e below (T91.setTop (mkF m 113 #[.val (.long ax), .second, .val (.long ah1), .second, .val (.int am1), .val (.long ah2), .second, .val (.int am2), .val (.int (1 : Int32)), .val (.long (fof (ah1 &&& (140737488355327 : Int64)) ((am1 &&& (65535 : Int32)) ||| (1 : Int32)))), .second, .val (.long (fof (ah1 &&& (8388607 : Int64)) ((am1 &&& (255 : Int32)) ||| (1 : Int32)))), .second, .val (.long (fof (ah2 &&& (8388607 : Int64)) ((am2 &&& (255 : Int32)) ||| (1 : Int32)))), .second, .val (.long (fpaired (fof (ah1 &&& (8388607 : Int64)) ((am1 &&& (255 : Int32)) ||| (1 : Int32))) (fof (ah2 &&& (8388607 : Int64)) ((am2 &&& (255 : Int32)) ||| (1 : Int32))))), .second] [])) t
    refine XS.iload X91.here hx rfl (hb hby at_113) rfl ?_
    show Steps p.tables e below (T91.setTop (mkF m 115 #[.val (.long ax), .second, .val (.long ah1), .second, .val (.int am1), .val (.long ah2), .second, .val (.int am2), .val (.int (1 : Int32)), .val (.long (fof (ah1 &&& (140737488355327 : Int64)) ((am1 &&& (65535 : Int32)) ||| (1 : Int32)))), .second, .val (.long (fof (ah1 &&& (8388607 : Int64)) ((am1 &&& (255 : Int32)) ||| (1 : Int32)))), .second, .val (.long (fof (ah2 &&& (8388607 : Int64)) ((am2 &&& (255 : Int32)) ||| (1 : Int32)))), .second, .val (.long (fpaired (fof (ah1 &&& (8388607 : Int64)) ((am1 &&& (255 : Int32)) ||| (1 : Int32))) (fof (ah2 &&& (8388607 : Int64)) ((am2 &&& (255 : Int32)) ||| (1 : Int32))))), .second] [(.int (1 : Int32))])) t
    refine XS.ifNo X91.here hx rfl (hb hby at_115) rfl ((if0 _ _).trans (feq (by decide)).1) ?_
    show Steps p.tables e below (T91.setTop (mkF m 118 #[.val (.long ax), .second, .val (.long ah1), .second, .val (.int am1), .val (.long ah2), .second, .val (.int am2), .val (.int (1 : Int32)), .val (.long (fof (ah1 &&& (140737488355327 : Int64)) ((am1 &&& (65535 : Int32)) ||| (1 : Int32)))), .second, .val (.long (fof (ah1 &&& (8388607 : Int64)) ((am1 &&& (255 : Int32)) ||| (1 : Int32)))), .second, .val (.long (fof (ah2 &&& (8388607 : Int64)) ((am2 &&& (255 : Int32)) ||| (1 : Int32)))), .second, .val (.long (fpaired (fof (ah1 &&& (8388607 : Int64)) ((am1 &&& (255 : Int32)) ||| (1 : Int32))) (fof (ah2 &&& (8388607 : Int64)) ((am2 &&& (255 : Int32)) ||| (1 : Int32))))), .second] [])) t
    refine XS.lload X91.here hx rfl (hb hby at_118) rfl ?_
    show Steps p.tables e below (T91.setTop (mkF m 120 #[.val (.long ax), .second, .val (.long ah1), .second, .val (.int am1), .val (.long ah2), .second, .val (.int am2), .val (.int (1 : Int32)), .val (.long (fof (ah1 &&& (140737488355327 : Int64)) ((am1 &&& (65535 : Int32)) ||| (1 : Int32)))), .second, .val (.long (fof (ah1 &&& (8388607 : Int64)) ((am1 &&& (255 : Int32)) ||| (1 : Int32)))), .second, .val (.long (fof (ah2 &&& (8388607 : Int64)) ((am2 &&& (255 : Int32)) ||| (1 : Int32)))), .second, .val (.long (fpaired (fof (ah1 &&& (8388607 : Int64)) ((am1 &&& (255 : Int32)) ||| (1 : Int32))) (fof (ah2 &&& (8388607 : Int64)) ((am2 &&& (255 : Int32)) ||| (1 : Int32))))), .second] [(.long (fpaired (fof (ah1 &&& (8388607 : Int64)) ((am1 &&& (255 : Int32)) ||| (1 : Int32))) (fof (ah2 &&& (8388607 : Int64)) ((am2 &&& (255 : Int32)) ||| (1 : Int32)))))])) t
    refine XS.lconst X91.here hx rfl (hb hby at_120) ?_
    show Steps p.tables e below (T91.setTop (mkF m 121 #[.val (.long ax), .second, .val (.long ah1), .second, .val (.int am1), .val (.long ah2), .second, .val (.int am2), .val (.int (1 : Int32)), .val (.long (fof (ah1 &&& (140737488355327 : Int64)) ((am1 &&& (65535 : Int32)) ||| (1 : Int32)))), .second, .val (.long (fof (ah1 &&& (8388607 : Int64)) ((am1 &&& (255 : Int32)) ||| (1 : Int32)))), .second, .val (.long (fof (ah2 &&& (8388607 : Int64)) ((am2 &&& (255 : Int32)) ||| (1 : Int32)))), .second, .val (.long (fpaired (fof (ah1 &&& (8388607 : Int64)) ((am1 &&& (255 : Int32)) ||| (1 : Int32))) (fof (ah2 &&& (8388607 : Int64)) ((am2 &&& (255 : Int32)) ||| (1 : Int32))))), .second] [(.long (0 : Int64)), (.long (fpaired (fof (ah1 &&& (8388607 : Int64)) ((am1 &&& (255 : Int32)) ||| (1 : Int32))) (fof (ah2 &&& (8388607 : Int64)) ((am2 &&& (255 : Int32)) ||| (1 : Int32)))))])) t
    refine XS.lcmp X91.here hx rfl (hb hby at_121) rfl ?_
    exact kt
  have hC := own_C ah1 am1 ah2 am2
  have s93 : ∀ t, Steps p.tables e below (T91.setTop (mkF m 127 #[.val (.long ax), .second, .val (.long ah1), .second, .val (.int am1), .val (.long ah2), .second, .val (.int am2), .val (.int (1 : Int32)), .val (.long (fof (ah1 &&& (140737488355327 : Int64)) ((am1 &&& (65535 : Int32)) ||| (1 : Int32)))), .second, .val (.long (fof (ah1 &&& (8388607 : Int64)) ((am1 &&& (255 : Int32)) ||| (1 : Int32)))), .second, .val (.long (fof (ah2 &&& (8388607 : Int64)) ((am2 &&& (255 : Int32)) ||| (1 : Int32)))), .second, .val (.long (fpaired (fof (ah1 &&& (8388607 : Int64)) ((am1 &&& (255 : Int32)) ||| (1 : Int32))) (fof (ah2 &&& (8388607 : Int64)) ((am2 &&& (255 : Int32)) ||| (1 : Int32))))), .second] [(.long (fpaired (fof (ah1 &&& (8388607 : Int64)) ((am1 &&& (255 : Int32)) ||| (1 : Int32))) (fof (ah2 &&& (8388607 : Int64)) ((am2 &&& (255 : Int32)) ||| (1 : Int32)))))])) t → Steps p.tables e below (T91.setTop (mkF m 122 #[.val (.long ax), .second, .val (.long ah1), .second, .val (.int am1), .val (.long ah2), .second, .val (.int am2), .val (.int (1 : Int32)), .val (.long (fof (ah1 &&& (140737488355327 : Int64)) ((am1 &&& (65535 : Int32)) ||| (1 : Int32)))), .second, .val (.long (fof (ah1 &&& (8388607 : Int64)) ((am1 &&& (255 : Int32)) ||| (1 : Int32)))), .second, .val (.long (fof (ah2 &&& (8388607 : Int64)) ((am2 &&& (255 : Int32)) ||| (1 : Int32)))), .second, .val (.long (fpaired (fof (ah1 &&& (8388607 : Int64)) ((am1 &&& (255 : Int32)) ||| (1 : Int32))) (fof (ah2 &&& (8388607 : Int64)) ((am2 &&& (255 : Int32)) ||| (1 : Int32))))), .second] [(.int (lcmpW (fpaired (fof (ah1 &&& (8388607 : Int64)) ((am1 &&& (255 : Int32)) ||| (1 : Int32))) (fof (ah2 &&& (8388607 : Int64)) ((am2 &&& (255 : Int32)) ||| (1 : Int32)))) (0 : Int64)))])) t := by
    intro t kt
    refine XS.ifNo X91.here hx rfl (hb hby at_122) rfl ((if0 _ _).trans (tlt ((lw_lt _ _).mpr hC.1)).2.1) ?_
    show Steps p.tables e below (T91.setTop (mkF m 125 #[.val (.long ax), .second, .val (.long ah1), .second, .val (.int am1), .val (.long ah2), .second, .val (.int am2), .val (.int (1 : Int32)), .val (.long (fof (ah1 &&& (140737488355327 : Int64)) ((am1 &&& (65535 : Int32)) ||| (1 : Int32)))), .second, .val (.long (fof (ah1 &&& (8388607 : Int64)) ((am1 &&& (255 : Int32)) ||| (1 : Int32)))), .second, .val (.long (fof (ah2 &&& (8388607 : Int64)) ((am2 &&& (255 : Int32)) ||| (1 : Int32)))), .second, .val (.long (fpaired (fof (ah1 &&& (8388607 : Int64)) ((am1 &&& (255 : Int32)) ||| (1 : Int32))) (fof (ah2 &&& (8388607 : Int64)) ((am2 &&& (255 : Int32)) ||| (1 : Int32))))), .second] [])) t
    refine XS.lload X91.here hx rfl (hb hby at_125) rfl ?_
    exact kt
  obtain ⟨_, _, ⟨T94, L94, k94, n94⟩, -, X94, ⟨Lc94, hQ94, l94, y94, z94⟩, st94⟩ := Jvm.LawKit.callS X91 hx (y := (⟨"com/example/stern_lock/sternlock/ShortForm", "isShort", "(J)Z"⟩ : MethodName)) hown (mvT hZ (hw _ (List.mem_of_getElem? (i := 0) rfl))) (mvT hZ (hw _ (List.mem_of_getElem? (i := 1) rfl))) (mvT hZ (hw _ (List.mem_of_getElem? (i := 2) rfl))) (mvT hZ (hw _ (List.mem_of_getElem? (i := 3) rfl))) (by decide) (backOf (W := 0) (rm1 l Z a0 hw [] (fpaired (fof (ah1 &&& (8388607 : Int64)) ((am1 &&& (255 : Int32)) ||| (1 : Int32))) (fof (ah2 &&& (8388607 : Int64)) ((am2 &&& (255 : Int32)) ||| (1 : Int32)))) h0 n0 Z0 ) hZ (hw _ (List.mem_of_getElem? (i := 3) rfl)) (hw _ (List.mem_of_getElem? (i := 2) rfl)) (by decide) (by decide)) (g := (mkF m 127 #[.val (.long ax), .second, .val (.long ah1), .second, .val (.int am1), .val (.long ah2), .second, .val (.int am2), .val (.int (1 : Int32)), .val (.long (fof (ah1 &&& (140737488355327 : Int64)) ((am1 &&& (65535 : Int32)) ||| (1 : Int32)))), .second, .val (.long (fof (ah1 &&& (8388607 : Int64)) ((am1 &&& (255 : Int32)) ||| (1 : Int32)))), .second, .val (.long (fof (ah2 &&& (8388607 : Int64)) ((am2 &&& (255 : Int32)) ||| (1 : Int32)))), .second, .val (.long (fpaired (fof (ah1 &&& (8388607 : Int64)) ((am1 &&& (255 : Int32)) ||| (1 : Int32))) (fof (ah2 &&& (8388607 : Int64)) ((am2 &&& (255 : Int32)) ||| (1 : Int32))))), .second] [(.long (fpaired (fof (ah1 &&& (8388607 : Int64)) ((am1 &&& (255 : Int32)) ||| (1 : Int32))) (fof (ah2 &&& (8388607 : Int64)) ((am2 &&& (255 : Int32)) ||| (1 : Int32)))))])) rfl (by rw [hml]; rfl) (argsL := [(.long (fpaired (fof (ah1 &&& (8388607 : Int64)) ((am1 &&& (255 : Int32)) ||| (1 : Int32))) (fof (ah2 &&& (8388607 : Int64)) ((am2 &&& (255 : Int32)) ||| (1 : Int32)))))]) (rest := []) (lenOf pd_oJcZ rfl) rfl (by show 2 * 0 + _ ≤ _; exact Nat.le_of_eq rfl) (hb hby at_127) (fun _ _ => ⟨rfl, e91q, (by decide : 0 + 0 ≤ _), (by decide : 0 + 0 ≤ _)⟩)
  dsimp only [Pt.U, Pt.locs, Pt.cells, Pt.slots] at X94 l94 y94 z94 st94 hQ94
  subst l94 y94 z94
  obtain ⟨rfl, N94q, e94q⟩ := hQ94
  have N94 := Fr.app N91 N94q
  have s95 : ∀ t, Steps p.tables e below (T94.setTop (mkF m 146 #[.val (.long ax), .second, .val (.long ah1), .second, .val (.int am1), .val (.long ah2), .second, .val (.int am2), .val (.int (1 : Int32)), .val (.long (fof (ah1 &&& (140737488355327 : Int64)) ((am1 &&& (65535 : Int32)) ||| (1 : Int32)))), .second, .val (.long (fof (ah1 &&& (8388607 : Int64)) ((am1 &&& (255 : Int32)) ||| (1 : Int32)))), .second, .val (.long (fof (ah2 &&& (8388607 : Int64)) ((am2 &&& (255 : Int32)) ||| (1 : Int32)))), .second, .val (.long (fpaired (fof (ah1 &&& (8388607 : Int64)) ((am1 &&& (255 : Int32)) ||| (1 : Int32))) (fof (ah2 &&& (8388607 : Int64)) ((am2 &&& (255 : Int32)) ||| (1 : Int32))))), .second] [(.long (0 : Int64))])) t → Steps p.tables e below (T94.setTop (mkF m 130 #[.val (.long ax), .second, .val (.long ah1), .second, .val (.int am1), .val (.long ah2), .second, .val (.int am2), .val (.int (1 : Int32)), .val (.long (fof (ah1 &&& (140737488355327 : Int64)) ((am1 &&& (65535 : Int32)) ||| (1 : Int32)))), .second, .val (.long (fof (ah1 &&& (8388607 : Int64)) ((am1 &&& (255 : Int32)) ||| (1 : Int32)))), .second, .val (.long (fof (ah2 &&& (8388607 : Int64)) ((am2 &&& (255 : Int32)) ||| (1 : Int32)))), .second, .val (.long (fpaired (fof (ah1 &&& (8388607 : Int64)) ((am1 &&& (255 : Int32)) ||| (1 : Int32))) (fof (ah2 &&& (8388607 : Int64)) ((am2 &&& (255 : Int32)) ||| (1 : Int32))))), .second] [(.int (fisShort (fpaired (fof (ah1 &&& (8388607 : Int64)) ((am1 &&& (255 : Int32)) ||| (1 : Int32))) (fof (ah2 &&& (8388607 : Int64)) ((am2 &&& (255 : Int32)) ||| (1 : Int32))))))])) t := by
    intro t kt
    refine XS.ifNo X94.here hx rfl (hb hby at_130) rfl ((if0 _ _).trans (feq hC.2).1) ?_
    show Steps p.tables e below (T94.setTop (mkF m 133 #[.val (.long ax), .second, .val (.long ah1), .second, .val (.int am1), .val (.long ah2), .second, .val (.int am2), .val (.int (1 : Int32)), .val (.long (fof (ah1 &&& (140737488355327 : Int64)) ((am1 &&& (65535 : Int32)) ||| (1 : Int32)))), .second, .val (.long (fof (ah1 &&& (8388607 : Int64)) ((am1 &&& (255 : Int32)) ||| (1 : Int32)))), .second, .val (.long (fof (ah2 &&& (8388607 : Int64)) ((am2 &&& (255 : Int32)) ||| (1 : Int32)))), .second, .val (.long (fpaired (fof (ah1 &&& (8388607 : Int64)) ((am1 &&& (255 : Int32)) ||| (1 : Int32))) (fof (ah2 &&& (8388607 : Int64)) ((am2 &&& (255 : Int32)) ||| (1 : Int32))))), .second] [])) t
    refine XS.iconst X94.here hx rfl (hb hby at_133) ?_
    show Steps p.tables e below (T94.setTop (mkF m 134 #[.val (.long ax), .second, .val (.long ah1), .second, .val (.int am1), .val (.long ah2), .second, .val (.int am2), .val (.int (1 : Int32)), .val (.long (fof (ah1 &&& (140737488355327 : Int64)) ((am1 &&& (65535 : Int32)) ||| (1 : Int32)))), .second, .val (.long (fof (ah1 &&& (8388607 : Int64)) ((am1 &&& (255 : Int32)) ||| (1 : Int32)))), .second, .val (.long (fof (ah2 &&& (8388607 : Int64)) ((am2 &&& (255 : Int32)) ||| (1 : Int32)))), .second, .val (.long (fpaired (fof (ah1 &&& (8388607 : Int64)) ((am1 &&& (255 : Int32)) ||| (1 : Int32))) (fof (ah2 &&& (8388607 : Int64)) ((am2 &&& (255 : Int32)) ||| (1 : Int32))))), .second] [(.int (1 : Int32))])) t
    refine XS.goto X94.here hx rfl (pc0 := 134) (pc' := 138) rfl (hb hby at_134) (by decide) (by decide) ?_
    show Steps p.tables e below (T94.setTop (mkF m 138 #[.val (.long ax), .second, .val (.long ah1), .second, .val (.int am1), .val (.long ah2), .second, .val (.int am2), .val (.int (1 : Int32)), .val (.long (fof (ah1 &&& (140737488355327 : Int64)) ((am1 &&& (65535 : Int32)) ||| (1 : Int32)))), .second, .val (.long (fof (ah1 &&& (8388607 : Int64)) ((am1 &&& (255 : Int32)) ||| (1 : Int32)))), .second, .val (.long (fof (ah2 &&& (8388607 : Int64)) ((am2 &&& (255 : Int32)) ||| (1 : Int32)))), .second, .val (.long (fpaired (fof (ah1 &&& (8388607 : Int64)) ((am1 &&& (255 : Int32)) ||| (1 : Int32))) (fof (ah2 &&& (8388607 : Int64)) ((am2 &&& (255 : Int32)) ||| (1 : Int32))))), .second] [(.int (1 : Int32))])) t
    refine XS.istore X94.here hx rfl (hb hby at_138) rfl (l' := #[.val (.long ax), .second, .val (.long ah1), .second, .val (.int am1), .val (.long ah2), .second, .val (.int am2), .val (.int (1 : Int32)), .val (.long (fof (ah1 &&& (140737488355327 : Int64)) ((am1 &&& (65535 : Int32)) ||| (1 : Int32)))), .second, .val (.long (fof (ah1 &&& (8388607 : Int64)) ((am1 &&& (255 : Int32)) ||| (1 : Int32)))), .second, .val (.long (fof (ah2 &&& (8388607 : Int64)) ((am2 &&& (255 : Int32)) ||| (1 : Int32)))), .second, .val (.long (fpaired (fof (ah1 &&& (8388607 : Int64)) ((am1 &&& (255 : Int32)) ||| (1 : Int32))) (fof (ah2 &&& (8388607 : Int64)) ((am2 &&& (255 : Int32)) ||| (1 : Int32))))), .second]) rfl ?_
    show Steps p.tables e below (T94.setTop (mkF m 140 #[.val (.long ax), .second, .val (.long ah1), .second, .val (.int am1), .val (.long ah2), .second, .val (.int am2), .val (.int (1 : Int32)), .val (.long (fof (ah1 &&& (140737488355327 : Int64)) ((am1 &&& (65535 : Int32)) ||| (1 : Int32)))), .second, .val (.long (fof (ah1 &&& (8388607 : Int64)) ((am1 &&& (255 : Int32)) ||| (1 : Int32)))), .second, .val (.long (fof (ah2 &&& (8388607 : Int64)) ((am2 &&& (255 : Int32)) ||| (1 : Int32)))), .second, .val (.long (fpaired (fof (ah1 &&& (8388607 : Int64)) ((am1 &&& (255 : Int32)) ||| (1 : Int32))) (fof (ah2 &&& (8388607 : Int64)) ((am2 &&& (255 : Int32)) ||| (1 : Int32))))), .second] [])) t
    refine XS.iload X94.here hx rfl (hb hby at_140) rfl ?_
    show Steps p.tables e below (T94.setTop (mkF m 142 #[.val (.long ax), .second, .val (.long ah1), .second, .val (.int am1), .val (.long ah2), .second, .val (.int am2), .val (.int (1 : Int32)), .val (.long (fof (ah1 &&& (140737488355327 : Int64)) ((am1 &&& (65535 : Int32)) ||| (1 : Int32)))), .second, .val (.long (fof (ah1 &&& (8388607 : Int64)) ((am1 &&& (255 : Int32)) ||| (1 : Int32)))), .second, .val (.long (fof (ah2 &&& (8388607 : Int64)) ((am2 &&& (255 : Int32)) ||| (1 : Int32)))), .second, .val (.long (fpaired (fof (ah1 &&& (8388607 : Int64)) ((am1 &&& (255 : Int32)) ||| (1 : Int32))) (fof (ah2 &&& (8388607 : Int64)) ((am2 &&& (255 : Int32)) ||| (1 : Int32))))), .second] [(.int (1 : Int32))])) t
    refine XS.ifNo X94.here hx rfl (hb hby at_142) rfl ((if0 _ _).trans (feq (by decide)).1) ?_
    show Steps p.tables e below (T94.setTop (mkF m 145 #[.val (.long ax), .second, .val (.long ah1), .second, .val (.int am1), .val (.long ah2), .second, .val (.int am2), .val (.int (1 : Int32)), .val (.long (fof (ah1 &&& (140737488355327 : Int64)) ((am1 &&& (65535 : Int32)) ||| (1 : Int32)))), .second, .val (.long (fof (ah1 &&& (8388607 : Int64)) ((am1 &&& (255 : Int32)) ||| (1 : Int32)))), .second, .val (.long (fof (ah2 &&& (8388607 : Int64)) ((am2 &&& (255 : Int32)) ||| (1 : Int32)))), .second, .val (.long (fpaired (fof (ah1 &&& (8388607 : Int64)) ((am1 &&& (255 : Int32)) ||| (1 : Int32))) (fof (ah2 &&& (8388607 : Int64)) ((am2 &&& (255 : Int32)) ||| (1 : Int32))))), .second] [])) t
    refine XS.lconst X94.here hx rfl (hb hby at_145) ?_
    exact kt
  obtain ⟨_, _, ⟨T96, L96, k96, n96⟩, -, X96, ⟨Lc96, hQ96, l96, y96, z96⟩, st96⟩ := Jvm.LawKit.callS X94 hx (y := (⟨"com/example/stern_lock/sternlock/ShortForm", "isShort", "(J)Z"⟩ : MethodName)) hown (mvT hZ (hw _ (List.mem_of_getElem? (i := 0) rfl))) (mvT hZ (hw _ (List.mem_of_getElem? (i := 1) rfl))) (mvT hZ (hw _ (List.mem_of_getElem? (i := 2) rfl))) (mvT hZ (hw _ (List.mem_of_getElem? (i := 3) rfl))) (by decide) (backOf (W := 0) (rm1 l Z a0 hw [] (0 : Int64) h0 n0 Z0 ) hZ (hw _ (List.mem_of_getElem? (i := 3) rfl)) (hw _ (List.mem_of_getElem? (i := 2) rfl)) (by decide) (by decide)) (g := (mkF m 146 #[.val (.long ax), .second, .val (.long ah1), .second, .val (.int am1), .val (.long ah2), .second, .val (.int am2), .val (.int (1 : Int32)), .val (.long (fof (ah1 &&& (140737488355327 : Int64)) ((am1 &&& (65535 : Int32)) ||| (1 : Int32)))), .second, .val (.long (fof (ah1 &&& (8388607 : Int64)) ((am1 &&& (255 : Int32)) ||| (1 : Int32)))), .second, .val (.long (fof (ah2 &&& (8388607 : Int64)) ((am2 &&& (255 : Int32)) ||| (1 : Int32)))), .second, .val (.long (fpaired (fof (ah1 &&& (8388607 : Int64)) ((am1 &&& (255 : Int32)) ||| (1 : Int32))) (fof (ah2 &&& (8388607 : Int64)) ((am2 &&& (255 : Int32)) ||| (1 : Int32))))), .second] [(.long (0 : Int64))])) rfl (by rw [hml]; rfl) (argsL := [(.long (0 : Int64))]) (rest := []) (lenOf pd_oJcZ rfl) rfl (by show 2 * 0 + _ ≤ _; exact Nat.le_of_eq rfl) (hb hby at_146) (fun _ _ => ⟨rfl, e94q, (by decide : 0 + 0 ≤ _), (by decide : 0 + 0 ≤ _)⟩)
  dsimp only [Pt.U, Pt.locs, Pt.cells, Pt.slots] at X96 l96 y96 z96 st96 hQ96
  subst l96 y96 z96
  obtain ⟨rfl, N96q, e96q⟩ := hQ96
  have N96 := Fr.app N94 N96q
  have s97 : ∀ t, Steps p.tables e below (T96.setTop (mkF m 167 #[.val (.long ax), .second, .val (.long ah1), .second, .val (.int am1), .val (.long ah2), .second, .val (.int am2), .val (.int (1 : Int32)), .val (.long (fof (ah1 &&& (140737488355327 : Int64)) ((am1 &&& (65535 : Int32)) ||| (1 : Int32)))), .second, .val (.long (fof (ah1 &&& (8388607 : Int64)) ((am1 &&& (255 : Int32)) ||| (1 : Int32)))), .second, .val (.long (fof (ah2 &&& (8388607 : Int64)) ((am2 &&& (255 : Int32)) ||| (1 : Int32)))), .second, .val (.long (fpaired (fof (ah1 &&& (8388607 : Int64)) ((am1 &&& (255 : Int32)) ||| (1 : Int32))) (fof (ah2 &&& (8388607 : Int64)) ((am2 &&& (255 : Int32)) ||| (1 : Int32))))), .second] [(.long (-1 : Int64))])) t → Steps p.tables e below (T96.setTop (mkF m 149 #[.val (.long ax), .second, .val (.long ah1), .second, .val (.int am1), .val (.long ah2), .second, .val (.int am2), .val (.int (1 : Int32)), .val (.long (fof (ah1 &&& (140737488355327 : Int64)) ((am1 &&& (65535 : Int32)) ||| (1 : Int32)))), .second, .val (.long (fof (ah1 &&& (8388607 : Int64)) ((am1 &&& (255 : Int32)) ||| (1 : Int32)))), .second, .val (.long (fof (ah2 &&& (8388607 : Int64)) ((am2 &&& (255 : Int32)) ||| (1 : Int32)))), .second, .val (.long (fpaired (fof (ah1 &&& (8388607 : Int64)) ((am1 &&& (255 : Int32)) ||| (1 : Int32))) (fof (ah2 &&& (8388607 : Int64)) ((am2 &&& (255 : Int32)) ||| (1 : Int32))))), .second] [(.int (fisShort (0 : Int64)))])) t := by
    intro t kt
    refine XS.ifNo X96.here hx rfl (hb hby at_149) rfl ((if0 _ _).trans (feq (by decide +kernel)).1) ?_
    show Steps p.tables e below (T96.setTop (mkF m 152 #[.val (.long ax), .second, .val (.long ah1), .second, .val (.int am1), .val (.long ah2), .second, .val (.int am2), .val (.int (1 : Int32)), .val (.long (fof (ah1 &&& (140737488355327 : Int64)) ((am1 &&& (65535 : Int32)) ||| (1 : Int32)))), .second, .val (.long (fof (ah1 &&& (8388607 : Int64)) ((am1 &&& (255 : Int32)) ||| (1 : Int32)))), .second, .val (.long (fof (ah2 &&& (8388607 : Int64)) ((am2 &&& (255 : Int32)) ||| (1 : Int32)))), .second, .val (.long (fpaired (fof (ah1 &&& (8388607 : Int64)) ((am1 &&& (255 : Int32)) ||| (1 : Int32))) (fof (ah2 &&& (8388607 : Int64)) ((am2 &&& (255 : Int32)) ||| (1 : Int32))))), .second] [])) t
    refine XS.iconst X96.here hx rfl (hb hby at_152) ?_
    show Steps p.tables e below (T96.setTop (mkF m 153 #[.val (.long ax), .second, .val (.long ah1), .second, .val (.int am1), .val (.long ah2), .second, .val (.int am2), .val (.int (1 : Int32)), .val (.long (fof (ah1 &&& (140737488355327 : Int64)) ((am1 &&& (65535 : Int32)) ||| (1 : Int32)))), .second, .val (.long (fof (ah1 &&& (8388607 : Int64)) ((am1 &&& (255 : Int32)) ||| (1 : Int32)))), .second, .val (.long (fof (ah2 &&& (8388607 : Int64)) ((am2 &&& (255 : Int32)) ||| (1 : Int32)))), .second, .val (.long (fpaired (fof (ah1 &&& (8388607 : Int64)) ((am1 &&& (255 : Int32)) ||| (1 : Int32))) (fof (ah2 &&& (8388607 : Int64)) ((am2 &&& (255 : Int32)) ||| (1 : Int32))))), .second] [(.int (1 : Int32))])) t
    refine XS.goto X96.here hx rfl (pc0 := 153) (pc' := 157) rfl (hb hby at_153) (by decide) (by decide) ?_
    show Steps p.tables e below (T96.setTop (mkF m 157 #[.val (.long ax), .second, .val (.long ah1), .second, .val (.int am1), .val (.long ah2), .second, .val (.int am2), .val (.int (1 : Int32)), .val (.long (fof (ah1 &&& (140737488355327 : Int64)) ((am1 &&& (65535 : Int32)) ||| (1 : Int32)))), .second, .val (.long (fof (ah1 &&& (8388607 : Int64)) ((am1 &&& (255 : Int32)) ||| (1 : Int32)))), .second, .val (.long (fof (ah2 &&& (8388607 : Int64)) ((am2 &&& (255 : Int32)) ||| (1 : Int32)))), .second, .val (.long (fpaired (fof (ah1 &&& (8388607 : Int64)) ((am1 &&& (255 : Int32)) ||| (1 : Int32))) (fof (ah2 &&& (8388607 : Int64)) ((am2 &&& (255 : Int32)) ||| (1 : Int32))))), .second] [(.int (1 : Int32))])) t
    refine XS.istore X96.here hx rfl (hb hby at_157) rfl (l' := #[.val (.long ax), .second, .val (.long ah1), .second, .val (.int am1), .val (.long ah2), .second, .val (.int am2), .val (.int (1 : Int32)), .val (.long (fof (ah1 &&& (140737488355327 : Int64)) ((am1 &&& (65535 : Int32)) ||| (1 : Int32)))), .second, .val (.long (fof (ah1 &&& (8388607 : Int64)) ((am1 &&& (255 : Int32)) ||| (1 : Int32)))), .second, .val (.long (fof (ah2 &&& (8388607 : Int64)) ((am2 &&& (255 : Int32)) ||| (1 : Int32)))), .second, .val (.long (fpaired (fof (ah1 &&& (8388607 : Int64)) ((am1 &&& (255 : Int32)) ||| (1 : Int32))) (fof (ah2 &&& (8388607 : Int64)) ((am2 &&& (255 : Int32)) ||| (1 : Int32))))), .second]) rfl ?_
    show Steps p.tables e below (T96.setTop (mkF m 159 #[.val (.long ax), .second, .val (.long ah1), .second, .val (.int am1), .val (.long ah2), .second, .val (.int am2), .val (.int (1 : Int32)), .val (.long (fof (ah1 &&& (140737488355327 : Int64)) ((am1 &&& (65535 : Int32)) ||| (1 : Int32)))), .second, .val (.long (fof (ah1 &&& (8388607 : Int64)) ((am1 &&& (255 : Int32)) ||| (1 : Int32)))), .second, .val (.long (fof (ah2 &&& (8388607 : Int64)) ((am2 &&& (255 : Int32)) ||| (1 : Int32)))), .second, .val (.long (fpaired (fof (ah1 &&& (8388607 : Int64)) ((am1 &&& (255 : Int32)) ||| (1 : Int32))) (fof (ah2 &&& (8388607 : Int64)) ((am2 &&& (255 : Int32)) ||| (1 : Int32))))), .second] [])) t
    refine XS.iload X96.here hx rfl (hb hby at_159) rfl ?_
    show Steps p.tables e below (T96.setTop (mkF m 161 #[.val (.long ax), .second, .val (.long ah1), .second, .val (.int am1), .val (.long ah2), .second, .val (.int am2), .val (.int (1 : Int32)), .val (.long (fof (ah1 &&& (140737488355327 : Int64)) ((am1 &&& (65535 : Int32)) ||| (1 : Int32)))), .second, .val (.long (fof (ah1 &&& (8388607 : Int64)) ((am1 &&& (255 : Int32)) ||| (1 : Int32)))), .second, .val (.long (fof (ah2 &&& (8388607 : Int64)) ((am2 &&& (255 : Int32)) ||| (1 : Int32)))), .second, .val (.long (fpaired (fof (ah1 &&& (8388607 : Int64)) ((am1 &&& (255 : Int32)) ||| (1 : Int32))) (fof (ah2 &&& (8388607 : Int64)) ((am2 &&& (255 : Int32)) ||| (1 : Int32))))), .second] [(.int (1 : Int32))])) t
    refine XS.ifNo X96.here hx rfl (hb hby at_161) rfl ((if0 _ _).trans (feq (by decide)).1) ?_
    show Steps p.tables e below (T96.setTop (mkF m 164 #[.val (.long ax), .second, .val (.long ah1), .second, .val (.int am1), .val (.long ah2), .second, .val (.int am2), .val (.int (1 : Int32)), .val (.long (fof (ah1 &&& (140737488355327 : Int64)) ((am1 &&& (65535 : Int32)) ||| (1 : Int32)))), .second, .val (.long (fof (ah1 &&& (8388607 : Int64)) ((am1 &&& (255 : Int32)) ||| (1 : Int32)))), .second, .val (.long (fof (ah2 &&& (8388607 : Int64)) ((am2 &&& (255 : Int32)) ||| (1 : Int32)))), .second, .val (.long (fpaired (fof (ah1 &&& (8388607 : Int64)) ((am1 &&& (255 : Int32)) ||| (1 : Int32))) (fof (ah2 &&& (8388607 : Int64)) ((am2 &&& (255 : Int32)) ||| (1 : Int32))))), .second] [])) t
    refine X96.ldc2Long hx hown (mvT hZ (hw _ (List.mem_of_getElem? (i := 30) rfl))) (g := (mkF m 164 #[.val (.long ax), .second, .val (.long ah1), .second, .val (.int am1), .val (.long ah2), .second, .val (.int am2), .val (.int (1 : Int32)), .val (.long (fof (ah1 &&& (140737488355327 : Int64)) ((am1 &&& (65535 : Int32)) ||| (1 : Int32)))), .second, .val (.long (fof (ah1 &&& (8388607 : Int64)) ((am1 &&& (255 : Int32)) ||| (1 : Int32)))), .second, .val (.long (fof (ah2 &&& (8388607 : Int64)) ((am2 &&& (255 : Int32)) ||| (1 : Int32)))), .second, .val (.long (fpaired (fof (ah1 &&& (8388607 : Int64)) ((am1 &&& (255 : Int32)) ||| (1 : Int32))) (fof (ah2 &&& (8388607 : Int64)) ((am2 &&& (255 : Int32)) ||| (1 : Int32))))), .second] [])) rfl (hb hby at_164) _ ?_
    exact kt
  obtain ⟨_, _, ⟨T98, L98, k98, n98⟩, -, X98, ⟨Lc98, hQ98, l98, y98, z98⟩, st98⟩ := Jvm.LawKit.callS X96 hx (y := (⟨"com/example/stern_lock/sternlock/ShortForm", "isShort", "(J)Z"⟩ : MethodName)) hown (mvT hZ (hw _ (List.mem_of_getElem? (i := 0) rfl))) (mvT hZ (hw _ (List.mem_of_getElem? (i := 1) rfl))) (mvT hZ (hw _ (List.mem_of_getElem? (i := 2) rfl))) (mvT hZ (hw _ (List.mem_of_getElem? (i := 3) rfl))) (by decide) (backOf (W := 0) (rm1 l Z a0 hw [] (-1 : Int64) h0 n0 Z0 ) hZ (hw _ (List.mem_of_getElem? (i := 3) rfl)) (hw _ (List.mem_of_getElem? (i := 2) rfl)) (by decide) (by decide)) (g := (mkF m 167 #[.val (.long ax), .second, .val (.long ah1), .second, .val (.int am1), .val (.long ah2), .second, .val (.int am2), .val (.int (1 : Int32)), .val (.long (fof (ah1 &&& (140737488355327 : Int64)) ((am1 &&& (65535 : Int32)) ||| (1 : Int32)))), .second, .val (.long (fof (ah1 &&& (8388607 : Int64)) ((am1 &&& (255 : Int32)) ||| (1 : Int32)))), .second, .val (.long (fof (ah2 &&& (8388607 : Int64)) ((am2 &&& (255 : Int32)) ||| (1 : Int32)))), .second, .val (.long (fpaired (fof (ah1 &&& (8388607 : Int64)) ((am1 &&& (255 : Int32)) ||| (1 : Int32))) (fof (ah2 &&& (8388607 : Int64)) ((am2 &&& (255 : Int32)) ||| (1 : Int32))))), .second] [(.long (-1 : Int64))])) rfl (by rw [hml]; rfl) (argsL := [(.long (-1 : Int64))]) (rest := []) (lenOf pd_oJcZ rfl) rfl (by show 2 * 0 + _ ≤ _; exact Nat.le_of_eq rfl) (hb hby at_167) (fun _ _ => ⟨rfl, e96q, (by decide : 0 + 0 ≤ _), (by decide : 0 + 0 ≤ _)⟩)
  dsimp only [Pt.U, Pt.locs, Pt.cells, Pt.slots] at X98 l98 y98 z98 st98 hQ98
  subst l98 y98 z98
  obtain ⟨rfl, N98q, e98q⟩ := hQ98
  have N98 := Fr.app N96 N98q
  have s99 : ∀ t, Steps p.tables e below (T98.setTop (mkF m 188 #[.val (.long ax), .second, .val (.long ah1), .second, .val (.int am1), .val (.long ah2), .second, .val (.int am2), .val (.int (1 : Int32)), .val (.long (fof (ah1 &&& (140737488355327 : Int64)) ((am1 &&& (65535 : Int32)) ||| (1 : Int32)))), .second, .val (.long (fof (ah1 &&& (8388607 : Int64)) ((am1 &&& (255 : Int32)) ||| (1 : Int32)))), .second, .val (.long (fof (ah2 &&& (8388607 : Int64)) ((am2 &&& (255 : Int32)) ||| (1 : Int32)))), .second, .val (.long (fpaired (fof (ah1 &&& (8388607 : Int64)) ((am1 &&& (255 : Int32)) ||| (1 : Int32))) (fof (ah2 &&& (8388607 : Int64)) ((am2 &&& (255 : Int32)) ||| (1 : Int32))))), .second] [(.long (-2 : Int64))])) t → Steps p.tables e below (T98.setTop (mkF m 170 #[.val (.long ax), .second, .val (.long ah1), .second, .val (.int am1), .val (.long ah2), .second, .val (.int am2), .val (.int (1 : Int32)), .val (.long (fof (ah1 &&& (140737488355327 : Int64)) ((am1 &&& (65535 : Int32)) ||| (1 : Int32)))), .second, .val (.long (fof (ah1 &&& (8388607 : Int64)) ((am1 &&& (255 : Int32)) ||| (1 : Int32)))), .second, .val (.long (fof (ah2 &&& (8388607 : Int64)) ((am2 &&& (255 : Int32)) ||| (1 : Int32)))), .second, .val (.long (fpaired (fof (ah1 &&& (8388607 : Int64)) ((am1 &&& (255 : Int32)) ||| (1 : Int32))) (fof (ah2 &&& (8388607 : Int64)) ((am2 &&& (255 : Int32)) ||| (1 : Int32))))), .second] [(.int (fisShort (-1 : Int64)))])) t := by
    intro t kt
    refine XS.ifNo X98.here hx rfl (hb hby at_170) rfl ((if0 _ _).trans (teq (by decide +kernel)).2) ?_
    show Steps p.tables e below (T98.setTop (mkF m 173 #[.val (.long ax), .second, .val (.long ah1), .second, .val (.int am1), .val (.long ah2), .second, .val (.int am2), .val (.int (1 : Int32)), .val (.long (fof (ah1 &&& (140737488355327 : Int64)) ((am1 &&& (65535 : Int32)) ||| (1 : Int32)))), .second, .val (.long (fof (ah1 &&& (8388607 : Int64)) ((am1 &&& (255 : Int32)) ||| (1 : Int32)))), .second, .val (.long (fof (ah2 &&& (8388607 : Int64)) ((am2 &&& (255 : Int32)) ||| (1 : Int32)))), .second, .val (.long (fpaired (fof (ah1 &&& (8388607 : Int64)) ((am1 &&& (255 : Int32)) ||| (1 : Int32))) (fof (ah2 &&& (8388607 : Int64)) ((am2 &&& (255 : Int32)) ||| (1 : Int32))))), .second] [])) t
    refine XS.iconst X98.here hx rfl (hb hby at_173) ?_
    show Steps p.tables e below (T98.setTop (mkF m 174 #[.val (.long ax), .second, .val (.long ah1), .second, .val (.int am1), .val (.long ah2), .second, .val (.int am2), .val (.int (1 : Int32)), .val (.long (fof (ah1 &&& (140737488355327 : Int64)) ((am1 &&& (65535 : Int32)) ||| (1 : Int32)))), .second, .val (.long (fof (ah1 &&& (8388607 : Int64)) ((am1 &&& (255 : Int32)) ||| (1 : Int32)))), .second, .val (.long (fof (ah2 &&& (8388607 : Int64)) ((am2 &&& (255 : Int32)) ||| (1 : Int32)))), .second, .val (.long (fpaired (fof (ah1 &&& (8388607 : Int64)) ((am1 &&& (255 : Int32)) ||| (1 : Int32))) (fof (ah2 &&& (8388607 : Int64)) ((am2 &&& (255 : Int32)) ||| (1 : Int32))))), .second] [(.int (1 : Int32))])) t
    refine XS.goto X98.here hx rfl (pc0 := 174) (pc' := 178) rfl (hb hby at_174) (by decide) (by decide) ?_
    show Steps p.tables e below (T98.setTop (mkF m 178 #[.val (.long ax), .second, .val (.long ah1), .second, .val (.int am1), .val (.long ah2), .second, .val (.int am2), .val (.int (1 : Int32)), .val (.long (fof (ah1 &&& (140737488355327 : Int64)) ((am1 &&& (65535 : Int32)) ||| (1 : Int32)))), .second, .val (.long (fof (ah1 &&& (8388607 : Int64)) ((am1 &&& (255 : Int32)) ||| (1 : Int32)))), .second, .val (.long (fof (ah2 &&& (8388607 : Int64)) ((am2 &&& (255 : Int32)) ||| (1 : Int32)))), .second, .val (.long (fpaired (fof (ah1 &&& (8388607 : Int64)) ((am1 &&& (255 : Int32)) ||| (1 : Int32))) (fof (ah2 &&& (8388607 : Int64)) ((am2 &&& (255 : Int32)) ||| (1 : Int32))))), .second] [(.int (1 : Int32))])) t
    refine XS.istore X98.here hx rfl (hb hby at_178) rfl (l' := #[.val (.long ax), .second, .val (.long ah1), .second, .val (.int am1), .val (.long ah2), .second, .val (.int am2), .val (.int (1 : Int32)), .val (.long (fof (ah1 &&& (140737488355327 : Int64)) ((am1 &&& (65535 : Int32)) ||| (1 : Int32)))), .second, .val (.long (fof (ah1 &&& (8388607 : Int64)) ((am1 &&& (255 : Int32)) ||| (1 : Int32)))), .second, .val (.long (fof (ah2 &&& (8388607 : Int64)) ((am2 &&& (255 : Int32)) ||| (1 : Int32)))), .second, .val (.long (fpaired (fof (ah1 &&& (8388607 : Int64)) ((am1 &&& (255 : Int32)) ||| (1 : Int32))) (fof (ah2 &&& (8388607 : Int64)) ((am2 &&& (255 : Int32)) ||| (1 : Int32))))), .second]) rfl ?_
    show Steps p.tables e below (T98.setTop (mkF m 180 #[.val (.long ax), .second, .val (.long ah1), .second, .val (.int am1), .val (.long ah2), .second, .val (.int am2), .val (.int (1 : Int32)), .val (.long (fof (ah1 &&& (140737488355327 : Int64)) ((am1 &&& (65535 : Int32)) ||| (1 : Int32)))), .second, .val (.long (fof (ah1 &&& (8388607 : Int64)) ((am1 &&& (255 : Int32)) ||| (1 : Int32)))), .second, .val (.long (fof (ah2 &&& (8388607 : Int64)) ((am2 &&& (255 : Int32)) ||| (1 : Int32)))), .second, .val (.long (fpaired (fof (ah1 &&& (8388607 : Int64)) ((am1 &&& (255 : Int32)) ||| (1 : Int32))) (fof (ah2 &&& (8388607 : Int64)) ((am2 &&& (255 : Int32)) ||| (1 : Int32))))), .second] [])) t
    refine XS.iload X98.here hx rfl (hb hby at_180) rfl ?_
    show Steps p.tables e below (T98.setTop (mkF m 182 #[.val (.long ax), .second, .val (.long ah1), .second, .val (.int am1), .val (.long ah2), .second, .val (.int am2), .val (.int (1 : Int32)), .val (.long (fof (ah1 &&& (140737488355327 : Int64)) ((am1 &&& (65535 : Int32)) ||| (1 : Int32)))), .second, .val (.long (fof (ah1 &&& (8388607 : Int64)) ((am1 &&& (255 : Int32)) ||| (1 : Int32)))), .second, .val (.long (fof (ah2 &&& (8388607 : Int64)) ((am2 &&& (255 : Int32)) ||| (1 : Int32)))), .second, .val (.long (fpaired (fof (ah1 &&& (8388607 : Int64)) ((am1 &&& (255 : Int32)) ||| (1 : Int32))) (fof (ah2 &&& (8388607 : Int64)) ((am2 &&& (255 : Int32)) ||| (1 : Int32))))), .second] [(.int (1 : Int32))])) t
    refine XS.ifNo X98.here hx rfl (hb hby at_182) rfl ((if0 _ _).trans (feq (by decide)).1) ?_
    show Steps p.tables e below (T98.setTop (mkF m 185 #[.val (.long ax), .second, .val (.long ah1), .second, .val (.int am1), .val (.long ah2), .second, .val (.int am2), .val (.int (1 : Int32)), .val (.long (fof (ah1 &&& (140737488355327 : Int64)) ((am1 &&& (65535 : Int32)) ||| (1 : Int32)))), .second, .val (.long (fof (ah1 &&& (8388607 : Int64)) ((am1 &&& (255 : Int32)) ||| (1 : Int32)))), .second, .val (.long (fof (ah2 &&& (8388607 : Int64)) ((am2 &&& (255 : Int32)) ||| (1 : Int32)))), .second, .val (.long (fpaired (fof (ah1 &&& (8388607 : Int64)) ((am1 &&& (255 : Int32)) ||| (1 : Int32))) (fof (ah2 &&& (8388607 : Int64)) ((am2 &&& (255 : Int32)) ||| (1 : Int32))))), .second] [])) t
    refine X98.ldc2Long hx hown (mvT hZ (hw _ (List.mem_of_getElem? (i := 31) rfl))) (g := (mkF m 185 #[.val (.long ax), .second, .val (.long ah1), .second, .val (.int am1), .val (.long ah2), .second, .val (.int am2), .val (.int (1 : Int32)), .val (.long (fof (ah1 &&& (140737488355327 : Int64)) ((am1 &&& (65535 : Int32)) ||| (1 : Int32)))), .second, .val (.long (fof (ah1 &&& (8388607 : Int64)) ((am1 &&& (255 : Int32)) ||| (1 : Int32)))), .second, .val (.long (fof (ah2 &&& (8388607 : Int64)) ((am2 &&& (255 : Int32)) ||| (1 : Int32)))), .second, .val (.long (fpaired (fof (ah1 &&& (8388607 : Int64)) ((am1 &&& (255 : Int32)) ||| (1 : Int32))) (fof (ah2 &&& (8388607 : Int64)) ((am2 &&& (255 : Int32)) ||| (1 : Int32))))), .second] [])) rfl (hb hby at_185) _ ?_
    exact kt
  obtain ⟨_, _, ⟨T100, L100, k100, n100⟩, -, X100, ⟨Lc100, hQ100, l100, y100, z100⟩, st100⟩ := Jvm.LawKit.callS X98 hx (y := (⟨"com/example/stern_lock/sternlock/ShortForm", "isShort", "(J)Z"⟩ : MethodName)) hown (mvT hZ (hw _ (List.mem_of_getElem? (i := 0) rfl))) (mvT hZ (hw _ (List.mem_of_getElem? (i := 1) rfl))) (mvT hZ (hw _ (List.mem_of_getElem? (i := 2) rfl))) (mvT hZ (hw _ (List.mem_of_getElem? (i := 3) rfl))) (by decide) (backOf (W := 0) (rm1 l Z a0 hw [] (-2 : Int64) h0 n0 Z0 ) hZ (hw _ (List.mem_of_getElem? (i := 3) rfl)) (hw _ (List.mem_of_getElem? (i := 2) rfl)) (by decide) (by decide)) (g := (mkF m 188 #[.val (.long ax), .second, .val (.long ah1), .second, .val (.int am1), .val (.long ah2), .second, .val (.int am2), .val (.int (1 : Int32)), .val (.long (fof (ah1 &&& (140737488355327 : Int64)) ((am1 &&& (65535 : Int32)) ||| (1 : Int32)))), .second, .val (.long (fof (ah1 &&& (8388607 : Int64)) ((am1 &&& (255 : Int32)) ||| (1 : Int32)))), .second, .val (.long (fof (ah2 &&& (8388607 : Int64)) ((am2 &&& (255 : Int32)) ||| (1 : Int32)))), .second, .val (.long (fpaired (fof (ah1 &&& (8388607 : Int64)) ((am1 &&& (255 : Int32)) ||| (1 : Int32))) (fof (ah2 &&& (8388607 : Int64)) ((am2 &&& (255 : Int32)) ||| (1 : Int32))))), .second] [(.long (-2 : Int64))])) rfl (by rw [hml]; rfl) (argsL := [(.long (-2 : Int64))]) (rest := []) (lenOf pd_oJcZ rfl) rfl (by show 2 * 0 + _ ≤ _; exact Nat.le_of_eq rfl) (hb hby at_188) (fun _ _ => ⟨rfl, e98q, (by decide : 0 + 0 ≤ _), (by decide : 0 + 0 ≤ _)⟩)
  dsimp only [Pt.U, Pt.locs, Pt.cells, Pt.slots] at X100 l100 y100 z100 st100 hQ100
  subst l100 y100 z100
  obtain ⟨rfl, N100q, e100q⟩ := hQ100
  have N100 := Fr.app N98 N100q
  have s101 : ∀ t, Steps p.tables e below (T100.setTop (mkF m 203 #[.val (.long ax), .second, .val (.long ah1), .second, .val (.int am1), .val (.long ah2), .second, .val (.int am2), .val (.int (1 : Int32)), .val (.long (fof (ah1 &&& (140737488355327 : Int64)) ((am1 &&& (65535 : Int32)) ||| (1 : Int32)))), .second, .val (.long (fof (ah1 &&& (8388607 : Int64)) ((am1 &&& (255 : Int32)) ||| (1 : Int32)))), .second, .val (.long (fof (ah2 &&& (8388607 : Int64)) ((am2 &&& (255 : Int32)) ||| (1 : Int32)))), .second, .val (.long (fpaired (fof (ah1 &&& (8388607 : Int64)) ((am1 &&& (255 : Int32)) ||| (1 : Int32))) (fof (ah2 &&& (8388607 : Int64)) ((am2 &&& (255 : Int32)) ||| (1 : Int32))))), .second] [(.int (1 : Int32))])) t → Steps p.tables e below (T100.setTop (mkF m 191 #[.val (.long ax), .second, .val (.long ah1), .second, .val (.int am1), .val (.long ah2), .second, .val (.int am2), .val (.int (1 : Int32)), .val (.long (fof (ah1 &&& (140737488355327 : Int64)) ((am1 &&& (65535 : Int32)) ||| (1 : Int32)))), .second, .val (.long (fof (ah1 &&& (8388607 : Int64)) ((am1 &&& (255 : Int32)) ||| (1 : Int32)))), .second, .val (.long (fof (ah2 &&& (8388607 : Int64)) ((am2 &&& (255 : Int32)) ||| (1 : Int32)))), .second, .val (.long (fpaired (fof (ah1 &&& (8388607 : Int64)) ((am1 &&& (255 : Int32)) ||| (1 : Int32))) (fof (ah2 &&& (8388607 : Int64)) ((am2 &&& (255 : Int32)) ||| (1 : Int32))))), .second] [(.int (fisShort (-2 : Int64)))])) t := by
    intro t kt
    refine XS.ifNo X100.here hx rfl (hb hby at_191) rfl ((if0 _ _).trans (teq (by decide +kernel)).2) ?_
    show Steps p.tables e below (T100.setTop (mkF m 194 #[.val (.long ax), .second, .val (.long ah1), .second, .val (.int am1), .val (.long ah2), .second, .val (.int am2), .val (.int (1 : Int32)), .val (.long (fof (ah1 &&& (140737488355327 : Int64)) ((am1 &&& (65535 : Int32)) ||| (1 : Int32)))), .second, .val (.long (fof (ah1 &&& (8388607 : Int64)) ((am1 &&& (255 : Int32)) ||| (1 : Int32)))), .second, .val (.long (fof (ah2 &&& (8388607 : Int64)) ((am2 &&& (255 : Int32)) ||| (1 : Int32)))), .second, .val (.long (fpaired (fof (ah1 &&& (8388607 : Int64)) ((am1 &&& (255 : Int32)) ||| (1 : Int32))) (fof (ah2 &&& (8388607 : Int64)) ((am2 &&& (255 : Int32)) ||| (1 : Int32))))), .second] [])) t
    refine XS.iconst X100.here hx rfl (hb hby at_194) ?_
    show Steps p.tables e below (T100.setTop (mkF m 195 #[.val (.long ax), .second, .val (.long ah1), .second, .val (.int am1), .val (.long ah2), .second, .val (.int am2), .val (.int (1 : Int32)), .val (.long (fof (ah1 &&& (140737488355327 : Int64)) ((am1 &&& (65535 : Int32)) ||| (1 : Int32)))), .second, .val (.long (fof (ah1 &&& (8388607 : Int64)) ((am1 &&& (255 : Int32)) ||| (1 : Int32)))), .second, .val (.long (fof (ah2 &&& (8388607 : Int64)) ((am2 &&& (255 : Int32)) ||| (1 : Int32)))), .second, .val (.long (fpaired (fof (ah1 &&& (8388607 : Int64)) ((am1 &&& (255 : Int32)) ||| (1 : Int32))) (fof (ah2 &&& (8388607 : Int64)) ((am2 &&& (255 : Int32)) ||| (1 : Int32))))), .second] [(.int (1 : Int32))])) t
    refine XS.goto X100.here hx rfl (pc0 := 195) (pc' := 199) rfl (hb hby at_195) (by decide) (by decide) ?_
    show Steps p.tables e below (T100.setTop (mkF m 199 #[.val (.long ax), .second, .val (.long ah1), .second, .val (.int am1), .val (.long ah2), .second, .val (.int am2), .val (.int (1 : Int32)), .val (.long (fof (ah1 &&& (140737488355327 : Int64)) ((am1 &&& (65535 : Int32)) ||| (1 : Int32)))), .second, .val (.long (fof (ah1 &&& (8388607 : Int64)) ((am1 &&& (255 : Int32)) ||| (1 : Int32)))), .second, .val (.long (fof (ah2 &&& (8388607 : Int64)) ((am2 &&& (255 : Int32)) ||| (1 : Int32)))), .second, .val (.long (fpaired (fof (ah1 &&& (8388607 : Int64)) ((am1 &&& (255 : Int32)) ||| (1 : Int32))) (fof (ah2 &&& (8388607 : Int64)) ((am2 &&& (255 : Int32)) ||| (1 : Int32))))), .second] [(.int (1 : Int32))])) t
    refine XS.istore X100.here hx rfl (hb hby at_199) rfl (l' := #[.val (.long ax), .second, .val (.long ah1), .second, .val (.int am1), .val (.long ah2), .second, .val (.int am2), .val (.int (1 : Int32)), .val (.long (fof (ah1 &&& (140737488355327 : Int64)) ((am1 &&& (65535 : Int32)) ||| (1 : Int32)))), .second, .val (.long (fof (ah1 &&& (8388607 : Int64)) ((am1 &&& (255 : Int32)) ||| (1 : Int32)))), .second, .val (.long (fof (ah2 &&& (8388607 : Int64)) ((am2 &&& (255 : Int32)) ||| (1 : Int32)))), .second, .val (.long (fpaired (fof (ah1 &&& (8388607 : Int64)) ((am1 &&& (255 : Int32)) ||| (1 : Int32))) (fof (ah2 &&& (8388607 : Int64)) ((am2 &&& (255 : Int32)) ||| (1 : Int32))))), .second]) rfl ?_
    show Steps p.tables e below (T100.setTop (mkF m 201 #[.val (.long ax), .second, .val (.long ah1), .second, .val (.int am1), .val (.long ah2), .second, .val (.int am2), .val (.int (1 : Int32)), .val (.long (fof (ah1 &&& (140737488355327 : Int64)) ((am1 &&& (65535 : Int32)) ||| (1 : Int32)))), .second, .val (.long (fof (ah1 &&& (8388607 : Int64)) ((am1 &&& (255 : Int32)) ||| (1 : Int32)))), .second, .val (.long (fof (ah2 &&& (8388607 : Int64)) ((am2 &&& (255 : Int32)) ||| (1 : Int32)))), .second, .val (.long (fpaired (fof (ah1 &&& (8388607 : Int64)) ((am1 &&& (255 : Int32)) ||| (1 : Int32))) (fof (ah2 &&& (8388607 : Int64)) ((am2 &&& (255 : Int32)) ||| (1 : Int32))))), .second] [])) t
    refine XS.iload X100.here hx rfl (hb hby at_201) rfl ?_
    exact kt
  obtain ⟨fs_, hr, hrun, hended, hW, hsame⟩ := X100.leave (v := some (.int (1 : Int32))) (fun h => by rw [Bd.returns] at h; cases h)
  refine ⟨_, _, pre0 _ (s68 _ (st69 _ (s70 _ (j80 _ (s81 _ (st82 _ (s83 _ (s84 _ (st85 _ (s86 _ (st87 _ (s88 _ (st89 _ (s90 _ (st91 _ (s92 _ (s93 _ (st94 _ (s95 _ (st96 _ (s97 _ (st98 _ (s99 _ (st100 _ (s101 _ (?_)))))))))))))))))))))))))), hrun, hended, _, _, rfl, ?_, ⟨_, rfl⟩, hW, hsame.mono (by decide) (by decide)⟩
  · show Steps p.tables e below (T100.setTop (mkF m 203 #[.val (.long ax), .second, .val (.long ah1), .second, .val (.int am1), .val (.long ah2), .second, .val (.int am2), .val (.int (1 : Int32)), .val (.long (fof (ah1 &&& (140737488355327 : Int64)) ((am1 &&& (65535 : Int32)) ||| (1 : Int32)))), .second, .val (.long (fof (ah1 &&& (8388607 : Int64)) ((am1 &&& (255 : Int32)) ||| (1 : Int32)))), .second, .val (.long (fof (ah2 &&& (8388607 : Int64)) ((am2 &&& (255 : Int32)) ||| (1 : Int32)))), .second, .val (.long (fpaired (fof (ah1 &&& (8388607 : Int64)) ((am1 &&& (255 : Int32)) ||| (1 : Int32))) (fof (ah2 &&& (8388607 : Int64)) ((am2 &&& (255 : Int32)) ||| (1 : Int32))))), .second] [(.int (1 : Int32))])) _
    exact retN X100 hx (t := .boolean) Bd.returns (by simp) (hb hby at_203) hr
  · show Q0 Z ax ah1 am1 ah2 am2 h0 n0 _ T100.heap _
    rw [e100q]
    exact ⟨rfl, N100⟩
set_option maxRecDepth 65536 in
set_option maxHeartbeats 40000000 in
theorem comes_1 {Post : Tables → Env → Array Value → State → Outcome → State → Prop} (hpost : ∀ tb e args s v u, (limb_1_1.after args s (.returned v) u = true ∧ limb_1_2.after args s (.returned v) u = true ∧ True) → FrameEnd s (.returned v) u (Jvm.fieldLocs frame_1_writes args s ++ Jvm.arrayLocs frame_1_arrays args s ++ Jvm.staticLocs frame_1_statics s) 0 0 → Post tb e args s (.returned v) u) :
    ArmFor flags0 classFile x code maxLocals ret World_1 tables_1 room_1 Calls_1 rest_1 Pre_1 Post := by
  intro l hfl _ _ p e ha hc hk s m args below hf hA hF happ hP
  obtain ⟨hcalls, hrest, hpre⟩ := hP
  obtain ⟨-, -, -, hnamed, -, -, -, hat⟩ := (Spec.applies_iff hf).mp happ
  obtain ⟨hg, hn⟩ := and_e (Cond.before_iff.mp (show (Jvm.Cond.and given_1 narrow_1).before args s = true from hpre))
  obtain ⟨ha0, hb0⟩ := and_e hg
  obtain ⟨ha1, hb1⟩ := and_e hb0
  obtain ⟨ha2, hb2⟩ := and_e hb1
  obtain ⟨ha3, hb3⟩ := and_e hb2
  obtain ⟨ha4, hb4⟩ := and_e hb3
  obtain ⟨w0, w1, w2, w3, w4, rfl⟩ : ∃ w0 w1 w2 w3 w4 : Value, args = #[w0, w1, w2, w3, w4] := by
    have hs : args.size = 5 := by simpa [Cond.value, given_1] using ha0
    obtain ⟨L⟩ := args
    match L, hs with
    | [w0, w1, w2, w3, w4], _ => exact ⟨w0, w1, w2, w3, w4, rfl⟩
  have hw := fun d (hd : d ∈ tables_1) => atoms_spec (ws := Jvm.Cond.code x code maxLocals ret :: tables_1) hat d (List.mem_cons_of_mem _ hd)
  obtain ⟨i0, ei0⟩ := isL_v ha1
  obtain rfl : w0 = (.long i0) := Option.some.inj ei0
  obtain ⟨i1, ei1⟩ := isL_v ha2
  obtain rfl : w1 = (.long i1) := Option.some.inj ei1
  obtain ⟨i2, ei2⟩ := is_v ha3
  obtain rfl : w2 = (.int i2) := Option.some.inj ei2
  obtain ⟨i3, ei3⟩ := isL_v ha4
  obtain rfl : w3 = (.long i3) := Option.some.inj ei3
  obtain ⟨i4, ei4⟩ := is_v hb4
  obtain rfl : w4 = (.int i4) := Option.some.inj ei4
  obtain ⟨n, o, h1, h2, h3, _, L, rfl, ⟨rfl, N⟩, hq⟩ := rm0 l s _ hw tables_1 i0 i1 i2 i3 i4 s.heap s.heap.size (Nat.le_refl _)  p e ha hc hk s m _ below hf ((Spec.applies_iff_loose hf).mp happ).1 ⟨rfl, State.Warmed39.refl s, rfl⟩ trivial
  refine ⟨n, _, h1, h2, h3, hpost _ _ _ _ _ _ ⟨Cond.after_iff.mpr rfl, Cond.after_iff.mpr (eq_i res_at (Term.int_eval (1)) rfl), trivial⟩ ⟨hq.1, hq.2.1, (hq.2.2.sift fun y hy => Or.inr (N y hy)).mono (by decide) (by decide)⟩⟩
theorem main_1_1 : Claimed_1_1 := comes_1 fun _ _ _ _ _ _ h hF => ⟨h.1, hF⟩
theorem main_1_2 : Claimed_1_2 := comes_1 fun _ _ _ _ _ _ h hF => ⟨h.2.1, hF⟩
end Jvm.Pilot.@@N@@
namespace Jvm.Pilot.@@N@@
open Jvm Jvm.ClassFile Sem Op Lib Jvm.Free Jvm.Stand Jvm.Pilot.@@N@@.Jvm.D
/-! MADE BY PROGRAM (witnessworld.py) out of the Statement's table words and the real class files: 9 classes; the members and pool entries that the words name. The judged class is class 1, her method 1. -/
namespace start1
open Jvm.ClassFile
def u (s : String) : CpInfo := .utf8 (stringToUtf16 s)
/-- a pool by its gaps: so many unusable entries, then the entry; so many at the end -/
def gap : Nat → List CpInfo → List CpInfo
  | 0, r => r
  | n + 1, r => .unusable :: gap n r
def poolList (es : List (Nat × CpInfo)) (last : Nat) : List CpInfo := es.foldr (fun e r => gap e.1 (e.2 :: r)) (gap last [])
def pool (es : List (Nat × CpInfo)) (last : Nat) : Array CpInfo := ⟨poolList es last⟩
def fileOf (pool : Array CpInfo) (this : Nat) (attrs : Array Attribute := #[]) (ms : Array MethodInfo := #[]) (fl : Nat := 33) (sup : Nat := 0) (ifs : Array Nat := #[]) (fds : Array FieldInfo := #[]) : ClassFile where
  minorVersion := 0
  majorVersion := 65
  constantPool := pool
  accessFlags := fl
  thisClass := this
  superClass := sup
  interfaces := ifs
  fields := fds
  methods := ms
  attributes := attrs
def plain (name : String) (sup : Option ClassId) : Class where
  name := name
  kind := .ordinary
  loader := none
  accessFlags := 33
  super := sup
  interfaces := #[]
  cf := none
  fields := #[]
  methods := #[]
  instanceTypes := #[]
  staticTypes := #[]
  resolved := #[]
  callSites := []
  init := .initialized
  statics := none
  mirror := none

def pool0 : Array CpInfo := pool [(5, u "<init>"), (0, u "()V"), (1, .class_ 10), (1, u "java/lang/Object")] 113

def k0m0 : Method := { name := "<init>", desc := "()V", sig := { parameters := [], returnType := none }, accessFlags := 1, code := none }
/-- java/lang/Object -/
def k0 : Class := { plain "java/lang/Object" none with
  accessFlags := 33
  interfaces := #[]
  cf := some (fileOf pool0 8 #[] #[{ accessFlags := 1, nameIndex := 5, descriptorIndex := 6, attributes := #[] }] 33 0 #[] #[])
  fields := #[]
  methods := #[k0m0]
  instanceTypes := #[]
  staticTypes := #[]
  resolved := Array.replicate 124 none
  statics := none }

def pool1 : Array CpInfo := pool [(2, .class_ 4), (1, u "java/lang/Object"), (0, u "<init>"), (0, u "()V"), (0, .methodref 8 9), (0, .class_ 10), (0, .nameAndType 11 12), (0, u "com/example/stern_lock/sternlock/ShortForm"), (0, u "isShort"), (0, u "(J)Z"), (0, .long 3), (1, .long 140737488355327), (1, .integer 65535), (0, .methodref 8 19), (0, .nameAndType 20 21), (0, u "of"), (0, u "(JI)J"), (0, .long 8388607), (1, .methodref 8 25), (0, .nameAndType 26 27), (0, u "paired"), (0, u "(JJ)J"), (0, .long 18446744073709551615), (1, .long 18446744073709551614), (1, .class_ 33), (0, u "com/example/stern_lock/sternlock/ShortFormIsShortPinLaw"), (2, u "law"), (0, u "(JJIJI)Z")] 3

def k1m0 : Method := { name := "<init>", desc := "()V", sig := { parameters := [], returnType := none }, accessFlags := 2, code := none }
def k1c1 : Code := { maxStack := 5, maxLocals := 17, code := code, exceptionTable := #[], attributes := #[] }
def k1m1 : Method := { name := "law", desc := "(JJIJI)Z", sig := { parameters := [.long, .long, .int, .long, .int], returnType := some .boolean }, accessFlags := 9, code := some k1c1 }
/-- com/example/stern_lock/sternlock/ShortFormIsShortPinLaw -/
def k1 : Class := { plain "com/example/stern_lock/sternlock/ShortFormIsShortPinLaw" (some 0) with
  accessFlags := 49
  interfaces := #[]
  cf := some (fileOf pool1 32 #[] #[{ accessFlags := 2, nameIndex := 5, descriptorIndex := 6, attributes := #[] }, { accessFlags := 9, nameIndex := 36, descriptorIndex := 37, attributes := #[] }] 49 2 #[] #[])
  fields := #[]
  methods := #[k1m0, k1m1]
  instanceTypes := #[]
  staticTypes := #[]
  resolved := Array.replicate 41 none
  statics := none }

def pool2 : Array CpInfo := pool [(3, .class_ 4), (0, u "com/example/stern_lock/sternlock/ShortForm"), (1, .class_ 8), (1, u "java/lang/Object"), (0, u "<init>"), (0, u "()V"), (0, .long 65535), (1, .long 13835058055282163712), (1, .long 9223372036854775808), (6, u "(J)J"), (2, u "isShort"), (0, u "(J)Z"), (2, u "modesOf"), (4, u "(J)I"), (3, u "(JI)J"), (0, .methodref 3 40), (0, .nameAndType 41 22), (0, u "holderOf"), (0, .methodref 3 43), (0, .nameAndType 29 34), (18, u "of"), (2, u "paired"), (0, u "(JJ)J"), (0, .long 18446744073709551614), (4, .methodref 3 73), (0, .nameAndType 74 26), (0, u "fitsInPair"), (0, .methodref 3 76), (0, .nameAndType 77 22), (0, u "half"), (0, .long 18446744073709551360), (3, u "MODE_BITS"), (0, u "I"), (2, u "MAX_HOLDER"), (0, u "J"), (2, u "FREE"), (2, u "FULL"), (2, u "SHARED"), (0, u "MODES"), (0, u "PAIR_ID_BITS"), (1, u "PAIR_MODE_BITS"), (1, u "HALF_BITS"), (1, u "HALF"), (0, u "PAIR_MODES"), (0, u "TAG"), (0, u "PAIR")] 10

def k2m0 : Method := { name := "<init>", desc := "()V", sig := { parameters := [], returnType := none }, accessFlags := 2, code := none }
def k2c1 : Code := { maxStack := 4, maxLocals := 3, code := prog_37_method_2_code, exceptionTable := #[], attributes := #[] }
def k2m1 : Method := { name := "of", desc := "(JI)J", sig := { parameters := [.long, .int], returnType := some .long }, accessFlags := 8, code := some k2c1 }
def k2c2 : Code := { maxStack := 3, maxLocals := 2, code := prog_37_method_3_code, exceptionTable := #[], attributes := #[] }
def k2m2 : Method := { name := "holderOf", desc := "(J)J", sig := { parameters := [.long], returnType := some .long }, accessFlags := 8, code := some k2c2 }
def k2c3 : Code := { maxStack := 4, maxLocals := 2, code := prog_37_method_4_code, exceptionTable := #[], attributes := #[] }
def k2m3 : Method := { name := "modesOf", desc := "(J)I", sig := { parameters := [.long], returnType := some .int }, accessFlags := 8, code := some k2c3 }
def k2c4 : Code := { maxStack := 4, maxLocals := 2, code := prog_37_method_5_code, exceptionTable := #[], attributes := #[] }
def k2m4 : Method := { name := "isShort", desc := "(J)Z", sig := { parameters := [.long], returnType := some .boolean }, accessFlags := 8, code := some k2c4 }
def k2c5 : Code := { maxStack := 5, maxLocals := 4, code := prog_37_method_13_code, exceptionTable := #[], attributes := #[] }
def k2m5 : Method := { name := "paired", desc := "(JJ)J", sig := { parameters := [.long, .long], returnType := some .long }, accessFlags := 8, code := some k2c5 }
def k2c6 : Code := { maxStack := 4, maxLocals := 2, code := prog_37_method_16_code, exceptionTable := #[], attributes := #[] }
def k2m6 : Method := { name := "fitsInPair", desc := "(J)Z", sig := { parameters := [.long], returnType := some .boolean }, accessFlags := 10, code := some k2c6 }
def k2c7 : Code := { maxStack := 4, maxLocals := 2, code := prog_37_method_17_code, exceptionTable := #[], attributes := #[] }
def k2m7 : Method := { name := "half", desc := "(J)J", sig := { parameters := [.long], returnType := some .long }, accessFlags := 10, code := some k2c7 }
/-- com/example/stern_lock/sternlock/ShortForm -/
def k2 : Class := { plain "com/example/stern_lock/sternlock/ShortForm" (some 0) with
  accessFlags := 48
  interfaces := #[]
  cf := some (fileOf pool2 3 #[] #[{ accessFlags := 2, nameIndex := 9, descriptorIndex := 10, attributes := #[] }, { accessFlags := 8, nameIndex := 62, descriptorIndex := 38, attributes := #[] }, { accessFlags := 8, nameIndex := 41, descriptorIndex := 22, attributes := #[] }, { accessFlags := 8, nameIndex := 29, descriptorIndex := 34, attributes := #[] }, { accessFlags := 8, nameIndex := 25, descriptorIndex := 26, attributes := #[] }, { accessFlags := 8, nameIndex := 65, descriptorIndex := 66, attributes := #[] }, { accessFlags := 10, nameIndex := 74, descriptorIndex := 26, attributes := #[] }, { accessFlags := 10, nameIndex := 77, descriptorIndex := 22, attributes := #[] }] 48 6 #[] #[{ accessFlags := 24, nameIndex := 82, descriptorIndex := 83, attributes := #[] }, { accessFlags := 24, nameIndex := 86, descriptorIndex := 87, attributes := #[] }, { accessFlags := 24, nameIndex := 90, descriptorIndex := 87, attributes := #[] }, { accessFlags := 24, nameIndex := 93, descriptorIndex := 87, attributes := #[] }, { accessFlags := 24, nameIndex := 96, descriptorIndex := 87, attributes := #[] }, { accessFlags := 26, nameIndex := 97, descriptorIndex := 87, attributes := #[] }, { accessFlags := 26, nameIndex := 98, descriptorIndex := 83, attributes := #[] }, { accessFlags := 26, nameIndex := 100, descriptorIndex := 83, attributes := #[] }, { accessFlags := 26, nameIndex := 102, descriptorIndex := 83, attributes := #[] }, { accessFlags := 26, nameIndex := 104, descriptorIndex := 87, attributes := #[] }, { accessFlags := 26, nameIndex := 105, descriptorIndex := 87, attributes := #[] }, { accessFlags := 26, nameIndex := 106, descriptorIndex := 87, attributes := #[] }, { accessFlags := 26, nameIndex := 107, descriptorIndex := 87, attributes := #[] }])
  fields := #[{ name := "MODE_BITS", type := .int, accessFlags := 24, slot := 0, constantValue := 0 }, { name := "MAX_HOLDER", type := .long, accessFlags := 24, slot := 1, constantValue := 0 }, { name := "FREE", type := .long, accessFlags := 24, slot := 2, constantValue := 0 }, { name := "FULL", type := .long, accessFlags := 24, slot := 3, constantValue := 0 }, { name := "SHARED", type := .long, accessFlags := 24, slot := 4, constantValue := 0 }, { name := "MODES", type := .long, accessFlags := 26, slot := 5, constantValue := 0 }, { name := "PAIR_ID_BITS", type := .int, accessFlags := 26, slot := 6, constantValue := 0 }, { name := "PAIR_MODE_BITS", type := .int, accessFlags := 26, slot := 7, constantValue := 0 }, { name := "HALF_BITS", type := .int, accessFlags := 26, slot := 8, constantValue := 0 }, { name := "HALF", type := .long, accessFlags := 26, slot := 9, constantValue := 0 }, { name := "PAIR_MODES", type := .long, accessFlags := 26, slot := 10, constantValue := 0 }, { name := "TAG", type := .long, accessFlags := 26, slot := 11, constantValue := 0 }, { name := "PAIR", type := .long, accessFlags := 26, slot := 12, constantValue := 0 }]
  methods := #[k2m0, k2m1, k2m2, k2m3, k2m4, k2m5, k2m6, k2m7]
  instanceTypes := #[]
  staticTypes := #[.int, .long, .long, .long, .long, .long, .int, .int, .int, .long, .long, .long, .long]
  resolved := Array.replicate 118 none
  statics := none }

def pool3 : Array CpInfo := pool [(1, u "java/lang/Cloneable"), (0, .class_ 1), (0, u "java/lang/Object"), (0, .class_ 3)] 3

/-- java/lang/Cloneable -/
def k3 : Class := { plain "java/lang/Cloneable" (some 0) with
  accessFlags := 1537
  interfaces := #[]
  cf := some (fileOf pool3 2 #[] #[] 1537 4 #[] #[])
  fields := #[]
  methods := #[]
  instanceTypes := #[]
  staticTypes := #[]
  resolved := Array.replicate 8 none
  statics := none }

def pool4 : Array CpInfo := pool [(1, u "java/io/Serializable"), (0, .class_ 1), (0, u "java/lang/Object"), (0, .class_ 3)] 3

/-- java/io/Serializable -/
def k4 : Class := { plain "java/io/Serializable" (some 0) with
  accessFlags := 1537
  interfaces := #[]
  cf := some (fileOf pool4 2 #[] #[] 1537 4 #[] #[])
  fields := #[]
  methods := #[]
  instanceTypes := #[]
  staticTypes := #[]
  resolved := Array.replicate 8 none
  statics := none }

/-- the primitive byte -/
def k5 : Class := { plain "byte" none with kind := .primitive 'B', accessFlags := 0x411 }
/-- [B -/
def k6 : Class := { plain "[B" (some 0) with kind := .array 5 .byte, interfaces := #[3, 4], accessFlags := 1041 }

/-- the primitive int -/
def k7 : Class := { plain "int" none with kind := .primitive 'I', accessFlags := 0x411 }
/-- [I -/
def k8 : Class := { plain "[I" (some 0) with kind := .array 7 .int, interfaces := #[3, 4], accessFlags := 1041 }

def heap : Heap := #[]
def classes : Array Class := #[k0, k1, k2, k3, k4, k5, k6, k7, k8]
def interned : List (Array UInt16 × Addr) := []
def slotsUsed : Nat := 0
def theMethod : MethodId := ⟨1, 1⟩
def args0 : Array Value := #[.long 5, .long 6, .int 7, .long 8, .int 9]
def aboutOver (below : List Frame) : State where
  vm := { classes := classes, interned := interned.toArray }
  heap := heap
  slotsUsed := slotsUsed
  threads := #[{ frames := .invoking theMethod args0 :: below }]
def below0 : List Frame := [.native { method := ⟨0, 0⟩, args := #[] }]
def about1 : State := aboutOver below0
def p0 : Program := .bare "" "" ""
def e0 : Env := launch0.env 0 0 0
theorem w_frames : about1.frames = Frame.invoking theMethod args0 :: below0 := rfl
set_option maxRecDepth 65536 in
theorem w_args : argsFit about1.vm theMethod args0 = true := by decide +kernel
set_option maxRecDepth 65536 in
theorem w_heap : heapFits about1 = true := by decide +kernel
set_option maxRecDepth 65536 in
theorem w_runnable : about1.curStatus? = some .runnable := by decide +kernel
set_option maxRecDepth 65536 in
theorem w_alone : about1.alone = true := by decide +kernel
set_option maxRecDepth 65536 in
theorem w_named : about1.methodNamed? x = some theMethod := by decide +kernel
set_option maxRecDepth 65536 in
theorem w_hears : about1.hears theMethod below0 = true := by decide +kernel
set_option maxRecDepth 65536 in
theorem w_ripe : about1.ripe theMethod args0 below0 = true := by decide +kernel
theorem w_running : about1.status = .running := rfl
set_option maxRecDepth 65536 in
theorem w_room : about1.hasRoom e0.platform room_1 = true :=
  launch0.hasRoom_least _ room_1 (by decide +kernel) (by decide +kernel) (by decide +kernel) (by decide +kernel) (by decide +kernel) (by decide +kernel)
theorem allAtoms_all (ts : List Jvm.Cond) (a : Array Jvm.Value) (st : Jvm.State) : (allAtoms ts).before a st = ts.all (fun c => c.before a st) := by
  induction ts with
  | nil => rfl
  | cons c t ih =>
    show (Jvm.Cond.and c (allAtoms t)).before a st = _
    rw [Jvm.Cond.before_and, ih, List.all_cons]
def words1 : List Jvm.Cond := Jvm.Cond.code x code maxLocals ret :: tables_1
/-- a 'code' word, met by the world's own term for the bytes: nothing is compared byte by byte -/
theorem code_word {y : MethodName} {bytes : ByteArray} {mx : Nat} {rt : Option FieldType} {a : Array Value} {s : State} {m : MethodId} {meth : Method} {c : Code} (h1 : s.methodNamed? y = some m) (h2 : s.vm.method? m = some meth) (h3 : meth.code = some c) (h4 : c.code = bytes)
    (h5 : (c.maxLocals == mx && c.exceptionTable.isEmpty && decide (c.maxStack ≤ mostOperands) && decide (meth.sig.returnType = rt) && !meth.locks && decide (parseMethodDescriptor y.desc = some meth.sig)) = true) : (Jvm.Cond.code y bytes mx rt).before a s = true := by
  simp only [Bool.and_eq_true, beq_iff_eq, Bool.not_eq_true', decide_eq_true_eq] at h5
  obtain ⟨⟨⟨⟨⟨g1, g2⟩, g3⟩, g4⟩, g5⟩, g6⟩ := h5
  simp [Cond.before, Cond.holds, Cond.value, h1, h2, h3, h4, g1, g2, g3, g4, g5, g6]
def isCode : Jvm.Cond → Bool
  | .code _ _ _ _ => true
  | _ => false
theorem all_split {L : List Jvm.Cond} {P : Jvm.Cond → Bool} (h1 : L.all (fun c => isCode c || P c) = true) (h2 : ∀ c ∈ L.filter isCode, P c = true) : L.all P = true := by
  refine List.all_eq_true.mpr fun c hc => ?_
  have h := List.all_eq_true.mp h1 c hc
  rcases Bool.eq_false_or_eq_true (isCode c) with hi | hi
  · exact h2 c (List.mem_filter.mpr ⟨hc, hi⟩)
  · simpa [hi] using h
set_option maxRecDepth 65536 in
theorem w_c0 : (Jvm.Cond.code x code maxLocals ret).before args0 about1 = true := code_word (m := ⟨1, 1⟩) (meth := k1m1) (c := k1c1) (by decide +kernel) rfl rfl rfl (by decide +kernel)
set_option maxRecDepth 65536 in
theorem w_c1 : (Jvm.Cond.code ({ cls := "com/example/stern_lock/sternlock/ShortForm", name := "isShort", desc := "(J)Z" } : Jvm.MethodName) prog_37_method_5_code (2 : Nat) (Option.some Jvm.ClassFile.FieldType.boolean)).before args0 about1 = true := code_word (m := ⟨2, 4⟩) (meth := k2m4) (c := k2c4) (by decide +kernel) rfl rfl rfl (by decide +kernel)
set_option maxRecDepth 65536 in
theorem w_c2 : (Jvm.Cond.code ({ cls := "com/example/stern_lock/sternlock/ShortForm", name := "of", desc := "(JI)J" } : Jvm.MethodName) prog_37_method_2_code (3 : Nat) (Option.some Jvm.ClassFile.FieldType.long)).before args0 about1 = true := code_word (m := ⟨2, 1⟩) (meth := k2m1) (c := k2c1) (by decide +kernel) rfl rfl rfl (by decide +kernel)
set_option maxRecDepth 65536 in
theorem w_c3 : (Jvm.Cond.code ({ cls := "com/example/stern_lock/sternlock/ShortForm", name := "paired", desc := "(JJ)J" } : Jvm.MethodName) prog_37_method_13_code (4 : Nat) (Option.some Jvm.ClassFile.FieldType.long)).before args0 about1 = true := code_word (m := ⟨2, 5⟩) (meth := k2m5) (c := k2c5) (by decide +kernel) rfl rfl rfl (by decide +kernel)
set_option maxRecDepth 65536 in
theorem w_c4 : (Jvm.Cond.code ({ cls := "com/example/stern_lock/sternlock/ShortForm", name := "fitsInPair", desc := "(J)Z" } : Jvm.MethodName) prog_37_method_16_code (2 : Nat) (Option.some Jvm.ClassFile.FieldType.boolean)).before args0 about1 = true := code_word (m := ⟨2, 6⟩) (meth := k2m6) (c := k2c6) (by decide +kernel) rfl rfl rfl (by decide +kernel)
set_option maxRecDepth 65536 in
theorem w_c5 : (Jvm.Cond.code ({ cls := "com/example/stern_lock/sternlock/ShortForm", name := "holderOf", desc := "(J)J" } : Jvm.MethodName) prog_37_method_3_code (2 : Nat) (Option.some Jvm.ClassFile.FieldType.long)).before args0 about1 = true := code_word (m := ⟨2, 2⟩) (meth := k2m2) (c := k2c2) (by decide +kernel) rfl rfl rfl (by decide +kernel)
set_option maxRecDepth 65536 in
theorem w_c6 : (Jvm.Cond.code ({ cls := "com/example/stern_lock/sternlock/ShortForm", name := "modesOf", desc := "(J)I" } : Jvm.MethodName) prog_37_method_4_code (2 : Nat) (Option.some Jvm.ClassFile.FieldType.int)).before args0 about1 = true := code_word (m := ⟨2, 3⟩) (meth := k2m3) (c := k2c3) (by decide +kernel) rfl rfl rfl (by decide +kernel)
set_option maxRecDepth 65536 in
theorem w_c7 : (Jvm.Cond.code ({ cls := "com/example/stern_lock/sternlock/ShortForm", name := "half", desc := "(J)J" } : Jvm.MethodName) prog_37_method_17_code (2 : Nat) (Option.some Jvm.ClassFile.FieldType.long)).before args0 about1 = true := code_word (m := ⟨2, 7⟩) (meth := k2m7) (c := k2c7) (by decide +kernel) rfl rfl rfl (by decide +kernel)
def codes1 : List Jvm.Cond := [Jvm.Cond.code x code maxLocals ret, Jvm.Cond.code ({ cls := "com/example/stern_lock/sternlock/ShortForm", name := "isShort", desc := "(J)Z" } : Jvm.MethodName) prog_37_method_5_code (2 : Nat) (Option.some Jvm.ClassFile.FieldType.boolean), Jvm.Cond.code ({ cls := "com/example/stern_lock/sternlock/ShortForm", name := "of", desc := "(JI)J" } : Jvm.MethodName) prog_37_method_2_code (3 : Nat) (Option.some Jvm.ClassFile.FieldType.long), Jvm.Cond.code ({ cls := "com/example/stern_lock/sternlock/ShortForm", name := "paired", desc := "(JJ)J" } : Jvm.MethodName) prog_37_method_13_code (4 : Nat) (Option.some Jvm.ClassFile.FieldType.long), Jvm.Cond.code ({ cls := "com/example/stern_lock/sternlock/ShortForm", name := "fitsInPair", desc := "(J)Z" } : Jvm.MethodName) prog_37_method_16_code (2 : Nat) (Option.some Jvm.ClassFile.FieldType.boolean), Jvm.Cond.code ({ cls := "com/example/stern_lock/sternlock/ShortForm", name := "holderOf", desc := "(J)J" } : Jvm.MethodName) prog_37_method_3_code (2 : Nat) (Option.some Jvm.ClassFile.FieldType.long), Jvm.Cond.code ({ cls := "com/example/stern_lock/sternlock/ShortForm", name := "modesOf", desc := "(J)I" } : Jvm.MethodName) prog_37_method_4_code (2 : Nat) (Option.some Jvm.ClassFile.FieldType.int), Jvm.Cond.code ({ cls := "com/example/stern_lock/sternlock/ShortForm", name := "half", desc := "(J)J" } : Jvm.MethodName) prog_37_method_17_code (2 : Nat) (Option.some Jvm.ClassFile.FieldType.long)]
set_option maxRecDepth 65536 in
theorem codes_eq : words1.filter isCode = codes1 := rfl
theorem w_codes : ∀ c ∈ words1.filter isCode, c.before args0 about1 = true := by
  rw [codes_eq]
  intro c hc
  simp only [codes1, List.mem_cons, List.not_mem_nil, or_false] at hc
  rcases hc with rfl | rfl | rfl | rfl | rfl | rfl | rfl | rfl
  · exact w_c0
  · exact w_c1
  · exact w_c2
  · exact w_c3
  · exact w_c4
  · exact w_c5
  · exact w_c6
  · exact w_c7
set_option maxRecDepth 65536 in
theorem w_t1 : (words1.take 24).all (fun c => isCode c || c.before args0 about1) = true := by decide +kernel
set_option maxRecDepth 65536 in
theorem w_t2 : (words1.drop 24).all (fun c => isCode c || c.before args0 about1) = true := by decide +kernel
theorem w_tables : (allAtoms (Jvm.Cond.code x code maxLocals ret :: tables_1)).before args0 about1 = true := by
  rw [allAtoms_all]
  show words1.all (fun c => c.before args0 about1) = true
  refine all_split ?_ w_codes
  rw [← List.take_append_drop 24 words1, List.all_append, w_t1, w_t2]
  rfl
set_option maxRecDepth 65536 in
theorem w_case : (Jvm.Cond.and given_1 narrow_1).before args0 about1 = true := by decide +kernel
theorem w_applies : (headSpec (Jvm.Cond.code x code maxLocals ret :: tables_1) room_1).applies x e0.platform about1 = true :=
  (Spec.applies_iff w_frames).mpr ⟨w_running, w_runnable, w_alone, w_named, w_hears, w_ripe, w_room, w_tables⟩
theorem atStart : AtStart classFile x code maxLocals ret World_1 tables_1 room_1 Calls_1 rest_1 Pre_1 launch0 p0 e0 about1 theMethod args0 below0 :=
  ⟨lists_1, trivial, launch0.admits_env _ _ _, launch0.least_env, fairChoices_fair.cas, fairChoices_fair.clock, w_frames, w_args, w_heap, w_applies, trivial, trivial, w_case⟩
end start1
theorem witness_1 : WitnessClaimed_1 := ⟨start1.p0, start1.e0, start1.about1, start1.theMethod, start1.args0, start1.below0, start1.atStart⟩
end Jvm.Pilot.@@N@@
