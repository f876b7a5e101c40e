import JvmDerived
import JvmDerived.Pilot.@@N@@Statement
import JvmDerived.Pilot.@@N@@Code
set_option linter.unusedVariables false
set_option linter.unusedSimpArgs false

namespace Jvm.RoadKit
open Sem ClassFile Op Lib Jvm.Stand Jvm.Free Jvm.LawKit
section New
variable {p : Program} {l : Launch} {e : Env} {R : Room} {s : State} {m : MethodId} {args : Array Value} {below : List Frame} {meth : Method} {c : Code} {T : State} {locs : List Loc} {cells slots : Nat}
theorem retI (X : Stand p l e R s m args below meth c T locs cells slots) (hx : p.tables.exec = Jvm.exec) {pc : Nat} {Ls : Array Slot} {z : Int32} {rest : List Value} (hret : meth.sig.returnType = some .int) (hd : decode c.code pc = .ok (.ireturn, 1)) {fs : List Frame}
    (hl : ∀ (f : JFrame) (acts : List Action), f.method = m → f.locked = none → f.entered = [] → (doReturn e (T.setTop f) acts (some (.int z))).1 = T.setFrames fs) : Steps p.tables e below (T.setTop (mkF m pc Ls (.int z :: rest))) (T.setFrames fs) := by
  have hm' : T.vm.method? m = some meth := X.method'
  have hn : narrow .int (.int z) = .int z := rfl
  show Steps p.tables e below (T.setTop { method := m, pc := pc, locals := Ls, stack := _ :: rest, locked := none }) _
  jvm_step X.here [X.here.top, hx, hd, hm', hret, hn]
  first | (intro acts; rw [hl _ acts rfl rfl rfl]) | rw [hl _ _ rfl rfl rfl]
  exact Steps.refl _
end New
end Jvm.RoadKit
namespace Jvm.Pilot.@@N@@
open Jvm Jvm.ClassFile Sem Op Lib Jvm.Free Jvm.Stand Jvm.LawKit Jvm.RoadKit Bundle Jvm.Pilot.@@N@@.Jvm.D
def fpick (u0 : Int64) (u1 : Int32) : Int64 := (if u1 = (1 : Int32) then (0 : Int64) else (if u1 = (2 : Int32) then (-1 : Int64) else (if u1 = (3 : Int32) then (-2 : Int64) else (if u1 = (4 : Int32) then (-9223372036854775808 : Int64) else (if u1 = (5 : Int32) then (-4611686018427387904 : Int64) else (if u1 = (6 : Int32) then (-4611686018427387905 : Int64) else (if u1 = (7 : Int32) then (9223372036854775807 : Int64) else u0)))))))
def fcount (u0 : Int64) : Int32 := (if (0 : Int64) < u0 then (1 : Int32) else (if (u0 &&& (-4611686018427387904 : Int64)) = (-9223372036854775808 : Int64) then (2 : Int32) else (0 : Int32)))
theorem ef_1 (m : MethodId) (x0 : Int64) (x1 : Int32) : entryFrame m #[(.long x0), (.int x1)] 3 = mkF m 0 #[.val (.long x0), .second, .val (.int x1)] [] := by first | (simp [entryFrame, mkF, argsToLocals, Value.category]; done) | rfl
theorem pn_com_example_stern_lock_sternlock_ShortFormCountPinLaw : plainName "com/example/stern_lock/sternlock/ShortFormCountPinLaw" = true := by first | (simp [plainName, overriddenIn]; done) | decide +kernel
theorem d1_0 : decode method_3_code 0 = .ok (.iload_n 2, 1) := by decide +kernel
theorem d1_1 : decode method_3_code 1 = .ok (.iconst 1, 1) := by decide +kernel
theorem d1_2 : decode method_3_code 2 = .ok (.if_icmp .ne 5, 3) := by decide +kernel
theorem d1_5 : decode method_3_code 5 = .ok (.lconst 0, 1) := by decide +kernel
theorem d1_6 : decode method_3_code 6 = .ok (.lreturn, 1) := by decide +kernel
theorem d1_7 : decode method_3_code 7 = .ok (.iload_n 2, 1) := by decide +kernel
theorem d1_8 : decode method_3_code 8 = .ok (.iconst 2, 1) := by decide +kernel
theorem d1_9 : decode method_3_code 9 = .ok (.if_icmp .ne 7, 3) := by decide +kernel
theorem d1_12 : decode method_3_code 12 = .ok (.ldc2_w 21, 3) := by decide +kernel
theorem d1_15 : decode method_3_code 15 = .ok (.lreturn, 1) := by decide +kernel
theorem d1_16 : decode method_3_code 16 = .ok (.iload_n 2, 1) := by decide +kernel
theorem d1_17 : decode method_3_code 17 = .ok (.iconst 3, 1) := by decide +kernel
theorem d1_18 : decode method_3_code 18 = .ok (.if_icmp .ne 7, 3) := by decide +kernel
theorem d1_21 : decode method_3_code 21 = .ok (.ldc2_w 23, 3) := by decide +kernel
theorem d1_24 : decode method_3_code 24 = .ok (.lreturn, 1) := by decide +kernel
theorem d1_25 : decode method_3_code 25 = .ok (.iload_n 2, 1) := by decide +kernel
theorem d1_26 : decode method_3_code 26 = .ok (.iconst 4, 1) := by decide +kernel
theorem d1_27 : decode method_3_code 27 = .ok (.if_icmp .ne 7, 3) := by decide +kernel
theorem d1_30 : decode method_3_code 30 = .ok (.ldc2_w 27, 3) := by decide +kernel
theorem d1_33 : decode method_3_code 33 = .ok (.lreturn, 1) := by decide +kernel
theorem d1_34 : decode method_3_code 34 = .ok (.iload_n 2, 1) := by decide +kernel
theorem d1_35 : decode method_3_code 35 = .ok (.iconst 5, 1) := by decide +kernel
theorem d1_36 : decode method_3_code 36 = .ok (.if_icmp .ne 7, 3) := by decide +kernel
theorem d1_39 : decode method_3_code 39 = .ok (.ldc2_w 13, 3) := by decide +kernel
theorem d1_42 : decode method_3_code 42 = .ok (.lreturn, 1) := by decide +kernel
theorem d1_43 : decode method_3_code 43 = .ok (.iload_n 2, 1) := by decide +kernel
theorem d1_44 : decode method_3_code 44 = .ok (.bipush 6, 2) := by decide +kernel
theorem d1_46 : decode method_3_code 46 = .ok (.if_icmp .ne 7, 3) := by decide +kernel
theorem d1_49 : decode method_3_code 49 = .ok (.ldc2_w 29, 3) := by decide +kernel
theorem d1_52 : decode method_3_code 52 = .ok (.lreturn, 1) := by decide +kernel
theorem d1_53 : decode method_3_code 53 = .ok (.iload_n 2, 1) := by decide +kernel
theorem d1_54 : decode method_3_code 54 = .ok (.bipush 7, 2) := by decide +kernel
theorem d1_56 : decode method_3_code 56 = .ok (.if_icmp .ne 7, 3) := by decide +kernel
theorem d1_59 : decode method_3_code 59 = .ok (.ldc2_w 31, 3) := by decide +kernel
theorem d1_62 : decode method_3_code 62 = .ok (.lreturn, 1) := by decide +kernel
theorem d1_63 : decode method_3_code 63 = .ok (.lload_n 0, 1) := by decide +kernel
theorem d1_64 : decode method_3_code 64 = .ok (.lreturn, 1) := by decide +kernel
theorem ef_2 (m : MethodId) (x0 : Int64) : entryFrame m #[(.long x0)] 2 = mkF m 0 #[.val (.long x0), .second] [] := by first | (simp [entryFrame, mkF, argsToLocals, Value.category]; done) | rfl
theorem pn_com_example_stern_lock_sternlock_ShortForm : plainName "com/example/stern_lock/sternlock/ShortForm" = true := by first | (simp [plainName, overriddenIn]; done) | decide +kernel
theorem d2_0 : decode prog_37_method_6_code 0 = .ok (.lload_n 0, 1) := by decide +kernel
theorem d2_1 : decode prog_37_method_6_code 1 = .ok (.lconst 0, 1) := by decide +kernel
theorem d2_2 : decode prog_37_method_6_code 2 = .ok (.lcmp, 1) := by decide +kernel
theorem d2_3 : decode prog_37_method_6_code 3 = .ok (.ifCond .le 5, 3) := by decide +kernel
theorem d2_6 : decode prog_37_method_6_code 6 = .ok (.iconst 1, 1) := by decide +kernel
theorem d2_7 : decode prog_37_method_6_code 7 = .ok (.ireturn, 1) := by decide +kernel
theorem d2_8 : decode prog_37_method_6_code 8 = .ok (.lload_n 0, 1) := by decide +kernel
theorem d2_9 : decode prog_37_method_6_code 9 = .ok (.ldc2_w 13, 3) := by decide +kernel
theorem d2_12 : decode prog_37_method_6_code 12 = .ok (.land, 1) := by decide +kernel
theorem d2_13 : decode prog_37_method_6_code 13 = .ok (.ldc2_w 15, 3) := by decide +kernel
theorem d2_16 : decode prog_37_method_6_code 16 = .ok (.lcmp, 1) := by decide +kernel
theorem d2_17 : decode prog_37_method_6_code 17 = .ok (.ifCond .ne 7, 3) := by decide +kernel
theorem d2_24 : decode prog_37_method_6_code 24 = .ok (.iconst 0, 1) := by decide +kernel
theorem d2_20 : decode prog_37_method_6_code 20 = .ok (.iconst 2, 1) := by decide +kernel
theorem d2_21 : decode prog_37_method_6_code 21 = .ok (.goto 4, 3) := by decide +kernel
theorem d2_25 : decode prog_37_method_6_code 25 = .ok (.ireturn, 1) := by decide +kernel
theorem ef_0 (m : MethodId) (x0 : Int64) (x1 : Int32) : entryFrame m #[(.long x0), (.int x1)] maxLocals = mkF m 0 #[.val (.long x0), .second, .val (.int x1), .unset, .unset, .unset, .unset, .unset] [] := by first | (simp [entryFrame, mkF, argsToLocals, Value.category, maxLocals]; done) | rfl
theorem pd_oJIcJ : parseMethodDescriptor "(JI)J" = some ⟨[.long, .int], some .long⟩ := by decide +kernel
theorem pd_oJcI : parseMethodDescriptor "(J)I" = some ⟨[.long], some .int⟩ := by decide +kernel
def Q1 (Z : State) (u0 : Int64) (u1 : Int32) (h0 : Heap) (n0 : Nat) (v : Option Value) (h : Heap) (L : List Loc) : Prop := v = some (.long (fpick u0 u1)) ∧ Fr n0 L ∧ h = h0
set_option maxRecDepth 65536 in
set_option maxHeartbeats 40000000 in
theorem rm1 (l : Launch) (Z : State) (a0 : Array Value) (hw : ∀ d ∈ tables_1, d.before a0 Z = true) (ws : List Jvm.Cond) (u0 : Int64) (u1 : Int32) (h0 : Heap) (n0 : Nat) (Z0 : n0 ≤ h0.size)  :
    MetFree l (⟨"com/example/stern_lock/sternlock/ShortFormCountPinLaw", "pickWord", "(JI)J"⟩ : MethodName) (head1 (Jvm.Cond.code (⟨"com/example/stern_lock/sternlock/ShortFormCountPinLaw", "pickWord", "(JI)J"⟩ : MethodName) method_3_code 3 (some .long) :: ws) ({ frames := 0, cells := 0, slots := 0, locals := 0 } : Room)) (fun a U => a = #[(.long u0), (.int u1)] ∧ Z.Warmed39 U.vm ∧ U.heap = h0) (fun _ _ _ _ _ => True) (fun _ U o U' => ∃ v L, o = .returned v ∧ Q1 Z u0 u1 h0 n0 v U'.heap L ∧ FrameEnd U o U' L ({ frames := 0, cells := 0, slots := 0, locals := 0 } : Room).cells ({ frames := 0, cells := 0, slots := 0, locals := 0 } : Room).slots) := by
  refine MetFree.of_bodySF (plainFor_of_name pn_com_example_stern_lock_sternlock_ShortFormCountPinLaw) hisR ?_
  intro p e s m args0 below meth c s₁ Bd hml0 hP hK
  obtain ⟨rfl, hZ, hh⟩ := hP
  have hx := Bd.exec
  have hby := Bd.bytes
  have hml : c.maxLocals = 3 := hml0
  have hown : s.vm.findClass "com/example/stern_lock/sternlock/ShortFormCountPinLaw" = some m.cls := findClass_of_methodNamed Bd.named
  have hnm := (name_of_methodNamed Bd.named Bd.method).1
  have X0 : Stand p l e ({ frames := 0, cells := 0, slots := 0, locals := 0 } : Room) s m #[(.long u0), (.int u1)] below meth c s₁ [] 0 0 := Stand.of_body Bd
  have e0 : s₁.heap = h0 := by rw [← hh, Bd.state]; rfl
  have N0 := Fr.nil n0
  have pre0 : ∀ t, Steps p.tables e below (s₁.setTop (mkF m 0 #[.val (.long u0), .second, .val (.int u1)] [])) t → Steps p.tables e below (s₁.setTop (entryFrame m #[(.long u0), (.int u1)] 3)) t := fun t k => castTop (ef_1 m u0 u1) k
  have s1 : ∀ t, Steps p.tables e below (s₁.setTop (mkF m 2 #[.val (.long u0), .second, .val (.int u1)] [(.int (1 : Int32)), (.int u1)])) t → Steps p.tables e below (s₁.setTop (mkF m 0 #[.val (.long u0), .second, .val (.int u1)] [])) t := by
    intro t kt
    refine XS.iloadN X0.here hx rfl (hb hby d1_0) rfl ?_
    show Steps p.tables e below (s₁.setTop (mkF m 1 #[.val (.long u0), .second, .val (.int u1)] [(.int u1)])) t
    refine XS.iconst X0.here hx rfl (hb hby d1_1) ?_
    exact kt
  by_cases c2 : u1 = (1 : Int32)
  ·
    have s3 : ∀ t, Steps p.tables e below (s₁.setTop (mkF m 6 #[.val (.long u0), .second, .val (.int u1)] [(.long (0 : Int64))])) t → Steps p.tables e below (s₁.setTop (mkF m 2 #[.val (.long u0), .second, .val (.int u1)] [(.int (1 : Int32)), (.int u1)])) t := by
      intro t kt
      refine XS.icmpNo X0.here hx rfl (hb hby d1_2) rfl (teq c2).2 ?_
      show Steps p.tables e below (s₁.setTop (mkF m 5 #[.val (.long u0), .second, .val (.int u1)] [])) t
      refine XS.lconst X0.here hx rfl (hb hby d1_5) ?_
      exact kt
    obtain ⟨fs, hr, hrun, hended, hW, hsame⟩ := X0.leave (v := some (.long (0 : Int64))) (fun h => by rw [Bd.returns] at h; cases h)
    refine ⟨_, _, pre0 _ (s1 _ (s3 _ (?_))), hrun, hended, _, _, rfl, ?_, ⟨_, rfl⟩, hW, hsame.mono (by decide) (by decide)⟩
    · show Steps p.tables e below (s₁.setTop (mkF m 6 #[.val (.long u0), .second, .val (.int u1)] [(.long (0 : Int64))])) _
      exact X0.lreturnOut hx Bd.returns (hb hby d1_6) hr
    · show Q1 Z u0 u1 h0 n0 _ s₁.heap _
      rw [e0]
      exact ⟨by simp only [fpick, if_pos c2], N0, rfl⟩
  ·
    have s4 : ∀ t, Steps p.tables e below (s₁.setTop (mkF m 9 #[.val (.long u0), .second, .val (.int u1)] [(.int (2 : Int32)), (.int u1)])) t → Steps p.tables e below (s₁.setTop (mkF m 2 #[.val (.long u0), .second, .val (.int u1)] [(.int (1 : Int32)), (.int u1)])) t := by
      intro t kt
      refine XS.icmpYes X0.here hx rfl (pc0 := 2) (pc' := 7) rfl (hb hby d1_2) rfl (feq c2).2 (by decide) (by decide) ?_
      show Steps p.tables e below (s₁.setTop (mkF m 7 #[.val (.long u0), .second, .val (.int u1)] [])) t
      refine XS.iloadN X0.here hx rfl (hb hby d1_7) rfl ?_
      show Steps p.tables e below (s₁.setTop (mkF m 8 #[.val (.long u0), .second, .val (.int u1)] [(.int u1)])) t
      refine XS.iconst X0.here hx rfl (hb hby d1_8) ?_
      exact kt
    by_cases c5 : u1 = (2 : Int32)
    ·
      have s6 : ∀ t, Steps p.tables e below (s₁.setTop (mkF m 15 #[.val (.long u0), .second, .val (.int u1)] [(.long (-1 : Int64))])) t → Steps p.tables e below (s₁.setTop (mkF m 9 #[.val (.long u0), .second, .val (.int u1)] [(.int (2 : Int32)), (.int u1)])) t := by
        intro t kt
        refine XS.icmpNo X0.here hx rfl (hb hby d1_9) rfl (teq c5).2 ?_
        show Steps p.tables e below (s₁.setTop (mkF m 12 #[.val (.long u0), .second, .val (.int u1)] [])) t
        refine X0.ldc2Long hx hown (mvT hZ (hw _ (List.mem_of_getElem? (i := 4) rfl))) (g := (mkF m 12 #[.val (.long u0), .second, .val (.int u1)] [])) rfl (hb hby d1_12) _ ?_
        exact kt
      obtain ⟨fs, hr, hrun, hended, hW, hsame⟩ := X0.leave (v := some (.long (-1 : Int64))) (fun h => by rw [Bd.returns] at h; cases h)
      refine ⟨_, _, pre0 _ (s1 _ (s4 _ (s6 _ (?_)))), hrun, hended, _, _, rfl, ?_, ⟨_, rfl⟩, hW, hsame.mono (by decide) (by decide)⟩
      · show Steps p.tables e below (s₁.setTop (mkF m 15 #[.val (.long u0), .second, .val (.int u1)] [(.long (-1 : Int64))])) _
        exact X0.lreturnOut hx Bd.returns (hb hby d1_15) hr
      · show Q1 Z u0 u1 h0 n0 _ s₁.heap _
        rw [e0]
        exact ⟨by simp only [fpick, if_neg c2, if_pos c5], N0, rfl⟩
    ·
      have s7 : ∀ t, Steps p.tables e below (s₁.setTop (mkF m 18 #[.val (.long u0), .second, .val (.int u1)] [(.int (3 : Int32)), (.int u1)])) t → Steps p.tables e below (s₁.setTop (mkF m 9 #[.val (.long u0), .second, .val (.int u1)] [(.int (2 : Int32)), (.int u1)])) t := by
        intro t kt
        refine XS.icmpYes X0.here hx rfl (pc0 := 9) (pc' := 16) rfl (hb hby d1_9) rfl (feq c5).2 (by decide) (by decide) ?_
        show Steps p.tables e below (s₁.setTop (mkF m 16 #[.val (.long u0), .second, .val (.int u1)] [])) t
        refine XS.iloadN X0.here hx rfl (hb hby d1_16) rfl ?_
        show Steps p.tables e below (s₁.setTop (mkF m 17 #[.val (.long u0), .second, .val (.int u1)] [(.int u1)])) t
        refine XS.iconst X0.here hx rfl (hb hby d1_17) ?_
        exact kt
      by_cases c8 : u1 = (3 : Int32)
      ·
        have s9 : ∀ t, Steps p.tables e below (s₁.setTop (mkF m 24 #[.val (.long u0), .second, .val (.int u1)] [(.long (-2 : Int64))])) t → Steps p.tables e below (s₁.setTop (mkF m 18 #[.val (.long u0), .second, .val (.int u1)] [(.int (3 : Int32)), (.int u1)])) t := by
          intro t kt
          refine XS.icmpNo X0.here hx rfl (hb hby d1_18) rfl (teq c8).2 ?_
          show Steps p.tables e below (s₁.setTop (mkF m 21 #[.val (.long u0), .second, .val (.int u1)] [])) t
          refine X0.ldc2Long hx hown (mvT hZ (hw _ (List.mem_of_getElem? (i := 15) rfl))) (g := (mkF m 21 #[.val (.long u0), .second, .val (.int u1)] [])) rfl (hb hby d1_21) _ ?_
          exact kt
        obtain ⟨fs, hr, hrun, hended, hW, hsame⟩ := X0.leave (v := some (.long (-2 : Int64))) (fun h => by rw [Bd.returns] at h; cases h)
        refine ⟨_, _, pre0 _ (s1 _ (s4 _ (s7 _ (s9 _ (?_))))), hrun, hended, _, _, rfl, ?_, ⟨_, rfl⟩, hW, hsame.mono (by decide) (by decide)⟩
        · show Steps p.tables e below (s₁.setTop (mkF m 24 #[.val (.long u0), .second, .val (.int u1)] [(.long (-2 : Int64))])) _
          exact X0.lreturnOut hx Bd.returns (hb hby d1_24) hr
        · show Q1 Z u0 u1 h0 n0 _ s₁.heap _
          rw [e0]
          exact ⟨by simp only [fpick, if_neg c2, if_neg c5, if_pos c8], N0, rfl⟩
      ·
        have s10 : ∀ t, Steps p.tables e below (s₁.setTop (mkF m 27 #[.val (.long u0), .second, .val (.int u1)] [(.int (4 : Int32)), (.int u1)])) t → Steps p.tables e below (s₁.setTop (mkF m 18 #[.val (.long u0), .second, .val (.int u1)] [(.int (3 : Int32)), (.int u1)])) t := by
          intro t kt
          refine XS.icmpYes X0.here hx rfl (pc0 := 18) (pc' := 25) rfl (hb hby d1_18) rfl (feq c8).2 (by decide) (by decide) ?_
          show Steps p.tables e below (s₁.setTop (mkF m 25 #[.val (.long u0), .second, .val (.int u1)] [])) t
          refine XS.iloadN X0.here hx rfl (hb hby d1_25) rfl ?_
          show Steps p.tables e below (s₁.setTop (mkF m 26 #[.val (.long u0), .second, .val (.int u1)] [(.int u1)])) t
          refine XS.iconst X0.here hx rfl (hb hby d1_26) ?_
          exact kt
        by_cases c11 : u1 = (4 : Int32)
        ·
          have s12 : ∀ t, Steps p.tables e below (s₁.setTop (mkF m 33 #[.val (.long u0), .second, .val (.int u1)] [(.long (-9223372036854775808 : Int64))])) t → Steps p.tables e below (s₁.setTop (mkF m 27 #[.val (.long u0), .second, .val (.int u1)] [(.int (4 : Int32)), (.int u1)])) t := by
            intro t kt
            refine XS.icmpNo X0.here hx rfl (hb hby d1_27) rfl (teq c11).2 ?_
            show Steps p.tables e below (s₁.setTop (mkF m 30 #[.val (.long u0), .second, .val (.int u1)] [])) t
            refine X0.ldc2Long hx hown (mvT hZ (hw _ (List.mem_of_getElem? (i := 12) rfl))) (g := (mkF m 30 #[.val (.long u0), .second, .val (.int u1)] [])) rfl (hb hby d1_30) _ ?_
            exact kt
          obtain ⟨fs, hr, hrun, hended, hW, hsame⟩ := X0.leave (v := some (.long (-9223372036854775808 : Int64))) (fun h => by rw [Bd.returns] at h; cases h)
          refine ⟨_, _, pre0 _ (s1 _ (s4 _ (s7 _ (s10 _ (s12 _ (?_)))))), hrun, hended, _, _, rfl, ?_, ⟨_, rfl⟩, hW, hsame.mono (by decide) (by decide)⟩
          · show Steps p.tables e below (s₁.setTop (mkF m 33 #[.val (.long u0), .second, .val (.int u1)] [(.long (-9223372036854775808 : Int64))])) _
            exact X0.lreturnOut hx Bd.returns (hb hby d1_33) hr
          · show Q1 Z u0 u1 h0 n0 _ s₁.heap _
            rw [e0]
            exact ⟨by simp only [fpick, if_neg c2, if_neg c5, if_neg c8, if_pos c11], N0, rfl⟩
        ·
          have s13 : ∀ t, Steps p.tables e below (s₁.setTop (mkF m 36 #[.val (.long u0), .second, .val (.int u1)] [(.int (5 : Int32)), (.int u1)])) t → Steps p.tables e below (s₁.setTop (mkF m 27 #[.val (.long u0), .second, .val (.int u1)] [(.int (4 : Int32)), (.int u1)])) t := by
            intro t kt
            refine XS.icmpYes X0.here hx rfl (pc0 := 27) (pc' := 34) rfl (hb hby d1_27) rfl (feq c11).2 (by decide) (by decide) ?_
            show Steps p.tables e below (s₁.setTop (mkF m 34 #[.val (.long u0), .second, .val (.int u1)] [])) t
            refine XS.iloadN X0.here hx rfl (hb hby d1_34) rfl ?_
            show Steps p.tables e below (s₁.setTop (mkF m 35 #[.val (.long u0), .second, .val (.int u1)] [(.int u1)])) t
            refine XS.iconst X0.here hx rfl (hb hby d1_35) ?_
            exact kt
          by_cases c14 : u1 = (5 : Int32)
          ·
            have s15 : ∀ t, Steps p.tables e below (s₁.setTop (mkF m 42 #[.val (.long u0), .second, .val (.int u1)] [(.long (-4611686018427387904 : Int64))])) t → Steps p.tables e below (s₁.setTop (mkF m 36 #[.val (.long u0), .second, .val (.int u1)] [(.int (5 : Int32)), (.int u1)])) t := by
              intro t kt
              refine XS.icmpNo X0.here hx rfl (hb hby d1_36) rfl (teq c14).2 ?_
              show Steps p.tables e below (s₁.setTop (mkF m 39 #[.val (.long u0), .second, .val (.int u1)] [])) t
              refine X0.ldc2Long hx hown (mvT hZ (hw _ (List.mem_of_getElem? (i := 5) rfl))) (g := (mkF m 39 #[.val (.long u0), .second, .val (.int u1)] [])) rfl (hb hby d1_39) _ ?_
              exact kt
            obtain ⟨fs, hr, hrun, hended, hW, hsame⟩ := X0.leave (v := some (.long (-4611686018427387904 : Int64))) (fun h => by rw [Bd.returns] at h; cases h)
            refine ⟨_, _, pre0 _ (s1 _ (s4 _ (s7 _ (s10 _ (s13 _ (s15 _ (?_))))))), hrun, hended, _, _, rfl, ?_, ⟨_, rfl⟩, hW, hsame.mono (by decide) (by decide)⟩
            · show Steps p.tables e below (s₁.setTop (mkF m 42 #[.val (.long u0), .second, .val (.int u1)] [(.long (-4611686018427387904 : Int64))])) _
              exact X0.lreturnOut hx Bd.returns (hb hby d1_42) hr
            · show Q1 Z u0 u1 h0 n0 _ s₁.heap _
              rw [e0]
              exact ⟨by simp only [fpick, if_neg c2, if_neg c5, if_neg c8, if_neg c11, if_pos c14], N0, rfl⟩
          ·
            have s16 : ∀ t, Steps p.tables e below (s₁.setTop (mkF m 46 #[.val (.long u0), .second, .val (.int u1)] [(.int (6 : Int32)), (.int u1)])) t → Steps p.tables e below (s₁.setTop (mkF m 36 #[.val (.long u0), .second, .val (.int u1)] [(.int (5 : Int32)), (.int u1)])) t := by
              intro t kt
              refine XS.icmpYes X0.here hx rfl (pc0 := 36) (pc' := 43) rfl (hb hby d1_36) rfl (feq c14).2 (by decide) (by decide) ?_
              show Steps p.tables e below (s₁.setTop (mkF m 43 #[.val (.long u0), .second, .val (.int u1)] [])) t
              refine XS.iloadN X0.here hx rfl (hb hby d1_43) rfl ?_
              show Steps p.tables e below (s₁.setTop (mkF m 44 #[.val (.long u0), .second, .val (.int u1)] [(.int u1)])) t
              refine XS.bipush X0.here hx rfl (hb hby d1_44) ?_
              exact kt
            by_cases c17 : u1 = (6 : Int32)
            ·
              have s18 : ∀ t, Steps p.tables e below (s₁.setTop (mkF m 52 #[.val (.long u0), .second, .val (.int u1)] [(.long (-4611686018427387905 : Int64))])) t → Steps p.tables e below (s₁.setTop (mkF m 46 #[.val (.long u0), .second, .val (.int u1)] [(.int (6 : Int32)), (.int u1)])) t := by
                intro t kt
                refine XS.icmpNo X0.here hx rfl (hb hby d1_46) rfl (teq c17).2 ?_
                show Steps p.tables e below (s₁.setTop (mkF m 49 #[.val (.long u0), .second, .val (.int u1)] [])) t
                refine X0.ldc2Long hx hown (mvT hZ (hw _ (List.mem_of_getElem? (i := 14) rfl))) (g := (mkF m 49 #[.val (.long u0), .second, .val (.int u1)] [])) rfl (hb hby d1_49) _ ?_
                exact kt
              obtain ⟨fs, hr, hrun, hended, hW, hsame⟩ := X0.leave (v := some (.long (-4611686018427387905 : Int64))) (fun h => by rw [Bd.returns] at h; cases h)
              refine ⟨_, _, pre0 _ (s1 _ (s4 _ (s7 _ (s10 _ (s13 _ (s16 _ (s18 _ (?_)))))))), hrun, hended, _, _, rfl, ?_, ⟨_, rfl⟩, hW, hsame.mono (by decide) (by decide)⟩
              · show Steps p.tables e below (s₁.setTop (mkF m 52 #[.val (.long u0), .second, .val (.int u1)] [(.long (-4611686018427387905 : Int64))])) _
                exact X0.lreturnOut hx Bd.returns (hb hby d1_52) hr
              · show Q1 Z u0 u1 h0 n0 _ s₁.heap _
                rw [e0]
                exact ⟨by simp only [fpick, if_neg c2, if_neg c5, if_neg c8, if_neg c11, if_neg c14, if_pos c17], N0, rfl⟩
            ·
              have s19 : ∀ t, Steps p.tables e below (s₁.setTop (mkF m 56 #[.val (.long u0), .second, .val (.int u1)] [(.int (7 : Int32)), (.int u1)])) t → Steps p.tables e below (s₁.setTop (mkF m 46 #[.val (.long u0), .second, .val (.int u1)] [(.int (6 : Int32)), (.int u1)])) t := by
                intro t kt
                refine XS.icmpYes X0.here hx rfl (pc0 := 46) (pc' := 53) rfl (hb hby d1_46) rfl (feq c17).2 (by decide) (by decide) ?_
                show Steps p.tables e below (s₁.setTop (mkF m 53 #[.val (.long u0), .second, .val (.int u1)] [])) t
                refine XS.iloadN X0.here hx rfl (hb hby d1_53) rfl ?_
                show Steps p.tables e below (s₁.setTop (mkF m 54 #[.val (.long u0), .second, .val (.int u1)] [(.int u1)])) t
                refine XS.bipush X0.here hx rfl (hb hby d1_54) ?_
                exact kt
              by_cases c20 : u1 = (7 : Int32)
              ·
                have s21 : ∀ t, Steps p.tables e below (s₁.setTop (mkF m 62 #[.val (.long u0), .second, .val (.int u1)] [(.long (9223372036854775807 : Int64))])) t → Steps p.tables e below (s₁.setTop (mkF m 56 #[.val (.long u0), .second, .val (.int u1)] [(.int (7 : Int32)), (.int u1)])) t := by
                  intro t kt
                  refine XS.icmpNo X0.here hx rfl (hb hby d1_56) rfl (teq c20).2 ?_
                  show Steps p.tables e below (s₁.setTop (mkF m 59 #[.val (.long u0), .second, .val (.int u1)] [])) t
                  refine X0.ldc2Long hx hown (mvT hZ (hw _ (List.mem_of_getElem? (i := 13) rfl))) (g := (mkF m 59 #[.val (.long u0), .second, .val (.int u1)] [])) rfl (hb hby d1_59) _ ?_
                  exact kt
                obtain ⟨fs, hr, hrun, hended, hW, hsame⟩ := X0.leave (v := some (.long (9223372036854775807 : Int64))) (fun h => by rw [Bd.returns] at h; cases h)
                refine ⟨_, _, pre0 _ (s1 _ (s4 _ (s7 _ (s10 _ (s13 _ (s16 _ (s19 _ (s21 _ (?_))))))))), hrun, hended, _, _, rfl, ?_, ⟨_, rfl⟩, hW, hsame.mono (by decide) (by decide)⟩
                · show Steps p.tables e below (s₁.setTop (mkF m 62 #[.val (.long u0), .second, .val (.int u1)] [(.long (9223372036854775807 : Int64))])) _
                  exact X0.lreturnOut hx Bd.returns (hb hby d1_62) hr
                · show Q1 Z u0 u1 h0 n0 _ s₁.heap _
                  rw [e0]
                  exact ⟨by simp only [fpick, if_neg c2, if_neg c5, if_neg c8, if_neg c11, if_neg c14, if_neg c17, if_pos c20], N0, rfl⟩
              ·
                have s22 : ∀ t, Steps p.tables e below (s₁.setTop (mkF m 64 #[.val (.long u0), .second, .val (.int u1)] [(.long u0)])) t → Steps p.tables e below (s₁.setTop (mkF m 56 #[.val (.long u0), .second, .val (.int u1)] [(.int (7 : Int32)), (.int u1)])) t := by
                  intro t kt
                  refine XS.icmpYes X0.here hx rfl (pc0 := 56) (pc' := 63) rfl (hb hby d1_56) rfl (feq c20).2 (by decide) (by decide) ?_
                  show Steps p.tables e below (s₁.setTop (mkF m 63 #[.val (.long u0), .second, .val (.int u1)] [])) t
                  refine XS.lloadN X0.here hx rfl (hb hby d1_63) rfl ?_
                  exact kt
                obtain ⟨fs, hr, hrun, hended, hW, hsame⟩ := X0.leave (v := some (.long u0)) (fun h => by rw [Bd.returns] at h; cases h)
                refine ⟨_, _, pre0 _ (s1 _ (s4 _ (s7 _ (s10 _ (s13 _ (s16 _ (s19 _ (s22 _ (?_))))))))), hrun, hended, _, _, rfl, ?_, ⟨_, rfl⟩, hW, hsame.mono (by decide) (by decide)⟩
                · show Steps p.tables e below (s₁.setTop (mkF m 64 #[.val (.long u0), .second, .val (.int u1)] [(.long u0)])) _
                  exact X0.lreturnOut hx Bd.returns (hb hby d1_64) hr
                · show Q1 Z u0 u1 h0 n0 _ s₁.heap _
                  rw [e0]
                  exact ⟨by simp only [fpick, if_neg c2, if_neg c5, if_neg c8, if_neg c11, if_neg c14, if_neg c17, if_neg c20], N0, rfl⟩
def Q2 (Z : State) (u0 : Int64) (h0 : Heap) (n0 : Nat) (v : Option Value) (h : Heap) (L : List Loc) : Prop := v = some (.int (fcount u0)) ∧ Fr n0 L ∧ h = h0
set_option maxRecDepth 65536 in
set_option maxHeartbeats 40000000 in
theorem rm2 (l : Launch) (Z : State) (a0 : Array Value) (hw : ∀ d ∈ tables_1, d.before a0 Z = true) (ws : List Jvm.Cond) (u0 : Int64) (h0 : Heap) (n0 : Nat) (Z0 : n0 ≤ h0.size)  :
    MetFree l (⟨"com/example/stern_lock/sternlock/ShortForm", "count", "(J)I"⟩ : MethodName) (head1 (Jvm.Cond.code (⟨"com/example/stern_lock/sternlock/ShortForm", "count", "(J)I"⟩ : MethodName) prog_37_method_6_code 2 (some .int) :: ws) ({ frames := 0, cells := 0, slots := 0, locals := 0 } : Room)) (fun a U => a = #[(.long u0)] ∧ Z.Warmed39 U.vm ∧ U.heap = h0) (fun _ _ _ _ _ => True) (fun _ U o U' => ∃ v L, o = .returned v ∧ Q2 Z u0 h0 n0 v U'.heap L ∧ FrameEnd U o U' L ({ frames := 0, cells := 0, slots := 0, locals := 0 } : Room).cells ({ frames := 0, cells := 0, slots := 0, locals := 0 } : Room).slots) := by
  refine MetFree.of_bodySF (plainFor_of_name pn_com_example_stern_lock_sternlock_ShortForm) hisR ?_
  intro p e s m args0 below meth c s₁ Bd hml0 hP hK
  obtain ⟨rfl, hZ, hh⟩ := hP
  have hx := Bd.exec
  have hby := Bd.bytes
  have hml : c.maxLocals = 2 := hml0
  have hown : s.vm.findClass "com/example/stern_lock/sternlock/ShortForm" = some m.cls := findClass_of_methodNamed Bd.named
  have hnm := (name_of_methodNamed Bd.named Bd.method).1
  have X0 : Stand p l e ({ frames := 0, cells := 0, slots := 0, locals := 0 } : Room) s m #[(.long u0)] below meth c s₁ [] 0 0 := Stand.of_body Bd
  have e0 : s₁.heap = h0 := by rw [← hh, Bd.state]; rfl
  have N0 := Fr.nil n0
  have pre0 : ∀ t, Steps p.tables e below (s₁.setTop (mkF m 0 #[.val (.long u0), .second] [])) t → Steps p.tables e below (s₁.setTop (entryFrame m #[(.long u0)] 2)) t := fun t k => castTop (ef_2 m u0) k
  have s23 : ∀ t, Steps p.tables e below (s₁.setTop (mkF m 3 #[.val (.long u0), .second] [(.int (lcmpW u0 (0 : Int64)))])) t → Steps p.tables e below (s₁.setTop (mkF m 0 #[.val (.long u0), .second] [])) t := by
    intro t kt
    refine XS.lloadN X0.here hx rfl (hb hby d2_0) rfl ?_
    show Steps p.tables e below (s₁.setTop (mkF m 1 #[.val (.long u0), .second] [(.long u0)])) t
    refine XS.lconst X0.here hx rfl (hb hby d2_1) ?_
    show Steps p.tables e below (s₁.setTop (mkF m 2 #[.val (.long u0), .second] [(.long (0 : Int64)), (.long u0)])) t
    refine XS.lcmp X0.here hx rfl (hb hby d2_2) rfl ?_
    exact kt
  by_cases c24 : (0 : Int64) < u0
  ·
    have s25 : ∀ t, Steps p.tables e below (s₁.setTop (mkF m 7 #[.val (.long u0), .second] [(.int (1 : Int32))])) t → Steps p.tables e below (s₁.setTop (mkF m 3 #[.val (.long u0), .second] [(.int (lcmpW u0 (0 : Int64)))])) t := by
      intro t kt
      refine XS.ifNo X0.here hx rfl (hb hby d2_3) rfl ((if0 _ _).trans (tlt ((lw_gt _ _).mpr c24)).2.2.2) ?_
      show Steps p.tables e below (s₁.setTop (mkF m 6 #[.val (.long u0), .second] [])) t
      refine XS.iconst X0.here hx rfl (hb hby d2_6) ?_
      exact kt
    obtain ⟨fs, hr, hrun, hended, hW, hsame⟩ := X0.leave (v := some (.int (1 : Int32))) (fun h => by rw [Bd.returns] at h; cases h)
    refine ⟨_, _, pre0 _ (s23 _ (s25 _ (?_))), hrun, hended, _, _, rfl, ?_, ⟨_, rfl⟩, hW, hsame.mono (by decide) (by decide)⟩
    · show Steps p.tables e below (s₁.setTop (mkF m 7 #[.val (.long u0), .second] [(.int (1 : Int32))])) _
      exact retI X0 hx Bd.returns (hb hby d2_7) hr
    · show Q2 Z u0 h0 n0 _ s₁.heap _
      rw [e0]
      exact ⟨by simp only [fcount, if_pos c24], N0, rfl⟩
  ·
    have s26 : ∀ t, Steps p.tables e below (s₁.setTop (mkF m 17 #[.val (.long u0), .second] [(.int (lcmpW (u0 &&& (-4611686018427387904 : Int64)) (-9223372036854775808 : Int64)))])) t → Steps p.tables e below (s₁.setTop (mkF m 3 #[.val (.long u0), .second] [(.int (lcmpW u0 (0 : Int64)))])) t := by
      intro t kt
      refine XS.ifYes X0.here hx rfl (pc0 := 3) (pc' := 8) rfl (hb hby d2_3) rfl ((if0 _ _).trans (flt (mt (lw_gt _ _).mp c24)).2.2.2) (by decide) (by decide) ?_
      show Steps p.tables e below (s₁.setTop (mkF m 8 #[.val (.long u0), .second] [])) t
      refine XS.lloadN X0.here hx rfl (hb hby d2_8) rfl ?_
      show Steps p.tables e below (s₁.setTop (mkF m 9 #[.val (.long u0), .second] [(.long u0)])) t
      refine X0.ldc2Long hx hown (mvT hZ (hw _ (List.mem_of_getElem? (i := 10) rfl))) (g := (mkF m 9 #[.val (.long u0), .second] [(.long u0)])) rfl (hb hby d2_9) _ ?_
      show Steps p.tables e below (s₁.setTop (mkF m 12 #[.val (.long u0), .second] [(.long (-4611686018427387904 : Int64)), (.long u0)])) t
      refine XS.land X0.here hx rfl (hb hby d2_12) rfl ?_
      show Steps p.tables e below (s₁.setTop (mkF m 13 #[.val (.long u0), .second] [(.long (u0 &&& (-4611686018427387904 : Int64)))])) t
      refine X0.ldc2Long hx hown (mvT hZ (hw _ (List.mem_of_getElem? (i := 11) rfl))) (g := (mkF m 13 #[.val (.long u0), .second] [(.long (u0 &&& (-4611686018427387904 : Int64)))])) rfl (hb hby d2_13) _ ?_
      show Steps p.tables e below (s₁.setTop (mkF m 16 #[.val (.long u0), .second] [(.long (-9223372036854775808 : Int64)), (.long (u0 &&& (-4611686018427387904 : Int64)))])) t
      refine XS.lcmp X0.here hx rfl (hb hby d2_16) rfl ?_
      exact kt
    obtain ⟨w30, rfl, j36⟩ : ∃ (w30 : Int32), w30 = (if (u0 &&& (-4611686018427387904 : Int64)) = (-9223372036854775808 : Int64) then (2 : Int32) else (0 : Int32)) ∧ ∀ t, Steps p.tables e below (s₁.setTop (mkF m 25 #[.val (.long u0), .second] [(.int w30)])) t → Steps p.tables e below (s₁.setTop (mkF m 17 #[.val (.long u0), .second] [(.int (lcmpW (u0 &&& (-4611686018427387904 : Int64)) (-9223372036854775808 : Int64)))])) t := by
      by_cases c27 : (u0 &&& (-4611686018427387904 : Int64)) = (-9223372036854775808 : Int64)
      ·
        have s29 : ∀ t, Steps p.tables e below (s₁.setTop (mkF m 25 #[.val (.long u0), .second] [(.int (2 : Int32))])) t → Steps p.tables e below (s₁.setTop (mkF m 17 #[.val (.long u0), .second] [(.int (lcmpW (u0 &&& (-4611686018427387904 : Int64)) (-9223372036854775808 : Int64)))])) t := by
          intro t kt
          refine XS.ifNo X0.here hx rfl (hb hby d2_17) rfl ((if0 _ _).trans (teq ((lw_eq _ _).mpr c27)).2) ?_
          show Steps p.tables e below (s₁.setTop (mkF m 20 #[.val (.long u0), .second] [])) t
          refine XS.iconst X0.here hx rfl (hb hby d2_20) ?_
          show Steps p.tables e below (s₁.setTop (mkF m 21 #[.val (.long u0), .second] [(.int (2 : Int32))])) t
          refine XS.goto X0.here hx rfl (pc0 := 21) (pc' := 25) rfl (hb hby d2_21) (by decide) (by decide) ?_
          exact kt
        exact ⟨(2 : Int32), (if_pos c27).symm, fun t kt => s29 _ (kt)⟩
      ·
        have s28 : ∀ t, Steps p.tables e below (s₁.setTop (mkF m 25 #[.val (.long u0), .second] [(.int (0 : Int32))])) t → Steps p.tables e below (s₁.setTop (mkF m 17 #[.val (.long u0), .second] [(.int (lcmpW (u0 &&& (-4611686018427387904 : Int64)) (-9223372036854775808 : Int64)))])) t := by
          intro t kt
          refine XS.ifYes X0.here hx rfl (pc0 := 17) (pc' := 24) rfl (hb hby d2_17) rfl ((if0 _ _).trans (feq (mt (lw_eq _ _).mp c27)).2) (by decide) (by decide) ?_
          show Steps p.tables e below (s₁.setTop (mkF m 24 #[.val (.long u0), .second] [])) t
          refine XS.iconst X0.here hx rfl (hb hby d2_24) ?_
          exact kt
        exact ⟨(0 : Int32), (if_neg c27).symm, fun t kt => s28 _ (kt)⟩
    obtain ⟨fs, hr, hrun, hended, hW, hsame⟩ := X0.leave (v := some (.int (if (u0 &&& (-4611686018427387904 : Int64)) = (-9223372036854775808 : Int64) then (2 : Int32) else (0 : Int32)))) (fun h => by rw [Bd.returns] at h; cases h)
    refine ⟨_, _, pre0 _ (s23 _ (s26 _ (j36 _ (?_)))), hrun, hended, _, _, rfl, ?_, ⟨_, rfl⟩, hW, hsame.mono (by decide) (by decide)⟩
    · show Steps p.tables e below (s₁.setTop (mkF m 25 #[.val (.long u0), .second] [(.int (if (u0 &&& (-4611686018427387904 : Int64)) = (-9223372036854775808 : Int64) then (2 : Int32) else (0 : Int32)))])) _
      exact retI X0 hx Bd.returns (hb hby d2_25) hr
    · show Q2 Z u0 h0 n0 _ s₁.heap _
      rw [e0]
      exact ⟨by simp only [fcount, if_neg c24], N0, rfl⟩
theorem own_top (b : BitVec 64) : b &&& 13835058055282163712#64 = (b >>> 62) <<< 62 := by
  refine BitVec.eq_of_getLsbD_eq fun i hi => ?_
  have e : (13835058055282163712#64 : BitVec 64) = (BitVec.allOnes 64) <<< 62 := by decide
  rw [e, BitVec.getLsbD_and, BitVec.getLsbD_shiftLeft, BitVec.getLsbD_shiftLeft, BitVec.getLsbD_ushiftRight, BitVec.getLsbD_allOnes]
  by_cases h : i < 62
  · simp [h]
  · have h2 : 62 + (i - 62) = i := by omega
    have h3 : i - 62 < 64 := by omega
    simp [h, hi, h2, h3]
theorem own_iff (w : Int64) : (w &&& (-4611686018427387904 : Int64)) = (-9223372036854775808 : Int64) ↔ w.toInt < -4611686018427387904 := by
  have e : ((w &&& (-4611686018427387904 : Int64)) = (-9223372036854775808 : Int64)) ↔ ((w.toBitVec >>> 62) <<< 62).toNat = 9223372036854775808 := by
    rw [← own_top, ← Int64.toBitVec_inj, ← BitVec.toNat_inj]
    exact Iff.rfl
  have hn := w.toBitVec.isLt
  have hi : w.toInt = w.toBitVec.toInt := rfl
  rw [e, hi, BitVec.toInt_eq_toNat_cond, BitVec.toNat_shiftLeft, BitVec.toNat_ushiftRight, Nat.shiftRight_eq_div_pow, Nat.shiftLeft_eq]
  split <;> omega
theorem own_plain (w : Int64) (r : Int32) (h : r = (if (0 : Int64) < w then (1 : Int32) else (if w < (-4611686018427387904 : Int64) then (2 : Int32) else (0 : Int32)))) : (fcount w) = r := by
  rw [h]
  show (if (0 : Int64) < w then (1 : Int32) else (if (w &&& (-4611686018427387904 : Int64)) = (-9223372036854775808 : Int64) then (2 : Int32) else (0 : Int32))) = _
  have k : (w < (-4611686018427387904 : Int64)) ↔ w.toInt < -4611686018427387904 := by
    rw [Int64.lt_iff_toInt_lt]; exact Iff.rfl
  by_cases h0 : (0 : Int64) < w
  · rw [if_pos h0, if_pos h0]
  · rw [if_neg h0, if_neg h0]
    by_cases h1 : w.toInt < -4611686018427387904
    · rw [if_pos ((own_iff w).mpr h1), if_pos (k.mpr h1)]
    · rw [if_neg (mt (own_iff w).mp h1), if_neg (mt k.mp h1)]

def Q0 (Z : State) (aw : Int64) (ak : Int32) (h0 : Heap) (n0 : Nat) (v : Option Value) (h : Heap) (L : List Loc) : Prop := v = some (.int 1) ∧ Fr n0 L
set_option maxRecDepth 65536 in
set_option maxHeartbeats 40000000 in
theorem rm0 (l : Launch) (Z : State) (a0 : Array Value) (hw : ∀ d ∈ tables_1, d.before a0 Z = true) (ws : List Jvm.Cond) (aw : Int64) (ak : Int32) (h0 : Heap) (n0 : Nat) (Z0 : n0 ≤ h0.size)  :
    MetFree l x (head1 (Jvm.Cond.code x code maxLocals ret :: ws) room_1) (fun a U => a = #[(.long aw), (.int ak)] ∧ Z.Warmed39 U.vm ∧ U.heap = h0) (fun _ _ _ _ _ => True) (fun _ U o U' => ∃ v L, o = .returned v ∧ Q0 Z aw ak h0 n0 v U'.heap L ∧ FrameEnd U o U' L room_1.cells room_1.slots) := by
  refine MetFree.of_bodySF (plainFor_of_name pn_com_example_stern_lock_sternlock_ShortFormCountPinLaw) hisR ?_
  intro p e s m args0 below meth c s₁ Bd hml0 hP hK
  obtain ⟨rfl, hZ, hh⟩ := hP
  have hx := Bd.exec
  have hby := Bd.bytes
  have hml : c.maxLocals = 8 := hml0
  have hown : s.vm.findClass "com/example/stern_lock/sternlock/ShortFormCountPinLaw" = some m.cls := findClass_of_methodNamed Bd.named
  have hnm := (name_of_methodNamed Bd.named Bd.method).1
  have X0 : Stand p l e room_1 s m #[(.long aw), (.int ak)] below meth c s₁ [] 0 0 := Stand.of_body Bd
  have e0 : s₁.heap = h0 := by rw [← hh, Bd.state]; rfl
  have N0 := Fr.nil n0
  have pre0 : ∀ t, Steps p.tables e below (s₁.setTop (mkF m 0 #[.val (.long aw), .second, .val (.int ak), .unset, .unset, .unset, .unset, .unset] [])) t → Steps p.tables e below (s₁.setTop (entryFrame m #[(.long aw), (.int ak)] maxLocals)) t := fun t k => castTop (ef_0 m aw ak) k
  have s37 : ∀ t, Steps p.tables e below (s₁.setTop (mkF m 5 #[.val (.long aw), .second, .val (.int ak), .unset, .unset, .unset, .unset, .unset] [(.int (ak &&& (7 : Int32))), (.long aw)])) t → Steps p.tables e below (s₁.setTop (mkF m 0 #[.val (.long aw), .second, .val (.int ak), .unset, .unset, .unset, .unset, .unset] [])) t := by
    intro t kt
    refine XS.lloadN X0.here hx rfl (hb hby at_0) rfl ?_
    show Steps p.tables e below (s₁.setTop (mkF m 1 #[.val (.long aw), .second, .val (.int ak), .unset, .unset, .unset, .unset, .unset] [(.long aw)])) t
    refine XS.iloadN X0.here hx rfl (hb hby at_1) rfl ?_
    show Steps p.tables e below (s₁.setTop (mkF m 2 #[.val (.long aw), .second, .val (.int ak), .unset, .unset, .unset, .unset, .unset] [(.int ak), (.long aw)])) t
    refine XS.bipush X0.here hx rfl (hb hby at_2) ?_
    show Steps p.tables e below (s₁.setTop (mkF m 4 #[.val (.long aw), .second, .val (.int ak), .unset, .unset, .unset, .unset, .unset] [(.int (7 : Int32)), (.int ak), (.long aw)])) t
    refine XS.iand X0.here hx rfl (hb hby at_4) rfl ?_
    exact kt
  obtain ⟨_, _, ⟨T38, L38, k38, n38⟩, -, X38, ⟨Lc38, hQ38, l38, y38, z38⟩, st38⟩ := Jvm.LawKit.callS X0 hx (y := (⟨"com/example/stern_lock/sternlock/ShortFormCountPinLaw", "pickWord", "(JI)J"⟩ : MethodName)) hown (mvT hZ (hw _ (List.mem_of_getElem? (i := 0) rfl))) (mvT hZ (hw _ (List.mem_of_getElem? (i := 1) rfl))) (mvT hZ (hw _ (List.mem_of_getElem? (i := 2) rfl))) (mvT hZ (hw _ (List.mem_of_getElem? (i := 3) rfl))) (by decide) (backOf (W := 0) (rm1 l Z a0 hw [] aw (ak &&& (7 : Int32)) h0 n0 Z0 ) hZ (hw _ (List.mem_of_getElem? (i := 3) rfl)) (hw _ (List.mem_of_getElem? (i := 2) rfl)) (by decide) (by decide)) (g := (mkF m 5 #[.val (.long aw), .second, .val (.int ak), .unset, .unset, .unset, .unset, .unset] [(.int (ak &&& (7 : Int32))), (.long aw)])) rfl (by rw [hml]; rfl) (argsL := [(.long aw), (.int (ak &&& (7 : Int32)))]) (rest := []) (lenOf pd_oJIcJ rfl) rfl (by show 2 * 0 + _ ≤ _; exact Nat.le_of_eq rfl) (hb hby at_5) (fun _ _ => ⟨rfl, e0, (by decide : 0 + 0 ≤ _), (by decide : 0 + 0 ≤ _)⟩)
  dsimp only [Pt.U, Pt.locs, Pt.cells, Pt.slots] at X38 l38 y38 z38 st38 hQ38
  subst l38 y38 z38
  obtain ⟨rfl, N38q, e38q⟩ := hQ38
  have N38 := Fr.app N0 N38q
  have s39 : ∀ t, Steps p.tables e below (T38.setTop (mkF m 17 #[.val (.long aw), .second, .val (.int ak), .val (.long (fpick aw (ak &&& (7 : Int32)))), .second, .val (.long (-4611686018427387904 : Int64)), .second, .unset] [(.int (lcmpW (fpick aw (ak &&& (7 : Int32))) (0 : Int64)))])) t → Steps p.tables e below (T38.setTop (mkF m 8 #[.val (.long aw), .second, .val (.int ak), .unset, .unset, .unset, .unset, .unset] [(.long (fpick aw (ak &&& (7 : Int32))))])) t := by
    intro t kt
    refine XS.lstoreN X38.here hx rfl (hb hby at_8) rfl (l' := #[.val (.long aw), .second, .val (.int ak), .val (.long (fpick aw (ak &&& (7 : Int32)))), .second, .unset, .unset, .unset]) rfl ?_
    show Steps p.tables e below (T38.setTop (mkF m 9 #[.val (.long aw), .second, .val (.int ak), .val (.long (fpick aw (ak &&& (7 : Int32)))), .second, .unset, .unset, .unset] [])) t
    refine X38.ldc2Long hx hown (mvT hZ (hw _ (List.mem_of_getElem? (i := 5) rfl))) (g := (mkF m 9 #[.val (.long aw), .second, .val (.int ak), .val (.long (fpick aw (ak &&& (7 : Int32)))), .second, .unset, .unset, .unset] [])) rfl (hb hby at_9) _ ?_
    show Steps p.tables e below (T38.setTop (mkF m 12 #[.val (.long aw), .second, .val (.int ak), .val (.long (fpick aw (ak &&& (7 : Int32)))), .second, .unset, .unset, .unset] [(.long (-4611686018427387904 : Int64))])) t
    refine XS.lstore X38.here hx rfl (hb hby at_12) rfl (l' := #[.val (.long aw), .second, .val (.int ak), .val (.long (fpick aw (ak &&& (7 : Int32)))), .second, .val (.long (-4611686018427387904 : Int64)), .second, .unset]) rfl ?_
    show Steps p.tables e below (T38.setTop (mkF m 14 #[.val (.long aw), .second, .val (.int ak), .val (.long (fpick aw (ak &&& (7 : Int32)))), .second, .val (.long (-4611686018427387904 : Int64)), .second, .unset] [])) t
    refine XS.lloadN X38.here hx rfl (hb hby at_14) rfl ?_
    show Steps p.tables e below (T38.setTop (mkF m 15 #[.val (.long aw), .second, .val (.int ak), .val (.long (fpick aw (ak &&& (7 : Int32)))), .second, .val (.long (-4611686018427387904 : Int64)), .second, .unset] [(.long (fpick aw (ak &&& (7 : Int32))))])) t
    refine XS.lconst X38.here hx rfl (hb hby at_15) ?_
    show Steps p.tables e below (T38.setTop (mkF m 16 #[.val (.long aw), .second, .val (.int ak), .val (.long (fpick aw (ak &&& (7 : Int32)))), .second, .val (.long (-4611686018427387904 : Int64)), .second, .unset] [(.long (0 : Int64)), (.long (fpick aw (ak &&& (7 : Int32))))])) t
    refine XS.lcmp X38.here hx rfl (hb hby at_16) rfl ?_
    exact kt
  obtain ⟨w53, hw53, j59⟩ : ∃ (w53 : Int32), w53 = (if (0 : Int64) < (fpick aw (ak &&& (7 : Int32))) then (1 : Int32) else (if (fpick aw (ak &&& (7 : Int32))) < (-4611686018427387904 : Int64) then (2 : Int32) else (0 : Int32))) ∧ ∀ t, Steps p.tables e below (T38.setTop (mkF m 42 #[.val (.long aw), .second, .val (.int ak), .val (.long (fpick aw (ak &&& (7 : Int32)))), .second, .val (.long (-4611686018427387904 : Int64)), .second, .val (.int w53)] [])) t → Steps p.tables e below (T38.setTop (mkF m 17 #[.val (.long aw), .second, .val (.int ak), .val (.long (fpick aw (ak &&& (7 : Int32)))), .second, .val (.long (-4611686018427387904 : Int64)), .second, .unset] [(.int (lcmpW (fpick aw (ak &&& (7 : Int32))) (0 : Int64)))])) t := by
    by_cases c40 : (0 : Int64) < (fpick aw (ak &&& (7 : Int32)))
    ·
      have s52 : ∀ t, Steps p.tables e below (T38.setTop (mkF m 42 #[.val (.long aw), .second, .val (.int ak), .val (.long (fpick aw (ak &&& (7 : Int32)))), .second, .val (.long (-4611686018427387904 : Int64)), .second, .val (.int (1 : Int32))] [])) t → Steps p.tables e below (T38.setTop (mkF m 17 #[.val (.long aw), .second, .val (.int ak), .val (.long (fpick aw (ak &&& (7 : Int32)))), .second, .val (.long (-4611686018427387904 : Int64)), .second, .unset] [(.int (lcmpW (fpick aw (ak &&& (7 : Int32))) (0 : Int64)))])) t := by
        intro t kt
        refine XS.ifNo X38.here hx rfl (hb hby at_17) rfl ((if0 _ _).trans (tlt ((lw_gt _ _).mpr c40)).2.2.2) ?_
        show Steps p.tables e below (T38.setTop (mkF m 20 #[.val (.long aw), .second, .val (.int ak), .val (.long (fpick aw (ak &&& (7 : Int32)))), .second, .val (.long (-4611686018427387904 : Int64)), .second, .unset] [])) t
        refine XS.iconst X38.here hx rfl (hb hby at_20) ?_
        show Steps p.tables e below (T38.setTop (mkF m 21 #[.val (.long aw), .second, .val (.int ak), .val (.long (fpick aw (ak &&& (7 : Int32)))), .second, .val (.long (-4611686018427387904 : Int64)), .second, .unset] [(.int (1 : Int32))])) t
        refine XS.istore X38.here hx rfl (hb hby at_21) rfl (l' := #[.val (.long aw), .second, .val (.int ak), .val (.long (fpick aw (ak &&& (7 : Int32)))), .second, .val (.long (-4611686018427387904 : Int64)), .second, .val (.int (1 : Int32))]) rfl ?_
        show Steps p.tables e below (T38.setTop (mkF m 23 #[.val (.long aw), .second, .val (.int ak), .val (.long (fpick aw (ak &&& (7 : Int32)))), .second, .val (.long (-4611686018427387904 : Int64)), .second, .val (.int (1 : Int32))] [])) t
        refine XS.goto X38.here hx rfl (pc0 := 23) (pc' := 42) rfl (hb hby at_23) (by decide) (by decide) ?_
        exact kt
      exact ⟨(1 : Int32), (if_pos c40).symm, fun t kt => s52 _ (kt)⟩
    ·
      have s41 : ∀ t, Steps p.tables e below (T38.setTop (mkF m 30 #[.val (.long aw), .second, .val (.int ak), .val (.long (fpick aw (ak &&& (7 : Int32)))), .second, .val (.long (-4611686018427387904 : Int64)), .second, .unset] [(.int (lcmpW (fpick aw (ak &&& (7 : Int32))) (-4611686018427387904 : Int64)))])) t → Steps p.tables e below (T38.setTop (mkF m 17 #[.val (.long aw), .second, .val (.int ak), .val (.long (fpick aw (ak &&& (7 : Int32)))), .second, .val (.long (-4611686018427387904 : Int64)), .second, .unset] [(.int (lcmpW (fpick aw (ak &&& (7 : Int32))) (0 : Int64)))])) t := by
        intro t kt
        refine XS.ifYes X38.here hx rfl (pc0 := 17) (pc' := 26) rfl (hb hby at_17) rfl ((if0 _ _).trans (flt (mt (lw_gt _ _).mp c40)).2.2.2) (by decide) (by decide) ?_
        show Steps p.tables e below (T38.setTop (mkF m 26 #[.val (.long aw), .second, .val (.int ak), .val (.long (fpick aw (ak &&& (7 : Int32)))), .second, .val (.long (-4611686018427387904 : Int64)), .second, .unset] [])) t
        refine XS.lloadN X38.here hx rfl (hb hby at_26) rfl ?_
        show Steps p.tables e below (T38.setTop (mkF m 27 #[.val (.long aw), .second, .val (.int ak), .val (.long (fpick aw (ak &&& (7 : Int32)))), .second, .val (.long (-4611686018427387904 : Int64)), .second, .unset] [(.long (fpick aw (ak &&& (7 : Int32))))])) t
        refine XS.lload X38.here hx rfl (hb hby at_27) rfl ?_
        show Steps p.tables e below (T38.setTop (mkF m 29 #[.val (.long aw), .second, .val (.int ak), .val (.long (fpick aw (ak &&& (7 : Int32)))), .second, .val (.long (-4611686018427387904 : Int64)), .second, .unset] [(.long (-4611686018427387904 : Int64)), (.long (fpick aw (ak &&& (7 : Int32))))])) t
        refine XS.lcmp X38.here hx rfl (hb hby at_29) rfl ?_
        exact kt
      obtain ⟨w45, rfl, j51⟩ : ∃ (w45 : Int32), w45 = (if (fpick aw (ak &&& (7 : Int32))) < (-4611686018427387904 : Int64) then (2 : Int32) else (0 : Int32)) ∧ ∀ t, Steps p.tables e below (T38.setTop (mkF m 42 #[.val (.long aw), .second, .val (.int ak), .val (.long (fpick aw (ak &&& (7 : Int32)))), .second, .val (.long (-4611686018427387904 : Int64)), .second, .val (.int w45)] [])) t → Steps p.tables e below (T38.setTop (mkF m 30 #[.val (.long aw), .second, .val (.int ak), .val (.long (fpick aw (ak &&& (7 : Int32)))), .second, .val (.long (-4611686018427387904 : Int64)), .second, .unset] [(.int (lcmpW (fpick aw (ak &&& (7 : Int32))) (-4611686018427387904 : Int64)))])) t := by
        by_cases c42 : (fpick aw (ak &&& (7 : Int32))) < (-4611686018427387904 : Int64)
        ·
          have s44 : ∀ t, Steps p.tables e below (T38.setTop (mkF m 42 #[.val (.long aw), .second, .val (.int ak), .val (.long (fpick aw (ak &&& (7 : Int32)))), .second, .val (.long (-4611686018427387904 : Int64)), .second, .val (.int (2 : Int32))] [])) t → Steps p.tables e below (T38.setTop (mkF m 30 #[.val (.long aw), .second, .val (.int ak), .val (.long (fpick aw (ak &&& (7 : Int32)))), .second, .val (.long (-4611686018427387904 : Int64)), .second, .unset] [(.int (lcmpW (fpick aw (ak &&& (7 : Int32))) (-4611686018427387904 : Int64)))])) t := by
            intro t kt
            refine XS.ifNo X38.here hx rfl (hb hby at_30) rfl ((if0 _ _).trans (tlt ((lw_lt _ _).mpr c42)).2.1) ?_
            show Steps p.tables e below (T38.setTop (mkF m 33 #[.val (.long aw), .second, .val (.int ak), .val (.long (fpick aw (ak &&& (7 : Int32)))), .second, .val (.long (-4611686018427387904 : Int64)), .second, .unset] [])) t
            refine XS.iconst X38.here hx rfl (hb hby at_33) ?_
            show Steps p.tables e below (T38.setTop (mkF m 34 #[.val (.long aw), .second, .val (.int ak), .val (.long (fpick aw (ak &&& (7 : Int32)))), .second, .val (.long (-4611686018427387904 : Int64)), .second, .unset] [(.int (2 : Int32))])) t
            refine XS.istore X38.here hx rfl (hb hby at_34) rfl (l' := #[.val (.long aw), .second, .val (.int ak), .val (.long (fpick aw (ak &&& (7 : Int32)))), .second, .val (.long (-4611686018427387904 : Int64)), .second, .val (.int (2 : Int32))]) rfl ?_
            show Steps p.tables e below (T38.setTop (mkF m 36 #[.val (.long aw), .second, .val (.int ak), .val (.long (fpick aw (ak &&& (7 : Int32)))), .second, .val (.long (-4611686018427387904 : Int64)), .second, .val (.int (2 : Int32))] [])) t
            refine XS.goto X38.here hx rfl (pc0 := 36) (pc' := 42) rfl (hb hby at_36) (by decide) (by decide) ?_
            exact kt
          exact ⟨(2 : Int32), (if_pos c42).symm, fun t kt => s44 _ (kt)⟩
        ·
          have s43 : ∀ t, Steps p.tables e below (T38.setTop (mkF m 42 #[.val (.long aw), .second, .val (.int ak), .val (.long (fpick aw (ak &&& (7 : Int32)))), .second, .val (.long (-4611686018427387904 : Int64)), .second, .val (.int (0 : Int32))] [])) t → Steps p.tables e below (T38.setTop (mkF m 30 #[.val (.long aw), .second, .val (.int ak), .val (.long (fpick aw (ak &&& (7 : Int32)))), .second, .val (.long (-4611686018427387904 : Int64)), .second, .unset] [(.int (lcmpW (fpick aw (ak &&& (7 : Int32))) (-4611686018427387904 : Int64)))])) t := by
            intro t kt
            refine XS.ifYes X38.here hx rfl (pc0 := 30) (pc' := 39) rfl (hb hby at_30) rfl ((if0 _ _).trans (flt (mt (lw_lt _ _).mp c42)).2.1) (by decide) (by decide) ?_
            show Steps p.tables e below (T38.setTop (mkF m 39 #[.val (.long aw), .second, .val (.int ak), .val (.long (fpick aw (ak &&& (7 : Int32)))), .second, .val (.long (-4611686018427387904 : Int64)), .second, .unset] [])) t
            refine XS.iconst X38.here hx rfl (hb hby at_39) ?_
            show Steps p.tables e below (T38.setTop (mkF m 40 #[.val (.long aw), .second, .val (.int ak), .val (.long (fpick aw (ak &&& (7 : Int32)))), .second, .val (.long (-4611686018427387904 : Int64)), .second, .unset] [(.int (0 : Int32))])) t
            refine XS.istore X38.here hx rfl (hb hby at_40) rfl (l' := #[.val (.long aw), .second, .val (.int ak), .val (.long (fpick aw (ak &&& (7 : Int32)))), .second, .val (.long (-4611686018427387904 : Int64)), .second, .val (.int (0 : Int32))]) rfl ?_
            exact kt
          exact ⟨(0 : Int32), (if_neg c42).symm, fun t kt => s43 _ (kt)⟩
      exact ⟨(if (fpick aw (ak &&& (7 : Int32))) < (-4611686018427387904 : Int64) then (2 : Int32) else (0 : Int32)), (if_neg c40).symm, fun t kt => s41 _ (j51 _ (kt))⟩
  have s60 : ∀ t, Steps p.tables e below (T38.setTop (mkF m 43 #[.val (.long aw), .second, .val (.int ak), .val (.long (fpick aw (ak &&& (7 : Int32)))), .second, .val (.long (-4611686018427387904 : Int64)), .second, .val (.int w53)] [(.long (fpick aw (ak &&& (7 : Int32))))])) t → Steps p.tables e below (T38.setTop (mkF m 42 #[.val (.long aw), .second, .val (.int ak), .val (.long (fpick aw (ak &&& (7 : Int32)))), .second, .val (.long (-4611686018427387904 : Int64)), .second, .val (.int w53)] [])) t := by
    intro t kt
    refine XS.lloadN X38.here hx rfl (hb hby at_42) rfl ?_
    exact kt
  obtain ⟨_, _, ⟨T61, L61, k61, n61⟩, -, X61, ⟨Lc61, hQ61, l61, y61, z61⟩, st61⟩ := Jvm.LawKit.callS X38 hx (y := (⟨"com/example/stern_lock/sternlock/ShortForm", "count", "(J)I"⟩ : MethodName)) hown (mvT hZ (hw _ (List.mem_of_getElem? (i := 6) rfl))) (mvT hZ (hw _ (List.mem_of_getElem? (i := 7) rfl))) (mvT hZ (hw _ (List.mem_of_getElem? (i := 8) rfl))) (mvT hZ (hw _ (List.mem_of_getElem? (i := 9) rfl))) (by decide) (backOf (W := 0) (rm2 l Z a0 hw [] (fpick aw (ak &&& (7 : Int32))) h0 n0 Z0 ) hZ (hw _ (List.mem_of_getElem? (i := 9) rfl)) (hw _ (List.mem_of_getElem? (i := 8) rfl)) (by decide) (by decide)) (g := (mkF m 43 #[.val (.long aw), .second, .val (.int ak), .val (.long (fpick aw (ak &&& (7 : Int32)))), .second, .val (.long (-4611686018427387904 : Int64)), .second, .val (.int w53)] [(.long (fpick aw (ak &&& (7 : Int32))))])) rfl (by rw [hml]; rfl) (argsL := [(.long (fpick aw (ak &&& (7 : Int32))))]) (rest := []) (lenOf pd_oJcI rfl) rfl (by show 2 * 0 + _ ≤ _; exact Nat.le_of_eq rfl) (hb hby at_43) (fun _ _ => ⟨rfl, e38q, (by decide : 0 + 0 ≤ _), (by decide : 0 + 0 ≤ _)⟩)
  dsimp only [Pt.U, Pt.locs, Pt.cells, Pt.slots] at X61 l61 y61 z61 st61 hQ61
  subst l61 y61 z61
  obtain ⟨rfl, N61q, e61q⟩ := hQ61
  have N61 := Fr.app N38 N61q
  have s62 : ∀ t, Steps p.tables e below (T61.setTop (mkF m 48 #[.val (.long aw), .second, .val (.int ak), .val (.long (fpick aw (ak &&& (7 : Int32)))), .second, .val (.long (-4611686018427387904 : Int64)), .second, .val (.int w53)] [(.int w53), (.int (fcount (fpick aw (ak &&& (7 : Int32)))))])) t → Steps p.tables e below (T61.setTop (mkF m 46 #[.val (.long aw), .second, .val (.int ak), .val (.long (fpick aw (ak &&& (7 : Int32)))), .second, .val (.long (-4611686018427387904 : Int64)), .second, .val (.int w53)] [(.int (fcount (fpick aw (ak &&& (7 : Int32)))))])) t := by
    intro t kt
    refine XS.iload X61.here hx rfl (hb hby at_46) rfl ?_
    exact kt
  have hfin : (fcount (fpick aw (ak &&& (7 : Int32)))) = w53 := own_plain _ _ hw53
  have s63 : ∀ t, Steps p.tables e below (T61.setTop (mkF m 56 #[.val (.long aw), .second, .val (.int ak), .val (.long (fpick aw (ak &&& (7 : Int32)))), .second, .val (.long (-4611686018427387904 : Int64)), .second, .val (.int w53)] [(.int (1 : Int32))])) t → Steps p.tables e below (T61.setTop (mkF m 48 #[.val (.long aw), .second, .val (.int ak), .val (.long (fpick aw (ak &&& (7 : Int32)))), .second, .val (.long (-4611686018427387904 : Int64)), .second, .val (.int w53)] [(.int w53), (.int (fcount (fpick aw (ak &&& (7 : Int32)))))])) t := by
    intro t kt
    refine XS.icmpNo X61.here hx rfl (hb hby at_48) rfl (teq hfin).2 ?_
    show Steps p.tables e below (T61.setTop (mkF m 51 #[.val (.long aw), .second, .val (.int ak), .val (.long (fpick aw (ak &&& (7 : Int32)))), .second, .val (.long (-4611686018427387904 : Int64)), .second, .val (.int w53)] [])) t
    refine XS.iconst X61.here hx rfl (hb hby at_51) ?_
    show Steps p.tables e below (T61.setTop (mkF m 52 #[.val (.long aw), .second, .val (.int ak), .val (.long (fpick aw (ak &&& (7 : Int32)))), .second, .val (.long (-4611686018427387904 : Int64)), .second, .val (.int w53)] [(.int (1 : Int32))])) t
    refine XS.goto X61.here hx rfl (pc0 := 52) (pc' := 56) rfl (hb hby at_52) (by decide) (by decide) ?_
    exact kt
  obtain ⟨fs, hr, hrun, hended, hW, hsame⟩ := X61.leave (v := some (.int (1 : Int32))) (fun h => by rw [Bd.returns] at h; cases h)
  refine ⟨_, _, pre0 _ (s37 _ (st38 _ (s39 _ (j59 _ (s60 _ (st61 _ (s62 _ (s63 _ (?_))))))))), hrun, hended, _, _, rfl, ?_, ⟨_, rfl⟩, hW, hsame.mono (by decide) (by decide)⟩
  · show Steps p.tables e below (T61.setTop (mkF m 56 #[.val (.long aw), .second, .val (.int ak), .val (.long (fpick aw (ak &&& (7 : Int32)))), .second, .val (.long (-4611686018427387904 : Int64)), .second, .val (.int w53)] [(.int (1 : Int32))])) _
    exact retN X61 hx (t := .boolean) Bd.returns (by simp) (hb hby at_56) hr
  · show Q0 Z aw ak h0 n0 _ T61.heap _
    rw [e61q]
    exact ⟨rfl, N61⟩
set_option maxRecDepth 65536 in
set_option maxHeartbeats 40000000 in
theorem comes_1 {Post : Tables → Env → Array Value → State → Outcome → State → Prop} (hpost : ∀ tb e args s v u, (limb_1_1.after args s (.returned v) u = true ∧ limb_1_2.after args s (.returned v) u = true ∧ True) → FrameEnd s (.returned v) u (Jvm.fieldLocs frame_1_writes args s ++ Jvm.arrayLocs frame_1_arrays args s ++ Jvm.staticLocs frame_1_statics s) 0 0 → Post tb e args s (.returned v) u) :
    ArmFor flags0 classFile x code maxLocals ret World_1 tables_1 room_1 Calls_1 rest_1 Pre_1 Post := by
  intro l hfl _ _ p e ha hc hk s m args below hf hA hF happ hP
  obtain ⟨hcalls, hrest, hpre⟩ := hP
  obtain ⟨-, -, -, hnamed, -, -, -, hat⟩ := (Spec.applies_iff hf).mp happ
  obtain ⟨hg, hn⟩ := and_e (Cond.before_iff.mp (show (Jvm.Cond.and given_1 narrow_1).before args s = true from hpre))
  obtain ⟨ha0, hb0⟩ := and_e hg
  obtain ⟨ha1, hb1⟩ := and_e hb0
  obtain ⟨w0, w1, rfl⟩ : ∃ w0 w1 : Value, args = #[w0, w1] := by
    have hs : args.size = 2 := by simpa [Cond.value, given_1] using ha0
    obtain ⟨L⟩ := args
    match L, hs with
    | [w0, w1], _ => exact ⟨w0, w1, rfl⟩
  have hw := fun d (hd : d ∈ tables_1) => atoms_spec (ws := Jvm.Cond.code x code maxLocals ret :: tables_1) hat d (List.mem_cons_of_mem _ hd)
  obtain ⟨i0, ei0⟩ := isL_v ha1
  obtain rfl : w0 = (.long i0) := Option.some.inj ei0
  obtain ⟨i1, ei1⟩ := is_v hb1
  obtain rfl : w1 = (.int i1) := Option.some.inj ei1
  obtain ⟨n, o, h1, h2, h3, _, L, rfl, ⟨rfl, N⟩, hq⟩ := rm0 l s _ hw tables_1 i0 i1 s.heap s.heap.size (Nat.le_refl _)  p e ha hc hk s m _ below hf ((Spec.applies_iff_loose hf).mp happ).1 ⟨rfl, State.Warmed39.refl s, rfl⟩ trivial
  refine ⟨n, _, h1, h2, h3, hpost _ _ _ _ _ _ ⟨Cond.after_iff.mpr rfl, Cond.after_iff.mpr (eq_i res_at (Term.int_eval (1)) rfl), trivial⟩ ⟨hq.1, hq.2.1, (hq.2.2.sift fun y hy => Or.inr (N y hy)).mono (by decide) (by decide)⟩⟩
theorem main_1_1 : Claimed_1_1 := comes_1 fun _ _ _ _ _ _ h hF => ⟨h.1, hF⟩
theorem main_1_2 : Claimed_1_2 := comes_1 fun _ _ _ _ _ _ h hF => ⟨h.2.1, hF⟩
end Jvm.Pilot.@@N@@
namespace Jvm.Pilot.@@N@@
open Jvm Jvm.ClassFile Sem Op Lib Jvm.Free Jvm.Stand Jvm.Pilot.@@N@@.Jvm.D
/-! MADE BY PROGRAM (witnessworld.py) out of the Statement's table words and the real class files: 9 classes; the members and pool entries that the words name. The judged class is class 1, her method 1. -/
namespace start1
open Jvm.ClassFile
def u (s : String) : CpInfo := .utf8 (stringToUtf16 s)
/-- a pool by its gaps: so many unusable entries, then the entry; so many at the end -/
def gap : Nat → List CpInfo → List CpInfo
  | 0, r => r
  | n + 1, r => .unusable :: gap n r
def poolList (es : List (Nat × CpInfo)) (last : Nat) : List CpInfo := es.foldr (fun e r => gap e.1 (e.2 :: r)) (gap last [])
def pool (es : List (Nat × CpInfo)) (last : Nat) : Array CpInfo := ⟨poolList es last⟩
def fileOf (pool : Array CpInfo) (this : Nat) (attrs : Array Attribute := #[]) (ms : Array MethodInfo := #[]) (fl : Nat := 33) (sup : Nat := 0) (ifs : Array Nat := #[]) (fds : Array FieldInfo := #[]) : ClassFile where
  minorVersion := 0
  majorVersion := 65
  constantPool := pool
  accessFlags := fl
  thisClass := this
  superClass := sup
  interfaces := ifs
  fields := fds
  methods := ms
  attributes := attrs
def plain (name : String) (sup : Option ClassId) : Class where
  name := name
  kind := .ordinary
  loader := none
  accessFlags := 33
  super := sup
  interfaces := #[]
  cf := none
  fields := #[]
  methods := #[]
  instanceTypes := #[]
  staticTypes := #[]
  resolved := #[]
  callSites := []
  init := .initialized
  statics := none
  mirror := none

def pool0 : Array CpInfo := pool [(5, u "<init>"), (0, u "()V"), (1, .class_ 10), (1, u "java/lang/Object")] 113

def k0m0 : Method := { name := "<init>", desc := "()V", sig := { parameters := [], returnType := none }, accessFlags := 1, code := none }
/-- java/lang/Object -/
def k0 : Class := { plain "java/lang/Object" none with
  accessFlags := 33
  interfaces := #[]
  cf := some (fileOf pool0 8 #[] #[{ accessFlags := 1, nameIndex := 5, descriptorIndex := 6, attributes := #[] }] 33 0 #[] #[])
  fields := #[]
  methods := #[k0m0]
  instanceTypes := #[]
  staticTypes := #[]
  resolved := Array.replicate 124 none
  statics := none }

def pool1 : Array CpInfo := pool [(2, .class_ 4), (1, u "java/lang/Object"), (0, u "<init>"), (0, u "()V"), (0, .methodref 8 9), (0, .class_ 10), (0, .nameAndType 11 12), (0, u "com/example/stern_lock/sternlock/ShortFormCountPinLaw"), (0, u "pickWord"), (0, u "(JI)J"), (0, .long 13835058055282163712), (1, .methodref 16 17), (0, .class_ 18), (0, .nameAndType 19 20), (0, u "com/example/stern_lock/sternlock/ShortForm"), (0, u "count"), (0, u "(J)I"), (0, .long 18446744073709551615), (1, .long 18446744073709551614), (3, .long 9223372036854775808), (1, .long 13835058055282163711), (1, .long 9223372036854775807), (3, u "law"), (0, u "(JI)Z")] 3

def k1m0 : Method := { name := "<init>", desc := "()V", sig := { parameters := [], returnType := none }, accessFlags := 2, code := none }
def k1c1 : Code := { maxStack := 4, maxLocals := 8, code := code, exceptionTable := #[], attributes := #[] }
def k1m1 : Method := { name := "law", desc := "(JI)Z", sig := { parameters := [.long, .int], returnType := some .boolean }, accessFlags := 9, code := some k1c1 }
def k1c2 : Code := { maxStack := 2, maxLocals := 3, code := method_3_code, exceptionTable := #[], attributes := #[] }
def k1m2 : Method := { name := "pickWord", desc := "(JI)J", sig := { parameters := [.long, .int], returnType := some .long }, accessFlags := 10, code := some k1c2 }
/-- com/example/stern_lock/sternlock/ShortFormCountPinLaw -/
def k1 : Class := { plain "com/example/stern_lock/sternlock/ShortFormCountPinLaw" (some 0) with
  accessFlags := 49
  interfaces := #[]
  cf := some (fileOf pool1 8 #[] #[{ accessFlags := 2, nameIndex := 5, descriptorIndex := 6, attributes := #[] }, { accessFlags := 9, nameIndex := 35, descriptorIndex := 36, attributes := #[] }, { accessFlags := 10, nameIndex := 11, descriptorIndex := 12, attributes := #[] }] 49 2 #[] #[])
  fields := #[]
  methods := #[k1m0, k1m1, k1m2]
  instanceTypes := #[]
  staticTypes := #[]
  resolved := Array.replicate 40 none
  statics := none }

def pool2 : Array CpInfo := pool [(3, .class_ 4), (0, u "com/example/stern_lock/sternlock/ShortForm"), (1, .class_ 8), (1, u "java/lang/Object"), (0, u "<init>"), (0, u "()V"), (2, .long 13835058055282163712), (1, .long 9223372036854775808), (17, u "count"), (0, u "(J)I"), (47, u "MODE_BITS"), (0, u "I"), (2, u "MAX_HOLDER"), (0, u "J"), (2, u "FREE"), (2, u "FULL"), (2, u "SHARED"), (0, u "MODES"), (0, u "PAIR_ID_BITS"), (1, u "PAIR_MODE_BITS"), (1, u "HALF_BITS"), (1, u "HALF"), (0, u "PAIR_MODES"), (0, u "TAG"), (0, u "PAIR")] 10

def k2m0 : Method := { name := "<init>", desc := "()V", sig := { parameters := [], returnType := none }, accessFlags := 2, code := none }
def k2c1 : Code := { maxStack := 4, maxLocals := 2, code := prog_37_method_6_code, exceptionTable := #[], attributes := #[] }
def k2m1 : Method := { name := "count", desc := "(J)I", sig := { parameters := [.long], returnType := some .int }, accessFlags := 8, code := some k2c1 }
/-- com/example/stern_lock/sternlock/ShortForm -/
def k2 : Class := { plain "com/example/stern_lock/sternlock/ShortForm" (some 0) with
  accessFlags := 48
  interfaces := #[]
  cf := some (fileOf pool2 3 #[] #[{ accessFlags := 2, nameIndex := 9, descriptorIndex := 10, attributes := #[] }, { accessFlags := 8, nameIndex := 33, descriptorIndex := 34, attributes := #[] }] 48 6 #[] #[{ accessFlags := 24, nameIndex := 82, descriptorIndex := 83, attributes := #[] }, { accessFlags := 24, nameIndex := 86, descriptorIndex := 87, attributes := #[] }, { accessFlags := 24, nameIndex := 90, descriptorIndex := 87, attributes := #[] }, { accessFlags := 24, nameIndex := 93, descriptorIndex := 87, attributes := #[] }, { accessFlags := 24, nameIndex := 96, descriptorIndex := 87, attributes := #[] }, { accessFlags := 26, nameIndex := 97, descriptorIndex := 87, attributes := #[] }, { accessFlags := 26, nameIndex := 98, descriptorIndex := 83, attributes := #[] }, { accessFlags := 26, nameIndex := 100, descriptorIndex := 83, attributes := #[] }, { accessFlags := 26, nameIndex := 102, descriptorIndex := 83, attributes := #[] }, { accessFlags := 26, nameIndex := 104, descriptorIndex := 87, attributes := #[] }, { accessFlags := 26, nameIndex := 105, descriptorIndex := 87, attributes := #[] }, { accessFlags := 26, nameIndex := 106, descriptorIndex := 87, attributes := #[] }, { accessFlags := 26, nameIndex := 107, descriptorIndex := 87, attributes := #[] }])
  fields := #[{ name := "MODE_BITS", type := .int, accessFlags := 24, slot := 0, constantValue := 0 }, { name := "MAX_HOLDER", type := .long, accessFlags := 24, slot := 1, constantValue := 0 }, { name := "FREE", type := .long, accessFlags := 24, slot := 2, constantValue := 0 }, { name := "FULL", type := .long, accessFlags := 24, slot := 3, constantValue := 0 }, { name := "SHARED", type := .long, accessFlags := 24, slot := 4, constantValue := 0 }, { name := "MODES", type := .long, accessFlags := 26, slot := 5, constantValue := 0 }, { name := "PAIR_ID_BITS", type := .int, accessFlags := 26, slot := 6, constantValue := 0 }, { name := "PAIR_MODE_BITS", type := .int, accessFlags := 26, slot := 7, constantValue := 0 }, { name := "HALF_BITS", type := .int, accessFlags := 26, slot := 8, constantValue := 0 }, { name := "HALF", type := .long, accessFlags := 26, slot := 9, constantValue := 0 }, { name := "PAIR_MODES", type := .long, accessFlags := 26, slot := 10, constantValue := 0 }, { name := "TAG", type := .long, accessFlags := 26, slot := 11, constantValue := 0 }, { name := "PAIR", type := .long, accessFlags := 26, slot := 12, constantValue := 0 }]
  methods := #[k2m0, k2m1]
  instanceTypes := #[]
  staticTypes := #[.int, .long, .long, .long, .long, .long, .int, .int, .int, .long, .long, .long, .long]
  resolved := Array.replicate 118 none
  statics := none }

def pool3 : Array CpInfo := pool [(1, u "java/lang/Cloneable"), (0, .class_ 1), (0, u "java/lang/Object"), (0, .class_ 3)] 3

/-- java/lang/Cloneable -/
def k3 : Class := { plain "java/lang/Cloneable" (some 0) with
  accessFlags := 1537
  interfaces := #[]
  cf := some (fileOf pool3 2 #[] #[] 1537 4 #[] #[])
  fields := #[]
  methods := #[]
  instanceTypes := #[]
  staticTypes := #[]
  resolved := Array.replicate 8 none
  statics := none }

def pool4 : Array CpInfo := pool [(1, u "java/io/Serializable"), (0, .class_ 1), (0, u "java/lang/Object"), (0, .class_ 3)] 3

/-- java/io/Serializable -/
def k4 : Class := { plain "java/io/Serializable" (some 0) with
  accessFlags := 1537
  interfaces := #[]
  cf := some (fileOf pool4 2 #[] #[] 1537 4 #[] #[])
  fields := #[]
  methods := #[]
  instanceTypes := #[]
  staticTypes := #[]
  resolved := Array.replicate 8 none
  statics := none }

/-- the primitive byte -/
def k5 : Class := { plain "byte" none with kind := .primitive 'B', accessFlags := 0x411 }
/-- [B -/
def k6 : Class := { plain "[B" (some 0) with kind := .array 5 .byte, interfaces := #[3, 4], accessFlags := 1041 }

/-- the primitive int -/
def k7 : Class := { plain "int" none with kind := .primitive 'I', accessFlags := 0x411 }
/-- [I -/
def k8 : Class := { plain "[I" (some 0) with kind := .array 7 .int, interfaces := #[3, 4], accessFlags := 1041 }

def heap : Heap := #[]
def classes : Array Class := #[k0, k1, k2, k3, k4, k5, k6, k7, k8]
def interned : List (Array UInt16 × Addr) := []
def slotsUsed : Nat := 0
def theMethod : MethodId := ⟨1, 1⟩
def args0 : Array Value := #[.long 5, .int 7]
def aboutOver (below : List Frame) : State where
  vm := { classes := classes, interned := interned.toArray }
  heap := heap
  slotsUsed := slotsUsed
  threads := #[{ frames := .invoking theMethod args0 :: below }]
def below0 : List Frame := [.native { method := ⟨0, 0⟩, args := #[] }]
def about1 : State := aboutOver below0
def p0 : Program := .bare "" "" ""
def e0 : Env := launch0.env 0 0 0
theorem w_frames : about1.frames = Frame.invoking theMethod args0 :: below0 := rfl
set_option maxRecDepth 65536 in
theorem w_args : argsFit about1.vm theMethod args0 = true := by decide +kernel
set_option maxRecDepth 65536 in
theorem w_heap : heapFits about1 = true := by decide +kernel
set_option maxRecDepth 65536 in
theorem w_runnable : about1.curStatus? = some .runnable := by decide +kernel
set_option maxRecDepth 65536 in
theorem w_alone : about1.alone = true := by decide +kernel
set_option maxRecDepth 65536 in
theorem w_named : about1.methodNamed? x = some theMethod := by decide +kernel
set_option maxRecDepth 65536 in
theorem w_hears : about1.hears theMethod below0 = true := by decide +kernel
set_option maxRecDepth 65536 in
theorem w_ripe : about1.ripe theMethod args0 below0 = true := by decide +kernel
theorem w_running : about1.status = .running := rfl
set_option maxRecDepth 65536 in
theorem w_room : about1.hasRoom e0.platform room_1 = true :=
  launch0.hasRoom_least _ room_1 (by decide +kernel) (by decide +kernel) (by decide +kernel) (by decide +kernel) (by decide +kernel) (by decide +kernel)
theorem allAtoms_all (ts : List Jvm.Cond) (a : Array Jvm.Value) (st : Jvm.State) : (allAtoms ts).before a st = ts.all (fun c => c.before a st) := by
  induction ts with
  | nil => rfl
  | cons c t ih =>
    show (Jvm.Cond.and c (allAtoms t)).before a st = _
    rw [Jvm.Cond.before_and, ih, List.all_cons]
def words1 : List Jvm.Cond := Jvm.Cond.code x code maxLocals ret :: tables_1
/-- a 'code' word, met by the world's own term for the bytes: nothing is compared byte by byte -/
theorem code_word {y : MethodName} {bytes : ByteArray} {mx : Nat} {rt : Option FieldType} {a : Array Value} {s : State} {m : MethodId} {meth : Method} {c : Code} (h1 : s.methodNamed? y = some m) (h2 : s.vm.method? m = some meth) (h3 : meth.code = some c) (h4 : c.code = bytes)
    (h5 : (c.maxLocals == mx && c.exceptionTable.isEmpty && decide (c.maxStack ≤ mostOperands) && decide (meth.sig.returnType = rt) && !meth.locks && decide (parseMethodDescriptor y.desc = some meth.sig)) = true) : (Jvm.Cond.code y bytes mx rt).before a s = true := by
  simp only [Bool.and_eq_true, beq_iff_eq, Bool.not_eq_true', decide_eq_true_eq] at h5
  obtain ⟨⟨⟨⟨⟨g1, g2⟩, g3⟩, g4⟩, g5⟩, g6⟩ := h5
  simp [Cond.before, Cond.holds, Cond.value, h1, h2, h3, h4, g1, g2, g3, g4, g5, g6]
def isCode : Jvm.Cond → Bool
  | .code _ _ _ _ => true
  | _ => false
theorem all_split {L : List Jvm.Cond} {P : Jvm.Cond → Bool} (h1 : L.all (fun c => isCode c || P c) = true) (h2 : ∀ c ∈ L.filter isCode, P c = true) : L.all P = true := by
  refine List.all_eq_true.mpr fun c hc => ?_
  have h := List.all_eq_true.mp h1 c hc
  rcases Bool.eq_false_or_eq_true (isCode c) with hi | hi
  · exact h2 c (List.mem_filter.mpr ⟨hc, hi⟩)
  · simpa [hi] using h
set_option maxRecDepth 65536 in
theorem w_c0 : (Jvm.Cond.code x code maxLocals ret).before args0 about1 = true := code_word (m := ⟨1, 1⟩) (meth := k1m1) (c := k1c1) (by decide +kernel) rfl rfl rfl (by decide +kernel)
set_option maxRecDepth 65536 in
theorem w_c1 : (Jvm.Cond.code ({ cls := "com/example/stern_lock/sternlock/ShortFormCountPinLaw", name := "pickWord", desc := "(JI)J" } : Jvm.MethodName) method_3_code (3 : Nat) (Option.some Jvm.ClassFile.FieldType.long)).before args0 about1 = true := code_word (m := ⟨1, 2⟩) (meth := k1m2) (c := k1c2) (by decide +kernel) rfl rfl rfl (by decide +kernel)
set_option maxRecDepth 65536 in
theorem w_c2 : (Jvm.Cond.code ({ cls := "com/example/stern_lock/sternlock/ShortForm", name := "count", desc := "(J)I" } : Jvm.MethodName) prog_37_method_6_code (2 : Nat) (Option.some Jvm.ClassFile.FieldType.int)).before args0 about1 = true := code_word (m := ⟨2, 1⟩) (meth := k2m1) (c := k2c1) (by decide +kernel) rfl rfl rfl (by decide +kernel)
def codes1 : List Jvm.Cond := [Jvm.Cond.code x code maxLocals ret, Jvm.Cond.code ({ cls := "com/example/stern_lock/sternlock/ShortFormCountPinLaw", name := "pickWord", desc := "(JI)J" } : Jvm.MethodName) method_3_code (3 : Nat) (Option.some Jvm.ClassFile.FieldType.long), Jvm.Cond.code ({ cls := "com/example/stern_lock/sternlock/ShortForm", name := "count", desc := "(J)I" } : Jvm.MethodName) prog_37_method_6_code (2 : Nat) (Option.some Jvm.ClassFile.FieldType.int)]
set_option maxRecDepth 65536 in
theorem codes_eq : words1.filter isCode = codes1 := rfl
theorem w_codes : ∀ c ∈ words1.filter isCode, c.before args0 about1 = true := by
  rw [codes_eq]
  intro c hc
  simp only [codes1, List.mem_cons, List.not_mem_nil, or_false] at hc
  rcases hc with rfl | rfl | rfl
  · exact w_c0
  · exact w_c1
  · exact w_c2
set_option maxRecDepth 65536 in
theorem w_t1 : words1.all (fun c => isCode c || c.before args0 about1) = true := by decide +kernel
theorem w_tables : (allAtoms (Jvm.Cond.code x code maxLocals ret :: tables_1)).before args0 about1 = true := by
  rw [allAtoms_all]
  show words1.all (fun c => c.before args0 about1) = true
  refine all_split ?_ w_codes
  rw [w_t1]
set_option maxRecDepth 65536 in
theorem w_case : (Jvm.Cond.and given_1 narrow_1).before args0 about1 = true := by decide +kernel
theorem w_applies : (headSpec (Jvm.Cond.code x code maxLocals ret :: tables_1) room_1).applies x e0.platform about1 = true :=
  (Spec.applies_iff w_frames).mpr ⟨w_running, w_runnable, w_alone, w_named, w_hears, w_ripe, w_room, w_tables⟩
theorem atStart : AtStart classFile x code maxLocals ret World_1 tables_1 room_1 Calls_1 rest_1 Pre_1 launch0 p0 e0 about1 theMethod args0 below0 :=
  ⟨lists_1, trivial, launch0.admits_env _ _ _, launch0.least_env, fairChoices_fair.cas, fairChoices_fair.clock, w_frames, w_args, w_heap, w_applies, trivial, trivial, w_case⟩
end start1
theorem witness_1 : WitnessClaimed_1 := ⟨start1.p0, start1.e0, start1.about1, start1.theMethod, start1.args0, start1.below0, start1.atStart⟩
end Jvm.Pilot.@@N@@
