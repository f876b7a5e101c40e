import JvmDerived
import JvmDerived.Pilot.@@N@@Statement
import JvmDerived.Pilot.@@N@@Code
set_option linter.unusedVariables false
set_option linter.unusedSimpArgs false

namespace Jvm.RoadKit
open Sem ClassFile Op Lib Jvm.Stand Jvm.Free Jvm.LawKit
section New
variable {p : Program} {l : Launch} {e : Env} {R : Room} {s : State} {m : MethodId} {args : Array Value} {below : List Frame} {meth : Method} {c : Code} {T : State} {locs : List Loc} {cells slots : Nat}
theorem retI (X : Stand p l e R s m args below meth c T locs cells slots) (hx : p.tables.exec = Jvm.exec) {pc : Nat} {Ls : Array Slot} {z : Int32} {rest : List Value} (hret : meth.sig.returnType = some .int) (hd : decode c.code pc = .ok (.ireturn, 1)) {fs : List Frame}
    (hl : ∀ (f : JFrame) (acts : List Action), f.method = m → f.locked = none → f.entered = [] → (doReturn e (T.setTop f) acts (some (.int z))).1 = T.setFrames fs) : Steps p.tables e below (T.setTop (mkF m pc Ls (.int z :: rest))) (T.setFrames fs) := by
  have hm' : T.vm.method? m = some meth := X.method'
  have hn : narrow .int (.int z) = .int z := rfl
  show Steps p.tables e below (T.setTop { method := m, pc := pc, locals := Ls, stack := _ :: rest, locked := none }) _
  jvm_step X.here [X.here.top, hx, hd, hm', hret, hn]
  first | (intro acts; rw [hl _ acts rfl rfl rfl]) | rw [hl _ _ rfl rfl rfl]
  exact Steps.refl _
end New
end Jvm.RoadKit
namespace Jvm.Pilot.@@N@@
open Jvm Jvm.ClassFile Sem Op Lib Jvm.Free Jvm.Stand Jvm.LawKit Jvm.RoadKit Bundle Jvm.Pilot.@@N@@.Jvm.D
def fcombine (u0 : Int32) (u1 : Int32) : Int32 := (((((((u0 * (-1640531527 : Int32)) + u1) ^^^ ((((u0 * (-1640531527 : Int32)) + u1).toUInt32 >>> ((16 : Int32) &&& 31).toUInt32).toInt32)) * (-2048144789 : Int32)) ^^^ ((((((u0 * (-1640531527 : Int32)) + u1) ^^^ ((((u0 * (-1640531527 : Int32)) + u1).toUInt32 >>> ((16 : Int32) &&& 31).toUInt32).toInt32)) * (-2048144789 : Int32)).toUInt32 >>> ((13 : Int32) &&& 31).toUInt32).toInt32)) * (-1028477387 : Int32)) ^^^ ((((((((u0 * (-1640531527 : Int32)) + u1) ^^^ ((((u0 * (-1640531527 : Int32)) + u1).toUInt32 >>> ((16 : Int32) &&& 31).toUInt32).toInt32)) * (-2048144789 : Int32)) ^^^ ((((((u0 * (-1640531527 : Int32)) + u1) ^^^ ((((u0 * (-1640531527 : Int32)) + u1).toUInt32 >>> ((16 : Int32) &&& 31).toUInt32).toInt32)) * (-2048144789 : Int32)).toUInt32 >>> ((13 : Int32) &&& 31).toUInt32).toInt32)) * (-1028477387 : Int32)).toUInt32 >>> ((16 : Int32) &&& 31).toUInt32).toInt32))
def finverse (u0 : Int32) : Int32 := ((((u0 * ((2 : Int32) - (u0 * u0))) * ((2 : Int32) - (u0 * (u0 * ((2 : Int32) - (u0 * u0)))))) * ((2 : Int32) - (u0 * ((u0 * ((2 : Int32) - (u0 * u0))) * ((2 : Int32) - (u0 * (u0 * ((2 : Int32) - (u0 * u0))))))))) * ((2 : Int32) - (u0 * (((u0 * ((2 : Int32) - (u0 * u0))) * ((2 : Int32) - (u0 * (u0 * ((2 : Int32) - (u0 * u0)))))) * ((2 : Int32) - (u0 * ((u0 * ((2 : Int32) - (u0 * u0))) * ((2 : Int32) - (u0 * (u0 * ((2 : Int32) - (u0 * u0))))))))))))
def funmix (u0 : Int32) : Int32 := (((((u0 ^^^ ((u0.toUInt32 >>> ((16 : Int32) &&& 31).toUInt32).toInt32)) * (finverse (-1028477387 : Int32))) ^^^ (((((u0 ^^^ ((u0.toUInt32 >>> ((16 : Int32) &&& 31).toUInt32).toInt32)) * (finverse (-1028477387 : Int32))).toUInt32 >>> ((13 : Int32) &&& 31).toUInt32).toInt32) ^^^ ((((u0 ^^^ ((u0.toUInt32 >>> ((16 : Int32) &&& 31).toUInt32).toInt32)) * (finverse (-1028477387 : Int32))).toUInt32 >>> ((26 : Int32) &&& 31).toUInt32).toInt32))) * (finverse (-2048144789 : Int32))) ^^^ ((((((u0 ^^^ ((u0.toUInt32 >>> ((16 : Int32) &&& 31).toUInt32).toInt32)) * (finverse (-1028477387 : Int32))) ^^^ (((((u0 ^^^ ((u0.toUInt32 >>> ((16 : Int32) &&& 31).toUInt32).toInt32)) * (finverse (-1028477387 : Int32))).toUInt32 >>> ((13 : Int32) &&& 31).toUInt32).toInt32) ^^^ ((((u0 ^^^ ((u0.toUInt32 >>> ((16 : Int32) &&& 31).toUInt32).toInt32)) * (finverse (-1028477387 : Int32))).toUInt32 >>> ((26 : Int32) &&& 31).toUInt32).toInt32))) * (finverse (-2048144789 : Int32))).toUInt32 >>> ((16 : Int32) &&& 31).toUInt32).toInt32))
theorem ef_1 (m : MethodId) (x0 : Int32) (x1 : Int32) : entryFrame m #[(.int x0), (.int x1)] 3 = mkF m 0 #[.val (.int x0), .val (.int x1), .unset] [] := by first | (simp [entryFrame, mkF, argsToLocals, Value.category]; done) | rfl
theorem pn_com_example_tell_nothing_tellnothing_HashedTerm : plainName "com/example/tell_nothing/tellnothing/HashedTerm" = true := by first | (simp [plainName, overriddenIn]; done) | decide +kernel
theorem d1_0 : decode prog_1_method_5_code 0 = .ok (.iload_n 0, 1) := by decide +kernel
theorem d1_1 : decode prog_1_method_5_code 1 = .ok (.ldc 25, 2) := by decide +kernel
theorem d1_3 : decode prog_1_method_5_code 3 = .ok (.imul, 1) := by decide +kernel
theorem d1_4 : decode prog_1_method_5_code 4 = .ok (.iload_n 1, 1) := by decide +kernel
theorem d1_5 : decode prog_1_method_5_code 5 = .ok (.iadd, 1) := by decide +kernel
theorem d1_6 : decode prog_1_method_5_code 6 = .ok (.istore_n 2, 1) := by decide +kernel
theorem d1_7 : decode prog_1_method_5_code 7 = .ok (.iload_n 2, 1) := by decide +kernel
theorem d1_8 : decode prog_1_method_5_code 8 = .ok (.iload_n 2, 1) := by decide +kernel
theorem d1_9 : decode prog_1_method_5_code 9 = .ok (.bipush 16, 2) := by decide +kernel
theorem d1_11 : decode prog_1_method_5_code 11 = .ok (.iushr, 1) := by decide +kernel
theorem d1_12 : decode prog_1_method_5_code 12 = .ok (.ixor, 1) := by decide +kernel
theorem d1_13 : decode prog_1_method_5_code 13 = .ok (.istore_n 2, 1) := by decide +kernel
theorem d1_14 : decode prog_1_method_5_code 14 = .ok (.iload_n 2, 1) := by decide +kernel
theorem d1_15 : decode prog_1_method_5_code 15 = .ok (.ldc 26, 2) := by decide +kernel
theorem d1_17 : decode prog_1_method_5_code 17 = .ok (.imul, 1) := by decide +kernel
theorem d1_18 : decode prog_1_method_5_code 18 = .ok (.istore_n 2, 1) := by decide +kernel
theorem d1_19 : decode prog_1_method_5_code 19 = .ok (.iload_n 2, 1) := by decide +kernel
theorem d1_20 : decode prog_1_method_5_code 20 = .ok (.iload_n 2, 1) := by decide +kernel
theorem d1_21 : decode prog_1_method_5_code 21 = .ok (.bipush 13, 2) := by decide +kernel
theorem d1_23 : decode prog_1_method_5_code 23 = .ok (.iushr, 1) := by decide +kernel
theorem d1_24 : decode prog_1_method_5_code 24 = .ok (.ixor, 1) := by decide +kernel
theorem d1_25 : decode prog_1_method_5_code 25 = .ok (.istore_n 2, 1) := by decide +kernel
theorem d1_26 : decode prog_1_method_5_code 26 = .ok (.iload_n 2, 1) := by decide +kernel
theorem d1_27 : decode prog_1_method_5_code 27 = .ok (.ldc 27, 2) := by decide +kernel
theorem d1_29 : decode prog_1_method_5_code 29 = .ok (.imul, 1) := by decide +kernel
theorem d1_30 : decode prog_1_method_5_code 30 = .ok (.istore_n 2, 1) := by decide +kernel
theorem d1_31 : decode prog_1_method_5_code 31 = .ok (.iload_n 2, 1) := by decide +kernel
theorem d1_32 : decode prog_1_method_5_code 32 = .ok (.iload_n 2, 1) := by decide +kernel
theorem d1_33 : decode prog_1_method_5_code 33 = .ok (.bipush 16, 2) := by decide +kernel
theorem d1_35 : decode prog_1_method_5_code 35 = .ok (.iushr, 1) := by decide +kernel
theorem d1_36 : decode prog_1_method_5_code 36 = .ok (.ixor, 1) := by decide +kernel
theorem d1_37 : decode prog_1_method_5_code 37 = .ok (.istore_n 2, 1) := by decide +kernel
theorem d1_38 : decode prog_1_method_5_code 38 = .ok (.iload_n 2, 1) := by decide +kernel
theorem d1_39 : decode prog_1_method_5_code 39 = .ok (.ireturn, 1) := by decide +kernel
theorem ef_2 (m : MethodId) (x0 : Int32) : entryFrame m #[(.int x0)] 2 = mkF m 0 #[.val (.int x0), .unset] [] := by first | (simp [entryFrame, mkF, argsToLocals, Value.category]; done) | rfl
theorem pn_com_example_tell_nothing_tellnothing_HashedTermCombinePinLaw : plainName "com/example/tell_nothing/tellnothing/HashedTermCombinePinLaw" = true := by first | (simp [plainName, overriddenIn]; done) | decide +kernel
theorem d2_0 : decode method_2_code 0 = .ok (.iload_n 0, 1) := by decide +kernel
theorem d2_1 : decode method_2_code 1 = .ok (.istore_n 1, 1) := by decide +kernel
theorem d2_2 : decode method_2_code 2 = .ok (.iload_n 1, 1) := by decide +kernel
theorem d2_3 : decode method_2_code 3 = .ok (.iconst 2, 1) := by decide +kernel
theorem d2_4 : decode method_2_code 4 = .ok (.iload_n 0, 1) := by decide +kernel
theorem d2_5 : decode method_2_code 5 = .ok (.iload_n 1, 1) := by decide +kernel
theorem d2_6 : decode method_2_code 6 = .ok (.imul, 1) := by decide +kernel
theorem d2_7 : decode method_2_code 7 = .ok (.isub, 1) := by decide +kernel
theorem d2_8 : decode method_2_code 8 = .ok (.imul, 1) := by decide +kernel
theorem d2_9 : decode method_2_code 9 = .ok (.istore_n 1, 1) := by decide +kernel
theorem d2_10 : decode method_2_code 10 = .ok (.iload_n 1, 1) := by decide +kernel
theorem d2_11 : decode method_2_code 11 = .ok (.iconst 2, 1) := by decide +kernel
theorem d2_12 : decode method_2_code 12 = .ok (.iload_n 0, 1) := by decide +kernel
theorem d2_13 : decode method_2_code 13 = .ok (.iload_n 1, 1) := by decide +kernel
theorem d2_14 : decode method_2_code 14 = .ok (.imul, 1) := by decide +kernel
theorem d2_15 : decode method_2_code 15 = .ok (.isub, 1) := by decide +kernel
theorem d2_16 : decode method_2_code 16 = .ok (.imul, 1) := by decide +kernel
theorem d2_17 : decode method_2_code 17 = .ok (.istore_n 1, 1) := by decide +kernel
theorem d2_18 : decode method_2_code 18 = .ok (.iload_n 1, 1) := by decide +kernel
theorem d2_19 : decode method_2_code 19 = .ok (.iconst 2, 1) := by decide +kernel
theorem d2_20 : decode method_2_code 20 = .ok (.iload_n 0, 1) := by decide +kernel
theorem d2_21 : decode method_2_code 21 = .ok (.iload_n 1, 1) := by decide +kernel
theorem d2_22 : decode method_2_code 22 = .ok (.imul, 1) := by decide +kernel
theorem d2_23 : decode method_2_code 23 = .ok (.isub, 1) := by decide +kernel
theorem d2_24 : decode method_2_code 24 = .ok (.imul, 1) := by decide +kernel
theorem d2_25 : decode method_2_code 25 = .ok (.istore_n 1, 1) := by decide +kernel
theorem d2_26 : decode method_2_code 26 = .ok (.iload_n 1, 1) := by decide +kernel
theorem d2_27 : decode method_2_code 27 = .ok (.iconst 2, 1) := by decide +kernel
theorem d2_28 : decode method_2_code 28 = .ok (.iload_n 0, 1) := by decide +kernel
theorem d2_29 : decode method_2_code 29 = .ok (.iload_n 1, 1) := by decide +kernel
theorem d2_30 : decode method_2_code 30 = .ok (.imul, 1) := by decide +kernel
theorem d2_31 : decode method_2_code 31 = .ok (.isub, 1) := by decide +kernel
theorem d2_32 : decode method_2_code 32 = .ok (.imul, 1) := by decide +kernel
theorem d2_33 : decode method_2_code 33 = .ok (.istore_n 1, 1) := by decide +kernel
theorem d2_34 : decode method_2_code 34 = .ok (.iload_n 1, 1) := by decide +kernel
theorem d2_35 : decode method_2_code 35 = .ok (.ireturn, 1) := by decide +kernel
theorem ef_3 (m : MethodId) (x0 : Int32) : entryFrame m #[(.int x0)] 2 = mkF m 0 #[.val (.int x0), .unset] [] := by first | (simp [entryFrame, mkF, argsToLocals, Value.category]; done) | rfl
theorem d3_0 : decode method_3_code 0 = .ok (.iload_n 0, 1) := by decide +kernel
theorem d3_1 : decode method_3_code 1 = .ok (.istore_n 1, 1) := by decide +kernel
theorem d3_2 : decode method_3_code 2 = .ok (.iload_n 1, 1) := by decide +kernel
theorem d3_3 : decode method_3_code 3 = .ok (.iload_n 1, 1) := by decide +kernel
theorem d3_4 : decode method_3_code 4 = .ok (.bipush 16, 2) := by decide +kernel
theorem d3_6 : decode method_3_code 6 = .ok (.iushr, 1) := by decide +kernel
theorem d3_7 : decode method_3_code 7 = .ok (.ixor, 1) := by decide +kernel
theorem d3_8 : decode method_3_code 8 = .ok (.istore_n 1, 1) := by decide +kernel
theorem d3_9 : decode method_3_code 9 = .ok (.iload_n 1, 1) := by decide +kernel
theorem d3_10 : decode method_3_code 10 = .ok (.ldc 7, 2) := by decide +kernel
theorem d3_12 : decode method_3_code 12 = .ok (.invokestatic 8, 3) := by decide +kernel
theorem pd_oIcI : parseMethodDescriptor "(I)I" = some ⟨[.int], some .int⟩ := by decide +kernel
theorem d3_15 : decode method_3_code 15 = .ok (.imul, 1) := by decide +kernel
theorem d3_16 : decode method_3_code 16 = .ok (.istore_n 1, 1) := by decide +kernel
theorem d3_17 : decode method_3_code 17 = .ok (.iload_n 1, 1) := by decide +kernel
theorem d3_18 : decode method_3_code 18 = .ok (.iload_n 1, 1) := by decide +kernel
theorem d3_19 : decode method_3_code 19 = .ok (.bipush 13, 2) := by decide +kernel
theorem d3_21 : decode method_3_code 21 = .ok (.iushr, 1) := by decide +kernel
theorem d3_22 : decode method_3_code 22 = .ok (.iload_n 1, 1) := by decide +kernel
theorem d3_23 : decode method_3_code 23 = .ok (.bipush 26, 2) := by decide +kernel
theorem d3_25 : decode method_3_code 25 = .ok (.iushr, 1) := by decide +kernel
theorem d3_26 : decode method_3_code 26 = .ok (.ixor, 1) := by decide +kernel
theorem d3_27 : decode method_3_code 27 = .ok (.ixor, 1) := by decide +kernel
theorem d3_28 : decode method_3_code 28 = .ok (.istore_n 1, 1) := by decide +kernel
theorem d3_29 : decode method_3_code 29 = .ok (.iload_n 1, 1) := by decide +kernel
theorem d3_30 : decode method_3_code 30 = .ok (.ldc 14, 2) := by decide +kernel
theorem d3_32 : decode method_3_code 32 = .ok (.invokestatic 8, 3) := by decide +kernel
theorem d3_35 : decode method_3_code 35 = .ok (.imul, 1) := by decide +kernel
theorem d3_36 : decode method_3_code 36 = .ok (.istore_n 1, 1) := by decide +kernel
theorem d3_37 : decode method_3_code 37 = .ok (.iload_n 1, 1) := by decide +kernel
theorem d3_38 : decode method_3_code 38 = .ok (.iload_n 1, 1) := by decide +kernel
theorem d3_39 : decode method_3_code 39 = .ok (.bipush 16, 2) := by decide +kernel
theorem d3_41 : decode method_3_code 41 = .ok (.iushr, 1) := by decide +kernel
theorem d3_42 : decode method_3_code 42 = .ok (.ixor, 1) := by decide +kernel
theorem d3_43 : decode method_3_code 43 = .ok (.istore_n 1, 1) := by decide +kernel
theorem d3_44 : decode method_3_code 44 = .ok (.iload_n 1, 1) := by decide +kernel
theorem d3_45 : decode method_3_code 45 = .ok (.ireturn, 1) := by decide +kernel
theorem ef_0 (m : MethodId) (x0 : Int32) (x1 : Int32) : entryFrame m #[(.int x0), (.int x1)] maxLocals = mkF m 0 #[.val (.int x0), .val (.int x1), .unset, .unset] [] := by first | (simp [entryFrame, mkF, argsToLocals, Value.category, maxLocals]; done) | rfl
theorem pd_oIIcI : parseMethodDescriptor "(II)I" = some ⟨[.int, .int], some .int⟩ := by decide +kernel
def Q1 (Z : State) (u0 : Int32) (u1 : Int32) (h0 : Heap) (n0 : Nat) (v : Option Value) (h : Heap) (L : List Loc) : Prop := v = some (.int (fcombine u0 u1)) ∧ Fr n0 L ∧ h = h0
set_option maxRecDepth 65536 in
set_option maxHeartbeats 40000000 in
theorem rm1 (l : Launch) (Z : State) (a0 : Array Value) (hw : ∀ d ∈ tables_1, d.before a0 Z = true) (ws : List Jvm.Cond) (u0 : Int32) (u1 : Int32) (h0 : Heap) (n0 : Nat) (Z0 : n0 ≤ h0.size)  :
    MetFree l (⟨"com/example/tell_nothing/tellnothing/HashedTerm", "combine", "(II)I"⟩ : MethodName) (head1 (Jvm.Cond.code (⟨"com/example/tell_nothing/tellnothing/HashedTerm", "combine", "(II)I"⟩ : MethodName) prog_1_method_5_code 3 (some .int) :: ws) ({ frames := 0, cells := 0, slots := 0, locals := 0 } : Room)) (fun a U => a = #[(.int u0), (.int u1)] ∧ Z.Warmed39 U.vm ∧ U.heap = h0) (fun _ _ _ _ _ => True) (fun _ U o U' => ∃ v L, o = .returned v ∧ Q1 Z u0 u1 h0 n0 v U'.heap L ∧ FrameEnd U o U' L ({ frames := 0, cells := 0, slots := 0, locals := 0 } : Room).cells ({ frames := 0, cells := 0, slots := 0, locals := 0 } : Room).slots) := by
  refine MetFree.of_bodySF (plainFor_of_name pn_com_example_tell_nothing_tellnothing_HashedTerm) hisR ?_
  intro p e s m args0 below meth c s₁ Bd hml0 hP hK
  obtain ⟨rfl, hZ, hh⟩ := hP
  have hx := Bd.exec
  have hby := Bd.bytes
  have hml : c.maxLocals = 3 := hml0
  have hown : s.vm.findClass "com/example/tell_nothing/tellnothing/HashedTerm" = some m.cls := findClass_of_methodNamed Bd.named
  have hnm := (name_of_methodNamed Bd.named Bd.method).1
  have X0 : Stand p l e ({ frames := 0, cells := 0, slots := 0, locals := 0 } : Room) s m #[(.int u0), (.int u1)] below meth c s₁ [] 0 0 := Stand.of_body Bd
  have e0 : s₁.heap = h0 := by rw [← hh, Bd.state]; rfl
  have N0 := Fr.nil n0
  have pre0 : ∀ t, Steps p.tables e below (s₁.setTop (mkF m 0 #[.val (.int u0), .val (.int u1), .unset] [])) t → Steps p.tables e below (s₁.setTop (entryFrame m #[(.int u0), (.int u1)] 3)) t := fun t k => castTop (ef_1 m u0 u1) k
  have s1 : ∀ t, Steps p.tables e below (s₁.setTop (mkF m 39 #[.val (.int u0), .val (.int u1), .val (.int (((((((u0 * (-1640531527 : Int32)) + u1) ^^^ ((((u0 * (-1640531527 : Int32)) + u1).toUInt32 >>> ((16 : Int32) &&& 31).toUInt32).toInt32)) * (-2048144789 : Int32)) ^^^ ((((((u0 * (-1640531527 : Int32)) + u1) ^^^ ((((u0 * (-1640531527 : Int32)) + u1).toUInt32 >>> ((16 : Int32) &&& 31).toUInt32).toInt32)) * (-2048144789 : Int32)).toUInt32 >>> ((13 : Int32) &&& 31).toUInt32).toInt32)) * (-1028477387 : Int32)) ^^^ ((((((((u0 * (-1640531527 : Int32)) + u1) ^^^ ((((u0 * (-1640531527 : Int32)) + u1).toUInt32 >>> ((16 : Int32) &&& 31).toUInt32).toInt32)) * (-2048144789 : Int32)) ^^^ ((((((u0 * (-1640531527 : Int32)) + u1) ^^^ ((((u0 * (-1640531527 : Int32)) + u1).toUInt32 >>> ((16 : Int32) &&& 31).toUInt32).toInt32)) * (-2048144789 : Int32)).toUInt32 >>> ((13 : Int32) &&& 31).toUInt32).toInt32)) * (-1028477387 : Int32)).toUInt32 >>> ((16 : Int32) &&& 31).toUInt32).toInt32)))] [(.int (((((((u0 * (-1640531527 : Int32)) + u1) ^^^ ((((u0 * (-1640531527 : Int32)) + u1).toUInt32 >>> ((16 : Int32) &&& 31).toUInt32).toInt32)) * (-2048144789 : Int32)) ^^^ ((((((u0 * (-1640531527 : Int32)) + u1) ^^^ ((((u0 * (-1640531527 : Int32)) + u1).toUInt32 >>> ((16 : Int32) &&& 31).toUInt32).toInt32)) * (-2048144789 : Int32)).toUInt32 >>> ((13 : Int32) &&& 31).toUInt32).toInt32)) * (-1028477387 : Int32)) ^^^ ((((((((u0 * (-1640531527 : Int32)) + u1) ^^^ ((((u0 * (-1640531527 : Int32)) + u1).toUInt32 >>> ((16 : Int32) &&& 31).toUInt32).toInt32)) * (-2048144789 : Int32)) ^^^ ((((((u0 * (-1640531527 : Int32)) + u1) ^^^ ((((u0 * (-1640531527 : Int32)) + u1).toUInt32 >>> ((16 : Int32) &&& 31).toUInt32).toInt32)) * (-2048144789 : Int32)).toUInt32 >>> ((13 : Int32) &&& 31).toUInt32).toInt32)) * (-1028477387 : Int32)).toUInt32 >>> ((16 : Int32) &&& 31).toUInt32).toInt32)))])) t → Steps p.tables e below (s₁.setTop (mkF m 0 #[.val (.int u0), .val (.int u1), .unset] [])) t := by
    intro t kt
    refine XS.iloadN X0.here hx rfl (hb hby d1_0) rfl ?_
    show Steps p.tables e below (s₁.setTop (mkF m 1 #[.val (.int u0), .val (.int u1), .unset] [(.int u0)])) t
    refine X0.ldcInt hx hown (mvT hZ (hw _ (List.mem_of_getElem? (i := 4) rfl))) (g := (mkF m 1 #[.val (.int u0), .val (.int u1), .unset] [(.int u0)])) rfl (hb hby d1_1) _ ?_
    show Steps p.tables e below (s₁.setTop (mkF m 3 #[.val (.int u0), .val (.int u1), .unset] [(.int (-1640531527 : Int32)), (.int u0)])) t
    refine XS.imul X0.here hx rfl (hb hby d1_3) rfl ?_
    show Steps p.tables e below (s₁.setTop (mkF m 4 #[.val (.int u0), .val (.int u1), .unset] [(.int (u0 * (-1640531527 : Int32)))])) t
    refine XS.iloadN X0.here hx rfl (hb hby d1_4) rfl ?_
    show Steps p.tables e below (s₁.setTop (mkF m 5 #[.val (.int u0), .val (.int u1), .unset] [(.int u1), (.int (u0 * (-1640531527 : Int32)))])) t
    refine XS.iadd X0.here hx rfl (hb hby d1_5) rfl ?_
    show Steps p.tables e below (s₁.setTop (mkF m 6 #[.val (.int u0), .val (.int u1), .unset] [(.int ((u0 * (-1640531527 : Int32)) + u1))])) t
    refine XS.istoreN X0.here hx rfl (hb hby d1_6) rfl (l' := #[.val (.int u0), .val (.int u1), .val (.int ((u0 * (-1640531527 : Int32)) + u1))]) rfl ?_
    show Steps p.tables e below (s₁.setTop (mkF m 7 #[.val (.int u0), .val (.int u1), .val (.int ((u0 * (-1640531527 : Int32)) + u1))] [])) t
    refine XS.iloadN X0.here hx rfl (hb hby d1_7) rfl ?_
    show Steps p.tables e below (s₁.setTop (mkF m 8 #[.val (.int u0), .val (.int u1), .val (.int ((u0 * (-1640531527 : Int32)) + u1))] [(.int ((u0 * (-1640531527 : Int32)) + u1))])) t
    refine XS.iloadN X0.here hx rfl (hb hby d1_8) rfl ?_
    show Steps p.tables e below (s₁.setTop (mkF m 9 #[.val (.int u0), .val (.int u1), .val (.int ((u0 * (-1640531527 : Int32)) + u1))] [(.int ((u0 * (-1640531527 : Int32)) + u1)), (.int ((u0 * (-1640531527 : Int32)) + u1))])) t
    refine XS.bipush X0.here hx rfl (hb hby d1_9) ?_
    show Steps p.tables e below (s₁.setTop (mkF m 11 #[.val (.int u0), .val (.int u1), .val (.int ((u0 * (-1640531527 : Int32)) + u1))] [(.int (16 : Int32)), (.int ((u0 * (-1640531527 : Int32)) + u1)), (.int ((u0 * (-1640531527 : Int32)) + u1))])) t
    refine XS.iushr X0.here hx rfl (hb hby d1_11) rfl ?_
    show Steps p.tables e below (s₁.setTop (mkF m 12 #[.val (.int u0), .val (.int u1), .val (.int ((u0 * (-1640531527 : Int32)) + u1))] [(.int ((((u0 * (-1640531527 : Int32)) + u1).toUInt32 >>> ((16 : Int32) &&& 31).toUInt32).toInt32)), (.int ((u0 * (-1640531527 : Int32)) + u1))])) t
    refine XS.ixor X0.here hx rfl (hb hby d1_12) rfl ?_
    show Steps p.tables e below (s₁.setTop (mkF m 13 #[.val (.int u0), .val (.int u1), .val (.int ((u0 * (-1640531527 : Int32)) + u1))] [(.int (((u0 * (-1640531527 : Int32)) + u1) ^^^ ((((u0 * (-1640531527 : Int32)) + u1).toUInt32 >>> ((16 : Int32) &&& 31).toUInt32).toInt32)))])) t
    refine XS.istoreN X0.here hx rfl (hb hby d1_13) rfl (l' := #[.val (.int u0), .val (.int u1), .val (.int (((u0 * (-1640531527 : Int32)) + u1) ^^^ ((((u0 * (-1640531527 : Int32)) + u1).toUInt32 >>> ((16 : Int32) &&& 31).toUInt32).toInt32)))]) rfl ?_
    show Steps p.tables e below (s₁.setTop (mkF m 14 #[.val (.int u0), .val (.int u1), .val (.int (((u0 * (-1640531527 : Int32)) + u1) ^^^ ((((u0 * (-1640531527 : Int32)) + u1).toUInt32 >>> ((16 : Int32) &&& 31).toUInt32).toInt32)))] [])) t
    refine XS.iloadN X0.here hx rfl (hb hby d1_14) rfl ?_
    show Steps p.tables e below (s₁.setTop (mkF m 15 #[.val (.int u0), .val (.int u1), .val (.int (((u0 * (-1640531527 : Int32)) + u1) ^^^ ((((u0 * (-1640531527 : Int32)) + u1).toUInt32 >>> ((16 : Int32) &&& 31).toUInt32).toInt32)))] [(.int (((u0 * (-1640531527 : Int32)) + u1) ^^^ ((((u0 * (-1640531527 : Int32)) + u1).toUInt32 >>> ((16 : Int32) &&& 31).toUInt32).toInt32)))])) t
    refine X0.ldcInt hx hown (mvT hZ (hw _ (List.mem_of_getElem? (i := 5) rfl))) (g := (mkF m 15 #[.val (.int u0), .val (.int u1), .val (.int (((u0 * (-1640531527 : Int32)) + u1) ^^^ ((((u0 * (-1640531527 : Int32)) + u1).toUInt32 >>> ((16 : Int32) &&& 31).toUInt32).toInt32)))] [(.int (((u0 * (-1640531527 : Int32)) + u1) ^^^ ((((u0 * (-1640531527 : Int32)) + u1).toUInt32 >>> ((16 : Int32) &&& 31).toUInt32).toInt32)))])) rfl (hb hby d1_15) _ ?_
    show Steps p.tables e below (s₁.setTop (mkF m 17 #[.val (.int u0), .val (.int u1), .val (.int (((u0 * (-1640531527 : Int32)) + u1) ^^^ ((((u0 * (-1640531527 : Int32)) + u1).toUInt32 >>> ((16 : Int32) &&& 31).toUInt32).toInt32)))] [(.int (-2048144789 : Int32)), (.int (((u0 * (-1640531527 : Int32)) + u1) ^^^ ((((u0 * (-1640531527 : Int32)) + u1).toUInt32 >>> ((16 : Int32) &&& 31).toUInt32).toInt32)))])) t
    refine XS.imul X0.here hx rfl (hb hby d1_17) rfl ?_
    show Steps p.tables e below (s₁.setTop (mkF m 18 #[.val (.int u0), .val (.int u1), .val (.int (((u0 * (-1640531527 : Int32)) + u1) ^^^ ((((u0 * (-1640531527 : Int32)) + u1).toUInt32 >>> ((16 : Int32) &&& 31).toUInt32).toInt32)))] [(.int ((((u0 * (-1640531527 : Int32)) + u1) ^^^ ((((u0 * (-1640531527 : Int32)) + u1).toUInt32 >>> ((16 : Int32) &&& 31).toUInt32).toInt32)) * (-2048144789 : Int32)))])) t
    refine XS.istoreN X0.here hx rfl (hb hby d1_18) rfl (l' := #[.val (.int u0), .val (.int u1), .val (.int ((((u0 * (-1640531527 : Int32)) + u1) ^^^ ((((u0 * (-1640531527 : Int32)) + u1).toUInt32 >>> ((16 : Int32) &&& 31).toUInt32).toInt32)) * (-2048144789 : Int32)))]) rfl ?_
    show Steps p.tables e below (s₁.setTop (mkF m 19 #[.val (.int u0), .val (.int u1), .val (.int ((((u0 * (-1640531527 : Int32)) + u1) ^^^ ((((u0 * (-1640531527 : Int32)) + u1).toUInt32 >>> ((16 : Int32) &&& 31).toUInt32).toInt32)) * (-2048144789 : Int32)))] [])) t
    refine XS.iloadN X0.here hx rfl (hb hby d1_19) rfl ?_
    show Steps p.tables e below (s₁.setTop (mkF m 20 #[.val (.int u0), .val (.int u1), .val (.int ((((u0 * (-1640531527 : Int32)) + u1) ^^^ ((((u0 * (-1640531527 : Int32)) + u1).toUInt32 >>> ((16 : Int32) &&& 31).toUInt32).toInt32)) * (-2048144789 : Int32)))] [(.int ((((u0 * (-1640531527 : Int32)) + u1) ^^^ ((((u0 * (-1640531527 : Int32)) + u1).toUInt32 >>> ((16 : Int32) &&& 31).toUInt32).toInt32)) * (-2048144789 : Int32)))])) t
    refine XS.iloadN X0.here hx rfl (hb hby d1_20) rfl ?_
    show Steps p.tables e below (s₁.setTop (mkF m 21 #[.val (.int u0), .val (.int u1), .val (.int ((((u0 * (-1640531527 : Int32)) + u1) ^^^ ((((u0 * (-1640531527 : Int32)) + u1).toUInt32 >>> ((16 : Int32) &&& 31).toUInt32).toInt32)) * (-2048144789 : Int32)))] [(.int ((((u0 * (-1640531527 : Int32)) + u1) ^^^ ((((u0 * (-1640531527 : Int32)) + u1).toUInt32 >>> ((16 : Int32) &&& 31).toUInt32).toInt32)) * (-2048144789 : Int32))), (.int ((((u0 * (-1640531527 : Int32)) + u1) ^^^ ((((u0 * (-1640531527 : Int32)) + u1).toUInt32 >>> ((16 : Int32) &&& 31).toUInt32).toInt32)) * (-2048144789 : Int32)))])) t
    refine XS.bipush X0.here hx rfl (hb hby d1_21) ?_
    show Steps p.tables e below (s₁.setTop (mkF m 23 #[.val (.int u0), .val (.int u1), .val (.int ((((u0 * (-1640531527 : Int32)) + u1) ^^^ ((((u0 * (-1640531527 : Int32)) + u1).toUInt32 >>> ((16 : Int32) &&& 31).toUInt32).toInt32)) * (-2048144789 : Int32)))] [(.int (13 : Int32)), (.int ((((u0 * (-1640531527 : Int32)) + u1) ^^^ ((((u0 * (-1640531527 : Int32)) + u1).toUInt32 >>> ((16 : Int32) &&& 31).toUInt32).toInt32)) * (-2048144789 : Int32))), (.int ((((u0 * (-1640531527 : Int32)) + u1) ^^^ ((((u0 * (-1640531527 : Int32)) + u1).toUInt32 >>> ((16 : Int32) &&& 31).toUInt32).toInt32)) * (-2048144789 : Int32)))])) t
    refine XS.iushr X0.here hx rfl (hb hby d1_23) rfl ?_
    show Steps p.tables e below (s₁.setTop (mkF m 24 #[.val (.int u0), .val (.int u1), .val (.int ((((u0 * (-1640531527 : Int32)) + u1) ^^^ ((((u0 * (-1640531527 : Int32)) + u1).toUInt32 >>> ((16 : Int32) &&& 31).toUInt32).toInt32)) * (-2048144789 : Int32)))] [(.int ((((((u0 * (-1640531527 : Int32)) + u1) ^^^ ((((u0 * (-1640531527 : Int32)) + u1).toUInt32 >>> ((16 : Int32) &&& 31).toUInt32).toInt32)) * (-2048144789 : Int32)).toUInt32 >>> ((13 : Int32) &&& 31).toUInt32).toInt32)), (.int ((((u0 * (-1640531527 : Int32)) + u1) ^^^ ((((u0 * (-1640531527 : Int32)) + u1).toUInt32 >>> ((16 : Int32) &&& 31).toUInt32).toInt32)) * (-2048144789 : Int32)))])) t
    refine XS.ixor X0.here hx rfl (hb hby d1_24) rfl ?_
    show Steps p.tables e below (s₁.setTop (mkF m 25 #[.val (.int u0), .val (.int u1), .val (.int ((((u0 * (-1640531527 : Int32)) + u1) ^^^ ((((u0 * (-1640531527 : Int32)) + u1).toUInt32 >>> ((16 : Int32) &&& 31).toUInt32).toInt32)) * (-2048144789 : Int32)))] [(.int (((((u0 * (-1640531527 : Int32)) + u1) ^^^ ((((u0 * (-1640531527 : Int32)) + u1).toUInt32 >>> ((16 : Int32) &&& 31).toUInt32).toInt32)) * (-2048144789 : Int32)) ^^^ ((((((u0 * (-1640531527 : Int32)) + u1) ^^^ ((((u0 * (-1640531527 : Int32)) + u1).toUInt32 >>> ((16 : Int32) &&& 31).toUInt32).toInt32)) * (-2048144789 : Int32)).toUInt32 >>> ((13 : Int32) &&& 31).toUInt32).toInt32)))])) t
    refine XS.istoreN X0.here hx rfl (hb hby d1_25) rfl (l' := #[.val (.int u0), .val (.int u1), .val (.int (((((u0 * (-1640531527 : Int32)) + u1) ^^^ ((((u0 * (-1640531527 : Int32)) + u1).toUInt32 >>> ((16 : Int32) &&& 31).toUInt32).toInt32)) * (-2048144789 : Int32)) ^^^ ((((((u0 * (-1640531527 : Int32)) + u1) ^^^ ((((u0 * (-1640531527 : Int32)) + u1).toUInt32 >>> ((16 : Int32) &&& 31).toUInt32).toInt32)) * (-2048144789 : Int32)).toUInt32 >>> ((13 : Int32) &&& 31).toUInt32).toInt32)))]) rfl ?_
    show Steps p.tables e below (s₁.setTop (mkF m 26 #[.val (.int u0), .val (.int u1), .val (.int (((((u0 * (-1640531527 : Int32)) + u1) ^^^ ((((u0 * (-1640531527 : Int32)) + u1).toUInt32 >>> ((16 : Int32) &&& 31).toUInt32).toInt32)) * (-2048144789 : Int32)) ^^^ ((((((u0 * (-1640531527 : Int32)) + u1) ^^^ ((((u0 * (-1640531527 : Int32)) + u1).toUInt32 >>> ((16 : Int32) &&& 31).toUInt32).toInt32)) * (-2048144789 : Int32)).toUInt32 >>> ((13 : Int32) &&& 31).toUInt32).toInt32)))] [])) t
    refine XS.iloadN X0.here hx rfl (hb hby d1_26) rfl ?_
    show Steps p.tables e below (s₁.setTop (mkF m 27 #[.val (.int u0), .val (.int u1), .val (.int (((((u0 * (-1640531527 : Int32)) + u1) ^^^ ((((u0 * (-1640531527 : Int32)) + u1).toUInt32 >>> ((16 : Int32) &&& 31).toUInt32).toInt32)) * (-2048144789 : Int32)) ^^^ ((((((u0 * (-1640531527 : Int32)) + u1) ^^^ ((((u0 * (-1640531527 : Int32)) + u1).toUInt32 >>> ((16 : Int32) &&& 31).toUInt32).toInt32)) * (-2048144789 : Int32)).toUInt32 >>> ((13 : Int32) &&& 31).toUInt32).toInt32)))] [(.int (((((u0 * (-1640531527 : Int32)) + u1) ^^^ ((((u0 * (-1640531527 : Int32)) + u1).toUInt32 >>> ((16 : Int32) &&& 31).toUInt32).toInt32)) * (-2048144789 : Int32)) ^^^ ((((((u0 * (-1640531527 : Int32)) + u1) ^^^ ((((u0 * (-1640531527 : Int32)) + u1).toUInt32 >>> ((16 : Int32) &&& 31).toUInt32).toInt32)) * (-2048144789 : Int32)).toUInt32 >>> ((13 : Int32) &&& 31).toUInt32).toInt32)))])) t
    refine X0.ldcInt hx hown (mvT hZ (hw _ (List.mem_of_getElem? (i := 6) rfl))) (g := (mkF m 27 #[.val (.int u0), .val (.int u1), .val (.int (((((u0 * (-1640531527 : Int32)) + u1) ^^^ ((((u0 * (-1640531527 : Int32)) + u1).toUInt32 >>> ((16 : Int32) &&& 31).toUInt32).toInt32)) * (-2048144789 : Int32)) ^^^ ((((((u0 * (-1640531527 : Int32)) + u1) ^^^ ((((u0 * (-1640531527 : Int32)) + u1).toUInt32 >>> ((16 : Int32) &&& 31).toUInt32).toInt32)) * (-2048144789 : Int32)).toUInt32 >>> ((13 : Int32) &&& 31).toUInt32).toInt32)))] [(.int (((((u0 * (-1640531527 : Int32)) + u1) ^^^ ((((u0 * (-1640531527 : Int32)) + u1).toUInt32 >>> ((16 : Int32) &&& 31).toUInt32).toInt32)) * (-2048144789 : Int32)) ^^^ ((((((u0 * (-1640531527 : Int32)) + u1) ^^^ ((((u0 * (-1640531527 : Int32)) + u1).toUInt32 >>> ((16 : Int32) &&& 31).toUInt32).toInt32)) * (-2048144789 : Int32)).toUInt32 >>> ((13 : Int32) &&& 31).toUInt32).toInt32)))])) rfl (hb hby d1_27) _ ?_
    show Steps p.tables e below (s₁.setTop (mkF m 29 #[.val (.int u0), .val (.int u1), .val (.int (((((u0 * (-1640531527 : Int32)) + u1) ^^^ ((((u0 * (-1640531527 : Int32)) + u1).toUInt32 >>> ((16 : Int32) &&& 31).toUInt32).toInt32)) * (-2048144789 : Int32)) ^^^ ((((((u0 * (-1640531527 : Int32)) + u1) ^^^ ((((u0 * (-1640531527 : Int32)) + u1).toUInt32 >>> ((16 : Int32) &&& 31).toUInt32).toInt32)) * (-2048144789 : Int32)).toUInt32 >>> ((13 : Int32) &&& 31).toUInt32).toInt32)))] [(.int (-1028477387 : Int32)), (.int (((((u0 * (-1640531527 : Int32)) + u1) ^^^ ((((u0 * (-1640531527 : Int32)) + u1).toUInt32 >>> ((16 : Int32) &&& 31).toUInt32).toInt32)) * (-2048144789 : Int32)) ^^^ ((((((u0 * (-1640531527 : Int32)) + u1) ^^^ ((((u0 * (-1640531527 : Int32)) + u1).toUInt32 >>> ((16 : Int32) &&& 31).toUInt32).toInt32)) * (-2048144789 : Int32)).toUInt32 >>> ((13 : Int32) &&& 31).toUInt32).toInt32)))])) t
    refine XS.imul X0.here hx rfl (hb hby d1_29) rfl ?_
    show Steps p.tables e below (s₁.setTop (mkF m 30 #[.val (.int u0), .val (.int u1), .val (.int (((((u0 * (-1640531527 : Int32)) + u1) ^^^ ((((u0 * (-1640531527 : Int32)) + u1).toUInt32 >>> ((16 : Int32) &&& 31).toUInt32).toInt32)) * (-2048144789 : Int32)) ^^^ ((((((u0 * (-1640531527 : Int32)) + u1) ^^^ ((((u0 * (-1640531527 : Int32)) + u1).toUInt32 >>> ((16 : Int32) &&& 31).toUInt32).toInt32)) * (-2048144789 : Int32)).toUInt32 >>> ((13 : Int32) &&& 31).toUInt32).toInt32)))] [(.int ((((((u0 * (-1640531527 : Int32)) + u1) ^^^ ((((u0 * (-1640531527 : Int32)) + u1).toUInt32 >>> ((16 : Int32) &&& 31).toUInt32).toInt32)) * (-2048144789 : Int32)) ^^^ ((((((u0 * (-1640531527 : Int32)) + u1) ^^^ ((((u0 * (-1640531527 : Int32)) + u1).toUInt32 >>> ((16 : Int32) &&& 31).toUInt32).toInt32)) * (-2048144789 : Int32)).toUInt32 >>> ((13 : Int32) &&& 31).toUInt32).toInt32)) * (-1028477387 : Int32)))])) t
    refine XS.istoreN X0.here hx rfl (hb hby d1_30) rfl (l' := #[.val (.int u0), .val (.int u1), .val (.int ((((((u0 * (-1640531527 : Int32)) + u1) ^^^ ((((u0 * (-1640531527 : Int32)) + u1).toUInt32 >>> ((16 : Int32) &&& 31).toUInt32).toInt32)) * (-2048144789 : Int32)) ^^^ ((((((u0 * (-1640531527 : Int32)) + u1) ^^^ ((((u0 * (-1640531527 : Int32)) + u1).toUInt32 >>> ((16 : Int32) &&& 31).toUInt32).toInt32)) * (-2048144789 : Int32)).toUInt32 >>> ((13 : Int32) &&& 31).toUInt32).toInt32)) * (-1028477387 : Int32)))]) rfl ?_
    show Steps p.tables e below (s₁.setTop (mkF m 31 #[.val (.int u0), .val (.int u1), .val (.int ((((((u0 * (-1640531527 : Int32)) + u1) ^^^ ((((u0 * (-1640531527 : Int32)) + u1).toUInt32 >>> ((16 : Int32) &&& 31).toUInt32).toInt32)) * (-2048144789 : Int32)) ^^^ ((((((u0 * (-1640531527 : Int32)) + u1) ^^^ ((((u0 * (-1640531527 : Int32)) + u1).toUInt32 >>> ((16 : Int32) &&& 31).toUInt32).toInt32)) * (-2048144789 : Int32)).toUInt32 >>> ((13 : Int32) &&& 31).toUInt32).toInt32)) * (-1028477387 : Int32)))] [])) t
    refine XS.iloadN X0.here hx rfl (hb hby d1_31) rfl ?_
    show Steps p.tables e below (s₁.setTop (mkF m 32 #[.val (.int u0), .val (.int u1), .val (.int ((((((u0 * (-1640531527 : Int32)) + u1) ^^^ ((((u0 * (-1640531527 : Int32)) + u1).toUInt32 >>> ((16 : Int32) &&& 31).toUInt32).toInt32)) * (-2048144789 : Int32)) ^^^ ((((((u0 * (-1640531527 : Int32)) + u1) ^^^ ((((u0 * (-1640531527 : Int32)) + u1).toUInt32 >>> ((16 : Int32) &&& 31).toUInt32).toInt32)) * (-2048144789 : Int32)).toUInt32 >>> ((13 : Int32) &&& 31).toUInt32).toInt32)) * (-1028477387 : Int32)))] [(.int ((((((u0 * (-1640531527 : Int32)) + u1) ^^^ ((((u0 * (-1640531527 : Int32)) + u1).toUInt32 >>> ((16 : Int32) &&& 31).toUInt32).toInt32)) * (-2048144789 : Int32)) ^^^ ((((((u0 * (-1640531527 : Int32)) + u1) ^^^ ((((u0 * (-1640531527 : Int32)) + u1).toUInt32 >>> ((16 : Int32) &&& 31).toUInt32).toInt32)) * (-2048144789 : Int32)).toUInt32 >>> ((13 : Int32) &&& 31).toUInt32).toInt32)) * (-1028477387 : Int32)))])) t
    refine XS.iloadN X0.here hx rfl (hb hby d1_32) rfl ?_
    show Steps p.tables e below (s₁.setTop (mkF m 33 #[.val (.int u0), .val (.int u1), .val (.int ((((((u0 * (-1640531527 : Int32)) + u1) ^^^ ((((u0 * (-1640531527 : Int32)) + u1).toUInt32 >>> ((16 : Int32) &&& 31).toUInt32).toInt32)) * (-2048144789 : Int32)) ^^^ ((((((u0 * (-1640531527 : Int32)) + u1) ^^^ ((((u0 * (-1640531527 : Int32)) + u1).toUInt32 >>> ((16 : Int32) &&& 31).toUInt32).toInt32)) * (-2048144789 : Int32)).toUInt32 >>> ((13 : Int32) &&& 31).toUInt32).toInt32)) * (-1028477387 : Int32)))] [(.int ((((((u0 * (-1640531527 : Int32)) + u1) ^^^ ((((u0 * (-1640531527 : Int32)) + u1).toUInt32 >>> ((16 : Int32) &&& 31).toUInt32).toInt32)) * (-2048144789 : Int32)) ^^^ ((((((u0 * (-1640531527 : Int32)) + u1) ^^^ ((((u0 * (-1640531527 : Int32)) + u1).toUInt32 >>> ((16 : Int32) &&& 31).toUInt32).toInt32)) * (-2048144789 : Int32)).toUInt32 >>> ((13 : Int32) &&& 31).toUInt32).toInt32)) * (-1028477387 : Int32))), (.int ((((((u0 * (-1640531527 : Int32)) + u1) ^^^ ((((u0 * (-1640531527 : Int32)) + u1).toUInt32 >>> ((16 : Int32) &&& 31).toUInt32).toInt32)) * (-2048144789 : Int32)) ^^^ ((((((u0 * (-1640531527 : Int32)) + u1) ^^^ ((((u0 * (-1640531527 : Int32)) + u1).toUInt32 >>> ((16 : Int32) &&& 31).toUInt32).toInt32)) * (-2048144789 : Int32)).toUInt32 >>> ((13 : Int32) &&& 31).toUInt32).toInt32)) * (-1028477387 : Int32)))])) t
    refine XS.bipush X0.here hx rfl (hb hby d1_33) ?_
    show Steps p.tables e below (s₁.setTop (mkF m 35 #[.val (.int u0), .val (.int u1), .val (.int ((((((u0 * (-1640531527 : Int32)) + u1) ^^^ ((((u0 * (-1640531527 : Int32)) + u1).toUInt32 >>> ((16 : Int32) &&& 31).toUInt32).toInt32)) * (-2048144789 : Int32)) ^^^ ((((((u0 * (-1640531527 : Int32)) + u1) ^^^ ((((u0 * (-1640531527 : Int32)) + u1).toUInt32 >>> ((16 : Int32) &&& 31).toUInt32).toInt32)) * (-2048144789 : Int32)).toUInt32 >>> ((13 : Int32) &&& 31).toUInt32).toInt32)) * (-1028477387 : Int32)))] [(.int (16 : Int32)), (.int ((((((u0 * (-1640531527 : Int32)) + u1) ^^^ ((((u0 * (-1640531527 : Int32)) + u1).toUInt32 >>> ((16 : Int32) &&& 31).toUInt32).toInt32)) * (-2048144789 : Int32)) ^^^ ((((((u0 * (-1640531527 : Int32)) + u1) ^^^ ((((u0 * (-1640531527 : Int32)) + u1).toUInt32 >>> ((16 : Int32) &&& 31).toUInt32).toInt32)) * (-2048144789 : Int32)).toUInt32 >>> ((13 : Int32) &&& 31).toUInt32).toInt32)) * (-1028477387 : Int32))), (.int ((((((u0 * (-1640531527 : Int32)) + u1) ^^^ ((((u0 * (-1640531527 : Int32)) + u1).toUInt32 >>> ((16 : Int32) &&& 31).toUInt32).toInt32)) * (-2048144789 : Int32)) ^^^ ((((((u0 * (-1640531527 : Int32)) + u1) ^^^ ((((u0 * (-1640531527 : Int32)) + u1).toUInt32 >>> ((16 : Int32) &&& 31).toUInt32).toInt32)) * (-2048144789 : Int32)).toUInt32 >>> ((13 : Int32) &&& 31).toUInt32).toInt32)) * (-1028477387 : Int32)))])) t
    refine XS.iushr X0.here hx rfl (hb hby d1_35) rfl ?_
    show Steps p.tables e below (s₁.setTop (mkF m 36 #[.val (.int u0), .val (.int u1), .val (.int ((((((u0 * (-1640531527 : Int32)) + u1) ^^^ ((((u0 * (-1640531527 : Int32)) + u1).toUInt32 >>> ((16 : Int32) &&& 31).toUInt32).toInt32)) * (-2048144789 : Int32)) ^^^ ((((((u0 * (-1640531527 : Int32)) + u1) ^^^ ((((u0 * (-1640531527 : Int32)) + u1).toUInt32 >>> ((16 : Int32) &&& 31).toUInt32).toInt32)) * (-2048144789 : Int32)).toUInt32 >>> ((13 : Int32) &&& 31).toUInt32).toInt32)) * (-1028477387 : Int32)))] [(.int ((((((((u0 * (-1640531527 : Int32)) + u1) ^^^ ((((u0 * (-1640531527 : Int32)) + u1).toUInt32 >>> ((16 : Int32) &&& 31).toUInt32).toInt32)) * (-2048144789 : Int32)) ^^^ ((((((u0 * (-1640531527 : Int32)) + u1) ^^^ ((((u0 * (-1640531527 : Int32)) + u1).toUInt32 >>> ((16 : Int32) &&& 31).toUInt32).toInt32)) * (-2048144789 : Int32)).toUInt32 >>> ((13 : Int32) &&& 31).toUInt32).toInt32)) * (-1028477387 : Int32)).toUInt32 >>> ((16 : Int32) &&& 31).toUInt32).toInt32)), (.int ((((((u0 * (-1640531527 : Int32)) + u1) ^^^ ((((u0 * (-1640531527 : Int32)) + u1).toUInt32 >>> ((16 : Int32) &&& 31).toUInt32).toInt32)) * (-2048144789 : Int32)) ^^^ ((((((u0 * (-1640531527 : Int32)) + u1) ^^^ ((((u0 * (-1640531527 : Int32)) + u1).toUInt32 >>> ((16 : Int32) &&& 31).toUInt32).toInt32)) * (-2048144789 : Int32)).toUInt32 >>> ((13 : Int32) &&& 31).toUInt32).toInt32)) * (-1028477387 : Int32)))])) t
    refine XS.ixor X0.here hx rfl (hb hby d1_36) rfl ?_
    show Steps p.tables e below (s₁.setTop (mkF m 37 #[.val (.int u0), .val (.int u1), .val (.int ((((((u0 * (-1640531527 : Int32)) + u1) ^^^ ((((u0 * (-1640531527 : Int32)) + u1).toUInt32 >>> ((16 : Int32) &&& 31).toUInt32).toInt32)) * (-2048144789 : Int32)) ^^^ ((((((u0 * (-1640531527 : Int32)) + u1) ^^^ ((((u0 * (-1640531527 : Int32)) + u1).toUInt32 >>> ((16 : Int32) &&& 31).toUInt32).toInt32)) * (-2048144789 : Int32)).toUInt32 >>> ((13 : Int32) &&& 31).toUInt32).toInt32)) * (-1028477387 : Int32)))] [(.int (((((((u0 * (-1640531527 : Int32)) + u1) ^^^ ((((u0 * (-1640531527 : Int32)) + u1).toUInt32 >>> ((16 : Int32) &&& 31).toUInt32).toInt32)) * (-2048144789 : Int32)) ^^^ ((((((u0 * (-1640531527 : Int32)) + u1) ^^^ ((((u0 * (-1640531527 : Int32)) + u1).toUInt32 >>> ((16 : Int32) &&& 31).toUInt32).toInt32)) * (-2048144789 : Int32)).toUInt32 >>> ((13 : Int32) &&& 31).toUInt32).toInt32)) * (-1028477387 : Int32)) ^^^ ((((((((u0 * (-1640531527 : Int32)) + u1) ^^^ ((((u0 * (-1640531527 : Int32)) + u1).toUInt32 >>> ((16 : Int32) &&& 31).toUInt32).toInt32)) * (-2048144789 : Int32)) ^^^ ((((((u0 * (-1640531527 : Int32)) + u1) ^^^ ((((u0 * (-1640531527 : Int32)) + u1).toUInt32 >>> ((16 : Int32) &&& 31).toUInt32).toInt32)) * (-2048144789 : Int32)).toUInt32 >>> ((13 : Int32) &&& 31).toUInt32).toInt32)) * (-1028477387 : Int32)).toUInt32 >>> ((16 : Int32) &&& 31).toUInt32).toInt32)))])) t
    refine XS.istoreN X0.here hx rfl (hb hby d1_37) rfl (l' := #[.val (.int u0), .val (.int u1), .val (.int (((((((u0 * (-1640531527 : Int32)) + u1) ^^^ ((((u0 * (-1640531527 : Int32)) + u1).toUInt32 >>> ((16 : Int32) &&& 31).toUInt32).toInt32)) * (-2048144789 : Int32)) ^^^ ((((((u0 * (-1640531527 : Int32)) + u1) ^^^ ((((u0 * (-1640531527 : Int32)) + u1).toUInt32 >>> ((16 : Int32) &&& 31).toUInt32).toInt32)) * (-2048144789 : Int32)).toUInt32 >>> ((13 : Int32) &&& 31).toUInt32).toInt32)) * (-1028477387 : Int32)) ^^^ ((((((((u0 * (-1640531527 : Int32)) + u1) ^^^ ((((u0 * (-1640531527 : Int32)) + u1).toUInt32 >>> ((16 : Int32) &&& 31).toUInt32).toInt32)) * (-2048144789 : Int32)) ^^^ ((((((u0 * (-1640531527 : Int32)) + u1) ^^^ ((((u0 * (-1640531527 : Int32)) + u1).toUInt32 >>> ((16 : Int32) &&& 31).toUInt32).toInt32)) * (-2048144789 : Int32)).toUInt32 >>> ((13 : Int32) &&& 31).toUInt32).toInt32)) * (-1028477387 : Int32)).toUInt32 >>> ((16 : Int32) &&& 31).toUInt32).toInt32)))]) rfl ?_
    show Steps p.tables e below (s₁.setTop (mkF m 38 #[.val (.int u0), .val (.int u1), .val (.int (((((((u0 * (-1640531527 : Int32)) + u1) ^^^ ((((u0 * (-1640531527 : Int32)) + u1).toUInt32 >>> ((16 : Int32) &&& 31).toUInt32).toInt32)) * (-2048144789 : Int32)) ^^^ ((((((u0 * (-1640531527 : Int32)) + u1) ^^^ ((((u0 * (-1640531527 : Int32)) + u1).toUInt32 >>> ((16 : Int32) &&& 31).toUInt32).toInt32)) * (-2048144789 : Int32)).toUInt32 >>> ((13 : Int32) &&& 31).toUInt32).toInt32)) * (-1028477387 : Int32)) ^^^ ((((((((u0 * (-1640531527 : Int32)) + u1) ^^^ ((((u0 * (-1640531527 : Int32)) + u1).toUInt32 >>> ((16 : Int32) &&& 31).toUInt32).toInt32)) * (-2048144789 : Int32)) ^^^ ((((((u0 * (-1640531527 : Int32)) + u1) ^^^ ((((u0 * (-1640531527 : Int32)) + u1).toUInt32 >>> ((16 : Int32) &&& 31).toUInt32).toInt32)) * (-2048144789 : Int32)).toUInt32 >>> ((13 : Int32) &&& 31).toUInt32).toInt32)) * (-1028477387 : Int32)).toUInt32 >>> ((16 : Int32) &&& 31).toUInt32).toInt32)))] [])) t
    refine XS.iloadN X0.here hx rfl (hb hby d1_38) rfl ?_
    exact kt
  obtain ⟨fs, hr, hrun, hended, hW, hsame⟩ := X0.leave (v := some (.int (((((((u0 * (-1640531527 : Int32)) + u1) ^^^ ((((u0 * (-1640531527 : Int32)) + u1).toUInt32 >>> ((16 : Int32) &&& 31).toUInt32).toInt32)) * (-2048144789 : Int32)) ^^^ ((((((u0 * (-1640531527 : Int32)) + u1) ^^^ ((((u0 * (-1640531527 : Int32)) + u1).toUInt32 >>> ((16 : Int32) &&& 31).toUInt32).toInt32)) * (-2048144789 : Int32)).toUInt32 >>> ((13 : Int32) &&& 31).toUInt32).toInt32)) * (-1028477387 : Int32)) ^^^ ((((((((u0 * (-1640531527 : Int32)) + u1) ^^^ ((((u0 * (-1640531527 : Int32)) + u1).toUInt32 >>> ((16 : Int32) &&& 31).toUInt32).toInt32)) * (-2048144789 : Int32)) ^^^ ((((((u0 * (-1640531527 : Int32)) + u1) ^^^ ((((u0 * (-1640531527 : Int32)) + u1).toUInt32 >>> ((16 : Int32) &&& 31).toUInt32).toInt32)) * (-2048144789 : Int32)).toUInt32 >>> ((13 : Int32) &&& 31).toUInt32).toInt32)) * (-1028477387 : Int32)).toUInt32 >>> ((16 : Int32) &&& 31).toUInt32).toInt32)))) (fun h => by rw [Bd.returns] at h; cases h)
  refine ⟨_, _, pre0 _ (s1 _ (?_)), hrun, hended, _, _, rfl, ?_, ⟨_, rfl⟩, hW, hsame.mono (by decide) (by decide)⟩
  · show Steps p.tables e below (s₁.setTop (mkF m 39 #[.val (.int u0), .val (.int u1), .val (.int (((((((u0 * (-1640531527 : Int32)) + u1) ^^^ ((((u0 * (-1640531527 : Int32)) + u1).toUInt32 >>> ((16 : Int32) &&& 31).toUInt32).toInt32)) * (-2048144789 : Int32)) ^^^ ((((((u0 * (-1640531527 : Int32)) + u1) ^^^ ((((u0 * (-1640531527 : Int32)) + u1).toUInt32 >>> ((16 : Int32) &&& 31).toUInt32).toInt32)) * (-2048144789 : Int32)).toUInt32 >>> ((13 : Int32) &&& 31).toUInt32).toInt32)) * (-1028477387 : Int32)) ^^^ ((((((((u0 * (-1640531527 : Int32)) + u1) ^^^ ((((u0 * (-1640531527 : Int32)) + u1).toUInt32 >>> ((16 : Int32) &&& 31).toUInt32).toInt32)) * (-2048144789 : Int32)) ^^^ ((((((u0 * (-1640531527 : Int32)) + u1) ^^^ ((((u0 * (-1640531527 : Int32)) + u1).toUInt32 >>> ((16 : Int32) &&& 31).toUInt32).toInt32)) * (-2048144789 : Int32)).toUInt32 >>> ((13 : Int32) &&& 31).toUInt32).toInt32)) * (-1028477387 : Int32)).toUInt32 >>> ((16 : Int32) &&& 31).toUInt32).toInt32)))] [(.int (((((((u0 * (-1640531527 : Int32)) + u1) ^^^ ((((u0 * (-1640531527 : Int32)) + u1).toUInt32 >>> ((16 : Int32) &&& 31).toUInt32).toInt32)) * (-2048144789 : Int32)) ^^^ ((((((u0 * (-1640531527 : Int32)) + u1) ^^^ ((((u0 * (-1640531527 : Int32)) + u1).toUInt32 >>> ((16 : Int32) &&& 31).toUInt32).toInt32)) * (-2048144789 : Int32)).toUInt32 >>> ((13 : Int32) &&& 31).toUInt32).toInt32)) * (-1028477387 : Int32)) ^^^ ((((((((u0 * (-1640531527 : Int32)) + u1) ^^^ ((((u0 * (-1640531527 : Int32)) + u1).toUInt32 >>> ((16 : Int32) &&& 31).toUInt32).toInt32)) * (-2048144789 : Int32)) ^^^ ((((((u0 * (-1640531527 : Int32)) + u1) ^^^ ((((u0 * (-1640531527 : Int32)) + u1).toUInt32 >>> ((16 : Int32) &&& 31).toUInt32).toInt32)) * (-2048144789 : Int32)).toUInt32 >>> ((13 : Int32) &&& 31).toUInt32).toInt32)) * (-1028477387 : Int32)).toUInt32 >>> ((16 : Int32) &&& 31).toUInt32).toInt32)))])) _
    exact retI X0 hx Bd.returns (hb hby d1_39) hr
  · show Q1 Z u0 u1 h0 n0 _ s₁.heap _
    rw [e0]
    exact ⟨rfl, N0, rfl⟩
def Q2 (Z : State) (u0 : Int32) (h0 : Heap) (n0 : Nat) (v : Option Value) (h : Heap) (L : List Loc) : Prop := v = some (.int (finverse u0)) ∧ Fr n0 L ∧ h = h0
set_option maxRecDepth 65536 in
set_option maxHeartbeats 40000000 in
theorem rm2 (l : Launch) (Z : State) (a0 : Array Value) (hw : ∀ d ∈ tables_1, d.before a0 Z = true) (ws : List Jvm.Cond) (u0 : Int32) (h0 : Heap) (n0 : Nat) (Z0 : n0 ≤ h0.size)  :
    MetFree l (⟨"com/example/tell_nothing/tellnothing/HashedTermCombinePinLaw", "inverse", "(I)I"⟩ : MethodName) (head1 (Jvm.Cond.code (⟨"com/example/tell_nothing/tellnothing/HashedTermCombinePinLaw", "inverse", "(I)I"⟩ : MethodName) method_2_code 2 (some .int) :: ws) ({ frames := 0, cells := 0, slots := 0, locals := 0 } : Room)) (fun a U => a = #[(.int u0)] ∧ Z.Warmed39 U.vm ∧ U.heap = h0) (fun _ _ _ _ _ => True) (fun _ U o U' => ∃ v L, o = .returned v ∧ Q2 Z u0 h0 n0 v U'.heap L ∧ FrameEnd U o U' L ({ frames := 0, cells := 0, slots := 0, locals := 0 } : Room).cells ({ frames := 0, cells := 0, slots := 0, locals := 0 } : Room).slots) := by
  refine MetFree.of_bodySF (plainFor_of_name pn_com_example_tell_nothing_tellnothing_HashedTermCombinePinLaw) hisR ?_
  intro p e s m args0 below meth c s₁ Bd hml0 hP hK
  obtain ⟨rfl, hZ, hh⟩ := hP
  have hx := Bd.exec
  have hby := Bd.bytes
  have hml : c.maxLocals = 2 := hml0
  have hown : s.vm.findClass "com/example/tell_nothing/tellnothing/HashedTermCombinePinLaw" = some m.cls := findClass_of_methodNamed Bd.named
  have hnm := (name_of_methodNamed Bd.named Bd.method).1
  have X0 : Stand p l e ({ frames := 0, cells := 0, slots := 0, locals := 0 } : Room) s m #[(.int u0)] below meth c s₁ [] 0 0 := Stand.of_body Bd
  have e0 : s₁.heap = h0 := by rw [← hh, Bd.state]; rfl
  have N0 := Fr.nil n0
  have pre0 : ∀ t, Steps p.tables e below (s₁.setTop (mkF m 0 #[.val (.int u0), .unset] [])) t → Steps p.tables e below (s₁.setTop (entryFrame m #[(.int u0)] 2)) t := fun t k => castTop (ef_2 m u0) k
  have s2 : ∀ t, Steps p.tables e below (s₁.setTop (mkF m 35 #[.val (.int u0), .val (.int ((((u0 * ((2 : Int32) - (u0 * u0))) * ((2 : Int32) - (u0 * (u0 * ((2 : Int32) - (u0 * u0)))))) * ((2 : Int32) - (u0 * ((u0 * ((2 : Int32) - (u0 * u0))) * ((2 : Int32) - (u0 * (u0 * ((2 : Int32) - (u0 * u0))))))))) * ((2 : Int32) - (u0 * (((u0 * ((2 : Int32) - (u0 * u0))) * ((2 : Int32) - (u0 * (u0 * ((2 : Int32) - (u0 * u0)))))) * ((2 : Int32) - (u0 * ((u0 * ((2 : Int32) - (u0 * u0))) * ((2 : Int32) - (u0 * (u0 * ((2 : Int32) - (u0 * u0)))))))))))))] [(.int ((((u0 * ((2 : Int32) - (u0 * u0))) * ((2 : Int32) - (u0 * (u0 * ((2 : Int32) - (u0 * u0)))))) * ((2 : Int32) - (u0 * ((u0 * ((2 : Int32) - (u0 * u0))) * ((2 : Int32) - (u0 * (u0 * ((2 : Int32) - (u0 * u0))))))))) * ((2 : Int32) - (u0 * (((u0 * ((2 : Int32) - (u0 * u0))) * ((2 : Int32) - (u0 * (u0 * ((2 : Int32) - (u0 * u0)))))) * ((2 : Int32) - (u0 * ((u0 * ((2 : Int32) - (u0 * u0))) * ((2 : Int32) - (u0 * (u0 * ((2 : Int32) - (u0 * u0)))))))))))))])) t → Steps p.tables e below (s₁.setTop (mkF m 0 #[.val (.int u0), .unset] [])) t := by
    intro t kt
    refine XS.iloadN X0.here hx rfl (hb hby d2_0) rfl ?_
    show Steps p.tables e below (s₁.setTop (mkF m 1 #[.val (.int u0), .unset] [(.int u0)])) t
    refine XS.istoreN X0.here hx rfl (hb hby d2_1) rfl (l' := #[.val (.int u0), .val (.int u0)]) rfl ?_
    show Steps p.tables e below (s₁.setTop (mkF m 2 #[.val (.int u0), .val (.int u0)] [])) t
    refine XS.iloadN X0.here hx rfl (hb hby d2_2) rfl ?_
    show Steps p.tables e below (s₁.setTop (mkF m 3 #[.val (.int u0), .val (.int u0)] [(.int u0)])) t
    refine XS.iconst X0.here hx rfl (hb hby d2_3) ?_
    show Steps p.tables e below (s₁.setTop (mkF m 4 #[.val (.int u0), .val (.int u0)] [(.int (2 : Int32)), (.int u0)])) t
    refine XS.iloadN X0.here hx rfl (hb hby d2_4) rfl ?_
    show Steps p.tables e below (s₁.setTop (mkF m 5 #[.val (.int u0), .val (.int u0)] [(.int u0), (.int (2 : Int32)), (.int u0)])) t
    refine XS.iloadN X0.here hx rfl (hb hby d2_5) rfl ?_
    show Steps p.tables e below (s₁.setTop (mkF m 6 #[.val (.int u0), .val (.int u0)] [(.int u0), (.int u0), (.int (2 : Int32)), (.int u0)])) t
    refine XS.imul X0.here hx rfl (hb hby d2_6) rfl ?_
    show Steps p.tables e below (s₁.setTop (mkF m 7 #[.val (.int u0), .val (.int u0)] [(.int (u0 * u0)), (.int (2 : Int32)), (.int u0)])) t
    refine XS.isub X0.here hx rfl (hb hby d2_7) rfl ?_
    show Steps p.tables e below (s₁.setTop (mkF m 8 #[.val (.int u0), .val (.int u0)] [(.int ((2 : Int32) - (u0 * u0))), (.int u0)])) t
    refine XS.imul X0.here hx rfl (hb hby d2_8) rfl ?_
    show Steps p.tables e below (s₁.setTop (mkF m 9 #[.val (.int u0), .val (.int u0)] [(.int (u0 * ((2 : Int32) - (u0 * u0))))])) t
    refine XS.istoreN X0.here hx rfl (hb hby d2_9) rfl (l' := #[.val (.int u0), .val (.int (u0 * ((2 : Int32) - (u0 * u0))))]) rfl ?_
    show Steps p.tables e below (s₁.setTop (mkF m 10 #[.val (.int u0), .val (.int (u0 * ((2 : Int32) - (u0 * u0))))] [])) t
    refine XS.iloadN X0.here hx rfl (hb hby d2_10) rfl ?_
    show Steps p.tables e below (s₁.setTop (mkF m 11 #[.val (.int u0), .val (.int (u0 * ((2 : Int32) - (u0 * u0))))] [(.int (u0 * ((2 : Int32) - (u0 * u0))))])) t
    refine XS.iconst X0.here hx rfl (hb hby d2_11) ?_
    show Steps p.tables e below (s₁.setTop (mkF m 12 #[.val (.int u0), .val (.int (u0 * ((2 : Int32) - (u0 * u0))))] [(.int (2 : Int32)), (.int (u0 * ((2 : Int32) - (u0 * u0))))])) t
    refine XS.iloadN X0.here hx rfl (hb hby d2_12) rfl ?_
    show Steps p.tables e below (s₁.setTop (mkF m 13 #[.val (.int u0), .val (.int (u0 * ((2 : Int32) - (u0 * u0))))] [(.int u0), (.int (2 : Int32)), (.int (u0 * ((2 : Int32) - (u0 * u0))))])) t
    refine XS.iloadN X0.here hx rfl (hb hby d2_13) rfl ?_
    show Steps p.tables e below (s₁.setTop (mkF m 14 #[.val (.int u0), .val (.int (u0 * ((2 : Int32) - (u0 * u0))))] [(.int (u0 * ((2 : Int32) - (u0 * u0)))), (.int u0), (.int (2 : Int32)), (.int (u0 * ((2 : Int32) - (u0 * u0))))])) t
    refine XS.imul X0.here hx rfl (hb hby d2_14) rfl ?_
    show Steps p.tables e below (s₁.setTop (mkF m 15 #[.val (.int u0), .val (.int (u0 * ((2 : Int32) - (u0 * u0))))] [(.int (u0 * (u0 * ((2 : Int32) - (u0 * u0))))), (.int (2 : Int32)), (.int (u0 * ((2 : Int32) - (u0 * u0))))])) t
    refine XS.isub X0.here hx rfl (hb hby d2_15) rfl ?_
    show Steps p.tables e below (s₁.setTop (mkF m 16 #[.val (.int u0), .val (.int (u0 * ((2 : Int32) - (u0 * u0))))] [(.int ((2 : Int32) - (u0 * (u0 * ((2 : Int32) - (u0 * u0)))))), (.int (u0 * ((2 : Int32) - (u0 * u0))))])) t
    refine XS.imul X0.here hx rfl (hb hby d2_16) rfl ?_
    show Steps p.tables e below (s₁.setTop (mkF m 17 #[.val (.int u0), .val (.int (u0 * ((2 : Int32) - (u0 * u0))))] [(.int ((u0 * ((2 : Int32) - (u0 * u0))) * ((2 : Int32) - (u0 * (u0 * ((2 : Int32) - (u0 * u0)))))))])) t
    refine XS.istoreN X0.here hx rfl (hb hby d2_17) rfl (l' := #[.val (.int u0), .val (.int ((u0 * ((2 : Int32) - (u0 * u0))) * ((2 : Int32) - (u0 * (u0 * ((2 : Int32) - (u0 * u0)))))))]) rfl ?_
    show Steps p.tables e below (s₁.setTop (mkF m 18 #[.val (.int u0), .val (.int ((u0 * ((2 : Int32) - (u0 * u0))) * ((2 : Int32) - (u0 * (u0 * ((2 : Int32) - (u0 * u0)))))))] [])) t
    refine XS.iloadN X0.here hx rfl (hb hby d2_18) rfl ?_
    show Steps p.tables e below (s₁.setTop (mkF m 19 #[.val (.int u0), .val (.int ((u0 * ((2 : Int32) - (u0 * u0))) * ((2 : Int32) - (u0 * (u0 * ((2 : Int32) - (u0 * u0)))))))] [(.int ((u0 * ((2 : Int32) - (u0 * u0))) * ((2 : Int32) - (u0 * (u0 * ((2 : Int32) - (u0 * u0)))))))])) t
    refine XS.iconst X0.here hx rfl (hb hby d2_19) ?_
    show Steps p.tables e below (s₁.setTop (mkF m 20 #[.val (.int u0), .val (.int ((u0 * ((2 : Int32) - (u0 * u0))) * ((2 : Int32) - (u0 * (u0 * ((2 : Int32) - (u0 * u0)))))))] [(.int (2 : Int32)), (.int ((u0 * ((2 : Int32) - (u0 * u0))) * ((2 : Int32) - (u0 * (u0 * ((2 : Int32) - (u0 * u0)))))))])) t
    refine XS.iloadN X0.here hx rfl (hb hby d2_20) rfl ?_
    show Steps p.tables e below (s₁.setTop (mkF m 21 #[.val (.int u0), .val (.int ((u0 * ((2 : Int32) - (u0 * u0))) * ((2 : Int32) - (u0 * (u0 * ((2 : Int32) - (u0 * u0)))))))] [(.int u0), (.int (2 : Int32)), (.int ((u0 * ((2 : Int32) - (u0 * u0))) * ((2 : Int32) - (u0 * (u0 * ((2 : Int32) - (u0 * u0)))))))])) t
    refine XS.iloadN X0.here hx rfl (hb hby d2_21) rfl ?_
    show Steps p.tables e below (s₁.setTop (mkF m 22 #[.val (.int u0), .val (.int ((u0 * ((2 : Int32) - (u0 * u0))) * ((2 : Int32) - (u0 * (u0 * ((2 : Int32) - (u0 * u0)))))))] [(.int ((u0 * ((2 : Int32) - (u0 * u0))) * ((2 : Int32) - (u0 * (u0 * ((2 : Int32) - (u0 * u0))))))), (.int u0), (.int (2 : Int32)), (.int ((u0 * ((2 : Int32) - (u0 * u0))) * ((2 : Int32) - (u0 * (u0 * ((2 : Int32) - (u0 * u0)))))))])) t
    refine XS.imul X0.here hx rfl (hb hby d2_22) rfl ?_
    show Steps p.tables e below (s₁.setTop (mkF m 23 #[.val (.int u0), .val (.int ((u0 * ((2 : Int32) - (u0 * u0))) * ((2 : Int32) - (u0 * (u0 * ((2 : Int32) - (u0 * u0)))))))] [(.int (u0 * ((u0 * ((2 : Int32) - (u0 * u0))) * ((2 : Int32) - (u0 * (u0 * ((2 : Int32) - (u0 * u0)))))))), (.int (2 : Int32)), (.int ((u0 * ((2 : Int32) - (u0 * u0))) * ((2 : Int32) - (u0 * (u0 * ((2 : Int32) - (u0 * u0)))))))])) t
    refine XS.isub X0.here hx rfl (hb hby d2_23) rfl ?_
    show Steps p.tables e below (s₁.setTop (mkF m 24 #[.val (.int u0), .val (.int ((u0 * ((2 : Int32) - (u0 * u0))) * ((2 : Int32) - (u0 * (u0 * ((2 : Int32) - (u0 * u0)))))))] [(.int ((2 : Int32) - (u0 * ((u0 * ((2 : Int32) - (u0 * u0))) * ((2 : Int32) - (u0 * (u0 * ((2 : Int32) - (u0 * u0))))))))), (.int ((u0 * ((2 : Int32) - (u0 * u0))) * ((2 : Int32) - (u0 * (u0 * ((2 : Int32) - (u0 * u0)))))))])) t
    refine XS.imul X0.here hx rfl (hb hby d2_24) rfl ?_
    show Steps p.tables e below (s₁.setTop (mkF m 25 #[.val (.int u0), .val (.int ((u0 * ((2 : Int32) - (u0 * u0))) * ((2 : Int32) - (u0 * (u0 * ((2 : Int32) - (u0 * u0)))))))] [(.int (((u0 * ((2 : Int32) - (u0 * u0))) * ((2 : Int32) - (u0 * (u0 * ((2 : Int32) - (u0 * u0)))))) * ((2 : Int32) - (u0 * ((u0 * ((2 : Int32) - (u0 * u0))) * ((2 : Int32) - (u0 * (u0 * ((2 : Int32) - (u0 * u0))))))))))])) t
    refine XS.istoreN X0.here hx rfl (hb hby d2_25) rfl (l' := #[.val (.int u0), .val (.int (((u0 * ((2 : Int32) - (u0 * u0))) * ((2 : Int32) - (u0 * (u0 * ((2 : Int32) - (u0 * u0)))))) * ((2 : Int32) - (u0 * ((u0 * ((2 : Int32) - (u0 * u0))) * ((2 : Int32) - (u0 * (u0 * ((2 : Int32) - (u0 * u0))))))))))]) rfl ?_
    show Steps p.tables e below (s₁.setTop (mkF m 26 #[.val (.int u0), .val (.int (((u0 * ((2 : Int32) - (u0 * u0))) * ((2 : Int32) - (u0 * (u0 * ((2 : Int32) - (u0 * u0)))))) * ((2 : Int32) - (u0 * ((u0 * ((2 : Int32) - (u0 * u0))) * ((2 : Int32) - (u0 * (u0 * ((2 : Int32) - (u0 * u0))))))))))] [])) t
    refine XS.iloadN X0.here hx rfl (hb hby d2_26) rfl ?_
    show Steps p.tables e below (s₁.setTop (mkF m 27 #[.val (.int u0), .val (.int (((u0 * ((2 : Int32) - (u0 * u0))) * ((2 : Int32) - (u0 * (u0 * ((2 : Int32) - (u0 * u0)))))) * ((2 : Int32) - (u0 * ((u0 * ((2 : Int32) - (u0 * u0))) * ((2 : Int32) - (u0 * (u0 * ((2 : Int32) - (u0 * u0))))))))))] [(.int (((u0 * ((2 : Int32) - (u0 * u0))) * ((2 : Int32) - (u0 * (u0 * ((2 : Int32) - (u0 * u0)))))) * ((2 : Int32) - (u0 * ((u0 * ((2 : Int32) - (u0 * u0))) * ((2 : Int32) - (u0 * (u0 * ((2 : Int32) - (u0 * u0))))))))))])) t
    refine XS.iconst X0.here hx rfl (hb hby d2_27) ?_
    show Steps p.tables e below (s₁.setTop (mkF m 28 #[.val (.int u0), .val (.int (((u0 * ((2 : Int32) - (u0 * u0))) * ((2 : Int32) - (u0 * (u0 * ((2 : Int32) - (u0 * u0)))))) * ((2 : Int32) - (u0 * ((u0 * ((2 : Int32) - (u0 * u0))) * ((2 : Int32) - (u0 * (u0 * ((2 : Int32) - (u0 * u0))))))))))] [(.int (2 : Int32)), (.int (((u0 * ((2 : Int32) - (u0 * u0))) * ((2 : Int32) - (u0 * (u0 * ((2 : Int32) - (u0 * u0)))))) * ((2 : Int32) - (u0 * ((u0 * ((2 : Int32) - (u0 * u0))) * ((2 : Int32) - (u0 * (u0 * ((2 : Int32) - (u0 * u0))))))))))])) t
    refine XS.iloadN X0.here hx rfl (hb hby d2_28) rfl ?_
    show Steps p.tables e below (s₁.setTop (mkF m 29 #[.val (.int u0), .val (.int (((u0 * ((2 : Int32) - (u0 * u0))) * ((2 : Int32) - (u0 * (u0 * ((2 : Int32) - (u0 * u0)))))) * ((2 : Int32) - (u0 * ((u0 * ((2 : Int32) - (u0 * u0))) * ((2 : Int32) - (u0 * (u0 * ((2 : Int32) - (u0 * u0))))))))))] [(.int u0), (.int (2 : Int32)), (.int (((u0 * ((2 : Int32) - (u0 * u0))) * ((2 : Int32) - (u0 * (u0 * ((2 : Int32) - (u0 * u0)))))) * ((2 : Int32) - (u0 * ((u0 * ((2 : Int32) - (u0 * u0))) * ((2 : Int32) - (u0 * (u0 * ((2 : Int32) - (u0 * u0))))))))))])) t
    refine XS.iloadN X0.here hx rfl (hb hby d2_29) rfl ?_
    show Steps p.tables e below (s₁.setTop (mkF m 30 #[.val (.int u0), .val (.int (((u0 * ((2 : Int32) - (u0 * u0))) * ((2 : Int32) - (u0 * (u0 * ((2 : Int32) - (u0 * u0)))))) * ((2 : Int32) - (u0 * ((u0 * ((2 : Int32) - (u0 * u0))) * ((2 : Int32) - (u0 * (u0 * ((2 : Int32) - (u0 * u0))))))))))] [(.int (((u0 * ((2 : Int32) - (u0 * u0))) * ((2 : Int32) - (u0 * (u0 * ((2 : Int32) - (u0 * u0)))))) * ((2 : Int32) - (u0 * ((u0 * ((2 : Int32) - (u0 * u0))) * ((2 : Int32) - (u0 * (u0 * ((2 : Int32) - (u0 * u0)))))))))), (.int u0), (.int (2 : Int32)), (.int (((u0 * ((2 : Int32) - (u0 * u0))) * ((2 : Int32) - (u0 * (u0 * ((2 : Int32) - (u0 * u0)))))) * ((2 : Int32) - (u0 * ((u0 * ((2 : Int32) - (u0 * u0))) * ((2 : Int32) - (u0 * (u0 * ((2 : Int32) - (u0 * u0))))))))))])) t
    refine XS.imul X0.here hx rfl (hb hby d2_30) rfl ?_
    show Steps p.tables e below (s₁.setTop (mkF m 31 #[.val (.int u0), .val (.int (((u0 * ((2 : Int32) - (u0 * u0))) * ((2 : Int32) - (u0 * (u0 * ((2 : Int32) - (u0 * u0)))))) * ((2 : Int32) - (u0 * ((u0 * ((2 : Int32) - (u0 * u0))) * ((2 : Int32) - (u0 * (u0 * ((2 : Int32) - (u0 * u0))))))))))] [(.int (u0 * (((u0 * ((2 : Int32) - (u0 * u0))) * ((2 : Int32) - (u0 * (u0 * ((2 : Int32) - (u0 * u0)))))) * ((2 : Int32) - (u0 * ((u0 * ((2 : Int32) - (u0 * u0))) * ((2 : Int32) - (u0 * (u0 * ((2 : Int32) - (u0 * u0))))))))))), (.int (2 : Int32)), (.int (((u0 * ((2 : Int32) - (u0 * u0))) * ((2 : Int32) - (u0 * (u0 * ((2 : Int32) - (u0 * u0)))))) * ((2 : Int32) - (u0 * ((u0 * ((2 : Int32) - (u0 * u0))) * ((2 : Int32) - (u0 * (u0 * ((2 : Int32) - (u0 * u0))))))))))])) t
    refine XS.isub X0.here hx rfl (hb hby d2_31) rfl ?_
    show Steps p.tables e below (s₁.setTop (mkF m 32 #[.val (.int u0), .val (.int (((u0 * ((2 : Int32) - (u0 * u0))) * ((2 : Int32) - (u0 * (u0 * ((2 : Int32) - (u0 * u0)))))) * ((2 : Int32) - (u0 * ((u0 * ((2 : Int32) - (u0 * u0))) * ((2 : Int32) - (u0 * (u0 * ((2 : Int32) - (u0 * u0))))))))))] [(.int ((2 : Int32) - (u0 * (((u0 * ((2 : Int32) - (u0 * u0))) * ((2 : Int32) - (u0 * (u0 * ((2 : Int32) - (u0 * u0)))))) * ((2 : Int32) - (u0 * ((u0 * ((2 : Int32) - (u0 * u0))) * ((2 : Int32) - (u0 * (u0 * ((2 : Int32) - (u0 * u0)))))))))))), (.int (((u0 * ((2 : Int32) - (u0 * u0))) * ((2 : Int32) - (u0 * (u0 * ((2 : Int32) - (u0 * u0)))))) * ((2 : Int32) - (u0 * ((u0 * ((2 : Int32) - (u0 * u0))) * ((2 : Int32) - (u0 * (u0 * ((2 : Int32) - (u0 * u0))))))))))])) t
    refine XS.imul X0.here hx rfl (hb hby d2_32) rfl ?_
    show Steps p.tables e below (s₁.setTop (mkF m 33 #[.val (.int u0), .val (.int (((u0 * ((2 : Int32) - (u0 * u0))) * ((2 : Int32) - (u0 * (u0 * ((2 : Int32) - (u0 * u0)))))) * ((2 : Int32) - (u0 * ((u0 * ((2 : Int32) - (u0 * u0))) * ((2 : Int32) - (u0 * (u0 * ((2 : Int32) - (u0 * u0))))))))))] [(.int ((((u0 * ((2 : Int32) - (u0 * u0))) * ((2 : Int32) - (u0 * (u0 * ((2 : Int32) - (u0 * u0)))))) * ((2 : Int32) - (u0 * ((u0 * ((2 : Int32) - (u0 * u0))) * ((2 : Int32) - (u0 * (u0 * ((2 : Int32) - (u0 * u0))))))))) * ((2 : Int32) - (u0 * (((u0 * ((2 : Int32) - (u0 * u0))) * ((2 : Int32) - (u0 * (u0 * ((2 : Int32) - (u0 * u0)))))) * ((2 : Int32) - (u0 * ((u0 * ((2 : Int32) - (u0 * u0))) * ((2 : Int32) - (u0 * (u0 * ((2 : Int32) - (u0 * u0)))))))))))))])) t
    refine XS.istoreN X0.here hx rfl (hb hby d2_33) rfl (l' := #[.val (.int u0), .val (.int ((((u0 * ((2 : Int32) - (u0 * u0))) * ((2 : Int32) - (u0 * (u0 * ((2 : Int32) - (u0 * u0)))))) * ((2 : Int32) - (u0 * ((u0 * ((2 : Int32) - (u0 * u0))) * ((2 : Int32) - (u0 * (u0 * ((2 : Int32) - (u0 * u0))))))))) * ((2 : Int32) - (u0 * (((u0 * ((2 : Int32) - (u0 * u0))) * ((2 : Int32) - (u0 * (u0 * ((2 : Int32) - (u0 * u0)))))) * ((2 : Int32) - (u0 * ((u0 * ((2 : Int32) - (u0 * u0))) * ((2 : Int32) - (u0 * (u0 * ((2 : Int32) - (u0 * u0)))))))))))))]) rfl ?_
    show Steps p.tables e below (s₁.setTop (mkF m 34 #[.val (.int u0), .val (.int ((((u0 * ((2 : Int32) - (u0 * u0))) * ((2 : Int32) - (u0 * (u0 * ((2 : Int32) - (u0 * u0)))))) * ((2 : Int32) - (u0 * ((u0 * ((2 : Int32) - (u0 * u0))) * ((2 : Int32) - (u0 * (u0 * ((2 : Int32) - (u0 * u0))))))))) * ((2 : Int32) - (u0 * (((u0 * ((2 : Int32) - (u0 * u0))) * ((2 : Int32) - (u0 * (u0 * ((2 : Int32) - (u0 * u0)))))) * ((2 : Int32) - (u0 * ((u0 * ((2 : Int32) - (u0 * u0))) * ((2 : Int32) - (u0 * (u0 * ((2 : Int32) - (u0 * u0)))))))))))))] [])) t
    refine XS.iloadN X0.here hx rfl (hb hby d2_34) rfl ?_
    exact kt
  obtain ⟨fs, hr, hrun, hended, hW, hsame⟩ := X0.leave (v := some (.int ((((u0 * ((2 : Int32) - (u0 * u0))) * ((2 : Int32) - (u0 * (u0 * ((2 : Int32) - (u0 * u0)))))) * ((2 : Int32) - (u0 * ((u0 * ((2 : Int32) - (u0 * u0))) * ((2 : Int32) - (u0 * (u0 * ((2 : Int32) - (u0 * u0))))))))) * ((2 : Int32) - (u0 * (((u0 * ((2 : Int32) - (u0 * u0))) * ((2 : Int32) - (u0 * (u0 * ((2 : Int32) - (u0 * u0)))))) * ((2 : Int32) - (u0 * ((u0 * ((2 : Int32) - (u0 * u0))) * ((2 : Int32) - (u0 * (u0 * ((2 : Int32) - (u0 * u0)))))))))))))) (fun h => by rw [Bd.returns] at h; cases h)
  refine ⟨_, _, pre0 _ (s2 _ (?_)), hrun, hended, _, _, rfl, ?_, ⟨_, rfl⟩, hW, hsame.mono (by decide) (by decide)⟩
  · show Steps p.tables e below (s₁.setTop (mkF m 35 #[.val (.int u0), .val (.int ((((u0 * ((2 : Int32) - (u0 * u0))) * ((2 : Int32) - (u0 * (u0 * ((2 : Int32) - (u0 * u0)))))) * ((2 : Int32) - (u0 * ((u0 * ((2 : Int32) - (u0 * u0))) * ((2 : Int32) - (u0 * (u0 * ((2 : Int32) - (u0 * u0))))))))) * ((2 : Int32) - (u0 * (((u0 * ((2 : Int32) - (u0 * u0))) * ((2 : Int32) - (u0 * (u0 * ((2 : Int32) - (u0 * u0)))))) * ((2 : Int32) - (u0 * ((u0 * ((2 : Int32) - (u0 * u0))) * ((2 : Int32) - (u0 * (u0 * ((2 : Int32) - (u0 * u0)))))))))))))] [(.int ((((u0 * ((2 : Int32) - (u0 * u0))) * ((2 : Int32) - (u0 * (u0 * ((2 : Int32) - (u0 * u0)))))) * ((2 : Int32) - (u0 * ((u0 * ((2 : Int32) - (u0 * u0))) * ((2 : Int32) - (u0 * (u0 * ((2 : Int32) - (u0 * u0))))))))) * ((2 : Int32) - (u0 * (((u0 * ((2 : Int32) - (u0 * u0))) * ((2 : Int32) - (u0 * (u0 * ((2 : Int32) - (u0 * u0)))))) * ((2 : Int32) - (u0 * ((u0 * ((2 : Int32) - (u0 * u0))) * ((2 : Int32) - (u0 * (u0 * ((2 : Int32) - (u0 * u0)))))))))))))])) _
    exact retI X0 hx Bd.returns (hb hby d2_35) hr
  · show Q2 Z u0 h0 n0 _ s₁.heap _
    rw [e0]
    exact ⟨rfl, N0, rfl⟩
def Q3 (Z : State) (u0 : Int32) (h0 : Heap) (n0 : Nat) (v : Option Value) (h : Heap) (L : List Loc) : Prop := v = some (.int (funmix u0)) ∧ Fr n0 L ∧ h = h0
set_option maxRecDepth 65536 in
set_option maxHeartbeats 40000000 in
theorem rm3 (l : Launch) (Z : State) (a0 : Array Value) (hw : ∀ d ∈ tables_1, d.before a0 Z = true) (ws : List Jvm.Cond) (u0 : Int32) (h0 : Heap) (n0 : Nat) (Z0 : n0 ≤ h0.size)  :
    MetFree l (⟨"com/example/tell_nothing/tellnothing/HashedTermCombinePinLaw", "unmix", "(I)I"⟩ : MethodName) (head1 (Jvm.Cond.code (⟨"com/example/tell_nothing/tellnothing/HashedTermCombinePinLaw", "unmix", "(I)I"⟩ : MethodName) method_3_code 2 (some .int) :: ws) ({ frames := 1, cells := 0, slots := 0, locals := 14 } : Room)) (fun a U => a = #[(.int u0)] ∧ Z.Warmed39 U.vm ∧ U.heap = h0) (fun _ _ _ _ _ => True) (fun _ U o U' => ∃ v L, o = .returned v ∧ Q3 Z u0 h0 n0 v U'.heap L ∧ FrameEnd U o U' L ({ frames := 1, cells := 0, slots := 0, locals := 14 } : Room).cells ({ frames := 1, cells := 0, slots := 0, locals := 14 } : Room).slots) := by
  refine MetFree.of_bodySF (plainFor_of_name pn_com_example_tell_nothing_tellnothing_HashedTermCombinePinLaw) hisR ?_
  intro p e s m args0 below meth c s₁ Bd hml0 hP hK
  obtain ⟨rfl, hZ, hh⟩ := hP
  have hx := Bd.exec
  have hby := Bd.bytes
  have hml : c.maxLocals = 2 := hml0
  have hown : s.vm.findClass "com/example/tell_nothing/tellnothing/HashedTermCombinePinLaw" = some m.cls := findClass_of_methodNamed Bd.named
  have hnm := (name_of_methodNamed Bd.named Bd.method).1
  have X0 : Stand p l e ({ frames := 1, cells := 0, slots := 0, locals := 14 } : Room) s m #[(.int u0)] below meth c s₁ [] 0 0 := Stand.of_body Bd
  have e0 : s₁.heap = h0 := by rw [← hh, Bd.state]; rfl
  have N0 := Fr.nil n0
  have pre0 : ∀ t, Steps p.tables e below (s₁.setTop (mkF m 0 #[.val (.int u0), .unset] [])) t → Steps p.tables e below (s₁.setTop (entryFrame m #[(.int u0)] 2)) t := fun t k => castTop (ef_3 m u0) k
  have s3 : ∀ t, Steps p.tables e below (s₁.setTop (mkF m 12 #[.val (.int u0), .val (.int (u0 ^^^ ((u0.toUInt32 >>> ((16 : Int32) &&& 31).toUInt32).toInt32)))] [(.int (-1028477387 : Int32)), (.int (u0 ^^^ ((u0.toUInt32 >>> ((16 : Int32) &&& 31).toUInt32).toInt32)))])) t → Steps p.tables e below (s₁.setTop (mkF m 0 #[.val (.int u0), .unset] [])) t := by
    intro t kt
    refine XS.iloadN X0.here hx rfl (hb hby d3_0) rfl ?_
    show Steps p.tables e below (s₁.setTop (mkF m 1 #[.val (.int u0), .unset] [(.int u0)])) t
    refine XS.istoreN X0.here hx rfl (hb hby d3_1) rfl (l' := #[.val (.int u0), .val (.int u0)]) rfl ?_
    show Steps p.tables e below (s₁.setTop (mkF m 2 #[.val (.int u0), .val (.int u0)] [])) t
    refine XS.iloadN X0.here hx rfl (hb hby d3_2) rfl ?_
    show Steps p.tables e below (s₁.setTop (mkF m 3 #[.val (.int u0), .val (.int u0)] [(.int u0)])) t
    refine XS.iloadN X0.here hx rfl (hb hby d3_3) rfl ?_
    show Steps p.tables e below (s₁.setTop (mkF m 4 #[.val (.int u0), .val (.int u0)] [(.int u0), (.int u0)])) t
    refine XS.bipush X0.here hx rfl (hb hby d3_4) ?_
    show Steps p.tables e below (s₁.setTop (mkF m 6 #[.val (.int u0), .val (.int u0)] [(.int (16 : Int32)), (.int u0), (.int u0)])) t
    refine XS.iushr X0.here hx rfl (hb hby d3_6) rfl ?_
    show Steps p.tables e below (s₁.setTop (mkF m 7 #[.val (.int u0), .val (.int u0)] [(.int ((u0.toUInt32 >>> ((16 : Int32) &&& 31).toUInt32).toInt32)), (.int u0)])) t
    refine XS.ixor X0.here hx rfl (hb hby d3_7) rfl ?_
    show Steps p.tables e below (s₁.setTop (mkF m 8 #[.val (.int u0), .val (.int u0)] [(.int (u0 ^^^ ((u0.toUInt32 >>> ((16 : Int32) &&& 31).toUInt32).toInt32)))])) t
    refine XS.istoreN X0.here hx rfl (hb hby d3_8) rfl (l' := #[.val (.int u0), .val (.int (u0 ^^^ ((u0.toUInt32 >>> ((16 : Int32) &&& 31).toUInt32).toInt32)))]) rfl ?_
    show Steps p.tables e below (s₁.setTop (mkF m 9 #[.val (.int u0), .val (.int (u0 ^^^ ((u0.toUInt32 >>> ((16 : Int32) &&& 31).toUInt32).toInt32)))] [])) t
    refine XS.iloadN X0.here hx rfl (hb hby d3_9) rfl ?_
    show Steps p.tables e below (s₁.setTop (mkF m 10 #[.val (.int u0), .val (.int (u0 ^^^ ((u0.toUInt32 >>> ((16 : Int32) &&& 31).toUInt32).toInt32)))] [(.int (u0 ^^^ ((u0.toUInt32 >>> ((16 : Int32) &&& 31).toUInt32).toInt32)))])) t
    refine X0.ldcInt hx hown (mvT hZ (hw _ (List.mem_of_getElem? (i := 12) rfl))) (g := (mkF m 10 #[.val (.int u0), .val (.int (u0 ^^^ ((u0.toUInt32 >>> ((16 : Int32) &&& 31).toUInt32).toInt32)))] [(.int (u0 ^^^ ((u0.toUInt32 >>> ((16 : Int32) &&& 31).toUInt32).toInt32)))])) rfl (hb hby d3_10) _ ?_
    exact kt
  obtain ⟨_, _, ⟨T4, L4, k4, n4⟩, -, X4, ⟨Lc4, hQ4, l4, y4, z4⟩, st4⟩ := Jvm.LawKit.callS X0 hx (y := (⟨"com/example/tell_nothing/tellnothing/HashedTermCombinePinLaw", "inverse", "(I)I"⟩ : MethodName)) hown (mvT hZ (hw _ (List.mem_of_getElem? (i := 13) rfl))) (mvT hZ (hw _ (List.mem_of_getElem? (i := 14) rfl))) (mvT hZ (hw _ (List.mem_of_getElem? (i := 10) rfl))) (mvT hZ (hw _ (List.mem_of_getElem? (i := 15) rfl))) (by decide) (backOf (W := 1) (rm2 l Z a0 hw [] (-1028477387 : Int32) h0 n0 Z0 ) hZ (hw _ (List.mem_of_getElem? (i := 15) rfl)) (hw _ (List.mem_of_getElem? (i := 10) rfl)) (by decide) (by decide)) (g := (mkF m 12 #[.val (.int u0), .val (.int (u0 ^^^ ((u0.toUInt32 >>> ((16 : Int32) &&& 31).toUInt32).toInt32)))] [(.int (-1028477387 : Int32)), (.int (u0 ^^^ ((u0.toUInt32 >>> ((16 : Int32) &&& 31).toUInt32).toInt32)))])) rfl (by rw [hml]; rfl) (argsL := [(.int (-1028477387 : Int32))]) (rest := [(.int (u0 ^^^ ((u0.toUInt32 >>> ((16 : Int32) &&& 31).toUInt32).toInt32)))]) (lenOf pd_oIcI rfl) rfl (by show 2 * 0 + _ ≤ _; exact Nat.le_of_eq rfl) (hb hby d3_12) (fun _ _ => ⟨rfl, e0, (by decide : 0 + 0 ≤ _), (by decide : 0 + 0 ≤ _)⟩)
  dsimp only [Pt.U, Pt.locs, Pt.cells, Pt.slots] at X4 l4 y4 z4 st4 hQ4
  subst l4 y4 z4
  obtain ⟨rfl, N4q, e4q⟩ := hQ4
  have N4 := Fr.app N0 N4q
  have s5 : ∀ t, Steps p.tables e below (T4.setTop (mkF m 32 #[.val (.int u0), .val (.int (((u0 ^^^ ((u0.toUInt32 >>> ((16 : Int32) &&& 31).toUInt32).toInt32)) * (finverse (-1028477387 : Int32))) ^^^ (((((u0 ^^^ ((u0.toUInt32 >>> ((16 : Int32) &&& 31).toUInt32).toInt32)) * (finverse (-1028477387 : Int32))).toUInt32 >>> ((13 : Int32) &&& 31).toUInt32).toInt32) ^^^ ((((u0 ^^^ ((u0.toUInt32 >>> ((16 : Int32) &&& 31).toUInt32).toInt32)) * (finverse (-1028477387 : Int32))).toUInt32 >>> ((26 : Int32) &&& 31).toUInt32).toInt32))))] [(.int (-2048144789 : Int32)), (.int (((u0 ^^^ ((u0.toUInt32 >>> ((16 : Int32) &&& 31).toUInt32).toInt32)) * (finverse (-1028477387 : Int32))) ^^^ (((((u0 ^^^ ((u0.toUInt32 >>> ((16 : Int32) &&& 31).toUInt32).toInt32)) * (finverse (-1028477387 : Int32))).toUInt32 >>> ((13 : Int32) &&& 31).toUInt32).toInt32) ^^^ ((((u0 ^^^ ((u0.toUInt32 >>> ((16 : Int32) &&& 31).toUInt32).toInt32)) * (finverse (-1028477387 : Int32))).toUInt32 >>> ((26 : Int32) &&& 31).toUInt32).toInt32))))])) t → Steps p.tables e below (T4.setTop (mkF m 15 #[.val (.int u0), .val (.int (u0 ^^^ ((u0.toUInt32 >>> ((16 : Int32) &&& 31).toUInt32).toInt32)))] [(.int (finverse (-1028477387 : Int32))), (.int (u0 ^^^ ((u0.toUInt32 >>> ((16 : Int32) &&& 31).toUInt32).toInt32)))])) t := by
    intro t kt
    refine XS.imul X4.here hx rfl (hb hby d3_15) rfl ?_
    show Steps p.tables e below (T4.setTop (mkF m 16 #[.val (.int u0), .val (.int (u0 ^^^ ((u0.toUInt32 >>> ((16 : Int32) &&& 31).toUInt32).toInt32)))] [(.int ((u0 ^^^ ((u0.toUInt32 >>> ((16 : Int32) &&& 31).toUInt32).toInt32)) * (finverse (-1028477387 : Int32))))])) t
    refine XS.istoreN X4.here hx rfl (hb hby d3_16) rfl (l' := #[.val (.int u0), .val (.int ((u0 ^^^ ((u0.toUInt32 >>> ((16 : Int32) &&& 31).toUInt32).toInt32)) * (finverse (-1028477387 : Int32))))]) rfl ?_
    show Steps p.tables e below (T4.setTop (mkF m 17 #[.val (.int u0), .val (.int ((u0 ^^^ ((u0.toUInt32 >>> ((16 : Int32) &&& 31).toUInt32).toInt32)) * (finverse (-1028477387 : Int32))))] [])) t
    refine XS.iloadN X4.here hx rfl (hb hby d3_17) rfl ?_
    show Steps p.tables e below (T4.setTop (mkF m 18 #[.val (.int u0), .val (.int ((u0 ^^^ ((u0.toUInt32 >>> ((16 : Int32) &&& 31).toUInt32).toInt32)) * (finverse (-1028477387 : Int32))))] [(.int ((u0 ^^^ ((u0.toUInt32 >>> ((16 : Int32) &&& 31).toUInt32).toInt32)) * (finverse (-1028477387 : Int32))))])) t
    refine XS.iloadN X4.here hx rfl (hb hby d3_18) rfl ?_
    show Steps p.tables e below (T4.setTop (mkF m 19 #[.val (.int u0), .val (.int ((u0 ^^^ ((u0.toUInt32 >>> ((16 : Int32) &&& 31).toUInt32).toInt32)) * (finverse (-1028477387 : Int32))))] [(.int ((u0 ^^^ ((u0.toUInt32 >>> ((16 : Int32) &&& 31).toUInt32).toInt32)) * (finverse (-1028477387 : Int32)))), (.int ((u0 ^^^ ((u0.toUInt32 >>> ((16 : Int32) &&& 31).toUInt32).toInt32)) * (finverse (-1028477387 : Int32))))])) t
    refine XS.bipush X4.here hx rfl (hb hby d3_19) ?_
    show Steps p.tables e below (T4.setTop (mkF m 21 #[.val (.int u0), .val (.int ((u0 ^^^ ((u0.toUInt32 >>> ((16 : Int32) &&& 31).toUInt32).toInt32)) * (finverse (-1028477387 : Int32))))] [(.int (13 : Int32)), (.int ((u0 ^^^ ((u0.toUInt32 >>> ((16 : Int32) &&& 31).toUInt32).toInt32)) * (finverse (-1028477387 : Int32)))), (.int ((u0 ^^^ ((u0.toUInt32 >>> ((16 : Int32) &&& 31).toUInt32).toInt32)) * (finverse (-1028477387 : Int32))))])) t
    refine XS.iushr X4.here hx rfl (hb hby d3_21) rfl ?_
    show Steps p.tables e below (T4.setTop (mkF m 22 #[.val (.int u0), .val (.int ((u0 ^^^ ((u0.toUInt32 >>> ((16 : Int32) &&& 31).toUInt32).toInt32)) * (finverse (-1028477387 : Int32))))] [(.int ((((u0 ^^^ ((u0.toUInt32 >>> ((16 : Int32) &&& 31).toUInt32).toInt32)) * (finverse (-1028477387 : Int32))).toUInt32 >>> ((13 : Int32) &&& 31).toUInt32).toInt32)), (.int ((u0 ^^^ ((u0.toUInt32 >>> ((16 : Int32) &&& 31).toUInt32).toInt32)) * (finverse (-1028477387 : Int32))))])) t
    refine XS.iloadN X4.here hx rfl (hb hby d3_22) rfl ?_
    show Steps p.tables e below (T4.setTop (mkF m 23 #[.val (.int u0), .val (.int ((u0 ^^^ ((u0.toUInt32 >>> ((16 : Int32) &&& 31).toUInt32).toInt32)) * (finverse (-1028477387 : Int32))))] [(.int ((u0 ^^^ ((u0.toUInt32 >>> ((16 : Int32) &&& 31).toUInt32).toInt32)) * (finverse (-1028477387 : Int32)))), (.int ((((u0 ^^^ ((u0.toUInt32 >>> ((16 : Int32) &&& 31).toUInt32).toInt32)) * (finverse (-1028477387 : Int32))).toUInt32 >>> ((13 : Int32) &&& 31).toUInt32).toInt32)), (.int ((u0 ^^^ ((u0.toUInt32 >>> ((16 : Int32) &&& 31).toUInt32).toInt32)) * (finverse (-1028477387 : Int32))))])) t
    refine XS.bipush X4.here hx rfl (hb hby d3_23) ?_
    show Steps p.tables e below (T4.setTop (mkF m 25 #[.val (.int u0), .val (.int ((u0 ^^^ ((u0.toUInt32 >>> ((16 : Int32) &&& 31).toUInt32).toInt32)) * (finverse (-1028477387 : Int32))))] [(.int (26 : Int32)), (.int ((u0 ^^^ ((u0.toUInt32 >>> ((16 : Int32) &&& 31).toUInt32).toInt32)) * (finverse (-1028477387 : Int32)))), (.int ((((u0 ^^^ ((u0.toUInt32 >>> ((16 : Int32) &&& 31).toUInt32).toInt32)) * (finverse (-1028477387 : Int32))).toUInt32 >>> ((13 : Int32) &&& 31).toUInt32).toInt32)), (.int ((u0 ^^^ ((u0.toUInt32 >>> ((16 : Int32) &&& 31).toUInt32).toInt32)) * (finverse (-1028477387 : Int32))))])) t
    refine XS.iushr X4.here hx rfl (hb hby d3_25) rfl ?_
    show Steps p.tables e below (T4.setTop (mkF m 26 #[.val (.int u0), .val (.int ((u0 ^^^ ((u0.toUInt32 >>> ((16 : Int32) &&& 31).toUInt32).toInt32)) * (finverse (-1028477387 : Int32))))] [(.int ((((u0 ^^^ ((u0.toUInt32 >>> ((16 : Int32) &&& 31).toUInt32).toInt32)) * (finverse (-1028477387 : Int32))).toUInt32 >>> ((26 : Int32) &&& 31).toUInt32).toInt32)), (.int ((((u0 ^^^ ((u0.toUInt32 >>> ((16 : Int32) &&& 31).toUInt32).toInt32)) * (finverse (-1028477387 : Int32))).toUInt32 >>> ((13 : Int32) &&& 31).toUInt32).toInt32)), (.int ((u0 ^^^ ((u0.toUInt32 >>> ((16 : Int32) &&& 31).toUInt32).toInt32)) * (finverse (-1028477387 : Int32))))])) t
    refine XS.ixor X4.here hx rfl (hb hby d3_26) rfl ?_
    show Steps p.tables e below (T4.setTop (mkF m 27 #[.val (.int u0), .val (.int ((u0 ^^^ ((u0.toUInt32 >>> ((16 : Int32) &&& 31).toUInt32).toInt32)) * (finverse (-1028477387 : Int32))))] [(.int (((((u0 ^^^ ((u0.toUInt32 >>> ((16 : Int32) &&& 31).toUInt32).toInt32)) * (finverse (-1028477387 : Int32))).toUInt32 >>> ((13 : Int32) &&& 31).toUInt32).toInt32) ^^^ ((((u0 ^^^ ((u0.toUInt32 >>> ((16 : Int32) &&& 31).toUInt32).toInt32)) * (finverse (-1028477387 : Int32))).toUInt32 >>> ((26 : Int32) &&& 31).toUInt32).toInt32))), (.int ((u0 ^^^ ((u0.toUInt32 >>> ((16 : Int32) &&& 31).toUInt32).toInt32)) * (finverse (-1028477387 : Int32))))])) t
    refine XS.ixor X4.here hx rfl (hb hby d3_27) rfl ?_
    show Steps p.tables e below (T4.setTop (mkF m 28 #[.val (.int u0), .val (.int ((u0 ^^^ ((u0.toUInt32 >>> ((16 : Int32) &&& 31).toUInt32).toInt32)) * (finverse (-1028477387 : Int32))))] [(.int (((u0 ^^^ ((u0.toUInt32 >>> ((16 : Int32) &&& 31).toUInt32).toInt32)) * (finverse (-1028477387 : Int32))) ^^^ (((((u0 ^^^ ((u0.toUInt32 >>> ((16 : Int32) &&& 31).toUInt32).toInt32)) * (finverse (-1028477387 : Int32))).toUInt32 >>> ((13 : Int32) &&& 31).toUInt32).toInt32) ^^^ ((((u0 ^^^ ((u0.toUInt32 >>> ((16 : Int32) &&& 31).toUInt32).toInt32)) * (finverse (-1028477387 : Int32))).toUInt32 >>> ((26 : Int32) &&& 31).toUInt32).toInt32))))])) t
    refine XS.istoreN X4.here hx rfl (hb hby d3_28) rfl (l' := #[.val (.int u0), .val (.int (((u0 ^^^ ((u0.toUInt32 >>> ((16 : Int32) &&& 31).toUInt32).toInt32)) * (finverse (-1028477387 : Int32))) ^^^ (((((u0 ^^^ ((u0.toUInt32 >>> ((16 : Int32) &&& 31).toUInt32).toInt32)) * (finverse (-1028477387 : Int32))).toUInt32 >>> ((13 : Int32) &&& 31).toUInt32).toInt32) ^^^ ((((u0 ^^^ ((u0.toUInt32 >>> ((16 : Int32) &&& 31).toUInt32).toInt32)) * (finverse (-1028477387 : Int32))).toUInt32 >>> ((26 : Int32) &&& 31).toUInt32).toInt32))))]) rfl ?_
    show Steps p.tables e below (T4.setTop (mkF m 29 #[.val (.int u0), .val (.int (((u0 ^^^ ((u0.toUInt32 >>> ((16 : Int32) &&& 31).toUInt32).toInt32)) * (finverse (-1028477387 : Int32))) ^^^ (((((u0 ^^^ ((u0.toUInt32 >>> ((16 : Int32) &&& 31).toUInt32).toInt32)) * (finverse (-1028477387 : Int32))).toUInt32 >>> ((13 : Int32) &&& 31).toUInt32).toInt32) ^^^ ((((u0 ^^^ ((u0.toUInt32 >>> ((16 : Int32) &&& 31).toUInt32).toInt32)) * (finverse (-1028477387 : Int32))).toUInt32 >>> ((26 : Int32) &&& 31).toUInt32).toInt32))))] [])) t
    refine XS.iloadN X4.here hx rfl (hb hby d3_29) rfl ?_
    show Steps p.tables e below (T4.setTop (mkF m 30 #[.val (.int u0), .val (.int (((u0 ^^^ ((u0.toUInt32 >>> ((16 : Int32) &&& 31).toUInt32).toInt32)) * (finverse (-1028477387 : Int32))) ^^^ (((((u0 ^^^ ((u0.toUInt32 >>> ((16 : Int32) &&& 31).toUInt32).toInt32)) * (finverse (-1028477387 : Int32))).toUInt32 >>> ((13 : Int32) &&& 31).toUInt32).toInt32) ^^^ ((((u0 ^^^ ((u0.toUInt32 >>> ((16 : Int32) &&& 31).toUInt32).toInt32)) * (finverse (-1028477387 : Int32))).toUInt32 >>> ((26 : Int32) &&& 31).toUInt32).toInt32))))] [(.int (((u0 ^^^ ((u0.toUInt32 >>> ((16 : Int32) &&& 31).toUInt32).toInt32)) * (finverse (-1028477387 : Int32))) ^^^ (((((u0 ^^^ ((u0.toUInt32 >>> ((16 : Int32) &&& 31).toUInt32).toInt32)) * (finverse (-1028477387 : Int32))).toUInt32 >>> ((13 : Int32) &&& 31).toUInt32).toInt32) ^^^ ((((u0 ^^^ ((u0.toUInt32 >>> ((16 : Int32) &&& 31).toUInt32).toInt32)) * (finverse (-1028477387 : Int32))).toUInt32 >>> ((26 : Int32) &&& 31).toUInt32).toInt32))))])) t
    refine X4.ldcInt hx hown (mvT hZ (hw _ (List.mem_of_getElem? (i := 16) rfl))) (g := (mkF m 30 #[.val (.int u0), .val (.int (((u0 ^^^ ((u0.toUInt32 >>> ((16 : Int32) &&& 31).toUInt32).toInt32)) * (finverse (-1028477387 : Int32))) ^^^ (((((u0 ^^^ ((u0.toUInt32 >>> ((16 : Int32) &&& 31).toUInt32).toInt32)) * (finverse (-1028477387 : Int32))).toUInt32 >>> ((13 : Int32) &&& 31).toUInt32).toInt32) ^^^ ((((u0 ^^^ ((u0.toUInt32 >>> ((16 : Int32) &&& 31).toUInt32).toInt32)) * (finverse (-1028477387 : Int32))).toUInt32 >>> ((26 : Int32) &&& 31).toUInt32).toInt32))))] [(.int (((u0 ^^^ ((u0.toUInt32 >>> ((16 : Int32) &&& 31).toUInt32).toInt32)) * (finverse (-1028477387 : Int32))) ^^^ (((((u0 ^^^ ((u0.toUInt32 >>> ((16 : Int32) &&& 31).toUInt32).toInt32)) * (finverse (-1028477387 : Int32))).toUInt32 >>> ((13 : Int32) &&& 31).toUInt32).toInt32) ^^^ ((((u0 ^^^ ((u0.toUInt32 >>> ((16 : Int32) &&& 31).toUInt32).toInt32)) * (finverse (-1028477387 : Int32))).toUInt32 >>> ((26 : Int32) &&& 31).toUInt32).toInt32))))])) rfl (hb hby d3_30) _ ?_
    exact kt
  obtain ⟨_, _, ⟨T6, L6, k6, n6⟩, -, X6, ⟨Lc6, hQ6, l6, y6, z6⟩, st6⟩ := Jvm.LawKit.callS X4 hx (y := (⟨"com/example/tell_nothing/tellnothing/HashedTermCombinePinLaw", "inverse", "(I)I"⟩ : MethodName)) hown (mvT hZ (hw _ (List.mem_of_getElem? (i := 13) rfl))) (mvT hZ (hw _ (List.mem_of_getElem? (i := 14) rfl))) (mvT hZ (hw _ (List.mem_of_getElem? (i := 10) rfl))) (mvT hZ (hw _ (List.mem_of_getElem? (i := 15) rfl))) (by decide) (backOf (W := 1) (rm2 l Z a0 hw [] (-2048144789 : Int32) h0 n0 Z0 ) hZ (hw _ (List.mem_of_getElem? (i := 15) rfl)) (hw _ (List.mem_of_getElem? (i := 10) rfl)) (by decide) (by decide)) (g := (mkF m 32 #[.val (.int u0), .val (.int (((u0 ^^^ ((u0.toUInt32 >>> ((16 : Int32) &&& 31).toUInt32).toInt32)) * (finverse (-1028477387 : Int32))) ^^^ (((((u0 ^^^ ((u0.toUInt32 >>> ((16 : Int32) &&& 31).toUInt32).toInt32)) * (finverse (-1028477387 : Int32))).toUInt32 >>> ((13 : Int32) &&& 31).toUInt32).toInt32) ^^^ ((((u0 ^^^ ((u0.toUInt32 >>> ((16 : Int32) &&& 31).toUInt32).toInt32)) * (finverse (-1028477387 : Int32))).toUInt32 >>> ((26 : Int32) &&& 31).toUInt32).toInt32))))] [(.int (-2048144789 : Int32)), (.int (((u0 ^^^ ((u0.toUInt32 >>> ((16 : Int32) &&& 31).toUInt32).toInt32)) * (finverse (-1028477387 : Int32))) ^^^ (((((u0 ^^^ ((u0.toUInt32 >>> ((16 : Int32) &&& 31).toUInt32).toInt32)) * (finverse (-1028477387 : Int32))).toUInt32 >>> ((13 : Int32) &&& 31).toUInt32).toInt32) ^^^ ((((u0 ^^^ ((u0.toUInt32 >>> ((16 : Int32) &&& 31).toUInt32).toInt32)) * (finverse (-1028477387 : Int32))).toUInt32 >>> ((26 : Int32) &&& 31).toUInt32).toInt32))))])) rfl (by rw [hml]; rfl) (argsL := [(.int (-2048144789 : Int32))]) (rest := [(.int (((u0 ^^^ ((u0.toUInt32 >>> ((16 : Int32) &&& 31).toUInt32).toInt32)) * (finverse (-1028477387 : Int32))) ^^^ (((((u0 ^^^ ((u0.toUInt32 >>> ((16 : Int32) &&& 31).toUInt32).toInt32)) * (finverse (-1028477387 : Int32))).toUInt32 >>> ((13 : Int32) &&& 31).toUInt32).toInt32) ^^^ ((((u0 ^^^ ((u0.toUInt32 >>> ((16 : Int32) &&& 31).toUInt32).toInt32)) * (finverse (-1028477387 : Int32))).toUInt32 >>> ((26 : Int32) &&& 31).toUInt32).toInt32))))]) (lenOf pd_oIcI rfl) rfl (by show 2 * 0 + _ ≤ _; exact Nat.le_of_eq rfl) (hb hby d3_32) (fun _ _ => ⟨rfl, e4q, (by decide : 0 + 0 ≤ _), (by decide : 0 + 0 ≤ _)⟩)
  dsimp only [Pt.U, Pt.locs, Pt.cells, Pt.slots] at X6 l6 y6 z6 st6 hQ6
  subst l6 y6 z6
  obtain ⟨rfl, N6q, e6q⟩ := hQ6
  have N6 := Fr.app N4 N6q
  have s7 : ∀ t, Steps p.tables e below (T6.setTop (mkF m 45 #[.val (.int u0), .val (.int (((((u0 ^^^ ((u0.toUInt32 >>> ((16 : Int32) &&& 31).toUInt32).toInt32)) * (finverse (-1028477387 : Int32))) ^^^ (((((u0 ^^^ ((u0.toUInt32 >>> ((16 : Int32) &&& 31).toUInt32).toInt32)) * (finverse (-1028477387 : Int32))).toUInt32 >>> ((13 : Int32) &&& 31).toUInt32).toInt32) ^^^ ((((u0 ^^^ ((u0.toUInt32 >>> ((16 : Int32) &&& 31).toUInt32).toInt32)) * (finverse (-1028477387 : Int32))).toUInt32 >>> ((26 : Int32) &&& 31).toUInt32).toInt32))) * (finverse (-2048144789 : Int32))) ^^^ ((((((u0 ^^^ ((u0.toUInt32 >>> ((16 : Int32) &&& 31).toUInt32).toInt32)) * (finverse (-1028477387 : Int32))) ^^^ (((((u0 ^^^ ((u0.toUInt32 >>> ((16 : Int32) &&& 31).toUInt32).toInt32)) * (finverse (-1028477387 : Int32))).toUInt32 >>> ((13 : Int32) &&& 31).toUInt32).toInt32) ^^^ ((((u0 ^^^ ((u0.toUInt32 >>> ((16 : Int32) &&& 31).toUInt32).toInt32)) * (finverse (-1028477387 : Int32))).toUInt32 >>> ((26 : Int32) &&& 31).toUInt32).toInt32))) * (finverse (-2048144789 : Int32))).toUInt32 >>> ((16 : Int32) &&& 31).toUInt32).toInt32)))] [(.int (((((u0 ^^^ ((u0.toUInt32 >>> ((16 : Int32) &&& 31).toUInt32).toInt32)) * (finverse (-1028477387 : Int32))) ^^^ (((((u0 ^^^ ((u0.toUInt32 >>> ((16 : Int32) &&& 31).toUInt32).toInt32)) * (finverse (-1028477387 : Int32))).toUInt32 >>> ((13 : Int32) &&& 31).toUInt32).toInt32) ^^^ ((((u0 ^^^ ((u0.toUInt32 >>> ((16 : Int32) &&& 31).toUInt32).toInt32)) * (finverse (-1028477387 : Int32))).toUInt32 >>> ((26 : Int32) &&& 31).toUInt32).toInt32))) * (finverse (-2048144789 : Int32))) ^^^ ((((((u0 ^^^ ((u0.toUInt32 >>> ((16 : Int32) &&& 31).toUInt32).toInt32)) * (finverse (-1028477387 : Int32))) ^^^ (((((u0 ^^^ ((u0.toUInt32 >>> ((16 : Int32) &&& 31).toUInt32).toInt32)) * (finverse (-1028477387 : Int32))).toUInt32 >>> ((13 : Int32) &&& 31).toUInt32).toInt32) ^^^ ((((u0 ^^^ ((u0.toUInt32 >>> ((16 : Int32) &&& 31).toUInt32).toInt32)) * (finverse (-1028477387 : Int32))).toUInt32 >>> ((26 : Int32) &&& 31).toUInt32).toInt32))) * (finverse (-2048144789 : Int32))).toUInt32 >>> ((16 : Int32) &&& 31).toUInt32).toInt32)))])) t → Steps p.tables e below (T6.setTop (mkF m 35 #[.val (.int u0), .val (.int (((u0 ^^^ ((u0.toUInt32 >>> ((16 : Int32) &&& 31).toUInt32).toInt32)) * (finverse (-1028477387 : Int32))) ^^^ (((((u0 ^^^ ((u0.toUInt32 >>> ((16 : Int32) &&& 31).toUInt32).toInt32)) * (finverse (-1028477387 : Int32))).toUInt32 >>> ((13 : Int32) &&& 31).toUInt32).toInt32) ^^^ ((((u0 ^^^ ((u0.toUInt32 >>> ((16 : Int32) &&& 31).toUInt32).toInt32)) * (finverse (-1028477387 : Int32))).toUInt32 >>> ((26 : Int32) &&& 31).toUInt32).toInt32))))] [(.int (finverse (-2048144789 : Int32))), (.int (((u0 ^^^ ((u0.toUInt32 >>> ((16 : Int32) &&& 31).toUInt32).toInt32)) * (finverse (-1028477387 : Int32))) ^^^ (((((u0 ^^^ ((u0.toUInt32 >>> ((16 : Int32) &&& 31).toUInt32).toInt32)) * (finverse (-1028477387 : Int32))).toUInt32 >>> ((13 : Int32) &&& 31).toUInt32).toInt32) ^^^ ((((u0 ^^^ ((u0.toUInt32 >>> ((16 : Int32) &&& 31).toUInt32).toInt32)) * (finverse (-1028477387 : Int32))).toUInt32 >>> ((26 : Int32) &&& 31).toUInt32).toInt32))))])) t := by
    intro t kt
    refine XS.imul X6.here hx rfl (hb hby d3_35) rfl ?_
    show Steps p.tables e below (T6.setTop (mkF m 36 #[.val (.int u0), .val (.int (((u0 ^^^ ((u0.toUInt32 >>> ((16 : Int32) &&& 31).toUInt32).toInt32)) * (finverse (-1028477387 : Int32))) ^^^ (((((u0 ^^^ ((u0.toUInt32 >>> ((16 : Int32) &&& 31).toUInt32).toInt32)) * (finverse (-1028477387 : Int32))).toUInt32 >>> ((13 : Int32) &&& 31).toUInt32).toInt32) ^^^ ((((u0 ^^^ ((u0.toUInt32 >>> ((16 : Int32) &&& 31).toUInt32).toInt32)) * (finverse (-1028477387 : Int32))).toUInt32 >>> ((26 : Int32) &&& 31).toUInt32).toInt32))))] [(.int ((((u0 ^^^ ((u0.toUInt32 >>> ((16 : Int32) &&& 31).toUInt32).toInt32)) * (finverse (-1028477387 : Int32))) ^^^ (((((u0 ^^^ ((u0.toUInt32 >>> ((16 : Int32) &&& 31).toUInt32).toInt32)) * (finverse (-1028477387 : Int32))).toUInt32 >>> ((13 : Int32) &&& 31).toUInt32).toInt32) ^^^ ((((u0 ^^^ ((u0.toUInt32 >>> ((16 : Int32) &&& 31).toUInt32).toInt32)) * (finverse (-1028477387 : Int32))).toUInt32 >>> ((26 : Int32) &&& 31).toUInt32).toInt32))) * (finverse (-2048144789 : Int32))))])) t
    refine XS.istoreN X6.here hx rfl (hb hby d3_36) rfl (l' := #[.val (.int u0), .val (.int ((((u0 ^^^ ((u0.toUInt32 >>> ((16 : Int32) &&& 31).toUInt32).toInt32)) * (finverse (-1028477387 : Int32))) ^^^ (((((u0 ^^^ ((u0.toUInt32 >>> ((16 : Int32) &&& 31).toUInt32).toInt32)) * (finverse (-1028477387 : Int32))).toUInt32 >>> ((13 : Int32) &&& 31).toUInt32).toInt32) ^^^ ((((u0 ^^^ ((u0.toUInt32 >>> ((16 : Int32) &&& 31).toUInt32).toInt32)) * (finverse (-1028477387 : Int32))).toUInt32 >>> ((26 : Int32) &&& 31).toUInt32).toInt32))) * (finverse (-2048144789 : Int32))))]) rfl ?_
    show Steps p.tables e below (T6.setTop (mkF m 37 #[.val (.int u0), .val (.int ((((u0 ^^^ ((u0.toUInt32 >>> ((16 : Int32) &&& 31).toUInt32).toInt32)) * (finverse (-1028477387 : Int32))) ^^^ (((((u0 ^^^ ((u0.toUInt32 >>> ((16 : Int32) &&& 31).toUInt32).toInt32)) * (finverse (-1028477387 : Int32))).toUInt32 >>> ((13 : Int32) &&& 31).toUInt32).toInt32) ^^^ ((((u0 ^^^ ((u0.toUInt32 >>> ((16 : Int32) &&& 31).toUInt32).toInt32)) * (finverse (-1028477387 : Int32))).toUInt32 >>> ((26 : Int32) &&& 31).toUInt32).toInt32))) * (finverse (-2048144789 : Int32))))] [])) t
    refine XS.iloadN X6.here hx rfl (hb hby d3_37) rfl ?_
    show Steps p.tables e below (T6.setTop (mkF m 38 #[.val (.int u0), .val (.int ((((u0 ^^^ ((u0.toUInt32 >>> ((16 : Int32) &&& 31).toUInt32).toInt32)) * (finverse (-1028477387 : Int32))) ^^^ (((((u0 ^^^ ((u0.toUInt32 >>> ((16 : Int32) &&& 31).toUInt32).toInt32)) * (finverse (-1028477387 : Int32))).toUInt32 >>> ((13 : Int32) &&& 31).toUInt32).toInt32) ^^^ ((((u0 ^^^ ((u0.toUInt32 >>> ((16 : Int32) &&& 31).toUInt32).toInt32)) * (finverse (-1028477387 : Int32))).toUInt32 >>> ((26 : Int32) &&& 31).toUInt32).toInt32))) * (finverse (-2048144789 : Int32))))] [(.int ((((u0 ^^^ ((u0.toUInt32 >>> ((16 : Int32) &&& 31).toUInt32).toInt32)) * (finverse (-1028477387 : Int32))) ^^^ (((((u0 ^^^ ((u0.toUInt32 >>> ((16 : Int32) &&& 31).toUInt32).toInt32)) * (finverse (-1028477387 : Int32))).toUInt32 >>> ((13 : Int32) &&& 31).toUInt32).toInt32) ^^^ ((((u0 ^^^ ((u0.toUInt32 >>> ((16 : Int32) &&& 31).toUInt32).toInt32)) * (finverse (-1028477387 : Int32))).toUInt32 >>> ((26 : Int32) &&& 31).toUInt32).toInt32))) * (finverse (-2048144789 : Int32))))])) t
    refine XS.iloadN X6.here hx rfl (hb hby d3_38) rfl ?_
    show Steps p.tables e below (T6.setTop (mkF m 39 #[.val (.int u0), .val (.int ((((u0 ^^^ ((u0.toUInt32 >>> ((16 : Int32) &&& 31).toUInt32).toInt32)) * (finverse (-1028477387 : Int32))) ^^^ (((((u0 ^^^ ((u0.toUInt32 >>> ((16 : Int32) &&& 31).toUInt32).toInt32)) * (finverse (-1028477387 : Int32))).toUInt32 >>> ((13 : Int32) &&& 31).toUInt32).toInt32) ^^^ ((((u0 ^^^ ((u0.toUInt32 >>> ((16 : Int32) &&& 31).toUInt32).toInt32)) * (finverse (-1028477387 : Int32))).toUInt32 >>> ((26 : Int32) &&& 31).toUInt32).toInt32))) * (finverse (-2048144789 : Int32))))] [(.int ((((u0 ^^^ ((u0.toUInt32 >>> ((16 : Int32) &&& 31).toUInt32).toInt32)) * (finverse (-1028477387 : Int32))) ^^^ (((((u0 ^^^ ((u0.toUInt32 >>> ((16 : Int32) &&& 31).toUInt32).toInt32)) * (finverse (-1028477387 : Int32))).toUInt32 >>> ((13 : Int32) &&& 31).toUInt32).toInt32) ^^^ ((((u0 ^^^ ((u0.toUInt32 >>> ((16 : Int32) &&& 31).toUInt32).toInt32)) * (finverse (-1028477387 : Int32))).toUInt32 >>> ((26 : Int32) &&& 31).toUInt32).toInt32))) * (finverse (-2048144789 : Int32)))), (.int ((((u0 ^^^ ((u0.toUInt32 >>> ((16 : Int32) &&& 31).toUInt32).toInt32)) * (finverse (-1028477387 : Int32))) ^^^ (((((u0 ^^^ ((u0.toUInt32 >>> ((16 : Int32) &&& 31).toUInt32).toInt32)) * (finverse (-1028477387 : Int32))).toUInt32 >>> ((13 : Int32) &&& 31).toUInt32).toInt32) ^^^ ((((u0 ^^^ ((u0.toUInt32 >>> ((16 : Int32) &&& 31).toUInt32).toInt32)) * (finverse (-1028477387 : Int32))).toUInt32 >>> ((26 : Int32) &&& 31).toUInt32).toInt32))) * (finverse (-2048144789 : Int32))))])) t
    refine XS.bipush X6.here hx rfl (hb hby d3_39) ?_
    show Steps p.tables e below (T6.setTop (mkF m 41 #[.val (.int u0), .val (.int ((((u0 ^^^ ((u0.toUInt32 >>> ((16 : Int32) &&& 31).toUInt32).toInt32)) * (finverse (-1028477387 : Int32))) ^^^ (((((u0 ^^^ ((u0.toUInt32 >>> ((16 : Int32) &&& 31).toUInt32).toInt32)) * (finverse (-1028477387 : Int32))).toUInt32 >>> ((13 : Int32) &&& 31).toUInt32).toInt32) ^^^ ((((u0 ^^^ ((u0.toUInt32 >>> ((16 : Int32) &&& 31).toUInt32).toInt32)) * (finverse (-1028477387 : Int32))).toUInt32 >>> ((26 : Int32) &&& 31).toUInt32).toInt32))) * (finverse (-2048144789 : Int32))))] [(.int (16 : Int32)), (.int ((((u0 ^^^ ((u0.toUInt32 >>> ((16 : Int32) &&& 31).toUInt32).toInt32)) * (finverse (-1028477387 : Int32))) ^^^ (((((u0 ^^^ ((u0.toUInt32 >>> ((16 : Int32) &&& 31).toUInt32).toInt32)) * (finverse (-1028477387 : Int32))).toUInt32 >>> ((13 : Int32) &&& 31).toUInt32).toInt32) ^^^ ((((u0 ^^^ ((u0.toUInt32 >>> ((16 : Int32) &&& 31).toUInt32).toInt32)) * (finverse (-1028477387 : Int32))).toUInt32 >>> ((26 : Int32) &&& 31).toUInt32).toInt32))) * (finverse (-2048144789 : Int32)))), (.int ((((u0 ^^^ ((u0.toUInt32 >>> ((16 : Int32) &&& 31).toUInt32).toInt32)) * (finverse (-1028477387 : Int32))) ^^^ (((((u0 ^^^ ((u0.toUInt32 >>> ((16 : Int32) &&& 31).toUInt32).toInt32)) * (finverse (-1028477387 : Int32))).toUInt32 >>> ((13 : Int32) &&& 31).toUInt32).toInt32) ^^^ ((((u0 ^^^ ((u0.toUInt32 >>> ((16 : Int32) &&& 31).toUInt32).toInt32)) * (finverse (-1028477387 : Int32))).toUInt32 >>> ((26 : Int32) &&& 31).toUInt32).toInt32))) * (finverse (-2048144789 : Int32))))])) t
    refine XS.iushr X6.here hx rfl (hb hby d3_41) rfl ?_
    show Steps p.tables e below (T6.setTop (mkF m 42 #[.val (.int u0), .val (.int ((((u0 ^^^ ((u0.toUInt32 >>> ((16 : Int32) &&& 31).toUInt32).toInt32)) * (finverse (-1028477387 : Int32))) ^^^ (((((u0 ^^^ ((u0.toUInt32 >>> ((16 : Int32) &&& 31).toUInt32).toInt32)) * (finverse (-1028477387 : Int32))).toUInt32 >>> ((13 : Int32) &&& 31).toUInt32).toInt32) ^^^ ((((u0 ^^^ ((u0.toUInt32 >>> ((16 : Int32) &&& 31).toUInt32).toInt32)) * (finverse (-1028477387 : Int32))).toUInt32 >>> ((26 : Int32) &&& 31).toUInt32).toInt32))) * (finverse (-2048144789 : Int32))))] [(.int ((((((u0 ^^^ ((u0.toUInt32 >>> ((16 : Int32) &&& 31).toUInt32).toInt32)) * (finverse (-1028477387 : Int32))) ^^^ (((((u0 ^^^ ((u0.toUInt32 >>> ((16 : Int32) &&& 31).toUInt32).toInt32)) * (finverse (-1028477387 : Int32))).toUInt32 >>> ((13 : Int32) &&& 31).toUInt32).toInt32) ^^^ ((((u0 ^^^ ((u0.toUInt32 >>> ((16 : Int32) &&& 31).toUInt32).toInt32)) * (finverse (-1028477387 : Int32))).toUInt32 >>> ((26 : Int32) &&& 31).toUInt32).toInt32))) * (finverse (-2048144789 : Int32))).toUInt32 >>> ((16 : Int32) &&& 31).toUInt32).toInt32)), (.int ((((u0 ^^^ ((u0.toUInt32 >>> ((16 : Int32) &&& 31).toUInt32).toInt32)) * (finverse (-1028477387 : Int32))) ^^^ (((((u0 ^^^ ((u0.toUInt32 >>> ((16 : Int32) &&& 31).toUInt32).toInt32)) * (finverse (-1028477387 : Int32))).toUInt32 >>> ((13 : Int32) &&& 31).toUInt32).toInt32) ^^^ ((((u0 ^^^ ((u0.toUInt32 >>> ((16 : Int32) &&& 31).toUInt32).toInt32)) * (finverse (-1028477387 : Int32))).toUInt32 >>> ((26 : Int32) &&& 31).toUInt32).toInt32))) * (finverse (-2048144789 : Int32))))])) t
    refine XS.ixor X6.here hx rfl (hb hby d3_42) rfl ?_
    show Steps p.tables e below (T6.setTop (mkF m 43 #[.val (.int u0), .val (.int ((((u0 ^^^ ((u0.toUInt32 >>> ((16 : Int32) &&& 31).toUInt32).toInt32)) * (finverse (-1028477387 : Int32))) ^^^ (((((u0 ^^^ ((u0.toUInt32 >>> ((16 : Int32) &&& 31).toUInt32).toInt32)) * (finverse (-1028477387 : Int32))).toUInt32 >>> ((13 : Int32) &&& 31).toUInt32).toInt32) ^^^ ((((u0 ^^^ ((u0.toUInt32 >>> ((16 : Int32) &&& 31).toUInt32).toInt32)) * (finverse (-1028477387 : Int32))).toUInt32 >>> ((26 : Int32) &&& 31).toUInt32).toInt32))) * (finverse (-2048144789 : Int32))))] [(.int (((((u0 ^^^ ((u0.toUInt32 >>> ((16 : Int32) &&& 31).toUInt32).toInt32)) * (finverse (-1028477387 : Int32))) ^^^ (((((u0 ^^^ ((u0.toUInt32 >>> ((16 : Int32) &&& 31).toUInt32).toInt32)) * (finverse (-1028477387 : Int32))).toUInt32 >>> ((13 : Int32) &&& 31).toUInt32).toInt32) ^^^ ((((u0 ^^^ ((u0.toUInt32 >>> ((16 : Int32) &&& 31).toUInt32).toInt32)) * (finverse (-1028477387 : Int32))).toUInt32 >>> ((26 : Int32) &&& 31).toUInt32).toInt32))) * (finverse (-2048144789 : Int32))) ^^^ ((((((u0 ^^^ ((u0.toUInt32 >>> ((16 : Int32) &&& 31).toUInt32).toInt32)) * (finverse (-1028477387 : Int32))) ^^^ (((((u0 ^^^ ((u0.toUInt32 >>> ((16 : Int32) &&& 31).toUInt32).toInt32)) * (finverse (-1028477387 : Int32))).toUInt32 >>> ((13 : Int32) &&& 31).toUInt32).toInt32) ^^^ ((((u0 ^^^ ((u0.toUInt32 >>> ((16 : Int32) &&& 31).toUInt32).toInt32)) * (finverse (-1028477387 : Int32))).toUInt32 >>> ((26 : Int32) &&& 31).toUInt32).toInt32))) * (finverse (-2048144789 : Int32))).toUInt32 >>> ((16 : Int32) &&& 31).toUInt32).toInt32)))])) t
    refine XS.istoreN X6.here hx rfl (hb hby d3_43) rfl (l' := #[.val (.int u0), .val (.int (((((u0 ^^^ ((u0.toUInt32 >>> ((16 : Int32) &&& 31).toUInt32).toInt32)) * (finverse (-1028477387 : Int32))) ^^^ (((((u0 ^^^ ((u0.toUInt32 >>> ((16 : Int32) &&& 31).toUInt32).toInt32)) * (finverse (-1028477387 : Int32))).toUInt32 >>> ((13 : Int32) &&& 31).toUInt32).toInt32) ^^^ ((((u0 ^^^ ((u0.toUInt32 >>> ((16 : Int32) &&& 31).toUInt32).toInt32)) * (finverse (-1028477387 : Int32))).toUInt32 >>> ((26 : Int32) &&& 31).toUInt32).toInt32))) * (finverse (-2048144789 : Int32))) ^^^ ((((((u0 ^^^ ((u0.toUInt32 >>> ((16 : Int32) &&& 31).toUInt32).toInt32)) * (finverse (-1028477387 : Int32))) ^^^ (((((u0 ^^^ ((u0.toUInt32 >>> ((16 : Int32) &&& 31).toUInt32).toInt32)) * (finverse (-1028477387 : Int32))).toUInt32 >>> ((13 : Int32) &&& 31).toUInt32).toInt32) ^^^ ((((u0 ^^^ ((u0.toUInt32 >>> ((16 : Int32) &&& 31).toUInt32).toInt32)) * (finverse (-1028477387 : Int32))).toUInt32 >>> ((26 : Int32) &&& 31).toUInt32).toInt32))) * (finverse (-2048144789 : Int32))).toUInt32 >>> ((16 : Int32) &&& 31).toUInt32).toInt32)))]) rfl ?_
    show Steps p.tables e below (T6.setTop (mkF m 44 #[.val (.int u0), .val (.int (((((u0 ^^^ ((u0.toUInt32 >>> ((16 : Int32) &&& 31).toUInt32).toInt32)) * (finverse (-1028477387 : Int32))) ^^^ (((((u0 ^^^ ((u0.toUInt32 >>> ((16 : Int32) &&& 31).toUInt32).toInt32)) * (finverse (-1028477387 : Int32))).toUInt32 >>> ((13 : Int32) &&& 31).toUInt32).toInt32) ^^^ ((((u0 ^^^ ((u0.toUInt32 >>> ((16 : Int32) &&& 31).toUInt32).toInt32)) * (finverse (-1028477387 : Int32))).toUInt32 >>> ((26 : Int32) &&& 31).toUInt32).toInt32))) * (finverse (-2048144789 : Int32))) ^^^ ((((((u0 ^^^ ((u0.toUInt32 >>> ((16 : Int32) &&& 31).toUInt32).toInt32)) * (finverse (-1028477387 : Int32))) ^^^ (((((u0 ^^^ ((u0.toUInt32 >>> ((16 : Int32) &&& 31).toUInt32).toInt32)) * (finverse (-1028477387 : Int32))).toUInt32 >>> ((13 : Int32) &&& 31).toUInt32).toInt32) ^^^ ((((u0 ^^^ ((u0.toUInt32 >>> ((16 : Int32) &&& 31).toUInt32).toInt32)) * (finverse (-1028477387 : Int32))).toUInt32 >>> ((26 : Int32) &&& 31).toUInt32).toInt32))) * (finverse (-2048144789 : Int32))).toUInt32 >>> ((16 : Int32) &&& 31).toUInt32).toInt32)))] [])) t
    refine XS.iloadN X6.here hx rfl (hb hby d3_44) rfl ?_
    exact kt
  obtain ⟨fs, hr, hrun, hended, hW, hsame⟩ := X6.leave (v := some (.int (((((u0 ^^^ ((u0.toUInt32 >>> ((16 : Int32) &&& 31).toUInt32).toInt32)) * (finverse (-1028477387 : Int32))) ^^^ (((((u0 ^^^ ((u0.toUInt32 >>> ((16 : Int32) &&& 31).toUInt32).toInt32)) * (finverse (-1028477387 : Int32))).toUInt32 >>> ((13 : Int32) &&& 31).toUInt32).toInt32) ^^^ ((((u0 ^^^ ((u0.toUInt32 >>> ((16 : Int32) &&& 31).toUInt32).toInt32)) * (finverse (-1028477387 : Int32))).toUInt32 >>> ((26 : Int32) &&& 31).toUInt32).toInt32))) * (finverse (-2048144789 : Int32))) ^^^ ((((((u0 ^^^ ((u0.toUInt32 >>> ((16 : Int32) &&& 31).toUInt32).toInt32)) * (finverse (-1028477387 : Int32))) ^^^ (((((u0 ^^^ ((u0.toUInt32 >>> ((16 : Int32) &&& 31).toUInt32).toInt32)) * (finverse (-1028477387 : Int32))).toUInt32 >>> ((13 : Int32) &&& 31).toUInt32).toInt32) ^^^ ((((u0 ^^^ ((u0.toUInt32 >>> ((16 : Int32) &&& 31).toUInt32).toInt32)) * (finverse (-1028477387 : Int32))).toUInt32 >>> ((26 : Int32) &&& 31).toUInt32).toInt32))) * (finverse (-2048144789 : Int32))).toUInt32 >>> ((16 : Int32) &&& 31).toUInt32).toInt32)))) (fun h => by rw [Bd.returns] at h; cases h)
  refine ⟨_, _, pre0 _ (s3 _ (st4 _ (s5 _ (st6 _ (s7 _ (?_)))))), hrun, hended, _, _, rfl, ?_, ⟨_, rfl⟩, hW, hsame.mono (by decide) (by decide)⟩
  · show Steps p.tables e below (T6.setTop (mkF m 45 #[.val (.int u0), .val (.int (((((u0 ^^^ ((u0.toUInt32 >>> ((16 : Int32) &&& 31).toUInt32).toInt32)) * (finverse (-1028477387 : Int32))) ^^^ (((((u0 ^^^ ((u0.toUInt32 >>> ((16 : Int32) &&& 31).toUInt32).toInt32)) * (finverse (-1028477387 : Int32))).toUInt32 >>> ((13 : Int32) &&& 31).toUInt32).toInt32) ^^^ ((((u0 ^^^ ((u0.toUInt32 >>> ((16 : Int32) &&& 31).toUInt32).toInt32)) * (finverse (-1028477387 : Int32))).toUInt32 >>> ((26 : Int32) &&& 31).toUInt32).toInt32))) * (finverse (-2048144789 : Int32))) ^^^ ((((((u0 ^^^ ((u0.toUInt32 >>> ((16 : Int32) &&& 31).toUInt32).toInt32)) * (finverse (-1028477387 : Int32))) ^^^ (((((u0 ^^^ ((u0.toUInt32 >>> ((16 : Int32) &&& 31).toUInt32).toInt32)) * (finverse (-1028477387 : Int32))).toUInt32 >>> ((13 : Int32) &&& 31).toUInt32).toInt32) ^^^ ((((u0 ^^^ ((u0.toUInt32 >>> ((16 : Int32) &&& 31).toUInt32).toInt32)) * (finverse (-1028477387 : Int32))).toUInt32 >>> ((26 : Int32) &&& 31).toUInt32).toInt32))) * (finverse (-2048144789 : Int32))).toUInt32 >>> ((16 : Int32) &&& 31).toUInt32).toInt32)))] [(.int (((((u0 ^^^ ((u0.toUInt32 >>> ((16 : Int32) &&& 31).toUInt32).toInt32)) * (finverse (-1028477387 : Int32))) ^^^ (((((u0 ^^^ ((u0.toUInt32 >>> ((16 : Int32) &&& 31).toUInt32).toInt32)) * (finverse (-1028477387 : Int32))).toUInt32 >>> ((13 : Int32) &&& 31).toUInt32).toInt32) ^^^ ((((u0 ^^^ ((u0.toUInt32 >>> ((16 : Int32) &&& 31).toUInt32).toInt32)) * (finverse (-1028477387 : Int32))).toUInt32 >>> ((26 : Int32) &&& 31).toUInt32).toInt32))) * (finverse (-2048144789 : Int32))) ^^^ ((((((u0 ^^^ ((u0.toUInt32 >>> ((16 : Int32) &&& 31).toUInt32).toInt32)) * (finverse (-1028477387 : Int32))) ^^^ (((((u0 ^^^ ((u0.toUInt32 >>> ((16 : Int32) &&& 31).toUInt32).toInt32)) * (finverse (-1028477387 : Int32))).toUInt32 >>> ((13 : Int32) &&& 31).toUInt32).toInt32) ^^^ ((((u0 ^^^ ((u0.toUInt32 >>> ((16 : Int32) &&& 31).toUInt32).toInt32)) * (finverse (-1028477387 : Int32))).toUInt32 >>> ((26 : Int32) &&& 31).toUInt32).toInt32))) * (finverse (-2048144789 : Int32))).toUInt32 >>> ((16 : Int32) &&& 31).toUInt32).toInt32)))])) _
    exact retI X6 hx Bd.returns (hb hby d3_45) hr
  · show Q3 Z u0 h0 n0 _ T6.heap _
    rw [e6q]
    exact ⟨rfl, N6, rfl⟩
theorem own_bits {x y : Int32} (h : ∀ i, i < 32 → x.toBitVec.getLsbD i = y.toBitVec.getLsbD i) : x = y :=
  Int32.toBitVec_inj.mp (BitVec.eq_of_getLsbD_eq h)
theorem own_ushr (x : Int32) (n : Int32) (k : Nat) (hk : (n &&& 31).toUInt32.toBitVec.toNat % 32 = k) (i : Nat) :
    ((x.toUInt32 >>> (n &&& 31).toUInt32).toInt32).toBitVec.getLsbD i = x.toBitVec.getLsbD (k + i) := by
  show (x.toUInt32 >>> (n &&& 31).toUInt32).toBitVec.getLsbD i = _
  rw [UInt32.toBitVec_shiftRight]
  show (x.toBitVec >>> ((n &&& 31).toUInt32.toBitVec % 32)).getLsbD i = _
  rw [BitVec.ushiftRight_eq', BitVec.getLsbD_ushiftRight]
  congr 1
  rw [BitVec.toNat_umod]
  exact congrArg (· + i) hk
theorem own_x16 (z : Int32) : let y := z ^^^ ((z.toUInt32 >>> ((16 : Int32) &&& 31).toUInt32).toInt32)
    (y ^^^ ((y.toUInt32 >>> ((16 : Int32) &&& 31).toUInt32).toInt32)) = z := by
  intro y
  refine own_bits fun i hi => ?_
  have e16 : ∀ (x : Int32) (i : Nat), ((x.toUInt32 >>> ((16 : Int32) &&& 31).toUInt32).toInt32).toBitVec.getLsbD i = x.toBitVec.getLsbD (16 + i) := fun x i => own_ushr x 16 16 (by decide) i
  have o : z.toBitVec.getLsbD (16 + (16 + i)) = false := BitVec.getLsbD_of_ge _ _ (by omega)
  show (y.toBitVec ^^^ _).getLsbD i = _
  rw [BitVec.getLsbD_xor, e16]
  show ((z.toBitVec ^^^ _).getLsbD i ^^ (z.toBitVec ^^^ _).getLsbD (16 + i)) = _
  rw [BitVec.getLsbD_xor, BitVec.getLsbD_xor, e16, e16, o]
  cases z.toBitVec.getLsbD i <;> cases z.toBitVec.getLsbD (16 + i) <;> rfl
theorem own_x13 (z : Int32) : let y := z ^^^ ((z.toUInt32 >>> ((13 : Int32) &&& 31).toUInt32).toInt32)
    (y ^^^ (((y.toUInt32 >>> ((13 : Int32) &&& 31).toUInt32).toInt32) ^^^ ((y.toUInt32 >>> ((26 : Int32) &&& 31).toUInt32).toInt32))) = z := by
  intro y
  refine own_bits fun i hi => ?_
  have e13 : ∀ (x : Int32) (i : Nat), ((x.toUInt32 >>> ((13 : Int32) &&& 31).toUInt32).toInt32).toBitVec.getLsbD i = x.toBitVec.getLsbD (13 + i) := fun x i => own_ushr x 13 13 (by decide) i
  have e26 : ∀ (x : Int32) (i : Nat), ((x.toUInt32 >>> ((26 : Int32) &&& 31).toUInt32).toInt32).toBitVec.getLsbD i = x.toBitVec.getLsbD (26 + i) := fun x i => own_ushr x 26 26 (by decide) i
  have o : z.toBitVec.getLsbD (13 + (26 + i)) = false := BitVec.getLsbD_of_ge _ _ (by omega)
  have o' : z.toBitVec.getLsbD (13 + (13 + i)) = z.toBitVec.getLsbD (26 + i) := by congr 1; omega
  show (y.toBitVec ^^^ (_ ^^^ _)).getLsbD i = _
  rw [BitVec.getLsbD_xor, BitVec.getLsbD_xor, e13, e26]
  show ((z.toBitVec ^^^ _).getLsbD i ^^ ((z.toBitVec ^^^ _).getLsbD (13 + i) ^^ (z.toBitVec ^^^ _).getLsbD (26 + i))) = _
  rw [BitVec.getLsbD_xor, BitVec.getLsbD_xor, BitVec.getLsbD_xor, e13, e13, e13, o, o']
  cases z.toBitVec.getLsbD i <;> cases z.toBitVec.getLsbD (13 + i) <;> cases z.toBitVec.getLsbD (26 + i) <;> rfl
theorem own_i1 : (-1028477387 : Int32) * finverse (-1028477387 : Int32) = 1 := by decide +kernel
theorem own_i2 : (-2048144789 : Int32) * finverse (-2048144789 : Int32) = 1 := by decide +kernel
theorem own_m1 (z : Int32) : (z * (-1028477387 : Int32)) * finverse (-1028477387 : Int32) = z := by rw [Int32.mul_assoc, own_i1, Int32.mul_one]
theorem own_m2 (z : Int32) : (z * (-2048144789 : Int32)) * finverse (-2048144789 : Int32) = z := by rw [Int32.mul_assoc, own_i2, Int32.mul_one]
def own_s16 (z : Int32) : Int32 := z ^^^ ((z.toUInt32 >>> ((16 : Int32) &&& 31).toUInt32).toInt32)
def own_s13 (z : Int32) : Int32 := z ^^^ ((z.toUInt32 >>> ((13 : Int32) &&& 31).toUInt32).toInt32)
def own_t13 (y : Int32) : Int32 := y ^^^ (((y.toUInt32 >>> ((13 : Int32) &&& 31).toUInt32).toInt32) ^^^ ((y.toUInt32 >>> ((26 : Int32) &&& 31).toUInt32).toInt32))
theorem own_c (h p : Int32) : fcombine h p = own_s16 (own_s13 (own_s16 (h * (-1640531527 : Int32) + p) * (-2048144789 : Int32)) * (-1028477387 : Int32)) := rfl
theorem own_u (z : Int32) : funmix z = own_s16 (own_t13 (own_s16 z * finverse (-1028477387 : Int32)) * finverse (-2048144789 : Int32)) := rfl
theorem own_plain (h p : Int32) : (funmix (fcombine h p)) = ((h * (-1640531527 : Int32)) + p) := by
  have a16 : ∀ z, own_s16 (own_s16 z) = z := own_x16
  have a13 : ∀ z, own_t13 (own_s13 z) = z := own_x13
  rw [own_u, own_c, a16, own_m1, a13, own_m2, a16]

def Q0 (Z : State) (ah : Int32) (ap : Int32) (h0 : Heap) (n0 : Nat) (v : Option Value) (h : Heap) (L : List Loc) : Prop := v = some (.int 1) ∧ Fr n0 L
set_option maxRecDepth 65536 in
set_option maxHeartbeats 40000000 in
theorem rm0 (l : Launch) (Z : State) (a0 : Array Value) (hw : ∀ d ∈ tables_1, d.before a0 Z = true) (ws : List Jvm.Cond) (ah : Int32) (ap : Int32) (h0 : Heap) (n0 : Nat) (Z0 : n0 ≤ h0.size)  :
    MetFree l x (head1 (Jvm.Cond.code x code maxLocals ret :: ws) room_1) (fun a U => a = #[(.int ah), (.int ap)] ∧ Z.Warmed39 U.vm ∧ U.heap = h0) (fun _ _ _ _ _ => True) (fun _ U o U' => ∃ v L, o = .returned v ∧ Q0 Z ah ap h0 n0 v U'.heap L ∧ FrameEnd U o U' L room_1.cells room_1.slots) := by
  refine MetFree.of_bodySF (plainFor_of_name pn_com_example_tell_nothing_tellnothing_HashedTermCombinePinLaw) hisR ?_
  intro p e s m args0 below meth c s₁ Bd hml0 hP hK
  obtain ⟨rfl, hZ, hh⟩ := hP
  have hx := Bd.exec
  have hby := Bd.bytes
  have hml : c.maxLocals = 4 := hml0
  have hown : s.vm.findClass "com/example/tell_nothing/tellnothing/HashedTermCombinePinLaw" = some m.cls := findClass_of_methodNamed Bd.named
  have hnm := (name_of_methodNamed Bd.named Bd.method).1
  have X0 : Stand p l e room_1 s m #[(.int ah), (.int ap)] below meth c s₁ [] 0 0 := Stand.of_body Bd
  have e0 : s₁.heap = h0 := by rw [← hh, Bd.state]; rfl
  have N0 := Fr.nil n0
  have pre0 : ∀ t, Steps p.tables e below (s₁.setTop (mkF m 0 #[.val (.int ah), .val (.int ap), .unset, .unset] [])) t → Steps p.tables e below (s₁.setTop (entryFrame m #[(.int ah), (.int ap)] maxLocals)) t := fun t k => castTop (ef_0 m ah ap) k
  have s8 : ∀ t, Steps p.tables e below (s₁.setTop (mkF m 2 #[.val (.int ah), .val (.int ap), .unset, .unset] [(.int ap), (.int ah)])) t → Steps p.tables e below (s₁.setTop (mkF m 0 #[.val (.int ah), .val (.int ap), .unset, .unset] [])) t := by
    intro t kt
    refine XS.iloadN X0.here hx rfl (hb hby at_0) rfl ?_
    show Steps p.tables e below (s₁.setTop (mkF m 1 #[.val (.int ah), .val (.int ap), .unset, .unset] [(.int ah)])) t
    refine XS.iloadN X0.here hx rfl (hb hby at_1) rfl ?_
    exact kt
  obtain ⟨_, _, ⟨T9, L9, k9, n9⟩, -, X9, ⟨Lc9, hQ9, l9, y9, z9⟩, st9⟩ := Jvm.LawKit.callS X0 hx (y := (⟨"com/example/tell_nothing/tellnothing/HashedTerm", "combine", "(II)I"⟩ : MethodName)) hown (mvT hZ (hw _ (List.mem_of_getElem? (i := 0) rfl))) (mvT hZ (hw _ (List.mem_of_getElem? (i := 1) rfl))) (mvT hZ (hw _ (List.mem_of_getElem? (i := 2) rfl))) (mvT hZ (hw _ (List.mem_of_getElem? (i := 3) rfl))) (by decide) (backOf (W := 0) (rm1 l Z a0 hw [] ah ap h0 n0 Z0 ) hZ (hw _ (List.mem_of_getElem? (i := 3) rfl)) (hw _ (List.mem_of_getElem? (i := 2) rfl)) (by decide) (by decide)) (g := (mkF m 2 #[.val (.int ah), .val (.int ap), .unset, .unset] [(.int ap), (.int ah)])) rfl (by rw [hml]; rfl) (argsL := [(.int ah), (.int ap)]) (rest := []) (lenOf pd_oIIcI rfl) rfl (by show 2 * 0 + _ ≤ _; exact Nat.le_of_eq rfl) (hb hby at_2) (fun _ _ => ⟨rfl, e0, (by decide : 0 + 0 ≤ _), (by decide : 0 + 0 ≤ _)⟩)
  dsimp only [Pt.U, Pt.locs, Pt.cells, Pt.slots] at X9 l9 y9 z9 st9 hQ9
  subst l9 y9 z9
  obtain ⟨rfl, N9q, e9q⟩ := hQ9
  have N9 := Fr.app N0 N9q
  have s10 : ∀ t, Steps p.tables e below (T9.setTop (mkF m 14 #[.val (.int ah), .val (.int ap), .val (.int (fcombine ah ap)), .val (.int ((ah * (-1640531527 : Int32)) + ap))] [(.int (fcombine ah ap))])) t → Steps p.tables e below (T9.setTop (mkF m 5 #[.val (.int ah), .val (.int ap), .unset, .unset] [(.int (fcombine ah ap))])) t := by
    intro t kt
    refine XS.istoreN X9.here hx rfl (hb hby at_5) rfl (l' := #[.val (.int ah), .val (.int ap), .val (.int (fcombine ah ap)), .unset]) rfl ?_
    show Steps p.tables e below (T9.setTop (mkF m 6 #[.val (.int ah), .val (.int ap), .val (.int (fcombine ah ap)), .unset] [])) t
    refine XS.iloadN X9.here hx rfl (hb hby at_6) rfl ?_
    show Steps p.tables e below (T9.setTop (mkF m 7 #[.val (.int ah), .val (.int ap), .val (.int (fcombine ah ap)), .unset] [(.int ah)])) t
    refine X9.ldcInt hx hown (mvT hZ (hw _ (List.mem_of_getElem? (i := 7) rfl))) (g := (mkF m 7 #[.val (.int ah), .val (.int ap), .val (.int (fcombine ah ap)), .unset] [(.int ah)])) rfl (hb hby at_7) _ ?_
    show Steps p.tables e below (T9.setTop (mkF m 9 #[.val (.int ah), .val (.int ap), .val (.int (fcombine ah ap)), .unset] [(.int (-1640531527 : Int32)), (.int ah)])) t
    refine XS.imul X9.here hx rfl (hb hby at_9) rfl ?_
    show Steps p.tables e below (T9.setTop (mkF m 10 #[.val (.int ah), .val (.int ap), .val (.int (fcombine ah ap)), .unset] [(.int (ah * (-1640531527 : Int32)))])) t
    refine XS.iloadN X9.here hx rfl (hb hby at_10) rfl ?_
    show Steps p.tables e below (T9.setTop (mkF m 11 #[.val (.int ah), .val (.int ap), .val (.int (fcombine ah ap)), .unset] [(.int ap), (.int (ah * (-1640531527 : Int32)))])) t
    refine XS.iadd X9.here hx rfl (hb hby at_11) rfl ?_
    show Steps p.tables e below (T9.setTop (mkF m 12 #[.val (.int ah), .val (.int ap), .val (.int (fcombine ah ap)), .unset] [(.int ((ah * (-1640531527 : Int32)) + ap))])) t
    refine XS.istoreN X9.here hx rfl (hb hby at_12) rfl (l' := #[.val (.int ah), .val (.int ap), .val (.int (fcombine ah ap)), .val (.int ((ah * (-1640531527 : Int32)) + ap))]) rfl ?_
    show Steps p.tables e below (T9.setTop (mkF m 13 #[.val (.int ah), .val (.int ap), .val (.int (fcombine ah ap)), .val (.int ((ah * (-1640531527 : Int32)) + ap))] [])) t
    refine XS.iloadN X9.here hx rfl (hb hby at_13) rfl ?_
    exact kt
  obtain ⟨_, _, ⟨T11, L11, k11, n11⟩, -, X11, ⟨Lc11, hQ11, l11, y11, z11⟩, st11⟩ := Jvm.LawKit.callS X9 hx (y := (⟨"com/example/tell_nothing/tellnothing/HashedTermCombinePinLaw", "unmix", "(I)I"⟩ : MethodName)) hown (mvT hZ (hw _ (List.mem_of_getElem? (i := 8) rfl))) (mvT hZ (hw _ (List.mem_of_getElem? (i := 9) rfl))) (mvT hZ (hw _ (List.mem_of_getElem? (i := 10) rfl))) (mvT hZ (hw _ (List.mem_of_getElem? (i := 11) rfl))) (by decide) (backOf (W := 0) (rm3 l Z a0 hw [] (fcombine ah ap) h0 n0 Z0 ) hZ (hw _ (List.mem_of_getElem? (i := 11) rfl)) (hw _ (List.mem_of_getElem? (i := 10) rfl)) (by decide) (by decide)) (g := (mkF m 14 #[.val (.int ah), .val (.int ap), .val (.int (fcombine ah ap)), .val (.int ((ah * (-1640531527 : Int32)) + ap))] [(.int (fcombine ah ap))])) rfl (by rw [hml]; rfl) (argsL := [(.int (fcombine ah ap))]) (rest := []) (lenOf pd_oIcI rfl) rfl (by show 2 * 0 + _ ≤ _; exact Nat.le_of_eq rfl) (hb hby at_14) (fun _ _ => ⟨rfl, e9q, (by decide : 0 + 0 ≤ _), (by decide : 0 + 0 ≤ _)⟩)
  dsimp only [Pt.U, Pt.locs, Pt.cells, Pt.slots] at X11 l11 y11 z11 st11 hQ11
  subst l11 y11 z11
  obtain ⟨rfl, N11q, e11q⟩ := hQ11
  have N11 := Fr.app N9 N11q
  have s12 : ∀ t, Steps p.tables e below (T11.setTop (mkF m 18 #[.val (.int ah), .val (.int ap), .val (.int (fcombine ah ap)), .val (.int ((ah * (-1640531527 : Int32)) + ap))] [(.int ((ah * (-1640531527 : Int32)) + ap)), (.int (funmix (fcombine ah ap)))])) t → Steps p.tables e below (T11.setTop (mkF m 17 #[.val (.int ah), .val (.int ap), .val (.int (fcombine ah ap)), .val (.int ((ah * (-1640531527 : Int32)) + ap))] [(.int (funmix (fcombine ah ap)))])) t := by
    intro t kt
    refine XS.iloadN X11.here hx rfl (hb hby at_17) rfl ?_
    exact kt
  have hfin : (funmix (fcombine ah ap)) = ((ah * (-1640531527 : Int32)) + ap) := own_plain ah ap
  have s13 : ∀ t, Steps p.tables e below (T11.setTop (mkF m 26 #[.val (.int ah), .val (.int ap), .val (.int (fcombine ah ap)), .val (.int ((ah * (-1640531527 : Int32)) + ap))] [(.int (1 : Int32))])) t → Steps p.tables e below (T11.setTop (mkF m 18 #[.val (.int ah), .val (.int ap), .val (.int (fcombine ah ap)), .val (.int ((ah * (-1640531527 : Int32)) + ap))] [(.int ((ah * (-1640531527 : Int32)) + ap)), (.int (funmix (fcombine ah ap)))])) t := by
    intro t kt
    refine XS.icmpNo X11.here hx rfl (hb hby at_18) rfl (teq hfin).2 ?_
    show Steps p.tables e below (T11.setTop (mkF m 21 #[.val (.int ah), .val (.int ap), .val (.int (fcombine ah ap)), .val (.int ((ah * (-1640531527 : Int32)) + ap))] [])) t
    refine XS.iconst X11.here hx rfl (hb hby at_21) ?_
    show Steps p.tables e below (T11.setTop (mkF m 22 #[.val (.int ah), .val (.int ap), .val (.int (fcombine ah ap)), .val (.int ((ah * (-1640531527 : Int32)) + ap))] [(.int (1 : Int32))])) t
    refine XS.goto X11.here hx rfl (pc0 := 22) (pc' := 26) rfl (hb hby at_22) (by decide) (by decide) ?_
    exact kt
  obtain ⟨fs, hr, hrun, hended, hW, hsame⟩ := X11.leave (v := some (.int (1 : Int32))) (fun h => by rw [Bd.returns] at h; cases h)
  refine ⟨_, _, pre0 _ (s8 _ (st9 _ (s10 _ (st11 _ (s12 _ (s13 _ (?_))))))), hrun, hended, _, _, rfl, ?_, ⟨_, rfl⟩, hW, hsame.mono (by decide) (by decide)⟩
  · show Steps p.tables e below (T11.setTop (mkF m 26 #[.val (.int ah), .val (.int ap), .val (.int (fcombine ah ap)), .val (.int ((ah * (-1640531527 : Int32)) + ap))] [(.int (1 : Int32))])) _
    exact retN X11 hx (t := .boolean) Bd.returns (by simp) (hb hby at_26) hr
  · show Q0 Z ah ap h0 n0 _ T11.heap _
    rw [e11q]
    exact ⟨rfl, N11⟩
set_option maxRecDepth 65536 in
set_option maxHeartbeats 40000000 in
theorem comes_1 {Post : Tables → Env → Array Value → State → Outcome → State → Prop} (hpost : ∀ tb e args s v u, (limb_1_1.after args s (.returned v) u = true ∧ limb_1_2.after args s (.returned v) u = true ∧ True) → FrameEnd s (.returned v) u (Jvm.fieldLocs frame_1_writes args s ++ Jvm.arrayLocs frame_1_arrays args s ++ Jvm.staticLocs frame_1_statics s) 0 0 → Post tb e args s (.returned v) u) :
    ArmFor flags0 classFile x code maxLocals ret World_1 tables_1 room_1 Calls_1 rest_1 Pre_1 Post := by
  intro l hfl _ _ p e ha hc hk s m args below hf hA hF happ hP
  obtain ⟨hcalls, hrest, hpre⟩ := hP
  obtain ⟨-, -, -, hnamed, -, -, -, hat⟩ := (Spec.applies_iff hf).mp happ
  obtain ⟨hg, hn⟩ := and_e (Cond.before_iff.mp (show (Jvm.Cond.and given_1 narrow_1).before args s = true from hpre))
  obtain ⟨ha0, hb0⟩ := and_e hg
  obtain ⟨ha1, hb1⟩ := and_e hb0
  obtain ⟨w0, w1, rfl⟩ : ∃ w0 w1 : Value, args = #[w0, w1] := by
    have hs : args.size = 2 := by simpa [Cond.value, given_1] using ha0
    obtain ⟨L⟩ := args
    match L, hs with
    | [w0, w1], _ => exact ⟨w0, w1, rfl⟩
  have hw := fun d (hd : d ∈ tables_1) => atoms_spec (ws := Jvm.Cond.code x code maxLocals ret :: tables_1) hat d (List.mem_cons_of_mem _ hd)
  obtain ⟨i0, ei0⟩ := is_v ha1
  obtain rfl : w0 = (.int i0) := Option.some.inj ei0
  obtain ⟨i1, ei1⟩ := is_v hb1
  obtain rfl : w1 = (.int i1) := Option.some.inj ei1
  obtain ⟨n, o, h1, h2, h3, _, L, rfl, ⟨rfl, N⟩, hq⟩ := rm0 l s _ hw tables_1 i0 i1 s.heap s.heap.size (Nat.le_refl _)  p e ha hc hk s m _ below hf ((Spec.applies_iff_loose hf).mp happ).1 ⟨rfl, State.Warmed39.refl s, rfl⟩ trivial
  refine ⟨n, _, h1, h2, h3, hpost _ _ _ _ _ _ ⟨Cond.after_iff.mpr rfl, Cond.after_iff.mpr (eq_i res_at (Term.int_eval (1)) rfl), trivial⟩ ⟨hq.1, hq.2.1, (hq.2.2.sift fun y hy => Or.inr (N y hy)).mono (by decide) (by decide)⟩⟩
theorem main_1_1 : Claimed_1_1 := comes_1 fun _ _ _ _ _ _ h hF => ⟨h.1, hF⟩
theorem main_1_2 : Claimed_1_2 := comes_1 fun _ _ _ _ _ _ h hF => ⟨h.2.1, hF⟩
end Jvm.Pilot.@@N@@
namespace Jvm.Pilot.@@N@@
open Jvm Jvm.ClassFile Sem Op Lib Jvm.Free Jvm.Stand Jvm.Pilot.@@N@@.Jvm.D
/-! MADE BY PROGRAM (witnessworld.py) out of the Statement's table words and the real class files: 9 classes; the members and pool entries that the words name. The judged class is class 1, her method 3. -/
namespace start1
open Jvm.ClassFile
def u (s : String) : CpInfo := .utf8 (stringToUtf16 s)
/-- a pool by its gaps: so many unusable entries, then the entry; so many at the end -/
def gap : Nat → List CpInfo → List CpInfo
  | 0, r => r
  | n + 1, r => .unusable :: gap n r
def poolList (es : List (Nat × CpInfo)) (last : Nat) : List CpInfo := es.foldr (fun e r => gap e.1 (e.2 :: r)) (gap last [])
def pool (es : List (Nat × CpInfo)) (last : Nat) : Array CpInfo := ⟨poolList es last⟩
def fileOf (pool : Array CpInfo) (this : Nat) (attrs : Array Attribute := #[]) (ms : Array MethodInfo := #[]) (fl : Nat := 33) (sup : Nat := 0) (ifs : Array Nat := #[]) (fds : Array FieldInfo := #[]) : ClassFile where
  minorVersion := 0
  majorVersion := 65
  constantPool := pool
  accessFlags := fl
  thisClass := this
  superClass := sup
  interfaces := ifs
  fields := fds
  methods := ms
  attributes := attrs
def plain (name : String) (sup : Option ClassId) : Class where
  name := name
  kind := .ordinary
  loader := none
  accessFlags := 33
  super := sup
  interfaces := #[]
  cf := none
  fields := #[]
  methods := #[]
  instanceTypes := #[]
  staticTypes := #[]
  resolved := #[]
  callSites := []
  init := .initialized
  statics := none
  mirror := none

def pool0 : Array CpInfo := pool [(5, u "<init>"), (0, u "()V"), (1, .class_ 10), (1, u "java/lang/Object")] 113

def k0m0 : Method := { name := "<init>", desc := "()V", sig := { parameters := [], returnType := none }, accessFlags := 1, code := none }
/-- java/lang/Object -/
def k0 : Class := { plain "java/lang/Object" none with
  accessFlags := 33
  interfaces := #[]
  cf := some (fileOf pool0 8 #[] #[{ accessFlags := 1, nameIndex := 5, descriptorIndex := 6, attributes := #[] }] 33 0 #[] #[])
  fields := #[]
  methods := #[k0m0]
  instanceTypes := #[]
  staticTypes := #[]
  resolved := Array.replicate 124 none
  statics := none }

def pool1 : Array CpInfo := pool [(2, .class_ 4), (1, u "java/lang/Object"), (0, u "<init>"), (0, u "()V"), (0, .integer 3266489909), (0, .methodref 9 10), (0, .class_ 11), (0, .nameAndType 12 13), (0, u "com/example/tell_nothing/tellnothing/HashedTermCombinePinLaw"), (0, u "inverse"), (0, u "(I)I"), (0, .integer 2246822507), (0, .methodref 16 17), (0, .class_ 18), (0, .nameAndType 19 20), (0, u "com/example/tell_nothing/tellnothing/HashedTerm"), (0, u "combine"), (0, u "(II)I"), (0, .integer 2654435769), (0, .methodref 9 23), (0, .nameAndType 24 13), (0, u "unmix"), (2, u "law"), (0, u "(II)Z")] 3

def k1m0 : Method := { name := "<init>", desc := "()V", sig := { parameters := [], returnType := none }, accessFlags := 2, code := none }
def k1c1 : Code := { maxStack := 4, maxLocals := 2, code := method_2_code, exceptionTable := #[], attributes := #[] }
def k1m1 : Method := { name := "inverse", desc := "(I)I", sig := { parameters := [.int], returnType := some .int }, accessFlags := 10, code := some k1c1 }
def k1c2 : Code := { maxStack := 4, maxLocals := 2, code := method_3_code, exceptionTable := #[], attributes := #[] }
def k1m2 : Method := { name := "unmix", desc := "(I)I", sig := { parameters := [.int], returnType := some .int }, accessFlags := 10, code := some k1c2 }
def k1c3 : Code := { maxStack := 2, maxLocals := 4, code := code, exceptionTable := #[], attributes := #[] }
def k1m3 : Method := { name := "law", desc := "(II)Z", sig := { parameters := [.int, .int], returnType := some .boolean }, accessFlags := 9, code := some k1c3 }
/-- com/example/tell_nothing/tellnothing/HashedTermCombinePinLaw -/
def k1 : Class := { plain "com/example/tell_nothing/tellnothing/HashedTermCombinePinLaw" (some 0) with
  accessFlags := 49
  interfaces := #[]
  cf := some (fileOf pool1 9 #[] #[{ accessFlags := 2, nameIndex := 5, descriptorIndex := 6, attributes := #[] }, { accessFlags := 10, nameIndex := 12, descriptorIndex := 13, attributes := #[] }, { accessFlags := 10, nameIndex := 24, descriptorIndex := 13, attributes := #[] }, { accessFlags := 9, nameIndex := 27, descriptorIndex := 28, attributes := #[] }] 49 2 #[] #[])
  fields := #[]
  methods := #[k1m0, k1m1, k1m2, k1m3]
  instanceTypes := #[]
  staticTypes := #[]
  resolved := Array.replicate 32 none
  statics := none }

def pool2 : Array CpInfo := pool [(2, .class_ 4), (1, u "java/lang/Object"), (3, .class_ 10), (1, u "com/example/tell_nothing/tellnothing/HashedTerm"), (0, u "hash"), (0, u "I"), (12, .integer 2654435769), (0, .integer 2246822507), (0, .integer 3266489909), (10, u "combine"), (0, u "(II)I")] 4

def k2c0 : Code := { maxStack := 3, maxLocals := 3, code := prog_1_method_5_code, exceptionTable := #[], attributes := #[] }
def k2m0 : Method := { name := "combine", desc := "(II)I", sig := { parameters := [.int, .int], returnType := some .int }, accessFlags := 12, code := some k2c0 }
/-- com/example/tell_nothing/tellnothing/HashedTerm -/
def k2 : Class := { plain "com/example/tell_nothing/tellnothing/HashedTerm" (some 0) with
  accessFlags := 1057
  interfaces := #[]
  cf := some (fileOf pool2 8 #[] #[{ accessFlags := 12, nameIndex := 38, descriptorIndex := 39, attributes := #[] }] 1057 2 #[] #[{ accessFlags := 18, nameIndex := 11, descriptorIndex := 12, attributes := #[] }])
  fields := #[{ name := "hash", type := .int, accessFlags := 18, slot := 0, constantValue := 0 }]
  methods := #[k2m0]
  instanceTypes := #[.int]
  staticTypes := #[]
  resolved := Array.replicate 44 none
  statics := none }

def pool3 : Array CpInfo := pool [(1, u "java/lang/Cloneable"), (0, .class_ 1), (0, u "java/lang/Object"), (0, .class_ 3)] 3

/-- java/lang/Cloneable -/
def k3 : Class := { plain "java/lang/Cloneable" (some 0) with
  accessFlags := 1537
  interfaces := #[]
  cf := some (fileOf pool3 2 #[] #[] 1537 4 #[] #[])
  fields := #[]
  methods := #[]
  instanceTypes := #[]
  staticTypes := #[]
  resolved := Array.replicate 8 none
  statics := none }

def pool4 : Array CpInfo := pool [(1, u "java/io/Serializable"), (0, .class_ 1), (0, u "java/lang/Object"), (0, .class_ 3)] 3

/-- java/io/Serializable -/
def k4 : Class := { plain "java/io/Serializable" (some 0) with
  accessFlags := 1537
  interfaces := #[]
  cf := some (fileOf pool4 2 #[] #[] 1537 4 #[] #[])
  fields := #[]
  methods := #[]
  instanceTypes := #[]
  staticTypes := #[]
  resolved := Array.replicate 8 none
  statics := none }

/-- the primitive byte -/
def k5 : Class := { plain "byte" none with kind := .primitive 'B', accessFlags := 0x411 }
/-- [B -/
def k6 : Class := { plain "[B" (some 0) with kind := .array 5 .byte, interfaces := #[3, 4], accessFlags := 1041 }

/-- the primitive int -/
def k7 : Class := { plain "int" none with kind := .primitive 'I', accessFlags := 0x411 }
/-- [I -/
def k8 : Class := { plain "[I" (some 0) with kind := .array 7 .int, interfaces := #[3, 4], accessFlags := 1041 }

def heap : Heap := #[]
def classes : Array Class := #[k0, k1, k2, k3, k4, k5, k6, k7, k8]
def interned : List (Array UInt16 × Addr) := []
def slotsUsed : Nat := 0
def theMethod : MethodId := ⟨1, 3⟩
def args0 : Array Value := #[.int 5, .int 7]
def aboutOver (below : List Frame) : State where
  vm := { classes := classes, interned := interned.toArray }
  heap := heap
  slotsUsed := slotsUsed
  threads := #[{ frames := .invoking theMethod args0 :: below }]
def below0 : List Frame := [.native { method := ⟨0, 0⟩, args := #[] }]
def about1 : State := aboutOver below0
def p0 : Program := .bare "" "" ""
def e0 : Env := launch0.env 0 0 0
theorem w_frames : about1.frames = Frame.invoking theMethod args0 :: below0 := rfl
set_option maxRecDepth 65536 in
theorem w_args : argsFit about1.vm theMethod args0 = true := by decide +kernel
set_option maxRecDepth 65536 in
theorem w_heap : heapFits about1 = true := by decide +kernel
set_option maxRecDepth 65536 in
theorem w_runnable : about1.curStatus? = some .runnable := by decide +kernel
set_option maxRecDepth 65536 in
theorem w_alone : about1.alone = true := by decide +kernel
set_option maxRecDepth 65536 in
theorem w_named : about1.methodNamed? x = some theMethod := by decide +kernel
set_option maxRecDepth 65536 in
theorem w_hears : about1.hears theMethod below0 = true := by decide +kernel
set_option maxRecDepth 65536 in
theorem w_ripe : about1.ripe theMethod args0 below0 = true := by decide +kernel
theorem w_running : about1.status = .running := rfl
set_option maxRecDepth 65536 in
theorem w_room : about1.hasRoom e0.platform room_1 = true :=
  launch0.hasRoom_least _ room_1 (by decide +kernel) (by decide +kernel) (by decide +kernel) (by decide +kernel) (by decide +kernel) (by decide +kernel)
theorem allAtoms_all (ts : List Jvm.Cond) (a : Array Jvm.Value) (st : Jvm.State) : (allAtoms ts).before a st = ts.all (fun c => c.before a st) := by
  induction ts with
  | nil => rfl
  | cons c t ih =>
    show (Jvm.Cond.and c (allAtoms t)).before a st = _
    rw [Jvm.Cond.before_and, ih, List.all_cons]
def words1 : List Jvm.Cond := Jvm.Cond.code x code maxLocals ret :: tables_1
/-- a 'code' word, met by the world's own term for the bytes: nothing is compared byte by byte -/
theorem code_word {y : MethodName} {bytes : ByteArray} {mx : Nat} {rt : Option FieldType} {a : Array Value} {s : State} {m : MethodId} {meth : Method} {c : Code} (h1 : s.methodNamed? y = some m) (h2 : s.vm.method? m = some meth) (h3 : meth.code = some c) (h4 : c.code = bytes)
    (h5 : (c.maxLocals == mx && c.exceptionTable.isEmpty && decide (c.maxStack ≤ mostOperands) && decide (meth.sig.returnType = rt) && !meth.locks && decide (parseMethodDescriptor y.desc = some meth.sig)) = true) : (Jvm.Cond.code y bytes mx rt).before a s = true := by
  simp only [Bool.and_eq_true, beq_iff_eq, Bool.not_eq_true', decide_eq_true_eq] at h5
  obtain ⟨⟨⟨⟨⟨g1, g2⟩, g3⟩, g4⟩, g5⟩, g6⟩ := h5
  simp [Cond.before, Cond.holds, Cond.value, h1, h2, h3, h4, g1, g2, g3, g4, g5, g6]
def isCode : Jvm.Cond → Bool
  | .code _ _ _ _ => true
  | _ => false
theorem all_split {L : List Jvm.Cond} {P : Jvm.Cond → Bool} (h1 : L.all (fun c => isCode c || P c) = true) (h2 : ∀ c ∈ L.filter isCode, P c = true) : L.all P = true := by
  refine List.all_eq_true.mpr fun c hc => ?_
  have h := List.all_eq_true.mp h1 c hc
  rcases Bool.eq_false_or_eq_true (isCode c) with hi | hi
  · exact h2 c (List.mem_filter.mpr ⟨hc, hi⟩)
  · simpa [hi] using h
set_option maxRecDepth 65536 in
theorem w_c0 : (Jvm.Cond.code x code maxLocals ret).before args0 about1 = true := code_word (m := ⟨1, 3⟩) (meth := k1m3) (c := k1c3) (by decide +kernel) rfl rfl rfl (by decide +kernel)
set_option maxRecDepth 65536 in
theorem w_c1 : (Jvm.Cond.code ({ cls := "com/example/tell_nothing/tellnothing/HashedTerm", name := "combine", desc := "(II)I" } : Jvm.MethodName) prog_1_method_5_code (3 : Nat) (Option.some Jvm.ClassFile.FieldType.int)).before args0 about1 = true := code_word (m := ⟨2, 0⟩) (meth := k2m0) (c := k2c0) (by decide +kernel) rfl rfl rfl (by decide +kernel)
set_option maxRecDepth 65536 in
theorem w_c2 : (Jvm.Cond.code ({ cls := "com/example/tell_nothing/tellnothing/HashedTermCombinePinLaw", name := "unmix", desc := "(I)I" } : Jvm.MethodName) method_3_code (2 : Nat) (Option.some Jvm.ClassFile.FieldType.int)).before args0 about1 = true := code_word (m := ⟨1, 2⟩) (meth := k1m2) (c := k1c2) (by decide +kernel) rfl rfl rfl (by decide +kernel)
set_option maxRecDepth 65536 in
theorem w_c3 : (Jvm.Cond.code ({ cls := "com/example/tell_nothing/tellnothing/HashedTermCombinePinLaw", name := "inverse", desc := "(I)I" } : Jvm.MethodName) method_2_code (2 : Nat) (Option.some Jvm.ClassFile.FieldType.int)).before args0 about1 = true := code_word (m := ⟨1, 1⟩) (meth := k1m1) (c := k1c1) (by decide +kernel) rfl rfl rfl (by decide +kernel)
def codes1 : List Jvm.Cond := [Jvm.Cond.code x code maxLocals ret, Jvm.Cond.code ({ cls := "com/example/tell_nothing/tellnothing/HashedTerm", name := "combine", desc := "(II)I" } : Jvm.MethodName) prog_1_method_5_code (3 : Nat) (Option.some Jvm.ClassFile.FieldType.int), Jvm.Cond.code ({ cls := "com/example/tell_nothing/tellnothing/HashedTermCombinePinLaw", name := "unmix", desc := "(I)I" } : Jvm.MethodName) method_3_code (2 : Nat) (Option.some Jvm.ClassFile.FieldType.int), Jvm.Cond.code ({ cls := "com/example/tell_nothing/tellnothing/HashedTermCombinePinLaw", name := "inverse", desc := "(I)I" } : Jvm.MethodName) method_2_code (2 : Nat) (Option.some Jvm.ClassFile.FieldType.int)]
set_option maxRecDepth 65536 in
theorem codes_eq : words1.filter isCode = codes1 := rfl
theorem w_codes : ∀ c ∈ words1.filter isCode, c.before args0 about1 = true := by
  rw [codes_eq]
  intro c hc
  simp only [codes1, List.mem_cons, List.not_mem_nil, or_false] at hc
  rcases hc with rfl | rfl | rfl | rfl
  · exact w_c0
  · exact w_c1
  · exact w_c2
  · exact w_c3
set_option maxRecDepth 65536 in
theorem w_t1 : words1.all (fun c => isCode c || c.before args0 about1) = true := by decide +kernel
theorem w_tables : (allAtoms (Jvm.Cond.code x code maxLocals ret :: tables_1)).before args0 about1 = true := by
  rw [allAtoms_all]
  show words1.all (fun c => c.before args0 about1) = true
  refine all_split ?_ w_codes
  rw [w_t1]
set_option maxRecDepth 65536 in
theorem w_case : (Jvm.Cond.and given_1 narrow_1).before args0 about1 = true := by decide +kernel
theorem w_applies : (headSpec (Jvm.Cond.code x code maxLocals ret :: tables_1) room_1).applies x e0.platform about1 = true :=
  (Spec.applies_iff w_frames).mpr ⟨w_running, w_runnable, w_alone, w_named, w_hears, w_ripe, w_room, w_tables⟩
theorem atStart : AtStart classFile x code maxLocals ret World_1 tables_1 room_1 Calls_1 rest_1 Pre_1 launch0 p0 e0 about1 theMethod args0 below0 :=
  ⟨lists_1, trivial, launch0.admits_env _ _ _, launch0.least_env, fairChoices_fair.cas, fairChoices_fair.clock, w_frames, w_args, w_heap, w_applies, trivial, trivial, w_case⟩
end start1
theorem witness_1 : WitnessClaimed_1 := ⟨start1.p0, start1.e0, start1.about1, start1.theMethod, start1.args0, start1.below0, start1.atStart⟩
end Jvm.Pilot.@@N@@
