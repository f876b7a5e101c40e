import JvmDerived
import JvmDerived.Pilot.@@N@@Statement
import JvmDerived.Pilot.@@N@@Code
set_option linter.unusedVariables false
set_option linter.unusedSimpArgs false
@@BLOCK:NumsL.lean.txt@@
namespace Jvm.RoadKit
open Sem ClassFile Op Lib Jvm.Stand Jvm.Free Jvm.LawKit
section New
variable {p : Program} {l : Launch} {e : Env} {R : Room} {s : State} {m : MethodId} {args : Array Value} {below : List Frame} {meth : Method} {c : Code} {T : State} {locs : List Loc} {cells slots : Nat}
theorem retI (X : Stand p l e R s m args below meth c T locs cells slots) (hx : p.tables.exec = Jvm.exec) {pc : Nat} {Ls : Array Slot} {z : Int32} {rest : List Value} (hret : meth.sig.returnType = some .int) (hd : decode c.code pc = .ok (.ireturn, 1)) {fs : List Frame}
    (hl : ∀ (f : JFrame) (acts : List Action), f.method = m → f.locked = none → f.entered = [] → (doReturn e (T.setTop f) acts (some (.int z))).1 = T.setFrames fs) : Steps p.tables e below (T.setTop (mkF m pc Ls (.int z :: rest))) (T.setFrames fs) := by
  have hm' : T.vm.method? m = some meth := X.method'
  have hn : narrow .int (.int z) = .int z := rfl
  show Steps p.tables e below (T.setTop { method := m, pc := pc, locals := Ls, stack := _ :: rest, locked := none }) _
  jvm_step X.here [X.here.top, hx, hd, hm', hret, hn]
  first | (intro acts; rw [hl _ acts rfl rfl rfl]) | rw [hl _ _ rfl rfl rfl]
  exact Steps.refl _
end New
end Jvm.RoadKit
namespace Jvm.OwnKit
open Sem ClassFile Op Lib Jvm.Stand Jvm.Free Jvm.LawKit Jvm.RoadKit
section OwnLayer
variable {p : Program} {l : Launch} {e : Env} {R : Room} {s : State} {m : MethodId} {args : Array Value} {below : List Frame} {meth : Method} {c : Code} {T : State} {locs : List Loc} {cells slots : Nat} {Z : State} {h h' : Heap} {a b : Addr} {ty : FieldType} {n sl : Nat} {f : Nat → Value} {v : Value} {ws : List Addr}
/-- an array of n places, place j holding f j -/
def Ar (Z : State) (h : Heap) (a : Addr) (ty : FieldType) (n : Nat) (f : Nat → Value) : Prop := ∃ c : Cell, Arr Z h a c ty ∧ c.slots.size = n ∧ n < 2147483648 ∧ ∀ j, j < n → c.slots[j]? = some (f j)
theorem Ar.lt (F : Ar Z h a ty n f) : a < h.size := by obtain ⟨c, A, -⟩ := F; exact A.lt
theorem Ar.ext (F : Ar Z h a ty n f) (E : Ext h h') : Ar Z h' a ty n f := by obtain ⟨c, A, r⟩ := F; exact ⟨c, A.ext E, r⟩
theorem Ar.other (F : Ar Z h b ty n f) (W : Wr h h' a sl v) (q : b ≠ a) : Ar Z h' b ty n f := by obtain ⟨c, A, r⟩ := F; exact ⟨c, A.other W q, r⟩
theorem Ar.keep (F : Ar Z h a ty n f) (K : Keep h h' ws) (q : a ∉ ws) : Ar Z h' a ty n f := by obtain ⟨c, A, r⟩ := F; exact ⟨c, ⟨K.2.1 a c A.1 q, A.2⟩, r⟩
theorem Ar.as (F : Ar Z h a ty n f) {g : Nat → Value} (e : ∀ j, j < n → f j = g j) : Ar Z h a ty n g := by
  obtain ⟨c, A, r1, r2, r3⟩ := F; exact ⟨c, A, r1, r2, fun j hj => by rw [r3 j hj, e j hj]⟩
theorem nat_clamp (j : Int32) : j.toNatClampNeg = j.toInt.toNat := rfl
theorem Ar.new {k : ClassId} {z : Int32} {N : Nat} (A : Arr Z h a (newA k ty z) ty) (q : ¬ z < 0) (hN : z.toInt.toNat = N) : Ar Z h a ty N (fun _ => defaultValue ty) := by
  have hs : (newA k ty z).slots.size = N := by rw [sz_new, nat_clamp, hN]
  refine ⟨_, A, hs, ?_, fun j hj => ?_⟩
  · have := z.toInt_lt; omega
  · show (Array.replicate z.toNatClampNeg (defaultValue ty))[j]? = _
    rw [Array.getElem?_replicate, if_pos (by rw [nat_clamp, hN]; exact hj)]
theorem ar_in {c : Cell} {j : Int32} (hs : c.slots.size = n) (h0 : 0 ≤ j.toInt) (h1 : j.toInt < n) : ¬ (j < 0 ∨ c.slots.size ≤ j.toNatClampNeg) := by
  rw [hs, nat_clamp, Int32.lt_iff_toInt_lt]
  show ¬ (j.toInt < 0 ∨ n ≤ j.toInt.toNat)
  omega
theorem Ar.set {c : Cell} {j : Int32} (A : Arr Z h a c ty) (hs : c.slots.size = n) (hn : n < 2147483648) (H : ∀ j, j < n → c.slots[j]? = some (f j)) (h0 : 0 ≤ j.toInt) (h1 : j.toInt < n) (W : Wr h h' a j.toNatClampNeg v) : Ar Z h' a ty n (fun i => if i = j.toInt.toNat then v else f i) := by
  refine ⟨_, A.same W, by rw [sz_set, hs], hn, fun i hi => ?_⟩
  show (c.slots.setIfInBounds j.toNatClampNeg v)[i]? = _
  rw [Array.getElem?_setIfInBounds, nat_clamp]
  show _ = some (if i = j.toInt.toNat then v else f i)
  by_cases q : i = j.toInt.toNat
  · rw [if_pos q.symm, if_pos (by omega), if_pos q]
  · rw [if_neg (fun z => q z.symm), if_neg q, H i hi]
theorem arv_ar {k : ClassId} {z : Int32} {vs : List Value} {d : Value} (F : Arv Z h a k ty z vs d) : Ar Z h a ty z.toInt.toNat (fun i => vs.getD i d) := by
  obtain ⟨c, A, -, r2, r3, H, -⟩ := F
  have hz := z.toInt_lt
  exact ⟨c, A, r2, by omega, fun j hj => H j (by rw [r2, nat_clamp]; exact hj)⟩
theorem ldAI (X : Stand p l e R s m args below meth c T locs cells slots) (hx : p.tables.exec = Jvm.exec) (hZ : Z.Warmed39 s.vm) (eT : T.heap = h) (F : Ar Z h a .int n f) {j : Int32} (h0 : 0 ≤ j.toInt) (h1 : j.toInt < n) {w : Value} (hv : f j.toInt.toNat = w)
    {g : JFrame} (hg : g.method = m) {rest : List Value} (hs : g.stack = .int j :: .ref a :: rest) (hd : decode c.code g.pc = .ok (.iaload, 1)) :
    ∀ target, Steps p.tables e below (T.setTop { g with pc := g.pc + 1, stack := w :: rest }) target → Steps p.tables e below (T.setTop g) target := by
  obtain ⟨cl, A, r1, r2, r3⟩ := F
  exact fun target k => X.iaload hx (by rw [eT]; exact A.1) (State.isArrayOf_alike hZ.alike A.2.1) A.2.2 (ar_in r1 h0 h1) (by rw [nat_clamp, r3 _ (by omega), hv]) hg hs hd target k
theorem ldAL (X : Stand p l e R s m args below meth c T locs cells slots) (hx : p.tables.exec = Jvm.exec) (hZ : Z.Warmed39 s.vm) (eT : T.heap = h) (F : Ar Z h a .long n f) {j : Int32} (h0 : 0 ≤ j.toInt) (h1 : j.toInt < n) {w : Value} (hv : f j.toInt.toNat = w)
    {g : JFrame} (hg : g.method = m) {rest : List Value} (hs : g.stack = .int j :: .ref a :: rest) (hd : decode c.code g.pc = .ok (.laload, 1)) :
    ∀ target, Steps p.tables e below (T.setTop { g with pc := g.pc + 1, stack := w :: rest }) target → Steps p.tables e below (T.setTop g) target := by
  obtain ⟨cl, A, r1, r2, r3⟩ := F
  exact fun target k => X.laload hx (by rw [eT]; exact A.1) (State.isArrayOf_alike hZ.alike A.2.1) A.2.2 (ar_in r1 h0 h1) (by rw [nat_clamp, r3 _ (by omega), hv]) hg hs hd target k
theorem ldAB (X : Stand p l e R s m args below meth c T locs cells slots) (hx : p.tables.exec = Jvm.exec) (hZ : Z.Warmed39 s.vm) (eT : T.heap = h) (F : Ar Z h a .byte n f) {j : Int32} (h0 : 0 ≤ j.toInt) (h1 : j.toInt < n) {w : Value} (hv : f j.toInt.toNat = w)
    {g : JFrame} (hg : g.method = m) {rest : List Value} (hs : g.stack = .int j :: .ref a :: rest) (hd : decode c.code g.pc = .ok (.baload, 1)) :
    ∀ target, Steps p.tables e below (T.setTop { g with pc := g.pc + 1, stack := w :: rest }) target → Steps p.tables e below (T.setTop g) target := by
  obtain ⟨cl, A, r1, r2, r3⟩ := F
  exact fun target k => X.baloadBytes hx (by rw [eT]; exact A.1) (State.isArrayOf_alike hZ.alike A.2.1) A.2.2 (ar_in r1 h0 h1) (by rw [nat_clamp, r3 _ (by omega), hv]) hg hs hd target k
theorem ldAZ (X : Stand p l e R s m args below meth c T locs cells slots) (hx : p.tables.exec = Jvm.exec) (hZ : Z.Warmed39 s.vm) (eT : T.heap = h) (F : Ar Z h a .boolean n f) {j : Int32} (h0 : 0 ≤ j.toInt) (h1 : j.toInt < n) {w : Value} (hv : f j.toInt.toNat = w)
    {g : JFrame} (hg : g.method = m) {rest : List Value} (hs : g.stack = .int j :: .ref a :: rest) (hd : decode c.code g.pc = .ok (.baload, 1)) :
    ∀ target, Steps p.tables e below (T.setTop { g with pc := g.pc + 1, stack := w :: rest }) target → Steps p.tables e below (T.setTop g) target := by
  obtain ⟨cl, A, r1, r2, r3⟩ := F
  exact fun target k => X.baloadBooleans hx (by rw [eT]; exact A.1) (State.isArrayOf_alike hZ.alike A.2.1) A.2.2 (ar_in r1 h0 h1) (by rw [nat_clamp, r3 _ (by omega), hv]) hg hs hd target k
theorem alen (X : Stand p l e R s m args below meth c T locs cells slots) (hx : p.tables.exec = Jvm.exec) (hZ : Z.Warmed39 s.vm) (eT : T.heap = h) (F : Ar Z h a ty n f) {z : Int32} (hz : z.toInt = n)
    {g : JFrame} (hg : g.method = m) {rest : List Value} (hs : g.stack = .ref a :: rest) (hd : decode c.code g.pc = .ok (.arraylength, 1)) :
    ∀ target, Steps p.tables e below (T.setTop { g with pc := g.pc + 1, stack := .int z :: rest }) target → Steps p.tables e below (T.setTop g) target := by
  obtain ⟨cl, A, r1, r2, r3⟩ := F
  have q : cl.slots.size.toInt32 = z := by
    rw [r1]
    apply Int32.toInt_inj.mp
    rw [hz]
    show (Int32.ofNat n).toInt = n
    exact Int32.toInt_ofNat_small (by omega)
  exact fun target k => X.arraylength hx (by rw [eT]; exact A.1) (State.isArrayOf_alike hZ.alike A.2.1) hg hs hd target (by rw [q]; exact k)
theorem stAI (X : Stand p l e R s m args below meth c T locs cells slots) (hx : p.tables.exec = Jvm.exec) (hZ : Z.Warmed39 s.vm) (eT : T.heap = h) (F : Ar Z h a .int n f) {j x : Int32} (h0 : 0 ≤ j.toInt) (h1 : j.toInt < n)
    {g : JFrame} (hg : g.method = m) {rest : List Value} (hs : g.stack = .int x :: .int j :: .ref a :: rest) (hd : decode c.code g.pc = .ok (.iastore, 1)) :
    ∃ T' h', Stand p l e R s m args below meth c T' (locs ++ [⟨a, j.toNatClampNeg⟩]) cells slots ∧ T'.heap = h' ∧ Wr h h' a j.toNatClampNeg (.int x) ∧ Ar Z h' a .int n (fun i => if i = j.toInt.toNat then .int x else f i) ∧ ∀ target, Steps p.tables e below (T'.setTop { g with pc := g.pc + 1, stack := rest }) target → Steps p.tables e below (T.setTop g) target := by
  obtain ⟨cl, A, r1, r2, r3⟩ := F
  obtain ⟨T', h', X', e', W, st⟩ := stI X hx hZ eT A (ar_in r1 h0 h1) hg hs hd
  exact ⟨T', h', X', e', W, Ar.set A r1 r2 r3 h0 h1 W, st⟩
theorem stAL (X : Stand p l e R s m args below meth c T locs cells slots) (hx : p.tables.exec = Jvm.exec) (hZ : Z.Warmed39 s.vm) (eT : T.heap = h) (F : Ar Z h a .long n f) {j : Int32} {x : Int64} (h0 : 0 ≤ j.toInt) (h1 : j.toInt < n)
    {g : JFrame} (hg : g.method = m) {rest : List Value} (hs : g.stack = .long x :: .int j :: .ref a :: rest) (hd : decode c.code g.pc = .ok (.lastore, 1)) :
    ∃ T' h', Stand p l e R s m args below meth c T' (locs ++ [⟨a, j.toNatClampNeg⟩]) cells slots ∧ T'.heap = h' ∧ Wr h h' a j.toNatClampNeg (.long x) ∧ Ar Z h' a .long n (fun i => if i = j.toInt.toNat then .long x else f i) ∧ ∀ target, Steps p.tables e below (T'.setTop { g with pc := g.pc + 1, stack := rest }) target → Steps p.tables e below (T.setTop g) target := by
  obtain ⟨cl, A, r1, r2, r3⟩ := F
  obtain ⟨T', h', X', e', W, st⟩ := stJ X hx hZ eT A (ar_in r1 h0 h1) hg hs hd
  exact ⟨T', h', X', e', W, Ar.set A r1 r2 r3 h0 h1 W, st⟩
theorem stAB (X : Stand p l e R s m args below meth c T locs cells slots) (hx : p.tables.exec = Jvm.exec) (hZ : Z.Warmed39 s.vm) (eT : T.heap = h) (F : Ar Z h a .byte n f) {j x : Int32} (h0 : 0 ≤ j.toInt) (h1 : j.toInt < n)
    {g : JFrame} (hg : g.method = m) {rest : List Value} (hs : g.stack = .int x :: .int j :: .ref a :: rest) (hd : decode c.code g.pc = .ok (.bastore, 1)) :
    ∃ T' h', Stand p l e R s m args below meth c T' (locs ++ [⟨a, j.toNatClampNeg⟩]) cells slots ∧ T'.heap = h' ∧ Wr h h' a j.toNatClampNeg (.int (nar .byte x)) ∧ Ar Z h' a .byte n (fun i => if i = j.toInt.toNat then .int (nar .byte x) else f i) ∧ ∀ target, Steps p.tables e below (T'.setTop { g with pc := g.pc + 1, stack := rest }) target → Steps p.tables e below (T.setTop g) target := by
  obtain ⟨cl, A, r1, r2, r3⟩ := F
  obtain ⟨T', h', X', e', W, st⟩ := stB X hx hZ eT A (ar_in r1 h0 h1) hg hs hd
  exact ⟨T', h', X', e', W, Ar.set A r1 r2 r3 h0 h1 W, st⟩
theorem stAZ (X : Stand p l e R s m args below meth c T locs cells slots) (hx : p.tables.exec = Jvm.exec) (hZ : Z.Warmed39 s.vm) (eT : T.heap = h) (F : Ar Z h a .boolean n f) {j x : Int32} (h0 : 0 ≤ j.toInt) (h1 : j.toInt < n)
    {g : JFrame} (hg : g.method = m) {rest : List Value} (hs : g.stack = .int x :: .int j :: .ref a :: rest) (hd : decode c.code g.pc = .ok (.bastore, 1)) :
    ∃ T' h', Stand p l e R s m args below meth c T' (locs ++ [⟨a, j.toNatClampNeg⟩]) cells slots ∧ T'.heap = h' ∧ Wr h h' a j.toNatClampNeg (.int (nar .boolean x)) ∧ Ar Z h' a .boolean n (fun i => if i = j.toInt.toNat then .int (nar .boolean x) else f i) ∧ ∀ target, Steps p.tables e below (T'.setTop { g with pc := g.pc + 1, stack := rest }) target → Steps p.tables e below (T.setTop g) target := by
  obtain ⟨cl, A, r1, r2, r3⟩ := F
  obtain ⟨T', h', X', e', W, st⟩ := stZ X hx hZ eT A (ar_in r1 h0 h1) hg hs hd
  exact ⟨T', h', X', e', W, Ar.set A r1 r2 r3 h0 h1 W, st⟩
end OwnLayer
end Jvm.OwnKit
namespace Jvm.Pilot.@@N@@
open Jvm Jvm.ClassFile Sem Op Lib Jvm.Free Jvm.Stand Jvm.LawKit Jvm.RoadKit Bundle Jvm.OwnKit Jvm.Pilot.@@N@@.Jvm.D
def fmax (fr : Int32) (fl : Int64) : Int64 := (if fr = (0 : Int32) then fl else (9223372036854775807 : Int64))
theorem ef_11 (m : MethodId) (x0 : Addr) : entryFrame m #[(.ref x0)] 1 = mkF m 0 #[.val (.ref x0)] [] := by first | (simp [entryFrame, mkF, argsToLocals, Value.category]; done) | rfl
theorem pn_java_lang_String : plainName "java/lang/String" = true := by first | (simp [plainName, overriddenIn]; done) | decide +kernel
theorem d11_0 : decode jdk_42_method_55_code 0 = .ok (.aload_n 0, 1) := by decide +kernel
theorem d11_1 : decode jdk_42_method_55_code 1 = .ok (.getfield 9, 3) := by decide +kernel
theorem d11_4 : decode jdk_42_method_55_code 4 = .ok (.arraylength, 1) := by decide +kernel
theorem d11_5 : decode jdk_42_method_55_code 5 = .ok (.ifCond .ne 7, 3) := by decide +kernel
theorem d11_12 : decode jdk_42_method_55_code 12 = .ok (.iconst 0, 1) := by decide +kernel
theorem d11_13 : decode jdk_42_method_55_code 13 = .ok (.ireturn, 1) := by decide +kernel
theorem ef_12 (m : MethodId) (x0 : Addr) (x1 : Addr) : entryFrame m #[(.ref x0), (.ref x1)] 2 = mkF m 0 #[.val (.ref x0), .val (.ref x1)] [] := by first | (simp [entryFrame, mkF, argsToLocals, Value.category]; done) | rfl
theorem pn_com_example_rowkey_modeler_rowkeymodeler_KeyField : plainName "com/example/rowkey_modeler/rowkeymodeler/KeyField" = true := by first | (simp [plainName, overriddenIn]; done) | decide +kernel
theorem d12_0 : decode prog_11_method_1_code 0 = .ok (.aload_n 0, 1) := by decide +kernel
theorem d12_1 : decode prog_11_method_1_code 1 = .ok (.invokespecial 1, 3) := by decide +kernel
theorem d12_4 : decode prog_11_method_1_code 4 = .ok (.aload_n 1, 1) := by decide +kernel
theorem d12_5 : decode prog_11_method_1_code 5 = .ok (.invokevirtual 7, 3) := by decide +kernel
theorem pd_ocZ : parseMethodDescriptor "()Z" = some ⟨[], some .boolean⟩ := by decide +kernel
theorem d12_8 : decode prog_11_method_1_code 8 = .ok (.ifCond .eq 13, 3) := by decide +kernel
theorem d12_21 : decode prog_11_method_1_code 21 = .ok (.aload_n 0, 1) := by decide +kernel
theorem d12_22 : decode prog_11_method_1_code 22 = .ok (.aload_n 1, 1) := by decide +kernel
theorem d12_23 : decode prog_11_method_1_code 23 = .ok (.putfield 20, 3) := by decide +kernel
theorem d12_26 : decode prog_11_method_1_code 26 = .ok (.return_, 1) := by decide +kernel
theorem ef_13 (m : MethodId) (x0 : Addr) (x1 : Addr) (x2 : Int32) : entryFrame m #[(.ref x0), (.ref x1), (.int x2)] 3 = mkF m 0 #[.val (.ref x0), .val (.ref x1), .val (.int x2)] [] := by first | (simp [entryFrame, mkF, argsToLocals, Value.category]; done) | rfl
theorem pn_com_example_rowkey_modeler_rowkeymodeler_NumberField : plainName "com/example/rowkey_modeler/rowkeymodeler/NumberField" = true := by first | (simp [plainName, overriddenIn]; done) | decide +kernel
theorem d13_0 : decode prog_17_method_1_code 0 = .ok (.aload_n 0, 1) := by decide +kernel
theorem d13_1 : decode prog_17_method_1_code 1 = .ok (.aload_n 1, 1) := by decide +kernel
theorem d13_2 : decode prog_17_method_1_code 2 = .ok (.invokespecial 1, 3) := by decide +kernel
theorem pd_oLjava_lang_StringscV : parseMethodDescriptor "(Ljava/lang/String;)V" = some ⟨[(.object "java/lang/String")], none⟩ := by decide +kernel
theorem d13_5 : decode prog_17_method_1_code 5 = .ok (.aload_n 0, 1) := by decide +kernel
theorem d13_6 : decode prog_17_method_1_code 6 = .ok (.iload_n 2, 1) := by decide +kernel
theorem d13_7 : decode prog_17_method_1_code 7 = .ok (.putfield 7, 3) := by decide +kernel
theorem d13_10 : decode prog_17_method_1_code 10 = .ok (.return_, 1) := by decide +kernel
theorem ef_14 (m : MethodId) (x0 : Addr) (x1 : Addr) (x2 : Int32) (x3 : Int32) : entryFrame m #[(.ref x0), (.ref x1), (.int x2), (.int x3)] 7 = mkF m 0 #[.val (.ref x0), .val (.ref x1), .val (.int x2), .val (.int x3), .unset, .unset, .unset] [] := by first | (simp [entryFrame, mkF, argsToLocals, Value.category]; done) | rfl
theorem pn_com_example_rowkey_modeler_rowkeymodeler_DecimalField : plainName "com/example/rowkey_modeler/rowkeymodeler/DecimalField" = true := by first | (simp [plainName, overriddenIn]; done) | decide +kernel
theorem d14_0 : decode prog_6_method_1_code 0 = .ok (.aload_n 0, 1) := by decide +kernel
theorem d14_1 : decode prog_6_method_1_code 1 = .ok (.aload_n 1, 1) := by decide +kernel
theorem d14_2 : decode prog_6_method_1_code 2 = .ok (.iload_n 3, 1) := by decide +kernel
theorem d14_3 : decode prog_6_method_1_code 3 = .ok (.invokespecial 1, 3) := by decide +kernel
theorem pd_oLjava_lang_StringsZcV : parseMethodDescriptor "(Ljava/lang/String;Z)V" = some ⟨[(.object "java/lang/String"), .boolean], none⟩ := by decide +kernel
theorem d14_6 : decode prog_6_method_1_code 6 = .ok (.iload_n 2, 1) := by decide +kernel
theorem d14_7 : decode prog_6_method_1_code 7 = .ok (.iconst 1, 1) := by decide +kernel
theorem d14_8 : decode prog_6_method_1_code 8 = .ok (.if_icmp .lt 9, 3) := by decide +kernel
theorem d14_11 : decode prog_6_method_1_code 11 = .ok (.iload_n 2, 1) := by decide +kernel
theorem d14_12 : decode prog_6_method_1_code 12 = .ok (.bipush 19, 2) := by decide +kernel
theorem d14_14 : decode prog_6_method_1_code 14 = .ok (.if_icmp .le 17, 3) := by decide +kernel
theorem d14_31 : decode prog_6_method_1_code 31 = .ok (.aload_n 0, 1) := by decide +kernel
theorem d14_32 : decode prog_6_method_1_code 32 = .ok (.iload_n 2, 1) := by decide +kernel
theorem d14_33 : decode prog_6_method_1_code 33 = .ok (.putfield 18, 3) := by decide +kernel
theorem d14_36 : decode prog_6_method_1_code 36 = .ok (.ldc2_w 24, 3) := by decide +kernel
theorem d14_39 : decode prog_6_method_1_code 39 = .ok (.lstore 4, 2) := by decide +kernel
theorem d14_41 : decode prog_6_method_1_code 41 = .ok (.iload_n 2, 1) := by decide +kernel
theorem d14_42 : decode prog_6_method_1_code 42 = .ok (.bipush 19, 2) := by decide +kernel
theorem d14_44 : decode prog_6_method_1_code 44 = .ok (.if_icmp .ge 35, 3) := by decide +kernel
theorem d14_47 : decode prog_6_method_1_code 47 = .ok (.lconst 1, 1) := by decide +kernel
theorem d14_48 : decode prog_6_method_1_code 48 = .ok (.lstore 4, 2) := by decide +kernel
theorem d14_50 : decode prog_6_method_1_code 50 = .ok (.iconst 0, 1) := by decide +kernel
theorem d14_51 : decode prog_6_method_1_code 51 = .ok (.istore 6, 2) := by decide +kernel
theorem d14_53 : decode prog_6_method_1_code 53 = .ok (.iload 6, 2) := by decide +kernel
theorem d14_55 : decode prog_6_method_1_code 55 = .ok (.iload_n 2, 1) := by decide +kernel
theorem d14_56 : decode prog_6_method_1_code 56 = .ok (.if_icmp .ge 17, 3) := by decide +kernel
theorem d14_59 : decode prog_6_method_1_code 59 = .ok (.lload 4, 2) := by decide +kernel
theorem d14_61 : decode prog_6_method_1_code 61 = .ok (.ldc2_w 26, 3) := by decide +kernel
theorem d14_64 : decode prog_6_method_1_code 64 = .ok (.lmul, 1) := by decide +kernel
theorem d14_65 : decode prog_6_method_1_code 65 = .ok (.lstore 4, 2) := by decide +kernel
theorem d14_67 : decode prog_6_method_1_code 67 = .ok (.iinc 6 1, 3) := by decide +kernel
theorem d14_70 : decode prog_6_method_1_code 70 = .ok (.goto (-17), 3) := by decide +kernel
theorem d14_73 : decode prog_6_method_1_code 73 = .ok (.lload 4, 2) := by decide +kernel
theorem d14_75 : decode prog_6_method_1_code 75 = .ok (.lconst 1, 1) := by decide +kernel
theorem d14_76 : decode prog_6_method_1_code 76 = .ok (.lsub, 1) := by decide +kernel
theorem d14_77 : decode prog_6_method_1_code 77 = .ok (.lstore 4, 2) := by decide +kernel
theorem d14_79 : decode prog_6_method_1_code 79 = .ok (.aload_n 0, 1) := by decide +kernel
theorem d14_80 : decode prog_6_method_1_code 80 = .ok (.lload 4, 2) := by decide +kernel
theorem d14_82 : decode prog_6_method_1_code 82 = .ok (.putfield 28, 3) := by decide +kernel
theorem d14_85 : decode prog_6_method_1_code 85 = .ok (.return_, 1) := by decide +kernel
theorem ef_15 (m : MethodId) (x0 : Addr) : entryFrame m #[(.ref x0)] 1 = mkF m 0 #[.val (.ref x0)] [] := by first | (simp [entryFrame, mkF, argsToLocals, Value.category]; done) | rfl
theorem d15_0 : decode prog_17_method_2_code 0 = .ok (.aload_n 0, 1) := by decide +kernel
theorem d15_1 : decode prog_17_method_2_code 1 = .ok (.getfield 7, 3) := by decide +kernel
theorem d15_4 : decode prog_17_method_2_code 4 = .ok (.ireturn, 1) := by decide +kernel
theorem ef_16 (m : MethodId) (x0 : Addr) : entryFrame m #[(.ref x0)] 1 = mkF m 0 #[.val (.ref x0)] [] := by first | (simp [entryFrame, mkF, argsToLocals, Value.category]; done) | rfl
theorem d16_0 : decode prog_6_method_5_code 0 = .ok (.aload_n 0, 1) := by decide +kernel
theorem d16_1 : decode prog_6_method_5_code 1 = .ok (.invokevirtual 34, 3) := by decide +kernel
theorem d16_4 : decode prog_6_method_5_code 4 = .ok (.ifCond .eq 9, 3) := by decide +kernel
theorem d16_13 : decode prog_6_method_5_code 13 = .ok (.aload_n 0, 1) := by decide +kernel
theorem d16_14 : decode prog_6_method_5_code 14 = .ok (.getfield 28, 3) := by decide +kernel
theorem d16_7 : decode prog_6_method_5_code 7 = .ok (.ldc2_w 24, 3) := by decide +kernel
theorem d16_10 : decode prog_6_method_5_code 10 = .ok (.goto 7, 3) := by decide +kernel
theorem d16_17 : decode prog_6_method_5_code 17 = .ok (.lreturn, 1) := by decide +kernel
theorem ef_17 (m : MethodId) (x0 : Int32) : entryFrame m #[(.int x0)] 2 = mkF m 0 #[.val (.int x0), .unset] [] := by first | (simp [entryFrame, mkF, argsToLocals, Value.category]; done) | rfl
theorem pn_com_example_rowkey_modeler_rowkeymodeler_DecimalFieldMaxPinLaw : plainName "com/example/rowkey_modeler/rowkeymodeler/DecimalFieldMaxPinLaw" = true := by first | (simp [plainName, overriddenIn]; done) | decide +kernel
theorem d17_0 : decode method_2_code 0 = .ok (.bipush 18, 2) := by decide +kernel
theorem d17_2 : decode method_2_code 2 = .ok (.newarray .long, 2) := by decide +kernel
theorem d17_4 : decode method_2_code 4 = .ok (.dup, 1) := by decide +kernel
theorem d17_5 : decode method_2_code 5 = .ok (.iconst 0, 1) := by decide +kernel
theorem d17_6 : decode method_2_code 6 = .ok (.ldc2_w 7, 3) := by decide +kernel
theorem d17_9 : decode method_2_code 9 = .ok (.lastore, 1) := by decide +kernel
theorem d17_10 : decode method_2_code 10 = .ok (.dup, 1) := by decide +kernel
theorem d17_11 : decode method_2_code 11 = .ok (.iconst 1, 1) := by decide +kernel
theorem d17_12 : decode method_2_code 12 = .ok (.ldc2_w 9, 3) := by decide +kernel
theorem d17_15 : decode method_2_code 15 = .ok (.lastore, 1) := by decide +kernel
theorem d17_16 : decode method_2_code 16 = .ok (.dup, 1) := by decide +kernel
theorem d17_17 : decode method_2_code 17 = .ok (.iconst 2, 1) := by decide +kernel
theorem d17_18 : decode method_2_code 18 = .ok (.ldc2_w 11, 3) := by decide +kernel
theorem d17_21 : decode method_2_code 21 = .ok (.lastore, 1) := by decide +kernel
theorem d17_22 : decode method_2_code 22 = .ok (.dup, 1) := by decide +kernel
theorem d17_23 : decode method_2_code 23 = .ok (.iconst 3, 1) := by decide +kernel
theorem d17_24 : decode method_2_code 24 = .ok (.ldc2_w 13, 3) := by decide +kernel
theorem d17_27 : decode method_2_code 27 = .ok (.lastore, 1) := by decide +kernel
theorem d17_28 : decode method_2_code 28 = .ok (.dup, 1) := by decide +kernel
theorem d17_29 : decode method_2_code 29 = .ok (.iconst 4, 1) := by decide +kernel
theorem d17_30 : decode method_2_code 30 = .ok (.ldc2_w 15, 3) := by decide +kernel
theorem d17_33 : decode method_2_code 33 = .ok (.lastore, 1) := by decide +kernel
theorem d17_34 : decode method_2_code 34 = .ok (.dup, 1) := by decide +kernel
theorem d17_35 : decode method_2_code 35 = .ok (.iconst 5, 1) := by decide +kernel
theorem d17_36 : decode method_2_code 36 = .ok (.ldc2_w 17, 3) := by decide +kernel
theorem d17_39 : decode method_2_code 39 = .ok (.lastore, 1) := by decide +kernel
theorem d17_40 : decode method_2_code 40 = .ok (.dup, 1) := by decide +kernel
theorem d17_41 : decode method_2_code 41 = .ok (.bipush 6, 2) := by decide +kernel
theorem d17_43 : decode method_2_code 43 = .ok (.ldc2_w 19, 3) := by decide +kernel
theorem d17_46 : decode method_2_code 46 = .ok (.lastore, 1) := by decide +kernel
theorem d17_47 : decode method_2_code 47 = .ok (.dup, 1) := by decide +kernel
theorem d17_48 : decode method_2_code 48 = .ok (.bipush 7, 2) := by decide +kernel
theorem d17_50 : decode method_2_code 50 = .ok (.ldc2_w 21, 3) := by decide +kernel
theorem d17_53 : decode method_2_code 53 = .ok (.lastore, 1) := by decide +kernel
theorem d17_54 : decode method_2_code 54 = .ok (.dup, 1) := by decide +kernel
theorem d17_55 : decode method_2_code 55 = .ok (.bipush 8, 2) := by decide +kernel
theorem d17_57 : decode method_2_code 57 = .ok (.ldc2_w 23, 3) := by decide +kernel
theorem d17_60 : decode method_2_code 60 = .ok (.lastore, 1) := by decide +kernel
theorem d17_61 : decode method_2_code 61 = .ok (.dup, 1) := by decide +kernel
theorem d17_62 : decode method_2_code 62 = .ok (.bipush 9, 2) := by decide +kernel
theorem d17_64 : decode method_2_code 64 = .ok (.ldc2_w 25, 3) := by decide +kernel
theorem d17_67 : decode method_2_code 67 = .ok (.lastore, 1) := by decide +kernel
theorem d17_68 : decode method_2_code 68 = .ok (.dup, 1) := by decide +kernel
theorem d17_69 : decode method_2_code 69 = .ok (.bipush 10, 2) := by decide +kernel
theorem d17_71 : decode method_2_code 71 = .ok (.ldc2_w 27, 3) := by decide +kernel
theorem d17_74 : decode method_2_code 74 = .ok (.lastore, 1) := by decide +kernel
theorem d17_75 : decode method_2_code 75 = .ok (.dup, 1) := by decide +kernel
theorem d17_76 : decode method_2_code 76 = .ok (.bipush 11, 2) := by decide +kernel
theorem d17_78 : decode method_2_code 78 = .ok (.ldc2_w 29, 3) := by decide +kernel
theorem d17_81 : decode method_2_code 81 = .ok (.lastore, 1) := by decide +kernel
theorem d17_82 : decode method_2_code 82 = .ok (.dup, 1) := by decide +kernel
theorem d17_83 : decode method_2_code 83 = .ok (.bipush 12, 2) := by decide +kernel
theorem d17_85 : decode method_2_code 85 = .ok (.ldc2_w 31, 3) := by decide +kernel
theorem d17_88 : decode method_2_code 88 = .ok (.lastore, 1) := by decide +kernel
theorem d17_89 : decode method_2_code 89 = .ok (.dup, 1) := by decide +kernel
theorem d17_90 : decode method_2_code 90 = .ok (.bipush 13, 2) := by decide +kernel
theorem d17_92 : decode method_2_code 92 = .ok (.ldc2_w 33, 3) := by decide +kernel
theorem d17_95 : decode method_2_code 95 = .ok (.lastore, 1) := by decide +kernel
theorem d17_96 : decode method_2_code 96 = .ok (.dup, 1) := by decide +kernel
theorem d17_97 : decode method_2_code 97 = .ok (.bipush 14, 2) := by decide +kernel
theorem d17_99 : decode method_2_code 99 = .ok (.ldc2_w 35, 3) := by decide +kernel
theorem d17_102 : decode method_2_code 102 = .ok (.lastore, 1) := by decide +kernel
theorem d17_103 : decode method_2_code 103 = .ok (.dup, 1) := by decide +kernel
theorem d17_104 : decode method_2_code 104 = .ok (.bipush 15, 2) := by decide +kernel
theorem d17_106 : decode method_2_code 106 = .ok (.ldc2_w 37, 3) := by decide +kernel
theorem d17_109 : decode method_2_code 109 = .ok (.lastore, 1) := by decide +kernel
theorem d17_110 : decode method_2_code 110 = .ok (.dup, 1) := by decide +kernel
theorem d17_111 : decode method_2_code 111 = .ok (.bipush 16, 2) := by decide +kernel
theorem d17_113 : decode method_2_code 113 = .ok (.ldc2_w 39, 3) := by decide +kernel
theorem d17_116 : decode method_2_code 116 = .ok (.lastore, 1) := by decide +kernel
theorem d17_117 : decode method_2_code 117 = .ok (.dup, 1) := by decide +kernel
theorem d17_118 : decode method_2_code 118 = .ok (.bipush 17, 2) := by decide +kernel
theorem d17_120 : decode method_2_code 120 = .ok (.ldc2_w 41, 3) := by decide +kernel
theorem d17_123 : decode method_2_code 123 = .ok (.lastore, 1) := by decide +kernel
theorem d17_124 : decode method_2_code 124 = .ok (.astore_n 1, 1) := by decide +kernel
theorem d17_125 : decode method_2_code 125 = .ok (.iload_n 0, 1) := by decide +kernel
theorem d17_126 : decode method_2_code 126 = .ok (.bipush 19, 2) := by decide +kernel
theorem d17_128 : decode method_2_code 128 = .ok (.if_icmp .lt 7, 3) := by decide +kernel
theorem d17_135 : decode method_2_code 135 = .ok (.aload_n 1, 1) := by decide +kernel
theorem d17_136 : decode method_2_code 136 = .ok (.iload_n 0, 1) := by decide +kernel
theorem d17_137 : decode method_2_code 137 = .ok (.iconst 1, 1) := by decide +kernel
theorem d17_138 : decode method_2_code 138 = .ok (.isub, 1) := by decide +kernel
theorem d17_139 : decode method_2_code 139 = .ok (.laload, 1) := by decide +kernel
theorem d17_140 : decode method_2_code 140 = .ok (.lreturn, 1) := by decide +kernel
theorem d17_131 : decode method_2_code 131 = .ok (.ldc2_w 45, 3) := by decide +kernel
theorem d17_134 : decode method_2_code 134 = .ok (.lreturn, 1) := by decide +kernel
theorem ef_0 (m : MethodId) (x0 : Int32) (x1 : Int32) : entryFrame m #[(.int x0), (.int x1)] maxLocals = mkF m 0 #[.val (.int x0), .val (.int x1), .unset, .unset, .unset, .unset, .unset] [] := by first | (simp [entryFrame, mkF, argsToLocals, Value.category, maxLocals]; done) | rfl
theorem pd_oLjava_lang_StringsIZcV : parseMethodDescriptor "(Ljava/lang/String;IZ)V" = some ⟨[(.object "java/lang/String"), .int, .boolean], none⟩ := by decide +kernel
theorem pd_oIcJ : parseMethodDescriptor "(I)J" = some ⟨[.int], some .long⟩ := by decide +kernel
theorem pd_ocJ : parseMethodDescriptor "()J" = some ⟨[], some .long⟩ := by decide +kernel
def own_p10 : Nat → Int64 → Int64
  | 0, a => a
  | k + 1, a => own_p10 k (a * (10 : Int64))
def own_tab (i : Nat) : Int64 := ([9, 99, 999, 9999, 99999, 999999, 9999999, 99999999, 999999999, 9999999999, 99999999999, 999999999999, 9999999999999, 99999999999999, 999999999999999, 9999999999999999, 99999999999999999, 999999999999999999] : List Int64).getD i 0
def fnines (fw : Int32) : Int64 := if fw < (19 : Int32) then own_tab (fw - (1 : Int32)).toInt.toNat else (9223372036854775807 : Int64)
def Q11 (Z : State) (fs fb : Addr) (ff : Nat → Value) (h0 : Heap) (n0 : Nat) (v : Option Value) (h : Heap) (L : List Loc) : Prop := v = some (.int 0) ∧ Fr n0 L ∧ h = h0
set_option maxRecDepth 65536 in
set_option maxHeartbeats 40000000 in
theorem rm11 (l : Launch) (Z : State) (a0 : Array Value) (hw : ∀ d ∈ tables_1, d.before a0 Z = true) (ws : List Jvm.Cond) (fs fb : Addr) (ff : Nat → Value) (h0 : Heap) (n0 : Nat) (Z0 : n0 ≤ h0.size) (Es : Exa Z h0 fs "java/lang/String") (Fv : Fld Z h0 fs "java/lang/String" "value" "[B" (.ref fb)) (Vb : Ar Z h0 fb .byte 1 ff) :
    MetFree l (⟨"java/lang/String", "isEmpty", "()Z"⟩ : MethodName) (head1 (Jvm.Cond.code (⟨"java/lang/String", "isEmpty", "()Z"⟩ : MethodName) jdk_42_method_55_code 1 (some .boolean) :: ws) ({ frames := 0, cells := 0, slots := 0, locals := 0 } : Room)) (fun a U => a = #[(.ref fs)] ∧ Z.Warmed39 U.vm ∧ U.heap = h0) (fun _ _ _ _ _ => True) (fun _ U o U' => ∃ v L, o = .returned v ∧ Q11 Z fs fb ff h0 n0 v U'.heap L ∧ FrameEnd U o U' L ({ frames := 0, cells := 0, slots := 0, locals := 0 } : Room).cells ({ frames := 0, cells := 0, slots := 0, locals := 0 } : Room).slots) := by
  refine MetFree.of_bodySF (plainFor_of_name pn_java_lang_String) hisR ?_
  intro p e s m args0 below meth c s₁ Bd hml0 hP hK
  obtain ⟨rfl, hZ, hh⟩ := hP
  have hx := Bd.exec
  have hby := Bd.bytes
  have hml : c.maxLocals = 1 := hml0
  have hown : s.vm.findClass "java/lang/String" = some m.cls := findClass_of_methodNamed Bd.named
  have hnm := (name_of_methodNamed Bd.named Bd.method).1
  have X0 : Stand p l e ({ frames := 0, cells := 0, slots := 0, locals := 0 } : Room) s m #[(.ref fs)] below meth c s₁ [] 0 0 := Stand.of_body Bd
  have e0 : s₁.heap = h0 := by rw [← hh, Bd.state]; rfl
  have N0 := Fr.nil n0
  have pre0 : ∀ t, Steps p.tables e below (s₁.setTop (mkF m 0 #[.val (.ref fs)] [])) t → Steps p.tables e below (s₁.setTop (entryFrame m #[(.ref fs)] 1)) t := fun t kk_ => castTop (ef_11 m fs) kk_
  have s1 : ∀ t, Steps p.tables e below (s₁.setTop (mkF m 1 #[.val (.ref fs)] [(.ref fs)])) t → Steps p.tables e below (s₁.setTop (mkF m 0 #[.val (.ref fs)] [])) t := by
    intro t kt
    refine XS.aloadN X0.here hx rfl (hb hby d11_0) rfl rfl ?_
    exact kt
  obtain ⟨T2, X2, e2, st2⟩ := getF X0 hx hZ hown (host := "") (Or.inl (hw _ (List.mem_of_getElem? (i := 33) rfl))) Via.refl e0 Fv (g := (mkF m 1 #[.val (.ref fs)] [(.ref fs)])) rfl rfl (hb hby d11_1)
  have s3 : ∀ t, Steps p.tables e below (T2.setTop (mkF m 13 #[.val (.ref fs)] [(.int (0 : Int32))])) t → Steps p.tables e below (T2.setTop (mkF m 4 #[.val (.ref fs)] [(.ref fb)])) t := by
    intro t kt
    refine OwnKit.alen X2 hx hZ e2 Vb (z := (1 : Int32)) (by decide) (g := (mkF m 4 #[.val (.ref fs)] [(.ref fb)])) rfl rfl (hb hby d11_4) _ ?_
    show Steps p.tables e below (T2.setTop (mkF m 5 #[.val (.ref fs)] [(.int (1 : Int32))])) t
    refine XS.ifYes X2.here hx rfl (pc0 := 5) (pc' := 12) rfl (hb hby d11_5) rfl ((if0 _ _).trans (feq (by decide)).2) (by decide) (by decide) ?_
    show Steps p.tables e below (T2.setTop (mkF m 12 #[.val (.ref fs)] [])) t
    refine XS.iconst X2.here hx rfl (hb hby d11_12) ?_
    exact kt
  obtain ⟨fs_, hr, hrun, hended, hW, hsame⟩ := X2.leave (v := some (.int (0 : Int32))) (fun h => by rw [Bd.returns] at h; cases h)
  refine ⟨_, _, pre0 _ (s1 _ (st2 _ (s3 _ (?_)))), hrun, hended, _, _, rfl, ?_, ⟨_, rfl⟩, hW, hsame.mono (by decide) (by decide)⟩
  · show Steps p.tables e below (T2.setTop (mkF m 13 #[.val (.ref fs)] [(.int (0 : Int32))])) _
    exact retN X2 hx (t := .boolean) Bd.returns (by simp) (hb hby d11_13) hr
  · show Q11 Z fs fb ff h0 n0 _ T2.heap _
    rw [e2]
    exact ⟨rfl, N0, rfl⟩
def Q12 (Z : State) (fa fs fb : Addr) (ff : Nat → Value) (h0 : Heap) (n0 : Nat) (v : Option Value) (h : Heap) (L : List Loc) : Prop := v = none ∧ Fr n0 L ∧ Keep h0 h [fa] ∧ Exa Z h fa "com/example/rowkey_modeler/rowkeymodeler/DecimalField" ∧ Fld Z h fa "com/example/rowkey_modeler/rowkeymodeler/NumberField" "reverse" "Z" (.int (0 : Int32)) ∧ Fld Z h fa "com/example/rowkey_modeler/rowkeymodeler/DecimalField" "width" "I" (.int (0 : Int32)) ∧ Fld Z h fa "com/example/rowkey_modeler/rowkeymodeler/DecimalField" "largestWritten" "J" (.long (0 : Int64))
set_option maxRecDepth 65536 in
set_option maxHeartbeats 40000000 in
theorem rm12 (l : Launch) (Z : State) (a0 : Array Value) (hw : ∀ d ∈ tables_1, d.before a0 Z = true) (ws : List Jvm.Cond) (fa fs fb : Addr) (ff : Nat → Value) (h0 : Heap) (n0 : Nat) (Z0 : n0 ≤ h0.size) (Ea : Exa Z h0 fa "com/example/rowkey_modeler/rowkeymodeler/DecimalField") (F1 : Fld Z h0 fa "com/example/rowkey_modeler/rowkeymodeler/KeyField" "name" "Ljava/lang/String;" .null) (F2 : Fld Z h0 fa "com/example/rowkey_modeler/rowkeymodeler/NumberField" "reverse" "Z" (.int (0 : Int32))) (F3 : Fld Z h0 fa "com/example/rowkey_modeler/rowkeymodeler/DecimalField" "width" "I" (.int (0 : Int32))) (F4 : Fld Z h0 fa "com/example/rowkey_modeler/rowkeymodeler/DecimalField" "largestWritten" "J" (.long (0 : Int64))) (Ga : n0 ≤ fa) (Es : Exa Z h0 fs "java/lang/String") (Fv : Fld Z h0 fs "java/lang/String" "value" "[B" (.ref fb)) (Vb : Ar Z h0 fb .byte 1 ff) :
    MetFree l (⟨"com/example/rowkey_modeler/rowkeymodeler/KeyField", "<init>", "(Ljava/lang/String;)V"⟩ : MethodName) (head1 (Jvm.Cond.code (⟨"com/example/rowkey_modeler/rowkeymodeler/KeyField", "<init>", "(Ljava/lang/String;)V"⟩ : MethodName) prog_11_method_1_code 2 none :: ws) ({ frames := 1, cells := 0, slots := 0, locals := 12 } : Room)) (fun a U => a = #[(.ref fa), (.ref fs)] ∧ Z.Warmed39 U.vm ∧ U.heap = h0) (fun _ _ _ _ _ => True) (fun _ U o U' => ∃ v L, o = .returned v ∧ Q12 Z fa fs fb ff h0 n0 v U'.heap L ∧ FrameEnd U o U' L ({ frames := 1, cells := 0, slots := 0, locals := 12 } : Room).cells ({ frames := 1, cells := 0, slots := 0, locals := 12 } : Room).slots) := by
  refine MetFree.of_bodySF (plainFor_of_name pn_com_example_rowkey_modeler_rowkeymodeler_KeyField) hisR ?_
  intro p e s m args0 below meth c s₁ Bd hml0 hP hK
  obtain ⟨rfl, hZ, hh⟩ := hP
  have hx := Bd.exec
  have hby := Bd.bytes
  have hml : c.maxLocals = 2 := hml0
  have hown : s.vm.findClass "com/example/rowkey_modeler/rowkeymodeler/KeyField" = some m.cls := findClass_of_methodNamed Bd.named
  have hnm := (name_of_methodNamed Bd.named Bd.method).1
  have X0 : Stand p l e ({ frames := 1, cells := 0, slots := 0, locals := 12 } : Room) s m #[(.ref fa), (.ref fs)] below meth c s₁ [] 0 0 := Stand.of_body Bd
  have e0 : s₁.heap = h0 := by rw [← hh, Bd.state]; rfl
  have N0 := Fr.nil n0
  have pre0 : ∀ t, Steps p.tables e below (s₁.setTop (mkF m 0 #[.val (.ref fa), .val (.ref fs)] [])) t → Steps p.tables e below (s₁.setTop (entryFrame m #[(.ref fa), (.ref fs)] 2)) t := fun t kk_ => castTop (ef_12 m fa fs) kk_
  have s4 : ∀ t, Steps p.tables e below (s₁.setTop (mkF m 1 #[.val (.ref fa), .val (.ref fs)] [(.ref fa)])) t → Steps p.tables e below (s₁.setTop (mkF m 0 #[.val (.ref fa), .val (.ref fs)] [])) t := by
    intro t kt
    refine XS.aloadN X0.here hx rfl (hb hby d12_0) rfl rfl ?_
    exact kt
  obtain ⟨T5, X5, e5, st5⟩ := initO X0 hx hZ hown (hw _ (List.mem_of_getElem? (i := 25) rfl)) (hw _ (List.mem_of_getElem? (i := 26) rfl)) (hw _ (List.mem_of_getElem? (i := 27) rfl)) e0 (g := (mkF m 1 #[.val (.ref fa), .val (.ref fs)] [(.ref fa)])) rfl (by rw [hml]; rfl) rfl (hb hby d12_1) (by decide) (W := 0) (by show 2 * 0 + _ ≤ _; exact Nat.le_of_eq rfl) (by decide)
  have s6 : ∀ t, Steps p.tables e below (T5.setTop (mkF m 5 #[.val (.ref fa), .val (.ref fs)] [(.ref fs)])) t → Steps p.tables e below (T5.setTop (mkF m 4 #[.val (.ref fa), .val (.ref fs)] [])) t := by
    intro t kt
    refine XS.aloadN X5.here hx rfl (hb hby d12_4) rfl rfl ?_
    exact kt
  obtain ⟨cq7, kq7, qa7, qb7, qc7⟩ := isOf hZ e5 Es
  obtain ⟨_, _, ⟨T7, L7, k7, n7⟩, -, X7, ⟨Lc7, hQ7, l7, y7, z7⟩, st7⟩ := X5.virtualBack hx (y := (⟨"java/lang/String", "isEmpty", "()Z"⟩ : MethodName)) (z := (⟨"java/lang/String", "isEmpty", "()Z"⟩ : MethodName)) hown (mvT hZ (hw _ (List.mem_of_getElem? (i := 28) rfl))) (mvT hZ (hw _ (List.mem_of_getElem? (i := 29) rfl))) (notFace_of_selects (args := #[]) (mvT hZ (hw _ (List.mem_of_getElem? (i := 31) rfl)))) (mvT hZ (hw _ (List.mem_of_getElem? (i := 31) rfl))) (mvT hZ (hw _ (List.mem_of_getElem? (i := 30) rfl))) (by decide) (backOf (W := 0) (rm11 l Z a0 hw [] fs fb _ h0 n0 Z0 Es Fv Vb) hZ (hw _ (List.mem_of_getElem? (i := 32) rfl)) (hw _ (List.mem_of_getElem? (i := 5) rfl)) (by decide) (by decide)) qa7 qc7 (g := (mkF m 5 #[.val (.ref fa), .val (.ref fs)] [(.ref fs)])) rfl (by rw [hml]; rfl) (Steps.refl _) (argsL := []) (rest := []) (lenOf pd_ocZ rfl) rfl (by show 2 * 0 + _ ≤ _; exact Nat.le_of_eq rfl) (hb hby d12_5) (fun _ _ => ⟨rfl, e5, (by decide : 0 + 0 ≤ _), (by decide : 0 + 0 ≤ _)⟩)
  dsimp only [Pt.U, Pt.locs, Pt.cells, Pt.slots] at X7 l7 y7 z7 st7 hQ7
  subst l7 y7 z7
  obtain ⟨rfl, N7q, e7q⟩ := hQ7
  have N7 := Fr.app N0 N7q
  have s8 : ∀ t, Steps p.tables e below (T7.setTop (mkF m 23 #[.val (.ref fa), .val (.ref fs)] [(.ref fs), (.ref fa)])) t → Steps p.tables e below (T7.setTop (mkF m 8 #[.val (.ref fa), .val (.ref fs)] [(.int (0 : Int32))])) t := by
    intro t kt
    refine XS.ifYes X7.here hx rfl (pc0 := 8) (pc' := 21) rfl (hb hby d12_8) rfl ((if0 _ _).trans (teq rfl).1) (by decide) (by decide) ?_
    show Steps p.tables e below (T7.setTop (mkF m 21 #[.val (.ref fa), .val (.ref fs)] [])) t
    refine XS.aloadN X7.here hx rfl (hb hby d12_21) rfl rfl ?_
    show Steps p.tables e below (T7.setTop (mkF m 22 #[.val (.ref fa), .val (.ref fs)] [(.ref fa)])) t
    refine XS.aloadN X7.here hx rfl (hb hby d12_22) rfl rfl ?_
    exact kt
  obtain ⟨T9, h9, X9, e9, W9, st9⟩ := putF X7 hx hZ hown (host := "") (Or.inl (hw _ (List.mem_of_getElem? (i := 34) rfl))) Via.refl e7q F1 Ea (Or.inr ⟨(hw _ (List.mem_of_getElem? (i := 35) rfl)), rfl, hnm⟩) (hw _ (List.mem_of_getElem? (i := 2) rfl)) (ty := (.object "java/lang/String")) (by decide) rfl rfl (g := (mkF m 23 #[.val (.ref fa), .val (.ref fs)] [(.ref fs), (.ref fa)])) rfl rfl (hb hby d12_23)
  have Zs9 : n0 ≤ h9.size := Nat.le_trans Z0 (Keep.of_wr W9).1
  have fE10 := Ea.wr W9
  have fF11 := F1.same W9
  have fF12 := F2.other W9 (Or.inr (slot_ne (Or.inr (hw _ (List.mem_of_getElem? (i := 37) rfl))) (Or.inr (hw _ (List.mem_of_getElem? (i := 35) rfl))) (by decide) (t := .boolean) (t' := (.object "java/lang/String")) (by decide) (by decide)))
  have fF13 := F3.other W9 (Or.inr (slot_ne (Or.inr (hw _ (List.mem_of_getElem? (i := 39) rfl))) (Or.inr (hw _ (List.mem_of_getElem? (i := 35) rfl))) (by decide) (t := .int) (t' := (.object "java/lang/String")) (by decide) (by decide)))
  have fF14 := F4.other W9 (Or.inr (slot_ne (Or.inr (hw _ (List.mem_of_getElem? (i := 43) rfl))) (Or.inr (hw _ (List.mem_of_getElem? (i := 35) rfl))) (by decide) (t := .long) (t' := (.object "java/lang/String")) (by decide) (by decide)))
  have K9 : Keep h0 h9 [fa] := (Keep.refl h0 [fa]).wr W9 (Or.inl (List.mem_of_getElem? (i := 0) rfl))
  have N9 := Fr.snoc X9 N7 Ga
  obtain ⟨fs_, hr, hrun, hended, hW, hsame⟩ := X9.leave (v := none) (fun _ => rfl)
  refine ⟨_, _, pre0 _ (s4 _ (st5 _ (s6 _ (st7.trans (s8 _ (st9 _ (?_))))))), hrun, hended, _, _, rfl, ?_, ⟨_, rfl⟩, hW, hsame.mono (by decide) (by decide)⟩
  · show Steps p.tables e below (T9.setTop (mkF m 26 #[.val (.ref fa), .val (.ref fs)] [])) _
    exact X9.returnOut hx Bd.returns (hb hby d12_26) hr
  · show Q12 Z fa fs fb ff h0 n0 _ T9.heap _
    rw [e9]
    exact ⟨rfl, N9, K9, fE10, fF12, fF13, fF14⟩
def Q13 (Z : State) (fa fs fb : Addr) (ff : Nat → Value) (fr : Int32) (h0 : Heap) (n0 : Nat) (v : Option Value) (h : Heap) (L : List Loc) : Prop := v = none ∧ Fr n0 L ∧ Keep h0 h [fa] ∧ Exa Z h fa "com/example/rowkey_modeler/rowkeymodeler/DecimalField" ∧ Fld Z h fa "com/example/rowkey_modeler/rowkeymodeler/NumberField" "reverse" "Z" (.int fr) ∧ Fld Z h fa "com/example/rowkey_modeler/rowkeymodeler/DecimalField" "width" "I" (.int (0 : Int32)) ∧ Fld Z h fa "com/example/rowkey_modeler/rowkeymodeler/DecimalField" "largestWritten" "J" (.long (0 : Int64))
set_option maxRecDepth 65536 in
set_option maxHeartbeats 40000000 in
theorem rm13 (l : Launch) (Z : State) (a0 : Array Value) (hw : ∀ d ∈ tables_1, d.before a0 Z = true) (ws : List Jvm.Cond) (fa fs fb : Addr) (ff : Nat → Value) (fr : Int32) (h0 : Heap) (n0 : Nat) (Z0 : n0 ≤ h0.size) (Ea : Exa Z h0 fa "com/example/rowkey_modeler/rowkeymodeler/DecimalField") (F1 : Fld Z h0 fa "com/example/rowkey_modeler/rowkeymodeler/KeyField" "name" "Ljava/lang/String;" .null) (F2 : Fld Z h0 fa "com/example/rowkey_modeler/rowkeymodeler/NumberField" "reverse" "Z" (.int (0 : Int32))) (F3 : Fld Z h0 fa "com/example/rowkey_modeler/rowkeymodeler/DecimalField" "width" "I" (.int (0 : Int32))) (F4 : Fld Z h0 fa "com/example/rowkey_modeler/rowkeymodeler/DecimalField" "largestWritten" "J" (.long (0 : Int64))) (Ga : n0 ≤ fa) (Es : Exa Z h0 fs "java/lang/String") (Fv : Fld Z h0 fs "java/lang/String" "value" "[B" (.ref fb)) (Vb : Ar Z h0 fb .byte 1 ff) (hfr : fr = 0 ∨ fr = 1) :
    MetFree l (⟨"com/example/rowkey_modeler/rowkeymodeler/NumberField", "<init>", "(Ljava/lang/String;Z)V"⟩ : MethodName) (head1 (Jvm.Cond.code (⟨"com/example/rowkey_modeler/rowkeymodeler/NumberField", "<init>", "(Ljava/lang/String;Z)V"⟩ : MethodName) prog_17_method_1_code 3 none :: ws) ({ frames := 2, cells := 0, slots := 0, locals := 25 } : Room)) (fun a U => a = #[(.ref fa), (.ref fs), (.int fr)] ∧ Z.Warmed39 U.vm ∧ U.heap = h0) (fun _ _ _ _ _ => True) (fun _ U o U' => ∃ v L, o = .returned v ∧ Q13 Z fa fs fb ff fr h0 n0 v U'.heap L ∧ FrameEnd U o U' L ({ frames := 2, cells := 0, slots := 0, locals := 25 } : Room).cells ({ frames := 2, cells := 0, slots := 0, locals := 25 } : Room).slots) := by
  refine MetFree.of_bodySF (plainFor_of_name pn_com_example_rowkey_modeler_rowkeymodeler_NumberField) hisR ?_
  intro p e s m args0 below meth c s₁ Bd hml0 hP hK
  obtain ⟨rfl, hZ, hh⟩ := hP
  have hx := Bd.exec
  have hby := Bd.bytes
  have hml : c.maxLocals = 3 := hml0
  have hown : s.vm.findClass "com/example/rowkey_modeler/rowkeymodeler/NumberField" = some m.cls := findClass_of_methodNamed Bd.named
  have hnm := (name_of_methodNamed Bd.named Bd.method).1
  have X0 : Stand p l e ({ frames := 2, cells := 0, slots := 0, locals := 25 } : Room) s m #[(.ref fa), (.ref fs), (.int fr)] below meth c s₁ [] 0 0 := Stand.of_body Bd
  have e0 : s₁.heap = h0 := by rw [← hh, Bd.state]; rfl
  have N0 := Fr.nil n0
  have pre0 : ∀ t, Steps p.tables e below (s₁.setTop (mkF m 0 #[.val (.ref fa), .val (.ref fs), .val (.int fr)] [])) t → Steps p.tables e below (s₁.setTop (entryFrame m #[(.ref fa), (.ref fs), (.int fr)] 3)) t := fun t kk_ => castTop (ef_13 m fa fs fr) kk_
  have s15 : ∀ t, Steps p.tables e below (s₁.setTop (mkF m 2 #[.val (.ref fa), .val (.ref fs), .val (.int fr)] [(.ref fs), (.ref fa)])) t → Steps p.tables e below (s₁.setTop (mkF m 0 #[.val (.ref fa), .val (.ref fs), .val (.int fr)] [])) t := by
    intro t kt
    refine XS.aloadN X0.here hx rfl (hb hby d13_0) rfl rfl ?_
    show Steps p.tables e below (s₁.setTop (mkF m 1 #[.val (.ref fa), .val (.ref fs), .val (.int fr)] [(.ref fa)])) t
    refine XS.aloadN X0.here hx rfl (hb hby d13_1) rfl rfl ?_
    exact kt
  obtain ⟨_, _, ⟨T16, L16, k16, n16⟩, -, X16, ⟨Lc16, hQ16, l16, y16, z16⟩, st16⟩ := X0.specialBack hx (y := (⟨"com/example/rowkey_modeler/rowkeymodeler/KeyField", "<init>", "(Ljava/lang/String;)V"⟩ : MethodName)) rfl hown (mvT hZ (hw _ (List.mem_of_getElem? (i := 20) rfl))) (mvT hZ (hw _ (List.mem_of_getElem? (i := 21) rfl))) (mvT hZ (hw _ (List.mem_of_getElem? (i := 24) rfl))) (by decide) (backOf (W := 0) (rm12 l Z a0 hw [] fa fs fb _ h0 n0 Z0 Ea F1 F2 F3 F4 Ga Es Fv Vb) hZ (hw _ (List.mem_of_getElem? (i := 24) rfl)) (hw _ (List.mem_of_getElem? (i := 23) rfl)) (by decide) (by decide)) (g := (mkF m 2 #[.val (.ref fa), .val (.ref fs), .val (.int fr)] [(.ref fs), (.ref fa)])) rfl (by rw [hml]; rfl) (Steps.refl _) (a := fa) (argsL := [(.ref fs)]) (rest := []) (lenOf pd_oLjava_lang_StringscV rfl) rfl (by show 2 * 0 + _ ≤ _; exact Nat.le_of_eq rfl) (hb hby d13_2) (fun _ _ => ⟨rfl, e0, (by decide : 0 + 0 ≤ _), (by decide : 0 + 0 ≤ _)⟩)
  dsimp only [Pt.U, Pt.locs, Pt.cells, Pt.slots] at X16 l16 y16 z16 st16 hQ16
  subst l16 y16 z16
  obtain ⟨rfl, N16q, Kc16, fE17, fF18, fF19, fF20⟩ := hQ16
  have N16 := Fr.app N0 N16q
  have Zs16 : n0 ≤ T16.heap.size := Nat.le_trans Z0 Kc16.1
  have K16 : Keep h0 T16.heap [fa] := (Keep.refl h0 [fa]).trans Kc16 (allS (Or.inl (List.mem_of_getElem? (i := 0) rfl)) all0)
  have s21 : ∀ t, Steps p.tables e below (T16.setTop (mkF m 7 #[.val (.ref fa), .val (.ref fs), .val (.int fr)] [(.int fr), (.ref fa)])) t → Steps p.tables e below (T16.setTop (mkF m 5 #[.val (.ref fa), .val (.ref fs), .val (.int fr)] [])) t := by
    intro t kt
    refine XS.aloadN X16.here hx rfl (hb hby d13_5) rfl rfl ?_
    show Steps p.tables e below (T16.setTop (mkF m 6 #[.val (.ref fa), .val (.ref fs), .val (.int fr)] [(.ref fa)])) t
    refine XS.iloadN X16.here hx rfl (hb hby d13_6) rfl ?_
    exact kt
  obtain ⟨T22, h22, X22, e22, W22, st22⟩ := putFN X16 hx hZ hown (hw _ (List.mem_of_getElem? (i := 36) rfl)) Via.refl rfl fF18 fE17 (Or.inr ⟨(hw _ (List.mem_of_getElem? (i := 37) rfl)), rfl, hnm⟩) (hw _ (List.mem_of_getElem? (i := 2) rfl)) (ty := .boolean) (v' := (.int fr)) (by decide) (by rcases hfr with rfl | rfl <;> rfl) (by rcases hfr with rfl | rfl <;> rfl) (g := (mkF m 7 #[.val (.ref fa), .val (.ref fs), .val (.int fr)] [(.int fr), (.ref fa)])) rfl rfl (hb hby d13_7)
  have Zs22 : n0 ≤ h22.size := Nat.le_trans Zs16 (Keep.of_wr W22).1
  have fE23 := fE17.wr W22
  have fF24 := fF18.same W22
  have fF25 := fF19.other W22 (Or.inr (slot_ne (Or.inr (hw _ (List.mem_of_getElem? (i := 39) rfl))) (Or.inr (hw _ (List.mem_of_getElem? (i := 37) rfl))) (by decide) (t := .int) (t' := .boolean) (by decide) (by decide)))
  have fF26 := fF20.other W22 (Or.inr (slot_ne (Or.inr (hw _ (List.mem_of_getElem? (i := 43) rfl))) (Or.inr (hw _ (List.mem_of_getElem? (i := 37) rfl))) (by decide) (t := .long) (t' := .boolean) (by decide) (by decide)))
  have K22 : Keep h0 h22 [fa] := K16.wr W22 (Or.inl (List.mem_of_getElem? (i := 0) rfl))
  have N22 := Fr.snoc X22 N16 Ga
  obtain ⟨fs_, hr, hrun, hended, hW, hsame⟩ := X22.leave (v := none) (fun _ => rfl)
  refine ⟨_, _, pre0 _ (s15 _ (st16.trans (s21 _ (st22 _ (?_))))), hrun, hended, _, _, rfl, ?_, ⟨_, rfl⟩, hW, hsame.mono (by decide) (by decide)⟩
  · show Steps p.tables e below (T22.setTop (mkF m 10 #[.val (.ref fa), .val (.ref fs), .val (.int fr)] [])) _
    exact X22.returnOut hx Bd.returns (hb hby d13_10) hr
  · show Q13 Z fa fs fb ff fr h0 n0 _ T22.heap _
    rw [e22]
    exact ⟨rfl, N22, K22, fE23, fF24, fF25, fF26⟩
def Q14 (Z : State) (fa fs fb : Addr) (ff : Nat → Value) (fw : Int32) (fr : Int32) (h0 : Heap) (n0 : Nat) (v : Option Value) (h : Heap) (L : List Loc) : Prop := v = none ∧ Fr n0 L ∧ Keep h0 h [fa] ∧ Exa Z h fa "com/example/rowkey_modeler/rowkeymodeler/DecimalField" ∧ Fld Z h fa "com/example/rowkey_modeler/rowkeymodeler/NumberField" "reverse" "Z" (.int fr) ∧ Fld Z h fa "com/example/rowkey_modeler/rowkeymodeler/DecimalField" "width" "I" (.int fw) ∧ Fld Z h fa "com/example/rowkey_modeler/rowkeymodeler/DecimalField" "largestWritten" "J" (.long (if fw < (19 : Int32) then (own_p10 fw.toInt.toNat (1 : Int64)) - (1 : Int64) else (9223372036854775807 : Int64)))
set_option maxRecDepth 65536 in
set_option maxHeartbeats 40000000 in
theorem rm14 (l : Launch) (Z : State) (a0 : Array Value) (hw : ∀ d ∈ tables_1, d.before a0 Z = true) (ws : List Jvm.Cond) (fa fs fb : Addr) (ff : Nat → Value) (fw : Int32) (fr : Int32) (h0 : Heap) (n0 : Nat) (Z0 : n0 ≤ h0.size) (Ea : Exa Z h0 fa "com/example/rowkey_modeler/rowkeymodeler/DecimalField") (F1 : Fld Z h0 fa "com/example/rowkey_modeler/rowkeymodeler/KeyField" "name" "Ljava/lang/String;" .null) (F2 : Fld Z h0 fa "com/example/rowkey_modeler/rowkeymodeler/NumberField" "reverse" "Z" (.int (0 : Int32))) (F3 : Fld Z h0 fa "com/example/rowkey_modeler/rowkeymodeler/DecimalField" "width" "I" (.int (0 : Int32))) (F4 : Fld Z h0 fa "com/example/rowkey_modeler/rowkeymodeler/DecimalField" "largestWritten" "J" (.long (0 : Int64))) (Ga : n0 ≤ fa) (Es : Exa Z h0 fs "java/lang/String") (Fv : Fld Z h0 fs "java/lang/String" "value" "[B" (.ref fb)) (Vb : Ar Z h0 fb .byte 1 ff) (hfr : fr = 0 ∨ fr = 1) (hw1 : 1 ≤ fw.toInt) (hw19 : fw.toInt ≤ 19) :
    MetFree l (⟨"com/example/rowkey_modeler/rowkeymodeler/DecimalField", "<init>", "(Ljava/lang/String;IZ)V"⟩ : MethodName) (head1 (Jvm.Cond.code (⟨"com/example/rowkey_modeler/rowkeymodeler/DecimalField", "<init>", "(Ljava/lang/String;IZ)V"⟩ : MethodName) prog_6_method_1_code 7 none :: ws) ({ frames := 3, cells := 0, slots := 0, locals := 39 } : Room)) (fun a U => a = #[(.ref fa), (.ref fs), (.int fw), (.int fr)] ∧ Z.Warmed39 U.vm ∧ U.heap = h0) (fun _ _ _ _ _ => True) (fun _ U o U' => ∃ v L, o = .returned v ∧ Q14 Z fa fs fb ff fw fr h0 n0 v U'.heap L ∧ FrameEnd U o U' L ({ frames := 3, cells := 0, slots := 0, locals := 39 } : Room).cells ({ frames := 3, cells := 0, slots := 0, locals := 39 } : Room).slots) := by
  refine MetFree.of_bodySF (plainFor_of_name pn_com_example_rowkey_modeler_rowkeymodeler_DecimalField) hisR ?_
  intro p e s m args0 below meth c s₁ Bd hml0 hP hK
  obtain ⟨rfl, hZ, hh⟩ := hP
  have hx := Bd.exec
  have hby := Bd.bytes
  have hml : c.maxLocals = 7 := hml0
  have hown : s.vm.findClass "com/example/rowkey_modeler/rowkeymodeler/DecimalField" = some m.cls := findClass_of_methodNamed Bd.named
  have hnm := (name_of_methodNamed Bd.named Bd.method).1
  have X0 : Stand p l e ({ frames := 3, cells := 0, slots := 0, locals := 39 } : Room) s m #[(.ref fa), (.ref fs), (.int fw), (.int fr)] below meth c s₁ [] 0 0 := Stand.of_body Bd
  have e0 : s₁.heap = h0 := by rw [← hh, Bd.state]; rfl
  have N0 := Fr.nil n0
  have pre0 : ∀ t, Steps p.tables e below (s₁.setTop (mkF m 0 #[.val (.ref fa), .val (.ref fs), .val (.int fw), .val (.int fr), .unset, .unset, .unset] [])) t → Steps p.tables e below (s₁.setTop (entryFrame m #[(.ref fa), (.ref fs), (.int fw), (.int fr)] 7)) t := fun t kk_ => castTop (ef_14 m fa fs fw fr) kk_
  have s27 : ∀ t, Steps p.tables e below (s₁.setTop (mkF m 3 #[.val (.ref fa), .val (.ref fs), .val (.int fw), .val (.int fr), .unset, .unset, .unset] [(.int fr), (.ref fs), (.ref fa)])) t → Steps p.tables e below (s₁.setTop (mkF m 0 #[.val (.ref fa), .val (.ref fs), .val (.int fw), .val (.int fr), .unset, .unset, .unset] [])) t := by
    intro t kt
    refine XS.aloadN X0.here hx rfl (hb hby d14_0) rfl rfl ?_
    show Steps p.tables e below (s₁.setTop (mkF m 1 #[.val (.ref fa), .val (.ref fs), .val (.int fw), .val (.int fr), .unset, .unset, .unset] [(.ref fa)])) t
    refine XS.aloadN X0.here hx rfl (hb hby d14_1) rfl rfl ?_
    show Steps p.tables e below (s₁.setTop (mkF m 2 #[.val (.ref fa), .val (.ref fs), .val (.int fw), .val (.int fr), .unset, .unset, .unset] [(.ref fs), (.ref fa)])) t
    refine XS.iloadN X0.here hx rfl (hb hby d14_2) rfl ?_
    exact kt
  obtain ⟨_, _, ⟨T28, L28, k28, n28⟩, -, X28, ⟨Lc28, hQ28, l28, y28, z28⟩, st28⟩ := X0.specialBack hx (y := (⟨"com/example/rowkey_modeler/rowkeymodeler/NumberField", "<init>", "(Ljava/lang/String;Z)V"⟩ : MethodName)) rfl hown (mvT hZ (hw _ (List.mem_of_getElem? (i := 15) rfl))) (mvT hZ (hw _ (List.mem_of_getElem? (i := 16) rfl))) (mvT hZ (hw _ (List.mem_of_getElem? (i := 19) rfl))) (by decide) (backOf (W := 0) (rm13 l Z a0 hw [] fa fs fb _ fr h0 n0 Z0 Ea F1 F2 F3 F4 Ga Es Fv Vb hfr) hZ (hw _ (List.mem_of_getElem? (i := 19) rfl)) (hw _ (List.mem_of_getElem? (i := 18) rfl)) (by decide) (by decide)) (g := (mkF m 3 #[.val (.ref fa), .val (.ref fs), .val (.int fw), .val (.int fr), .unset, .unset, .unset] [(.int fr), (.ref fs), (.ref fa)])) rfl (by rw [hml]; rfl) (Steps.refl _) (a := fa) (argsL := [(.ref fs), (.int fr)]) (rest := []) (lenOf pd_oLjava_lang_StringsZcV rfl) rfl (by show 2 * 0 + _ ≤ _; exact Nat.le_of_eq rfl) (hb hby d14_3) (fun _ _ => ⟨rfl, e0, (by decide : 0 + 0 ≤ _), (by decide : 0 + 0 ≤ _)⟩)
  dsimp only [Pt.U, Pt.locs, Pt.cells, Pt.slots] at X28 l28 y28 z28 st28 hQ28
  subst l28 y28 z28
  obtain ⟨rfl, N28q, Kc28, fE29, fF30, fF31, fF32⟩ := hQ28
  have N28 := Fr.app N0 N28q
  have Zs28 : n0 ≤ T28.heap.size := Nat.le_trans Z0 Kc28.1
  have K28 : Keep h0 T28.heap [fa] := (Keep.refl h0 [fa]).trans Kc28 (allS (Or.inl (List.mem_of_getElem? (i := 0) rfl)) all0)
  have s33 : ∀ t, Steps p.tables e below (T28.setTop (mkF m 8 #[.val (.ref fa), .val (.ref fs), .val (.int fw), .val (.int fr), .unset, .unset, .unset] [(.int (1 : Int32)), (.int fw)])) t → Steps p.tables e below (T28.setTop (mkF m 6 #[.val (.ref fa), .val (.ref fs), .val (.int fw), .val (.int fr), .unset, .unset, .unset] [])) t := by
    intro t kt
    refine XS.iloadN X28.here hx rfl (hb hby d14_6) rfl ?_
    show Steps p.tables e below (T28.setTop (mkF m 7 #[.val (.ref fa), .val (.ref fs), .val (.int fw), .val (.int fr), .unset, .unset, .unset] [(.int fw)])) t
    refine XS.iconst X28.here hx rfl (hb hby d14_7) ?_
    exact kt
  have hwA : ¬ (fw < (1 : Int32)) := by rw [Int32.lt_iff_toInt_lt]; show ¬ (_ < (1 : Int)); omega
  have s34 : ∀ t, Steps p.tables e below (T28.setTop (mkF m 14 #[.val (.ref fa), .val (.ref fs), .val (.int fw), .val (.int fr), .unset, .unset, .unset] [(.int (19 : Int32)), (.int fw)])) t → Steps p.tables e below (T28.setTop (mkF m 8 #[.val (.ref fa), .val (.ref fs), .val (.int fw), .val (.int fr), .unset, .unset, .unset] [(.int (1 : Int32)), (.int fw)])) t := by
    intro t kt
    refine XS.icmpNo X28.here hx rfl (hb hby d14_8) rfl (flt hwA).1 ?_
    show Steps p.tables e below (T28.setTop (mkF m 11 #[.val (.ref fa), .val (.ref fs), .val (.int fw), .val (.int fr), .unset, .unset, .unset] [])) t
    refine XS.iloadN X28.here hx rfl (hb hby d14_11) rfl ?_
    show Steps p.tables e below (T28.setTop (mkF m 12 #[.val (.ref fa), .val (.ref fs), .val (.int fw), .val (.int fr), .unset, .unset, .unset] [(.int fw)])) t
    refine XS.bipush X28.here hx rfl (hb hby d14_12) ?_
    exact kt
  have hwB : ¬ ((19 : Int32) < fw) := by rw [Int32.lt_iff_toInt_lt]; show ¬ ((19 : Int) < _); omega
  have s35 : ∀ t, Steps p.tables e below (T28.setTop (mkF m 33 #[.val (.ref fa), .val (.ref fs), .val (.int fw), .val (.int fr), .unset, .unset, .unset] [(.int fw), (.ref fa)])) t → Steps p.tables e below (T28.setTop (mkF m 14 #[.val (.ref fa), .val (.ref fs), .val (.int fw), .val (.int fr), .unset, .unset, .unset] [(.int (19 : Int32)), (.int fw)])) t := by
    intro t kt
    refine XS.icmpYes X28.here hx rfl (pc0 := 14) (pc' := 31) rfl (hb hby d14_14) rfl (flt hwB).2.2.2 (by decide) (by decide) ?_
    show Steps p.tables e below (T28.setTop (mkF m 31 #[.val (.ref fa), .val (.ref fs), .val (.int fw), .val (.int fr), .unset, .unset, .unset] [])) t
    refine XS.aloadN X28.here hx rfl (hb hby d14_31) rfl rfl ?_
    show Steps p.tables e below (T28.setTop (mkF m 32 #[.val (.ref fa), .val (.ref fs), .val (.int fw), .val (.int fr), .unset, .unset, .unset] [(.ref fa)])) t
    refine XS.iloadN X28.here hx rfl (hb hby d14_32) rfl ?_
    exact kt
  obtain ⟨T36, h36, X36, e36, W36, st36⟩ := putF X28 hx hZ hown (host := "") (Or.inl (hw _ (List.mem_of_getElem? (i := 38) rfl))) Via.refl rfl fF31 fE29 (Or.inr ⟨(hw _ (List.mem_of_getElem? (i := 39) rfl)), rfl, hnm⟩) (hw _ (List.mem_of_getElem? (i := 2) rfl)) (ty := .int) (by decide) rfl rfl (g := (mkF m 33 #[.val (.ref fa), .val (.ref fs), .val (.int fw), .val (.int fr), .unset, .unset, .unset] [(.int fw), (.ref fa)])) rfl rfl (hb hby d14_33)
  have Zs36 : n0 ≤ h36.size := Nat.le_trans Zs28 (Keep.of_wr W36).1
  have fE37 := fE29.wr W36
  have fF38 := fF30.other W36 (Or.inr (slot_ne (Or.inr (hw _ (List.mem_of_getElem? (i := 37) rfl))) (Or.inr (hw _ (List.mem_of_getElem? (i := 39) rfl))) (by decide) (t := .boolean) (t' := .int) (by decide) (by decide)))
  have fF39 := fF31.same W36
  have fF40 := fF32.other W36 (Or.inr (slot_ne (Or.inr (hw _ (List.mem_of_getElem? (i := 43) rfl))) (Or.inr (hw _ (List.mem_of_getElem? (i := 39) rfl))) (by decide) (t := .long) (t' := .int) (by decide) (by decide)))
  have K36 : Keep h0 h36 [fa] := K28.wr W36 (Or.inl (List.mem_of_getElem? (i := 0) rfl))
  have N36 := Fr.snoc X36 N28 Ga
  have s41 : ∀ t, Steps p.tables e below (T36.setTop (mkF m 44 #[.val (.ref fa), .val (.ref fs), .val (.int fw), .val (.int fr), .val (.long (9223372036854775807 : Int64)), .second, .unset] [(.int (19 : Int32)), (.int fw)])) t → Steps p.tables e below (T36.setTop (mkF m 36 #[.val (.ref fa), .val (.ref fs), .val (.int fw), .val (.int fr), .unset, .unset, .unset] [])) t := by
    intro t kt
    refine X36.ldc2Long hx hown (mvT hZ (hw _ (List.mem_of_getElem? (i := 40) rfl))) (g := (mkF m 36 #[.val (.ref fa), .val (.ref fs), .val (.int fw), .val (.int fr), .unset, .unset, .unset] [])) rfl (hb hby d14_36) _ ?_
    show Steps p.tables e below (T36.setTop (mkF m 39 #[.val (.ref fa), .val (.ref fs), .val (.int fw), .val (.int fr), .unset, .unset, .unset] [(.long (9223372036854775807 : Int64))])) t
    refine XS.lstore X36.here hx rfl (hb hby d14_39) rfl (l' := #[.val (.ref fa), .val (.ref fs), .val (.int fw), .val (.int fr), .val (.long (9223372036854775807 : Int64)), .second, .unset]) rfl ?_
    show Steps p.tables e below (T36.setTop (mkF m 41 #[.val (.ref fa), .val (.ref fs), .val (.int fw), .val (.int fr), .val (.long (9223372036854775807 : Int64)), .second, .unset] [])) t
    refine XS.iloadN X36.here hx rfl (hb hby d14_41) rfl ?_
    show Steps p.tables e below (T36.setTop (mkF m 42 #[.val (.ref fa), .val (.ref fs), .val (.int fw), .val (.int fr), .val (.long (9223372036854775807 : Int64)), .second, .unset] [(.int fw)])) t
    refine XS.bipush X36.here hx rfl (hb hby d14_42) ?_
    exact kt
  by_cases c42 : fw < (19 : Int32)
  ·
    have s43 : ∀ t, Steps p.tables e below (T36.setTop (mkF m 53 #[.val (.ref fa), .val (.ref fs), .val (.int fw), .val (.int fr), .val (.long (1 : Int64)), .second, .val (.int (0 : Int32))] [])) t → Steps p.tables e below (T36.setTop (mkF m 44 #[.val (.ref fa), .val (.ref fs), .val (.int fw), .val (.int fr), .val (.long (9223372036854775807 : Int64)), .second, .unset] [(.int (19 : Int32)), (.int fw)])) t := by
      intro t kt
      refine XS.icmpNo X36.here hx rfl (hb hby d14_44) rfl (tlt c42).2.1 ?_
      show Steps p.tables e below (T36.setTop (mkF m 47 #[.val (.ref fa), .val (.ref fs), .val (.int fw), .val (.int fr), .val (.long (9223372036854775807 : Int64)), .second, .unset] [])) t
      refine XS.lconst X36.here hx rfl (hb hby d14_47) ?_
      show Steps p.tables e below (T36.setTop (mkF m 48 #[.val (.ref fa), .val (.ref fs), .val (.int fw), .val (.int fr), .val (.long (9223372036854775807 : Int64)), .second, .unset] [(.long (1 : Int64))])) t
      refine XS.lstore X36.here hx rfl (hb hby d14_48) rfl (l' := #[.val (.ref fa), .val (.ref fs), .val (.int fw), .val (.int fr), .val (.long (1 : Int64)), .second, .unset]) rfl ?_
      show Steps p.tables e below (T36.setTop (mkF m 50 #[.val (.ref fa), .val (.ref fs), .val (.int fw), .val (.int fr), .val (.long (1 : Int64)), .second, .unset] [])) t
      refine XS.iconst X36.here hx rfl (hb hby d14_50) ?_
      show Steps p.tables e below (T36.setTop (mkF m 51 #[.val (.ref fa), .val (.ref fs), .val (.int fw), .val (.int fr), .val (.long (1 : Int64)), .second, .unset] [(.int (0 : Int32))])) t
      refine XS.istore X36.here hx rfl (hb hby d14_51) rfl (l' := #[.val (.ref fa), .val (.ref fs), .val (.int fw), .val (.int fr), .val (.long (1 : Int64)), .second, .val (.int (0 : Int32))]) rfl ?_
      exact kt
    have loop : ∀ (k : Nat) (ac : Int64) (i : Int32), 0 ≤ i.toInt → i.toInt + k = fw.toInt → ∀ t, Steps p.tables e below (T36.setTop (mkF m 73 #[.val (.ref fa), .val (.ref fs), .val (.int fw), .val (.int fr), .val (.long (own_p10 k ac)), .second, .val (.int fw)] [])) t → Steps p.tables e below (T36.setTop (mkF m 53 #[.val (.ref fa), .val (.ref fs), .val (.int fw), .val (.int fr), .val (.long ac), .second, .val (.int i)] [])) t := by
      intro k
      induction k with
      | zero =>
        intro ac i q0 q1 t kt
        obtain rfl : fw = i := Int32.toInt_inj.mp (by omega)
        refine XS.iload X36.here hx rfl (hb hby d14_53) rfl ?_
        show Steps p.tables e below (T36.setTop (mkF m 55 #[.val (.ref fa), .val (.ref fs), .val (.int fw), .val (.int fr), .val (.long ac), .second, .val (.int fw)] [(.int fw)])) t
        refine XS.iloadN X36.here hx rfl (hb hby d14_55) rfl ?_
        show Steps p.tables e below (T36.setTop (mkF m 56 #[.val (.ref fa), .val (.ref fs), .val (.int fw), .val (.int fr), .val (.long ac), .second, .val (.int fw)] [(.int fw), (.int fw)])) t
        refine XS.icmpYes X36.here hx rfl (pc0 := 56) (pc' := 73) rfl (hb hby d14_56) rfl (flt (by rw [Int32.lt_iff_toInt_lt]; omega)).2.1 (by decide) (by decide) ?_
        exact kt
      | succ k ih =>
        intro ac i q0 q1 t kt
        refine XS.iload X36.here hx rfl (hb hby d14_53) rfl ?_
        show Steps p.tables e below (T36.setTop (mkF m 55 #[.val (.ref fa), .val (.ref fs), .val (.int fw), .val (.int fr), .val (.long ac), .second, .val (.int i)] [(.int i)])) t
        refine XS.iloadN X36.here hx rfl (hb hby d14_55) rfl ?_
        show Steps p.tables e below (T36.setTop (mkF m 56 #[.val (.ref fa), .val (.ref fs), .val (.int fw), .val (.int fr), .val (.long ac), .second, .val (.int i)] [(.int fw), (.int i)])) t
        refine XS.icmpNo X36.here hx rfl (hb hby d14_56) rfl (tlt (by rw [Int32.lt_iff_toInt_lt]; omega)).2.1 ?_
        show Steps p.tables e below (T36.setTop (mkF m 59 #[.val (.ref fa), .val (.ref fs), .val (.int fw), .val (.int fr), .val (.long ac), .second, .val (.int i)] [])) t
        refine XS.lload X36.here hx rfl (hb hby d14_59) rfl ?_
        show Steps p.tables e below (T36.setTop (mkF m 61 #[.val (.ref fa), .val (.ref fs), .val (.int fw), .val (.int fr), .val (.long ac), .second, .val (.int i)] [(.long ac)])) t
        refine X36.ldc2Long hx hown (mvT hZ (hw _ (List.mem_of_getElem? (i := 41) rfl))) (g := (mkF m 61 #[.val (.ref fa), .val (.ref fs), .val (.int fw), .val (.int fr), .val (.long ac), .second, .val (.int i)] [(.long ac)])) rfl (hb hby d14_61) _ ?_
        show Steps p.tables e below (T36.setTop (mkF m 64 #[.val (.ref fa), .val (.ref fs), .val (.int fw), .val (.int fr), .val (.long ac), .second, .val (.int i)] [(.long (10 : Int64)), (.long ac)])) t
        refine XS.lmul X36.here hx rfl (hb hby d14_64) rfl ?_
        show Steps p.tables e below (T36.setTop (mkF m 65 #[.val (.ref fa), .val (.ref fs), .val (.int fw), .val (.int fr), .val (.long ac), .second, .val (.int i)] [(.long (ac * (10 : Int64)))])) t
        refine XS.lstore X36.here hx rfl (hb hby d14_65) rfl (l' := #[.val (.ref fa), .val (.ref fs), .val (.int fw), .val (.int fr), .val (.long (ac * (10 : Int64))), .second, .val (.int i)]) rfl ?_
        show Steps p.tables e below (T36.setTop (mkF m 67 #[.val (.ref fa), .val (.ref fs), .val (.int fw), .val (.int fr), .val (.long (ac * (10 : Int64))), .second, .val (.int i)] [])) t
        refine XS.iinc X36.here hx rfl (hb hby d14_67) rfl (l' := #[.val (.ref fa), .val (.ref fs), .val (.int fw), .val (.int fr), .val (.long (ac * (10 : Int64))), .second, .val (.int (i + (1 : Int32)))]) rfl ?_
        show Steps p.tables e below (T36.setTop (mkF m 70 #[.val (.ref fa), .val (.ref fs), .val (.int fw), .val (.int fr), .val (.long (ac * (10 : Int64))), .second, .val (.int (i + (1 : Int32)))] [])) t
        refine XS.goto X36.here hx rfl (pc0 := 70) (pc' := 53) rfl (hb hby d14_70) (by decide) (by decide) ?_
        have q2 : (i + (1 : Int32)).toInt = i.toInt + 1 := by
          have r := fw.toInt_lt
          rw [Int32.toInt_add]; show (i.toInt + 1).bmod (2 ^ 32) = _; rw [Int.bmod_def]; omega
        exact ih (ac * (10 : Int64)) (i + (1 : Int32)) (by omega) (by omega) t kt
    have s44 := loop fw.toInt.toNat (1 : Int64) (0 : Int32) (by decide) (by show (0 : Int) + _ = _; omega)
    have s45 : ∀ t, Steps p.tables e below (T36.setTop (mkF m 82 #[.val (.ref fa), .val (.ref fs), .val (.int fw), .val (.int fr), .val (.long ((own_p10 fw.toInt.toNat (1 : Int64)) - (1 : Int64))), .second, .val (.int fw)] [(.long ((own_p10 fw.toInt.toNat (1 : Int64)) - (1 : Int64))), (.ref fa)])) t → Steps p.tables e below (T36.setTop (mkF m 73 #[.val (.ref fa), .val (.ref fs), .val (.int fw), .val (.int fr), .val (.long (own_p10 fw.toInt.toNat (1 : Int64))), .second, .val (.int fw)] [])) t := by
      intro t kt
      refine XS.lload X36.here hx rfl (hb hby d14_73) rfl ?_
      show Steps p.tables e below (T36.setTop (mkF m 75 #[.val (.ref fa), .val (.ref fs), .val (.int fw), .val (.int fr), .val (.long (own_p10 fw.toInt.toNat (1 : Int64))), .second, .val (.int fw)] [(.long (own_p10 fw.toInt.toNat (1 : Int64)))])) t
      refine XS.lconst X36.here hx rfl (hb hby d14_75) ?_
      show Steps p.tables e below (T36.setTop (mkF m 76 #[.val (.ref fa), .val (.ref fs), .val (.int fw), .val (.int fr), .val (.long (own_p10 fw.toInt.toNat (1 : Int64))), .second, .val (.int fw)] [(.long (1 : Int64)), (.long (own_p10 fw.toInt.toNat (1 : Int64)))])) t
      refine XS.lsub X36.here hx rfl (hb hby d14_76) rfl ?_
      show Steps p.tables e below (T36.setTop (mkF m 77 #[.val (.ref fa), .val (.ref fs), .val (.int fw), .val (.int fr), .val (.long (own_p10 fw.toInt.toNat (1 : Int64))), .second, .val (.int fw)] [(.long ((own_p10 fw.toInt.toNat (1 : Int64)) - (1 : Int64)))])) t
      refine XS.lstore X36.here hx rfl (hb hby d14_77) rfl (l' := #[.val (.ref fa), .val (.ref fs), .val (.int fw), .val (.int fr), .val (.long ((own_p10 fw.toInt.toNat (1 : Int64)) - (1 : Int64))), .second, .val (.int fw)]) rfl ?_
      show Steps p.tables e below (T36.setTop (mkF m 79 #[.val (.ref fa), .val (.ref fs), .val (.int fw), .val (.int fr), .val (.long ((own_p10 fw.toInt.toNat (1 : Int64)) - (1 : Int64))), .second, .val (.int fw)] [])) t
      refine XS.aloadN X36.here hx rfl (hb hby d14_79) rfl rfl ?_
      show Steps p.tables e below (T36.setTop (mkF m 80 #[.val (.ref fa), .val (.ref fs), .val (.int fw), .val (.int fr), .val (.long ((own_p10 fw.toInt.toNat (1 : Int64)) - (1 : Int64))), .second, .val (.int fw)] [(.ref fa)])) t
      refine XS.lload X36.here hx rfl (hb hby d14_80) rfl ?_
      exact kt
    obtain ⟨T46, h46, X46, e46, W46, st46⟩ := putF X36 hx hZ hown (host := "") (Or.inl (hw _ (List.mem_of_getElem? (i := 42) rfl))) Via.refl e36 fF40 fE37 (Or.inr ⟨(hw _ (List.mem_of_getElem? (i := 43) rfl)), rfl, hnm⟩) (hw _ (List.mem_of_getElem? (i := 2) rfl)) (ty := .long) (by decide) rfl rfl (g := (mkF m 82 #[.val (.ref fa), .val (.ref fs), .val (.int fw), .val (.int fr), .val (.long ((own_p10 fw.toInt.toNat (1 : Int64)) - (1 : Int64))), .second, .val (.int fw)] [(.long ((own_p10 fw.toInt.toNat (1 : Int64)) - (1 : Int64))), (.ref fa)])) rfl rfl (hb hby d14_82)
    have Zs46 : n0 ≤ h46.size := Nat.le_trans Zs36 (Keep.of_wr W46).1
    have fE47 := fE37.wr W46
    have fF48 := fF38.other W46 (Or.inr (slot_ne (Or.inr (hw _ (List.mem_of_getElem? (i := 37) rfl))) (Or.inr (hw _ (List.mem_of_getElem? (i := 43) rfl))) (by decide) (t := .boolean) (t' := .long) (by decide) (by decide)))
    have fF49 := fF39.other W46 (Or.inr (slot_ne (Or.inr (hw _ (List.mem_of_getElem? (i := 39) rfl))) (Or.inr (hw _ (List.mem_of_getElem? (i := 43) rfl))) (by decide) (t := .int) (t' := .long) (by decide) (by decide)))
    have fF50 := fF40.same W46
    have K46 : Keep h0 h46 [fa] := K36.wr W46 (Or.inl (List.mem_of_getElem? (i := 0) rfl))
    have N46 := Fr.snoc X46 N36 Ga
    have hlw : (if fw < (19 : Int32) then (own_p10 fw.toInt.toNat (1 : Int64)) - (1 : Int64) else (9223372036854775807 : Int64)) = ((own_p10 fw.toInt.toNat (1 : Int64)) - (1 : Int64)) := if_pos c42
    obtain ⟨fs_, hr, hrun, hended, hW, hsame⟩ := X46.leave (v := none) (fun _ => rfl)
    refine ⟨_, _, pre0 _ (s27 _ (st28.trans (s33 _ (s34 _ (s35 _ (st36 _ (s41 _ (s43 _ (s44 _ (s45 _ (st46 _ (?_)))))))))))), hrun, hended, _, _, rfl, ?_, ⟨_, rfl⟩, hW, hsame.mono (by decide) (by decide)⟩
    · show Steps p.tables e below (T46.setTop (mkF m 85 #[.val (.ref fa), .val (.ref fs), .val (.int fw), .val (.int fr), .val (.long ((own_p10 fw.toInt.toNat (1 : Int64)) - (1 : Int64))), .second, .val (.int fw)] [])) _
      exact X46.returnOut hx Bd.returns (hb hby d14_85) hr
    · show Q14 Z fa fs fb ff fw fr h0 n0 _ T46.heap _
      rw [e46]
      show _ ∧ _ ∧ _ ∧ _ ∧ _ ∧ _ ∧ Fld Z h46 fa "com/example/rowkey_modeler/rowkeymodeler/DecimalField" "largestWritten" "J" (.long (if fw < (19 : Int32) then (own_p10 fw.toInt.toNat (1 : Int64)) - (1 : Int64) else (9223372036854775807 : Int64)))
      rw [hlw]
      exact ⟨rfl, N46, K46, fE47, fF48, fF49, fF50⟩
  ·
    have s51 : ∀ t, Steps p.tables e below (T36.setTop (mkF m 82 #[.val (.ref fa), .val (.ref fs), .val (.int fw), .val (.int fr), .val (.long (9223372036854775807 : Int64)), .second, .unset] [(.long (9223372036854775807 : Int64)), (.ref fa)])) t → Steps p.tables e below (T36.setTop (mkF m 44 #[.val (.ref fa), .val (.ref fs), .val (.int fw), .val (.int fr), .val (.long (9223372036854775807 : Int64)), .second, .unset] [(.int (19 : Int32)), (.int fw)])) t := by
      intro t kt
      refine XS.icmpYes X36.here hx rfl (pc0 := 44) (pc' := 79) rfl (hb hby d14_44) rfl (flt c42).2.1 (by decide) (by decide) ?_
      show Steps p.tables e below (T36.setTop (mkF m 79 #[.val (.ref fa), .val (.ref fs), .val (.int fw), .val (.int fr), .val (.long (9223372036854775807 : Int64)), .second, .unset] [])) t
      refine XS.aloadN X36.here hx rfl (hb hby d14_79) rfl rfl ?_
      show Steps p.tables e below (T36.setTop (mkF m 80 #[.val (.ref fa), .val (.ref fs), .val (.int fw), .val (.int fr), .val (.long (9223372036854775807 : Int64)), .second, .unset] [(.ref fa)])) t
      refine XS.lload X36.here hx rfl (hb hby d14_80) rfl ?_
      exact kt
    obtain ⟨T52, h52, X52, e52, W52, st52⟩ := putF X36 hx hZ hown (host := "") (Or.inl (hw _ (List.mem_of_getElem? (i := 42) rfl))) Via.refl e36 fF40 fE37 (Or.inr ⟨(hw _ (List.mem_of_getElem? (i := 43) rfl)), rfl, hnm⟩) (hw _ (List.mem_of_getElem? (i := 2) rfl)) (ty := .long) (by decide) rfl rfl (g := (mkF m 82 #[.val (.ref fa), .val (.ref fs), .val (.int fw), .val (.int fr), .val (.long (9223372036854775807 : Int64)), .second, .unset] [(.long (9223372036854775807 : Int64)), (.ref fa)])) rfl rfl (hb hby d14_82)
    have Zs52 : n0 ≤ h52.size := Nat.le_trans Zs36 (Keep.of_wr W52).1
    have fE53 := fE37.wr W52
    have fF54 := fF38.other W52 (Or.inr (slot_ne (Or.inr (hw _ (List.mem_of_getElem? (i := 37) rfl))) (Or.inr (hw _ (List.mem_of_getElem? (i := 43) rfl))) (by decide) (t := .boolean) (t' := .long) (by decide) (by decide)))
    have fF55 := fF39.other W52 (Or.inr (slot_ne (Or.inr (hw _ (List.mem_of_getElem? (i := 39) rfl))) (Or.inr (hw _ (List.mem_of_getElem? (i := 43) rfl))) (by decide) (t := .int) (t' := .long) (by decide) (by decide)))
    have fF56 := fF40.same W52
    have K52 : Keep h0 h52 [fa] := K36.wr W52 (Or.inl (List.mem_of_getElem? (i := 0) rfl))
    have N52 := Fr.snoc X52 N36 Ga
    have hlw : (if fw < (19 : Int32) then (own_p10 fw.toInt.toNat (1 : Int64)) - (1 : Int64) else (9223372036854775807 : Int64)) = (9223372036854775807 : Int64) := if_neg c42
    obtain ⟨fs_, hr, hrun, hended, hW, hsame⟩ := X52.leave (v := none) (fun _ => rfl)
    refine ⟨_, _, pre0 _ (s27 _ (st28.trans (s33 _ (s34 _ (s35 _ (st36 _ (s41 _ (s51 _ (st52 _ (?_)))))))))), hrun, hended, _, _, rfl, ?_, ⟨_, rfl⟩, hW, hsame.mono (by decide) (by decide)⟩
    · show Steps p.tables e below (T52.setTop (mkF m 85 #[.val (.ref fa), .val (.ref fs), .val (.int fw), .val (.int fr), .val (.long (9223372036854775807 : Int64)), .second, .unset] [])) _
      exact X52.returnOut hx Bd.returns (hb hby d14_85) hr
    · show Q14 Z fa fs fb ff fw fr h0 n0 _ T52.heap _
      rw [e52]
      show _ ∧ _ ∧ _ ∧ _ ∧ _ ∧ _ ∧ Fld Z h52 fa "com/example/rowkey_modeler/rowkeymodeler/DecimalField" "largestWritten" "J" (.long (if fw < (19 : Int32) then (own_p10 fw.toInt.toNat (1 : Int64)) - (1 : Int64) else (9223372036854775807 : Int64)))
      rw [hlw]
      exact ⟨rfl, N52, K52, fE53, fF54, fF55, fF56⟩
def Q15 (Z : State) (fa : Addr) (fr : Int32) (h0 : Heap) (n0 : Nat) (v : Option Value) (h : Heap) (L : List Loc) : Prop := v = some (.int fr) ∧ Fr n0 L ∧ h = h0
set_option maxRecDepth 65536 in
set_option maxHeartbeats 40000000 in
theorem rm15 (l : Launch) (Z : State) (a0 : Array Value) (hw : ∀ d ∈ tables_1, d.before a0 Z = true) (ws : List Jvm.Cond) (fa : Addr) (fr : Int32) (h0 : Heap) (n0 : Nat) (Z0 : n0 ≤ h0.size) (F1 : Fld Z h0 fa "com/example/rowkey_modeler/rowkeymodeler/NumberField" "reverse" "Z" (.int fr)) (hfr : fr = 0 ∨ fr = 1) :
    MetFree l (⟨"com/example/rowkey_modeler/rowkeymodeler/NumberField", "reverse", "()Z"⟩ : MethodName) (head1 (Jvm.Cond.code (⟨"com/example/rowkey_modeler/rowkeymodeler/NumberField", "reverse", "()Z"⟩ : MethodName) prog_17_method_2_code 1 (some .boolean) :: ws) ({ frames := 0, cells := 0, slots := 0, locals := 0 } : Room)) (fun a U => a = #[(.ref fa)] ∧ Z.Warmed39 U.vm ∧ U.heap = h0) (fun _ _ _ _ _ => True) (fun _ U o U' => ∃ v L, o = .returned v ∧ Q15 Z fa fr h0 n0 v U'.heap L ∧ FrameEnd U o U' L ({ frames := 0, cells := 0, slots := 0, locals := 0 } : Room).cells ({ frames := 0, cells := 0, slots := 0, locals := 0 } : Room).slots) := by
  refine MetFree.of_bodySF (plainFor_of_name pn_com_example_rowkey_modeler_rowkeymodeler_NumberField) hisR ?_
  intro p e s m args0 below meth c s₁ Bd hml0 hP hK
  obtain ⟨rfl, hZ, hh⟩ := hP
  have hx := Bd.exec
  have hby := Bd.bytes
  have hml : c.maxLocals = 1 := hml0
  have hown : s.vm.findClass "com/example/rowkey_modeler/rowkeymodeler/NumberField" = some m.cls := findClass_of_methodNamed Bd.named
  have hnm := (name_of_methodNamed Bd.named Bd.method).1
  have X0 : Stand p l e ({ frames := 0, cells := 0, slots := 0, locals := 0 } : Room) s m #[(.ref fa)] below meth c s₁ [] 0 0 := Stand.of_body Bd
  have e0 : s₁.heap = h0 := by rw [← hh, Bd.state]; rfl
  have N0 := Fr.nil n0
  have pre0 : ∀ t, Steps p.tables e below (s₁.setTop (mkF m 0 #[.val (.ref fa)] [])) t → Steps p.tables e below (s₁.setTop (entryFrame m #[(.ref fa)] 1)) t := fun t kk_ => castTop (ef_15 m fa) kk_
  have s57 : ∀ t, Steps p.tables e below (s₁.setTop (mkF m 1 #[.val (.ref fa)] [(.ref fa)])) t → Steps p.tables e below (s₁.setTop (mkF m 0 #[.val (.ref fa)] [])) t := by
    intro t kt
    refine XS.aloadN X0.here hx rfl (hb hby d15_0) rfl rfl ?_
    exact kt
  obtain ⟨T58, X58, e58, st58⟩ := getF X0 hx hZ hown (host := "") (Or.inl (hw _ (List.mem_of_getElem? (i := 36) rfl))) Via.refl e0 F1 (g := (mkF m 1 #[.val (.ref fa)] [(.ref fa)])) rfl rfl (hb hby d15_1)
  obtain ⟨fs_, hr, hrun, hended, hW, hsame⟩ := X58.leave (v := some (.int fr)) (fun h => by rw [Bd.returns] at h; cases h)
  refine ⟨_, _, pre0 _ (s57 _ (st58 _ (?_))), hrun, hended, _, _, rfl, ?_, ⟨_, rfl⟩, hW, hsame.mono (by decide) (by decide)⟩
  · show Steps p.tables e below (T58.setTop (mkF m 4 #[.val (.ref fa)] [(.int fr)])) _
    exact retN X58 hx (t := .boolean) Bd.returns (by simp) (hb hby d15_4) (fun f acts q1 q2 q3 => by rw [show nar .boolean fr = fr from by rcases hfr with rfl | rfl <;> rfl]; exact hr f acts q1 q2 q3)
  · show Q15 Z fa fr h0 n0 _ T58.heap _
    rw [e58]
    exact ⟨rfl, N0, rfl⟩
def Q16 (Z : State) (fa : Addr) (fr : Int32) (fl : Int64) (h0 : Heap) (n0 : Nat) (v : Option Value) (h : Heap) (L : List Loc) : Prop := v = some (.long (fmax fr fl)) ∧ Fr n0 L ∧ h = h0
set_option maxRecDepth 65536 in
set_option maxHeartbeats 40000000 in
theorem rm16 (l : Launch) (Z : State) (a0 : Array Value) (hw : ∀ d ∈ tables_1, d.before a0 Z = true) (ws : List Jvm.Cond) (fa : Addr) (fr : Int32) (fl : Int64) (h0 : Heap) (n0 : Nat) (Z0 : n0 ≤ h0.size) (Ea : Exa Z h0 fa "com/example/rowkey_modeler/rowkeymodeler/DecimalField") (F1 : Fld Z h0 fa "com/example/rowkey_modeler/rowkeymodeler/NumberField" "reverse" "Z" (.int fr)) (F2 : Fld Z h0 fa "com/example/rowkey_modeler/rowkeymodeler/DecimalField" "largestWritten" "J" (.long fl)) (hfr : fr = 0 ∨ fr = 1) :
    MetFree l (⟨"com/example/rowkey_modeler/rowkeymodeler/DecimalField", "max", "()J"⟩ : MethodName) (head1 (Jvm.Cond.code (⟨"com/example/rowkey_modeler/rowkeymodeler/DecimalField", "max", "()J"⟩ : MethodName) prog_6_method_5_code 1 (some .long) :: ws) ({ frames := 1, cells := 0, slots := 0, locals := 12 } : Room)) (fun a U => a = #[(.ref fa)] ∧ Z.Warmed39 U.vm ∧ U.heap = h0) (fun _ _ _ _ _ => True) (fun _ U o U' => ∃ v L, o = .returned v ∧ Q16 Z fa fr fl h0 n0 v U'.heap L ∧ FrameEnd U o U' L ({ frames := 1, cells := 0, slots := 0, locals := 12 } : Room).cells ({ frames := 1, cells := 0, slots := 0, locals := 12 } : Room).slots) := by
  refine MetFree.of_bodySF (plainFor_of_name pn_com_example_rowkey_modeler_rowkeymodeler_DecimalField) hisR ?_
  intro p e s m args0 below meth c s₁ Bd hml0 hP hK
  obtain ⟨rfl, hZ, hh⟩ := hP
  have hx := Bd.exec
  have hby := Bd.bytes
  have hml : c.maxLocals = 1 := hml0
  have hown : s.vm.findClass "com/example/rowkey_modeler/rowkeymodeler/DecimalField" = some m.cls := findClass_of_methodNamed Bd.named
  have hnm := (name_of_methodNamed Bd.named Bd.method).1
  have X0 : Stand p l e ({ frames := 1, cells := 0, slots := 0, locals := 12 } : Room) s m #[(.ref fa)] below meth c s₁ [] 0 0 := Stand.of_body Bd
  have e0 : s₁.heap = h0 := by rw [← hh, Bd.state]; rfl
  have N0 := Fr.nil n0
  have pre0 : ∀ t, Steps p.tables e below (s₁.setTop (mkF m 0 #[.val (.ref fa)] [])) t → Steps p.tables e below (s₁.setTop (entryFrame m #[(.ref fa)] 1)) t := fun t kk_ => castTop (ef_16 m fa) kk_
  have s59 : ∀ t, Steps p.tables e below (s₁.setTop (mkF m 1 #[.val (.ref fa)] [(.ref fa)])) t → Steps p.tables e below (s₁.setTop (mkF m 0 #[.val (.ref fa)] [])) t := by
    intro t kt
    refine XS.aloadN X0.here hx rfl (hb hby d16_0) rfl rfl ?_
    exact kt
  obtain ⟨cq60, kq60, qa60, qb60, qc60⟩ := isOf hZ e0 Ea
  obtain ⟨_, _, ⟨T60, L60, k60, n60⟩, -, X60, ⟨Lc60, hQ60, l60, y60, z60⟩, st60⟩ := X0.virtualBackUp hx (x := (⟨"com/example/rowkey_modeler/rowkeymodeler/DecimalField", "reverse", "()Z"⟩ : MethodName)) (y := (⟨"com/example/rowkey_modeler/rowkeymodeler/NumberField", "reverse", "()Z"⟩ : MethodName)) hown (mvT hZ (hw _ (List.mem_of_getElem? (i := 50) rfl))) (mvT hZ (hw _ (List.mem_of_getElem? (i := 51) rfl))) (mvT hZ (hw _ (List.mem_of_getElem? (i := 52) rfl))) (by decide) (mvT hZ (hw _ (List.mem_of_getElem? (i := 54) rfl))) (mvT hZ (hw _ (List.mem_of_getElem? (i := 53) rfl))) (backOf (W := 0) (rm15 l Z a0 hw [] fa fr h0 n0 Z0 F1 hfr) hZ (hw _ (List.mem_of_getElem? (i := 55) rfl)) (hw _ (List.mem_of_getElem? (i := 18) rfl)) (by decide) (by decide)) qa60 qc60 (g := (mkF m 1 #[.val (.ref fa)] [(.ref fa)])) rfl (by rw [hml]; rfl) (Steps.refl _) (argsL := []) (rest := []) (lenOf pd_ocZ rfl) rfl (by show 2 * 0 + _ ≤ _; exact Nat.le_of_eq rfl) (hb hby d16_1) (fun _ _ => ⟨rfl, e0, (by decide : 0 + 0 ≤ _), (by decide : 0 + 0 ≤ _)⟩)
  dsimp only [Pt.U, Pt.locs, Pt.cells, Pt.slots] at X60 l60 y60 z60 st60 hQ60
  subst l60 y60 z60
  obtain ⟨rfl, N60q, e60q⟩ := hQ60
  have N60 := Fr.app N0 N60q
  obtain ⟨T66, lc67, w65, X68, e69, N70, hw65, j71⟩ : ∃ (T66 : State) (lc67 : List Loc) (w65 : Int64), Stand p l e ({ frames := 1, cells := 0, slots := 0, locals := 12 } : Room) s m #[(.ref fa)] below meth c T66 lc67 0 0 ∧ T66.heap = h0 ∧ Fr n0 lc67 ∧ w65 = (if fr = (0 : Int32) then fl else (9223372036854775807 : Int64)) ∧ ∀ t, Steps p.tables e below (T66.setTop (mkF m 17 #[.val (.ref fa)] [(.long w65)])) t → Steps p.tables e below (T60.setTop (mkF m 4 #[.val (.ref fa)] [(.int fr)])) t := by
    by_cases c61 : fr = (0 : Int32)
    ·
      have s62 : ∀ t, Steps p.tables e below (T60.setTop (mkF m 14 #[.val (.ref fa)] [(.ref fa)])) t → Steps p.tables e below (T60.setTop (mkF m 4 #[.val (.ref fa)] [(.int fr)])) t := by
        intro t kt
        refine XS.ifYes X60.here hx rfl (pc0 := 4) (pc' := 13) rfl (hb hby d16_4) rfl ((if0 _ _).trans (teq c61).1) (by decide) (by decide) ?_
        show Steps p.tables e below (T60.setTop (mkF m 13 #[.val (.ref fa)] [])) t
        refine XS.aloadN X60.here hx rfl (hb hby d16_13) rfl rfl ?_
        exact kt
      obtain ⟨T63, X63, e63, st63⟩ := getF X60 hx hZ hown (host := "") (Or.inl (hw _ (List.mem_of_getElem? (i := 42) rfl))) Via.refl e60q F2 (g := (mkF m 14 #[.val (.ref fa)] [(.ref fa)])) rfl rfl (hb hby d16_14)
      exact ⟨T63, _, fl, X63, e63, N60, (if_pos c61).symm, fun t kt => s62 _ (st63 _ (kt))⟩
    ·
      have s64 : ∀ t, Steps p.tables e below (T60.setTop (mkF m 17 #[.val (.ref fa)] [(.long (9223372036854775807 : Int64))])) t → Steps p.tables e below (T60.setTop (mkF m 4 #[.val (.ref fa)] [(.int fr)])) t := by
        intro t kt
        refine XS.ifNo X60.here hx rfl (hb hby d16_4) rfl ((if0 _ _).trans (feq c61).1) ?_
        show Steps p.tables e below (T60.setTop (mkF m 7 #[.val (.ref fa)] [])) t
        refine X60.ldc2Long hx hown (mvT hZ (hw _ (List.mem_of_getElem? (i := 40) rfl))) (g := (mkF m 7 #[.val (.ref fa)] [])) rfl (hb hby d16_7) _ ?_
        show Steps p.tables e below (T60.setTop (mkF m 10 #[.val (.ref fa)] [(.long (9223372036854775807 : Int64))])) t
        refine XS.goto X60.here hx rfl (pc0 := 10) (pc' := 17) rfl (hb hby d16_10) (by decide) (by decide) ?_
        exact kt
      exact ⟨T60, _, (9223372036854775807 : Int64), X60, e60q, N60, (if_neg c61).symm, fun t kt => s64 _ (kt)⟩
  rw [hw65] at j71
  obtain ⟨fs_, hr, hrun, hended, hW, hsame⟩ := X68.leave (v := some (.long (if fr = (0 : Int32) then fl else (9223372036854775807 : Int64)))) (fun h => by rw [Bd.returns] at h; cases h)
  refine ⟨_, _, pre0 _ (s59 _ (st60.trans (j71 _ (?_)))), hrun, hended, _, _, rfl, ?_, ⟨_, rfl⟩, hW, hsame.mono (by decide) (by decide)⟩
  · show Steps p.tables e below (T66.setTop (mkF m 17 #[.val (.ref fa)] [(.long (if fr = (0 : Int32) then fl else (9223372036854775807 : Int64)))])) _
    exact X68.lreturnOut hx Bd.returns (hb hby d16_17) hr
  · show Q16 Z fa fr fl h0 n0 _ T66.heap _
    rw [e69]
    exact ⟨rfl, N70, rfl⟩
def Q17 (Z : State) (fw : Int32) (h0 : Heap) (n0 : Nat) (v : Option Value) (h : Heap) (L : List Loc) : Prop := v = some (.long (fnines fw)) ∧ Fr n0 L ∧ Keep h0 h []
set_option maxRecDepth 65536 in
set_option maxHeartbeats 40000000 in
theorem rm17 (l : Launch) (Z : State) (a0 : Array Value) (hw : ∀ d ∈ tables_1, d.before a0 Z = true) (ws : List Jvm.Cond) (fw : Int32) (h0 : Heap) (n0 : Nat) (Z0 : n0 ≤ h0.size) (hw1 : 1 ≤ fw.toInt) (hw19 : fw.toInt ≤ 19) :
    MetFree l (⟨"com/example/rowkey_modeler/rowkeymodeler/DecimalFieldMaxPinLaw", "nines", "(I)J"⟩ : MethodName) (head1 (Jvm.Cond.code (⟨"com/example/rowkey_modeler/rowkeymodeler/DecimalFieldMaxPinLaw", "nines", "(I)J"⟩ : MethodName) method_2_code 2 (some .long) :: ws) ({ frames := 0, cells := 1, slots := 18, locals := 0 } : Room)) (fun a U => a = #[(.int fw)] ∧ Z.Warmed39 U.vm ∧ U.heap = h0) (fun _ _ _ _ _ => True) (fun _ U o U' => ∃ v L, o = .returned v ∧ Q17 Z fw h0 n0 v U'.heap L ∧ FrameEnd U o U' L ({ frames := 0, cells := 1, slots := 18, locals := 0 } : Room).cells ({ frames := 0, cells := 1, slots := 18, locals := 0 } : Room).slots) := by
  refine MetFree.of_bodySF (plainFor_of_name pn_com_example_rowkey_modeler_rowkeymodeler_DecimalFieldMaxPinLaw) hisR ?_
  intro p e s m args0 below meth c s₁ Bd hml0 hP hK
  obtain ⟨rfl, hZ, hh⟩ := hP
  have hx := Bd.exec
  have hby := Bd.bytes
  have hml : c.maxLocals = 2 := hml0
  have hown : s.vm.findClass "com/example/rowkey_modeler/rowkeymodeler/DecimalFieldMaxPinLaw" = some m.cls := findClass_of_methodNamed Bd.named
  have hnm := (name_of_methodNamed Bd.named Bd.method).1
  have X0 : Stand p l e ({ frames := 0, cells := 1, slots := 18, locals := 0 } : Room) s m #[(.int fw)] below meth c s₁ [] 0 0 := Stand.of_body Bd
  have e0 : s₁.heap = h0 := by rw [← hh, Bd.state]; rfl
  have N0 := Fr.nil n0
  have pre0 : ∀ t, Steps p.tables e below (s₁.setTop (mkF m 0 #[.val (.int fw), .unset] [])) t → Steps p.tables e below (s₁.setTop (entryFrame m #[(.int fw)] 2)) t := fun t kk_ => castTop (ef_17 m fw) kk_
  have s72 : ∀ t, Steps p.tables e below (s₁.setTop (mkF m 2 #[.val (.int fw), .unset] [(.int (18 : Int32))])) t → Steps p.tables e below (s₁.setTop (mkF m 0 #[.val (.int fw), .unset] [])) t := by
    intro t kt
    refine XS.bipush X0.here hx rfl (hb hby d17_0) ?_
    exact kt
  obtain ⟨T73, h73, k73, X73, e73, E73, A73, st73⟩ := newP X0 hx hZ (hw _ (List.mem_of_getElem? (i := 60) rfl)) e0 (g := (mkF m 2 #[.val (.int fw), .unset] [(.int (18 : Int32))])) rfl (hb hby d17_2) rfl (by decide) (cap := 18) (by decide) (by decide) (by decide) (by decide)
  obtain ⟨b73, g73⟩ : ∃ z, z = h0.size := ⟨_, rfl⟩
  rw [← g73] at A73 st73
  have gn73 : n0 ≤ b73 := Nat.le_trans Z0 (Nat.le_of_eq g73.symm)
  have sz73 : h0.size ≤ b73 := Nat.le_trans (Keep.refl h0 []).1 (Nat.le_of_eq g73.symm)
  have Zs73 : n0 ≤ h73.size := Nat.le_trans Z0 E73.1
  have K73 : Keep h0 h73 [] := (Keep.refl h0 []).ext E73
  have fV74 : OwnKit.Ar Z h73 b73 .long 18 (fun _ => defaultValue .long) := OwnKit.Ar.new A73 (by decide) (by decide)
  have s75 : ∀ t, Steps p.tables e below (T73.setTop (mkF m 9 #[.val (.int fw), .unset] [(.long (9 : Int64)), (.int (0 : Int32)), (.ref b73), (.ref b73)])) t → Steps p.tables e below (T73.setTop (mkF m 4 #[.val (.int fw), .unset] [(.ref b73)])) t := by
    intro t kt
    refine XS.dup X73.here hx rfl (hb hby d17_4) rfl rfl ?_
    show Steps p.tables e below (T73.setTop (mkF m 5 #[.val (.int fw), .unset] [(.ref b73), (.ref b73)])) t
    refine XS.iconst X73.here hx rfl (hb hby d17_5) ?_
    show Steps p.tables e below (T73.setTop (mkF m 6 #[.val (.int fw), .unset] [(.int (0 : Int32)), (.ref b73), (.ref b73)])) t
    refine X73.ldc2Long hx hown (mvT hZ (hw _ (List.mem_of_getElem? (i := 61) rfl))) (g := (mkF m 6 #[.val (.int fw), .unset] [(.int (0 : Int32)), (.ref b73), (.ref b73)])) rfl (hb hby d17_6) _ ?_
    exact kt
  obtain ⟨T76, h76, X76, e76, W76, V76, st76⟩ := OwnKit.stAL X73 hx hZ e73 fV74 (j := (0 : Int32)) (by decide) (by decide) (g := (mkF m 9 #[.val (.int fw), .unset] [(.long (9 : Int64)), (.int (0 : Int32)), (.ref b73), (.ref b73)])) rfl rfl (hb hby d17_9)
  have Zs76 : n0 ≤ h76.size := Nat.le_trans Zs73 (Keep.of_wr W76).1
  have fV77 := V76
  have K76 : Keep h0 h76 [] := K73.wr W76 (Or.inr sz73)
  have N76 := Fr.snoc X76 N0 gn73
  have s78 : ∀ t, Steps p.tables e below (T76.setTop (mkF m 15 #[.val (.int fw), .unset] [(.long (99 : Int64)), (.int (1 : Int32)), (.ref b73), (.ref b73)])) t → Steps p.tables e below (T76.setTop (mkF m 10 #[.val (.int fw), .unset] [(.ref b73)])) t := by
    intro t kt
    refine XS.dup X76.here hx rfl (hb hby d17_10) rfl rfl ?_
    show Steps p.tables e below (T76.setTop (mkF m 11 #[.val (.int fw), .unset] [(.ref b73), (.ref b73)])) t
    refine XS.iconst X76.here hx rfl (hb hby d17_11) ?_
    show Steps p.tables e below (T76.setTop (mkF m 12 #[.val (.int fw), .unset] [(.int (1 : Int32)), (.ref b73), (.ref b73)])) t
    refine X76.ldc2Long hx hown (mvT hZ (hw _ (List.mem_of_getElem? (i := 62) rfl))) (g := (mkF m 12 #[.val (.int fw), .unset] [(.int (1 : Int32)), (.ref b73), (.ref b73)])) rfl (hb hby d17_12) _ ?_
    exact kt
  obtain ⟨T79, h79, X79, e79, W79, V79, st79⟩ := OwnKit.stAL X76 hx hZ e76 fV77 (j := (1 : Int32)) (by decide) (by decide) (g := (mkF m 15 #[.val (.int fw), .unset] [(.long (99 : Int64)), (.int (1 : Int32)), (.ref b73), (.ref b73)])) rfl rfl (hb hby d17_15)
  have Zs79 : n0 ≤ h79.size := Nat.le_trans Zs76 (Keep.of_wr W79).1
  have fV80 := V79
  have K79 : Keep h0 h79 [] := K76.wr W79 (Or.inr sz73)
  have N79 := Fr.snoc X79 N76 gn73
  have s81 : ∀ t, Steps p.tables e below (T79.setTop (mkF m 21 #[.val (.int fw), .unset] [(.long (999 : Int64)), (.int (2 : Int32)), (.ref b73), (.ref b73)])) t → Steps p.tables e below (T79.setTop (mkF m 16 #[.val (.int fw), .unset] [(.ref b73)])) t := by
    intro t kt
    refine XS.dup X79.here hx rfl (hb hby d17_16) rfl rfl ?_
    show Steps p.tables e below (T79.setTop (mkF m 17 #[.val (.int fw), .unset] [(.ref b73), (.ref b73)])) t
    refine XS.iconst X79.here hx rfl (hb hby d17_17) ?_
    show Steps p.tables e below (T79.setTop (mkF m 18 #[.val (.int fw), .unset] [(.int (2 : Int32)), (.ref b73), (.ref b73)])) t
    refine X79.ldc2Long hx hown (mvT hZ (hw _ (List.mem_of_getElem? (i := 63) rfl))) (g := (mkF m 18 #[.val (.int fw), .unset] [(.int (2 : Int32)), (.ref b73), (.ref b73)])) rfl (hb hby d17_18) _ ?_
    exact kt
  obtain ⟨T82, h82, X82, e82, W82, V82, st82⟩ := OwnKit.stAL X79 hx hZ e79 fV80 (j := (2 : Int32)) (by decide) (by decide) (g := (mkF m 21 #[.val (.int fw), .unset] [(.long (999 : Int64)), (.int (2 : Int32)), (.ref b73), (.ref b73)])) rfl rfl (hb hby d17_21)
  have Zs82 : n0 ≤ h82.size := Nat.le_trans Zs79 (Keep.of_wr W82).1
  have fV83 := V82
  have K82 : Keep h0 h82 [] := K79.wr W82 (Or.inr sz73)
  have N82 := Fr.snoc X82 N79 gn73
  have s84 : ∀ t, Steps p.tables e below (T82.setTop (mkF m 27 #[.val (.int fw), .unset] [(.long (9999 : Int64)), (.int (3 : Int32)), (.ref b73), (.ref b73)])) t → Steps p.tables e below (T82.setTop (mkF m 22 #[.val (.int fw), .unset] [(.ref b73)])) t := by
    intro t kt
    refine XS.dup X82.here hx rfl (hb hby d17_22) rfl rfl ?_
    show Steps p.tables e below (T82.setTop (mkF m 23 #[.val (.int fw), .unset] [(.ref b73), (.ref b73)])) t
    refine XS.iconst X82.here hx rfl (hb hby d17_23) ?_
    show Steps p.tables e below (T82.setTop (mkF m 24 #[.val (.int fw), .unset] [(.int (3 : Int32)), (.ref b73), (.ref b73)])) t
    refine X82.ldc2Long hx hown (mvT hZ (hw _ (List.mem_of_getElem? (i := 64) rfl))) (g := (mkF m 24 #[.val (.int fw), .unset] [(.int (3 : Int32)), (.ref b73), (.ref b73)])) rfl (hb hby d17_24) _ ?_
    exact kt
  obtain ⟨T85, h85, X85, e85, W85, V85, st85⟩ := OwnKit.stAL X82 hx hZ e82 fV83 (j := (3 : Int32)) (by decide) (by decide) (g := (mkF m 27 #[.val (.int fw), .unset] [(.long (9999 : Int64)), (.int (3 : Int32)), (.ref b73), (.ref b73)])) rfl rfl (hb hby d17_27)
  have Zs85 : n0 ≤ h85.size := Nat.le_trans Zs82 (Keep.of_wr W85).1
  have fV86 := V85
  have K85 : Keep h0 h85 [] := K82.wr W85 (Or.inr sz73)
  have N85 := Fr.snoc X85 N82 gn73
  have s87 : ∀ t, Steps p.tables e below (T85.setTop (mkF m 33 #[.val (.int fw), .unset] [(.long (99999 : Int64)), (.int (4 : Int32)), (.ref b73), (.ref b73)])) t → Steps p.tables e below (T85.setTop (mkF m 28 #[.val (.int fw), .unset] [(.ref b73)])) t := by
    intro t kt
    refine XS.dup X85.here hx rfl (hb hby d17_28) rfl rfl ?_
    show Steps p.tables e below (T85.setTop (mkF m 29 #[.val (.int fw), .unset] [(.ref b73), (.ref b73)])) t
    refine XS.iconst X85.here hx rfl (hb hby d17_29) ?_
    show Steps p.tables e below (T85.setTop (mkF m 30 #[.val (.int fw), .unset] [(.int (4 : Int32)), (.ref b73), (.ref b73)])) t
    refine X85.ldc2Long hx hown (mvT hZ (hw _ (List.mem_of_getElem? (i := 65) rfl))) (g := (mkF m 30 #[.val (.int fw), .unset] [(.int (4 : Int32)), (.ref b73), (.ref b73)])) rfl (hb hby d17_30) _ ?_
    exact kt
  obtain ⟨T88, h88, X88, e88, W88, V88, st88⟩ := OwnKit.stAL X85 hx hZ e85 fV86 (j := (4 : Int32)) (by decide) (by decide) (g := (mkF m 33 #[.val (.int fw), .unset] [(.long (99999 : Int64)), (.int (4 : Int32)), (.ref b73), (.ref b73)])) rfl rfl (hb hby d17_33)
  have Zs88 : n0 ≤ h88.size := Nat.le_trans Zs85 (Keep.of_wr W88).1
  have fV89 := V88
  have K88 : Keep h0 h88 [] := K85.wr W88 (Or.inr sz73)
  have N88 := Fr.snoc X88 N85 gn73
  have s90 : ∀ t, Steps p.tables e below (T88.setTop (mkF m 39 #[.val (.int fw), .unset] [(.long (999999 : Int64)), (.int (5 : Int32)), (.ref b73), (.ref b73)])) t → Steps p.tables e below (T88.setTop (mkF m 34 #[.val (.int fw), .unset] [(.ref b73)])) t := by
    intro t kt
    refine XS.dup X88.here hx rfl (hb hby d17_34) rfl rfl ?_
    show Steps p.tables e below (T88.setTop (mkF m 35 #[.val (.int fw), .unset] [(.ref b73), (.ref b73)])) t
    refine XS.iconst X88.here hx rfl (hb hby d17_35) ?_
    show Steps p.tables e below (T88.setTop (mkF m 36 #[.val (.int fw), .unset] [(.int (5 : Int32)), (.ref b73), (.ref b73)])) t
    refine X88.ldc2Long hx hown (mvT hZ (hw _ (List.mem_of_getElem? (i := 66) rfl))) (g := (mkF m 36 #[.val (.int fw), .unset] [(.int (5 : Int32)), (.ref b73), (.ref b73)])) rfl (hb hby d17_36) _ ?_
    exact kt
  obtain ⟨T91, h91, X91, e91, W91, V91, st91⟩ := OwnKit.stAL X88 hx hZ e88 fV89 (j := (5 : Int32)) (by decide) (by decide) (g := (mkF m 39 #[.val (.int fw), .unset] [(.long (999999 : Int64)), (.int (5 : Int32)), (.ref b73), (.ref b73)])) rfl rfl (hb hby d17_39)
  have Zs91 : n0 ≤ h91.size := Nat.le_trans Zs88 (Keep.of_wr W91).1
  have fV92 := V91
  have K91 : Keep h0 h91 [] := K88.wr W91 (Or.inr sz73)
  have N91 := Fr.snoc X91 N88 gn73
  have s93 : ∀ t, Steps p.tables e below (T91.setTop (mkF m 46 #[.val (.int fw), .unset] [(.long (9999999 : Int64)), (.int (6 : Int32)), (.ref b73), (.ref b73)])) t → Steps p.tables e below (T91.setTop (mkF m 40 #[.val (.int fw), .unset] [(.ref b73)])) t := by
    intro t kt
    refine XS.dup X91.here hx rfl (hb hby d17_40) rfl rfl ?_
    show Steps p.tables e below (T91.setTop (mkF m 41 #[.val (.int fw), .unset] [(.ref b73), (.ref b73)])) t
    refine XS.bipush X91.here hx rfl (hb hby d17_41) ?_
    show Steps p.tables e below (T91.setTop (mkF m 43 #[.val (.int fw), .unset] [(.int (6 : Int32)), (.ref b73), (.ref b73)])) t
    refine X91.ldc2Long hx hown (mvT hZ (hw _ (List.mem_of_getElem? (i := 67) rfl))) (g := (mkF m 43 #[.val (.int fw), .unset] [(.int (6 : Int32)), (.ref b73), (.ref b73)])) rfl (hb hby d17_43) _ ?_
    exact kt
  obtain ⟨T94, h94, X94, e94, W94, V94, st94⟩ := OwnKit.stAL X91 hx hZ e91 fV92 (j := (6 : Int32)) (by decide) (by decide) (g := (mkF m 46 #[.val (.int fw), .unset] [(.long (9999999 : Int64)), (.int (6 : Int32)), (.ref b73), (.ref b73)])) rfl rfl (hb hby d17_46)
  have Zs94 : n0 ≤ h94.size := Nat.le_trans Zs91 (Keep.of_wr W94).1
  have fV95 := V94
  have K94 : Keep h0 h94 [] := K91.wr W94 (Or.inr sz73)
  have N94 := Fr.snoc X94 N91 gn73
  have s96 : ∀ t, Steps p.tables e below (T94.setTop (mkF m 53 #[.val (.int fw), .unset] [(.long (99999999 : Int64)), (.int (7 : Int32)), (.ref b73), (.ref b73)])) t → Steps p.tables e below (T94.setTop (mkF m 47 #[.val (.int fw), .unset] [(.ref b73)])) t := by
    intro t kt
    refine XS.dup X94.here hx rfl (hb hby d17_47) rfl rfl ?_
    show Steps p.tables e below (T94.setTop (mkF m 48 #[.val (.int fw), .unset] [(.ref b73), (.ref b73)])) t
    refine XS.bipush X94.here hx rfl (hb hby d17_48) ?_
    show Steps p.tables e below (T94.setTop (mkF m 50 #[.val (.int fw), .unset] [(.int (7 : Int32)), (.ref b73), (.ref b73)])) t
    refine X94.ldc2Long hx hown (mvT hZ (hw _ (List.mem_of_getElem? (i := 68) rfl))) (g := (mkF m 50 #[.val (.int fw), .unset] [(.int (7 : Int32)), (.ref b73), (.ref b73)])) rfl (hb hby d17_50) _ ?_
    exact kt
  obtain ⟨T97, h97, X97, e97, W97, V97, st97⟩ := OwnKit.stAL X94 hx hZ e94 fV95 (j := (7 : Int32)) (by decide) (by decide) (g := (mkF m 53 #[.val (.int fw), .unset] [(.long (99999999 : Int64)), (.int (7 : Int32)), (.ref b73), (.ref b73)])) rfl rfl (hb hby d17_53)
  have Zs97 : n0 ≤ h97.size := Nat.le_trans Zs94 (Keep.of_wr W97).1
  have fV98 := V97
  have K97 : Keep h0 h97 [] := K94.wr W97 (Or.inr sz73)
  have N97 := Fr.snoc X97 N94 gn73
  have s99 : ∀ t, Steps p.tables e below (T97.setTop (mkF m 60 #[.val (.int fw), .unset] [(.long (999999999 : Int64)), (.int (8 : Int32)), (.ref b73), (.ref b73)])) t → Steps p.tables e below (T97.setTop (mkF m 54 #[.val (.int fw), .unset] [(.ref b73)])) t := by
    intro t kt
    refine XS.dup X97.here hx rfl (hb hby d17_54) rfl rfl ?_
    show Steps p.tables e below (T97.setTop (mkF m 55 #[.val (.int fw), .unset] [(.ref b73), (.ref b73)])) t
    refine XS.bipush X97.here hx rfl (hb hby d17_55) ?_
    show Steps p.tables e below (T97.setTop (mkF m 57 #[.val (.int fw), .unset] [(.int (8 : Int32)), (.ref b73), (.ref b73)])) t
    refine X97.ldc2Long hx hown (mvT hZ (hw _ (List.mem_of_getElem? (i := 69) rfl))) (g := (mkF m 57 #[.val (.int fw), .unset] [(.int (8 : Int32)), (.ref b73), (.ref b73)])) rfl (hb hby d17_57) _ ?_
    exact kt
  obtain ⟨T100, h100, X100, e100, W100, V100, st100⟩ := OwnKit.stAL X97 hx hZ e97 fV98 (j := (8 : Int32)) (by decide) (by decide) (g := (mkF m 60 #[.val (.int fw), .unset] [(.long (999999999 : Int64)), (.int (8 : Int32)), (.ref b73), (.ref b73)])) rfl rfl (hb hby d17_60)
  have Zs100 : n0 ≤ h100.size := Nat.le_trans Zs97 (Keep.of_wr W100).1
  have fV101 := V100
  have K100 : Keep h0 h100 [] := K97.wr W100 (Or.inr sz73)
  have N100 := Fr.snoc X100 N97 gn73
  have s102 : ∀ t, Steps p.tables e below (T100.setTop (mkF m 67 #[.val (.int fw), .unset] [(.long (9999999999 : Int64)), (.int (9 : Int32)), (.ref b73), (.ref b73)])) t → Steps p.tables e below (T100.setTop (mkF m 61 #[.val (.int fw), .unset] [(.ref b73)])) t := by
    intro t kt
    refine XS.dup X100.here hx rfl (hb hby d17_61) rfl rfl ?_
    show Steps p.tables e below (T100.setTop (mkF m 62 #[.val (.int fw), .unset] [(.ref b73), (.ref b73)])) t
    refine XS.bipush X100.here hx rfl (hb hby d17_62) ?_
    show Steps p.tables e below (T100.setTop (mkF m 64 #[.val (.int fw), .unset] [(.int (9 : Int32)), (.ref b73), (.ref b73)])) t
    refine X100.ldc2Long hx hown (mvT hZ (hw _ (List.mem_of_getElem? (i := 70) rfl))) (g := (mkF m 64 #[.val (.int fw), .unset] [(.int (9 : Int32)), (.ref b73), (.ref b73)])) rfl (hb hby d17_64) _ ?_
    exact kt
  obtain ⟨T103, h103, X103, e103, W103, V103, st103⟩ := OwnKit.stAL X100 hx hZ e100 fV101 (j := (9 : Int32)) (by decide) (by decide) (g := (mkF m 67 #[.val (.int fw), .unset] [(.long (9999999999 : Int64)), (.int (9 : Int32)), (.ref b73), (.ref b73)])) rfl rfl (hb hby d17_67)
  have Zs103 : n0 ≤ h103.size := Nat.le_trans Zs100 (Keep.of_wr W103).1
  have fV104 := V103
  have K103 : Keep h0 h103 [] := K100.wr W103 (Or.inr sz73)
  have N103 := Fr.snoc X103 N100 gn73
  have s105 : ∀ t, Steps p.tables e below (T103.setTop (mkF m 74 #[.val (.int fw), .unset] [(.long (99999999999 : Int64)), (.int (10 : Int32)), (.ref b73), (.ref b73)])) t → Steps p.tables e below (T103.setTop (mkF m 68 #[.val (.int fw), .unset] [(.ref b73)])) t := by
    intro t kt
    refine XS.dup X103.here hx rfl (hb hby d17_68) rfl rfl ?_
    show Steps p.tables e below (T103.setTop (mkF m 69 #[.val (.int fw), .unset] [(.ref b73), (.ref b73)])) t
    refine XS.bipush X103.here hx rfl (hb hby d17_69) ?_
    show Steps p.tables e below (T103.setTop (mkF m 71 #[.val (.int fw), .unset] [(.int (10 : Int32)), (.ref b73), (.ref b73)])) t
    refine X103.ldc2Long hx hown (mvT hZ (hw _ (List.mem_of_getElem? (i := 71) rfl))) (g := (mkF m 71 #[.val (.int fw), .unset] [(.int (10 : Int32)), (.ref b73), (.ref b73)])) rfl (hb hby d17_71) _ ?_
    exact kt
  obtain ⟨T106, h106, X106, e106, W106, V106, st106⟩ := OwnKit.stAL X103 hx hZ e103 fV104 (j := (10 : Int32)) (by decide) (by decide) (g := (mkF m 74 #[.val (.int fw), .unset] [(.long (99999999999 : Int64)), (.int (10 : Int32)), (.ref b73), (.ref b73)])) rfl rfl (hb hby d17_74)
  have Zs106 : n0 ≤ h106.size := Nat.le_trans Zs103 (Keep.of_wr W106).1
  have fV107 := V106
  have K106 : Keep h0 h106 [] := K103.wr W106 (Or.inr sz73)
  have N106 := Fr.snoc X106 N103 gn73
  have s108 : ∀ t, Steps p.tables e below (T106.setTop (mkF m 81 #[.val (.int fw), .unset] [(.long (999999999999 : Int64)), (.int (11 : Int32)), (.ref b73), (.ref b73)])) t → Steps p.tables e below (T106.setTop (mkF m 75 #[.val (.int fw), .unset] [(.ref b73)])) t := by
    intro t kt
    refine XS.dup X106.here hx rfl (hb hby d17_75) rfl rfl ?_
    show Steps p.tables e below (T106.setTop (mkF m 76 #[.val (.int fw), .unset] [(.ref b73), (.ref b73)])) t
    refine XS.bipush X106.here hx rfl (hb hby d17_76) ?_
    show Steps p.tables e below (T106.setTop (mkF m 78 #[.val (.int fw), .unset] [(.int (11 : Int32)), (.ref b73), (.ref b73)])) t
    refine X106.ldc2Long hx hown (mvT hZ (hw _ (List.mem_of_getElem? (i := 72) rfl))) (g := (mkF m 78 #[.val (.int fw), .unset] [(.int (11 : Int32)), (.ref b73), (.ref b73)])) rfl (hb hby d17_78) _ ?_
    exact kt
  obtain ⟨T109, h109, X109, e109, W109, V109, st109⟩ := OwnKit.stAL X106 hx hZ e106 fV107 (j := (11 : Int32)) (by decide) (by decide) (g := (mkF m 81 #[.val (.int fw), .unset] [(.long (999999999999 : Int64)), (.int (11 : Int32)), (.ref b73), (.ref b73)])) rfl rfl (hb hby d17_81)
  have Zs109 : n0 ≤ h109.size := Nat.le_trans Zs106 (Keep.of_wr W109).1
  have fV110 := V109
  have K109 : Keep h0 h109 [] := K106.wr W109 (Or.inr sz73)
  have N109 := Fr.snoc X109 N106 gn73
  have s111 : ∀ t, Steps p.tables e below (T109.setTop (mkF m 88 #[.val (.int fw), .unset] [(.long (9999999999999 : Int64)), (.int (12 : Int32)), (.ref b73), (.ref b73)])) t → Steps p.tables e below (T109.setTop (mkF m 82 #[.val (.int fw), .unset] [(.ref b73)])) t := by
    intro t kt
    refine XS.dup X109.here hx rfl (hb hby d17_82) rfl rfl ?_
    show Steps p.tables e below (T109.setTop (mkF m 83 #[.val (.int fw), .unset] [(.ref b73), (.ref b73)])) t
    refine XS.bipush X109.here hx rfl (hb hby d17_83) ?_
    show Steps p.tables e below (T109.setTop (mkF m 85 #[.val (.int fw), .unset] [(.int (12 : Int32)), (.ref b73), (.ref b73)])) t
    refine X109.ldc2Long hx hown (mvT hZ (hw _ (List.mem_of_getElem? (i := 73) rfl))) (g := (mkF m 85 #[.val (.int fw), .unset] [(.int (12 : Int32)), (.ref b73), (.ref b73)])) rfl (hb hby d17_85) _ ?_
    exact kt
  obtain ⟨T112, h112, X112, e112, W112, V112, st112⟩ := OwnKit.stAL X109 hx hZ e109 fV110 (j := (12 : Int32)) (by decide) (by decide) (g := (mkF m 88 #[.val (.int fw), .unset] [(.long (9999999999999 : Int64)), (.int (12 : Int32)), (.ref b73), (.ref b73)])) rfl rfl (hb hby d17_88)
  have Zs112 : n0 ≤ h112.size := Nat.le_trans Zs109 (Keep.of_wr W112).1
  have fV113 := V112
  have K112 : Keep h0 h112 [] := K109.wr W112 (Or.inr sz73)
  have N112 := Fr.snoc X112 N109 gn73
  have s114 : ∀ t, Steps p.tables e below (T112.setTop (mkF m 95 #[.val (.int fw), .unset] [(.long (99999999999999 : Int64)), (.int (13 : Int32)), (.ref b73), (.ref b73)])) t → Steps p.tables e below (T112.setTop (mkF m 89 #[.val (.int fw), .unset] [(.ref b73)])) t := by
    intro t kt
    refine XS.dup X112.here hx rfl (hb hby d17_89) rfl rfl ?_
    show Steps p.tables e below (T112.setTop (mkF m 90 #[.val (.int fw), .unset] [(.ref b73), (.ref b73)])) t
    refine XS.bipush X112.here hx rfl (hb hby d17_90) ?_
    show Steps p.tables e below (T112.setTop (mkF m 92 #[.val (.int fw), .unset] [(.int (13 : Int32)), (.ref b73), (.ref b73)])) t
    refine X112.ldc2Long hx hown (mvT hZ (hw _ (List.mem_of_getElem? (i := 74) rfl))) (g := (mkF m 92 #[.val (.int fw), .unset] [(.int (13 : Int32)), (.ref b73), (.ref b73)])) rfl (hb hby d17_92) _ ?_
    exact kt
  obtain ⟨T115, h115, X115, e115, W115, V115, st115⟩ := OwnKit.stAL X112 hx hZ e112 fV113 (j := (13 : Int32)) (by decide) (by decide) (g := (mkF m 95 #[.val (.int fw), .unset] [(.long (99999999999999 : Int64)), (.int (13 : Int32)), (.ref b73), (.ref b73)])) rfl rfl (hb hby d17_95)
  have Zs115 : n0 ≤ h115.size := Nat.le_trans Zs112 (Keep.of_wr W115).1
  have fV116 := V115
  have K115 : Keep h0 h115 [] := K112.wr W115 (Or.inr sz73)
  have N115 := Fr.snoc X115 N112 gn73
  have s117 : ∀ t, Steps p.tables e below (T115.setTop (mkF m 102 #[.val (.int fw), .unset] [(.long (999999999999999 : Int64)), (.int (14 : Int32)), (.ref b73), (.ref b73)])) t → Steps p.tables e below (T115.setTop (mkF m 96 #[.val (.int fw), .unset] [(.ref b73)])) t := by
    intro t kt
    refine XS.dup X115.here hx rfl (hb hby d17_96) rfl rfl ?_
    show Steps p.tables e below (T115.setTop (mkF m 97 #[.val (.int fw), .unset] [(.ref b73), (.ref b73)])) t
    refine XS.bipush X115.here hx rfl (hb hby d17_97) ?_
    show Steps p.tables e below (T115.setTop (mkF m 99 #[.val (.int fw), .unset] [(.int (14 : Int32)), (.ref b73), (.ref b73)])) t
    refine X115.ldc2Long hx hown (mvT hZ (hw _ (List.mem_of_getElem? (i := 75) rfl))) (g := (mkF m 99 #[.val (.int fw), .unset] [(.int (14 : Int32)), (.ref b73), (.ref b73)])) rfl (hb hby d17_99) _ ?_
    exact kt
  obtain ⟨T118, h118, X118, e118, W118, V118, st118⟩ := OwnKit.stAL X115 hx hZ e115 fV116 (j := (14 : Int32)) (by decide) (by decide) (g := (mkF m 102 #[.val (.int fw), .unset] [(.long (999999999999999 : Int64)), (.int (14 : Int32)), (.ref b73), (.ref b73)])) rfl rfl (hb hby d17_102)
  have Zs118 : n0 ≤ h118.size := Nat.le_trans Zs115 (Keep.of_wr W118).1
  have fV119 := V118
  have K118 : Keep h0 h118 [] := K115.wr W118 (Or.inr sz73)
  have N118 := Fr.snoc X118 N115 gn73
  have s120 : ∀ t, Steps p.tables e below (T118.setTop (mkF m 109 #[.val (.int fw), .unset] [(.long (9999999999999999 : Int64)), (.int (15 : Int32)), (.ref b73), (.ref b73)])) t → Steps p.tables e below (T118.setTop (mkF m 103 #[.val (.int fw), .unset] [(.ref b73)])) t := by
    intro t kt
    refine XS.dup X118.here hx rfl (hb hby d17_103) rfl rfl ?_
    show Steps p.tables e below (T118.setTop (mkF m 104 #[.val (.int fw), .unset] [(.ref b73), (.ref b73)])) t
    refine XS.bipush X118.here hx rfl (hb hby d17_104) ?_
    show Steps p.tables e below (T118.setTop (mkF m 106 #[.val (.int fw), .unset] [(.int (15 : Int32)), (.ref b73), (.ref b73)])) t
    refine X118.ldc2Long hx hown (mvT hZ (hw _ (List.mem_of_getElem? (i := 76) rfl))) (g := (mkF m 106 #[.val (.int fw), .unset] [(.int (15 : Int32)), (.ref b73), (.ref b73)])) rfl (hb hby d17_106) _ ?_
    exact kt
  obtain ⟨T121, h121, X121, e121, W121, V121, st121⟩ := OwnKit.stAL X118 hx hZ e118 fV119 (j := (15 : Int32)) (by decide) (by decide) (g := (mkF m 109 #[.val (.int fw), .unset] [(.long (9999999999999999 : Int64)), (.int (15 : Int32)), (.ref b73), (.ref b73)])) rfl rfl (hb hby d17_109)
  have Zs121 : n0 ≤ h121.size := Nat.le_trans Zs118 (Keep.of_wr W121).1
  have fV122 := V121
  have K121 : Keep h0 h121 [] := K118.wr W121 (Or.inr sz73)
  have N121 := Fr.snoc X121 N118 gn73
  have s123 : ∀ t, Steps p.tables e below (T121.setTop (mkF m 116 #[.val (.int fw), .unset] [(.long (99999999999999999 : Int64)), (.int (16 : Int32)), (.ref b73), (.ref b73)])) t → Steps p.tables e below (T121.setTop (mkF m 110 #[.val (.int fw), .unset] [(.ref b73)])) t := by
    intro t kt
    refine XS.dup X121.here hx rfl (hb hby d17_110) rfl rfl ?_
    show Steps p.tables e below (T121.setTop (mkF m 111 #[.val (.int fw), .unset] [(.ref b73), (.ref b73)])) t
    refine XS.bipush X121.here hx rfl (hb hby d17_111) ?_
    show Steps p.tables e below (T121.setTop (mkF m 113 #[.val (.int fw), .unset] [(.int (16 : Int32)), (.ref b73), (.ref b73)])) t
    refine X121.ldc2Long hx hown (mvT hZ (hw _ (List.mem_of_getElem? (i := 77) rfl))) (g := (mkF m 113 #[.val (.int fw), .unset] [(.int (16 : Int32)), (.ref b73), (.ref b73)])) rfl (hb hby d17_113) _ ?_
    exact kt
  obtain ⟨T124, h124, X124, e124, W124, V124, st124⟩ := OwnKit.stAL X121 hx hZ e121 fV122 (j := (16 : Int32)) (by decide) (by decide) (g := (mkF m 116 #[.val (.int fw), .unset] [(.long (99999999999999999 : Int64)), (.int (16 : Int32)), (.ref b73), (.ref b73)])) rfl rfl (hb hby d17_116)
  have Zs124 : n0 ≤ h124.size := Nat.le_trans Zs121 (Keep.of_wr W124).1
  have fV125 := V124
  have K124 : Keep h0 h124 [] := K121.wr W124 (Or.inr sz73)
  have N124 := Fr.snoc X124 N121 gn73
  have s126 : ∀ t, Steps p.tables e below (T124.setTop (mkF m 123 #[.val (.int fw), .unset] [(.long (999999999999999999 : Int64)), (.int (17 : Int32)), (.ref b73), (.ref b73)])) t → Steps p.tables e below (T124.setTop (mkF m 117 #[.val (.int fw), .unset] [(.ref b73)])) t := by
    intro t kt
    refine XS.dup X124.here hx rfl (hb hby d17_117) rfl rfl ?_
    show Steps p.tables e below (T124.setTop (mkF m 118 #[.val (.int fw), .unset] [(.ref b73), (.ref b73)])) t
    refine XS.bipush X124.here hx rfl (hb hby d17_118) ?_
    show Steps p.tables e below (T124.setTop (mkF m 120 #[.val (.int fw), .unset] [(.int (17 : Int32)), (.ref b73), (.ref b73)])) t
    refine X124.ldc2Long hx hown (mvT hZ (hw _ (List.mem_of_getElem? (i := 78) rfl))) (g := (mkF m 120 #[.val (.int fw), .unset] [(.int (17 : Int32)), (.ref b73), (.ref b73)])) rfl (hb hby d17_120) _ ?_
    exact kt
  obtain ⟨T127, h127, X127, e127, W127, V127, st127⟩ := OwnKit.stAL X124 hx hZ e124 fV125 (j := (17 : Int32)) (by decide) (by decide) (g := (mkF m 123 #[.val (.int fw), .unset] [(.long (999999999999999999 : Int64)), (.int (17 : Int32)), (.ref b73), (.ref b73)])) rfl rfl (hb hby d17_123)
  have Zs127 : n0 ≤ h127.size := Nat.le_trans Zs124 (Keep.of_wr W127).1
  have fV128 := V127
  have K127 : Keep h0 h127 [] := K124.wr W127 (Or.inr sz73)
  have N127 := Fr.snoc X127 N124 gn73
  have s129 : ∀ t, Steps p.tables e below (T127.setTop (mkF m 128 #[.val (.int fw), .val (.ref b73)] [(.int (19 : Int32)), (.int fw)])) t → Steps p.tables e below (T127.setTop (mkF m 124 #[.val (.int fw), .unset] [(.ref b73)])) t := by
    intro t kt
    refine XS.astoreN X127.here hx rfl (hb hby d17_124) rfl rfl (l' := #[.val (.int fw), .val (.ref b73)]) rfl ?_
    show Steps p.tables e below (T127.setTop (mkF m 125 #[.val (.int fw), .val (.ref b73)] [])) t
    refine XS.iloadN X127.here hx rfl (hb hby d17_125) rfl ?_
    show Steps p.tables e below (T127.setTop (mkF m 126 #[.val (.int fw), .val (.ref b73)] [(.int fw)])) t
    refine XS.bipush X127.here hx rfl (hb hby d17_126) ?_
    exact kt
  have hw18 : fw.toInt < 19 → (0 ≤ (fw - (1 : Int32)).toInt ∧ (fw - (1 : Int32)).toInt < 18) := by
    intro q
    have r : (fw - (1 : Int32)).toInt = fw.toInt - 1 := by rw [Int32.toInt_sub]; show (fw.toInt - 1).bmod (2 ^ 32) = _; rw [Int.bmod_def]; omega
    omega
  by_cases c130 : fw < (19 : Int32)
  ·
    have s131 : ∀ t, Steps p.tables e below (T127.setTop (mkF m 139 #[.val (.int fw), .val (.ref b73)] [(.int (fw - (1 : Int32))), (.ref b73)])) t → Steps p.tables e below (T127.setTop (mkF m 128 #[.val (.int fw), .val (.ref b73)] [(.int (19 : Int32)), (.int fw)])) t := by
      intro t kt
      refine XS.icmpYes X127.here hx rfl (pc0 := 128) (pc' := 135) rfl (hb hby d17_128) rfl (tlt c130).1 (by decide) (by decide) ?_
      show Steps p.tables e below (T127.setTop (mkF m 135 #[.val (.int fw), .val (.ref b73)] [])) t
      refine XS.aloadN X127.here hx rfl (hb hby d17_135) rfl rfl ?_
      show Steps p.tables e below (T127.setTop (mkF m 136 #[.val (.int fw), .val (.ref b73)] [(.ref b73)])) t
      refine XS.iloadN X127.here hx rfl (hb hby d17_136) rfl ?_
      show Steps p.tables e below (T127.setTop (mkF m 137 #[.val (.int fw), .val (.ref b73)] [(.int fw), (.ref b73)])) t
      refine XS.iconst X127.here hx rfl (hb hby d17_137) ?_
      show Steps p.tables e below (T127.setTop (mkF m 138 #[.val (.int fw), .val (.ref b73)] [(.int (1 : Int32)), (.int fw), (.ref b73)])) t
      refine XS.isub X127.here hx rfl (hb hby d17_138) rfl ?_
      exact kt
    have q19 : fw.toInt < 19 := by have q := Int32.lt_iff_toInt_lt.mp c130; exact q
    have Vt : Ar Z h127 b73 .long 18 (fun i => .long (own_tab i)) := fV128.as (fun j hj => by
      have hc : j = 0 ∨ j = 1 ∨ j = 2 ∨ j = 3 ∨ j = 4 ∨ j = 5 ∨ j = 6 ∨ j = 7 ∨ j = 8 ∨ j = 9 ∨ j = 10 ∨ j = 11 ∨ j = 12 ∨ j = 13 ∨ j = 14 ∨ j = 15 ∨ j = 16 ∨ j = 17 := by omega
      rcases hc with rfl | rfl | rfl | rfl | rfl | rfl | rfl | rfl | rfl | rfl | rfl | rfl | rfl | rfl | rfl | rfl | rfl | rfl <;> rfl)
    have s132 : ∀ t, Steps p.tables e below (T127.setTop (mkF m 140 #[.val (.int fw), .val (.ref b73)] [(.long (own_tab (fw - (1 : Int32)).toInt.toNat))])) t → Steps p.tables e below (T127.setTop (mkF m 139 #[.val (.int fw), .val (.ref b73)] [(.int (fw - (1 : Int32))), (.ref b73)])) t := by
      intro t kt
      refine OwnKit.ldAL X127 hx hZ e127 Vt (j := (fw - (1 : Int32))) (hw18 q19).1 (hw18 q19).2 (w := (.long (own_tab (fw - (1 : Int32)).toInt.toNat))) rfl (g := (mkF m 139 #[.val (.int fw), .val (.ref b73)] [(.int (fw - (1 : Int32))), (.ref b73)])) rfl rfl (hb hby d17_139) _ ?_
      exact kt
    obtain ⟨fs_, hr, hrun, hended, hW, hsame⟩ := X127.leave (v := some (.long (own_tab (fw - (1 : Int32)).toInt.toNat))) (fun h => by rw [Bd.returns] at h; cases h)
    refine ⟨_, _, pre0 _ (s72 _ (st73 _ (s75 _ (st76 _ (s78 _ (st79 _ (s81 _ (st82 _ (s84 _ (st85 _ (s87 _ (st88 _ (s90 _ (st91 _ (s93 _ (st94 _ (s96 _ (st97 _ (s99 _ (st100 _ (s102 _ (st103 _ (s105 _ (st106 _ (s108 _ (st109 _ (s111 _ (st112 _ (s114 _ (st115 _ (s117 _ (st118 _ (s120 _ (st121 _ (s123 _ (st124 _ (s126 _ (st127 _ (s129 _ (s131 _ (s132 _ (?_)))))))))))))))))))))))))))))))))))))))))), hrun, hended, _, _, rfl, ?_, ⟨_, rfl⟩, hW, hsame.mono (by decide) (by decide)⟩
    · show Steps p.tables e below (T127.setTop (mkF m 140 #[.val (.int fw), .val (.ref b73)] [(.long (own_tab (fw - (1 : Int32)).toInt.toNat))])) _
      exact X127.lreturnOut hx Bd.returns (hb hby d17_140) hr
    · show Q17 Z fw h0 n0 _ T127.heap _
      rw [e127]
      exact ⟨by simp only [fnines, if_pos c130], N127, K127⟩
  ·
    have s133 : ∀ t, Steps p.tables e below (T127.setTop (mkF m 134 #[.val (.int fw), .val (.ref b73)] [(.long (9223372036854775807 : Int64))])) t → Steps p.tables e below (T127.setTop (mkF m 128 #[.val (.int fw), .val (.ref b73)] [(.int (19 : Int32)), (.int fw)])) t := by
      intro t kt
      refine XS.icmpNo X127.here hx rfl (hb hby d17_128) rfl (flt c130).1 ?_
      show Steps p.tables e below (T127.setTop (mkF m 131 #[.val (.int fw), .val (.ref b73)] [])) t
      refine X127.ldc2Long hx hown (mvT hZ (hw _ (List.mem_of_getElem? (i := 44) rfl))) (g := (mkF m 131 #[.val (.int fw), .val (.ref b73)] [])) rfl (hb hby d17_131) _ ?_
      exact kt
    obtain ⟨fs_, hr, hrun, hended, hW, hsame⟩ := X127.leave (v := some (.long (9223372036854775807 : Int64))) (fun h => by rw [Bd.returns] at h; cases h)
    refine ⟨_, _, pre0 _ (s72 _ (st73 _ (s75 _ (st76 _ (s78 _ (st79 _ (s81 _ (st82 _ (s84 _ (st85 _ (s87 _ (st88 _ (s90 _ (st91 _ (s93 _ (st94 _ (s96 _ (st97 _ (s99 _ (st100 _ (s102 _ (st103 _ (s105 _ (st106 _ (s108 _ (st109 _ (s111 _ (st112 _ (s114 _ (st115 _ (s117 _ (st118 _ (s120 _ (st121 _ (s123 _ (st124 _ (s126 _ (st127 _ (s129 _ (s133 _ (?_))))))))))))))))))))))))))))))))))))))))), hrun, hended, _, _, rfl, ?_, ⟨_, rfl⟩, hW, hsame.mono (by decide) (by decide)⟩
    · show Steps p.tables e below (T127.setTop (mkF m 134 #[.val (.int fw), .val (.ref b73)] [(.long (9223372036854775807 : Int64))])) _
      exact X127.lreturnOut hx Bd.returns (hb hby d17_134) hr
    · show Q17 Z fw h0 n0 _ T127.heap _
      rw [e127]
      exact ⟨by simp only [fnines, if_neg c130], N127, K127⟩
theorem own_width (x fw : Int32) (h : fw = ((1 : Int32) + ((x &&& (2147483647 : Int32)) % (19 : Int32)))) : 1 ≤ fw.toInt ∧ fw.toInt ≤ 19 := by
  have hk : (x &&& (2147483647 : Int32)).toInt = x.toInt % 2 ^ 31 := Jvm.Kit.i32_mask x 2147483647 (k := 31) (by decide) (by decide)
  have hm : ((x &&& (2147483647 : Int32)) % (19 : Int32)).toInt = (x.toInt % 2 ^ 31) % 19 := by rw [Jvm.Kit.i32_rem_nonneg (by omega), hk]; rfl
  have k1 : (1 : Int32).toInt = 1 := by decide
  rw [h, Jvm.Kit.i32_add (by rw [k1]; omega) (by rw [k1]; omega), k1]; omega
theorem own_fin1 (fr : Int32) (l : Int64) (h : ¬ fr = (0 : Int32)) : (fmax fr l) = (9223372036854775807 : Int64) := if_neg h
theorem own_fin0 (fr fw : Int32) (h : fr = (0 : Int32)) (h1 : 1 ≤ fw.toInt) (h19 : fw.toInt ≤ 19) : (fmax fr (if fw < (19 : Int32) then (own_p10 fw.toInt.toNat (1 : Int64)) - (1 : Int64) else (9223372036854775807 : Int64))) = (fnines fw) := by
  rw [show ∀ l, fmax fr l = l from fun l => if_pos h]
  show _ = (if fw < (19 : Int32) then own_tab (fw - (1 : Int32)).toInt.toNat else (9223372036854775807 : Int64))
  by_cases q : fw < (19 : Int32)
  · rw [if_pos q, if_pos q]
    have q' : fw.toInt < 19 := Int32.lt_iff_toInt_lt.mp q
    have r : (fw - (1 : Int32)).toInt = fw.toInt - 1 := by rw [Int32.toInt_sub]; show (fw.toInt - 1).bmod (2 ^ 32) = _; rw [Int.bmod_def]; omega
    have e : ∃ k : Nat, k < 18 ∧ fw.toInt = k + 1 := ⟨(fw.toInt - 1).toNat, by omega, by omega⟩
    obtain ⟨k, hk, e⟩ := e
    have a1 : fw.toInt.toNat = k + 1 := by omega
    have a2 : (fw - (1 : Int32)).toInt.toNat = k := by omega
    rw [a1, a2]
    have all : ∀ k, k < 18 → own_p10 (k + 1) (1 : Int64) - (1 : Int64) = own_tab k := by decide +kernel
    exact all k hk
  · rw [if_neg q, if_neg q]

def Q0 (Z : State) (xw xf : Int32) (h0 : Heap) (n0 : Nat) (v : Option Value) (h : Heap) (L : List Loc) : Prop := v = some (.int 1) ∧ Fr n0 L
set_option maxRecDepth 65536 in
set_option maxHeartbeats 40000000 in
theorem rm0 (l : Launch) (Z : State) (a0 : Array Value) (hw : ∀ d ∈ tables_1, d.before a0 Z = true) (ws : List Jvm.Cond) (xw xf : Int32) (h0 : Heap) (n0 : Nat) (Z0 : n0 ≤ h0.size) (hcw : Jvm.Lit.compactW.before a0 Z = true) (hheld : Jvm.Lit.constHeld Z "com/example/rowkey_modeler/rowkeymodeler/DecimalFieldMaxPinLaw" 50) (hn0 : n0 = Z.heap.size) :
    MetFree l x (head1 (Jvm.Cond.code x code maxLocals ret :: ws) room_1) (fun a U => a = #[(.int xw), (.int xf)] ∧ Z.Warmed39 U.vm ∧ U.heap = h0 ∧ U = Z) (fun _ _ _ _ _ => True) (fun _ U o U' => ∃ v L, o = .returned v ∧ Q0 Z xw xf h0 n0 v U'.heap L ∧ ReturnedEndW U o U' L room_1.cells room_1.slots) := by
  refine MetFree.of_bodySF (plainFor_of_name pn_com_example_rowkey_modeler_rowkeymodeler_DecimalFieldMaxPinLaw) hisR ?_
  intro p e s m args0 below meth c s₁ Bd hml0 hP hK
  obtain ⟨rfl, hZ, hh, hUZ⟩ := hP
  have hx := Bd.exec
  have hby := Bd.bytes
  have hml : c.maxLocals = 7 := hml0
  have hown : s.vm.findClass "com/example/rowkey_modeler/rowkeymodeler/DecimalFieldMaxPinLaw" = some m.cls := findClass_of_methodNamed Bd.named
  have hnm := (name_of_methodNamed Bd.named Bd.method).1
  have X0 : Stand p l e room_1 s m #[(.int xw), (.int xf)] below meth c s₁ [] 0 0 := Stand.of_body Bd
  have e0 : s₁.heap = h0 := by rw [← hh, Bd.state]; rfl
  have N0 := Fr.nil n0
  have pre0 : ∀ t, Steps p.tables e below (s₁.setTop (mkF m 0 #[.val (.int xw), .val (.int xf), .unset, .unset, .unset, .unset, .unset] [])) t → Steps p.tables e below (s₁.setTop (entryFrame m #[(.int xw), (.int xf)] maxLocals)) t := fun t kk_ => castTop (ef_0 m xw xf) kk_
  have hwS : ∀ a ∈ Bundle.stringAtoms, a.before a0 Z = true := (List.forall_mem_cons.mpr ⟨(hw _ (List.mem_of_getElem? (i := 5) rfl)), (List.forall_mem_cons.mpr ⟨(hw _ (List.mem_of_getElem? (i := 6) rfl)), (List.forall_mem_cons.mpr ⟨(hw _ (List.mem_of_getElem? (i := 7) rfl)), (List.forall_mem_cons.mpr ⟨(hw _ (List.mem_of_getElem? (i := 8) rfl)), (List.forall_mem_cons.mpr ⟨(hw _ (List.mem_of_getElem? (i := 9) rfl)), (List.forall_mem_cons.mpr ⟨(hw _ (List.mem_of_getElem? (i := 10) rfl)), (List.forall_mem_cons.mpr ⟨(hw _ (List.mem_of_getElem? (i := 11) rfl)), (fun _ q => nomatch q)⟩)⟩)⟩)⟩)⟩)⟩)⟩)
  have hSs : ∀ n, s.Since s.vm n := fun n => (State.WarmedH.refl s).since n
  have s134 : ∀ t, Steps p.tables e below (s₁.setTop (mkF m 13 #[.val (.int xw), .val (.int xf), .val (.int ((1 : Int32) + ((xw &&& (2147483647 : Int32)) % (19 : Int32)))), .unset, .unset, .unset, .unset] [(.int (xf &&& (1 : Int32)))])) t → Steps p.tables e below (s₁.setTop (mkF m 0 #[.val (.int xw), .val (.int xf), .unset, .unset, .unset, .unset, .unset] [])) t := by
    intro t kt
    refine XS.iconst X0.here hx rfl (hb hby at_0) ?_
    show Steps p.tables e below (s₁.setTop (mkF m 1 #[.val (.int xw), .val (.int xf), .unset, .unset, .unset, .unset, .unset] [(.int (1 : Int32))])) t
    refine XS.iloadN X0.here hx rfl (hb hby at_1) rfl ?_
    show Steps p.tables e below (s₁.setTop (mkF m 2 #[.val (.int xw), .val (.int xf), .unset, .unset, .unset, .unset, .unset] [(.int xw), (.int (1 : Int32))])) t
    refine X0.ldcInt hx hown (mvT hZ (hw _ (List.mem_of_getElem? (i := 0) rfl))) (g := (mkF m 2 #[.val (.int xw), .val (.int xf), .unset, .unset, .unset, .unset, .unset] [(.int xw), (.int (1 : Int32))])) rfl (hb hby at_2) _ ?_
    show Steps p.tables e below (s₁.setTop (mkF m 4 #[.val (.int xw), .val (.int xf), .unset, .unset, .unset, .unset, .unset] [(.int (2147483647 : Int32)), (.int xw), (.int (1 : Int32))])) t
    refine XS.iand X0.here hx rfl (hb hby at_4) rfl ?_
    show Steps p.tables e below (s₁.setTop (mkF m 5 #[.val (.int xw), .val (.int xf), .unset, .unset, .unset, .unset, .unset] [(.int (xw &&& (2147483647 : Int32))), (.int (1 : Int32))])) t
    refine XS.bipush X0.here hx rfl (hb hby at_5) ?_
    show Steps p.tables e below (s₁.setTop (mkF m 7 #[.val (.int xw), .val (.int xf), .unset, .unset, .unset, .unset, .unset] [(.int (19 : Int32)), (.int (xw &&& (2147483647 : Int32))), (.int (1 : Int32))])) t
    refine Jvm.RoadKit.iremM X0 hx rfl (hb hby at_7) rfl (by decide) ?_
    show Steps p.tables e below (s₁.setTop (mkF m 8 #[.val (.int xw), .val (.int xf), .unset, .unset, .unset, .unset, .unset] [(.int ((xw &&& (2147483647 : Int32)) % (19 : Int32))), (.int (1 : Int32))])) t
    refine XS.iadd X0.here hx rfl (hb hby at_8) rfl ?_
    show Steps p.tables e below (s₁.setTop (mkF m 9 #[.val (.int xw), .val (.int xf), .unset, .unset, .unset, .unset, .unset] [(.int ((1 : Int32) + ((xw &&& (2147483647 : Int32)) % (19 : Int32))))])) t
    refine XS.istoreN X0.here hx rfl (hb hby at_9) rfl (l' := #[.val (.int xw), .val (.int xf), .val (.int ((1 : Int32) + ((xw &&& (2147483647 : Int32)) % (19 : Int32)))), .unset, .unset, .unset, .unset]) rfl ?_
    show Steps p.tables e below (s₁.setTop (mkF m 10 #[.val (.int xw), .val (.int xf), .val (.int ((1 : Int32) + ((xw &&& (2147483647 : Int32)) % (19 : Int32)))), .unset, .unset, .unset, .unset] [])) t
    refine XS.iloadN X0.here hx rfl (hb hby at_10) rfl ?_
    show Steps p.tables e below (s₁.setTop (mkF m 11 #[.val (.int xw), .val (.int xf), .val (.int ((1 : Int32) + ((xw &&& (2147483647 : Int32)) % (19 : Int32)))), .unset, .unset, .unset, .unset] [(.int xf)])) t
    refine XS.iconst X0.here hx rfl (hb hby at_11) ?_
    show Steps p.tables e below (s₁.setTop (mkF m 12 #[.val (.int xw), .val (.int xf), .val (.int ((1 : Int32) + ((xw &&& (2147483647 : Int32)) % (19 : Int32)))), .unset, .unset, .unset, .unset] [(.int (1 : Int32)), (.int xf)])) t
    refine XS.iand X0.here hx rfl (hb hby at_12) rfl ?_
    exact kt
  obtain ⟨w138, hw138, j144⟩ : ∃ (w138 : Int32), w138 = (if (xf &&& (1 : Int32)) = (0 : Int32) then (0 : Int32) else (1 : Int32)) ∧ ∀ t, Steps p.tables e below (s₁.setTop (mkF m 21 #[.val (.int xw), .val (.int xf), .val (.int ((1 : Int32) + ((xw &&& (2147483647 : Int32)) % (19 : Int32)))), .unset, .unset, .unset, .unset] [(.int w138)])) t → Steps p.tables e below (s₁.setTop (mkF m 13 #[.val (.int xw), .val (.int xf), .val (.int ((1 : Int32) + ((xw &&& (2147483647 : Int32)) % (19 : Int32)))), .unset, .unset, .unset, .unset] [(.int (xf &&& (1 : Int32)))])) t := by
    by_cases c135 : (xf &&& (1 : Int32)) = (0 : Int32)
    ·
      have s136 : ∀ t, Steps p.tables e below (s₁.setTop (mkF m 21 #[.val (.int xw), .val (.int xf), .val (.int ((1 : Int32) + ((xw &&& (2147483647 : Int32)) % (19 : Int32)))), .unset, .unset, .unset, .unset] [(.int (0 : Int32))])) t → Steps p.tables e below (s₁.setTop (mkF m 13 #[.val (.int xw), .val (.int xf), .val (.int ((1 : Int32) + ((xw &&& (2147483647 : Int32)) % (19 : Int32)))), .unset, .unset, .unset, .unset] [(.int (xf &&& (1 : Int32)))])) t := by
        intro t kt
        refine XS.ifYes X0.here hx rfl (pc0 := 13) (pc' := 20) rfl (hb hby at_13) rfl ((if0 _ _).trans (teq c135).1) (by decide) (by decide) ?_
        show Steps p.tables e below (s₁.setTop (mkF m 20 #[.val (.int xw), .val (.int xf), .val (.int ((1 : Int32) + ((xw &&& (2147483647 : Int32)) % (19 : Int32)))), .unset, .unset, .unset, .unset] [])) t
        refine XS.iconst X0.here hx rfl (hb hby at_20) ?_
        exact kt
      exact ⟨(0 : Int32), (if_pos c135).symm, fun t kt => s136 _ (kt)⟩
    ·
      have s137 : ∀ t, Steps p.tables e below (s₁.setTop (mkF m 21 #[.val (.int xw), .val (.int xf), .val (.int ((1 : Int32) + ((xw &&& (2147483647 : Int32)) % (19 : Int32)))), .unset, .unset, .unset, .unset] [(.int (1 : Int32))])) t → Steps p.tables e below (s₁.setTop (mkF m 13 #[.val (.int xw), .val (.int xf), .val (.int ((1 : Int32) + ((xw &&& (2147483647 : Int32)) % (19 : Int32)))), .unset, .unset, .unset, .unset] [(.int (xf &&& (1 : Int32)))])) t := by
        intro t kt
        refine XS.ifNo X0.here hx rfl (hb hby at_13) rfl ((if0 _ _).trans (feq c135).1) ?_
        show Steps p.tables e below (s₁.setTop (mkF m 16 #[.val (.int xw), .val (.int xf), .val (.int ((1 : Int32) + ((xw &&& (2147483647 : Int32)) % (19 : Int32)))), .unset, .unset, .unset, .unset] [])) t
        refine XS.iconst X0.here hx rfl (hb hby at_16) ?_
        show Steps p.tables e below (s₁.setTop (mkF m 17 #[.val (.int xw), .val (.int xf), .val (.int ((1 : Int32) + ((xw &&& (2147483647 : Int32)) % (19 : Int32)))), .unset, .unset, .unset, .unset] [(.int (1 : Int32))])) t
        refine XS.goto X0.here hx rfl (pc0 := 17) (pc' := 21) rfl (hb hby at_17) (by decide) (by decide) ?_
        exact kt
      exact ⟨(1 : Int32), (if_neg c135).symm, fun t kt => s137 _ (kt)⟩
  have s145 : ∀ t, Steps p.tables e below (s₁.setTop (mkF m 22 #[.val (.int xw), .val (.int xf), .val (.int ((1 : Int32) + ((xw &&& (2147483647 : Int32)) % (19 : Int32)))), .val (.int w138), .unset, .unset, .unset] [])) t → Steps p.tables e below (s₁.setTop (mkF m 21 #[.val (.int xw), .val (.int xf), .val (.int ((1 : Int32) + ((xw &&& (2147483647 : Int32)) % (19 : Int32)))), .unset, .unset, .unset, .unset] [(.int w138)])) t := by
    intro t kt
    refine XS.istoreN X0.here hx rfl (hb hby at_21) rfl (l' := #[.val (.int xw), .val (.int xf), .val (.int ((1 : Int32) + ((xw &&& (2147483647 : Int32)) % (19 : Int32)))), .val (.int w138), .unset, .unset, .unset]) rfl ?_
    exact kt
  have hfr : w138 = 0 ∨ w138 = 1 := by rw [hw138]; split; exact Or.inl rfl; exact Or.inr rfl
  obtain ⟨fw, hfw⟩ : ∃ z : Int32, z = ((1 : Int32) + ((xw &&& (2147483647 : Int32)) % (19 : Int32))) := ⟨_, rfl⟩
  have s146 : ∀ t, Steps p.tables e below (s₁.setTop (mkF m 22 #[.val (.int xw), .val (.int xf), .val (.int fw), .val (.int w138), .unset, .unset, .unset] [])) t → Steps p.tables e below (s₁.setTop (mkF m 22 #[.val (.int xw), .val (.int xf), .val (.int ((1 : Int32) + ((xw &&& (2147483647 : Int32)) % (19 : Int32)))), .val (.int w138), .unset, .unset, .unset] [])) t := fun t kt => by subst hfw; exact kt
  have hw19 : 1 ≤ fw.toInt ∧ fw.toInt ≤ 19 := own_width xw fw hfw
  obtain ⟨hw1, hw19⟩ := hw19
  obtain ⟨T147, h147, X147, e147, E147, A147, D147, -, st147⟩ := newO X0 hx hZ hown (hw _ (List.mem_of_getElem? (i := 1) rfl)) (hw _ (List.mem_of_getElem? (i := 2) rfl)) (hw _ (List.mem_of_getElem? (i := 3) rfl)) e0 (g := (mkF m 22 #[.val (.int xw), .val (.int xf), .val (.int fw), .val (.int w138), .unset, .unset, .unset] [])) rfl (hb hby at_22) (by decide) (by decide)
  obtain ⟨b147, g147⟩ : ∃ z, z = h0.size := ⟨_, rfl⟩
  rw [← g147] at A147 D147 st147
  have gn147 : n0 ≤ b147 := Nat.le_trans Z0 (Nat.le_of_eq g147.symm)
  have Zs147 : n0 ≤ h147.size := Nat.le_trans Z0 E147.1
  have fF148 : Fld Z h147 b147 "com/example/rowkey_modeler/rowkeymodeler/KeyField" "name" "Ljava/lang/String;" .null := D147 (Or.inr (hw _ (List.mem_of_getElem? (i := 35) rfl))) (ty := (.object "java/lang/String")) (by decide)
  have fF149 : Fld Z h147 b147 "com/example/rowkey_modeler/rowkeymodeler/NumberField" "reverse" "Z" (.int (0 : Int32)) := D147 (Or.inr (hw _ (List.mem_of_getElem? (i := 37) rfl))) (ty := .boolean) (by decide)
  have fF150 : Fld Z h147 b147 "com/example/rowkey_modeler/rowkeymodeler/DecimalField" "width" "I" (.int (0 : Int32)) := D147 (Or.inr (hw _ (List.mem_of_getElem? (i := 39) rfl))) (ty := .int) (by decide)
  have fF151 : Fld Z h147 b147 "com/example/rowkey_modeler/rowkeymodeler/DecimalField" "largestWritten" "J" (.long (0 : Int64)) := D147 (Or.inr (hw _ (List.mem_of_getElem? (i := 43) rfl))) (ty := .long) (by decide)
  have s152 : ∀ t, Steps p.tables e below (T147.setTop (mkF m 26 #[.val (.int xw), .val (.int xf), .val (.int fw), .val (.int w138), .unset, .unset, .unset] [(.ref b147), (.ref b147)])) t → Steps p.tables e below (T147.setTop (mkF m 25 #[.val (.int xw), .val (.int xf), .val (.int fw), .val (.int w138), .unset, .unset, .unset] [(.ref b147)])) t := by
    intro t kt
    refine XS.dup X147.here hx rfl (hb hby at_25) rfl rfl ?_
    exact kt
  obtain ⟨sa153, T153, h153, k153, sb153, kc153, X153, e153, E153, hS153, hk153, hZ153, hown153, Es153, Fc153, Fv153, Va153, la153, lb153, I153, st153⟩ := ldcSV (s := s) (vm0 := s.vm) X147 hx hZ hown (hw _ (List.mem_of_getElem? (i := 4) rfl)) hwS e147 (k0 := h147.size) (hSs h147.size) (Nat.le_refl _) (by rw [hUZ, ← hn0]; exact N0) (by rw [hUZ]; exact fun _ _ q => q) (by rw [hUZ]; exact IB.start) (by decide) hheld hcw (vs := [.int 102]) (z := (1 : Int32)) (by decide) (by decide) (by decide) (g := (mkF m 26 #[.val (.int xw), .val (.int xf), .val (.int fw), .val (.int w138), .unset, .unset, .unset] [(.ref b147), (.ref b147)])) rfl (hb hby at_26) (n := 4) (by decide) (by decide) (by decide) (by decide)
  have Zs153 : n0 ≤ h153.size := Nat.le_trans Zs147 E153.1
  have fE154 := A147.ext E153
  have fF155 := fF148.ext E153
  have fF156 := fF149.ext E153
  have fF157 := fF150.ext E153
  have fF158 := fF151.ext E153
  have fV159 := OwnKit.arv_ar Va153
  have neS := ne_exa fE154 Es153 (by decide)
  have neB : b147 ≠ sb153 := by obtain ⟨cB, AB, -⟩ := fV159; exact ne_arr fE154 (hw _ (List.mem_of_getElem? (i := 2) rfl)) AB
  have s160 : ∀ t, Steps p.tables e below (T153.setTop (mkF m 30 #[.val (.int xw), .val (.int xf), .val (.int fw), .val (.int w138), .unset, .unset, .unset] [(.int w138), (.int fw), (.ref sa153), (.ref b147), (.ref b147)])) t → Steps p.tables e below (T153.setTop (mkF m 28 #[.val (.int xw), .val (.int xf), .val (.int fw), .val (.int w138), .unset, .unset, .unset] [(.ref sa153), (.ref b147), (.ref b147)])) t := by
    intro t kt
    refine XS.iloadN X153.here hx rfl (hb hby at_28) rfl ?_
    show Steps p.tables e below (T153.setTop (mkF m 29 #[.val (.int xw), .val (.int xf), .val (.int fw), .val (.int w138), .unset, .unset, .unset] [(.int fw), (.ref sa153), (.ref b147), (.ref b147)])) t
    refine XS.iloadN X153.here hx rfl (hb hby at_29) rfl ?_
    exact kt
  obtain ⟨_, _, ⟨T161, L161, k161, n161⟩, -, X161, ⟨Lc161, hQ161, l161, y161, z161⟩, st161⟩ := X153.specialBack hx (y := (⟨"com/example/rowkey_modeler/rowkeymodeler/DecimalField", "<init>", "(Ljava/lang/String;IZ)V"⟩ : MethodName)) rfl hown153 (mvT hZ153 (hw _ (List.mem_of_getElem? (i := 12) rfl))) (mvT hZ153 (hw _ (List.mem_of_getElem? (i := 13) rfl))) (mvT hZ153 (hw _ (List.mem_of_getElem? (i := 14) rfl))) (by decide) (backOf (W := 1) (rm14 l Z a0 hw [] b147 sa153 sb153 _ fw w138 h153 n0 Zs153 fE154 fF155 fF156 fF157 fF158 gn147 Es153 Fv153 fV159 hfr hw1 hw19) hZ153 (hw _ (List.mem_of_getElem? (i := 14) rfl)) (hw _ (List.mem_of_getElem? (i := 3) rfl)) (by decide) (by decide)) (g := (mkF m 30 #[.val (.int xw), .val (.int xf), .val (.int fw), .val (.int w138), .unset, .unset, .unset] [(.int w138), (.int fw), (.ref sa153), (.ref b147), (.ref b147)])) rfl (by rw [hml]; rfl) (Steps.refl _) (a := b147) (argsL := [(.ref sa153), (.int fw), (.int w138)]) (rest := [(.ref b147)]) (lenOf pd_oLjava_lang_StringsIZcV rfl) rfl (by show 2 * 0 + _ ≤ _; exact Nat.le_of_eq rfl) (hb hby at_30) (fun _ _ => ⟨rfl, e153, (by decide : 3 + 0 ≤ _), (by decide : 12 + 0 ≤ _)⟩)
  dsimp only [Pt.U, Pt.locs, Pt.cells, Pt.slots] at X161 l161 y161 z161 st161 hQ161
  subst l161 y161 z161
  obtain ⟨rfl, N161q, Kc161, fE162, fF163, fF164, fF165⟩ := hQ161
  have N161 := Fr.app N0 N161q
  have Zs161 : n0 ≤ T161.heap.size := Nat.le_trans Zs153 Kc161.1
  have fE166 := Es153.keep Kc161
  have fF167 := Fv153.keep Kc161 (ninS (Ne.symm neS) nin0)
  have fV168 := fV159.keep Kc161 (ninS (Ne.symm neB) nin0)
  have K161 : Keep h153 T161.heap [b147] := (Keep.refl h153 [b147]).trans Kc161 (allS (Or.inl (List.mem_of_getElem? (i := 0) rfl)) all0)
  have s169 : ∀ t, Steps p.tables e below (T161.setTop (mkF m 36 #[.val (.int xw), .val (.int xf), .val (.int fw), .val (.int w138), .val (.ref b147), .unset, .unset] [(.int w138)])) t → Steps p.tables e below (T161.setTop (mkF m 33 #[.val (.int xw), .val (.int xf), .val (.int fw), .val (.int w138), .unset, .unset, .unset] [(.ref b147)])) t := by
    intro t kt
    refine XS.astore X161.here hx rfl (hb hby at_33) rfl rfl (l' := #[.val (.int xw), .val (.int xf), .val (.int fw), .val (.int w138), .val (.ref b147), .unset, .unset]) rfl ?_
    show Steps p.tables e below (T161.setTop (mkF m 35 #[.val (.int xw), .val (.int xf), .val (.int fw), .val (.int w138), .val (.ref b147), .unset, .unset] [])) t
    refine XS.iloadN X161.here hx rfl (hb hby at_35) rfl ?_
    exact kt
  by_cases c170 : w138 = (0 : Int32)
  ·
    have s171 : ∀ t, Steps p.tables e below (T161.setTop (mkF m 46 #[.val (.int xw), .val (.int xf), .val (.int fw), .val (.int w138), .val (.ref b147), .unset, .unset] [(.int fw)])) t → Steps p.tables e below (T161.setTop (mkF m 36 #[.val (.int xw), .val (.int xf), .val (.int fw), .val (.int w138), .val (.ref b147), .unset, .unset] [(.int w138)])) t := by
      intro t kt
      refine XS.ifYes X161.here hx rfl (pc0 := 36) (pc' := 45) rfl (hb hby at_36) rfl ((if0 _ _).trans (teq c170).1) (by decide) (by decide) ?_
      show Steps p.tables e below (T161.setTop (mkF m 45 #[.val (.int xw), .val (.int xf), .val (.int fw), .val (.int w138), .val (.ref b147), .unset, .unset] [])) t
      refine XS.iloadN X161.here hx rfl (hb hby at_45) rfl ?_
      exact kt
    obtain ⟨_, _, ⟨T172, L172, k172, n172⟩, -, X172, ⟨Lc172, hQ172, l172, y172, z172⟩, st172⟩ := Jvm.LawKit.callS X161 hx (y := (⟨"com/example/rowkey_modeler/rowkeymodeler/DecimalFieldMaxPinLaw", "nines", "(I)J"⟩ : MethodName)) hown153 (mvT hZ153 (hw _ (List.mem_of_getElem? (i := 56) rfl))) (mvT hZ153 (hw _ (List.mem_of_getElem? (i := 57) rfl))) (mvT hZ153 (hw _ (List.mem_of_getElem? (i := 58) rfl))) (mvT hZ153 (hw _ (List.mem_of_getElem? (i := 59) rfl))) (by decide) (backOf (W := 0) (rm17 l Z a0 hw [] fw T161.heap n0 Zs161 hw1 hw19) hZ153 (hw _ (List.mem_of_getElem? (i := 59) rfl)) (hw _ (List.mem_of_getElem? (i := 58) rfl)) (by decide) (by decide)) (g := (mkF m 46 #[.val (.int xw), .val (.int xf), .val (.int fw), .val (.int w138), .val (.ref b147), .unset, .unset] [(.int fw)])) rfl (by rw [hml]; rfl) (argsL := [(.int fw)]) (rest := []) (lenOf pd_oIcJ rfl) rfl (by show 2 * 0 + _ ≤ _; exact Nat.le_of_eq rfl) (hb hby at_46) (fun _ _ => ⟨rfl, rfl, (by decide : 3 + 1 ≤ _), (by decide : 12 + 18 ≤ _)⟩)
    dsimp only [Pt.U, Pt.locs, Pt.cells, Pt.slots] at X172 l172 y172 z172 st172 hQ172
    subst l172 y172 z172
    obtain ⟨rfl, N172q, Kc172⟩ := hQ172
    have N172 := Fr.app N161 N172q
    have Zs172 : n0 ≤ T172.heap.size := Nat.le_trans Zs161 Kc172.1
    have fE173 := fE166.keep Kc172
    have fF174 := fF167.keep Kc172 nin0
    have fV175 := fV168.keep Kc172 nin0
    have fE176 := fE162.keep Kc172
    have fF177 := fF163.keep Kc172 nin0
    have fF178 := fF164.keep Kc172 nin0
    have fF179 := fF165.keep Kc172 nin0
    have K172 : Keep h153 T172.heap [b147] := K161.trans Kc172 all0
    have s180 : ∀ t, Steps p.tables e below (T172.setTop (mkF m 53 #[.val (.int xw), .val (.int xf), .val (.int fw), .val (.int w138), .val (.ref b147), .val (.long (fnines fw)), .second] [(.ref b147)])) t → Steps p.tables e below (T172.setTop (mkF m 49 #[.val (.int xw), .val (.int xf), .val (.int fw), .val (.int w138), .val (.ref b147), .unset, .unset] [(.long (fnines fw))])) t := by
      intro t kt
      refine XS.lstore X172.here hx rfl (hb hby at_49) rfl (l' := #[.val (.int xw), .val (.int xf), .val (.int fw), .val (.int w138), .val (.ref b147), .val (.long (fnines fw)), .second]) rfl ?_
      show Steps p.tables e below (T172.setTop (mkF m 51 #[.val (.int xw), .val (.int xf), .val (.int fw), .val (.int w138), .val (.ref b147), .val (.long (fnines fw)), .second] [])) t
      refine XS.aload X172.here hx rfl (hb hby at_51) rfl rfl ?_
      exact kt
    obtain ⟨cq181, kq181, qa181, qb181, qc181⟩ := isOf hZ153 rfl fE176
    obtain ⟨_, _, ⟨T181, L181, k181, n181⟩, -, X181, ⟨Lc181, hQ181, l181, y181, z181⟩, st181⟩ := X172.virtualBack hx (y := (⟨"com/example/rowkey_modeler/rowkeymodeler/DecimalField", "max", "()J"⟩ : MethodName)) (z := (⟨"com/example/rowkey_modeler/rowkeymodeler/DecimalField", "max", "()J"⟩ : MethodName)) hown153 (mvT hZ153 (hw _ (List.mem_of_getElem? (i := 45) rfl))) (mvT hZ153 (hw _ (List.mem_of_getElem? (i := 46) rfl))) (notFace_of_selects (args := #[]) (mvT hZ153 (hw _ (List.mem_of_getElem? (i := 48) rfl)))) (mvT hZ153 (hw _ (List.mem_of_getElem? (i := 48) rfl))) (mvT hZ153 (hw _ (List.mem_of_getElem? (i := 47) rfl))) (by decide) (backOf (W := 0) (rm16 l Z a0 hw [] b147 w138 (if fw < (19 : Int32) then (own_p10 fw.toInt.toNat (1 : Int64)) - (1 : Int64) else (9223372036854775807 : Int64)) T172.heap n0 Zs172 fE176 fF177 fF179 hfr) hZ153 (hw _ (List.mem_of_getElem? (i := 49) rfl)) (hw _ (List.mem_of_getElem? (i := 3) rfl)) (by decide) (by decide)) qa181 qc181 (g := (mkF m 53 #[.val (.int xw), .val (.int xf), .val (.int fw), .val (.int w138), .val (.ref b147), .val (.long (fnines fw)), .second] [(.ref b147)])) rfl (by rw [hml]; rfl) (Steps.refl _) (argsL := []) (rest := []) (lenOf pd_ocJ rfl) rfl (by show 2 * 0 + _ ≤ _; exact Nat.le_of_eq rfl) (hb hby at_53) (fun _ _ => ⟨rfl, rfl, (by decide : 4 + 0 ≤ _), (by decide : 30 + 0 ≤ _)⟩)
    dsimp only [Pt.U, Pt.locs, Pt.cells, Pt.slots] at X181 l181 y181 z181 st181 hQ181
    subst l181 y181 z181
    obtain ⟨rfl, N181q, e181q⟩ := hQ181
    have N181 := Fr.app N172 N181q
    have s182 : ∀ t, Steps p.tables e below (T181.setTop (mkF m 59 #[.val (.int xw), .val (.int xf), .val (.int fw), .val (.int w138), .val (.ref b147), .val (.long (fnines fw)), .second] [(.int (lcmpW (fmax w138 (if fw < (19 : Int32) then (own_p10 fw.toInt.toNat (1 : Int64)) - (1 : Int64) else (9223372036854775807 : Int64))) (fnines fw)))])) t → Steps p.tables e below (T181.setTop (mkF m 56 #[.val (.int xw), .val (.int xf), .val (.int fw), .val (.int w138), .val (.ref b147), .val (.long (fnines fw)), .second] [(.long (fmax w138 (if fw < (19 : Int32) then (own_p10 fw.toInt.toNat (1 : Int64)) - (1 : Int64) else (9223372036854775807 : Int64))))])) t := by
      intro t kt
      refine XS.lload X181.here hx rfl (hb hby at_56) rfl ?_
      show Steps p.tables e below (T181.setTop (mkF m 58 #[.val (.int xw), .val (.int xf), .val (.int fw), .val (.int w138), .val (.ref b147), .val (.long (fnines fw)), .second] [(.long (fnines fw)), (.long (fmax w138 (if fw < (19 : Int32) then (own_p10 fw.toInt.toNat (1 : Int64)) - (1 : Int64) else (9223372036854775807 : Int64))))])) t
      refine XS.lcmp X181.here hx rfl (hb hby at_58) rfl ?_
      exact kt
    have hfin : (fmax w138 (if fw < (19 : Int32) then (own_p10 fw.toInt.toNat (1 : Int64)) - (1 : Int64) else (9223372036854775807 : Int64))) = (fnines fw) := own_fin0 _ _ c170 hw1 hw19
    have s183 : ∀ t, Steps p.tables e below (T181.setTop (mkF m 67 #[.val (.int xw), .val (.int xf), .val (.int fw), .val (.int w138), .val (.ref b147), .val (.long (fnines fw)), .second] [(.int (1 : Int32))])) t → Steps p.tables e below (T181.setTop (mkF m 59 #[.val (.int xw), .val (.int xf), .val (.int fw), .val (.int w138), .val (.ref b147), .val (.long (fnines fw)), .second] [(.int (lcmpW (fmax w138 (if fw < (19 : Int32) then (own_p10 fw.toInt.toNat (1 : Int64)) - (1 : Int64) else (9223372036854775807 : Int64))) (fnines fw)))])) t := by
      intro t kt
      refine XS.ifNo X181.here hx rfl (hb hby at_59) rfl ((if0 _ _).trans (teq ((lw_eq _ _).mpr hfin)).2) ?_
      show Steps p.tables e below (T181.setTop (mkF m 62 #[.val (.int xw), .val (.int xf), .val (.int fw), .val (.int w138), .val (.ref b147), .val (.long (fnines fw)), .second] [])) t
      refine XS.iconst X181.here hx rfl (hb hby at_62) ?_
      show Steps p.tables e below (T181.setTop (mkF m 63 #[.val (.int xw), .val (.int xf), .val (.int fw), .val (.int w138), .val (.ref b147), .val (.long (fnines fw)), .second] [(.int (1 : Int32))])) t
      refine XS.goto X181.here hx rfl (pc0 := 63) (pc' := 67) rfl (hb hby at_63) (by decide) (by decide) ?_
      exact kt
    obtain ⟨fs_, hr, hrun, hended, hRW⟩ := X181.leaveW hS153 (by rw [e181q]; exact Nat.le_trans hk153 K172.1) (v := some (.int (1 : Int32))) (fun h => by rw [Bd.returns] at h; cases h)
    refine ⟨_, _, pre0 _ (s134 _ (j144 _ (s145 _ (s146 _ (st147 _ (s152 _ (st153 _ (s160 _ (st161.trans (s169 _ (s171 _ (st172 _ (s180 _ (st181.trans (s182 _ (s183 _ (?_))))))))))))))))), hrun, hended, _, _, rfl, ?_, ⟨hRW.1, hRW.2.1, hRW.2.2.1, hRW.2.2.2.mono (by decide) (by decide)⟩⟩
    · show Steps p.tables e below (T181.setTop (mkF m 67 #[.val (.int xw), .val (.int xf), .val (.int fw), .val (.int w138), .val (.ref b147), .val (.long (fnines fw)), .second] [(.int (1 : Int32))])) _
      exact retN X181 hx (t := .boolean) Bd.returns (by simp) (hb hby at_67) hr
    · show Q0 Z xw xf h0 n0 _ T181.heap _
      rw [e181q]
      exact ⟨rfl, N181⟩
  ·
    have s184 : ∀ t, Steps p.tables e below (T161.setTop (mkF m 53 #[.val (.int xw), .val (.int xf), .val (.int fw), .val (.int w138), .val (.ref b147), .val (.long (9223372036854775807 : Int64)), .second] [(.ref b147)])) t → Steps p.tables e below (T161.setTop (mkF m 36 #[.val (.int xw), .val (.int xf), .val (.int fw), .val (.int w138), .val (.ref b147), .unset, .unset] [(.int w138)])) t := by
      intro t kt
      refine XS.ifNo X161.here hx rfl (hb hby at_36) rfl ((if0 _ _).trans (feq c170).1) ?_
      show Steps p.tables e below (T161.setTop (mkF m 39 #[.val (.int xw), .val (.int xf), .val (.int fw), .val (.int w138), .val (.ref b147), .unset, .unset] [])) t
      refine X161.ldc2Long hx hown153 (mvT hZ153 (hw _ (List.mem_of_getElem? (i := 44) rfl))) (g := (mkF m 39 #[.val (.int xw), .val (.int xf), .val (.int fw), .val (.int w138), .val (.ref b147), .unset, .unset] [])) rfl (hb hby at_39) _ ?_
      show Steps p.tables e below (T161.setTop (mkF m 42 #[.val (.int xw), .val (.int xf), .val (.int fw), .val (.int w138), .val (.ref b147), .unset, .unset] [(.long (9223372036854775807 : Int64))])) t
      refine XS.goto X161.here hx rfl (pc0 := 42) (pc' := 49) rfl (hb hby at_42) (by decide) (by decide) ?_
      show Steps p.tables e below (T161.setTop (mkF m 49 #[.val (.int xw), .val (.int xf), .val (.int fw), .val (.int w138), .val (.ref b147), .unset, .unset] [(.long (9223372036854775807 : Int64))])) t
      refine XS.lstore X161.here hx rfl (hb hby at_49) rfl (l' := #[.val (.int xw), .val (.int xf), .val (.int fw), .val (.int w138), .val (.ref b147), .val (.long (9223372036854775807 : Int64)), .second]) rfl ?_
      show Steps p.tables e below (T161.setTop (mkF m 51 #[.val (.int xw), .val (.int xf), .val (.int fw), .val (.int w138), .val (.ref b147), .val (.long (9223372036854775807 : Int64)), .second] [])) t
      refine XS.aload X161.here hx rfl (hb hby at_51) rfl rfl ?_
      exact kt
    obtain ⟨cq185, kq185, qa185, qb185, qc185⟩ := isOf hZ153 rfl fE162
    obtain ⟨_, _, ⟨T185, L185, k185, n185⟩, -, X185, ⟨Lc185, hQ185, l185, y185, z185⟩, st185⟩ := X161.virtualBack hx (y := (⟨"com/example/rowkey_modeler/rowkeymodeler/DecimalField", "max", "()J"⟩ : MethodName)) (z := (⟨"com/example/rowkey_modeler/rowkeymodeler/DecimalField", "max", "()J"⟩ : MethodName)) hown153 (mvT hZ153 (hw _ (List.mem_of_getElem? (i := 45) rfl))) (mvT hZ153 (hw _ (List.mem_of_getElem? (i := 46) rfl))) (notFace_of_selects (args := #[]) (mvT hZ153 (hw _ (List.mem_of_getElem? (i := 48) rfl)))) (mvT hZ153 (hw _ (List.mem_of_getElem? (i := 48) rfl))) (mvT hZ153 (hw _ (List.mem_of_getElem? (i := 47) rfl))) (by decide) (backOf (W := 0) (rm16 l Z a0 hw [] b147 w138 (if fw < (19 : Int32) then (own_p10 fw.toInt.toNat (1 : Int64)) - (1 : Int64) else (9223372036854775807 : Int64)) T161.heap n0 Zs161 fE162 fF163 fF165 hfr) hZ153 (hw _ (List.mem_of_getElem? (i := 49) rfl)) (hw _ (List.mem_of_getElem? (i := 3) rfl)) (by decide) (by decide)) qa185 qc185 (g := (mkF m 53 #[.val (.int xw), .val (.int xf), .val (.int fw), .val (.int w138), .val (.ref b147), .val (.long (9223372036854775807 : Int64)), .second] [(.ref b147)])) rfl (by rw [hml]; rfl) (Steps.refl _) (argsL := []) (rest := []) (lenOf pd_ocJ rfl) rfl (by show 2 * 0 + _ ≤ _; exact Nat.le_of_eq rfl) (hb hby at_53) (fun _ _ => ⟨rfl, rfl, (by decide : 3 + 0 ≤ _), (by decide : 12 + 0 ≤ _)⟩)
    dsimp only [Pt.U, Pt.locs, Pt.cells, Pt.slots] at X185 l185 y185 z185 st185 hQ185
    subst l185 y185 z185
    obtain ⟨rfl, N185q, e185q⟩ := hQ185
    have N185 := Fr.app N161 N185q
    have s186 : ∀ t, Steps p.tables e below (T185.setTop (mkF m 59 #[.val (.int xw), .val (.int xf), .val (.int fw), .val (.int w138), .val (.ref b147), .val (.long (9223372036854775807 : Int64)), .second] [(.int (lcmpW (fmax w138 (if fw < (19 : Int32) then (own_p10 fw.toInt.toNat (1 : Int64)) - (1 : Int64) else (9223372036854775807 : Int64))) (9223372036854775807 : Int64)))])) t → Steps p.tables e below (T185.setTop (mkF m 56 #[.val (.int xw), .val (.int xf), .val (.int fw), .val (.int w138), .val (.ref b147), .val (.long (9223372036854775807 : Int64)), .second] [(.long (fmax w138 (if fw < (19 : Int32) then (own_p10 fw.toInt.toNat (1 : Int64)) - (1 : Int64) else (9223372036854775807 : Int64))))])) t := by
      intro t kt
      refine XS.lload X185.here hx rfl (hb hby at_56) rfl ?_
      show Steps p.tables e below (T185.setTop (mkF m 58 #[.val (.int xw), .val (.int xf), .val (.int fw), .val (.int w138), .val (.ref b147), .val (.long (9223372036854775807 : Int64)), .second] [(.long (9223372036854775807 : Int64)), (.long (fmax w138 (if fw < (19 : Int32) then (own_p10 fw.toInt.toNat (1 : Int64)) - (1 : Int64) else (9223372036854775807 : Int64))))])) t
      refine XS.lcmp X185.here hx rfl (hb hby at_58) rfl ?_
      exact kt
    have hfin : (fmax w138 (if fw < (19 : Int32) then (own_p10 fw.toInt.toNat (1 : Int64)) - (1 : Int64) else (9223372036854775807 : Int64))) = (9223372036854775807 : Int64) := own_fin1 _ _ c170
    have s187 : ∀ t, Steps p.tables e below (T185.setTop (mkF m 67 #[.val (.int xw), .val (.int xf), .val (.int fw), .val (.int w138), .val (.ref b147), .val (.long (9223372036854775807 : Int64)), .second] [(.int (1 : Int32))])) t → Steps p.tables e below (T185.setTop (mkF m 59 #[.val (.int xw), .val (.int xf), .val (.int fw), .val (.int w138), .val (.ref b147), .val (.long (9223372036854775807 : Int64)), .second] [(.int (lcmpW (fmax w138 (if fw < (19 : Int32) then (own_p10 fw.toInt.toNat (1 : Int64)) - (1 : Int64) else (9223372036854775807 : Int64))) (9223372036854775807 : Int64)))])) t := by
      intro t kt
      refine XS.ifNo X185.here hx rfl (hb hby at_59) rfl ((if0 _ _).trans (teq ((lw_eq _ _).mpr hfin)).2) ?_
      show Steps p.tables e below (T185.setTop (mkF m 62 #[.val (.int xw), .val (.int xf), .val (.int fw), .val (.int w138), .val (.ref b147), .val (.long (9223372036854775807 : Int64)), .second] [])) t
      refine XS.iconst X185.here hx rfl (hb hby at_62) ?_
      show Steps p.tables e below (T185.setTop (mkF m 63 #[.val (.int xw), .val (.int xf), .val (.int fw), .val (.int w138), .val (.ref b147), .val (.long (9223372036854775807 : Int64)), .second] [(.int (1 : Int32))])) t
      refine XS.goto X185.here hx rfl (pc0 := 63) (pc' := 67) rfl (hb hby at_63) (by decide) (by decide) ?_
      exact kt
    obtain ⟨fs_, hr, hrun, hended, hRW⟩ := X185.leaveW hS153 (by rw [e185q]; exact Nat.le_trans hk153 K161.1) (v := some (.int (1 : Int32))) (fun h => by rw [Bd.returns] at h; cases h)
    refine ⟨_, _, pre0 _ (s134 _ (j144 _ (s145 _ (s146 _ (st147 _ (s152 _ (st153 _ (s160 _ (st161.trans (s169 _ (s184 _ (st185.trans (s186 _ (s187 _ (?_))))))))))))))), hrun, hended, _, _, rfl, ?_, ⟨hRW.1, hRW.2.1, hRW.2.2.1, hRW.2.2.2.mono (by decide) (by decide)⟩⟩
    · show Steps p.tables e below (T185.setTop (mkF m 67 #[.val (.int xw), .val (.int xf), .val (.int fw), .val (.int w138), .val (.ref b147), .val (.long (9223372036854775807 : Int64)), .second] [(.int (1 : Int32))])) _
      exact retN X185 hx (t := .boolean) Bd.returns (by simp) (hb hby at_67) hr
    · show Q0 Z xw xf h0 n0 _ T185.heap _
      rw [e185q]
      exact ⟨rfl, N185⟩
set_option maxRecDepth 65536 in
set_option maxHeartbeats 40000000 in
theorem comes_1 {Post : Tables → Env → Array Value → State → Outcome → State → Prop} (hpost : ∀ tb e args s v u, (limb_1_1.after args s (.returned v) u = true ∧ limb_1_2.after args s (.returned v) u = true ∧ True) → ReturnedEndW s (.returned v) u (Jvm.fieldLocs frame_1_writes args s ++ Jvm.arrayLocs frame_1_arrays args s ++ Jvm.staticLocs frame_1_statics s) 16 1152 → Post tb e args s (.returned v) u) :
    ArmFor flags0 classFile x code maxLocals ret World_1 tables_1 room_1 Calls_1 rest_1 Pre_1 Post := by
  intro l hfl _ _ p e ha hc hk s m args below hf hA hF happ hP
  obtain ⟨hcalls, hrest, hpre⟩ := hP
  obtain ⟨-, -, -, hnamed, -, -, -, hat⟩ := (Spec.applies_iff hf).mp happ
  obtain ⟨hg, hn⟩ := and_e (Cond.before_iff.mp (show (Jvm.Cond.and given_1 narrow_1).before args s = true from hpre))
  obtain ⟨ha0, hb0⟩ := and_e hg
  obtain ⟨ha1, hb1⟩ := and_e hb0
  obtain ⟨w0, w1, rfl⟩ : ∃ w0 w1 : Value, args = #[w0, w1] := by
    have hs : args.size = 2 := by simpa [Cond.value, given_1] using ha0
    obtain ⟨L⟩ := args
    match L, hs with
    | [w0, w1], _ => exact ⟨w0, w1, rfl⟩
  have hw := fun d (hd : d ∈ tables_1) => atoms_spec (ws := Jvm.Cond.code x code maxLocals ret :: tables_1) hat d (List.mem_cons_of_mem _ hd)
  obtain ⟨i0, ei0⟩ := is_v ha1
  obtain rfl : w0 = (.int i0) := Option.some.inj ei0
  obtain ⟨i1, ei1⟩ := is_v hb1
  obtain rfl : w1 = (.int i1) := Option.some.inj ei1
  obtain ⟨hsets, hown0⟩ := atoms_of _ (rest_1_c_eq ▸ (show rest_1_c.before _ s = true from hrest))
  have hcw := hsets _ (List.mem_of_getElem? (i := 2) rfl)
  obtain ⟨n, o, h1, h2, h3, _, L, rfl, ⟨rfl, N⟩, hq⟩ := rm0 l s _ hw tables_1 i0 i1 s.heap s.heap.size (Nat.le_refl _) hcw (hcalls.1 _ (List.mem_cons_self ..)) rfl p e ha hc hk s m _ below hf ((Spec.applies_iff_loose hf).mp happ).1 ⟨rfl, State.Warmed39.refl s, rfl, rfl⟩ trivial
  refine ⟨n, _, h1, h2, h3, hpost _ _ _ _ _ _ ⟨Cond.after_iff.mpr rfl, Cond.after_iff.mpr (eq_i res_at (Term.int_eval (1)) rfl), trivial⟩ ⟨hq.1, hq.2.1, hq.2.2.1, (hq.2.2.2.sift fun y hy => Or.inr (N y hy)).mono (by decide) (by decide)⟩⟩
theorem main_1_1 : Claimed_1_1 := comes_1 fun _ _ _ _ _ _ h hF => ⟨h.1, hF⟩
theorem main_1_2 : Claimed_1_2 := comes_1 fun _ _ _ _ _ _ h hF => ⟨h.2.1, hF⟩
end Jvm.Pilot.@@N@@
namespace Jvm.Pilot.@@N@@
open Jvm Jvm.ClassFile Sem Op Lib Jvm.Free Jvm.Stand Jvm.Pilot.@@N@@.Jvm.D
/-! MADE BY PROGRAM (witnessworld.py) out of the Statement's table words and the real class files: 22 classes; the members and pool entries that the words name. The judged class is class 1, her method 2. -/
namespace start1
open Jvm.ClassFile
def u (s : String) : CpInfo := .utf8 (stringToUtf16 s)
/-- a pool by its gaps: so many unusable entries, then the entry; so many at the end -/
def gap : Nat → List CpInfo → List CpInfo
  | 0, r => r
  | n + 1, r => .unusable :: gap n r
def poolList (es : List (Nat × CpInfo)) (last : Nat) : List CpInfo := es.foldr (fun e r => gap e.1 (e.2 :: r)) (gap last [])
def pool (es : List (Nat × CpInfo)) (last : Nat) : Array CpInfo := ⟨poolList es last⟩
def fileOf (pool : Array CpInfo) (this : Nat) (attrs : Array Attribute := #[]) (ms : Array MethodInfo := #[]) (fl : Nat := 33) (sup : Nat := 0) (ifs : Array Nat := #[]) (fds : Array FieldInfo := #[]) : ClassFile where
  minorVersion := 0
  majorVersion := 65
  constantPool := pool
  accessFlags := fl
  thisClass := this
  superClass := sup
  interfaces := ifs
  fields := fds
  methods := ms
  attributes := attrs
def plain (name : String) (sup : Option ClassId) : Class where
  name := name
  kind := .ordinary
  loader := none
  accessFlags := 33
  super := sup
  interfaces := #[]
  cf := none
  fields := #[]
  methods := #[]
  instanceTypes := #[]
  staticTypes := #[]
  resolved := #[]
  callSites := []
  init := .initialized
  statics := none
  mirror := none

def pool0 : Array CpInfo := pool [(5, u "<init>"), (0, u "()V"), (1, .class_ 10), (1, u "java/lang/Object")] 113

def k0c0 : Code := { maxStack := 0, maxLocals := 1, code := object_method_1_code, exceptionTable := #[], attributes := #[] }
def k0m0 : Method := { name := "<init>", desc := "()V", sig := { parameters := [], returnType := none }, accessFlags := 1, code := some k0c0 }
/-- java/lang/Object -/
def k0 : Class := { plain "java/lang/Object" none with
  accessFlags := 33
  interfaces := #[]
  cf := some (fileOf pool0 8 #[] #[{ accessFlags := 1, nameIndex := 5, descriptorIndex := 6, attributes := #[] }] 33 0 #[] #[])
  fields := #[]
  methods := #[k0m0]
  instanceTypes := #[]
  staticTypes := #[]
  resolved := Array.replicate 124 none
  statics := none }

def pool1 : Array CpInfo := pool [(2, .class_ 4), (1, u "java/lang/Object"), (0, u "<init>"), (0, u "()V"), (0, .long 9), (1, .long 99), (1, .long 999), (1, .long 9999), (1, .long 99999), (1, .long 999999), (1, .long 9999999), (1, .long 99999999), (1, .long 999999999), (1, .long 9999999999), (1, .long 99999999999), (1, .long 999999999999), (1, .long 9999999999999), (1, .long 99999999999999), (1, .long 999999999999999), (1, .long 9999999999999999), (1, .long 99999999999999999), (1, .long 999999999999999999), (3, .long 9223372036854775807), (1, .integer 2147483647), (0, .class_ 49), (0, u "com/example/rowkey_modeler/rowkeymodeler/DecimalField"), (0, .string 51), (0, u "f"), (0, .methodref 48 53), (0, .nameAndType 5 54), (0, u "(Ljava/lang/String;IZ)V"), (0, .methodref 56 57), (0, .class_ 58), (0, .nameAndType 59 60), (0, u "com/example/rowkey_modeler/rowkeymodeler/DecimalFieldMaxPinLaw"), (0, u "nines"), (0, u "(I)J"), (0, .methodref 48 62), (0, .nameAndType 63 64), (0, u "max"), (0, u "()J"), (5, u "law"), (0, u "(II)Z")] 2

def k1m0 : Method := { name := "<init>", desc := "()V", sig := { parameters := [], returnType := none }, accessFlags := 1, code := none }
def k1c1 : Code := { maxStack := 5, maxLocals := 2, code := method_2_code, exceptionTable := #[], attributes := #[] }
def k1m1 : Method := { name := "nines", desc := "(I)J", sig := { parameters := [.int], returnType := some .long }, accessFlags := 10, code := some k1c1 }
def k1c2 : Code := { maxStack := 5, maxLocals := 7, code := code, exceptionTable := #[], attributes := #[] }
def k1m2 : Method := { name := "law", desc := "(II)Z", sig := { parameters := [.int, .int], returnType := some .boolean }, accessFlags := 9, code := some k1c2 }
/-- com/example/rowkey_modeler/rowkeymodeler/DecimalFieldMaxPinLaw -/
def k1 : Class := { plain "com/example/rowkey_modeler/rowkeymodeler/DecimalFieldMaxPinLaw" (some 0) with
  accessFlags := 49
  interfaces := #[]
  cf := some (fileOf pool1 56 #[] #[{ accessFlags := 1, nameIndex := 5, descriptorIndex := 6, attributes := #[] }, { accessFlags := 10, nameIndex := 59, descriptorIndex := 60, attributes := #[] }, { accessFlags := 9, nameIndex := 70, descriptorIndex := 71, attributes := #[] }] 49 2 #[] #[])
  fields := #[]
  methods := #[k1m0, k1m1, k1m2]
  instanceTypes := #[]
  staticTypes := #[]
  resolved := Array.replicate 74 none
  statics := none }

def pool2 : Array CpInfo := pool [(1, .class_ 2), (0, u "com/example/rowkey_modeler/rowkeymodeler/KeyLayout$Element"), (0, .class_ 4), (0, u "java/lang/Object"), (3, .class_ 9), (0, u "com/example/rowkey_modeler/rowkeymodeler/KeyLayout")] 7

/-- com/example/rowkey_modeler/rowkeymodeler/KeyLayout$Element -/
def k2 : Class := { plain "com/example/rowkey_modeler/rowkeymodeler/KeyLayout$Element" (some 0) with
  accessFlags := 1537
  interfaces := #[]
  cf := some (fileOf pool2 1 #[.nestHost 8] #[] 1537 3 #[] #[])
  fields := #[]
  methods := #[]
  instanceTypes := #[]
  staticTypes := #[]
  resolved := Array.replicate 17 none
  statics := none }

def pool3 : Array CpInfo := pool [(1, .methodref 2 3), (0, .class_ 4), (0, .nameAndType 5 6), (0, u "java/lang/Object"), (0, u "<init>"), (0, u "()V"), (0, .methodref 8 9), (0, .class_ 10), (0, .nameAndType 11 12), (0, u "java/lang/String"), (0, u "isEmpty"), (0, u "()Z"), (6, u "(Ljava/lang/String;)V"), (0, .fieldref 21 22), (0, .class_ 23), (0, .nameAndType 24 25), (0, u "com/example/rowkey_modeler/rowkeymodeler/KeyField"), (0, u "name"), (0, u "Ljava/lang/String;"), (12, .class_ 39), (0, u "com/example/rowkey_modeler/rowkeymodeler/KeyLayout$Element")] 24

def k3c0 : Code := { maxStack := 3, maxLocals := 2, code := prog_11_method_1_code, exceptionTable := #[], attributes := #[] }
def k3m0 : Method := { name := "<init>", desc := "(Ljava/lang/String;)V", sig := { parameters := [(.object "java/lang/String")], returnType := none }, accessFlags := 0, code := some k3c0 }
/-- com/example/rowkey_modeler/rowkeymodeler/KeyField -/
def k3 : Class := { plain "com/example/rowkey_modeler/rowkeymodeler/KeyField" (some 0) with
  accessFlags := 1057
  interfaces := #[2]
  cf := some (fileOf pool3 21 #[] #[{ accessFlags := 0, nameIndex := 5, descriptorIndex := 19, attributes := #[] }] 1057 2 #[38] #[{ accessFlags := 18, nameIndex := 24, descriptorIndex := 25, attributes := #[] }])
  fields := #[{ name := "name", type := (.object "java/lang/String"), accessFlags := 18, slot := 0, constantValue := 0 }]
  methods := #[k3m0]
  instanceTypes := #[(.object "java/lang/String")]
  staticTypes := #[]
  resolved := Array.replicate 64 none
  statics := none }

def pool4 : Array CpInfo := pool [(1, .methodref 2 3), (0, .class_ 4), (0, .nameAndType 5 6), (0, u "com/example/rowkey_modeler/rowkeymodeler/KeyField"), (0, u "<init>"), (0, u "(Ljava/lang/String;)V"), (0, .fieldref 8 9), (0, .class_ 10), (0, .nameAndType 11 12), (0, u "com/example/rowkey_modeler/rowkeymodeler/NumberField"), (0, u "reverse"), (0, u "Z"), (135, u "(Ljava/lang/String;Z)V"), (2, u "()Z")] 34

def k4c0 : Code := { maxStack := 2, maxLocals := 3, code := prog_17_method_1_code, exceptionTable := #[], attributes := #[] }
def k4m0 : Method := { name := "<init>", desc := "(Ljava/lang/String;Z)V", sig := { parameters := [(.object "java/lang/String"), .boolean], returnType := none }, accessFlags := 0, code := some k4c0 }
def k4c1 : Code := { maxStack := 1, maxLocals := 1, code := prog_17_method_2_code, exceptionTable := #[], attributes := #[] }
def k4m1 : Method := { name := "reverse", desc := "()Z", sig := { parameters := [], returnType := some .boolean }, accessFlags := 1, code := some k4c1 }
/-- com/example/rowkey_modeler/rowkeymodeler/NumberField -/
def k4 : Class := { plain "com/example/rowkey_modeler/rowkeymodeler/NumberField" (some 3) with
  accessFlags := 1057
  interfaces := #[]
  cf := some (fileOf pool4 8 #[] #[{ accessFlags := 0, nameIndex := 5, descriptorIndex := 148, attributes := #[] }, { accessFlags := 1, nameIndex := 11, descriptorIndex := 151, attributes := #[] }] 1057 2 #[] #[{ accessFlags := 18, nameIndex := 11, descriptorIndex := 12, attributes := #[] }])
  fields := #[{ name := "reverse", type := .boolean, accessFlags := 18, slot := 1, constantValue := 0 }]
  methods := #[k4m0, k4m1]
  instanceTypes := #[(.object "java/lang/String"), .boolean]
  staticTypes := #[]
  resolved := Array.replicate 186 none
  statics := none }

def pool5 : Array CpInfo := pool [(1, .methodref 2 3), (0, .class_ 4), (0, .nameAndType 5 6), (0, u "com/example/rowkey_modeler/rowkeymodeler/NumberField"), (0, u "<init>"), (0, u "(Ljava/lang/String;Z)V"), (0, .class_ 8), (0, u "com/example/rowkey_modeler/rowkeymodeler/DecimalField"), (9, .fieldref 7 19), (0, .nameAndType 20 21), (0, u "width"), (0, u "I"), (2, .long 9223372036854775807), (1, .long 10), (1, .fieldref 7 29), (0, .nameAndType 30 31), (0, u "largestWritten"), (0, u "J"), (2, .methodref 7 35), (0, .nameAndType 36 37), (0, u "reverse"), (0, u "()Z"), (10, u "TYPE_NAME"), (0, u "Ljava/lang/String;"), (1, u "MAX_WIDTH"), (1, u "(Ljava/lang/String;IZ)V"), (9, u "()J"), (0, u "max")] 26

def k5c0 : Code := { maxStack := 4, maxLocals := 7, code := prog_6_method_1_code, exceptionTable := #[], attributes := #[] }
def k5m0 : Method := { name := "<init>", desc := "(Ljava/lang/String;IZ)V", sig := { parameters := [(.object "java/lang/String"), .int, .boolean], returnType := none }, accessFlags := 1, code := some k5c0 }
def k5c1 : Code := { maxStack := 2, maxLocals := 1, code := prog_6_method_5_code, exceptionTable := #[], attributes := #[] }
def k5m1 : Method := { name := "max", desc := "()J", sig := { parameters := [], returnType := some .long }, accessFlags := 1, code := some k5c1 }
/-- com/example/rowkey_modeler/rowkeymodeler/DecimalField -/
def k5 : Class := { plain "com/example/rowkey_modeler/rowkeymodeler/DecimalField" (some 4) with
  accessFlags := 49
  interfaces := #[]
  cf := some (fileOf pool5 7 #[] #[{ accessFlags := 1, nameIndex := 5, descriptorIndex := 53, attributes := #[] }, { accessFlags := 1, nameIndex := 64, descriptorIndex := 63, attributes := #[] }] 49 2 #[] #[{ accessFlags := 25, nameIndex := 48, descriptorIndex := 49, attributes := #[] }, { accessFlags := 25, nameIndex := 51, descriptorIndex := 21, attributes := #[] }, { accessFlags := 18, nameIndex := 20, descriptorIndex := 21, attributes := #[] }, { accessFlags := 18, nameIndex := 30, descriptorIndex := 31, attributes := #[] }])
  fields := #[{ name := "TYPE_NAME", type := (.object "java/lang/String"), accessFlags := 25, slot := 0, constantValue := 0 }, { name := "MAX_WIDTH", type := .int, accessFlags := 25, slot := 1, constantValue := 0 }, { name := "width", type := .int, accessFlags := 18, slot := 2, constantValue := 0 }, { name := "largestWritten", type := .long, accessFlags := 18, slot := 3, constantValue := 0 }]
  methods := #[k5m0, k5m1]
  instanceTypes := #[(.object "java/lang/String"), .boolean, .int, .long]
  staticTypes := #[(.object "java/lang/String"), .int]
  resolved := Array.replicate 91 none
  statics := none }

def pool6 : Array CpInfo := pool [(1, .class_ 2), (0, u "java/io/Serializable"), (0, .class_ 4), (0, u "java/lang/Object")] 2

/-- java/io/Serializable -/
def k6 : Class := { plain "java/io/Serializable" (some 0) with
  accessFlags := 1537
  interfaces := #[]
  cf := some (fileOf pool6 1 #[] #[] 1537 3 #[] #[])
  fields := #[]
  methods := #[]
  instanceTypes := #[]
  staticTypes := #[]
  resolved := Array.replicate 7 none
  statics := none }

def pool7 : Array CpInfo := pool [(1, .class_ 2), (0, u "java/lang/Comparable"), (0, .class_ 4), (0, u "java/lang/Object")] 7

/-- java/lang/Comparable -/
def k7 : Class := { plain "java/lang/Comparable" (some 0) with
  accessFlags := 1537
  interfaces := #[]
  cf := some (fileOf pool7 1 #[] #[] 1537 3 #[] #[])
  fields := #[]
  methods := #[]
  instanceTypes := #[]
  staticTypes := #[]
  resolved := Array.replicate 12 none
  statics := none }

def pool8 : Array CpInfo := pool [(2, .class_ 4), (1, u "java/lang/CharSequence"), (42, .class_ 48), (0, u "java/lang/CharSequence$1CodePointIterator"), (10, .class_ 60), (0, u "java/lang/CharSequence$1CharIterator"), (5, .class_ 67), (0, u "java/lang/Object")] 63

/-- java/lang/CharSequence -/
def k8 : Class := { plain "java/lang/CharSequence" (some 0) with
  accessFlags := 1537
  interfaces := #[]
  cf := some (fileOf pool8 2 #[.nestMembers #[47, 59]] #[] 1537 66 #[] #[])
  fields := #[]
  methods := #[]
  instanceTypes := #[]
  staticTypes := #[]
  resolved := Array.replicate 131 none
  statics := none }

def pool9 : Array CpInfo := pool [(1, .class_ 2), (0, u "java/lang/constant/Constable"), (0, .class_ 4), (0, u "java/lang/Object")] 6

/-- java/lang/constant/Constable -/
def k9 : Class := { plain "java/lang/constant/Constable" (some 0) with
  accessFlags := 1537
  interfaces := #[]
  cf := some (fileOf pool9 1 #[] #[] 1537 3 #[] #[])
  fields := #[]
  methods := #[]
  instanceTypes := #[]
  staticTypes := #[]
  resolved := Array.replicate 11 none
  statics := none }

def pool10 : Array CpInfo := pool [(1, .class_ 2), (0, u "java/lang/constant/ConstantDesc"), (0, .class_ 4), (0, u "java/lang/Object")] 32

/-- java/lang/constant/ConstantDesc -/
def k10 : Class := { plain "java/lang/constant/ConstantDesc" (some 0) with
  accessFlags := 1537
  interfaces := #[]
  cf := some (fileOf pool10 1 #[] #[] 1537 3 #[] #[])
  fields := #[]
  methods := #[]
  instanceTypes := #[]
  staticTypes := #[]
  resolved := Array.replicate 37 none
  statics := none }

def pool11 : Array CpInfo := pool [(2, .class_ 4), (1, u "java/lang/Object"), (0, u "<init>"), (0, u "()V"), (2, .fieldref 10 11), (0, .class_ 12), (0, .nameAndType 13 14), (0, u "java/lang/String"), (0, u "value"), (0, u "[B"), (2, u "coder"), (0, u "B"), (2, u "hash"), (0, u "I"), (2, u "hashIsZero"), (0, u "Z"), (13, u "COMPACT_STRINGS"), (101, u "()Z"), (432, .class_ 576), (0, u "java/lang/CharSequence"), (22, u "CASE_INSENSITIVE_ORDER"), (0, u "Ljava/util/Comparator;"), (91, u "isEmpty"), (408, u "serialPersistentFields"), (0, u "[Ljava/io/ObjectStreamField;"), (0, .class_ 1104), (0, u "java/lang/String$CaseInsensitiveComparator"), (1, .class_ 1107), (0, u "java/io/Serializable"), (0, .class_ 1109), (0, u "java/lang/Comparable"), (0, .class_ 1111), (0, u "java/lang/constant/Constable"), (0, .class_ 1113), (0, u "java/lang/constant/ConstantDesc"), (2, u "serialVersionUID"), (0, u "J"), (3, u "REPL"), (0, u "C"), (2, u "LATIN1"), (1, u "UTF16")] 323

def k11m0 : Method := { name := "<init>", desc := "()V", sig := { parameters := [], returnType := none }, accessFlags := 1, code := none }
def k11c1 : Code := { maxStack := 1, maxLocals := 1, code := jdk_42_method_55_code, exceptionTable := #[], attributes := #[] }
def k11m1 : Method := { name := "isEmpty", desc := "()Z", sig := { parameters := [], returnType := some .boolean }, accessFlags := 1, code := some k11c1 }
/-- java/lang/String -/
def k11 : Class := { plain "java/lang/String" (some 0) with
  accessFlags := 49
  interfaces := #[6, 7, 8, 9, 10]
  cf := some (fileOf pool11 10 #[.nestMembers #[1103]] #[{ accessFlags := 1, nameIndex := 5, descriptorIndex := 6, attributes := #[] }, { accessFlags := 1, nameIndex := 692, descriptorIndex := 142, attributes := #[] }] 49 2 #[1106, 1108, 575, 1110, 1112] #[{ accessFlags := 18, nameIndex := 13, descriptorIndex := 14, attributes := #[] }, { accessFlags := 18, nameIndex := 17, descriptorIndex := 18, attributes := #[] }, { accessFlags := 2, nameIndex := 21, descriptorIndex := 22, attributes := #[] }, { accessFlags := 2, nameIndex := 25, descriptorIndex := 26, attributes := #[] }, { accessFlags := 26, nameIndex := 1116, descriptorIndex := 1117, attributes := #[] }, { accessFlags := 24, nameIndex := 40, descriptorIndex := 26, attributes := #[] }, { accessFlags := 26, nameIndex := 1101, descriptorIndex := 1102, attributes := #[] }, { accessFlags := 26, nameIndex := 1121, descriptorIndex := 1122, attributes := #[] }, { accessFlags := 25, nameIndex := 599, descriptorIndex := 600, attributes := #[] }, { accessFlags := 24, nameIndex := 1125, descriptorIndex := 18, attributes := #[] }, { accessFlags := 24, nameIndex := 1127, descriptorIndex := 18, attributes := #[] }])
  fields := #[{ name := "value", type := (.array .byte), accessFlags := 18, slot := 0, constantValue := 0 }, { name := "coder", type := .byte, accessFlags := 18, slot := 1, constantValue := 0 }, { name := "hash", type := .int, accessFlags := 2, slot := 2, constantValue := 0 }, { name := "hashIsZero", type := .boolean, accessFlags := 2, slot := 3, constantValue := 0 }, { name := "serialVersionUID", type := .long, accessFlags := 26, slot := 0, constantValue := 0 }, { name := "COMPACT_STRINGS", type := .boolean, accessFlags := 24, slot := 1, constantValue := 0 }, { name := "serialPersistentFields", type := (.array (.object "java/io/ObjectStreamField")), accessFlags := 26, slot := 2, constantValue := 0 }, { name := "REPL", type := .char, accessFlags := 26, slot := 3, constantValue := 0 }, { name := "CASE_INSENSITIVE_ORDER", type := (.object "java/util/Comparator"), accessFlags := 25, slot := 4, constantValue := 0 }, { name := "LATIN1", type := .byte, accessFlags := 24, slot := 5, constantValue := 0 }, { name := "UTF16", type := .byte, accessFlags := 24, slot := 6, constantValue := 0 }]
  methods := #[k11m0, k11m1]
  instanceTypes := #[(.array .byte), .byte, .int, .boolean]
  staticTypes := #[.long, .boolean, (.array (.object "java/io/ObjectStreamField")), .char, (.object "java/util/Comparator"), .byte, .byte]
  resolved := Array.replicate 1451 none
  statics := some 0 }

def pool12 : Array CpInfo := pool [(4, .class_ 6), (1, u "java/lang/Object"), (0, u "<init>"), (0, u "()V"), (5, .class_ 16), (1, u "java/lang/StringLatin1"), (104, u "$assertionsDisabled"), (0, u "Z"), (98, .class_ 223), (1, u "java/lang/StringLatin1$LinesSpliterator"), (166, .class_ 391), (0, u "java/lang/StringLatin1$CharsSpliterator")] 3

def k12m0 : Method := { name := "<init>", desc := "()V", sig := { parameters := [], returnType := none }, accessFlags := 0, code := none }
/-- java/lang/StringLatin1 -/
def k12 : Class := { plain "java/lang/StringLatin1" (some 0) with
  accessFlags := 48
  interfaces := #[]
  cf := some (fileOf pool12 14 #[.nestMembers #[390, 221]] #[{ accessFlags := 0, nameIndex := 7, descriptorIndex := 8, attributes := #[] }] 48 4 #[] #[{ accessFlags := 4120, nameIndex := 121, descriptorIndex := 122, attributes := #[] }])
  fields := #[{ name := "$assertionsDisabled", type := .boolean, accessFlags := 4120, slot := 0, constantValue := 0 }]
  methods := #[k12m0]
  instanceTypes := #[]
  staticTypes := #[.boolean]
  resolved := Array.replicate 395 none
  statics := none }

def pool13 : Array CpInfo := pool [(2, .class_ 4), (1, u "java/lang/Object"), (0, u "<init>"), (0, u "()V"), (17, .class_ 26), (1, u "jdk/internal/util/Preconditions"), (28, .class_ 56), (0, u "jdk/internal/util/Preconditions$4"), (57, .class_ 115), (0, u "jdk/internal/util/Preconditions$1"), (7, u "SIOOBE_FORMATTER"), (0, u "Ljava/util/function/BiFunction;"), (0, .class_ 126), (0, u "jdk/internal/util/Preconditions$2"), (3, u "AIOOBE_FORMATTER"), (0, .class_ 132), (0, u "jdk/internal/util/Preconditions$3"), (3, u "IOOBE_FORMATTER")] 57

def k13m0 : Method := { name := "<init>", desc := "()V", sig := { parameters := [], returnType := none }, accessFlags := 1, code := none }
/-- jdk/internal/util/Preconditions -/
def k13 : Class := { plain "jdk/internal/util/Preconditions" (some 0) with
  accessFlags := 33
  interfaces := #[]
  cf := some (fileOf pool13 24 #[.nestMembers #[55, 131, 125, 114]] #[{ accessFlags := 1, nameIndex := 5, descriptorIndex := 6, attributes := #[] }] 33 2 #[] #[{ accessFlags := 25, nameIndex := 123, descriptorIndex := 124, attributes := #[] }, { accessFlags := 25, nameIndex := 130, descriptorIndex := 124, attributes := #[] }, { accessFlags := 25, nameIndex := 136, descriptorIndex := 124, attributes := #[] }])
  fields := #[{ name := "SIOOBE_FORMATTER", type := (.object "java/util/function/BiFunction"), accessFlags := 25, slot := 0, constantValue := 0 }, { name := "AIOOBE_FORMATTER", type := (.object "java/util/function/BiFunction"), accessFlags := 25, slot := 1, constantValue := 0 }, { name := "IOOBE_FORMATTER", type := (.object "java/util/function/BiFunction"), accessFlags := 25, slot := 2, constantValue := 0 }]
  methods := #[k13m0]
  instanceTypes := #[]
  staticTypes := #[(.object "java/util/function/BiFunction"), (.object "java/util/function/BiFunction"), (.object "java/util/function/BiFunction")]
  resolved := Array.replicate 194 none
  statics := some 1 }

def pool14 : Array CpInfo := pool [(9, u "<init>"), (6, .class_ 18), (1, u "java/lang/Object"), (0, u "()V"), (1, .class_ 23), (1, u "jdk/internal/util/ArraysSupport"), (0, u "LOG2_ARRAY_LONG_INDEX_SCALE"), (0, u "I"), (2, u "U"), (0, u "Ljdk/internal/misc/Unsafe;"), (8, u "BIG_ENDIAN"), (0, u "Z"), (8, u "LOG2_BYTE_BIT_SIZE"), (4, u "LOG2_ARRAY_INT_INDEX_SCALE"), (54, u "JLA"), (0, u "Ljdk/internal/access/JavaLangAccess;"), (11, u "LOG2_ARRAY_BOOLEAN_INDEX_SCALE"), (9, u "LOG2_ARRAY_BYTE_INDEX_SCALE"), (5, u "LOG2_ARRAY_CHAR_INDEX_SCALE"), (5, u "LOG2_ARRAY_SHORT_INDEX_SCALE"), (18, u "LOG2_ARRAY_FLOAT_INDEX_SCALE"), (24, u "LOG2_ARRAY_DOUBLE_INDEX_SCALE"), (89, u "T_BOOLEAN"), (2, u "T_CHAR"), (1, u "T_FLOAT"), (1, u "T_DOUBLE"), (1, u "T_BYTE"), (1, u "T_SHORT"), (1, u "T_INT"), (1, u "T_LONG"), (1, u "SOFT_MAX_ARRAY_LENGTH")] 83

def k14m0 : Method := { name := "<init>", desc := "()V", sig := { parameters := [], returnType := none }, accessFlags := 2, code := none }
/-- jdk/internal/util/ArraysSupport -/
def k14 : Class := { plain "jdk/internal/util/ArraysSupport" (some 0) with
  accessFlags := 33
  interfaces := #[]
  cf := some (fileOf pool14 21 #[] #[{ accessFlags := 2, nameIndex := 9, descriptorIndex := 19, attributes := #[] }] 33 16 #[] #[{ accessFlags := 24, nameIndex := 28, descriptorIndex := 29, attributes := #[] }, { accessFlags := 26, nameIndex := 38, descriptorIndex := 39, attributes := #[] }, { accessFlags := 25, nameIndex := 121, descriptorIndex := 25, attributes := #[] }, { accessFlags := 25, nameIndex := 131, descriptorIndex := 25, attributes := #[] }, { accessFlags := 25, nameIndex := 137, descriptorIndex := 25, attributes := #[] }, { accessFlags := 25, nameIndex := 143, descriptorIndex := 25, attributes := #[] }, { accessFlags := 25, nameIndex := 53, descriptorIndex := 25, attributes := #[] }, { accessFlags := 25, nameIndex := 24, descriptorIndex := 25, attributes := #[] }, { accessFlags := 25, nameIndex := 162, descriptorIndex := 25, attributes := #[] }, { accessFlags := 25, nameIndex := 187, descriptorIndex := 25, attributes := #[] }, { accessFlags := 26, nameIndex := 48, descriptorIndex := 25, attributes := #[] }, { accessFlags := 25, nameIndex := 277, descriptorIndex := 25, attributes := #[] }, { accessFlags := 25, nameIndex := 280, descriptorIndex := 25, attributes := #[] }, { accessFlags := 25, nameIndex := 282, descriptorIndex := 25, attributes := #[] }, { accessFlags := 25, nameIndex := 284, descriptorIndex := 25, attributes := #[] }, { accessFlags := 25, nameIndex := 286, descriptorIndex := 25, attributes := #[] }, { accessFlags := 25, nameIndex := 288, descriptorIndex := 25, attributes := #[] }, { accessFlags := 25, nameIndex := 290, descriptorIndex := 25, attributes := #[] }, { accessFlags := 25, nameIndex := 292, descriptorIndex := 25, attributes := #[] }, { accessFlags := 26, nameIndex := 108, descriptorIndex := 109, attributes := #[] }, { accessFlags := 25, nameIndex := 294, descriptorIndex := 25, attributes := #[] }])
  fields := #[{ name := "U", type := (.object "jdk/internal/misc/Unsafe"), accessFlags := 24, slot := 0, constantValue := 0 }, { name := "BIG_ENDIAN", type := .boolean, accessFlags := 26, slot := 1, constantValue := 0 }, { name := "LOG2_ARRAY_BOOLEAN_INDEX_SCALE", type := .int, accessFlags := 25, slot := 2, constantValue := 0 }, { name := "LOG2_ARRAY_BYTE_INDEX_SCALE", type := .int, accessFlags := 25, slot := 3, constantValue := 0 }, { name := "LOG2_ARRAY_CHAR_INDEX_SCALE", type := .int, accessFlags := 25, slot := 4, constantValue := 0 }, { name := "LOG2_ARRAY_SHORT_INDEX_SCALE", type := .int, accessFlags := 25, slot := 5, constantValue := 0 }, { name := "LOG2_ARRAY_INT_INDEX_SCALE", type := .int, accessFlags := 25, slot := 6, constantValue := 0 }, { name := "LOG2_ARRAY_LONG_INDEX_SCALE", type := .int, accessFlags := 25, slot := 7, constantValue := 0 }, { name := "LOG2_ARRAY_FLOAT_INDEX_SCALE", type := .int, accessFlags := 25, slot := 8, constantValue := 0 }, { name := "LOG2_ARRAY_DOUBLE_INDEX_SCALE", type := .int, accessFlags := 25, slot := 9, constantValue := 0 }, { name := "LOG2_BYTE_BIT_SIZE", type := .int, accessFlags := 26, slot := 10, constantValue := 0 }, { name := "T_BOOLEAN", type := .int, accessFlags := 25, slot := 11, constantValue := 0 }, { name := "T_CHAR", type := .int, accessFlags := 25, slot := 12, constantValue := 0 }, { name := "T_FLOAT", type := .int, accessFlags := 25, slot := 13, constantValue := 0 }, { name := "T_DOUBLE", type := .int, accessFlags := 25, slot := 14, constantValue := 0 }, { name := "T_BYTE", type := .int, accessFlags := 25, slot := 15, constantValue := 0 }, { name := "T_SHORT", type := .int, accessFlags := 25, slot := 16, constantValue := 0 }, { name := "T_INT", type := .int, accessFlags := 25, slot := 17, constantValue := 0 }, { name := "T_LONG", type := .int, accessFlags := 25, slot := 18, constantValue := 0 }, { name := "JLA", type := (.object "jdk/internal/access/JavaLangAccess"), accessFlags := 26, slot := 19, constantValue := 0 }, { name := "SOFT_MAX_ARRAY_LENGTH", type := .int, accessFlags := 25, slot := 20, constantValue := 0 }]
  methods := #[k14m0]
  instanceTypes := #[]
  staticTypes := #[(.object "jdk/internal/misc/Unsafe"), .boolean, .int, .int, .int, .int, .int, .int, .int, .int, .int, .int, .int, .int, .int, .int, .int, .int, .int, (.object "jdk/internal/access/JavaLangAccess"), .int]
  resolved := Array.replicate 378 none
  statics := none }

def pool15 : Array CpInfo := pool [(1, u "java/lang/Cloneable"), (0, .class_ 1), (0, u "java/lang/Object"), (0, .class_ 3)] 3

/-- java/lang/Cloneable -/
def k15 : Class := { plain "java/lang/Cloneable" (some 0) with
  accessFlags := 1537
  interfaces := #[]
  cf := some (fileOf pool15 2 #[] #[] 1537 4 #[] #[])
  fields := #[]
  methods := #[]
  instanceTypes := #[]
  staticTypes := #[]
  resolved := Array.replicate 8 none
  statics := none }

/-- the primitive byte -/
def k16 : Class := { plain "byte" none with kind := .primitive 'B', accessFlags := 0x411 }
/-- [B -/
def k17 : Class := { plain "[B" (some 0) with kind := .array 16 .byte, interfaces := #[15, 6], accessFlags := 1041 }

/-- the primitive int -/
def k18 : Class := { plain "int" none with kind := .primitive 'I', accessFlags := 0x411 }
/-- [I -/
def k19 : Class := { plain "[I" (some 0) with kind := .array 18 .int, interfaces := #[15, 6], accessFlags := 1041 }

/-- the primitive long -/
def k20 : Class := { plain "long" none with kind := .primitive 'J', accessFlags := 0x411 }
/-- [J -/
def k21 : Class := { plain "[J" (some 0) with kind := .array 20 .long, interfaces := #[15, 6], accessFlags := 1041 }

def heap : Heap := #[{ cls := 11, slots := #[.long 0, .int 1, .null, .int 0, .null, .int 0, .int 0], vm := .statics 11 },
  { cls := 13, slots := #[.null, .null, .null], vm := .statics 13 }]
def classes : Array Class := #[k0, k1, k2, k3, k4, k5, k6, k7, k8, k9, k10, k11, k12, k13, k14, k15, k16, k17, k18, k19, k20, k21]
def interned : List (Array UInt16 × Addr) := []
def slotsUsed : Nat := 10
def theMethod : MethodId := ⟨1, 2⟩
def args0 : Array Value := #[.int 5, .int 6]
def aboutOver (below : List Frame) : State where
  vm := { classes := classes, interned := interned.toArray }
  heap := heap
  slotsUsed := slotsUsed
  threads := #[{ frames := .invoking theMethod args0 :: below }]
def below0 : List Frame := [.native { method := ⟨0, 0⟩, args := #[] }]
def about1 : State := aboutOver below0
def p0 : Program := .bare "" "" ""
def e0 : Env := launch0.env 0 0 0
theorem w_frames : about1.frames = Frame.invoking theMethod args0 :: below0 := rfl
set_option maxRecDepth 65536 in
theorem w_args : argsFit about1.vm theMethod args0 = true := by decide +kernel
set_option maxRecDepth 65536 in
theorem w_heap : heapFits about1 = true := by decide +kernel
set_option maxRecDepth 65536 in
theorem w_runnable : about1.curStatus? = some .runnable := by decide +kernel
set_option maxRecDepth 65536 in
theorem w_alone : about1.alone = true := by decide +kernel
set_option maxRecDepth 65536 in
theorem w_named : about1.methodNamed? x = some theMethod := by decide +kernel
set_option maxRecDepth 65536 in
theorem w_hears : about1.hears theMethod below0 = true := by decide +kernel
set_option maxRecDepth 65536 in
theorem w_ripe : about1.ripe theMethod args0 below0 = true := by decide +kernel
theorem w_running : about1.status = .running := rfl
set_option maxRecDepth 65536 in
theorem w_room : about1.hasRoom e0.platform room_1 = true :=
  launch0.hasRoom_least _ room_1 (by decide +kernel) (by decide +kernel) (by decide +kernel) (by decide +kernel) (by decide +kernel) (by decide +kernel)
theorem allAtoms_all (ts : List Jvm.Cond) (a : Array Jvm.Value) (st : Jvm.State) : (allAtoms ts).before a st = ts.all (fun c => c.before a st) := by
  induction ts with
  | nil => rfl
  | cons c t ih =>
    show (Jvm.Cond.and c (allAtoms t)).before a st = _
    rw [Jvm.Cond.before_and, ih, List.all_cons]
def words1 : List Jvm.Cond := Jvm.Cond.code x code maxLocals ret :: tables_1
/-- a 'code' word, met by the world's own term for the bytes: nothing is compared byte by byte -/
theorem code_word {y : MethodName} {bytes : ByteArray} {mx : Nat} {rt : Option FieldType} {a : Array Value} {s : State} {m : MethodId} {meth : Method} {c : Code} (h1 : s.methodNamed? y = some m) (h2 : s.vm.method? m = some meth) (h3 : meth.code = some c) (h4 : c.code = bytes)
    (h5 : (c.maxLocals == mx && c.exceptionTable.isEmpty && decide (c.maxStack ≤ mostOperands) && decide (meth.sig.returnType = rt) && !meth.locks && decide (parseMethodDescriptor y.desc = some meth.sig)) = true) : (Jvm.Cond.code y bytes mx rt).before a s = true := by
  simp only [Bool.and_eq_true, beq_iff_eq, Bool.not_eq_true', decide_eq_true_eq] at h5
  obtain ⟨⟨⟨⟨⟨g1, g2⟩, g3⟩, g4⟩, g5⟩, g6⟩ := h5
  simp [Cond.before, Cond.holds, Cond.value, h1, h2, h3, h4, g1, g2, g3, g4, g5, g6]
def isCode : Jvm.Cond → Bool
  | .code _ _ _ _ => true
  | _ => false
theorem all_split {L : List Jvm.Cond} {P : Jvm.Cond → Bool} (h1 : L.all (fun c => isCode c || P c) = true) (h2 : ∀ c ∈ L.filter isCode, P c = true) : L.all P = true := by
  refine List.all_eq_true.mpr fun c hc => ?_
  have h := List.all_eq_true.mp h1 c hc
  rcases Bool.eq_false_or_eq_true (isCode c) with hi | hi
  · exact h2 c (List.mem_filter.mpr ⟨hc, hi⟩)
  · simpa [hi] using h
set_option maxRecDepth 65536 in
theorem w_c0 : (Jvm.Cond.code x code maxLocals ret).before args0 about1 = true := code_word (m := ⟨1, 2⟩) (meth := k1m2) (c := k1c2) (by decide +kernel) rfl rfl rfl (by decide +kernel)
set_option maxRecDepth 65536 in
theorem w_c1 : (Jvm.Cond.code ({ cls := "com/example/rowkey_modeler/rowkeymodeler/DecimalField", name := "<init>", desc := "(Ljava/lang/String;IZ)V" } : Jvm.MethodName) prog_6_method_1_code (7 : Nat) (Option.none : Option Jvm.ClassFile.FieldType)).before args0 about1 = true := code_word (m := ⟨5, 0⟩) (meth := k5m0) (c := k5c0) (by decide +kernel) rfl rfl rfl (by decide +kernel)
set_option maxRecDepth 65536 in
theorem w_c2 : (Jvm.Cond.code ({ cls := "com/example/rowkey_modeler/rowkeymodeler/NumberField", name := "<init>", desc := "(Ljava/lang/String;Z)V" } : Jvm.MethodName) prog_17_method_1_code (3 : Nat) (Option.none : Option Jvm.ClassFile.FieldType)).before args0 about1 = true := code_word (m := ⟨4, 0⟩) (meth := k4m0) (c := k4c0) (by decide +kernel) rfl rfl rfl (by decide +kernel)
set_option maxRecDepth 65536 in
theorem w_c3 : (Jvm.Cond.code ({ cls := "com/example/rowkey_modeler/rowkeymodeler/KeyField", name := "<init>", desc := "(Ljava/lang/String;)V" } : Jvm.MethodName) prog_11_method_1_code (2 : Nat) (Option.none : Option Jvm.ClassFile.FieldType)).before args0 about1 = true := code_word (m := ⟨3, 0⟩) (meth := k3m0) (c := k3c0) (by decide +kernel) rfl rfl rfl (by decide +kernel)
set_option maxRecDepth 65536 in
theorem w_c4 : (Jvm.Cond.code ({ cls := "java/lang/Object", name := "<init>", desc := "()V" } : Jvm.MethodName) object_method_1_code (1 : Nat) (Option.none : Option Jvm.ClassFile.FieldType)).before args0 about1 = true := code_word (m := ⟨0, 0⟩) (meth := k0m0) (c := k0c0) (by decide +kernel) rfl rfl rfl (by decide +kernel)
set_option maxRecDepth 65536 in
theorem w_c5 : (Jvm.Cond.code ({ cls := "java/lang/String", name := "isEmpty", desc := "()Z" } : Jvm.MethodName) jdk_42_method_55_code (1 : Nat) (Option.some Jvm.ClassFile.FieldType.boolean)).before args0 about1 = true := code_word (m := ⟨11, 1⟩) (meth := k11m1) (c := k11c1) (by decide +kernel) rfl rfl rfl (by decide +kernel)
set_option maxRecDepth 65536 in
theorem w_c6 : (Jvm.Cond.code ({ cls := "com/example/rowkey_modeler/rowkeymodeler/DecimalField", name := "max", desc := "()J" } : Jvm.MethodName) prog_6_method_5_code (1 : Nat) (Option.some Jvm.ClassFile.FieldType.long)).before args0 about1 = true := code_word (m := ⟨5, 1⟩) (meth := k5m1) (c := k5c1) (by decide +kernel) rfl rfl rfl (by decide +kernel)
set_option maxRecDepth 65536 in
theorem w_c7 : (Jvm.Cond.code ({ cls := "com/example/rowkey_modeler/rowkeymodeler/NumberField", name := "reverse", desc := "()Z" } : Jvm.MethodName) prog_17_method_2_code (1 : Nat) (Option.some Jvm.ClassFile.FieldType.boolean)).before args0 about1 = true := code_word (m := ⟨4, 1⟩) (meth := k4m1) (c := k4c1) (by decide +kernel) rfl rfl rfl (by decide +kernel)
set_option maxRecDepth 65536 in
theorem w_c8 : (Jvm.Cond.code ({ cls := "com/example/rowkey_modeler/rowkeymodeler/DecimalFieldMaxPinLaw", name := "nines", desc := "(I)J" } : Jvm.MethodName) method_2_code (2 : Nat) (Option.some Jvm.ClassFile.FieldType.long)).before args0 about1 = true := code_word (m := ⟨1, 1⟩) (meth := k1m1) (c := k1c1) (by decide +kernel) rfl rfl rfl (by decide +kernel)
def codes1 : List Jvm.Cond := [Jvm.Cond.code x code maxLocals ret, Jvm.Cond.code ({ cls := "com/example/rowkey_modeler/rowkeymodeler/DecimalField", name := "<init>", desc := "(Ljava/lang/String;IZ)V" } : Jvm.MethodName) prog_6_method_1_code (7 : Nat) (Option.none : Option Jvm.ClassFile.FieldType), Jvm.Cond.code ({ cls := "com/example/rowkey_modeler/rowkeymodeler/NumberField", name := "<init>", desc := "(Ljava/lang/String;Z)V" } : Jvm.MethodName) prog_17_method_1_code (3 : Nat) (Option.none : Option Jvm.ClassFile.FieldType), Jvm.Cond.code ({ cls := "com/example/rowkey_modeler/rowkeymodeler/KeyField", name := "<init>", desc := "(Ljava/lang/String;)V" } : Jvm.MethodName) prog_11_method_1_code (2 : Nat) (Option.none : Option Jvm.ClassFile.FieldType), Jvm.Cond.code ({ cls := "java/lang/Object", name := "<init>", desc := "()V" } : Jvm.MethodName) object_method_1_code (1 : Nat) (Option.none : Option Jvm.ClassFile.FieldType), Jvm.Cond.code ({ cls := "java/lang/String", name := "isEmpty", desc := "()Z" } : Jvm.MethodName) jdk_42_method_55_code (1 : Nat) (Option.some Jvm.ClassFile.FieldType.boolean), Jvm.Cond.code ({ cls := "com/example/rowkey_modeler/rowkeymodeler/DecimalField", name := "max", desc := "()J" } : Jvm.MethodName) prog_6_method_5_code (1 : Nat) (Option.some Jvm.ClassFile.FieldType.long), Jvm.Cond.code ({ cls := "com/example/rowkey_modeler/rowkeymodeler/NumberField", name := "reverse", desc := "()Z" } : Jvm.MethodName) prog_17_method_2_code (1 : Nat) (Option.some Jvm.ClassFile.FieldType.boolean), Jvm.Cond.code ({ cls := "com/example/rowkey_modeler/rowkeymodeler/DecimalFieldMaxPinLaw", name := "nines", desc := "(I)J" } : Jvm.MethodName) method_2_code (2 : Nat) (Option.some Jvm.ClassFile.FieldType.long)]
set_option maxRecDepth 65536 in
theorem codes_eq : words1.filter isCode = codes1 := rfl
theorem w_codes : ∀ c ∈ words1.filter isCode, c.before args0 about1 = true := by
  rw [codes_eq]
  intro c hc
  simp only [codes1, List.mem_cons, List.not_mem_nil, or_false] at hc
  rcases hc with rfl | rfl | rfl | rfl | rfl | rfl | rfl | rfl | rfl
  · exact w_c0
  · exact w_c1
  · exact w_c2
  · exact w_c3
  · exact w_c4
  · exact w_c5
  · exact w_c6
  · exact w_c7
  · exact w_c8
set_option maxRecDepth 65536 in
theorem w_t1 : (words1.take 24).all (fun c => isCode c || c.before args0 about1) = true := by decide +kernel
set_option maxRecDepth 65536 in
theorem w_t2 : ((words1.drop 24).take 24).all (fun c => isCode c || c.before args0 about1) = true := by decide +kernel
set_option maxRecDepth 65536 in
theorem w_t3 : (((words1.drop 24).drop 24).take 24).all (fun c => isCode c || c.before args0 about1) = true := by decide +kernel
set_option maxRecDepth 65536 in
theorem w_t4 : (((words1.drop 24).drop 24).drop 24).all (fun c => isCode c || c.before args0 about1) = true := by decide +kernel
theorem w_tables : (allAtoms (Jvm.Cond.code x code maxLocals ret :: tables_1)).before args0 about1 = true := by
  rw [allAtoms_all]
  show words1.all (fun c => c.before args0 about1) = true
  refine all_split ?_ w_codes
  rw [← List.take_append_drop 24 words1, List.all_append, w_t1, ← List.take_append_drop 24 (words1.drop 24), List.all_append, w_t2, ← List.take_append_drop 24 ((words1.drop 24).drop 24), List.all_append, w_t3, w_t4]
  rfl
set_option maxRecDepth 65536 in
theorem w_rest : rest_1_c.before args0 about1 = true := by decide +kernel
set_option maxRecDepth 65536 in
theorem w_case : (Jvm.Cond.and given_1 narrow_1).before args0 about1 = true := by decide +kernel
set_option maxRecDepth 65536 in
theorem w_consts : constsHeld consts_1 about1 := Jvm.Lit.constsHeldB_iff.mp (by decide +kernel)
theorem w_applies : (headSpec (Jvm.Cond.code x code maxLocals ret :: tables_1) room_1).applies x e0.platform about1 = true :=
  (Spec.applies_iff w_frames).mpr ⟨w_running, w_runnable, w_alone, w_named, w_hears, w_ripe, w_room, w_tables⟩
theorem atStart : AtStart classFile x code maxLocals ret World_1 tables_1 room_1 Calls_1 rest_1 Pre_1 launch0 p0 e0 about1 theMethod args0 below0 :=
  ⟨lists_1, trivial, launch0.admits_env _ _ _, launch0.least_env, fairChoices_fair.cas, fairChoices_fair.clock, w_frames, w_args, w_heap, w_applies, ⟨w_consts, trivial⟩, w_rest, w_case⟩
end start1
theorem witness_1 : WitnessClaimed_1 := ⟨start1.p0, start1.e0, start1.about1, start1.theMethod, start1.args0, start1.below0, start1.atStart⟩
end Jvm.Pilot.@@N@@
