import JvmDerived
import JvmDerived.Pilot.@@N@@Statement
import JvmDerived.Pilot.@@N@@Code
set_option linter.unusedVariables false
set_option linter.unusedSimpArgs false
@@BLOCK:NumsL.lean.txt@@
namespace Jvm.RoadKit
open Sem ClassFile Op Lib Jvm.Stand Jvm.Free Jvm.LawKit
section New
variable {p : Program} {l : Launch} {e : Env} {R : Room} {s : State} {m : MethodId} {args : Array Value} {below : List Frame} {meth : Method} {c : Code} {T : State} {locs : List Loc} {cells slots : Nat}
theorem retI (X : Stand p l e R s m args below meth c T locs cells slots) (hx : p.tables.exec = Jvm.exec) {pc : Nat} {Ls : Array Slot} {z : Int32} {rest : List Value} (hret : meth.sig.returnType = some .int) (hd : decode c.code pc = .ok (.ireturn, 1)) {fs : List Frame}
    (hl : ∀ (f : JFrame) (acts : List Action), f.method = m → f.locked = none → f.entered = [] → (doReturn e (T.setTop f) acts (some (.int z))).1 = T.setFrames fs) : Steps p.tables e below (T.setTop (mkF m pc Ls (.int z :: rest))) (T.setFrames fs) := by
  have hm' : T.vm.method? m = some meth := X.method'
  have hn : narrow .int (.int z) = .int z := rfl
  show Steps p.tables e below (T.setTop { method := m, pc := pc, locals := Ls, stack := _ :: rest, locked := none }) _
  jvm_step X.here [X.here.top, hx, hd, hm', hret, hn]
  first | (intro acts; rw [hl _ acts rfl rfl rfl]) | rw [hl _ _ rfl rfl rfl]
  exact Steps.refl _
end New
end Jvm.RoadKit
namespace Jvm.OwnKit
open Sem ClassFile Op Lib Jvm.Stand Jvm.Free Jvm.LawKit Jvm.RoadKit
section OwnLayer
variable {p : Program} {l : Launch} {e : Env} {R : Room} {s : State} {m : MethodId} {args : Array Value} {below : List Frame} {meth : Method} {c : Code} {T : State} {locs : List Loc} {cells slots : Nat} {Z : State} {h h' : Heap} {a b : Addr} {ty : FieldType} {n sl : Nat} {f : Nat → Value} {v : Value} {ws : List Addr}
/-- an array of n places, place j holding f j -/
def Ar (Z : State) (h : Heap) (a : Addr) (ty : FieldType) (n : Nat) (f : Nat → Value) : Prop := ∃ c : Cell, Arr Z h a c ty ∧ c.slots.size = n ∧ n < 2147483648 ∧ ∀ j, j < n → c.slots[j]? = some (f j)
theorem Ar.lt (F : Ar Z h a ty n f) : a < h.size := by obtain ⟨c, A, -⟩ := F; exact A.lt
theorem Ar.ext (F : Ar Z h a ty n f) (E : Ext h h') : Ar Z h' a ty n f := by obtain ⟨c, A, r⟩ := F; exact ⟨c, A.ext E, r⟩
theorem Ar.other (F : Ar Z h b ty n f) (W : Wr h h' a sl v) (q : b ≠ a) : Ar Z h' b ty n f := by obtain ⟨c, A, r⟩ := F; exact ⟨c, A.other W q, r⟩
theorem Ar.keep (F : Ar Z h a ty n f) (K : Keep h h' ws) (q : a ∉ ws) : Ar Z h' a ty n f := by obtain ⟨c, A, r⟩ := F; exact ⟨c, ⟨K.2.1 a c A.1 q, A.2⟩, r⟩
theorem Ar.as (F : Ar Z h a ty n f) {g : Nat → Value} (e : ∀ j, j < n → f j = g j) : Ar Z h a ty n g := by
  obtain ⟨c, A, r1, r2, r3⟩ := F; exact ⟨c, A, r1, r2, fun j hj => by rw [r3 j hj, e j hj]⟩
theorem nat_clamp (j : Int32) : j.toNatClampNeg = j.toInt.toNat := rfl
theorem Ar.new {k : ClassId} {z : Int32} {N : Nat} (A : Arr Z h a (newA k ty z) ty) (q : ¬ z < 0) (hN : z.toInt.toNat = N) : Ar Z h a ty N (fun _ => defaultValue ty) := by
  have hs : (newA k ty z).slots.size = N := by rw [sz_new, nat_clamp, hN]
  refine ⟨_, A, hs, ?_, fun j hj => ?_⟩
  · have := z.toInt_lt; omega
  · show (Array.replicate z.toNatClampNeg (defaultValue ty))[j]? = _
    rw [Array.getElem?_replicate, if_pos (by rw [nat_clamp, hN]; exact hj)]
theorem ar_in {c : Cell} {j : Int32} (hs : c.slots.size = n) (h0 : 0 ≤ j.toInt) (h1 : j.toInt < n) : ¬ (j < 0 ∨ c.slots.size ≤ j.toNatClampNeg) := by
  rw [hs, nat_clamp, Int32.lt_iff_toInt_lt]
  show ¬ (j.toInt < 0 ∨ n ≤ j.toInt.toNat)
  omega
theorem Ar.set {c : Cell} {j : Int32} (A : Arr Z h a c ty) (hs : c.slots.size = n) (hn : n < 2147483648) (H : ∀ j, j < n → c.slots[j]? = some (f j)) (h0 : 0 ≤ j.toInt) (h1 : j.toInt < n) (W : Wr h h' a j.toNatClampNeg v) : Ar Z h' a ty n (fun i => if i = j.toInt.toNat then v else f i) := by
  refine ⟨_, A.same W, by rw [sz_set, hs], hn, fun i hi => ?_⟩
  show (c.slots.setIfInBounds j.toNatClampNeg v)[i]? = _
  rw [Array.getElem?_setIfInBounds, nat_clamp]
  show _ = some (if i = j.toInt.toNat then v else f i)
  by_cases q : i = j.toInt.toNat
  · rw [if_pos q.symm, if_pos (by omega), if_pos q]
  · rw [if_neg (fun z => q z.symm), if_neg q, H i hi]
theorem arv_ar {k : ClassId} {z : Int32} {vs : List Value} {d : Value} (F : Arv Z h a k ty z vs d) : Ar Z h a ty z.toInt.toNat (fun i => vs.getD i d) := by
  obtain ⟨c, A, -, r2, r3, H, -⟩ := F
  have hz := z.toInt_lt
  exact ⟨c, A, r2, by omega, fun j hj => H j (by rw [r2, nat_clamp]; exact hj)⟩
theorem ldAI (X : Stand p l e R s m args below meth c T locs cells slots) (hx : p.tables.exec = Jvm.exec) (hZ : Z.Warmed39 s.vm) (eT : T.heap = h) (F : Ar Z h a .int n f) {j : Int32} (h0 : 0 ≤ j.toInt) (h1 : j.toInt < n) {w : Value} (hv : f j.toInt.toNat = w)
    {g : JFrame} (hg : g.method = m) {rest : List Value} (hs : g.stack = .int j :: .ref a :: rest) (hd : decode c.code g.pc = .ok (.iaload, 1)) :
    ∀ target, Steps p.tables e below (T.setTop { g with pc := g.pc + 1, stack := w :: rest }) target → Steps p.tables e below (T.setTop g) target := by
  obtain ⟨cl, A, r1, r2, r3⟩ := F
  exact fun target k => X.iaload hx (by rw [eT]; exact A.1) (State.isArrayOf_alike hZ.alike A.2.1) A.2.2 (ar_in r1 h0 h1) (by rw [nat_clamp, r3 _ (by omega), hv]) hg hs hd target k
theorem ldAL (X : Stand p l e R s m args below meth c T locs cells slots) (hx : p.tables.exec = Jvm.exec) (hZ : Z.Warmed39 s.vm) (eT : T.heap = h) (F : Ar Z h a .long n f) {j : Int32} (h0 : 0 ≤ j.toInt) (h1 : j.toInt < n) {w : Value} (hv : f j.toInt.toNat = w)
    {g : JFrame} (hg : g.method = m) {rest : List Value} (hs : g.stack = .int j :: .ref a :: rest) (hd : decode c.code g.pc = .ok (.laload, 1)) :
    ∀ target, Steps p.tables e below (T.setTop { g with pc := g.pc + 1, stack := w :: rest }) target → Steps p.tables e below (T.setTop g) target := by
  obtain ⟨cl, A, r1, r2, r3⟩ := F
  exact fun target k => X.laload hx (by rw [eT]; exact A.1) (State.isArrayOf_alike hZ.alike A.2.1) A.2.2 (ar_in r1 h0 h1) (by rw [nat_clamp, r3 _ (by omega), hv]) hg hs hd target k
theorem ldAB (X : Stand p l e R s m args below meth c T locs cells slots) (hx : p.tables.exec = Jvm.exec) (hZ : Z.Warmed39 s.vm) (eT : T.heap = h) (F : Ar Z h a .byte n f) {j : Int32} (h0 : 0 ≤ j.toInt) (h1 : j.toInt < n) {w : Value} (hv : f j.toInt.toNat = w)
    {g : JFrame} (hg : g.method = m) {rest : List Value} (hs : g.stack = .int j :: .ref a :: rest) (hd : decode c.code g.pc = .ok (.baload, 1)) :
    ∀ target, Steps p.tables e below (T.setTop { g with pc := g.pc + 1, stack := w :: rest }) target → Steps p.tables e below (T.setTop g) target := by
  obtain ⟨cl, A, r1, r2, r3⟩ := F
  exact fun target k => X.baloadBytes hx (by rw [eT]; exact A.1) (State.isArrayOf_alike hZ.alike A.2.1) A.2.2 (ar_in r1 h0 h1) (by rw [nat_clamp, r3 _ (by omega), hv]) hg hs hd target k
theorem ldAZ (X : Stand p l e R s m args below meth c T locs cells slots) (hx : p.tables.exec = Jvm.exec) (hZ : Z.Warmed39 s.vm) (eT : T.heap = h) (F : Ar Z h a .boolean n f) {j : Int32} (h0 : 0 ≤ j.toInt) (h1 : j.toInt < n) {w : Value} (hv : f j.toInt.toNat = w)
    {g : JFrame} (hg : g.method = m) {rest : List Value} (hs : g.stack = .int j :: .ref a :: rest) (hd : decode c.code g.pc = .ok (.baload, 1)) :
    ∀ target, Steps p.tables e below (T.setTop { g with pc := g.pc + 1, stack := w :: rest }) target → Steps p.tables e below (T.setTop g) target := by
  obtain ⟨cl, A, r1, r2, r3⟩ := F
  exact fun target k => X.baloadBooleans hx (by rw [eT]; exact A.1) (State.isArrayOf_alike hZ.alike A.2.1) A.2.2 (ar_in r1 h0 h1) (by rw [nat_clamp, r3 _ (by omega), hv]) hg hs hd target k
theorem alen (X : Stand p l e R s m args below meth c T locs cells slots) (hx : p.tables.exec = Jvm.exec) (hZ : Z.Warmed39 s.vm) (eT : T.heap = h) (F : Ar Z h a ty n f) {z : Int32} (hz : z.toInt = n)
    {g : JFrame} (hg : g.method = m) {rest : List Value} (hs : g.stack = .ref a :: rest) (hd : decode c.code g.pc = .ok (.arraylength, 1)) :
    ∀ target, Steps p.tables e below (T.setTop { g with pc := g.pc + 1, stack := .int z :: rest }) target → Steps p.tables e below (T.setTop g) target := by
  obtain ⟨cl, A, r1, r2, r3⟩ := F
  have q : cl.slots.size.toInt32 = z := by
    rw [r1]
    apply Int32.toInt_inj.mp
    rw [hz]
    show (Int32.ofNat n).toInt = n
    exact Int32.toInt_ofNat_small (by omega)
  exact fun target k => X.arraylength hx (by rw [eT]; exact A.1) (State.isArrayOf_alike hZ.alike A.2.1) hg hs hd target (by rw [q]; exact k)
theorem stAI (X : Stand p l e R s m args below meth c T locs cells slots) (hx : p.tables.exec = Jvm.exec) (hZ : Z.Warmed39 s.vm) (eT : T.heap = h) (F : Ar Z h a .int n f) {j x : Int32} (h0 : 0 ≤ j.toInt) (h1 : j.toInt < n)
    {g : JFrame} (hg : g.method = m) {rest : List Value} (hs : g.stack = .int x :: .int j :: .ref a :: rest) (hd : decode c.code g.pc = .ok (.iastore, 1)) :
    ∃ T' h', Stand p l e R s m args below meth c T' (locs ++ [⟨a, j.toNatClampNeg⟩]) cells slots ∧ T'.heap = h' ∧ Wr h h' a j.toNatClampNeg (.int x) ∧ Ar Z h' a .int n (fun i => if i = j.toInt.toNat then .int x else f i) ∧ ∀ target, Steps p.tables e below (T'.setTop { g with pc := g.pc + 1, stack := rest }) target → Steps p.tables e below (T.setTop g) target := by
  obtain ⟨cl, A, r1, r2, r3⟩ := F
  obtain ⟨T', h', X', e', W, st⟩ := stI X hx hZ eT A (ar_in r1 h0 h1) hg hs hd
  exact ⟨T', h', X', e', W, Ar.set A r1 r2 r3 h0 h1 W, st⟩
theorem stAL (X : Stand p l e R s m args below meth c T locs cells slots) (hx : p.tables.exec = Jvm.exec) (hZ : Z.Warmed39 s.vm) (eT : T.heap = h) (F : Ar Z h a .long n f) {j : Int32} {x : Int64} (h0 : 0 ≤ j.toInt) (h1 : j.toInt < n)
    {g : JFrame} (hg : g.method = m) {rest : List Value} (hs : g.stack = .long x :: .int j :: .ref a :: rest) (hd : decode c.code g.pc = .ok (.lastore, 1)) :
    ∃ T' h', Stand p l e R s m args below meth c T' (locs ++ [⟨a, j.toNatClampNeg⟩]) cells slots ∧ T'.heap = h' ∧ Wr h h' a j.toNatClampNeg (.long x) ∧ Ar Z h' a .long n (fun i => if i = j.toInt.toNat then .long x else f i) ∧ ∀ target, Steps p.tables e below (T'.setTop { g with pc := g.pc + 1, stack := rest }) target → Steps p.tables e below (T.setTop g) target := by
  obtain ⟨cl, A, r1, r2, r3⟩ := F
  obtain ⟨T', h', X', e', W, st⟩ := stJ X hx hZ eT A (ar_in r1 h0 h1) hg hs hd
  exact ⟨T', h', X', e', W, Ar.set A r1 r2 r3 h0 h1 W, st⟩
theorem stAB (X : Stand p l e R s m args below meth c T locs cells slots) (hx : p.tables.exec = Jvm.exec) (hZ : Z.Warmed39 s.vm) (eT : T.heap = h) (F : Ar Z h a .byte n f) {j x : Int32} (h0 : 0 ≤ j.toInt) (h1 : j.toInt < n)
    {g : JFrame} (hg : g.method = m) {rest : List Value} (hs : g.stack = .int x :: .int j :: .ref a :: rest) (hd : decode c.code g.pc = .ok (.bastore, 1)) :
    ∃ T' h', Stand p l e R s m args below meth c T' (locs ++ [⟨a, j.toNatClampNeg⟩]) cells slots ∧ T'.heap = h' ∧ Wr h h' a j.toNatClampNeg (.int (nar .byte x)) ∧ Ar Z h' a .byte n (fun i => if i = j.toInt.toNat then .int (nar .byte x) else f i) ∧ ∀ target, Steps p.tables e below (T'.setTop { g with pc := g.pc + 1, stack := rest }) target → Steps p.tables e below (T.setTop g) target := by
  obtain ⟨cl, A, r1, r2, r3⟩ := F
  obtain ⟨T', h', X', e', W, st⟩ := stB X hx hZ eT A (ar_in r1 h0 h1) hg hs hd
  exact ⟨T', h', X', e', W, Ar.set A r1 r2 r3 h0 h1 W, st⟩
theorem stAZ (X : Stand p l e R s m args below meth c T locs cells slots) (hx : p.tables.exec = Jvm.exec) (hZ : Z.Warmed39 s.vm) (eT : T.heap = h) (F : Ar Z h a .boolean n f) {j x : Int32} (h0 : 0 ≤ j.toInt) (h1 : j.toInt < n)
    {g : JFrame} (hg : g.method = m) {rest : List Value} (hs : g.stack = .int x :: .int j :: .ref a :: rest) (hd : decode c.code g.pc = .ok (.bastore, 1)) :
    ∃ T' h', Stand p l e R s m args below meth c T' (locs ++ [⟨a, j.toNatClampNeg⟩]) cells slots ∧ T'.heap = h' ∧ Wr h h' a j.toNatClampNeg (.int (nar .boolean x)) ∧ Ar Z h' a .boolean n (fun i => if i = j.toInt.toNat then .int (nar .boolean x) else f i) ∧ ∀ target, Steps p.tables e below (T'.setTop { g with pc := g.pc + 1, stack := rest }) target → Steps p.tables e below (T.setTop g) target := by
  obtain ⟨cl, A, r1, r2, r3⟩ := F
  obtain ⟨T', h', X', e', W, st⟩ := stZ X hx hZ eT A (ar_in r1 h0 h1) hg hs hd
  exact ⟨T', h', X', e', W, Ar.set A r1 r2 r3 h0 h1 W, st⟩
end OwnLayer
end Jvm.OwnKit
namespace Jvm.Pilot.@@N@@
open Jvm Jvm.ClassFile Sem Op Lib Jvm.Free Jvm.Stand Jvm.LawKit Jvm.RoadKit Bundle Jvm.OwnKit Jvm.Pilot.@@N@@.Jvm.D

theorem ef_11 (m : MethodId) (x0 : Addr) : entryFrame m #[(.ref x0)] 1 = mkF m 0 #[.val (.ref x0)] [] := by first | (simp [entryFrame, mkF, argsToLocals, Value.category]; done) | rfl
theorem pn_java_lang_String : plainName "java/lang/String" = true := by first | (simp [plainName, overriddenIn]; done) | decide +kernel
theorem d11_0 : decode jdk_42_method_55_code 0 = .ok (.aload_n 0, 1) := by decide +kernel
theorem d11_1 : decode jdk_42_method_55_code 1 = .ok (.getfield 9, 3) := by decide +kernel
theorem d11_4 : decode jdk_42_method_55_code 4 = .ok (.arraylength, 1) := by decide +kernel
theorem d11_5 : decode jdk_42_method_55_code 5 = .ok (.ifCond .ne 7, 3) := by decide +kernel
theorem d11_12 : decode jdk_42_method_55_code 12 = .ok (.iconst 0, 1) := by decide +kernel
theorem d11_13 : decode jdk_42_method_55_code 13 = .ok (.ireturn, 1) := by decide +kernel
theorem ef_12 (m : MethodId) (x0 : Addr) (x1 : Addr) : entryFrame m #[(.ref x0), (.ref x1)] 2 = mkF m 0 #[.val (.ref x0), .val (.ref x1)] [] := by first | (simp [entryFrame, mkF, argsToLocals, Value.category]; done) | rfl
theorem pn_com_example_rowkey_modeler_rowkeymodeler_KeyField : plainName "com/example/rowkey_modeler/rowkeymodeler/KeyField" = true := by first | (simp [plainName, overriddenIn]; done) | decide +kernel
theorem d12_0 : decode prog_11_method_1_code 0 = .ok (.aload_n 0, 1) := by decide +kernel
theorem d12_1 : decode prog_11_method_1_code 1 = .ok (.invokespecial 1, 3) := by decide +kernel
theorem d12_4 : decode prog_11_method_1_code 4 = .ok (.aload_n 1, 1) := by decide +kernel
theorem d12_5 : decode prog_11_method_1_code 5 = .ok (.invokevirtual 7, 3) := by decide +kernel
theorem pd_ocZ : parseMethodDescriptor "()Z" = some ⟨[], some .boolean⟩ := by decide +kernel
theorem d12_8 : decode prog_11_method_1_code 8 = .ok (.ifCond .eq 13, 3) := by decide +kernel
theorem d12_21 : decode prog_11_method_1_code 21 = .ok (.aload_n 0, 1) := by decide +kernel
theorem d12_22 : decode prog_11_method_1_code 22 = .ok (.aload_n 1, 1) := by decide +kernel
theorem d12_23 : decode prog_11_method_1_code 23 = .ok (.putfield 20, 3) := by decide +kernel
theorem d12_26 : decode prog_11_method_1_code 26 = .ok (.return_, 1) := by decide +kernel
theorem ef_13 (m : MethodId) (x0 : Addr) (x1 : Addr) (x2 : Int32) : entryFrame m #[(.ref x0), (.ref x1), (.int x2)] 3 = mkF m 0 #[.val (.ref x0), .val (.ref x1), .val (.int x2)] [] := by first | (simp [entryFrame, mkF, argsToLocals, Value.category]; done) | rfl
theorem pn_com_example_rowkey_modeler_rowkeymodeler_NumberField : plainName "com/example/rowkey_modeler/rowkeymodeler/NumberField" = true := by first | (simp [plainName, overriddenIn]; done) | decide +kernel
theorem d13_0 : decode prog_17_method_1_code 0 = .ok (.aload_n 0, 1) := by decide +kernel
theorem d13_1 : decode prog_17_method_1_code 1 = .ok (.aload_n 1, 1) := by decide +kernel
theorem d13_2 : decode prog_17_method_1_code 2 = .ok (.invokespecial 1, 3) := by decide +kernel
theorem pd_oLjava_lang_StringscV : parseMethodDescriptor "(Ljava/lang/String;)V" = some ⟨[(.object "java/lang/String")], none⟩ := by decide +kernel
theorem d13_5 : decode prog_17_method_1_code 5 = .ok (.aload_n 0, 1) := by decide +kernel
theorem d13_6 : decode prog_17_method_1_code 6 = .ok (.iload_n 2, 1) := by decide +kernel
theorem d13_7 : decode prog_17_method_1_code 7 = .ok (.putfield 7, 3) := by decide +kernel
theorem d13_10 : decode prog_17_method_1_code 10 = .ok (.return_, 1) := by decide +kernel
theorem ef_14 (m : MethodId) (x0 : Addr) (x1 : Addr) (x2 : Int32) (x3 : Int32) : entryFrame m #[(.ref x0), (.ref x1), (.int x2), (.int x3)] 7 = mkF m 0 #[.val (.ref x0), .val (.ref x1), .val (.int x2), .val (.int x3), .unset, .unset, .unset] [] := by first | (simp [entryFrame, mkF, argsToLocals, Value.category]; done) | rfl
theorem pn_com_example_rowkey_modeler_rowkeymodeler_DecimalField : plainName "com/example/rowkey_modeler/rowkeymodeler/DecimalField" = true := by first | (simp [plainName, overriddenIn]; done) | decide +kernel
theorem d14_0 : decode prog_6_method_1_code 0 = .ok (.aload_n 0, 1) := by decide +kernel
theorem d14_1 : decode prog_6_method_1_code 1 = .ok (.aload_n 1, 1) := by decide +kernel
theorem d14_2 : decode prog_6_method_1_code 2 = .ok (.iload_n 3, 1) := by decide +kernel
theorem d14_3 : decode prog_6_method_1_code 3 = .ok (.invokespecial 1, 3) := by decide +kernel
theorem pd_oLjava_lang_StringsZcV : parseMethodDescriptor "(Ljava/lang/String;Z)V" = some ⟨[(.object "java/lang/String"), .boolean], none⟩ := by decide +kernel
theorem d14_6 : decode prog_6_method_1_code 6 = .ok (.iload_n 2, 1) := by decide +kernel
theorem d14_7 : decode prog_6_method_1_code 7 = .ok (.iconst 1, 1) := by decide +kernel
theorem d14_8 : decode prog_6_method_1_code 8 = .ok (.if_icmp .lt 9, 3) := by decide +kernel
theorem d14_11 : decode prog_6_method_1_code 11 = .ok (.iload_n 2, 1) := by decide +kernel
theorem d14_12 : decode prog_6_method_1_code 12 = .ok (.bipush 19, 2) := by decide +kernel
theorem d14_14 : decode prog_6_method_1_code 14 = .ok (.if_icmp .le 17, 3) := by decide +kernel
theorem d14_31 : decode prog_6_method_1_code 31 = .ok (.aload_n 0, 1) := by decide +kernel
theorem d14_32 : decode prog_6_method_1_code 32 = .ok (.iload_n 2, 1) := by decide +kernel
theorem d14_33 : decode prog_6_method_1_code 33 = .ok (.putfield 18, 3) := by decide +kernel
theorem d14_36 : decode prog_6_method_1_code 36 = .ok (.ldc2_w 24, 3) := by decide +kernel
theorem d14_39 : decode prog_6_method_1_code 39 = .ok (.lstore 4, 2) := by decide +kernel
theorem d14_41 : decode prog_6_method_1_code 41 = .ok (.iload_n 2, 1) := by decide +kernel
theorem d14_42 : decode prog_6_method_1_code 42 = .ok (.bipush 19, 2) := by decide +kernel
theorem d14_44 : decode prog_6_method_1_code 44 = .ok (.if_icmp .ge 35, 3) := by decide +kernel
theorem d14_47 : decode prog_6_method_1_code 47 = .ok (.lconst 1, 1) := by decide +kernel
theorem d14_48 : decode prog_6_method_1_code 48 = .ok (.lstore 4, 2) := by decide +kernel
theorem d14_50 : decode prog_6_method_1_code 50 = .ok (.iconst 0, 1) := by decide +kernel
theorem d14_51 : decode prog_6_method_1_code 51 = .ok (.istore 6, 2) := by decide +kernel
theorem d14_53 : decode prog_6_method_1_code 53 = .ok (.iload 6, 2) := by decide +kernel
theorem d14_55 : decode prog_6_method_1_code 55 = .ok (.iload_n 2, 1) := by decide +kernel
theorem d14_56 : decode prog_6_method_1_code 56 = .ok (.if_icmp .ge 17, 3) := by decide +kernel
theorem d14_59 : decode prog_6_method_1_code 59 = .ok (.lload 4, 2) := by decide +kernel
theorem d14_61 : decode prog_6_method_1_code 61 = .ok (.ldc2_w 26, 3) := by decide +kernel
theorem d14_64 : decode prog_6_method_1_code 64 = .ok (.lmul, 1) := by decide +kernel
theorem d14_65 : decode prog_6_method_1_code 65 = .ok (.lstore 4, 2) := by decide +kernel
theorem d14_67 : decode prog_6_method_1_code 67 = .ok (.iinc 6 1, 3) := by decide +kernel
theorem d14_70 : decode prog_6_method_1_code 70 = .ok (.goto (-17), 3) := by decide +kernel
theorem d14_73 : decode prog_6_method_1_code 73 = .ok (.lload 4, 2) := by decide +kernel
theorem d14_75 : decode prog_6_method_1_code 75 = .ok (.lconst 1, 1) := by decide +kernel
theorem d14_76 : decode prog_6_method_1_code 76 = .ok (.lsub, 1) := by decide +kernel
theorem d14_77 : decode prog_6_method_1_code 77 = .ok (.lstore 4, 2) := by decide +kernel
theorem d14_79 : decode prog_6_method_1_code 79 = .ok (.aload_n 0, 1) := by decide +kernel
theorem d14_80 : decode prog_6_method_1_code 80 = .ok (.lload 4, 2) := by decide +kernel
theorem d14_82 : decode prog_6_method_1_code 82 = .ok (.putfield 28, 3) := by decide +kernel
theorem d14_85 : decode prog_6_method_1_code 85 = .ok (.return_, 1) := by decide +kernel
theorem ef_15 (m : MethodId) (x0 : Addr) : entryFrame m #[(.ref x0)] 1 = mkF m 0 #[.val (.ref x0)] [] := by first | (simp [entryFrame, mkF, argsToLocals, Value.category]; done) | rfl
theorem d15_0 : decode prog_17_method_2_code 0 = .ok (.aload_n 0, 1) := by decide +kernel
theorem d15_1 : decode prog_17_method_2_code 1 = .ok (.getfield 7, 3) := by decide +kernel
theorem d15_4 : decode prog_17_method_2_code 4 = .ok (.ireturn, 1) := by decide +kernel
theorem ef_16 (m : MethodId) (x0 : Addr) (x1 : Int64) (x2 : Addr) (x3 : Int32) : entryFrame m #[(.ref x0), (.long x1), (.ref x2), (.int x3)] 8 = mkF m 0 #[.val (.ref x0), .val (.long x1), .second, .val (.ref x2), .val (.int x3), .unset, .unset, .unset] [] := by first | (simp [entryFrame, mkF, argsToLocals, Value.category]; done) | rfl
theorem d16_0 : decode prog_6_method_6_code 0 = .ok (.aload_n 0, 1) := by decide +kernel
theorem d16_1 : decode prog_6_method_6_code 1 = .ok (.invokevirtual 34, 3) := by decide +kernel
theorem d16_4 : decode prog_6_method_6_code 4 = .ok (.ifCond .eq 11, 3) := by decide +kernel
theorem d16_15 : decode prog_6_method_6_code 15 = .ok (.lload_n 1, 1) := by decide +kernel
theorem d16_7 : decode prog_6_method_6_code 7 = .ok (.ldc2_w 24, 3) := by decide +kernel
theorem d16_10 : decode prog_6_method_6_code 10 = .ok (.lload_n 1, 1) := by decide +kernel
theorem d16_11 : decode prog_6_method_6_code 11 = .ok (.lsub, 1) := by decide +kernel
theorem d16_12 : decode prog_6_method_6_code 12 = .ok (.goto 4, 3) := by decide +kernel
theorem d16_16 : decode prog_6_method_6_code 16 = .ok (.lstore 5, 2) := by decide +kernel
theorem d16_18 : decode prog_6_method_6_code 18 = .ok (.iload 4, 2) := by decide +kernel
theorem d16_20 : decode prog_6_method_6_code 20 = .ok (.aload_n 0, 1) := by decide +kernel
theorem d16_21 : decode prog_6_method_6_code 21 = .ok (.getfield 18, 3) := by decide +kernel
theorem d16_24 : decode prog_6_method_6_code 24 = .ok (.iadd, 1) := by decide +kernel
theorem d16_25 : decode prog_6_method_6_code 25 = .ok (.iconst 1, 1) := by decide +kernel
theorem d16_26 : decode prog_6_method_6_code 26 = .ok (.isub, 1) := by decide +kernel
theorem d16_27 : decode prog_6_method_6_code 27 = .ok (.istore 7, 2) := by decide +kernel
theorem d16_29 : decode prog_6_method_6_code 29 = .ok (.iload 7, 2) := by decide +kernel
theorem d16_31 : decode prog_6_method_6_code 31 = .ok (.iload 4, 2) := by decide +kernel
theorem d16_33 : decode prog_6_method_6_code 33 = .ok (.if_icmp .lt 33, 3) := by decide +kernel
theorem d16_36 : decode prog_6_method_6_code 36 = .ok (.aload_n 3, 1) := by decide +kernel
theorem d16_37 : decode prog_6_method_6_code 37 = .ok (.iload 7, 2) := by decide +kernel
theorem d16_39 : decode prog_6_method_6_code 39 = .ok (.ldc2_w 38, 3) := by decide +kernel
theorem d16_42 : decode prog_6_method_6_code 42 = .ok (.lload 5, 2) := by decide +kernel
theorem d16_44 : decode prog_6_method_6_code 44 = .ok (.ldc2_w 26, 3) := by decide +kernel
theorem d16_47 : decode prog_6_method_6_code 47 = .ok (.lrem, 1) := by decide +kernel
theorem d16_48 : decode prog_6_method_6_code 48 = .ok (.ladd, 1) := by decide +kernel
theorem d16_49 : decode prog_6_method_6_code 49 = .ok (.l2i, 1) := by decide +kernel
theorem d16_50 : decode prog_6_method_6_code 50 = .ok (.i2b, 1) := by decide +kernel
theorem d16_51 : decode prog_6_method_6_code 51 = .ok (.bastore, 1) := by decide +kernel
theorem d16_52 : decode prog_6_method_6_code 52 = .ok (.lload 5, 2) := by decide +kernel
theorem d16_54 : decode prog_6_method_6_code 54 = .ok (.ldc2_w 26, 3) := by decide +kernel
theorem d16_57 : decode prog_6_method_6_code 57 = .ok (.ldiv, 1) := by decide +kernel
theorem d16_58 : decode prog_6_method_6_code 58 = .ok (.lstore 5, 2) := by decide +kernel
theorem d16_60 : decode prog_6_method_6_code 60 = .ok (.iinc 7 (-1), 3) := by decide +kernel
theorem d16_63 : decode prog_6_method_6_code 63 = .ok (.goto (-34), 3) := by decide +kernel
theorem d16_66 : decode prog_6_method_6_code 66 = .ok (.return_, 1) := by decide +kernel
theorem ef_17 (m : MethodId) (x0 : Addr) (x1 : Int32) (x2 : Int32) (x3 : Int32) (x4 : Int64) (x5 : Addr) : entryFrame m #[(.ref x0), (.int x1), (.int x2), (.int x3), (.long x4), (.ref x5)] 9 = mkF m 0 #[.val (.ref x0), .val (.int x1), .val (.int x2), .val (.int x3), .val (.long x4), .second, .val (.ref x5), .unset, .unset] [] := by first | (simp [entryFrame, mkF, argsToLocals, Value.category]; done) | rfl
theorem pn_com_example_rowkey_modeler_rowkeymodeler_DecimalFieldWriteHeldPinLaw : plainName "com/example/rowkey_modeler/rowkeymodeler/DecimalFieldWriteHeldPinLaw" = true := by first | (simp [plainName, overriddenIn]; done) | decide +kernel
theorem d17_0 : decode method_3_code 0 = .ok (.iload_n 1, 1) := by decide +kernel
theorem d17_1 : decode method_3_code 1 = .ok (.iload_n 2, 1) := by decide +kernel
theorem d17_2 : decode method_3_code 2 = .ok (.if_icmp .lt 10, 3) := by decide +kernel
theorem d17_12 : decode method_3_code 12 = .ok (.aload_n 0, 1) := by decide +kernel
theorem d17_13 : decode method_3_code 13 = .ok (.iload_n 1, 1) := by decide +kernel
theorem d17_14 : decode method_3_code 14 = .ok (.baload, 1) := by decide +kernel
theorem d17_15 : decode method_3_code 15 = .ok (.ifCond .ne 7, 3) := by decide +kernel
theorem d17_22 : decode method_3_code 22 = .ok (.iconst 0, 1) := by decide +kernel
theorem d17_18 : decode method_3_code 18 = .ok (.iconst 1, 1) := by decide +kernel
theorem d17_19 : decode method_3_code 19 = .ok (.goto 4, 3) := by decide +kernel
theorem d17_23 : decode method_3_code 23 = .ok (.ireturn, 1) := by decide +kernel
theorem d17_5 : decode method_3_code 5 = .ok (.iload_n 1, 1) := by decide +kernel
theorem d17_6 : decode method_3_code 6 = .ok (.iload_n 2, 1) := by decide +kernel
theorem d17_7 : decode method_3_code 7 = .ok (.iload_n 3, 1) := by decide +kernel
theorem d17_8 : decode method_3_code 8 = .ok (.iadd, 1) := by decide +kernel
theorem d17_9 : decode method_3_code 9 = .ok (.if_icmp .lt 15, 3) := by decide +kernel
theorem d17_24 : decode method_3_code 24 = .ok (.lload 4, 2) := by decide +kernel
theorem d17_26 : decode method_3_code 26 = .ok (.aload 6, 2) := by decide +kernel
theorem d17_28 : decode method_3_code 28 = .ok (.iload_n 2, 1) := by decide +kernel
theorem d17_29 : decode method_3_code 29 = .ok (.iload_n 3, 1) := by decide +kernel
theorem d17_30 : decode method_3_code 30 = .ok (.iadd, 1) := by decide +kernel
theorem d17_31 : decode method_3_code 31 = .ok (.iconst 1, 1) := by decide +kernel
theorem d17_32 : decode method_3_code 32 = .ok (.isub, 1) := by decide +kernel
theorem d17_33 : decode method_3_code 33 = .ok (.iload_n 1, 1) := by decide +kernel
theorem d17_34 : decode method_3_code 34 = .ok (.isub, 1) := by decide +kernel
theorem d17_35 : decode method_3_code 35 = .ok (.laload, 1) := by decide +kernel
theorem d17_36 : decode method_3_code 36 = .ok (.ldiv, 1) := by decide +kernel
theorem d17_37 : decode method_3_code 37 = .ok (.ldc2_w 8, 3) := by decide +kernel
theorem d17_40 : decode method_3_code 40 = .ok (.lrem, 1) := by decide +kernel
theorem d17_41 : decode method_3_code 41 = .ok (.lstore 7, 2) := by decide +kernel
theorem d17_43 : decode method_3_code 43 = .ok (.aload_n 0, 1) := by decide +kernel
theorem d17_44 : decode method_3_code 44 = .ok (.iload_n 1, 1) := by decide +kernel
theorem d17_45 : decode method_3_code 45 = .ok (.baload, 1) := by decide +kernel
theorem d17_46 : decode method_3_code 46 = .ok (.ldc2_w 65, 3) := by decide +kernel
theorem d17_49 : decode method_3_code 49 = .ok (.lload 7, 2) := by decide +kernel
theorem d17_51 : decode method_3_code 51 = .ok (.ladd, 1) := by decide +kernel
theorem d17_52 : decode method_3_code 52 = .ok (.l2i, 1) := by decide +kernel
theorem d17_53 : decode method_3_code 53 = .ok (.i2b, 1) := by decide +kernel
theorem d17_54 : decode method_3_code 54 = .ok (.if_icmp .ne 7, 3) := by decide +kernel
theorem d17_61 : decode method_3_code 61 = .ok (.iconst 0, 1) := by decide +kernel
theorem d17_57 : decode method_3_code 57 = .ok (.iconst 1, 1) := by decide +kernel
theorem d17_58 : decode method_3_code 58 = .ok (.goto 4, 3) := by decide +kernel
theorem d17_62 : decode method_3_code 62 = .ok (.ireturn, 1) := by decide +kernel
theorem ef_0 (m : MethodId) (x0 : Int32) (x1 : Int32) (x2 : Int32) (x3 : Int64) : entryFrame m #[(.int x0), (.int x1), (.int x2), (.long x3)] maxLocals = mkF m 0 #[.val (.int x0), .val (.int x1), .val (.int x2), .val (.long x3), .second, .unset, .unset, .unset, .unset, .unset, .unset, .unset, .unset, .unset, .unset, .unset, .unset, .unset, .unset] [] := by first | (simp [entryFrame, mkF, argsToLocals, Value.category, maxLocals]; done) | rfl
theorem pd_oLjava_lang_StringsIZcV : parseMethodDescriptor "(Ljava/lang/String;IZ)V" = some ⟨[(.object "java/lang/String"), .int, .boolean], none⟩ := by decide +kernel
theorem pd_oJaBIcV : parseMethodDescriptor "(J[BI)V" = some ⟨[.long, (.array .byte), .int], none⟩ := by decide +kernel
theorem pd_oaBIIIJaJcZ : parseMethodDescriptor "([BIIIJ[J)Z" = some ⟨[(.array .byte), .int, .int, .int, .long, (.array .long)], some .boolean⟩ := by decide +kernel
def own_p10 : Nat → Int64 → Int64
  | 0, a => a
  | k + 1, a => own_p10 k (a * (10 : Int64))
def own_t10 (i : Nat) : Int64 := ([1, 10, 100, 1000, 10000, 100000, 1000000, 10000000, 100000000, 1000000000, 10000000000, 100000000000, 1000000000000, 10000000000000, 100000000000000, 1000000000000000, 10000000000000000, 100000000000000000, 1000000000000000000] : List Int64).getD i 1
def own_q : Nat → Int64 → Int64
  | 0, s => s
  | k + 1, s => own_q k (s / (10 : Int64))
def own_by (s : Int64) : Int32 := nar .byte ((((48 : Int64) + (s - (s / (10 : Int64)) * (10 : Int64))).toInt32).toInt8.toInt32)
theorem own_byD (s : Int64) : nar .byte ((((48 : Int64) + (s - (s / (10 : Int64)) * (10 : Int64))).toInt32).toInt8.toInt32) = own_by s := rfl
def own_out (o k : Nat) (st : Int64) (f : Nat → Value) (i : Nat) : Value := if o ≤ i ∧ i < o + k then .int (own_by (own_q (o + k - 1 - i) st)) else f i
def own_g (o k : Nat) (st : Int64) (i : Nat) : Int32 := if o ≤ i ∧ i < o + k then own_by (own_q (o + k - 1 - i) st) else 0
theorem own_out_step (o k : Nat) (st : Int64) (f : Nat → Value) (i : Nat) : own_out o k (st / (10 : Int64)) (fun i => if i = o + k then .int (own_by st) else f i) i = own_out o (k + 1) st f i := by
  unfold own_out
  by_cases h1 : o ≤ i ∧ i < o + k
  · rw [if_pos h1, if_pos (by omega)]
    have e : o + (k + 1) - 1 - i = (o + k - 1 - i) + 1 := by omega
    rw [e]; rfl
  · rw [if_neg h1]
    show (if i = o + k then Value.int (own_by st) else f i) = _
    by_cases h2 : i = o + k
    · rw [if_pos h2, if_pos (by omega)]
      have e : o + (k + 1) - 1 - i = 0 := by omega
      rw [e]; rfl
    · rw [if_neg h2, if_neg (by omega)]
theorem own_j0 (j fo : Int32) (k : Nat) (q1 : j.toInt = fo.toInt + ((k + 1 : Nat) : Int) - 1) (h0 : 0 ≤ fo.toInt) : j.toInt.toNat = fo.toInt.toNat + k := by omega
theorem own_j1 (j fo : Int32) (k : Nat) (q1 : j.toInt = fo.toInt + ((k + 1 : Nat) : Int) - 1) (h0 : 0 ≤ fo.toInt) (q2 : fo.toInt + ((k + 1 : Nat) : Int) ≤ 23) : (j + (-1 : Int32)).toInt = fo.toInt + (k : Int) - 1 := by
  have e : (-1 : Int32).toInt = -1 := by decide
  rw [Int32.toInt_add, e, Int.bmod_def]; omega
theorem own_j2 (fo : Int32) (k : Nat) (q2 : fo.toInt + ((k + 1 : Nat) : Int) ≤ 23) : fo.toInt + (k : Int) ≤ 23 := by omega
theorem own_c19 {P : Nat → Prop} (p0 : P 0) (p1 : P 1) (p2 : P 2) (p3 : P 3) (p4 : P 4) (p5 : P 5) (p6 : P 6) (p7 : P 7) (p8 : P 8) (p9 : P 9) (p10 : P 10) (p11 : P 11) (p12 : P 12) (p13 : P 13) (p14 : P 14) (p15 : P 15) (p16 : P 16) (p17 : P 17) (p18 : P 18) : ∀ j, j < 19 → P j := fun j hj => by
  have hc : j = 0 ∨ j = 1 ∨ j = 2 ∨ j = 3 ∨ j = 4 ∨ j = 5 ∨ j = 6 ∨ j = 7 ∨ j = 8 ∨ j = 9 ∨ j = 10 ∨ j = 11 ∨ j = 12 ∨ j = 13 ∨ j = 14 ∨ j = 15 ∨ j = 16 ∨ j = 17 ∨ j = 18 := by omega
  rcases hc with rfl | rfl | rfl | rfl | rfl | rfl | rfl | rfl | rfl | rfl | rfl | rfl | rfl | rfl | rfl | rfl | rfl | rfl | rfl <;> assumption
theorem own_out_zero (o : Nat) (st : Int64) (f : Nat → Value) (i : Nat) : own_out o 0 st f i = f i := by
  unfold own_out; rw [if_neg (by omega)]
def fat (fi fo fw : Int32) (fs : Int64) (gi : Int32) : Int32 := (if fi < fo then (if gi = (0 : Int32) then (1 : Int32) else (0 : Int32)) else (if fi < (fo + fw) then (if gi = ((((48 : Int64) + ((fs / (own_t10 (((fo + fw) - (1 : Int32)) - fi).toInt.toNat)) - ((fs / (own_t10 (((fo + fw) - (1 : Int32)) - fi).toInt.toNat)) / (10 : Int64)) * (10 : Int64))).toInt32).toInt8.toInt32) then (1 : Int32) else (0 : Int32)) else (if gi = (0 : Int32) then (1 : Int32) else (0 : Int32))))
theorem own_nz (k : Nat) (h : k < 19) : own_t10 k ≠ 0 := by
  have all : ∀ k, k < 19 → own_t10 k ≠ 0 := by decide +kernel
  exact all k h
def Q11 (Z : State) (fs fb : Addr) (ff : Nat → Value) (h0 : Heap) (n0 : Nat) (v : Option Value) (h : Heap) (L : List Loc) : Prop := v = some (.int 0) ∧ Fr n0 L ∧ h = h0
set_option maxRecDepth 65536 in
set_option maxHeartbeats 40000000 in
theorem rm11 (l : Launch) (Z : State) (a0 : Array Value) (hw : ∀ d ∈ tables_1, d.before a0 Z = true) (ws : List Jvm.Cond) (fs fb : Addr) (ff : Nat → Value) (h0 : Heap) (n0 : Nat) (Z0 : n0 ≤ h0.size) (Es : Exa Z h0 fs "java/lang/String") (Fv : Fld Z h0 fs "java/lang/String" "value" "[B" (.ref fb)) (Vb : Ar Z h0 fb .byte 1 ff) :
    MetFree l (⟨"java/lang/String", "isEmpty", "()Z"⟩ : MethodName) (head1 (Jvm.Cond.code (⟨"java/lang/String", "isEmpty", "()Z"⟩ : MethodName) jdk_42_method_55_code 1 (some .boolean) :: ws) ({ frames := 0, cells := 0, slots := 0, locals := 0 } : Room)) (fun a U => a = #[(.ref fs)] ∧ Z.Warmed39 U.vm ∧ U.heap = h0) (fun _ _ _ _ _ => True) (fun _ U o U' => ∃ v L, o = .returned v ∧ Q11 Z fs fb ff h0 n0 v U'.heap L ∧ FrameEnd U o U' L ({ frames := 0, cells := 0, slots := 0, locals := 0 } : Room).cells ({ frames := 0, cells := 0, slots := 0, locals := 0 } : Room).slots) := by
  refine MetFree.of_bodySF (plainFor_of_name pn_java_lang_String) hisR ?_
  intro p e s m args0 below meth c s₁ Bd hml0 hP hK
  obtain ⟨rfl, hZ, hh⟩ := hP
  have hx := Bd.exec
  have hby := Bd.bytes
  have hml : c.maxLocals = 1 := hml0
  have hown : s.vm.findClass "java/lang/String" = some m.cls := findClass_of_methodNamed Bd.named
  have hnm := (name_of_methodNamed Bd.named Bd.method).1
  have X0 : Stand p l e ({ frames := 0, cells := 0, slots := 0, locals := 0 } : Room) s m #[(.ref fs)] below meth c s₁ [] 0 0 := Stand.of_body Bd
  have e0 : s₁.heap = h0 := by rw [← hh, Bd.state]; rfl
  have N0 := Fr.nil n0
  have pre0 : ∀ t, Steps p.tables e below (s₁.setTop (mkF m 0 #[.val (.ref fs)] [])) t → Steps p.tables e below (s₁.setTop (entryFrame m #[(.ref fs)] 1)) t := fun t kk_ => castTop (ef_11 m fs) kk_
  have s1 : ∀ t, Steps p.tables e below (s₁.setTop (mkF m 1 #[.val (.ref fs)] [(.ref fs)])) t → Steps p.tables e below (s₁.setTop (mkF m 0 #[.val (.ref fs)] [])) t := by
    intro t kt
    refine XS.aloadN X0.here hx rfl (hb hby d11_0) rfl rfl ?_
    exact kt
  obtain ⟨T2, X2, e2, st2⟩ := getF X0 hx hZ hown (host := "") (Or.inl (hw _ (List.mem_of_getElem? (i := 53) rfl))) Via.refl e0 Fv (g := (mkF m 1 #[.val (.ref fs)] [(.ref fs)])) rfl rfl (hb hby d11_1)
  have s3 : ∀ t, Steps p.tables e below (T2.setTop (mkF m 13 #[.val (.ref fs)] [(.int (0 : Int32))])) t → Steps p.tables e below (T2.setTop (mkF m 4 #[.val (.ref fs)] [(.ref fb)])) t := by
    intro t kt
    refine OwnKit.alen X2 hx hZ e2 Vb (z := (1 : Int32)) (by decide) (g := (mkF m 4 #[.val (.ref fs)] [(.ref fb)])) rfl rfl (hb hby d11_4) _ ?_
    show Steps p.tables e below (T2.setTop (mkF m 5 #[.val (.ref fs)] [(.int (1 : Int32))])) t
    refine XS.ifYes X2.here hx rfl (pc0 := 5) (pc' := 12) rfl (hb hby d11_5) rfl ((if0 _ _).trans (feq (by decide)).2) (by decide) (by decide) ?_
    show Steps p.tables e below (T2.setTop (mkF m 12 #[.val (.ref fs)] [])) t
    refine XS.iconst X2.here hx rfl (hb hby d11_12) ?_
    exact kt
  obtain ⟨fs_, hr, hrun, hended, hW, hsame⟩ := X2.leave (hlocks := BodyLoose.notSynchronized Bd) (v := some (.int (0 : Int32))) (fun h => by rw [Bd.returns] at h; cases h)
  refine ⟨_, _, pre0 _ (s1 _ (st2 _ (s3 _ (?_)))), hrun, hended, _, _, rfl, ?_, ⟨_, rfl⟩, hW, hsame.mono (by decide) (by decide)⟩
  · show Steps p.tables e below (T2.setTop (mkF m 13 #[.val (.ref fs)] [(.int (0 : Int32))])) _
    exact retN X2 hx (t := .boolean) Bd.returns (by simp) (hb hby d11_13) hr
  · show Q11 Z fs fb ff h0 n0 _ T2.heap _
    rw [e2]
    exact ⟨rfl, N0, rfl⟩
def Q12 (Z : State) (fa fs fb : Addr) (ff : Nat → Value) (h0 : Heap) (n0 : Nat) (v : Option Value) (h : Heap) (L : List Loc) : Prop := v = none ∧ Fr n0 L ∧ Keep h0 h [fa] ∧ Exa Z h fa "com/example/rowkey_modeler/rowkeymodeler/DecimalField" ∧ Fld Z h fa "com/example/rowkey_modeler/rowkeymodeler/NumberField" "reverse" "Z" (.int (0 : Int32)) ∧ Fld Z h fa "com/example/rowkey_modeler/rowkeymodeler/DecimalField" "width" "I" (.int (0 : Int32)) ∧ Fld Z h fa "com/example/rowkey_modeler/rowkeymodeler/DecimalField" "largestWritten" "J" (.long (0 : Int64))
set_option maxRecDepth 65536 in
set_option maxHeartbeats 40000000 in
theorem rm12 (l : Launch) (Z : State) (a0 : Array Value) (hw : ∀ d ∈ tables_1, d.before a0 Z = true) (ws : List Jvm.Cond) (fa fs fb : Addr) (ff : Nat → Value) (h0 : Heap) (n0 : Nat) (Z0 : n0 ≤ h0.size) (Ea : Exa Z h0 fa "com/example/rowkey_modeler/rowkeymodeler/DecimalField") (F1 : Fld Z h0 fa "com/example/rowkey_modeler/rowkeymodeler/KeyField" "name" "Ljava/lang/String;" .null) (F2 : Fld Z h0 fa "com/example/rowkey_modeler/rowkeymodeler/NumberField" "reverse" "Z" (.int (0 : Int32))) (F3 : Fld Z h0 fa "com/example/rowkey_modeler/rowkeymodeler/DecimalField" "width" "I" (.int (0 : Int32))) (F4 : Fld Z h0 fa "com/example/rowkey_modeler/rowkeymodeler/DecimalField" "largestWritten" "J" (.long (0 : Int64))) (Ga : n0 ≤ fa) (Es : Exa Z h0 fs "java/lang/String") (Fv : Fld Z h0 fs "java/lang/String" "value" "[B" (.ref fb)) (Vb : Ar Z h0 fb .byte 1 ff) :
    MetFree l (⟨"com/example/rowkey_modeler/rowkeymodeler/KeyField", "<init>", "(Ljava/lang/String;)V"⟩ : MethodName) (head1 (Jvm.Cond.code (⟨"com/example/rowkey_modeler/rowkeymodeler/KeyField", "<init>", "(Ljava/lang/String;)V"⟩ : MethodName) prog_11_method_1_code 2 none :: ws) ({ frames := 1, cells := 0, slots := 0, locals := 12 } : Room)) (fun a U => a = #[(.ref fa), (.ref fs)] ∧ Z.Warmed39 U.vm ∧ U.heap = h0) (fun _ _ _ _ _ => True) (fun _ U o U' => ∃ v L, o = .returned v ∧ Q12 Z fa fs fb ff h0 n0 v U'.heap L ∧ FrameEnd U o U' L ({ frames := 1, cells := 0, slots := 0, locals := 12 } : Room).cells ({ frames := 1, cells := 0, slots := 0, locals := 12 } : Room).slots) := by
  refine MetFree.of_bodySF (plainFor_of_name pn_com_example_rowkey_modeler_rowkeymodeler_KeyField) hisR ?_
  intro p e s m args0 below meth c s₁ Bd hml0 hP hK
  obtain ⟨rfl, hZ, hh⟩ := hP
  have hx := Bd.exec
  have hby := Bd.bytes
  have hml : c.maxLocals = 2 := hml0
  have hown : s.vm.findClass "com/example/rowkey_modeler/rowkeymodeler/KeyField" = some m.cls := findClass_of_methodNamed Bd.named
  have hnm := (name_of_methodNamed Bd.named Bd.method).1
  have X0 : Stand p l e ({ frames := 1, cells := 0, slots := 0, locals := 12 } : Room) s m #[(.ref fa), (.ref fs)] below meth c s₁ [] 0 0 := Stand.of_body Bd
  have e0 : s₁.heap = h0 := by rw [← hh, Bd.state]; rfl
  have N0 := Fr.nil n0
  have pre0 : ∀ t, Steps p.tables e below (s₁.setTop (mkF m 0 #[.val (.ref fa), .val (.ref fs)] [])) t → Steps p.tables e below (s₁.setTop (entryFrame m #[(.ref fa), (.ref fs)] 2)) t := fun t kk_ => castTop (ef_12 m fa fs) kk_
  have s4 : ∀ t, Steps p.tables e below (s₁.setTop (mkF m 1 #[.val (.ref fa), .val (.ref fs)] [(.ref fa)])) t → Steps p.tables e below (s₁.setTop (mkF m 0 #[.val (.ref fa), .val (.ref fs)] [])) t := by
    intro t kt
    refine XS.aloadN X0.here hx rfl (hb hby d12_0) rfl rfl ?_
    exact kt
  obtain ⟨T5, X5, e5, st5⟩ := initO X0 hx hZ hown (hw _ (List.mem_of_getElem? (i := 45) rfl)) (hw _ (List.mem_of_getElem? (i := 46) rfl)) (hw _ (List.mem_of_getElem? (i := 47) rfl)) e0 (g := (mkF m 1 #[.val (.ref fa), .val (.ref fs)] [(.ref fa)])) rfl (by rw [hml]; rfl) rfl (hb hby d12_1) (by decide) (W := 0) (by show 2 * 0 + _ ≤ _; exact Nat.le_of_eq rfl) (by decide)
  have s6 : ∀ t, Steps p.tables e below (T5.setTop (mkF m 5 #[.val (.ref fa), .val (.ref fs)] [(.ref fs)])) t → Steps p.tables e below (T5.setTop (mkF m 4 #[.val (.ref fa), .val (.ref fs)] [])) t := by
    intro t kt
    refine XS.aloadN X5.here hx rfl (hb hby d12_4) rfl rfl ?_
    exact kt
  obtain ⟨cq7, kq7, qa7, qb7, qc7⟩ := isOf hZ e5 Es
  obtain ⟨_, _, ⟨T7, L7, k7, n7⟩, -, X7, ⟨Lc7, hQ7, l7, y7, z7⟩, st7⟩ := X5.virtualBack hx (y := (⟨"java/lang/String", "isEmpty", "()Z"⟩ : MethodName)) (z := (⟨"java/lang/String", "isEmpty", "()Z"⟩ : MethodName)) hown (mvT hZ (hw _ (List.mem_of_getElem? (i := 48) rfl))) (mvT hZ (hw _ (List.mem_of_getElem? (i := 49) rfl))) (notFace_of_selects (args := #[]) (mvT hZ (hw _ (List.mem_of_getElem? (i := 51) rfl)))) (mvT hZ (hw _ (List.mem_of_getElem? (i := 51) rfl))) (mvT hZ (hw _ (List.mem_of_getElem? (i := 50) rfl))) (by decide) (backOf (W := 0) (rm11 l Z a0 hw [] fs fb _ h0 n0 Z0 Es Fv Vb) hZ (hw _ (List.mem_of_getElem? (i := 52) rfl)) (hw _ (List.mem_of_getElem? (i := 25) rfl)) (by decide) (by decide)) qa7 qc7 (g := (mkF m 5 #[.val (.ref fa), .val (.ref fs)] [(.ref fs)])) rfl (by rw [hml]; rfl) (Steps.refl _) (argsL := []) (rest := []) (lenOf pd_ocZ rfl) rfl (by show 2 * 0 + _ ≤ _; exact Nat.le_of_eq rfl) (hb hby d12_5) (fun _ _ => ⟨rfl, e5, (by decide : 0 + 0 ≤ _), (by decide : 0 + 0 ≤ _)⟩)
  dsimp only [Pt.U, Pt.locs, Pt.cells, Pt.slots] at X7 l7 y7 z7 st7 hQ7
  rw [l7, y7, z7] at X7
  obtain ⟨hv7, N7q, e7q⟩ := hQ7
  rw [hv7] at st7
  have N7 := Fr.app N0 N7q
  have s8 : ∀ t, Steps p.tables e below (T7.setTop (mkF m 23 #[.val (.ref fa), .val (.ref fs)] [(.ref fs), (.ref fa)])) t → Steps p.tables e below (T7.setTop (mkF m 8 #[.val (.ref fa), .val (.ref fs)] [(.int (0 : Int32))])) t := by
    intro t kt
    refine XS.ifYes X7.here hx rfl (pc0 := 8) (pc' := 21) rfl (hb hby d12_8) rfl ((if0 _ _).trans (teq rfl).1) (by decide) (by decide) ?_
    show Steps p.tables e below (T7.setTop (mkF m 21 #[.val (.ref fa), .val (.ref fs)] [])) t
    refine XS.aloadN X7.here hx rfl (hb hby d12_21) rfl rfl ?_
    show Steps p.tables e below (T7.setTop (mkF m 22 #[.val (.ref fa), .val (.ref fs)] [(.ref fa)])) t
    refine XS.aloadN X7.here hx rfl (hb hby d12_22) rfl rfl ?_
    exact kt
  obtain ⟨T9, h9, X9, e9, W9, st9⟩ := putF X7 hx hZ hown (host := "") (Or.inl (hw _ (List.mem_of_getElem? (i := 54) rfl))) Via.refl e7q F1 Ea (Or.inr ⟨(hw _ (List.mem_of_getElem? (i := 55) rfl)), rfl, hnm⟩) (hw _ (List.mem_of_getElem? (i := 22) rfl)) (ty := (.object "java/lang/String")) (by decide) rfl rfl (g := (mkF m 23 #[.val (.ref fa), .val (.ref fs)] [(.ref fs), (.ref fa)])) rfl rfl (hb hby d12_23)
  have Zs9 : n0 ≤ h9.size := Nat.le_trans Z0 (Keep.of_wr W9).1
  have fE10 := Ea.wr W9
  have fF11 := F1.same W9
  have fF12 := F2.other W9 (Or.inr (slot_ne (Or.inr (hw _ (List.mem_of_getElem? (i := 57) rfl))) (Or.inr (hw _ (List.mem_of_getElem? (i := 55) rfl))) (by decide) (t := .boolean) (t' := (.object "java/lang/String")) (by decide) (by decide)))
  have fF13 := F3.other W9 (Or.inr (slot_ne (Or.inr (hw _ (List.mem_of_getElem? (i := 59) rfl))) (Or.inr (hw _ (List.mem_of_getElem? (i := 55) rfl))) (by decide) (t := .int) (t' := (.object "java/lang/String")) (by decide) (by decide)))
  have fF14 := F4.other W9 (Or.inr (slot_ne (Or.inr (hw _ (List.mem_of_getElem? (i := 63) rfl))) (Or.inr (hw _ (List.mem_of_getElem? (i := 55) rfl))) (by decide) (t := .long) (t' := (.object "java/lang/String")) (by decide) (by decide)))
  have K9 : Keep h0 h9 [fa] := (Keep.refl h0 [fa]).wr W9 (Or.inl (List.mem_of_getElem? (i := 0) rfl))
  have N9 := Fr.snoc X9 N7 Ga
  obtain ⟨fs_, hr, hrun, hended, hW, hsame⟩ := X9.leave (hlocks := BodyLoose.notSynchronized Bd) (v := none) (fun _ => rfl)
  refine ⟨_, _, pre0 _ (s4 _ (st5 _ (s6 _ (st7.trans (s8 _ (st9 _ (?_))))))), hrun, hended, _, _, rfl, ?_, ⟨_, rfl⟩, hW, hsame.mono (by decide) (by decide)⟩
  · show Steps p.tables e below (T9.setTop (mkF m 26 #[.val (.ref fa), .val (.ref fs)] [])) _
    exact X9.returnOut hx Bd.returns (hb hby d12_26) hr
  · show Q12 Z fa fs fb ff h0 n0 _ T9.heap _
    rw [e9]
    exact ⟨rfl, N9, K9, fE10, fF12, fF13, fF14⟩
def Q13 (Z : State) (fa fs fb : Addr) (ff : Nat → Value) (fr : Int32) (h0 : Heap) (n0 : Nat) (v : Option Value) (h : Heap) (L : List Loc) : Prop := v = none ∧ Fr n0 L ∧ Keep h0 h [fa] ∧ Exa Z h fa "com/example/rowkey_modeler/rowkeymodeler/DecimalField" ∧ Fld Z h fa "com/example/rowkey_modeler/rowkeymodeler/NumberField" "reverse" "Z" (.int fr) ∧ Fld Z h fa "com/example/rowkey_modeler/rowkeymodeler/DecimalField" "width" "I" (.int (0 : Int32)) ∧ Fld Z h fa "com/example/rowkey_modeler/rowkeymodeler/DecimalField" "largestWritten" "J" (.long (0 : Int64))
set_option maxRecDepth 65536 in
set_option maxHeartbeats 40000000 in
theorem rm13 (l : Launch) (Z : State) (a0 : Array Value) (hw : ∀ d ∈ tables_1, d.before a0 Z = true) (ws : List Jvm.Cond) (fa fs fb : Addr) (ff : Nat → Value) (fr : Int32) (h0 : Heap) (n0 : Nat) (Z0 : n0 ≤ h0.size) (Ea : Exa Z h0 fa "com/example/rowkey_modeler/rowkeymodeler/DecimalField") (F1 : Fld Z h0 fa "com/example/rowkey_modeler/rowkeymodeler/KeyField" "name" "Ljava/lang/String;" .null) (F2 : Fld Z h0 fa "com/example/rowkey_modeler/rowkeymodeler/NumberField" "reverse" "Z" (.int (0 : Int32))) (F3 : Fld Z h0 fa "com/example/rowkey_modeler/rowkeymodeler/DecimalField" "width" "I" (.int (0 : Int32))) (F4 : Fld Z h0 fa "com/example/rowkey_modeler/rowkeymodeler/DecimalField" "largestWritten" "J" (.long (0 : Int64))) (Ga : n0 ≤ fa) (Es : Exa Z h0 fs "java/lang/String") (Fv : Fld Z h0 fs "java/lang/String" "value" "[B" (.ref fb)) (Vb : Ar Z h0 fb .byte 1 ff) (hfr : fr = 0 ∨ fr = 1) :
    MetFree l (⟨"com/example/rowkey_modeler/rowkeymodeler/NumberField", "<init>", "(Ljava/lang/String;Z)V"⟩ : MethodName) (head1 (Jvm.Cond.code (⟨"com/example/rowkey_modeler/rowkeymodeler/NumberField", "<init>", "(Ljava/lang/String;Z)V"⟩ : MethodName) prog_17_method_1_code 3 none :: ws) ({ frames := 2, cells := 0, slots := 0, locals := 25 } : Room)) (fun a U => a = #[(.ref fa), (.ref fs), (.int fr)] ∧ Z.Warmed39 U.vm ∧ U.heap = h0) (fun _ _ _ _ _ => True) (fun _ U o U' => ∃ v L, o = .returned v ∧ Q13 Z fa fs fb ff fr h0 n0 v U'.heap L ∧ FrameEnd U o U' L ({ frames := 2, cells := 0, slots := 0, locals := 25 } : Room).cells ({ frames := 2, cells := 0, slots := 0, locals := 25 } : Room).slots) := by
  refine MetFree.of_bodySF (plainFor_of_name pn_com_example_rowkey_modeler_rowkeymodeler_NumberField) hisR ?_
  intro p e s m args0 below meth c s₁ Bd hml0 hP hK
  obtain ⟨rfl, hZ, hh⟩ := hP
  have hx := Bd.exec
  have hby := Bd.bytes
  have hml : c.maxLocals = 3 := hml0
  have hown : s.vm.findClass "com/example/rowkey_modeler/rowkeymodeler/NumberField" = some m.cls := findClass_of_methodNamed Bd.named
  have hnm := (name_of_methodNamed Bd.named Bd.method).1
  have X0 : Stand p l e ({ frames := 2, cells := 0, slots := 0, locals := 25 } : Room) s m #[(.ref fa), (.ref fs), (.int fr)] below meth c s₁ [] 0 0 := Stand.of_body Bd
  have e0 : s₁.heap = h0 := by rw [← hh, Bd.state]; rfl
  have N0 := Fr.nil n0
  have pre0 : ∀ t, Steps p.tables e below (s₁.setTop (mkF m 0 #[.val (.ref fa), .val (.ref fs), .val (.int fr)] [])) t → Steps p.tables e below (s₁.setTop (entryFrame m #[(.ref fa), (.ref fs), (.int fr)] 3)) t := fun t kk_ => castTop (ef_13 m fa fs fr) kk_
  have s15 : ∀ t, Steps p.tables e below (s₁.setTop (mkF m 2 #[.val (.ref fa), .val (.ref fs), .val (.int fr)] [(.ref fs), (.ref fa)])) t → Steps p.tables e below (s₁.setTop (mkF m 0 #[.val (.ref fa), .val (.ref fs), .val (.int fr)] [])) t := by
    intro t kt
    refine XS.aloadN X0.here hx rfl (hb hby d13_0) rfl rfl ?_
    show Steps p.tables e below (s₁.setTop (mkF m 1 #[.val (.ref fa), .val (.ref fs), .val (.int fr)] [(.ref fa)])) t
    refine XS.aloadN X0.here hx rfl (hb hby d13_1) rfl rfl ?_
    exact kt
  obtain ⟨_, _, ⟨T16, L16, k16, n16⟩, -, X16, ⟨Lc16, hQ16, l16, y16, z16⟩, st16⟩ := X0.specialBack hx (y := (⟨"com/example/rowkey_modeler/rowkeymodeler/KeyField", "<init>", "(Ljava/lang/String;)V"⟩ : MethodName)) rfl hown (mvT hZ (hw _ (List.mem_of_getElem? (i := 40) rfl))) (mvT hZ (hw _ (List.mem_of_getElem? (i := 41) rfl))) (mvT hZ (hw _ (List.mem_of_getElem? (i := 44) rfl))) (by decide) (backOf (W := 0) (rm12 l Z a0 hw [] fa fs fb _ h0 n0 Z0 Ea F1 F2 F3 F4 Ga Es Fv Vb) hZ (hw _ (List.mem_of_getElem? (i := 44) rfl)) (hw _ (List.mem_of_getElem? (i := 43) rfl)) (by decide) (by decide)) (g := (mkF m 2 #[.val (.ref fa), .val (.ref fs), .val (.int fr)] [(.ref fs), (.ref fa)])) rfl (by rw [hml]; rfl) (Steps.refl _) (a := fa) (argsL := [(.ref fs)]) (rest := []) (lenOf pd_oLjava_lang_StringscV rfl) rfl (by show 2 * 0 + _ ≤ _; exact Nat.le_of_eq rfl) (hb hby d13_2) (fun _ _ => ⟨rfl, e0, (by decide : 0 + 0 ≤ _), (by decide : 0 + 0 ≤ _)⟩)
  dsimp only [Pt.U, Pt.locs, Pt.cells, Pt.slots] at X16 l16 y16 z16 st16 hQ16
  rw [l16, y16, z16] at X16
  obtain ⟨hv16, N16q, Kc16, fE17, fF18, fF19, fF20⟩ := hQ16
  rw [hv16] at st16
  have N16 := Fr.app N0 N16q
  have Zs16 : n0 ≤ T16.heap.size := Nat.le_trans Z0 Kc16.1
  have K16 : Keep h0 T16.heap [fa] := (Keep.refl h0 [fa]).trans Kc16 (allS (Or.inl (List.mem_of_getElem? (i := 0) rfl)) all0)
  have s21 : ∀ t, Steps p.tables e below (T16.setTop (mkF m 7 #[.val (.ref fa), .val (.ref fs), .val (.int fr)] [(.int fr), (.ref fa)])) t → Steps p.tables e below (T16.setTop (mkF m 5 #[.val (.ref fa), .val (.ref fs), .val (.int fr)] [])) t := by
    intro t kt
    refine XS.aloadN X16.here hx rfl (hb hby d13_5) rfl rfl ?_
    show Steps p.tables e below (T16.setTop (mkF m 6 #[.val (.ref fa), .val (.ref fs), .val (.int fr)] [(.ref fa)])) t
    refine XS.iloadN X16.here hx rfl (hb hby d13_6) rfl ?_
    exact kt
  obtain ⟨T22, h22, X22, e22, W22, st22⟩ := putFN X16 hx hZ hown (hw _ (List.mem_of_getElem? (i := 56) rfl)) Via.refl rfl fF18 fE17 (Or.inr ⟨(hw _ (List.mem_of_getElem? (i := 57) rfl)), rfl, hnm⟩) (hw _ (List.mem_of_getElem? (i := 22) rfl)) (ty := .boolean) (v' := (.int fr)) (by decide) (by rcases hfr with rfl | rfl <;> rfl) (by rcases hfr with rfl | rfl <;> rfl) (g := (mkF m 7 #[.val (.ref fa), .val (.ref fs), .val (.int fr)] [(.int fr), (.ref fa)])) rfl rfl (hb hby d13_7)
  have Zs22 : n0 ≤ h22.size := Nat.le_trans Zs16 (Keep.of_wr W22).1
  have fE23 := fE17.wr W22
  have fF24 := fF18.same W22
  have fF25 := fF19.other W22 (Or.inr (slot_ne (Or.inr (hw _ (List.mem_of_getElem? (i := 59) rfl))) (Or.inr (hw _ (List.mem_of_getElem? (i := 57) rfl))) (by decide) (t := .int) (t' := .boolean) (by decide) (by decide)))
  have fF26 := fF20.other W22 (Or.inr (slot_ne (Or.inr (hw _ (List.mem_of_getElem? (i := 63) rfl))) (Or.inr (hw _ (List.mem_of_getElem? (i := 57) rfl))) (by decide) (t := .long) (t' := .boolean) (by decide) (by decide)))
  have K22 : Keep h0 h22 [fa] := K16.wr W22 (Or.inl (List.mem_of_getElem? (i := 0) rfl))
  have N22 := Fr.snoc X22 N16 Ga
  obtain ⟨fs_, hr, hrun, hended, hW, hsame⟩ := X22.leave (hlocks := BodyLoose.notSynchronized Bd) (v := none) (fun _ => rfl)
  refine ⟨_, _, pre0 _ (s15 _ (st16.trans (s21 _ (st22 _ (?_))))), hrun, hended, _, _, rfl, ?_, ⟨_, rfl⟩, hW, hsame.mono (by decide) (by decide)⟩
  · show Steps p.tables e below (T22.setTop (mkF m 10 #[.val (.ref fa), .val (.ref fs), .val (.int fr)] [])) _
    exact X22.returnOut hx Bd.returns (hb hby d13_10) hr
  · show Q13 Z fa fs fb ff fr h0 n0 _ T22.heap _
    rw [e22]
    exact ⟨rfl, N22, K22, fE23, fF24, fF25, fF26⟩
def Q14 (Z : State) (fa fs fb : Addr) (ff : Nat → Value) (fw : Int32) (fr : Int32) (h0 : Heap) (n0 : Nat) (v : Option Value) (h : Heap) (L : List Loc) : Prop := v = none ∧ Fr n0 L ∧ Keep h0 h [fa] ∧ Exa Z h fa "com/example/rowkey_modeler/rowkeymodeler/DecimalField" ∧ Fld Z h fa "com/example/rowkey_modeler/rowkeymodeler/NumberField" "reverse" "Z" (.int fr) ∧ Fld Z h fa "com/example/rowkey_modeler/rowkeymodeler/DecimalField" "width" "I" (.int fw) ∧ Fld Z h fa "com/example/rowkey_modeler/rowkeymodeler/DecimalField" "largestWritten" "J" (.long (if fw < (19 : Int32) then (own_p10 fw.toInt.toNat (1 : Int64)) - (1 : Int64) else (9223372036854775807 : Int64)))
set_option maxRecDepth 65536 in
set_option maxHeartbeats 40000000 in
theorem rm14 (l : Launch) (Z : State) (a0 : Array Value) (hw : ∀ d ∈ tables_1, d.before a0 Z = true) (ws : List Jvm.Cond) (fa fs fb : Addr) (ff : Nat → Value) (fw : Int32) (fr : Int32) (h0 : Heap) (n0 : Nat) (Z0 : n0 ≤ h0.size) (Ea : Exa Z h0 fa "com/example/rowkey_modeler/rowkeymodeler/DecimalField") (F1 : Fld Z h0 fa "com/example/rowkey_modeler/rowkeymodeler/KeyField" "name" "Ljava/lang/String;" .null) (F2 : Fld Z h0 fa "com/example/rowkey_modeler/rowkeymodeler/NumberField" "reverse" "Z" (.int (0 : Int32))) (F3 : Fld Z h0 fa "com/example/rowkey_modeler/rowkeymodeler/DecimalField" "width" "I" (.int (0 : Int32))) (F4 : Fld Z h0 fa "com/example/rowkey_modeler/rowkeymodeler/DecimalField" "largestWritten" "J" (.long (0 : Int64))) (Ga : n0 ≤ fa) (Es : Exa Z h0 fs "java/lang/String") (Fv : Fld Z h0 fs "java/lang/String" "value" "[B" (.ref fb)) (Vb : Ar Z h0 fb .byte 1 ff) (hfr : fr = 0 ∨ fr = 1) (hw1 : 1 ≤ fw.toInt) (hw19 : fw.toInt ≤ 19) :
    MetFree l (⟨"com/example/rowkey_modeler/rowkeymodeler/DecimalField", "<init>", "(Ljava/lang/String;IZ)V"⟩ : MethodName) (head1 (Jvm.Cond.code (⟨"com/example/rowkey_modeler/rowkeymodeler/DecimalField", "<init>", "(Ljava/lang/String;IZ)V"⟩ : MethodName) prog_6_method_1_code 7 none :: ws) ({ frames := 3, cells := 0, slots := 0, locals := 39 } : Room)) (fun a U => a = #[(.ref fa), (.ref fs), (.int fw), (.int fr)] ∧ Z.Warmed39 U.vm ∧ U.heap = h0) (fun _ _ _ _ _ => True) (fun _ U o U' => ∃ v L, o = .returned v ∧ Q14 Z fa fs fb ff fw fr h0 n0 v U'.heap L ∧ FrameEnd U o U' L ({ frames := 3, cells := 0, slots := 0, locals := 39 } : Room).cells ({ frames := 3, cells := 0, slots := 0, locals := 39 } : Room).slots) := by
  refine MetFree.of_bodySF (plainFor_of_name pn_com_example_rowkey_modeler_rowkeymodeler_DecimalField) hisR ?_
  intro p e s m args0 below meth c s₁ Bd hml0 hP hK
  obtain ⟨rfl, hZ, hh⟩ := hP
  have hx := Bd.exec
  have hby := Bd.bytes
  have hml : c.maxLocals = 7 := hml0
  have hown : s.vm.findClass "com/example/rowkey_modeler/rowkeymodeler/DecimalField" = some m.cls := findClass_of_methodNamed Bd.named
  have hnm := (name_of_methodNamed Bd.named Bd.method).1
  have X0 : Stand p l e ({ frames := 3, cells := 0, slots := 0, locals := 39 } : Room) s m #[(.ref fa), (.ref fs), (.int fw), (.int fr)] below meth c s₁ [] 0 0 := Stand.of_body Bd
  have e0 : s₁.heap = h0 := by rw [← hh, Bd.state]; rfl
  have N0 := Fr.nil n0
  have pre0 : ∀ t, Steps p.tables e below (s₁.setTop (mkF m 0 #[.val (.ref fa), .val (.ref fs), .val (.int fw), .val (.int fr), .unset, .unset, .unset] [])) t → Steps p.tables e below (s₁.setTop (entryFrame m #[(.ref fa), (.ref fs), (.int fw), (.int fr)] 7)) t := fun t kk_ => castTop (ef_14 m fa fs fw fr) kk_
  have s27 : ∀ t, Steps p.tables e below (s₁.setTop (mkF m 3 #[.val (.ref fa), .val (.ref fs), .val (.int fw), .val (.int fr), .unset, .unset, .unset] [(.int fr), (.ref fs), (.ref fa)])) t → Steps p.tables e below (s₁.setTop (mkF m 0 #[.val (.ref fa), .val (.ref fs), .val (.int fw), .val (.int fr), .unset, .unset, .unset] [])) t := by
    intro t kt
    refine XS.aloadN X0.here hx rfl (hb hby d14_0) rfl rfl ?_
    show Steps p.tables e below (s₁.setTop (mkF m 1 #[.val (.ref fa), .val (.ref fs), .val (.int fw), .val (.int fr), .unset, .unset, .unset] [(.ref fa)])) t
    refine XS.aloadN X0.here hx rfl (hb hby d14_1) rfl rfl ?_
    show Steps p.tables e below (s₁.setTop (mkF m 2 #[.val (.ref fa), .val (.ref fs), .val (.int fw), .val (.int fr), .unset, .unset, .unset] [(.ref fs), (.ref fa)])) t
    refine XS.iloadN X0.here hx rfl (hb hby d14_2) rfl ?_
    exact kt
  obtain ⟨_, _, ⟨T28, L28, k28, n28⟩, -, X28, ⟨Lc28, hQ28, l28, y28, z28⟩, st28⟩ := X0.specialBack hx (y := (⟨"com/example/rowkey_modeler/rowkeymodeler/NumberField", "<init>", "(Ljava/lang/String;Z)V"⟩ : MethodName)) rfl hown (mvT hZ (hw _ (List.mem_of_getElem? (i := 35) rfl))) (mvT hZ (hw _ (List.mem_of_getElem? (i := 36) rfl))) (mvT hZ (hw _ (List.mem_of_getElem? (i := 39) rfl))) (by decide) (backOf (W := 0) (rm13 l Z a0 hw [] fa fs fb _ fr h0 n0 Z0 Ea F1 F2 F3 F4 Ga Es Fv Vb hfr) hZ (hw _ (List.mem_of_getElem? (i := 39) rfl)) (hw _ (List.mem_of_getElem? (i := 38) rfl)) (by decide) (by decide)) (g := (mkF m 3 #[.val (.ref fa), .val (.ref fs), .val (.int fw), .val (.int fr), .unset, .unset, .unset] [(.int fr), (.ref fs), (.ref fa)])) rfl (by rw [hml]; rfl) (Steps.refl _) (a := fa) (argsL := [(.ref fs), (.int fr)]) (rest := []) (lenOf pd_oLjava_lang_StringsZcV rfl) rfl (by show 2 * 0 + _ ≤ _; exact Nat.le_of_eq rfl) (hb hby d14_3) (fun _ _ => ⟨rfl, e0, (by decide : 0 + 0 ≤ _), (by decide : 0 + 0 ≤ _)⟩)
  dsimp only [Pt.U, Pt.locs, Pt.cells, Pt.slots] at X28 l28 y28 z28 st28 hQ28
  rw [l28, y28, z28] at X28
  obtain ⟨hv28, N28q, Kc28, fE29, fF30, fF31, fF32⟩ := hQ28
  rw [hv28] at st28
  have N28 := Fr.app N0 N28q
  have Zs28 : n0 ≤ T28.heap.size := Nat.le_trans Z0 Kc28.1
  have K28 : Keep h0 T28.heap [fa] := (Keep.refl h0 [fa]).trans Kc28 (allS (Or.inl (List.mem_of_getElem? (i := 0) rfl)) all0)
  have s33 : ∀ t, Steps p.tables e below (T28.setTop (mkF m 8 #[.val (.ref fa), .val (.ref fs), .val (.int fw), .val (.int fr), .unset, .unset, .unset] [(.int (1 : Int32)), (.int fw)])) t → Steps p.tables e below (T28.setTop (mkF m 6 #[.val (.ref fa), .val (.ref fs), .val (.int fw), .val (.int fr), .unset, .unset, .unset] [])) t := by
    intro t kt
    refine XS.iloadN X28.here hx rfl (hb hby d14_6) rfl ?_
    show Steps p.tables e below (T28.setTop (mkF m 7 #[.val (.ref fa), .val (.ref fs), .val (.int fw), .val (.int fr), .unset, .unset, .unset] [(.int fw)])) t
    refine XS.iconst X28.here hx rfl (hb hby d14_7) ?_
    exact kt
  have hwA : ¬ (fw < (1 : Int32)) := by rw [Int32.lt_iff_toInt_lt]; show ¬ (_ < (1 : Int)); omega
  have s34 : ∀ t, Steps p.tables e below (T28.setTop (mkF m 14 #[.val (.ref fa), .val (.ref fs), .val (.int fw), .val (.int fr), .unset, .unset, .unset] [(.int (19 : Int32)), (.int fw)])) t → Steps p.tables e below (T28.setTop (mkF m 8 #[.val (.ref fa), .val (.ref fs), .val (.int fw), .val (.int fr), .unset, .unset, .unset] [(.int (1 : Int32)), (.int fw)])) t := by
    intro t kt
    refine XS.icmpNo X28.here hx rfl (hb hby d14_8) rfl (flt hwA).1 ?_
    show Steps p.tables e below (T28.setTop (mkF m 11 #[.val (.ref fa), .val (.ref fs), .val (.int fw), .val (.int fr), .unset, .unset, .unset] [])) t
    refine XS.iloadN X28.here hx rfl (hb hby d14_11) rfl ?_
    show Steps p.tables e below (T28.setTop (mkF m 12 #[.val (.ref fa), .val (.ref fs), .val (.int fw), .val (.int fr), .unset, .unset, .unset] [(.int fw)])) t
    refine XS.bipush X28.here hx rfl (hb hby d14_12) ?_
    exact kt
  have hwB : ¬ ((19 : Int32) < fw) := by rw [Int32.lt_iff_toInt_lt]; show ¬ ((19 : Int) < _); omega
  have s35 : ∀ t, Steps p.tables e below (T28.setTop (mkF m 33 #[.val (.ref fa), .val (.ref fs), .val (.int fw), .val (.int fr), .unset, .unset, .unset] [(.int fw), (.ref fa)])) t → Steps p.tables e below (T28.setTop (mkF m 14 #[.val (.ref fa), .val (.ref fs), .val (.int fw), .val (.int fr), .unset, .unset, .unset] [(.int (19 : Int32)), (.int fw)])) t := by
    intro t kt
    refine XS.icmpYes X28.here hx rfl (pc0 := 14) (pc' := 31) rfl (hb hby d14_14) rfl (flt hwB).2.2.2 (by decide) (by decide) ?_
    show Steps p.tables e below (T28.setTop (mkF m 31 #[.val (.ref fa), .val (.ref fs), .val (.int fw), .val (.int fr), .unset, .unset, .unset] [])) t
    refine XS.aloadN X28.here hx rfl (hb hby d14_31) rfl rfl ?_
    show Steps p.tables e below (T28.setTop (mkF m 32 #[.val (.ref fa), .val (.ref fs), .val (.int fw), .val (.int fr), .unset, .unset, .unset] [(.ref fa)])) t
    refine XS.iloadN X28.here hx rfl (hb hby d14_32) rfl ?_
    exact kt
  obtain ⟨T36, h36, X36, e36, W36, st36⟩ := putF X28 hx hZ hown (host := "") (Or.inl (hw _ (List.mem_of_getElem? (i := 58) rfl))) Via.refl rfl fF31 fE29 (Or.inr ⟨(hw _ (List.mem_of_getElem? (i := 59) rfl)), rfl, hnm⟩) (hw _ (List.mem_of_getElem? (i := 22) rfl)) (ty := .int) (by decide) rfl rfl (g := (mkF m 33 #[.val (.ref fa), .val (.ref fs), .val (.int fw), .val (.int fr), .unset, .unset, .unset] [(.int fw), (.ref fa)])) rfl rfl (hb hby d14_33)
  have Zs36 : n0 ≤ h36.size := Nat.le_trans Zs28 (Keep.of_wr W36).1
  have fE37 := fE29.wr W36
  have fF38 := fF30.other W36 (Or.inr (slot_ne (Or.inr (hw _ (List.mem_of_getElem? (i := 57) rfl))) (Or.inr (hw _ (List.mem_of_getElem? (i := 59) rfl))) (by decide) (t := .boolean) (t' := .int) (by decide) (by decide)))
  have fF39 := fF31.same W36
  have fF40 := fF32.other W36 (Or.inr (slot_ne (Or.inr (hw _ (List.mem_of_getElem? (i := 63) rfl))) (Or.inr (hw _ (List.mem_of_getElem? (i := 59) rfl))) (by decide) (t := .long) (t' := .int) (by decide) (by decide)))
  have K36 : Keep h0 h36 [fa] := K28.wr W36 (Or.inl (List.mem_of_getElem? (i := 0) rfl))
  have N36 := Fr.snoc X36 N28 Ga
  have s41 : ∀ t, Steps p.tables e below (T36.setTop (mkF m 44 #[.val (.ref fa), .val (.ref fs), .val (.int fw), .val (.int fr), .val (.long (9223372036854775807 : Int64)), .second, .unset] [(.int (19 : Int32)), (.int fw)])) t → Steps p.tables e below (T36.setTop (mkF m 36 #[.val (.ref fa), .val (.ref fs), .val (.int fw), .val (.int fr), .unset, .unset, .unset] [])) t := by
    intro t kt
    refine X36.ldc2Long hx hown (mvT hZ (hw _ (List.mem_of_getElem? (i := 60) rfl))) (g := (mkF m 36 #[.val (.ref fa), .val (.ref fs), .val (.int fw), .val (.int fr), .unset, .unset, .unset] [])) rfl (hb hby d14_36) _ ?_
    show Steps p.tables e below (T36.setTop (mkF m 39 #[.val (.ref fa), .val (.ref fs), .val (.int fw), .val (.int fr), .unset, .unset, .unset] [(.long (9223372036854775807 : Int64))])) t
    refine XS.lstore X36.here hx rfl (hb hby d14_39) rfl (l' := #[.val (.ref fa), .val (.ref fs), .val (.int fw), .val (.int fr), .val (.long (9223372036854775807 : Int64)), .second, .unset]) rfl ?_
    show Steps p.tables e below (T36.setTop (mkF m 41 #[.val (.ref fa), .val (.ref fs), .val (.int fw), .val (.int fr), .val (.long (9223372036854775807 : Int64)), .second, .unset] [])) t
    refine XS.iloadN X36.here hx rfl (hb hby d14_41) rfl ?_
    show Steps p.tables e below (T36.setTop (mkF m 42 #[.val (.ref fa), .val (.ref fs), .val (.int fw), .val (.int fr), .val (.long (9223372036854775807 : Int64)), .second, .unset] [(.int fw)])) t
    refine XS.bipush X36.here hx rfl (hb hby d14_42) ?_
    exact kt
  by_cases c42 : fw < (19 : Int32)
  ·
    have s43 : ∀ t, Steps p.tables e below (T36.setTop (mkF m 53 #[.val (.ref fa), .val (.ref fs), .val (.int fw), .val (.int fr), .val (.long (1 : Int64)), .second, .val (.int (0 : Int32))] [])) t → Steps p.tables e below (T36.setTop (mkF m 44 #[.val (.ref fa), .val (.ref fs), .val (.int fw), .val (.int fr), .val (.long (9223372036854775807 : Int64)), .second, .unset] [(.int (19 : Int32)), (.int fw)])) t := by
      intro t kt
      refine XS.icmpNo X36.here hx rfl (hb hby d14_44) rfl (tlt c42).2.1 ?_
      show Steps p.tables e below (T36.setTop (mkF m 47 #[.val (.ref fa), .val (.ref fs), .val (.int fw), .val (.int fr), .val (.long (9223372036854775807 : Int64)), .second, .unset] [])) t
      refine XS.lconst X36.here hx rfl (hb hby d14_47) ?_
      show Steps p.tables e below (T36.setTop (mkF m 48 #[.val (.ref fa), .val (.ref fs), .val (.int fw), .val (.int fr), .val (.long (9223372036854775807 : Int64)), .second, .unset] [(.long (1 : Int64))])) t
      refine XS.lstore X36.here hx rfl (hb hby d14_48) rfl (l' := #[.val (.ref fa), .val (.ref fs), .val (.int fw), .val (.int fr), .val (.long (1 : Int64)), .second, .unset]) rfl ?_
      show Steps p.tables e below (T36.setTop (mkF m 50 #[.val (.ref fa), .val (.ref fs), .val (.int fw), .val (.int fr), .val (.long (1 : Int64)), .second, .unset] [])) t
      refine XS.iconst X36.here hx rfl (hb hby d14_50) ?_
      show Steps p.tables e below (T36.setTop (mkF m 51 #[.val (.ref fa), .val (.ref fs), .val (.int fw), .val (.int fr), .val (.long (1 : Int64)), .second, .unset] [(.int (0 : Int32))])) t
      refine XS.istore X36.here hx rfl (hb hby d14_51) rfl (l' := #[.val (.ref fa), .val (.ref fs), .val (.int fw), .val (.int fr), .val (.long (1 : Int64)), .second, .val (.int (0 : Int32))]) rfl ?_
      exact kt
    have loop : ∀ (k : Nat) (ac : Int64) (i : Int32), 0 ≤ i.toInt → i.toInt + k = fw.toInt → ∀ t, Steps p.tables e below (T36.setTop (mkF m 73 #[.val (.ref fa), .val (.ref fs), .val (.int fw), .val (.int fr), .val (.long (own_p10 k ac)), .second, .val (.int fw)] [])) t → Steps p.tables e below (T36.setTop (mkF m 53 #[.val (.ref fa), .val (.ref fs), .val (.int fw), .val (.int fr), .val (.long ac), .second, .val (.int i)] [])) t := by
      intro k
      induction k with
      | zero =>
        intro ac i q0 q1 t kt
        obtain rfl : fw = i := Int32.toInt_inj.mp (by omega)
        refine XS.iload X36.here hx rfl (hb hby d14_53) rfl ?_
        show Steps p.tables e below (T36.setTop (mkF m 55 #[.val (.ref fa), .val (.ref fs), .val (.int fw), .val (.int fr), .val (.long ac), .second, .val (.int fw)] [(.int fw)])) t
        refine XS.iloadN X36.here hx rfl (hb hby d14_55) rfl ?_
        show Steps p.tables e below (T36.setTop (mkF m 56 #[.val (.ref fa), .val (.ref fs), .val (.int fw), .val (.int fr), .val (.long ac), .second, .val (.int fw)] [(.int fw), (.int fw)])) t
        refine XS.icmpYes X36.here hx rfl (pc0 := 56) (pc' := 73) rfl (hb hby d14_56) rfl (flt (by rw [Int32.lt_iff_toInt_lt]; omega)).2.1 (by decide) (by decide) ?_
        exact kt
      | succ k ih =>
        intro ac i q0 q1 t kt
        refine XS.iload X36.here hx rfl (hb hby d14_53) rfl ?_
        show Steps p.tables e below (T36.setTop (mkF m 55 #[.val (.ref fa), .val (.ref fs), .val (.int fw), .val (.int fr), .val (.long ac), .second, .val (.int i)] [(.int i)])) t
        refine XS.iloadN X36.here hx rfl (hb hby d14_55) rfl ?_
        show Steps p.tables e below (T36.setTop (mkF m 56 #[.val (.ref fa), .val (.ref fs), .val (.int fw), .val (.int fr), .val (.long ac), .second, .val (.int i)] [(.int fw), (.int i)])) t
        refine XS.icmpNo X36.here hx rfl (hb hby d14_56) rfl (tlt (by rw [Int32.lt_iff_toInt_lt]; omega)).2.1 ?_
        show Steps p.tables e below (T36.setTop (mkF m 59 #[.val (.ref fa), .val (.ref fs), .val (.int fw), .val (.int fr), .val (.long ac), .second, .val (.int i)] [])) t
        refine XS.lload X36.here hx rfl (hb hby d14_59) rfl ?_
        show Steps p.tables e below (T36.setTop (mkF m 61 #[.val (.ref fa), .val (.ref fs), .val (.int fw), .val (.int fr), .val (.long ac), .second, .val (.int i)] [(.long ac)])) t
        refine X36.ldc2Long hx hown (mvT hZ (hw _ (List.mem_of_getElem? (i := 61) rfl))) (g := (mkF m 61 #[.val (.ref fa), .val (.ref fs), .val (.int fw), .val (.int fr), .val (.long ac), .second, .val (.int i)] [(.long ac)])) rfl (hb hby d14_61) _ ?_
        show Steps p.tables e below (T36.setTop (mkF m 64 #[.val (.ref fa), .val (.ref fs), .val (.int fw), .val (.int fr), .val (.long ac), .second, .val (.int i)] [(.long (10 : Int64)), (.long ac)])) t
        refine XS.lmul X36.here hx rfl (hb hby d14_64) rfl ?_
        show Steps p.tables e below (T36.setTop (mkF m 65 #[.val (.ref fa), .val (.ref fs), .val (.int fw), .val (.int fr), .val (.long ac), .second, .val (.int i)] [(.long (ac * (10 : Int64)))])) t
        refine XS.lstore X36.here hx rfl (hb hby d14_65) rfl (l' := #[.val (.ref fa), .val (.ref fs), .val (.int fw), .val (.int fr), .val (.long (ac * (10 : Int64))), .second, .val (.int i)]) rfl ?_
        show Steps p.tables e below (T36.setTop (mkF m 67 #[.val (.ref fa), .val (.ref fs), .val (.int fw), .val (.int fr), .val (.long (ac * (10 : Int64))), .second, .val (.int i)] [])) t
        refine XS.iinc X36.here hx rfl (hb hby d14_67) rfl (l' := #[.val (.ref fa), .val (.ref fs), .val (.int fw), .val (.int fr), .val (.long (ac * (10 : Int64))), .second, .val (.int (i + (1 : Int32)))]) rfl ?_
        show Steps p.tables e below (T36.setTop (mkF m 70 #[.val (.ref fa), .val (.ref fs), .val (.int fw), .val (.int fr), .val (.long (ac * (10 : Int64))), .second, .val (.int (i + (1 : Int32)))] [])) t
        refine XS.goto X36.here hx rfl (pc0 := 70) (pc' := 53) rfl (hb hby d14_70) (by decide) (by decide) ?_
        have q2 : (i + (1 : Int32)).toInt = i.toInt + 1 := by
          have r := fw.toInt_lt
          rw [Int32.toInt_add]; show (i.toInt + 1).bmod (2 ^ 32) = _; rw [Int.bmod_def]; omega
        exact ih (ac * (10 : Int64)) (i + (1 : Int32)) (by omega) (by omega) t kt
    have s44 := loop fw.toInt.toNat (1 : Int64) (0 : Int32) (by decide) (by show (0 : Int) + _ = _; omega)
    have s45 : ∀ t, Steps p.tables e below (T36.setTop (mkF m 82 #[.val (.ref fa), .val (.ref fs), .val (.int fw), .val (.int fr), .val (.long ((own_p10 fw.toInt.toNat (1 : Int64)) - (1 : Int64))), .second, .val (.int fw)] [(.long ((own_p10 fw.toInt.toNat (1 : Int64)) - (1 : Int64))), (.ref fa)])) t → Steps p.tables e below (T36.setTop (mkF m 73 #[.val (.ref fa), .val (.ref fs), .val (.int fw), .val (.int fr), .val (.long (own_p10 fw.toInt.toNat (1 : Int64))), .second, .val (.int fw)] [])) t := by
      intro t kt
      refine XS.lload X36.here hx rfl (hb hby d14_73) rfl ?_
      show Steps p.tables e below (T36.setTop (mkF m 75 #[.val (.ref fa), .val (.ref fs), .val (.int fw), .val (.int fr), .val (.long (own_p10 fw.toInt.toNat (1 : Int64))), .second, .val (.int fw)] [(.long (own_p10 fw.toInt.toNat (1 : Int64)))])) t
      refine XS.lconst X36.here hx rfl (hb hby d14_75) ?_
      show Steps p.tables e below (T36.setTop (mkF m 76 #[.val (.ref fa), .val (.ref fs), .val (.int fw), .val (.int fr), .val (.long (own_p10 fw.toInt.toNat (1 : Int64))), .second, .val (.int fw)] [(.long (1 : Int64)), (.long (own_p10 fw.toInt.toNat (1 : Int64)))])) t
      refine XS.lsub X36.here hx rfl (hb hby d14_76) rfl ?_
      show Steps p.tables e below (T36.setTop (mkF m 77 #[.val (.ref fa), .val (.ref fs), .val (.int fw), .val (.int fr), .val (.long (own_p10 fw.toInt.toNat (1 : Int64))), .second, .val (.int fw)] [(.long ((own_p10 fw.toInt.toNat (1 : Int64)) - (1 : Int64)))])) t
      refine XS.lstore X36.here hx rfl (hb hby d14_77) rfl (l' := #[.val (.ref fa), .val (.ref fs), .val (.int fw), .val (.int fr), .val (.long ((own_p10 fw.toInt.toNat (1 : Int64)) - (1 : Int64))), .second, .val (.int fw)]) rfl ?_
      show Steps p.tables e below (T36.setTop (mkF m 79 #[.val (.ref fa), .val (.ref fs), .val (.int fw), .val (.int fr), .val (.long ((own_p10 fw.toInt.toNat (1 : Int64)) - (1 : Int64))), .second, .val (.int fw)] [])) t
      refine XS.aloadN X36.here hx rfl (hb hby d14_79) rfl rfl ?_
      show Steps p.tables e below (T36.setTop (mkF m 80 #[.val (.ref fa), .val (.ref fs), .val (.int fw), .val (.int fr), .val (.long ((own_p10 fw.toInt.toNat (1 : Int64)) - (1 : Int64))), .second, .val (.int fw)] [(.ref fa)])) t
      refine XS.lload X36.here hx rfl (hb hby d14_80) rfl ?_
      exact kt
    obtain ⟨T46, h46, X46, e46, W46, st46⟩ := putF X36 hx hZ hown (host := "") (Or.inl (hw _ (List.mem_of_getElem? (i := 62) rfl))) Via.refl e36 fF40 fE37 (Or.inr ⟨(hw _ (List.mem_of_getElem? (i := 63) rfl)), rfl, hnm⟩) (hw _ (List.mem_of_getElem? (i := 22) rfl)) (ty := .long) (by decide) rfl rfl (g := (mkF m 82 #[.val (.ref fa), .val (.ref fs), .val (.int fw), .val (.int fr), .val (.long ((own_p10 fw.toInt.toNat (1 : Int64)) - (1 : Int64))), .second, .val (.int fw)] [(.long ((own_p10 fw.toInt.toNat (1 : Int64)) - (1 : Int64))), (.ref fa)])) rfl rfl (hb hby d14_82)
    have Zs46 : n0 ≤ h46.size := Nat.le_trans Zs36 (Keep.of_wr W46).1
    have fE47 := fE37.wr W46
    have fF48 := fF38.other W46 (Or.inr (slot_ne (Or.inr (hw _ (List.mem_of_getElem? (i := 57) rfl))) (Or.inr (hw _ (List.mem_of_getElem? (i := 63) rfl))) (by decide) (t := .boolean) (t' := .long) (by decide) (by decide)))
    have fF49 := fF39.other W46 (Or.inr (slot_ne (Or.inr (hw _ (List.mem_of_getElem? (i := 59) rfl))) (Or.inr (hw _ (List.mem_of_getElem? (i := 63) rfl))) (by decide) (t := .int) (t' := .long) (by decide) (by decide)))
    have fF50 := fF40.same W46
    have K46 : Keep h0 h46 [fa] := K36.wr W46 (Or.inl (List.mem_of_getElem? (i := 0) rfl))
    have N46 := Fr.snoc X46 N36 Ga
    have hlw : (if fw < (19 : Int32) then (own_p10 fw.toInt.toNat (1 : Int64)) - (1 : Int64) else (9223372036854775807 : Int64)) = ((own_p10 fw.toInt.toNat (1 : Int64)) - (1 : Int64)) := if_pos c42
    obtain ⟨fs_, hr, hrun, hended, hW, hsame⟩ := X46.leave (hlocks := BodyLoose.notSynchronized Bd) (v := none) (fun _ => rfl)
    refine ⟨_, _, pre0 _ (s27 _ (st28.trans (s33 _ (s34 _ (s35 _ (st36 _ (s41 _ (s43 _ (s44 _ (s45 _ (st46 _ (?_)))))))))))), hrun, hended, _, _, rfl, ?_, ⟨_, rfl⟩, hW, hsame.mono (by decide) (by decide)⟩
    · show Steps p.tables e below (T46.setTop (mkF m 85 #[.val (.ref fa), .val (.ref fs), .val (.int fw), .val (.int fr), .val (.long ((own_p10 fw.toInt.toNat (1 : Int64)) - (1 : Int64))), .second, .val (.int fw)] [])) _
      exact X46.returnOut hx Bd.returns (hb hby d14_85) hr
    · show Q14 Z fa fs fb ff fw fr h0 n0 _ T46.heap _
      rw [e46]
      show _ ∧ _ ∧ _ ∧ _ ∧ _ ∧ _ ∧ Fld Z h46 fa "com/example/rowkey_modeler/rowkeymodeler/DecimalField" "largestWritten" "J" (.long (if fw < (19 : Int32) then (own_p10 fw.toInt.toNat (1 : Int64)) - (1 : Int64) else (9223372036854775807 : Int64)))
      rw [hlw]
      exact ⟨rfl, N46, K46, fE47, fF48, fF49, fF50⟩
  ·
    have s51 : ∀ t, Steps p.tables e below (T36.setTop (mkF m 82 #[.val (.ref fa), .val (.ref fs), .val (.int fw), .val (.int fr), .val (.long (9223372036854775807 : Int64)), .second, .unset] [(.long (9223372036854775807 : Int64)), (.ref fa)])) t → Steps p.tables e below (T36.setTop (mkF m 44 #[.val (.ref fa), .val (.ref fs), .val (.int fw), .val (.int fr), .val (.long (9223372036854775807 : Int64)), .second, .unset] [(.int (19 : Int32)), (.int fw)])) t := by
      intro t kt
      refine XS.icmpYes X36.here hx rfl (pc0 := 44) (pc' := 79) rfl (hb hby d14_44) rfl (flt c42).2.1 (by decide) (by decide) ?_
      show Steps p.tables e below (T36.setTop (mkF m 79 #[.val (.ref fa), .val (.ref fs), .val (.int fw), .val (.int fr), .val (.long (9223372036854775807 : Int64)), .second, .unset] [])) t
      refine XS.aloadN X36.here hx rfl (hb hby d14_79) rfl rfl ?_
      show Steps p.tables e below (T36.setTop (mkF m 80 #[.val (.ref fa), .val (.ref fs), .val (.int fw), .val (.int fr), .val (.long (9223372036854775807 : Int64)), .second, .unset] [(.ref fa)])) t
      refine XS.lload X36.here hx rfl (hb hby d14_80) rfl ?_
      exact kt
    obtain ⟨T52, h52, X52, e52, W52, st52⟩ := putF X36 hx hZ hown (host := "") (Or.inl (hw _ (List.mem_of_getElem? (i := 62) rfl))) Via.refl e36 fF40 fE37 (Or.inr ⟨(hw _ (List.mem_of_getElem? (i := 63) rfl)), rfl, hnm⟩) (hw _ (List.mem_of_getElem? (i := 22) rfl)) (ty := .long) (by decide) rfl rfl (g := (mkF m 82 #[.val (.ref fa), .val (.ref fs), .val (.int fw), .val (.int fr), .val (.long (9223372036854775807 : Int64)), .second, .unset] [(.long (9223372036854775807 : Int64)), (.ref fa)])) rfl rfl (hb hby d14_82)
    have Zs52 : n0 ≤ h52.size := Nat.le_trans Zs36 (Keep.of_wr W52).1
    have fE53 := fE37.wr W52
    have fF54 := fF38.other W52 (Or.inr (slot_ne (Or.inr (hw _ (List.mem_of_getElem? (i := 57) rfl))) (Or.inr (hw _ (List.mem_of_getElem? (i := 63) rfl))) (by decide) (t := .boolean) (t' := .long) (by decide) (by decide)))
    have fF55 := fF39.other W52 (Or.inr (slot_ne (Or.inr (hw _ (List.mem_of_getElem? (i := 59) rfl))) (Or.inr (hw _ (List.mem_of_getElem? (i := 63) rfl))) (by decide) (t := .int) (t' := .long) (by decide) (by decide)))
    have fF56 := fF40.same W52
    have K52 : Keep h0 h52 [fa] := K36.wr W52 (Or.inl (List.mem_of_getElem? (i := 0) rfl))
    have N52 := Fr.snoc X52 N36 Ga
    have hlw : (if fw < (19 : Int32) then (own_p10 fw.toInt.toNat (1 : Int64)) - (1 : Int64) else (9223372036854775807 : Int64)) = (9223372036854775807 : Int64) := if_neg c42
    obtain ⟨fs_, hr, hrun, hended, hW, hsame⟩ := X52.leave (hlocks := BodyLoose.notSynchronized Bd) (v := none) (fun _ => rfl)
    refine ⟨_, _, pre0 _ (s27 _ (st28.trans (s33 _ (s34 _ (s35 _ (st36 _ (s41 _ (s51 _ (st52 _ (?_)))))))))), hrun, hended, _, _, rfl, ?_, ⟨_, rfl⟩, hW, hsame.mono (by decide) (by decide)⟩
    · show Steps p.tables e below (T52.setTop (mkF m 85 #[.val (.ref fa), .val (.ref fs), .val (.int fw), .val (.int fr), .val (.long (9223372036854775807 : Int64)), .second, .unset] [])) _
      exact X52.returnOut hx Bd.returns (hb hby d14_85) hr
    · show Q14 Z fa fs fb ff fw fr h0 n0 _ T52.heap _
      rw [e52]
      show _ ∧ _ ∧ _ ∧ _ ∧ _ ∧ _ ∧ Fld Z h52 fa "com/example/rowkey_modeler/rowkeymodeler/DecimalField" "largestWritten" "J" (.long (if fw < (19 : Int32) then (own_p10 fw.toInt.toNat (1 : Int64)) - (1 : Int64) else (9223372036854775807 : Int64)))
      rw [hlw]
      exact ⟨rfl, N52, K52, fE53, fF54, fF55, fF56⟩
def Q15 (Z : State) (fa : Addr) (fr : Int32) (h0 : Heap) (n0 : Nat) (v : Option Value) (h : Heap) (L : List Loc) : Prop := v = some (.int fr) ∧ Fr n0 L ∧ h = h0
set_option maxRecDepth 65536 in
set_option maxHeartbeats 40000000 in
theorem rm15 (l : Launch) (Z : State) (a0 : Array Value) (hw : ∀ d ∈ tables_1, d.before a0 Z = true) (ws : List Jvm.Cond) (fa : Addr) (fr : Int32) (h0 : Heap) (n0 : Nat) (Z0 : n0 ≤ h0.size) (F1 : Fld Z h0 fa "com/example/rowkey_modeler/rowkeymodeler/NumberField" "reverse" "Z" (.int fr)) (hfr : fr = 0 ∨ fr = 1) :
    MetFree l (⟨"com/example/rowkey_modeler/rowkeymodeler/NumberField", "reverse", "()Z"⟩ : MethodName) (head1 (Jvm.Cond.code (⟨"com/example/rowkey_modeler/rowkeymodeler/NumberField", "reverse", "()Z"⟩ : MethodName) prog_17_method_2_code 1 (some .boolean) :: ws) ({ frames := 0, cells := 0, slots := 0, locals := 0 } : Room)) (fun a U => a = #[(.ref fa)] ∧ Z.Warmed39 U.vm ∧ U.heap = h0) (fun _ _ _ _ _ => True) (fun _ U o U' => ∃ v L, o = .returned v ∧ Q15 Z fa fr h0 n0 v U'.heap L ∧ FrameEnd U o U' L ({ frames := 0, cells := 0, slots := 0, locals := 0 } : Room).cells ({ frames := 0, cells := 0, slots := 0, locals := 0 } : Room).slots) := by
  refine MetFree.of_bodySF (plainFor_of_name pn_com_example_rowkey_modeler_rowkeymodeler_NumberField) hisR ?_
  intro p e s m args0 below meth c s₁ Bd hml0 hP hK
  obtain ⟨rfl, hZ, hh⟩ := hP
  have hx := Bd.exec
  have hby := Bd.bytes
  have hml : c.maxLocals = 1 := hml0
  have hown : s.vm.findClass "com/example/rowkey_modeler/rowkeymodeler/NumberField" = some m.cls := findClass_of_methodNamed Bd.named
  have hnm := (name_of_methodNamed Bd.named Bd.method).1
  have X0 : Stand p l e ({ frames := 0, cells := 0, slots := 0, locals := 0 } : Room) s m #[(.ref fa)] below meth c s₁ [] 0 0 := Stand.of_body Bd
  have e0 : s₁.heap = h0 := by rw [← hh, Bd.state]; rfl
  have N0 := Fr.nil n0
  have pre0 : ∀ t, Steps p.tables e below (s₁.setTop (mkF m 0 #[.val (.ref fa)] [])) t → Steps p.tables e below (s₁.setTop (entryFrame m #[(.ref fa)] 1)) t := fun t kk_ => castTop (ef_15 m fa) kk_
  have s57 : ∀ t, Steps p.tables e below (s₁.setTop (mkF m 1 #[.val (.ref fa)] [(.ref fa)])) t → Steps p.tables e below (s₁.setTop (mkF m 0 #[.val (.ref fa)] [])) t := by
    intro t kt
    refine XS.aloadN X0.here hx rfl (hb hby d15_0) rfl rfl ?_
    exact kt
  obtain ⟨T58, X58, e58, st58⟩ := getF X0 hx hZ hown (host := "") (Or.inl (hw _ (List.mem_of_getElem? (i := 56) rfl))) Via.refl e0 F1 (g := (mkF m 1 #[.val (.ref fa)] [(.ref fa)])) rfl rfl (hb hby d15_1)
  obtain ⟨fs_, hr, hrun, hended, hW, hsame⟩ := X58.leave (hlocks := BodyLoose.notSynchronized Bd) (v := some (.int fr)) (fun h => by rw [Bd.returns] at h; cases h)
  refine ⟨_, _, pre0 _ (s57 _ (st58 _ (?_))), hrun, hended, _, _, rfl, ?_, ⟨_, rfl⟩, hW, hsame.mono (by decide) (by decide)⟩
  · show Steps p.tables e below (T58.setTop (mkF m 4 #[.val (.ref fa)] [(.int fr)])) _
    exact retN X58 hx (t := .boolean) Bd.returns (by simp) (hb hby d15_4) (fun f acts q1 q2 q3 => by rw [show nar .boolean fr = fr from by rcases hfr with rfl | rfl <;> rfl]; exact hr f acts q1 q2 q3)
  · show Q15 Z fa fr h0 n0 _ T58.heap _
    rw [e58]
    exact ⟨rfl, N0, rfl⟩
def Q16 (Z : State) (fa fk : Addr) (fr fw : Int32) (fv : Int64) (fo : Int32) (ff : Nat → Value) (h0 : Heap) (n0 : Nat) (v : Option Value) (h : Heap) (L : List Loc) : Prop := v = none ∧ Fr n0 L ∧ Keep h0 h [fk] ∧ Ar Z h fk .byte 23 (own_out fo.toInt.toNat fw.toInt.toNat (if fr = (0 : Int32) then fv else (9223372036854775807 : Int64) - fv) ff)
set_option maxRecDepth 65536 in
set_option maxHeartbeats 40000000 in
theorem rm16 (l : Launch) (Z : State) (a0 : Array Value) (hw : ∀ d ∈ tables_1, d.before a0 Z = true) (ws : List Jvm.Cond) (fa fk : Addr) (fr fw : Int32) (fv : Int64) (fo : Int32) (ff : Nat → Value) (h0 : Heap) (n0 : Nat) (Z0 : n0 ≤ h0.size) (Ea : Exa Z h0 fa "com/example/rowkey_modeler/rowkeymodeler/DecimalField") (F1 : Fld Z h0 fa "com/example/rowkey_modeler/rowkeymodeler/NumberField" "reverse" "Z" (.int fr)) (F2 : Fld Z h0 fa "com/example/rowkey_modeler/rowkeymodeler/DecimalField" "width" "I" (.int fw)) (Vk : Ar Z h0 fk .byte 23 ff) (Gk : n0 ≤ fk) (hfr : fr = 0 ∨ fr = 1) (hw1 : 1 ≤ fw.toInt) (hw19 : fw.toInt ≤ 19) (ho0 : 0 ≤ fo.toInt) (ho3 : fo.toInt ≤ 3) :
    MetFree l (⟨"com/example/rowkey_modeler/rowkeymodeler/DecimalField", "writeHeld", "(J[BI)V"⟩ : MethodName) (head1 (Jvm.Cond.code (⟨"com/example/rowkey_modeler/rowkeymodeler/DecimalField", "writeHeld", "(J[BI)V"⟩ : MethodName) prog_6_method_6_code 8 none :: ws) ({ frames := 1, cells := 0, slots := 0, locals := 12 } : Room)) (fun a U => a = #[(.ref fa), (.long fv), (.ref fk), (.int fo)] ∧ Z.Warmed39 U.vm ∧ U.heap = h0) (fun _ _ _ _ _ => True) (fun _ U o U' => ∃ v L, o = .returned v ∧ Q16 Z fa fk fr fw fv fo ff h0 n0 v U'.heap L ∧ FrameEnd U o U' L ({ frames := 1, cells := 0, slots := 0, locals := 12 } : Room).cells ({ frames := 1, cells := 0, slots := 0, locals := 12 } : Room).slots) := by
  refine MetFree.of_bodySF (plainFor_of_name pn_com_example_rowkey_modeler_rowkeymodeler_DecimalField) hisR ?_
  intro p e s m args0 below meth c s₁ Bd hml0 hP hK
  obtain ⟨rfl, hZ, hh⟩ := hP
  have hx := Bd.exec
  have hby := Bd.bytes
  have hml : c.maxLocals = 8 := hml0
  have hown : s.vm.findClass "com/example/rowkey_modeler/rowkeymodeler/DecimalField" = some m.cls := findClass_of_methodNamed Bd.named
  have hnm := (name_of_methodNamed Bd.named Bd.method).1
  have X0 : Stand p l e ({ frames := 1, cells := 0, slots := 0, locals := 12 } : Room) s m #[(.ref fa), (.long fv), (.ref fk), (.int fo)] below meth c s₁ [] 0 0 := Stand.of_body Bd
  have e0 : s₁.heap = h0 := by rw [← hh, Bd.state]; rfl
  have N0 := Fr.nil n0
  have pre0 : ∀ t, Steps p.tables e below (s₁.setTop (mkF m 0 #[.val (.ref fa), .val (.long fv), .second, .val (.ref fk), .val (.int fo), .unset, .unset, .unset] [])) t → Steps p.tables e below (s₁.setTop (entryFrame m #[(.ref fa), (.long fv), (.ref fk), (.int fo)] 8)) t := fun t kk_ => castTop (ef_16 m fa fv fk fo) kk_
  have s59 : ∀ t, Steps p.tables e below (s₁.setTop (mkF m 1 #[.val (.ref fa), .val (.long fv), .second, .val (.ref fk), .val (.int fo), .unset, .unset, .unset] [(.ref fa)])) t → Steps p.tables e below (s₁.setTop (mkF m 0 #[.val (.ref fa), .val (.long fv), .second, .val (.ref fk), .val (.int fo), .unset, .unset, .unset] [])) t := by
    intro t kt
    refine XS.aloadN X0.here hx rfl (hb hby d16_0) rfl rfl ?_
    exact kt
  obtain ⟨cq60, kq60, qa60, qb60, qc60⟩ := isOf hZ e0 Ea
  obtain ⟨_, _, ⟨T60, L60, k60, n60⟩, -, X60, ⟨Lc60, hQ60, l60, y60, z60⟩, st60⟩ := X0.virtualBackUp hx (x := (⟨"com/example/rowkey_modeler/rowkeymodeler/DecimalField", "reverse", "()Z"⟩ : MethodName)) (y := (⟨"com/example/rowkey_modeler/rowkeymodeler/NumberField", "reverse", "()Z"⟩ : MethodName)) hown (mvT hZ (hw _ (List.mem_of_getElem? (i := 69) rfl))) (mvT hZ (hw _ (List.mem_of_getElem? (i := 70) rfl))) (mvT hZ (hw _ (List.mem_of_getElem? (i := 71) rfl))) (by decide) (mvT hZ (hw _ (List.mem_of_getElem? (i := 73) rfl))) (mvT hZ (hw _ (List.mem_of_getElem? (i := 72) rfl))) (backOf (W := 0) (rm15 l Z a0 hw [] fa fr h0 n0 Z0 F1 hfr) hZ (hw _ (List.mem_of_getElem? (i := 74) rfl)) (hw _ (List.mem_of_getElem? (i := 38) rfl)) (by decide) (by decide)) qa60 qc60 (g := (mkF m 1 #[.val (.ref fa), .val (.long fv), .second, .val (.ref fk), .val (.int fo), .unset, .unset, .unset] [(.ref fa)])) rfl (by rw [hml]; rfl) (Steps.refl _) (argsL := []) (rest := []) (lenOf pd_ocZ rfl) rfl (by show 2 * 0 + _ ≤ _; exact Nat.le_of_eq rfl) (hb hby d16_1) (fun _ _ => ⟨rfl, e0, (by decide : 0 + 0 ≤ _), (by decide : 0 + 0 ≤ _)⟩)
  dsimp only [Pt.U, Pt.locs, Pt.cells, Pt.slots] at X60 l60 y60 z60 st60 hQ60
  rw [l60, y60, z60] at X60
  obtain ⟨hv60, N60q, e60q⟩ := hQ60
  rw [hv60] at st60
  have N60 := Fr.app N0 N60q
  obtain ⟨w64, hw64, j70⟩ : ∃ (w64 : Int64), w64 = (if fr = (0 : Int32) then fv else ((9223372036854775807 : Int64) - fv)) ∧ ∀ t, Steps p.tables e below (T60.setTop (mkF m 16 #[.val (.ref fa), .val (.long fv), .second, .val (.ref fk), .val (.int fo), .unset, .unset, .unset] [(.long w64)])) t → Steps p.tables e below (T60.setTop (mkF m 4 #[.val (.ref fa), .val (.long fv), .second, .val (.ref fk), .val (.int fo), .unset, .unset, .unset] [(.int fr)])) t := by
    by_cases c61 : fr = (0 : Int32)
    ·
      have s62 : ∀ t, Steps p.tables e below (T60.setTop (mkF m 16 #[.val (.ref fa), .val (.long fv), .second, .val (.ref fk), .val (.int fo), .unset, .unset, .unset] [(.long fv)])) t → Steps p.tables e below (T60.setTop (mkF m 4 #[.val (.ref fa), .val (.long fv), .second, .val (.ref fk), .val (.int fo), .unset, .unset, .unset] [(.int fr)])) t := by
        intro t kt
        refine XS.ifYes X60.here hx rfl (pc0 := 4) (pc' := 15) rfl (hb hby d16_4) rfl ((if0 _ _).trans (teq c61).1) (by decide) (by decide) ?_
        show Steps p.tables e below (T60.setTop (mkF m 15 #[.val (.ref fa), .val (.long fv), .second, .val (.ref fk), .val (.int fo), .unset, .unset, .unset] [])) t
        refine XS.lloadN X60.here hx rfl (hb hby d16_15) rfl ?_
        exact kt
      exact ⟨fv, (if_pos c61).symm, fun t kt => s62 _ (kt)⟩
    ·
      have s63 : ∀ t, Steps p.tables e below (T60.setTop (mkF m 16 #[.val (.ref fa), .val (.long fv), .second, .val (.ref fk), .val (.int fo), .unset, .unset, .unset] [(.long ((9223372036854775807 : Int64) - fv))])) t → Steps p.tables e below (T60.setTop (mkF m 4 #[.val (.ref fa), .val (.long fv), .second, .val (.ref fk), .val (.int fo), .unset, .unset, .unset] [(.int fr)])) t := by
        intro t kt
        refine XS.ifNo X60.here hx rfl (hb hby d16_4) rfl ((if0 _ _).trans (feq c61).1) ?_
        show Steps p.tables e below (T60.setTop (mkF m 7 #[.val (.ref fa), .val (.long fv), .second, .val (.ref fk), .val (.int fo), .unset, .unset, .unset] [])) t
        refine X60.ldc2Long hx hown (mvT hZ (hw _ (List.mem_of_getElem? (i := 60) rfl))) (g := (mkF m 7 #[.val (.ref fa), .val (.long fv), .second, .val (.ref fk), .val (.int fo), .unset, .unset, .unset] [])) rfl (hb hby d16_7) _ ?_
        show Steps p.tables e below (T60.setTop (mkF m 10 #[.val (.ref fa), .val (.long fv), .second, .val (.ref fk), .val (.int fo), .unset, .unset, .unset] [(.long (9223372036854775807 : Int64))])) t
        refine XS.lloadN X60.here hx rfl (hb hby d16_10) rfl ?_
        show Steps p.tables e below (T60.setTop (mkF m 11 #[.val (.ref fa), .val (.long fv), .second, .val (.ref fk), .val (.int fo), .unset, .unset, .unset] [(.long fv), (.long (9223372036854775807 : Int64))])) t
        refine XS.lsub X60.here hx rfl (hb hby d16_11) rfl ?_
        show Steps p.tables e below (T60.setTop (mkF m 12 #[.val (.ref fa), .val (.long fv), .second, .val (.ref fk), .val (.int fo), .unset, .unset, .unset] [(.long ((9223372036854775807 : Int64) - fv))])) t
        refine XS.goto X60.here hx rfl (pc0 := 12) (pc' := 16) rfl (hb hby d16_12) (by decide) (by decide) ?_
        exact kt
      exact ⟨((9223372036854775807 : Int64) - fv), (if_neg c61).symm, fun t kt => s63 _ (kt)⟩
  have s71 : ∀ t, Steps p.tables e below (T60.setTop (mkF m 21 #[.val (.ref fa), .val (.long fv), .second, .val (.ref fk), .val (.int fo), .val (.long w64), .second, .unset] [(.ref fa), (.int fo)])) t → Steps p.tables e below (T60.setTop (mkF m 16 #[.val (.ref fa), .val (.long fv), .second, .val (.ref fk), .val (.int fo), .unset, .unset, .unset] [(.long w64)])) t := by
    intro t kt
    refine XS.lstore X60.here hx rfl (hb hby d16_16) rfl (l' := #[.val (.ref fa), .val (.long fv), .second, .val (.ref fk), .val (.int fo), .val (.long w64), .second, .unset]) rfl ?_
    show Steps p.tables e below (T60.setTop (mkF m 18 #[.val (.ref fa), .val (.long fv), .second, .val (.ref fk), .val (.int fo), .val (.long w64), .second, .unset] [])) t
    refine XS.iload X60.here hx rfl (hb hby d16_18) rfl ?_
    show Steps p.tables e below (T60.setTop (mkF m 20 #[.val (.ref fa), .val (.long fv), .second, .val (.ref fk), .val (.int fo), .val (.long w64), .second, .unset] [(.int fo)])) t
    refine XS.aloadN X60.here hx rfl (hb hby d16_20) rfl rfl ?_
    exact kt
  obtain ⟨T72, X72, e72, st72⟩ := getF X60 hx hZ hown (host := "") (Or.inl (hw _ (List.mem_of_getElem? (i := 58) rfl))) Via.refl e60q F2 (g := (mkF m 21 #[.val (.ref fa), .val (.long fv), .second, .val (.ref fk), .val (.int fo), .val (.long w64), .second, .unset] [(.ref fa), (.int fo)])) rfl rfl (hb hby d16_21)
  have s73 : ∀ t, Steps p.tables e below (T72.setTop (mkF m 29 #[.val (.ref fa), .val (.long fv), .second, .val (.ref fk), .val (.int fo), .val (.long w64), .second, .val (.int ((fo + fw) - (1 : Int32)))] [])) t → Steps p.tables e below (T72.setTop (mkF m 24 #[.val (.ref fa), .val (.long fv), .second, .val (.ref fk), .val (.int fo), .val (.long w64), .second, .unset] [(.int fw), (.int fo)])) t := by
    intro t kt
    refine XS.iadd X72.here hx rfl (hb hby d16_24) rfl ?_
    show Steps p.tables e below (T72.setTop (mkF m 25 #[.val (.ref fa), .val (.long fv), .second, .val (.ref fk), .val (.int fo), .val (.long w64), .second, .unset] [(.int (fo + fw))])) t
    refine XS.iconst X72.here hx rfl (hb hby d16_25) ?_
    show Steps p.tables e below (T72.setTop (mkF m 26 #[.val (.ref fa), .val (.long fv), .second, .val (.ref fk), .val (.int fo), .val (.long w64), .second, .unset] [(.int (1 : Int32)), (.int (fo + fw))])) t
    refine XS.isub X72.here hx rfl (hb hby d16_26) rfl ?_
    show Steps p.tables e below (T72.setTop (mkF m 27 #[.val (.ref fa), .val (.long fv), .second, .val (.ref fk), .val (.int fo), .val (.long w64), .second, .unset] [(.int ((fo + fw) - (1 : Int32)))])) t
    refine XS.istore X72.here hx rfl (hb hby d16_27) rfl (l' := #[.val (.ref fa), .val (.long fv), .second, .val (.ref fk), .val (.int fo), .val (.long w64), .second, .val (.int ((fo + fw) - (1 : Int32)))]) rfl ?_
    exact kt
  have hend : ((fo + fw) - (1 : Int32)).toInt = fo.toInt + fw.toInt - 1 := by
    have e1 : (fo + fw).toInt = fo.toInt + fw.toInt := by rw [Int32.toInt_add, Int.bmod_def]; omega
    rw [Int32.toInt_sub, e1]; show (fo.toInt + fw.toInt - 1).bmod (2 ^ 32) = _; rw [Int.bmod_def]; omega
  have loop : ∀ (k : Nat) (T : State) (lc : List Loc) (h : Heap) (sv : Int64) (j : Int32) (f : Nat → Value), Stand p l e ({ frames := 1, cells := 0, slots := 0, locals := 12 } : Room) s m #[(.ref fa), (.long fv), (.ref fk), (.int fo)] below meth c T lc 0 0 → T.heap = h → Fr n0 lc → n0 ≤ h.size → Keep h0 h [fk] → Ar Z h fk .byte 23 f → j.toInt = fo.toInt + k - 1 → fo.toInt + k ≤ 23 →
      ∃ (T' : State) (lc' : List Loc) (h' : Heap) (sv' : Int64) (j' : Int32), Stand p l e ({ frames := 1, cells := 0, slots := 0, locals := 12 } : Room) s m #[(.ref fa), (.long fv), (.ref fk), (.int fo)] below meth c T' lc' 0 0 ∧ T'.heap = h' ∧ Fr n0 lc' ∧ Keep h0 h' [fk] ∧ Ar Z h' fk .byte 23 (own_out fo.toInt.toNat k sv f) ∧ ∀ t, Steps p.tables e below (T'.setTop (mkF m 66 #[.val (.ref fa), .val (.long fv), .second, .val (.ref fk), .val (.int fo), .val (.long sv'), .second, .val (.int j')] [])) t → Steps p.tables e below (T.setTop (mkF m 29 #[.val (.ref fa), .val (.long fv), .second, .val (.ref fk), .val (.int fo), .val (.long sv), .second, .val (.int j)] [])) t := by
    intro k
    induction k with
    | zero =>
      intro T lc h sv j f X eT N Zs K V q1 q2
      have s74 : ∀ t, Steps p.tables e below (T.setTop (mkF m 66 #[.val (.ref fa), .val (.long fv), .second, .val (.ref fk), .val (.int fo), .val (.long sv), .second, .val (.int j)] [])) t → Steps p.tables e below (T.setTop (mkF m 29 #[.val (.ref fa), .val (.long fv), .second, .val (.ref fk), .val (.int fo), .val (.long sv), .second, .val (.int j)] [])) t := by
        intro t kt
        refine XS.iload X.here hx rfl (hb hby d16_29) rfl ?_
        show Steps p.tables e below (T.setTop (mkF m 31 #[.val (.ref fa), .val (.long fv), .second, .val (.ref fk), .val (.int fo), .val (.long sv), .second, .val (.int j)] [(.int j)])) t
        refine XS.iload X.here hx rfl (hb hby d16_31) rfl ?_
        show Steps p.tables e below (T.setTop (mkF m 33 #[.val (.ref fa), .val (.long fv), .second, .val (.ref fk), .val (.int fo), .val (.long sv), .second, .val (.int j)] [(.int fo), (.int j)])) t
        refine XS.icmpYes X.here hx rfl (pc0 := 33) (pc' := 66) rfl (hb hby d16_33) rfl (tlt (by rw [Int32.lt_iff_toInt_lt]; omega)).1 (by decide) (by decide) ?_
        exact kt
      exact ⟨T, lc, h, sv, j, X, eT, N, K, V.as (fun i _ => (own_out_zero _ _ _ i).symm), fun t kt => s74 _ (kt)⟩
    | succ k ih =>
      intro T lc h sv j f X eT N Zs K V q1 q2
      have s75 : ∀ t, Steps p.tables e below (T.setTop (mkF m 51 #[.val (.ref fa), .val (.long fv), .second, .val (.ref fk), .val (.int fo), .val (.long sv), .second, .val (.int j)] [(.int ((((48 : Int64) + (sv - (sv / (10 : Int64)) * (10 : Int64))).toInt32).toInt8.toInt32)), (.int j), (.ref fk)])) t → Steps p.tables e below (T.setTop (mkF m 29 #[.val (.ref fa), .val (.long fv), .second, .val (.ref fk), .val (.int fo), .val (.long sv), .second, .val (.int j)] [])) t := by
        intro t kt
        refine XS.iload X.here hx rfl (hb hby d16_29) rfl ?_
        show Steps p.tables e below (T.setTop (mkF m 31 #[.val (.ref fa), .val (.long fv), .second, .val (.ref fk), .val (.int fo), .val (.long sv), .second, .val (.int j)] [(.int j)])) t
        refine XS.iload X.here hx rfl (hb hby d16_31) rfl ?_
        show Steps p.tables e below (T.setTop (mkF m 33 #[.val (.ref fa), .val (.long fv), .second, .val (.ref fk), .val (.int fo), .val (.long sv), .second, .val (.int j)] [(.int fo), (.int j)])) t
        refine XS.icmpNo X.here hx rfl (hb hby d16_33) rfl (flt (by rw [Int32.lt_iff_toInt_lt]; omega)).1 ?_
        show Steps p.tables e below (T.setTop (mkF m 36 #[.val (.ref fa), .val (.long fv), .second, .val (.ref fk), .val (.int fo), .val (.long sv), .second, .val (.int j)] [])) t
        refine XS.aloadN X.here hx rfl (hb hby d16_36) rfl rfl ?_
        show Steps p.tables e below (T.setTop (mkF m 37 #[.val (.ref fa), .val (.long fv), .second, .val (.ref fk), .val (.int fo), .val (.long sv), .second, .val (.int j)] [(.ref fk)])) t
        refine XS.iload X.here hx rfl (hb hby d16_37) rfl ?_
        show Steps p.tables e below (T.setTop (mkF m 39 #[.val (.ref fa), .val (.long fv), .second, .val (.ref fk), .val (.int fo), .val (.long sv), .second, .val (.int j)] [(.int j), (.ref fk)])) t
        refine X.ldc2Long hx hown (mvT hZ (hw _ (List.mem_of_getElem? (i := 75) rfl))) (g := (mkF m 39 #[.val (.ref fa), .val (.long fv), .second, .val (.ref fk), .val (.int fo), .val (.long sv), .second, .val (.int j)] [(.int j), (.ref fk)])) rfl (hb hby d16_39) _ ?_
        show Steps p.tables e below (T.setTop (mkF m 42 #[.val (.ref fa), .val (.long fv), .second, .val (.ref fk), .val (.int fo), .val (.long sv), .second, .val (.int j)] [(.long (48 : Int64)), (.int j), (.ref fk)])) t
        refine XS.lload X.here hx rfl (hb hby d16_42) rfl ?_
        show Steps p.tables e below (T.setTop (mkF m 44 #[.val (.ref fa), .val (.long fv), .second, .val (.ref fk), .val (.int fo), .val (.long sv), .second, .val (.int j)] [(.long sv), (.long (48 : Int64)), (.int j), (.ref fk)])) t
        refine X.ldc2Long hx hown (mvT hZ (hw _ (List.mem_of_getElem? (i := 61) rfl))) (g := (mkF m 44 #[.val (.ref fa), .val (.long fv), .second, .val (.ref fk), .val (.int fo), .val (.long sv), .second, .val (.int j)] [(.long sv), (.long (48 : Int64)), (.int j), (.ref fk)])) rfl (hb hby d16_44) _ ?_
        show Steps p.tables e below (T.setTop (mkF m 47 #[.val (.ref fa), .val (.long fv), .second, .val (.ref fk), .val (.int fo), .val (.long sv), .second, .val (.int j)] [(.long (10 : Int64)), (.long sv), (.long (48 : Int64)), (.int j), (.ref fk)])) t
        refine XS.lrem X.here hx rfl (hb hby d16_47) rfl (by decide) ?_
        show Steps p.tables e below (T.setTop (mkF m 48 #[.val (.ref fa), .val (.long fv), .second, .val (.ref fk), .val (.int fo), .val (.long sv), .second, .val (.int j)] [(.long (sv - (sv / (10 : Int64)) * (10 : Int64))), (.long (48 : Int64)), (.int j), (.ref fk)])) t
        refine XS.ladd X.here hx rfl (hb hby d16_48) rfl ?_
        show Steps p.tables e below (T.setTop (mkF m 49 #[.val (.ref fa), .val (.long fv), .second, .val (.ref fk), .val (.int fo), .val (.long sv), .second, .val (.int j)] [(.long ((48 : Int64) + (sv - (sv / (10 : Int64)) * (10 : Int64)))), (.int j), (.ref fk)])) t
        refine XS.l2i X.here hx rfl (hb hby d16_49) rfl ?_
        show Steps p.tables e below (T.setTop (mkF m 50 #[.val (.ref fa), .val (.long fv), .second, .val (.ref fk), .val (.int fo), .val (.long sv), .second, .val (.int j)] [(.int (((48 : Int64) + (sv - (sv / (10 : Int64)) * (10 : Int64))).toInt32)), (.int j), (.ref fk)])) t
        refine XS.i2b X.here hx rfl (hb hby d16_50) rfl ?_
        exact kt
      obtain ⟨T76, h76, X76, e76, W76, V76, st76⟩ := OwnKit.stAB X hx hZ eT V (j := j) (by omega) (by omega) (g := (mkF m 51 #[.val (.ref fa), .val (.long fv), .second, .val (.ref fk), .val (.int fo), .val (.long sv), .second, .val (.int j)] [(.int ((((48 : Int64) + (sv - (sv / (10 : Int64)) * (10 : Int64))).toInt32).toInt8.toInt32)), (.int j), (.ref fk)])) rfl rfl (hb hby d16_51)
      have Zs76 : n0 ≤ h76.size := Nat.le_trans Zs (Keep.of_wr W76).1
      have fV77 := V76
      have K76 : Keep h0 h76 [fk] := K.wr W76 (Or.inl (List.mem_of_getElem? (i := 0) rfl))
      have N76 := Fr.snoc X76 N Gk
      have s78 : ∀ t, Steps p.tables e below (T76.setTop (mkF m 29 #[.val (.ref fa), .val (.long fv), .second, .val (.ref fk), .val (.int fo), .val (.long (sv / (10 : Int64))), .second, .val (.int (j + (-1 : Int32)))] [])) t → Steps p.tables e below (T76.setTop (mkF m 52 #[.val (.ref fa), .val (.long fv), .second, .val (.ref fk), .val (.int fo), .val (.long sv), .second, .val (.int j)] [])) t := by
        intro t kt
        refine XS.lload X76.here hx rfl (hb hby d16_52) rfl ?_
        show Steps p.tables e below (T76.setTop (mkF m 54 #[.val (.ref fa), .val (.long fv), .second, .val (.ref fk), .val (.int fo), .val (.long sv), .second, .val (.int j)] [(.long sv)])) t
        refine X76.ldc2Long hx hown (mvT hZ (hw _ (List.mem_of_getElem? (i := 61) rfl))) (g := (mkF m 54 #[.val (.ref fa), .val (.long fv), .second, .val (.ref fk), .val (.int fo), .val (.long sv), .second, .val (.int j)] [(.long sv)])) rfl (hb hby d16_54) _ ?_
        show Steps p.tables e below (T76.setTop (mkF m 57 #[.val (.ref fa), .val (.long fv), .second, .val (.ref fk), .val (.int fo), .val (.long sv), .second, .val (.int j)] [(.long (10 : Int64)), (.long sv)])) t
        refine XS.ldiv X76.here hx rfl (hb hby d16_57) rfl (by decide) ?_
        show Steps p.tables e below (T76.setTop (mkF m 58 #[.val (.ref fa), .val (.long fv), .second, .val (.ref fk), .val (.int fo), .val (.long sv), .second, .val (.int j)] [(.long (sv / (10 : Int64)))])) t
        refine XS.lstore X76.here hx rfl (hb hby d16_58) rfl (l' := #[.val (.ref fa), .val (.long fv), .second, .val (.ref fk), .val (.int fo), .val (.long (sv / (10 : Int64))), .second, .val (.int j)]) rfl ?_
        show Steps p.tables e below (T76.setTop (mkF m 60 #[.val (.ref fa), .val (.long fv), .second, .val (.ref fk), .val (.int fo), .val (.long (sv / (10 : Int64))), .second, .val (.int j)] [])) t
        refine XS.iinc X76.here hx rfl (hb hby d16_60) rfl (l' := #[.val (.ref fa), .val (.long fv), .second, .val (.ref fk), .val (.int fo), .val (.long (sv / (10 : Int64))), .second, .val (.int (j + (-1 : Int32)))]) rfl ?_
        show Steps p.tables e below (T76.setTop (mkF m 63 #[.val (.ref fa), .val (.long fv), .second, .val (.ref fk), .val (.int fo), .val (.long (sv / (10 : Int64))), .second, .val (.int (j + (-1 : Int32)))] [])) t
        refine XS.goto X76.here hx rfl (pc0 := 63) (pc' := 29) rfl (hb hby d16_63) (by decide) (by decide) ?_
        exact kt
      have q4 : j.toInt.toNat = fo.toInt.toNat + k := own_j0 j fo k q1 ho0
      have Vq := fV77
      rw [q4, own_byD] at Vq
      obtain ⟨T', lc', h', sv', j', X', e', N', K', V', st'⟩ := ih T76 _ h76 _ _ (fun i => if i = fo.toInt.toNat + k then .int (own_by sv) else f i) X76 e76 N76 Zs76 K76 Vq (own_j1 j fo k q1 ho0 q2) (own_j2 fo k q2)
      exact ⟨T', lc', h', sv', j', X', e', N', K', V'.as (fun i _ => own_out_step _ _ _ _ i), fun t kt => s75 _ (st76 _ (s78 _ (st' _ kt)))⟩
  obtain ⟨T9, lc9, h9, sv9, j9, X9, e9, N9, K9, V9, st9⟩ := loop fw.toInt.toNat T72 _ h0 w64 ((fo + fw) - (1 : Int32)) _ X72 e72 N60 Z0 (Keep.refl h0 [fk]) Vk (by rw [hend]; omega) (by omega)
  obtain ⟨fs_, hr, hrun, hended, hW, hsame⟩ := X9.leave (hlocks := BodyLoose.notSynchronized Bd) (v := none) (fun _ => rfl)
  refine ⟨_, _, pre0 _ (s59 _ (st60.trans (j70 _ (s71 _ (st72 _ (s73 _ (st9 _ (?_)))))))), hrun, hended, _, _, rfl, ?_, ⟨_, rfl⟩, hW, hsame.mono (by decide) (by decide)⟩
  · show Steps p.tables e below (T9.setTop (mkF m 66 #[.val (.ref fa), .val (.long fv), .second, .val (.ref fk), .val (.int fo), .val (.long sv9), .second, .val (.int j9)] [])) _
    exact X9.returnOut hx Bd.returns (hb hby d16_66) hr
  · show Q16 Z fa fk fr fw fv fo ff h0 n0 _ T9.heap _
    rw [e9]
    rw [hw64] at V9
    exact ⟨rfl, N9, K9, V9⟩
def Q17 (Z : State) (fk : Addr) (fi fo fw : Int32) (fs : Int64) (fp : Addr) (ff : Nat → Value) (gi : Int32) (h0 : Heap) (n0 : Nat) (v : Option Value) (h : Heap) (L : List Loc) : Prop := v = some (.int (fat fi fo fw fs gi)) ∧ Fr n0 L ∧ h = h0
set_option maxRecDepth 65536 in
set_option maxHeartbeats 40000000 in
theorem rm17 (l : Launch) (Z : State) (a0 : Array Value) (hw : ∀ d ∈ tables_1, d.before a0 Z = true) (ws : List Jvm.Cond) (fk : Addr) (fi fo fw : Int32) (fs : Int64) (fp : Addr) (ff : Nat → Value) (gi : Int32) (h0 : Heap) (n0 : Nat) (Z0 : n0 ≤ h0.size) (Vk : Ar Z h0 fk .byte 23 ff) (Vp : Ar Z h0 fp .long 19 (fun i => .long (own_t10 i))) (hi0 : 0 ≤ fi.toInt) (hi22 : fi.toInt < 23) (hv : ff fi.toInt.toNat = .int gi) (hw1 : 1 ≤ fw.toInt) (hw19 : fw.toInt ≤ 19) (ho0 : 0 ≤ fo.toInt) (ho3 : fo.toInt ≤ 3) :
    MetFree l (⟨"com/example/rowkey_modeler/rowkeymodeler/DecimalFieldWriteHeldPinLaw", "at", "([BIIIJ[J)Z"⟩ : MethodName) (head1 (Jvm.Cond.code (⟨"com/example/rowkey_modeler/rowkeymodeler/DecimalFieldWriteHeldPinLaw", "at", "([BIIIJ[J)Z"⟩ : MethodName) method_3_code 9 (some .boolean) :: ws) ({ frames := 0, cells := 0, slots := 0, locals := 0 } : Room)) (fun a U => a = #[(.ref fk), (.int fi), (.int fo), (.int fw), (.long fs), (.ref fp)] ∧ Z.Warmed39 U.vm ∧ U.heap = h0) (fun _ _ _ _ _ => True) (fun _ U o U' => ∃ v L, o = .returned v ∧ Q17 Z fk fi fo fw fs fp ff gi h0 n0 v U'.heap L ∧ FrameEnd U o U' L ({ frames := 0, cells := 0, slots := 0, locals := 0 } : Room).cells ({ frames := 0, cells := 0, slots := 0, locals := 0 } : Room).slots) := by
  refine MetFree.of_bodySF (plainFor_of_name pn_com_example_rowkey_modeler_rowkeymodeler_DecimalFieldWriteHeldPinLaw) hisR ?_
  intro p e s m args0 below meth c s₁ Bd hml0 hP hK
  obtain ⟨rfl, hZ, hh⟩ := hP
  have hx := Bd.exec
  have hby := Bd.bytes
  have hml : c.maxLocals = 9 := hml0
  have hown : s.vm.findClass "com/example/rowkey_modeler/rowkeymodeler/DecimalFieldWriteHeldPinLaw" = some m.cls := findClass_of_methodNamed Bd.named
  have hnm := (name_of_methodNamed Bd.named Bd.method).1
  have X0 : Stand p l e ({ frames := 0, cells := 0, slots := 0, locals := 0 } : Room) s m #[(.ref fk), (.int fi), (.int fo), (.int fw), (.long fs), (.ref fp)] below meth c s₁ [] 0 0 := Stand.of_body Bd
  have e0 : s₁.heap = h0 := by rw [← hh, Bd.state]; rfl
  have N0 := Fr.nil n0
  have pre0 : ∀ t, Steps p.tables e below (s₁.setTop (mkF m 0 #[.val (.ref fk), .val (.int fi), .val (.int fo), .val (.int fw), .val (.long fs), .second, .val (.ref fp), .unset, .unset] [])) t → Steps p.tables e below (s₁.setTop (entryFrame m #[(.ref fk), (.int fi), (.int fo), (.int fw), (.long fs), (.ref fp)] 9)) t := fun t kk_ => castTop (ef_17 m fk fi fo fw fs fp) kk_
  have hsum : (fo + fw).toInt = fo.toInt + fw.toInt := by rw [Int32.toInt_add, Int.bmod_def]; omega
  have s79 : ∀ t, Steps p.tables e below (s₁.setTop (mkF m 2 #[.val (.ref fk), .val (.int fi), .val (.int fo), .val (.int fw), .val (.long fs), .second, .val (.ref fp), .unset, .unset] [(.int fo), (.int fi)])) t → Steps p.tables e below (s₁.setTop (mkF m 0 #[.val (.ref fk), .val (.int fi), .val (.int fo), .val (.int fw), .val (.long fs), .second, .val (.ref fp), .unset, .unset] [])) t := by
    intro t kt
    refine XS.iloadN X0.here hx rfl (hb hby d17_0) rfl ?_
    show Steps p.tables e below (s₁.setTop (mkF m 1 #[.val (.ref fk), .val (.int fi), .val (.int fo), .val (.int fw), .val (.long fs), .second, .val (.ref fp), .unset, .unset] [(.int fi)])) t
    refine XS.iloadN X0.here hx rfl (hb hby d17_1) rfl ?_
    exact kt
  by_cases c80 : fi < fo
  ·
    have s81 : ∀ t, Steps p.tables e below (s₁.setTop (mkF m 15 #[.val (.ref fk), .val (.int fi), .val (.int fo), .val (.int fw), .val (.long fs), .second, .val (.ref fp), .unset, .unset] [(.int gi)])) t → Steps p.tables e below (s₁.setTop (mkF m 2 #[.val (.ref fk), .val (.int fi), .val (.int fo), .val (.int fw), .val (.long fs), .second, .val (.ref fp), .unset, .unset] [(.int fo), (.int fi)])) t := by
      intro t kt
      refine XS.icmpYes X0.here hx rfl (pc0 := 2) (pc' := 12) rfl (hb hby d17_2) rfl (tlt c80).1 (by decide) (by decide) ?_
      show Steps p.tables e below (s₁.setTop (mkF m 12 #[.val (.ref fk), .val (.int fi), .val (.int fo), .val (.int fw), .val (.long fs), .second, .val (.ref fp), .unset, .unset] [])) t
      refine XS.aloadN X0.here hx rfl (hb hby d17_12) rfl rfl ?_
      show Steps p.tables e below (s₁.setTop (mkF m 13 #[.val (.ref fk), .val (.int fi), .val (.int fo), .val (.int fw), .val (.long fs), .second, .val (.ref fp), .unset, .unset] [(.ref fk)])) t
      refine XS.iloadN X0.here hx rfl (hb hby d17_13) rfl ?_
      show Steps p.tables e below (s₁.setTop (mkF m 14 #[.val (.ref fk), .val (.int fi), .val (.int fo), .val (.int fw), .val (.long fs), .second, .val (.ref fp), .unset, .unset] [(.int fi), (.ref fk)])) t
      refine OwnKit.ldAB X0 hx hZ e0 Vk (j := fi) hi0 hi22 (w := (.int gi)) hv (g := (mkF m 14 #[.val (.ref fk), .val (.int fi), .val (.int fo), .val (.int fw), .val (.long fs), .second, .val (.ref fp), .unset, .unset] [(.int fi), (.ref fk)])) rfl rfl (hb hby d17_14) _ ?_
      exact kt
    obtain ⟨w85, hw85, j91⟩ : ∃ (w85 : Int32), w85 = (if gi = (0 : Int32) then (1 : Int32) else (0 : Int32)) ∧ ∀ t, Steps p.tables e below (s₁.setTop (mkF m 23 #[.val (.ref fk), .val (.int fi), .val (.int fo), .val (.int fw), .val (.long fs), .second, .val (.ref fp), .unset, .unset] [(.int w85)])) t → Steps p.tables e below (s₁.setTop (mkF m 15 #[.val (.ref fk), .val (.int fi), .val (.int fo), .val (.int fw), .val (.long fs), .second, .val (.ref fp), .unset, .unset] [(.int gi)])) t := by
      by_cases c82 : gi = (0 : Int32)
      ·
        have s84 : ∀ t, Steps p.tables e below (s₁.setTop (mkF m 23 #[.val (.ref fk), .val (.int fi), .val (.int fo), .val (.int fw), .val (.long fs), .second, .val (.ref fp), .unset, .unset] [(.int (1 : Int32))])) t → Steps p.tables e below (s₁.setTop (mkF m 15 #[.val (.ref fk), .val (.int fi), .val (.int fo), .val (.int fw), .val (.long fs), .second, .val (.ref fp), .unset, .unset] [(.int gi)])) t := by
          intro t kt
          refine XS.ifNo X0.here hx rfl (hb hby d17_15) rfl ((if0 _ _).trans (teq c82).2) ?_
          show Steps p.tables e below (s₁.setTop (mkF m 18 #[.val (.ref fk), .val (.int fi), .val (.int fo), .val (.int fw), .val (.long fs), .second, .val (.ref fp), .unset, .unset] [])) t
          refine XS.iconst X0.here hx rfl (hb hby d17_18) ?_
          show Steps p.tables e below (s₁.setTop (mkF m 19 #[.val (.ref fk), .val (.int fi), .val (.int fo), .val (.int fw), .val (.long fs), .second, .val (.ref fp), .unset, .unset] [(.int (1 : Int32))])) t
          refine XS.goto X0.here hx rfl (pc0 := 19) (pc' := 23) rfl (hb hby d17_19) (by decide) (by decide) ?_
          exact kt
        exact ⟨(1 : Int32), (if_pos c82).symm, fun t kt => s84 _ (kt)⟩
      ·
        have s83 : ∀ t, Steps p.tables e below (s₁.setTop (mkF m 23 #[.val (.ref fk), .val (.int fi), .val (.int fo), .val (.int fw), .val (.long fs), .second, .val (.ref fp), .unset, .unset] [(.int (0 : Int32))])) t → Steps p.tables e below (s₁.setTop (mkF m 15 #[.val (.ref fk), .val (.int fi), .val (.int fo), .val (.int fw), .val (.long fs), .second, .val (.ref fp), .unset, .unset] [(.int gi)])) t := by
          intro t kt
          refine XS.ifYes X0.here hx rfl (pc0 := 15) (pc' := 22) rfl (hb hby d17_15) rfl ((if0 _ _).trans (feq c82).2) (by decide) (by decide) ?_
          show Steps p.tables e below (s₁.setTop (mkF m 22 #[.val (.ref fk), .val (.int fi), .val (.int fo), .val (.int fw), .val (.long fs), .second, .val (.ref fp), .unset, .unset] [])) t
          refine XS.iconst X0.here hx rfl (hb hby d17_22) ?_
          exact kt
        exact ⟨(0 : Int32), (if_neg c82).symm, fun t kt => s83 _ (kt)⟩
    rw [hw85] at j91
    obtain ⟨fs_, hr, hrun, hended, hW, hsame⟩ := X0.leave (hlocks := BodyLoose.notSynchronized Bd) (v := some (.int (if gi = (0 : Int32) then (1 : Int32) else (0 : Int32)))) (fun h => by rw [Bd.returns] at h; cases h)
    refine ⟨_, _, pre0 _ (s79 _ (s81 _ (j91 _ (?_)))), hrun, hended, _, _, rfl, ?_, ⟨_, rfl⟩, hW, hsame.mono (by decide) (by decide)⟩
    · show Steps p.tables e below (s₁.setTop (mkF m 23 #[.val (.ref fk), .val (.int fi), .val (.int fo), .val (.int fw), .val (.long fs), .second, .val (.ref fp), .unset, .unset] [(.int (if gi = (0 : Int32) then (1 : Int32) else (0 : Int32)))])) _
      exact retN X0 hx (t := .boolean) Bd.returns (by simp) (hb hby d17_23) (fun f acts q1 q2 q3 => by rw [show nar .boolean (if gi = (0 : Int32) then (1 : Int32) else (0 : Int32)) = (if gi = (0 : Int32) then (1 : Int32) else (0 : Int32)) from by split <;> rfl]; exact hr f acts q1 q2 q3)
    · show Q17 Z fk fi fo fw fs fp ff gi h0 n0 _ s₁.heap _
      rw [e0]
      exact ⟨by simp only [fat, if_pos c80], N0, rfl⟩
  ·
    have s92 : ∀ t, Steps p.tables e below (s₁.setTop (mkF m 9 #[.val (.ref fk), .val (.int fi), .val (.int fo), .val (.int fw), .val (.long fs), .second, .val (.ref fp), .unset, .unset] [(.int (fo + fw)), (.int fi)])) t → Steps p.tables e below (s₁.setTop (mkF m 2 #[.val (.ref fk), .val (.int fi), .val (.int fo), .val (.int fw), .val (.long fs), .second, .val (.ref fp), .unset, .unset] [(.int fo), (.int fi)])) t := by
      intro t kt
      refine XS.icmpNo X0.here hx rfl (hb hby d17_2) rfl (flt c80).1 ?_
      show Steps p.tables e below (s₁.setTop (mkF m 5 #[.val (.ref fk), .val (.int fi), .val (.int fo), .val (.int fw), .val (.long fs), .second, .val (.ref fp), .unset, .unset] [])) t
      refine XS.iloadN X0.here hx rfl (hb hby d17_5) rfl ?_
      show Steps p.tables e below (s₁.setTop (mkF m 6 #[.val (.ref fk), .val (.int fi), .val (.int fo), .val (.int fw), .val (.long fs), .second, .val (.ref fp), .unset, .unset] [(.int fi)])) t
      refine XS.iloadN X0.here hx rfl (hb hby d17_6) rfl ?_
      show Steps p.tables e below (s₁.setTop (mkF m 7 #[.val (.ref fk), .val (.int fi), .val (.int fo), .val (.int fw), .val (.long fs), .second, .val (.ref fp), .unset, .unset] [(.int fo), (.int fi)])) t
      refine XS.iloadN X0.here hx rfl (hb hby d17_7) rfl ?_
      show Steps p.tables e below (s₁.setTop (mkF m 8 #[.val (.ref fk), .val (.int fi), .val (.int fo), .val (.int fw), .val (.long fs), .second, .val (.ref fp), .unset, .unset] [(.int fw), (.int fo), (.int fi)])) t
      refine XS.iadd X0.here hx rfl (hb hby d17_8) rfl ?_
      exact kt
    by_cases c93 : fi < (fo + fw)
    ·
      have s94 : ∀ t, Steps p.tables e below (s₁.setTop (mkF m 35 #[.val (.ref fk), .val (.int fi), .val (.int fo), .val (.int fw), .val (.long fs), .second, .val (.ref fp), .unset, .unset] [(.int (((fo + fw) - (1 : Int32)) - fi)), (.ref fp), (.long fs)])) t → Steps p.tables e below (s₁.setTop (mkF m 9 #[.val (.ref fk), .val (.int fi), .val (.int fo), .val (.int fw), .val (.long fs), .second, .val (.ref fp), .unset, .unset] [(.int (fo + fw)), (.int fi)])) t := by
        intro t kt
        refine XS.icmpYes X0.here hx rfl (pc0 := 9) (pc' := 24) rfl (hb hby d17_9) rfl (tlt c93).1 (by decide) (by decide) ?_
        show Steps p.tables e below (s₁.setTop (mkF m 24 #[.val (.ref fk), .val (.int fi), .val (.int fo), .val (.int fw), .val (.long fs), .second, .val (.ref fp), .unset, .unset] [])) t
        refine XS.lload X0.here hx rfl (hb hby d17_24) rfl ?_
        show Steps p.tables e below (s₁.setTop (mkF m 26 #[.val (.ref fk), .val (.int fi), .val (.int fo), .val (.int fw), .val (.long fs), .second, .val (.ref fp), .unset, .unset] [(.long fs)])) t
        refine XS.aload X0.here hx rfl (hb hby d17_26) rfl rfl ?_
        show Steps p.tables e below (s₁.setTop (mkF m 28 #[.val (.ref fk), .val (.int fi), .val (.int fo), .val (.int fw), .val (.long fs), .second, .val (.ref fp), .unset, .unset] [(.ref fp), (.long fs)])) t
        refine XS.iloadN X0.here hx rfl (hb hby d17_28) rfl ?_
        show Steps p.tables e below (s₁.setTop (mkF m 29 #[.val (.ref fk), .val (.int fi), .val (.int fo), .val (.int fw), .val (.long fs), .second, .val (.ref fp), .unset, .unset] [(.int fo), (.ref fp), (.long fs)])) t
        refine XS.iloadN X0.here hx rfl (hb hby d17_29) rfl ?_
        show Steps p.tables e below (s₁.setTop (mkF m 30 #[.val (.ref fk), .val (.int fi), .val (.int fo), .val (.int fw), .val (.long fs), .second, .val (.ref fp), .unset, .unset] [(.int fw), (.int fo), (.ref fp), (.long fs)])) t
        refine XS.iadd X0.here hx rfl (hb hby d17_30) rfl ?_
        show Steps p.tables e below (s₁.setTop (mkF m 31 #[.val (.ref fk), .val (.int fi), .val (.int fo), .val (.int fw), .val (.long fs), .second, .val (.ref fp), .unset, .unset] [(.int (fo + fw)), (.ref fp), (.long fs)])) t
        refine XS.iconst X0.here hx rfl (hb hby d17_31) ?_
        show Steps p.tables e below (s₁.setTop (mkF m 32 #[.val (.ref fk), .val (.int fi), .val (.int fo), .val (.int fw), .val (.long fs), .second, .val (.ref fp), .unset, .unset] [(.int (1 : Int32)), (.int (fo + fw)), (.ref fp), (.long fs)])) t
        refine XS.isub X0.here hx rfl (hb hby d17_32) rfl ?_
        show Steps p.tables e below (s₁.setTop (mkF m 33 #[.val (.ref fk), .val (.int fi), .val (.int fo), .val (.int fw), .val (.long fs), .second, .val (.ref fp), .unset, .unset] [(.int ((fo + fw) - (1 : Int32))), (.ref fp), (.long fs)])) t
        refine XS.iloadN X0.here hx rfl (hb hby d17_33) rfl ?_
        show Steps p.tables e below (s₁.setTop (mkF m 34 #[.val (.ref fk), .val (.int fi), .val (.int fo), .val (.int fw), .val (.long fs), .second, .val (.ref fp), .unset, .unset] [(.int fi), (.int ((fo + fw) - (1 : Int32))), (.ref fp), (.long fs)])) t
        refine XS.isub X0.here hx rfl (hb hby d17_34) rfl ?_
        exact kt
      have r1 : ¬ fi.toInt < fo.toInt := by have q := c80; rw [Int32.lt_iff_toInt_lt] at q; exact q
      have r2 : fi.toInt < fo.toInt + fw.toInt := by have q := c93; rw [Int32.lt_iff_toInt_lt, hsum] at q; exact q
      have r3 : (((fo + fw) - (1 : Int32)) - fi).toInt = fo.toInt + fw.toInt - 1 - fi.toInt := by
        have e1 : ((fo + fw) - (1 : Int32)).toInt = fo.toInt + fw.toInt - 1 := by rw [Int32.toInt_sub, hsum]; show (fo.toInt + fw.toInt - 1).bmod (2 ^ 32) = _; rw [Int.bmod_def]; omega
        rw [Int32.toInt_sub, e1, Int.bmod_def]; omega
      have s95 : ∀ t, Steps p.tables e below (s₁.setTop (mkF m 54 #[.val (.ref fk), .val (.int fi), .val (.int fo), .val (.int fw), .val (.long fs), .second, .val (.ref fp), .val (.long ((fs / (own_t10 (((fo + fw) - (1 : Int32)) - fi).toInt.toNat)) - ((fs / (own_t10 (((fo + fw) - (1 : Int32)) - fi).toInt.toNat)) / (10 : Int64)) * (10 : Int64))), .second] [(.int ((((48 : Int64) + ((fs / (own_t10 (((fo + fw) - (1 : Int32)) - fi).toInt.toNat)) - ((fs / (own_t10 (((fo + fw) - (1 : Int32)) - fi).toInt.toNat)) / (10 : Int64)) * (10 : Int64))).toInt32).toInt8.toInt32)), (.int gi)])) t → Steps p.tables e below (s₁.setTop (mkF m 35 #[.val (.ref fk), .val (.int fi), .val (.int fo), .val (.int fw), .val (.long fs), .second, .val (.ref fp), .unset, .unset] [(.int (((fo + fw) - (1 : Int32)) - fi)), (.ref fp), (.long fs)])) t := by
        intro t kt
        refine OwnKit.ldAL X0 hx hZ e0 Vp (j := (((fo + fw) - (1 : Int32)) - fi)) (by omega) (by omega) (w := (.long (own_t10 (((fo + fw) - (1 : Int32)) - fi).toInt.toNat))) rfl (g := (mkF m 35 #[.val (.ref fk), .val (.int fi), .val (.int fo), .val (.int fw), .val (.long fs), .second, .val (.ref fp), .unset, .unset] [(.int (((fo + fw) - (1 : Int32)) - fi)), (.ref fp), (.long fs)])) rfl rfl (hb hby d17_35) _ ?_
        show Steps p.tables e below (s₁.setTop (mkF m 36 #[.val (.ref fk), .val (.int fi), .val (.int fo), .val (.int fw), .val (.long fs), .second, .val (.ref fp), .unset, .unset] [(.long (own_t10 (((fo + fw) - (1 : Int32)) - fi).toInt.toNat)), (.long fs)])) t
        refine XS.ldiv X0.here hx rfl (hb hby d17_36) rfl (own_nz _ (by omega)) ?_
        show Steps p.tables e below (s₁.setTop (mkF m 37 #[.val (.ref fk), .val (.int fi), .val (.int fo), .val (.int fw), .val (.long fs), .second, .val (.ref fp), .unset, .unset] [(.long (fs / (own_t10 (((fo + fw) - (1 : Int32)) - fi).toInt.toNat)))])) t
        refine X0.ldc2Long hx hown (mvT hZ (hw _ (List.mem_of_getElem? (i := 2) rfl))) (g := (mkF m 37 #[.val (.ref fk), .val (.int fi), .val (.int fo), .val (.int fw), .val (.long fs), .second, .val (.ref fp), .unset, .unset] [(.long (fs / (own_t10 (((fo + fw) - (1 : Int32)) - fi).toInt.toNat)))])) rfl (hb hby d17_37) _ ?_
        show Steps p.tables e below (s₁.setTop (mkF m 40 #[.val (.ref fk), .val (.int fi), .val (.int fo), .val (.int fw), .val (.long fs), .second, .val (.ref fp), .unset, .unset] [(.long (10 : Int64)), (.long (fs / (own_t10 (((fo + fw) - (1 : Int32)) - fi).toInt.toNat)))])) t
        refine XS.lrem X0.here hx rfl (hb hby d17_40) rfl (by decide) ?_
        show Steps p.tables e below (s₁.setTop (mkF m 41 #[.val (.ref fk), .val (.int fi), .val (.int fo), .val (.int fw), .val (.long fs), .second, .val (.ref fp), .unset, .unset] [(.long ((fs / (own_t10 (((fo + fw) - (1 : Int32)) - fi).toInt.toNat)) - ((fs / (own_t10 (((fo + fw) - (1 : Int32)) - fi).toInt.toNat)) / (10 : Int64)) * (10 : Int64)))])) t
        refine XS.lstore X0.here hx rfl (hb hby d17_41) rfl (l' := #[.val (.ref fk), .val (.int fi), .val (.int fo), .val (.int fw), .val (.long fs), .second, .val (.ref fp), .val (.long ((fs / (own_t10 (((fo + fw) - (1 : Int32)) - fi).toInt.toNat)) - ((fs / (own_t10 (((fo + fw) - (1 : Int32)) - fi).toInt.toNat)) / (10 : Int64)) * (10 : Int64))), .second]) rfl ?_
        show Steps p.tables e below (s₁.setTop (mkF m 43 #[.val (.ref fk), .val (.int fi), .val (.int fo), .val (.int fw), .val (.long fs), .second, .val (.ref fp), .val (.long ((fs / (own_t10 (((fo + fw) - (1 : Int32)) - fi).toInt.toNat)) - ((fs / (own_t10 (((fo + fw) - (1 : Int32)) - fi).toInt.toNat)) / (10 : Int64)) * (10 : Int64))), .second] [])) t
        refine XS.aloadN X0.here hx rfl (hb hby d17_43) rfl rfl ?_
        show Steps p.tables e below (s₁.setTop (mkF m 44 #[.val (.ref fk), .val (.int fi), .val (.int fo), .val (.int fw), .val (.long fs), .second, .val (.ref fp), .val (.long ((fs / (own_t10 (((fo + fw) - (1 : Int32)) - fi).toInt.toNat)) - ((fs / (own_t10 (((fo + fw) - (1 : Int32)) - fi).toInt.toNat)) / (10 : Int64)) * (10 : Int64))), .second] [(.ref fk)])) t
        refine XS.iloadN X0.here hx rfl (hb hby d17_44) rfl ?_
        show Steps p.tables e below (s₁.setTop (mkF m 45 #[.val (.ref fk), .val (.int fi), .val (.int fo), .val (.int fw), .val (.long fs), .second, .val (.ref fp), .val (.long ((fs / (own_t10 (((fo + fw) - (1 : Int32)) - fi).toInt.toNat)) - ((fs / (own_t10 (((fo + fw) - (1 : Int32)) - fi).toInt.toNat)) / (10 : Int64)) * (10 : Int64))), .second] [(.int fi), (.ref fk)])) t
        refine OwnKit.ldAB X0 hx hZ e0 Vk (j := fi) hi0 hi22 (w := (.int gi)) hv (g := (mkF m 45 #[.val (.ref fk), .val (.int fi), .val (.int fo), .val (.int fw), .val (.long fs), .second, .val (.ref fp), .val (.long ((fs / (own_t10 (((fo + fw) - (1 : Int32)) - fi).toInt.toNat)) - ((fs / (own_t10 (((fo + fw) - (1 : Int32)) - fi).toInt.toNat)) / (10 : Int64)) * (10 : Int64))), .second] [(.int fi), (.ref fk)])) rfl rfl (hb hby d17_45) _ ?_
        show Steps p.tables e below (s₁.setTop (mkF m 46 #[.val (.ref fk), .val (.int fi), .val (.int fo), .val (.int fw), .val (.long fs), .second, .val (.ref fp), .val (.long ((fs / (own_t10 (((fo + fw) - (1 : Int32)) - fi).toInt.toNat)) - ((fs / (own_t10 (((fo + fw) - (1 : Int32)) - fi).toInt.toNat)) / (10 : Int64)) * (10 : Int64))), .second] [(.int gi)])) t
        refine X0.ldc2Long hx hown (mvT hZ (hw _ (List.mem_of_getElem? (i := 80) rfl))) (g := (mkF m 46 #[.val (.ref fk), .val (.int fi), .val (.int fo), .val (.int fw), .val (.long fs), .second, .val (.ref fp), .val (.long ((fs / (own_t10 (((fo + fw) - (1 : Int32)) - fi).toInt.toNat)) - ((fs / (own_t10 (((fo + fw) - (1 : Int32)) - fi).toInt.toNat)) / (10 : Int64)) * (10 : Int64))), .second] [(.int gi)])) rfl (hb hby d17_46) _ ?_
        show Steps p.tables e below (s₁.setTop (mkF m 49 #[.val (.ref fk), .val (.int fi), .val (.int fo), .val (.int fw), .val (.long fs), .second, .val (.ref fp), .val (.long ((fs / (own_t10 (((fo + fw) - (1 : Int32)) - fi).toInt.toNat)) - ((fs / (own_t10 (((fo + fw) - (1 : Int32)) - fi).toInt.toNat)) / (10 : Int64)) * (10 : Int64))), .second] [(.long (48 : Int64)), (.int gi)])) t
        refine XS.lload X0.here hx rfl (hb hby d17_49) rfl ?_
        show Steps p.tables e below (s₁.setTop (mkF m 51 #[.val (.ref fk), .val (.int fi), .val (.int fo), .val (.int fw), .val (.long fs), .second, .val (.ref fp), .val (.long ((fs / (own_t10 (((fo + fw) - (1 : Int32)) - fi).toInt.toNat)) - ((fs / (own_t10 (((fo + fw) - (1 : Int32)) - fi).toInt.toNat)) / (10 : Int64)) * (10 : Int64))), .second] [(.long ((fs / (own_t10 (((fo + fw) - (1 : Int32)) - fi).toInt.toNat)) - ((fs / (own_t10 (((fo + fw) - (1 : Int32)) - fi).toInt.toNat)) / (10 : Int64)) * (10 : Int64))), (.long (48 : Int64)), (.int gi)])) t
        refine XS.ladd X0.here hx rfl (hb hby d17_51) rfl ?_
        show Steps p.tables e below (s₁.setTop (mkF m 52 #[.val (.ref fk), .val (.int fi), .val (.int fo), .val (.int fw), .val (.long fs), .second, .val (.ref fp), .val (.long ((fs / (own_t10 (((fo + fw) - (1 : Int32)) - fi).toInt.toNat)) - ((fs / (own_t10 (((fo + fw) - (1 : Int32)) - fi).toInt.toNat)) / (10 : Int64)) * (10 : Int64))), .second] [(.long ((48 : Int64) + ((fs / (own_t10 (((fo + fw) - (1 : Int32)) - fi).toInt.toNat)) - ((fs / (own_t10 (((fo + fw) - (1 : Int32)) - fi).toInt.toNat)) / (10 : Int64)) * (10 : Int64)))), (.int gi)])) t
        refine XS.l2i X0.here hx rfl (hb hby d17_52) rfl ?_
        show Steps p.tables e below (s₁.setTop (mkF m 53 #[.val (.ref fk), .val (.int fi), .val (.int fo), .val (.int fw), .val (.long fs), .second, .val (.ref fp), .val (.long ((fs / (own_t10 (((fo + fw) - (1 : Int32)) - fi).toInt.toNat)) - ((fs / (own_t10 (((fo + fw) - (1 : Int32)) - fi).toInt.toNat)) / (10 : Int64)) * (10 : Int64))), .second] [(.int (((48 : Int64) + ((fs / (own_t10 (((fo + fw) - (1 : Int32)) - fi).toInt.toNat)) - ((fs / (own_t10 (((fo + fw) - (1 : Int32)) - fi).toInt.toNat)) / (10 : Int64)) * (10 : Int64))).toInt32)), (.int gi)])) t
        refine XS.i2b X0.here hx rfl (hb hby d17_53) rfl ?_
        exact kt
      obtain ⟨w99, hw99, j105⟩ : ∃ (w99 : Int32), w99 = (if gi = ((((48 : Int64) + ((fs / (own_t10 (((fo + fw) - (1 : Int32)) - fi).toInt.toNat)) - ((fs / (own_t10 (((fo + fw) - (1 : Int32)) - fi).toInt.toNat)) / (10 : Int64)) * (10 : Int64))).toInt32).toInt8.toInt32) then (1 : Int32) else (0 : Int32)) ∧ ∀ t, Steps p.tables e below (s₁.setTop (mkF m 62 #[.val (.ref fk), .val (.int fi), .val (.int fo), .val (.int fw), .val (.long fs), .second, .val (.ref fp), .val (.long ((fs / (own_t10 (((fo + fw) - (1 : Int32)) - fi).toInt.toNat)) - ((fs / (own_t10 (((fo + fw) - (1 : Int32)) - fi).toInt.toNat)) / (10 : Int64)) * (10 : Int64))), .second] [(.int w99)])) t → Steps p.tables e below (s₁.setTop (mkF m 54 #[.val (.ref fk), .val (.int fi), .val (.int fo), .val (.int fw), .val (.long fs), .second, .val (.ref fp), .val (.long ((fs / (own_t10 (((fo + fw) - (1 : Int32)) - fi).toInt.toNat)) - ((fs / (own_t10 (((fo + fw) - (1 : Int32)) - fi).toInt.toNat)) / (10 : Int64)) * (10 : Int64))), .second] [(.int ((((48 : Int64) + ((fs / (own_t10 (((fo + fw) - (1 : Int32)) - fi).toInt.toNat)) - ((fs / (own_t10 (((fo + fw) - (1 : Int32)) - fi).toInt.toNat)) / (10 : Int64)) * (10 : Int64))).toInt32).toInt8.toInt32)), (.int gi)])) t := by
        by_cases c96 : gi = ((((48 : Int64) + ((fs / (own_t10 (((fo + fw) - (1 : Int32)) - fi).toInt.toNat)) - ((fs / (own_t10 (((fo + fw) - (1 : Int32)) - fi).toInt.toNat)) / (10 : Int64)) * (10 : Int64))).toInt32).toInt8.toInt32)
        ·
          have s98 : ∀ t, Steps p.tables e below (s₁.setTop (mkF m 62 #[.val (.ref fk), .val (.int fi), .val (.int fo), .val (.int fw), .val (.long fs), .second, .val (.ref fp), .val (.long ((fs / (own_t10 (((fo + fw) - (1 : Int32)) - fi).toInt.toNat)) - ((fs / (own_t10 (((fo + fw) - (1 : Int32)) - fi).toInt.toNat)) / (10 : Int64)) * (10 : Int64))), .second] [(.int (1 : Int32))])) t → Steps p.tables e below (s₁.setTop (mkF m 54 #[.val (.ref fk), .val (.int fi), .val (.int fo), .val (.int fw), .val (.long fs), .second, .val (.ref fp), .val (.long ((fs / (own_t10 (((fo + fw) - (1 : Int32)) - fi).toInt.toNat)) - ((fs / (own_t10 (((fo + fw) - (1 : Int32)) - fi).toInt.toNat)) / (10 : Int64)) * (10 : Int64))), .second] [(.int ((((48 : Int64) + ((fs / (own_t10 (((fo + fw) - (1 : Int32)) - fi).toInt.toNat)) - ((fs / (own_t10 (((fo + fw) - (1 : Int32)) - fi).toInt.toNat)) / (10 : Int64)) * (10 : Int64))).toInt32).toInt8.toInt32)), (.int gi)])) t := by
            intro t kt
            refine XS.icmpNo X0.here hx rfl (hb hby d17_54) rfl (teq c96).2 ?_
            show Steps p.tables e below (s₁.setTop (mkF m 57 #[.val (.ref fk), .val (.int fi), .val (.int fo), .val (.int fw), .val (.long fs), .second, .val (.ref fp), .val (.long ((fs / (own_t10 (((fo + fw) - (1 : Int32)) - fi).toInt.toNat)) - ((fs / (own_t10 (((fo + fw) - (1 : Int32)) - fi).toInt.toNat)) / (10 : Int64)) * (10 : Int64))), .second] [])) t
            refine XS.iconst X0.here hx rfl (hb hby d17_57) ?_
            show Steps p.tables e below (s₁.setTop (mkF m 58 #[.val (.ref fk), .val (.int fi), .val (.int fo), .val (.int fw), .val (.long fs), .second, .val (.ref fp), .val (.long ((fs / (own_t10 (((fo + fw) - (1 : Int32)) - fi).toInt.toNat)) - ((fs / (own_t10 (((fo + fw) - (1 : Int32)) - fi).toInt.toNat)) / (10 : Int64)) * (10 : Int64))), .second] [(.int (1 : Int32))])) t
            refine XS.goto X0.here hx rfl (pc0 := 58) (pc' := 62) rfl (hb hby d17_58) (by decide) (by decide) ?_
            exact kt
          exact ⟨(1 : Int32), (if_pos c96).symm, fun t kt => s98 _ (kt)⟩
        ·
          have s97 : ∀ t, Steps p.tables e below (s₁.setTop (mkF m 62 #[.val (.ref fk), .val (.int fi), .val (.int fo), .val (.int fw), .val (.long fs), .second, .val (.ref fp), .val (.long ((fs / (own_t10 (((fo + fw) - (1 : Int32)) - fi).toInt.toNat)) - ((fs / (own_t10 (((fo + fw) - (1 : Int32)) - fi).toInt.toNat)) / (10 : Int64)) * (10 : Int64))), .second] [(.int (0 : Int32))])) t → Steps p.tables e below (s₁.setTop (mkF m 54 #[.val (.ref fk), .val (.int fi), .val (.int fo), .val (.int fw), .val (.long fs), .second, .val (.ref fp), .val (.long ((fs / (own_t10 (((fo + fw) - (1 : Int32)) - fi).toInt.toNat)) - ((fs / (own_t10 (((fo + fw) - (1 : Int32)) - fi).toInt.toNat)) / (10 : Int64)) * (10 : Int64))), .second] [(.int ((((48 : Int64) + ((fs / (own_t10 (((fo + fw) - (1 : Int32)) - fi).toInt.toNat)) - ((fs / (own_t10 (((fo + fw) - (1 : Int32)) - fi).toInt.toNat)) / (10 : Int64)) * (10 : Int64))).toInt32).toInt8.toInt32)), (.int gi)])) t := by
            intro t kt
            refine XS.icmpYes X0.here hx rfl (pc0 := 54) (pc' := 61) rfl (hb hby d17_54) rfl (feq c96).2 (by decide) (by decide) ?_
            show Steps p.tables e below (s₁.setTop (mkF m 61 #[.val (.ref fk), .val (.int fi), .val (.int fo), .val (.int fw), .val (.long fs), .second, .val (.ref fp), .val (.long ((fs / (own_t10 (((fo + fw) - (1 : Int32)) - fi).toInt.toNat)) - ((fs / (own_t10 (((fo + fw) - (1 : Int32)) - fi).toInt.toNat)) / (10 : Int64)) * (10 : Int64))), .second] [])) t
            refine XS.iconst X0.here hx rfl (hb hby d17_61) ?_
            exact kt
          exact ⟨(0 : Int32), (if_neg c96).symm, fun t kt => s97 _ (kt)⟩
      rw [hw99] at j105
      obtain ⟨fs_, hr, hrun, hended, hW, hsame⟩ := X0.leave (hlocks := BodyLoose.notSynchronized Bd) (v := some (.int (if gi = ((((48 : Int64) + ((fs / (own_t10 (((fo + fw) - (1 : Int32)) - fi).toInt.toNat)) - ((fs / (own_t10 (((fo + fw) - (1 : Int32)) - fi).toInt.toNat)) / (10 : Int64)) * (10 : Int64))).toInt32).toInt8.toInt32) then (1 : Int32) else (0 : Int32)))) (fun h => by rw [Bd.returns] at h; cases h)
      refine ⟨_, _, pre0 _ (s79 _ (s92 _ (s94 _ (s95 _ (j105 _ (?_)))))), hrun, hended, _, _, rfl, ?_, ⟨_, rfl⟩, hW, hsame.mono (by decide) (by decide)⟩
      · show Steps p.tables e below (s₁.setTop (mkF m 62 #[.val (.ref fk), .val (.int fi), .val (.int fo), .val (.int fw), .val (.long fs), .second, .val (.ref fp), .val (.long ((fs / (own_t10 (((fo + fw) - (1 : Int32)) - fi).toInt.toNat)) - ((fs / (own_t10 (((fo + fw) - (1 : Int32)) - fi).toInt.toNat)) / (10 : Int64)) * (10 : Int64))), .second] [(.int (if gi = ((((48 : Int64) + ((fs / (own_t10 (((fo + fw) - (1 : Int32)) - fi).toInt.toNat)) - ((fs / (own_t10 (((fo + fw) - (1 : Int32)) - fi).toInt.toNat)) / (10 : Int64)) * (10 : Int64))).toInt32).toInt8.toInt32) then (1 : Int32) else (0 : Int32)))])) _
        exact retN X0 hx (t := .boolean) Bd.returns (by simp) (hb hby d17_62) (fun f acts q1 q2 q3 => by rw [show nar .boolean (if gi = ((((48 : Int64) + ((fs / (own_t10 (((fo + fw) - (1 : Int32)) - fi).toInt.toNat)) - ((fs / (own_t10 (((fo + fw) - (1 : Int32)) - fi).toInt.toNat)) / (10 : Int64)) * (10 : Int64))).toInt32).toInt8.toInt32) then (1 : Int32) else (0 : Int32)) = (if gi = ((((48 : Int64) + ((fs / (own_t10 (((fo + fw) - (1 : Int32)) - fi).toInt.toNat)) - ((fs / (own_t10 (((fo + fw) - (1 : Int32)) - fi).toInt.toNat)) / (10 : Int64)) * (10 : Int64))).toInt32).toInt8.toInt32) then (1 : Int32) else (0 : Int32)) from by split <;> rfl]; exact hr f acts q1 q2 q3)
      · show Q17 Z fk fi fo fw fs fp ff gi h0 n0 _ s₁.heap _
        rw [e0]
        exact ⟨by simp only [fat, if_neg c80, if_pos c93], N0, rfl⟩
    ·
      have s106 : ∀ t, Steps p.tables e below (s₁.setTop (mkF m 15 #[.val (.ref fk), .val (.int fi), .val (.int fo), .val (.int fw), .val (.long fs), .second, .val (.ref fp), .unset, .unset] [(.int gi)])) t → Steps p.tables e below (s₁.setTop (mkF m 9 #[.val (.ref fk), .val (.int fi), .val (.int fo), .val (.int fw), .val (.long fs), .second, .val (.ref fp), .unset, .unset] [(.int (fo + fw)), (.int fi)])) t := by
        intro t kt
        refine XS.icmpNo X0.here hx rfl (hb hby d17_9) rfl (flt c93).1 ?_
        show Steps p.tables e below (s₁.setTop (mkF m 12 #[.val (.ref fk), .val (.int fi), .val (.int fo), .val (.int fw), .val (.long fs), .second, .val (.ref fp), .unset, .unset] [])) t
        refine XS.aloadN X0.here hx rfl (hb hby d17_12) rfl rfl ?_
        show Steps p.tables e below (s₁.setTop (mkF m 13 #[.val (.ref fk), .val (.int fi), .val (.int fo), .val (.int fw), .val (.long fs), .second, .val (.ref fp), .unset, .unset] [(.ref fk)])) t
        refine XS.iloadN X0.here hx rfl (hb hby d17_13) rfl ?_
        show Steps p.tables e below (s₁.setTop (mkF m 14 #[.val (.ref fk), .val (.int fi), .val (.int fo), .val (.int fw), .val (.long fs), .second, .val (.ref fp), .unset, .unset] [(.int fi), (.ref fk)])) t
        refine OwnKit.ldAB X0 hx hZ e0 Vk (j := fi) hi0 hi22 (w := (.int gi)) hv (g := (mkF m 14 #[.val (.ref fk), .val (.int fi), .val (.int fo), .val (.int fw), .val (.long fs), .second, .val (.ref fp), .unset, .unset] [(.int fi), (.ref fk)])) rfl rfl (hb hby d17_14) _ ?_
        exact kt
      obtain ⟨w110, hw110, j116⟩ : ∃ (w110 : Int32), w110 = (if gi = (0 : Int32) then (1 : Int32) else (0 : Int32)) ∧ ∀ t, Steps p.tables e below (s₁.setTop (mkF m 23 #[.val (.ref fk), .val (.int fi), .val (.int fo), .val (.int fw), .val (.long fs), .second, .val (.ref fp), .unset, .unset] [(.int w110)])) t → Steps p.tables e below (s₁.setTop (mkF m 15 #[.val (.ref fk), .val (.int fi), .val (.int fo), .val (.int fw), .val (.long fs), .second, .val (.ref fp), .unset, .unset] [(.int gi)])) t := by
        by_cases c107 : gi = (0 : Int32)
        ·
          have s109 : ∀ t, Steps p.tables e below (s₁.setTop (mkF m 23 #[.val (.ref fk), .val (.int fi), .val (.int fo), .val (.int fw), .val (.long fs), .second, .val (.ref fp), .unset, .unset] [(.int (1 : Int32))])) t → Steps p.tables e below (s₁.setTop (mkF m 15 #[.val (.ref fk), .val (.int fi), .val (.int fo), .val (.int fw), .val (.long fs), .second, .val (.ref fp), .unset, .unset] [(.int gi)])) t := by
            intro t kt
            refine XS.ifNo X0.here hx rfl (hb hby d17_15) rfl ((if0 _ _).trans (teq c107).2) ?_
            show Steps p.tables e below (s₁.setTop (mkF m 18 #[.val (.ref fk), .val (.int fi), .val (.int fo), .val (.int fw), .val (.long fs), .second, .val (.ref fp), .unset, .unset] [])) t
            refine XS.iconst X0.here hx rfl (hb hby d17_18) ?_
            show Steps p.tables e below (s₁.setTop (mkF m 19 #[.val (.ref fk), .val (.int fi), .val (.int fo), .val (.int fw), .val (.long fs), .second, .val (.ref fp), .unset, .unset] [(.int (1 : Int32))])) t
            refine XS.goto X0.here hx rfl (pc0 := 19) (pc' := 23) rfl (hb hby d17_19) (by decide) (by decide) ?_
            exact kt
          exact ⟨(1 : Int32), (if_pos c107).symm, fun t kt => s109 _ (kt)⟩
        ·
          have s108 : ∀ t, Steps p.tables e below (s₁.setTop (mkF m 23 #[.val (.ref fk), .val (.int fi), .val (.int fo), .val (.int fw), .val (.long fs), .second, .val (.ref fp), .unset, .unset] [(.int (0 : Int32))])) t → Steps p.tables e below (s₁.setTop (mkF m 15 #[.val (.ref fk), .val (.int fi), .val (.int fo), .val (.int fw), .val (.long fs), .second, .val (.ref fp), .unset, .unset] [(.int gi)])) t := by
            intro t kt
            refine XS.ifYes X0.here hx rfl (pc0 := 15) (pc' := 22) rfl (hb hby d17_15) rfl ((if0 _ _).trans (feq c107).2) (by decide) (by decide) ?_
            show Steps p.tables e below (s₁.setTop (mkF m 22 #[.val (.ref fk), .val (.int fi), .val (.int fo), .val (.int fw), .val (.long fs), .second, .val (.ref fp), .unset, .unset] [])) t
            refine XS.iconst X0.here hx rfl (hb hby d17_22) ?_
            exact kt
          exact ⟨(0 : Int32), (if_neg c107).symm, fun t kt => s108 _ (kt)⟩
      rw [hw110] at j116
      obtain ⟨fs_, hr, hrun, hended, hW, hsame⟩ := X0.leave (hlocks := BodyLoose.notSynchronized Bd) (v := some (.int (if gi = (0 : Int32) then (1 : Int32) else (0 : Int32)))) (fun h => by rw [Bd.returns] at h; cases h)
      refine ⟨_, _, pre0 _ (s79 _ (s92 _ (s106 _ (j116 _ (?_))))), hrun, hended, _, _, rfl, ?_, ⟨_, rfl⟩, hW, hsame.mono (by decide) (by decide)⟩
      · show Steps p.tables e below (s₁.setTop (mkF m 23 #[.val (.ref fk), .val (.int fi), .val (.int fo), .val (.int fw), .val (.long fs), .second, .val (.ref fp), .unset, .unset] [(.int (if gi = (0 : Int32) then (1 : Int32) else (0 : Int32)))])) _
        exact retN X0 hx (t := .boolean) Bd.returns (by simp) (hb hby d17_23) (fun f acts q1 q2 q3 => by rw [show nar .boolean (if gi = (0 : Int32) then (1 : Int32) else (0 : Int32)) = (if gi = (0 : Int32) then (1 : Int32) else (0 : Int32)) from by split <;> rfl]; exact hr f acts q1 q2 q3)
      · show Q17 Z fk fi fo fw fs fp ff gi h0 n0 _ s₁.heap _
        rw [e0]
        exact ⟨by simp only [fat, if_neg c80, if_neg c93], N0, rfl⟩
theorem own_width (x fw : Int32) (h : fw = ((1 : Int32) + ((x &&& (2147483647 : Int32)) % (19 : Int32)))) : 1 ≤ fw.toInt ∧ fw.toInt ≤ 19 := by
  have hk : (x &&& (2147483647 : Int32)).toInt = x.toInt % 2 ^ 31 := Jvm.Kit.i32_mask x 2147483647 (k := 31) (by decide) (by decide)
  have hm : ((x &&& (2147483647 : Int32)) % (19 : Int32)).toInt = (x.toInt % 2 ^ 31) % 19 := by rw [Jvm.Kit.i32_rem_nonneg (by omega), hk]; rfl
  have k1 : (1 : Int32).toInt = 1 := by decide
  rw [h, Jvm.Kit.i32_add (by rw [k1]; omega) (by rw [k1]; omega), k1]; omega
theorem own_off (x fo : Int32) (h : fo = (x &&& (3 : Int32))) : 0 ≤ fo.toInt ∧ fo.toInt ≤ 3 := by
  have hk : (x &&& (3 : Int32)).toInt = x.toInt % 2 ^ 2 := Jvm.Kit.i32_mask x 3 (k := 2) (by decide) (by decide)
  rw [h, hk]; omega
theorem own_tdiv (a : Int) (b c : Nat) : (a.tdiv b).tdiv c = a.tdiv (b * c) := by
  rcases Int.eq_nat_or_neg a with ⟨n, rfl | rfl⟩
  · show ((n / b / c : Nat) : Int) = ((n / (b * c) : Nat) : Int)
    rw [Nat.div_div_eq_div_mul]
  · rw [Int.neg_tdiv, Int.neg_tdiv, Int.neg_tdiv]
    show -((n / b / c : Nat) : Int) = -((n / (b * c) : Nat) : Int)
    rw [Nat.div_div_eq_div_mul]
theorem own_qI (k : Nat) : ∀ s : Int64, (own_q k s).toInt = s.toInt.tdiv ((10 ^ k : Nat) : Int) := by
  induction k with
  | zero => intro s; show s.toInt = s.toInt.tdiv 1; rw [Int.tdiv_one]
  | succ k ih =>
    intro s
    show (own_q k (s / (10 : Int64))).toInt = _
    have k10 : (10 : Int64).toInt = 10 := by decide
    rw [ih, Jvm.Kit.i64_div (by rw [k10]; omega), k10]
    have e := own_tdiv s.toInt 10 (10 ^ k)
    rw [Nat.pow_succ, Nat.mul_comm]
    exact e
theorem own_qd (k : Nat) (hk : k < 19) (s : Int64) : own_q k s = s / own_t10 k := by
  apply Int64.toInt_inj.mp
  have all : ∀ k, k < 19 → (own_t10 k).toInt = ((10 ^ k : Nat) : Int) := by decide +kernel
  have pos : 0 < 10 ^ k := Nat.pow_pos (by decide)
  rw [own_qI, Jvm.Kit.i64_div (by rw [all k hk]; omega), all k hk]
theorem own_byE (s : Int64) : own_by s = (((48 : Int64) + (s - (s / (10 : Int64)) * (10 : Int64))).toInt32).toInt8.toInt32 := by
  show ((((48 : Int64) + (s - (s / (10 : Int64)) * (10 : Int64))).toInt32).toInt8.toInt32).toInt8.toInt32 = _
  rw [Int8.toInt8_toInt32]
theorem own_at (n : Nat) (fi fo fw : Int32) (st : Int64) (h0 : fi.toInt = n) (h1 : n < 23) (hw1 : 1 ≤ fw.toInt) (hw19 : fw.toInt ≤ 19) (ho0 : 0 ≤ fo.toInt) (ho3 : fo.toInt ≤ 3) :
    ¬ ((fat fi fo fw st (own_g fo.toInt.toNat fw.toInt.toNat st n)) = (0 : Int32)) := by
  have hsum : (fo + fw).toInt = fo.toInt + fw.toInt := by rw [Int32.toInt_add, Int.bmod_def]; omega
  have z : ∀ P : Prop, [Decidable P] → (¬ (if P then (1 : Int32) else (0 : Int32)) = 0) ↔ P := fun P _ => by
    by_cases q : P
    · rw [if_pos q]; exact ⟨fun _ => q, fun _ => by decide⟩
    · rw [if_neg q]; exact ⟨fun r => absurd rfl r, fun r => absurd r q⟩
  unfold fat own_g
  by_cases c1 : fi < fo
  · rw [if_pos c1, z]
    have c1' := Int32.lt_iff_toInt_lt.mp c1
    rw [if_neg (by omega)]
  · rw [if_neg c1]
    have c1' : ¬ fi.toInt < fo.toInt := mt Int32.lt_iff_toInt_lt.mpr c1
    by_cases c2 : fi < (fo + fw)
    · rw [if_pos c2, z]
      have c2' := Int32.lt_iff_toInt_lt.mp c2
      rw [hsum] at c2'
      have r3 : (((fo + fw) - (1 : Int32)) - fi).toInt = fo.toInt + fw.toInt - 1 - fi.toInt := by
        have e1 : ((fo + fw) - (1 : Int32)).toInt = fo.toInt + fw.toInt - 1 := by rw [Int32.toInt_sub, hsum]; show (fo.toInt + fw.toInt - 1).bmod (2 ^ 32) = _; rw [Int.bmod_def]; omega
        rw [Int32.toInt_sub, e1, Int.bmod_def]; omega
      rw [if_pos (by omega), own_byE, own_qd _ (by omega)]
      have e : (((fo + fw) - (1 : Int32)) - fi).toInt.toNat = fo.toInt.toNat + fw.toInt.toNat - 1 - n := by omega
      rw [e]
    · rw [if_neg c2, z]
      have c2' : ¬ fi.toInt < (fo + fw).toInt := mt Int32.lt_iff_toInt_lt.mpr c2
      rw [hsum] at c2'
      rw [if_neg (by omega)]

def Q0 (Z : State) (xw xo xf : Int32) (xx : Int64) (h0 : Heap) (n0 : Nat) (v : Option Value) (h : Heap) (L : List Loc) : Prop := v = some (.int 1) ∧ Fr n0 L
set_option maxRecDepth 65536 in
set_option maxHeartbeats 40000000 in
theorem rm0 (l : Launch) (Z : State) (a0 : Array Value) (hw : ∀ d ∈ tables_1, d.before a0 Z = true) (ws : List Jvm.Cond) (xw xo xf : Int32) (xx : Int64) (h0 : Heap) (n0 : Nat) (Z0 : n0 ≤ h0.size) (hcw : Jvm.Lit.compactW.before a0 Z = true) (hheld : Jvm.Lit.constHeld Z "com/example/rowkey_modeler/rowkeymodeler/DecimalFieldWriteHeldPinLaw" 50) (hn0 : n0 = Z.heap.size) :
    MetFree l x (head1 (Jvm.Cond.code x code maxLocals ret :: ws) room_1) (fun a U => a = #[(.int xw), (.int xo), (.int xf), (.long xx)] ∧ Z.Warmed39 U.vm ∧ U.heap = h0 ∧ U = Z) (fun _ _ _ _ _ => True) (fun _ U o U' => ∃ v L, o = .returned v ∧ Q0 Z xw xo xf xx h0 n0 v U'.heap L ∧ ReturnedEndW U o U' L room_1.cells room_1.slots) := by
  refine MetFree.of_bodySF (plainFor_of_name pn_com_example_rowkey_modeler_rowkeymodeler_DecimalFieldWriteHeldPinLaw) hisR ?_
  intro p e s m args0 below meth c s₁ Bd hml0 hP hK
  obtain ⟨rfl, hZ, hh, hUZ⟩ := hP
  have hx := Bd.exec
  have hby := Bd.bytes
  have hml : c.maxLocals = 19 := hml0
  have hown : s.vm.findClass "com/example/rowkey_modeler/rowkeymodeler/DecimalFieldWriteHeldPinLaw" = some m.cls := findClass_of_methodNamed Bd.named
  have hnm := (name_of_methodNamed Bd.named Bd.method).1
  have X0 : Stand p l e room_1 s m #[(.int xw), (.int xo), (.int xf), (.long xx)] below meth c s₁ [] 0 0 := Stand.of_body Bd
  have e0 : s₁.heap = h0 := by rw [← hh, Bd.state]; rfl
  have N0 := Fr.nil n0
  have pre0 : ∀ t, Steps p.tables e below (s₁.setTop (mkF m 0 #[.val (.int xw), .val (.int xo), .val (.int xf), .val (.long xx), .second, .unset, .unset, .unset, .unset, .unset, .unset, .unset, .unset, .unset, .unset, .unset, .unset, .unset, .unset] [])) t → Steps p.tables e below (s₁.setTop (entryFrame m #[(.int xw), (.int xo), (.int xf), (.long xx)] maxLocals)) t := fun t kk_ => castTop (ef_0 m xw xo xf xx) kk_
  have hwS : ∀ a ∈ Bundle.stringAtoms, a.before a0 Z = true := (List.forall_mem_cons.mpr ⟨(hw _ (List.mem_of_getElem? (i := 25) rfl)), (List.forall_mem_cons.mpr ⟨(hw _ (List.mem_of_getElem? (i := 26) rfl)), (List.forall_mem_cons.mpr ⟨(hw _ (List.mem_of_getElem? (i := 27) rfl)), (List.forall_mem_cons.mpr ⟨(hw _ (List.mem_of_getElem? (i := 28) rfl)), (List.forall_mem_cons.mpr ⟨(hw _ (List.mem_of_getElem? (i := 29) rfl)), (List.forall_mem_cons.mpr ⟨(hw _ (List.mem_of_getElem? (i := 30) rfl)), (List.forall_mem_cons.mpr ⟨(hw _ (List.mem_of_getElem? (i := 31) rfl)), (fun _ q => nomatch q)⟩)⟩)⟩)⟩)⟩)⟩)⟩)
  have hSs : ∀ n, s.Since s.vm n := fun n => (State.WarmedH.refl s).since n
  have s117 : ∀ t, Steps p.tables e below (s₁.setTop (mkF m 19 #[.val (.int xw), .val (.int xo), .val (.int xf), .val (.long xx), .second, .val (.int ((1 : Int32) + ((xw &&& (2147483647 : Int32)) % (19 : Int32)))), .val (.int (xo &&& (3 : Int32))), .unset, .unset, .unset, .unset, .unset, .unset, .unset, .unset, .unset, .unset, .unset, .unset] [(.int (xf &&& (1 : Int32)))])) t → Steps p.tables e below (s₁.setTop (mkF m 0 #[.val (.int xw), .val (.int xo), .val (.int xf), .val (.long xx), .second, .unset, .unset, .unset, .unset, .unset, .unset, .unset, .unset, .unset, .unset, .unset, .unset, .unset, .unset] [])) t := by
    intro t kt
    refine XS.iconst X0.here hx rfl (hb hby at_0) ?_
    show Steps p.tables e below (s₁.setTop (mkF m 1 #[.val (.int xw), .val (.int xo), .val (.int xf), .val (.long xx), .second, .unset, .unset, .unset, .unset, .unset, .unset, .unset, .unset, .unset, .unset, .unset, .unset, .unset, .unset] [(.int (1 : Int32))])) t
    refine XS.iloadN X0.here hx rfl (hb hby at_1) rfl ?_
    show Steps p.tables e below (s₁.setTop (mkF m 2 #[.val (.int xw), .val (.int xo), .val (.int xf), .val (.long xx), .second, .unset, .unset, .unset, .unset, .unset, .unset, .unset, .unset, .unset, .unset, .unset, .unset, .unset, .unset] [(.int xw), (.int (1 : Int32))])) t
    refine X0.ldcInt hx hown (mvT hZ (hw _ (List.mem_of_getElem? (i := 0) rfl))) (g := (mkF m 2 #[.val (.int xw), .val (.int xo), .val (.int xf), .val (.long xx), .second, .unset, .unset, .unset, .unset, .unset, .unset, .unset, .unset, .unset, .unset, .unset, .unset, .unset, .unset] [(.int xw), (.int (1 : Int32))])) rfl (hb hby at_2) _ ?_
    show Steps p.tables e below (s₁.setTop (mkF m 4 #[.val (.int xw), .val (.int xo), .val (.int xf), .val (.long xx), .second, .unset, .unset, .unset, .unset, .unset, .unset, .unset, .unset, .unset, .unset, .unset, .unset, .unset, .unset] [(.int (2147483647 : Int32)), (.int xw), (.int (1 : Int32))])) t
    refine XS.iand X0.here hx rfl (hb hby at_4) rfl ?_
    show Steps p.tables e below (s₁.setTop (mkF m 5 #[.val (.int xw), .val (.int xo), .val (.int xf), .val (.long xx), .second, .unset, .unset, .unset, .unset, .unset, .unset, .unset, .unset, .unset, .unset, .unset, .unset, .unset, .unset] [(.int (xw &&& (2147483647 : Int32))), (.int (1 : Int32))])) t
    refine XS.bipush X0.here hx rfl (hb hby at_5) ?_
    show Steps p.tables e below (s₁.setTop (mkF m 7 #[.val (.int xw), .val (.int xo), .val (.int xf), .val (.long xx), .second, .unset, .unset, .unset, .unset, .unset, .unset, .unset, .unset, .unset, .unset, .unset, .unset, .unset, .unset] [(.int (19 : Int32)), (.int (xw &&& (2147483647 : Int32))), (.int (1 : Int32))])) t
    refine Jvm.RoadKit.iremM X0 hx rfl (hb hby at_7) rfl (by decide) ?_
    show Steps p.tables e below (s₁.setTop (mkF m 8 #[.val (.int xw), .val (.int xo), .val (.int xf), .val (.long xx), .second, .unset, .unset, .unset, .unset, .unset, .unset, .unset, .unset, .unset, .unset, .unset, .unset, .unset, .unset] [(.int ((xw &&& (2147483647 : Int32)) % (19 : Int32))), (.int (1 : Int32))])) t
    refine XS.iadd X0.here hx rfl (hb hby at_8) rfl ?_
    show Steps p.tables e below (s₁.setTop (mkF m 9 #[.val (.int xw), .val (.int xo), .val (.int xf), .val (.long xx), .second, .unset, .unset, .unset, .unset, .unset, .unset, .unset, .unset, .unset, .unset, .unset, .unset, .unset, .unset] [(.int ((1 : Int32) + ((xw &&& (2147483647 : Int32)) % (19 : Int32))))])) t
    refine XS.istore X0.here hx rfl (hb hby at_9) rfl (l' := #[.val (.int xw), .val (.int xo), .val (.int xf), .val (.long xx), .second, .val (.int ((1 : Int32) + ((xw &&& (2147483647 : Int32)) % (19 : Int32)))), .unset, .unset, .unset, .unset, .unset, .unset, .unset, .unset, .unset, .unset, .unset, .unset, .unset]) rfl ?_
    show Steps p.tables e below (s₁.setTop (mkF m 11 #[.val (.int xw), .val (.int xo), .val (.int xf), .val (.long xx), .second, .val (.int ((1 : Int32) + ((xw &&& (2147483647 : Int32)) % (19 : Int32)))), .unset, .unset, .unset, .unset, .unset, .unset, .unset, .unset, .unset, .unset, .unset, .unset, .unset] [])) t
    refine XS.iloadN X0.here hx rfl (hb hby at_11) rfl ?_
    show Steps p.tables e below (s₁.setTop (mkF m 12 #[.val (.int xw), .val (.int xo), .val (.int xf), .val (.long xx), .second, .val (.int ((1 : Int32) + ((xw &&& (2147483647 : Int32)) % (19 : Int32)))), .unset, .unset, .unset, .unset, .unset, .unset, .unset, .unset, .unset, .unset, .unset, .unset, .unset] [(.int xo)])) t
    refine XS.iconst X0.here hx rfl (hb hby at_12) ?_
    show Steps p.tables e below (s₁.setTop (mkF m 13 #[.val (.int xw), .val (.int xo), .val (.int xf), .val (.long xx), .second, .val (.int ((1 : Int32) + ((xw &&& (2147483647 : Int32)) % (19 : Int32)))), .unset, .unset, .unset, .unset, .unset, .unset, .unset, .unset, .unset, .unset, .unset, .unset, .unset] [(.int (3 : Int32)), (.int xo)])) t
    refine XS.iand X0.here hx rfl (hb hby at_13) rfl ?_
    show Steps p.tables e below (s₁.setTop (mkF m 14 #[.val (.int xw), .val (.int xo), .val (.int xf), .val (.long xx), .second, .val (.int ((1 : Int32) + ((xw &&& (2147483647 : Int32)) % (19 : Int32)))), .unset, .unset, .unset, .unset, .unset, .unset, .unset, .unset, .unset, .unset, .unset, .unset, .unset] [(.int (xo &&& (3 : Int32)))])) t
    refine XS.istore X0.here hx rfl (hb hby at_14) rfl (l' := #[.val (.int xw), .val (.int xo), .val (.int xf), .val (.long xx), .second, .val (.int ((1 : Int32) + ((xw &&& (2147483647 : Int32)) % (19 : Int32)))), .val (.int (xo &&& (3 : Int32))), .unset, .unset, .unset, .unset, .unset, .unset, .unset, .unset, .unset, .unset, .unset, .unset]) rfl ?_
    show Steps p.tables e below (s₁.setTop (mkF m 16 #[.val (.int xw), .val (.int xo), .val (.int xf), .val (.long xx), .second, .val (.int ((1 : Int32) + ((xw &&& (2147483647 : Int32)) % (19 : Int32)))), .val (.int (xo &&& (3 : Int32))), .unset, .unset, .unset, .unset, .unset, .unset, .unset, .unset, .unset, .unset, .unset, .unset] [])) t
    refine XS.iloadN X0.here hx rfl (hb hby at_16) rfl ?_
    show Steps p.tables e below (s₁.setTop (mkF m 17 #[.val (.int xw), .val (.int xo), .val (.int xf), .val (.long xx), .second, .val (.int ((1 : Int32) + ((xw &&& (2147483647 : Int32)) % (19 : Int32)))), .val (.int (xo &&& (3 : Int32))), .unset, .unset, .unset, .unset, .unset, .unset, .unset, .unset, .unset, .unset, .unset, .unset] [(.int xf)])) t
    refine XS.iconst X0.here hx rfl (hb hby at_17) ?_
    show Steps p.tables e below (s₁.setTop (mkF m 18 #[.val (.int xw), .val (.int xo), .val (.int xf), .val (.long xx), .second, .val (.int ((1 : Int32) + ((xw &&& (2147483647 : Int32)) % (19 : Int32)))), .val (.int (xo &&& (3 : Int32))), .unset, .unset, .unset, .unset, .unset, .unset, .unset, .unset, .unset, .unset, .unset, .unset] [(.int (1 : Int32)), (.int xf)])) t
    refine XS.iand X0.here hx rfl (hb hby at_18) rfl ?_
    exact kt
  obtain ⟨fw, hfw⟩ : ∃ z : Int32, z = ((1 : Int32) + ((xw &&& (2147483647 : Int32)) % (19 : Int32))) := ⟨_, rfl⟩
  have s118 : ∀ t, Steps p.tables e below (s₁.setTop (mkF m 19 #[.val (.int xw), .val (.int xo), .val (.int xf), .val (.long xx), .second, .val (.int fw), .val (.int (xo &&& (3 : Int32))), .unset, .unset, .unset, .unset, .unset, .unset, .unset, .unset, .unset, .unset, .unset, .unset] [(.int (xf &&& (1 : Int32)))])) t → Steps p.tables e below (s₁.setTop (mkF m 19 #[.val (.int xw), .val (.int xo), .val (.int xf), .val (.long xx), .second, .val (.int ((1 : Int32) + ((xw &&& (2147483647 : Int32)) % (19 : Int32)))), .val (.int (xo &&& (3 : Int32))), .unset, .unset, .unset, .unset, .unset, .unset, .unset, .unset, .unset, .unset, .unset, .unset] [(.int (xf &&& (1 : Int32)))])) t := fun t kt => by subst hfw; exact kt
  obtain ⟨fo, hfo⟩ : ∃ z : Int32, z = (xo &&& (3 : Int32)) := ⟨_, rfl⟩
  have s119 : ∀ t, Steps p.tables e below (s₁.setTop (mkF m 19 #[.val (.int xw), .val (.int xo), .val (.int xf), .val (.long xx), .second, .val (.int fw), .val (.int fo), .unset, .unset, .unset, .unset, .unset, .unset, .unset, .unset, .unset, .unset, .unset, .unset] [(.int (xf &&& (1 : Int32)))])) t → Steps p.tables e below (s₁.setTop (mkF m 19 #[.val (.int xw), .val (.int xo), .val (.int xf), .val (.long xx), .second, .val (.int fw), .val (.int (xo &&& (3 : Int32))), .unset, .unset, .unset, .unset, .unset, .unset, .unset, .unset, .unset, .unset, .unset, .unset] [(.int (xf &&& (1 : Int32)))])) t := fun t kt => by subst hfo; exact kt
  obtain ⟨hw1, hw19⟩ := own_width xw fw hfw
  obtain ⟨ho0, ho3⟩ := own_off xo fo hfo
  obtain ⟨w123, hw123, j129⟩ : ∃ (w123 : Int32), w123 = (if (xf &&& (1 : Int32)) = (0 : Int32) then (0 : Int32) else (1 : Int32)) ∧ ∀ t, Steps p.tables e below (s₁.setTop (mkF m 27 #[.val (.int xw), .val (.int xo), .val (.int xf), .val (.long xx), .second, .val (.int fw), .val (.int fo), .unset, .unset, .unset, .unset, .unset, .unset, .unset, .unset, .unset, .unset, .unset, .unset] [(.int w123)])) t → Steps p.tables e below (s₁.setTop (mkF m 19 #[.val (.int xw), .val (.int xo), .val (.int xf), .val (.long xx), .second, .val (.int fw), .val (.int fo), .unset, .unset, .unset, .unset, .unset, .unset, .unset, .unset, .unset, .unset, .unset, .unset] [(.int (xf &&& (1 : Int32)))])) t := by
    by_cases c120 : (xf &&& (1 : Int32)) = (0 : Int32)
    ·
      have s121 : ∀ t, Steps p.tables e below (s₁.setTop (mkF m 27 #[.val (.int xw), .val (.int xo), .val (.int xf), .val (.long xx), .second, .val (.int fw), .val (.int fo), .unset, .unset, .unset, .unset, .unset, .unset, .unset, .unset, .unset, .unset, .unset, .unset] [(.int (0 : Int32))])) t → Steps p.tables e below (s₁.setTop (mkF m 19 #[.val (.int xw), .val (.int xo), .val (.int xf), .val (.long xx), .second, .val (.int fw), .val (.int fo), .unset, .unset, .unset, .unset, .unset, .unset, .unset, .unset, .unset, .unset, .unset, .unset] [(.int (xf &&& (1 : Int32)))])) t := by
        intro t kt
        refine XS.ifYes X0.here hx rfl (pc0 := 19) (pc' := 26) rfl (hb hby at_19) rfl ((if0 _ _).trans (teq c120).1) (by decide) (by decide) ?_
        show Steps p.tables e below (s₁.setTop (mkF m 26 #[.val (.int xw), .val (.int xo), .val (.int xf), .val (.long xx), .second, .val (.int fw), .val (.int fo), .unset, .unset, .unset, .unset, .unset, .unset, .unset, .unset, .unset, .unset, .unset, .unset] [])) t
        refine XS.iconst X0.here hx rfl (hb hby at_26) ?_
        exact kt
      exact ⟨(0 : Int32), (if_pos c120).symm, fun t kt => s121 _ (kt)⟩
    ·
      have s122 : ∀ t, Steps p.tables e below (s₁.setTop (mkF m 27 #[.val (.int xw), .val (.int xo), .val (.int xf), .val (.long xx), .second, .val (.int fw), .val (.int fo), .unset, .unset, .unset, .unset, .unset, .unset, .unset, .unset, .unset, .unset, .unset, .unset] [(.int (1 : Int32))])) t → Steps p.tables e below (s₁.setTop (mkF m 19 #[.val (.int xw), .val (.int xo), .val (.int xf), .val (.long xx), .second, .val (.int fw), .val (.int fo), .unset, .unset, .unset, .unset, .unset, .unset, .unset, .unset, .unset, .unset, .unset, .unset] [(.int (xf &&& (1 : Int32)))])) t := by
        intro t kt
        refine XS.ifNo X0.here hx rfl (hb hby at_19) rfl ((if0 _ _).trans (feq c120).1) ?_
        show Steps p.tables e below (s₁.setTop (mkF m 22 #[.val (.int xw), .val (.int xo), .val (.int xf), .val (.long xx), .second, .val (.int fw), .val (.int fo), .unset, .unset, .unset, .unset, .unset, .unset, .unset, .unset, .unset, .unset, .unset, .unset] [])) t
        refine XS.iconst X0.here hx rfl (hb hby at_22) ?_
        show Steps p.tables e below (s₁.setTop (mkF m 23 #[.val (.int xw), .val (.int xo), .val (.int xf), .val (.long xx), .second, .val (.int fw), .val (.int fo), .unset, .unset, .unset, .unset, .unset, .unset, .unset, .unset, .unset, .unset, .unset, .unset] [(.int (1 : Int32))])) t
        refine XS.goto X0.here hx rfl (pc0 := 23) (pc' := 27) rfl (hb hby at_23) (by decide) (by decide) ?_
        exact kt
      exact ⟨(1 : Int32), (if_neg c120).symm, fun t kt => s122 _ (kt)⟩
  have hfr : w123 = 0 ∨ w123 = 1 := by rw [hw123]; split; exact Or.inl rfl; exact Or.inr rfl
  have s130 : ∀ t, Steps p.tables e below (s₁.setTop (mkF m 31 #[.val (.int xw), .val (.int xo), .val (.int xf), .val (.long xx), .second, .val (.int fw), .val (.int fo), .val (.int w123), .unset, .unset, .unset, .unset, .unset, .unset, .unset, .unset, .unset, .unset, .unset] [(.int (19 : Int32))])) t → Steps p.tables e below (s₁.setTop (mkF m 27 #[.val (.int xw), .val (.int xo), .val (.int xf), .val (.long xx), .second, .val (.int fw), .val (.int fo), .unset, .unset, .unset, .unset, .unset, .unset, .unset, .unset, .unset, .unset, .unset, .unset] [(.int w123)])) t := by
    intro t kt
    refine XS.istore X0.here hx rfl (hb hby at_27) rfl (l' := #[.val (.int xw), .val (.int xo), .val (.int xf), .val (.long xx), .second, .val (.int fw), .val (.int fo), .val (.int w123), .unset, .unset, .unset, .unset, .unset, .unset, .unset, .unset, .unset, .unset, .unset]) rfl ?_
    show Steps p.tables e below (s₁.setTop (mkF m 29 #[.val (.int xw), .val (.int xo), .val (.int xf), .val (.long xx), .second, .val (.int fw), .val (.int fo), .val (.int w123), .unset, .unset, .unset, .unset, .unset, .unset, .unset, .unset, .unset, .unset, .unset] [])) t
    refine XS.bipush X0.here hx rfl (hb hby at_29) ?_
    exact kt
  obtain ⟨T131, h131, k131, X131, e131, E131, A131, st131⟩ := newP X0 hx hZ (hw _ (List.mem_of_getElem? (i := 1) rfl)) e0 (g := (mkF m 31 #[.val (.int xw), .val (.int xo), .val (.int xf), .val (.long xx), .second, .val (.int fw), .val (.int fo), .val (.int w123), .unset, .unset, .unset, .unset, .unset, .unset, .unset, .unset, .unset, .unset, .unset] [(.int (19 : Int32))])) rfl (hb hby at_31) rfl (by decide) (cap := 19) (by decide) (by decide) (by decide) (by decide)
  obtain ⟨b131, g131⟩ : ∃ z, z = h0.size := ⟨_, rfl⟩
  rw [← g131] at A131 st131
  have gn131 : n0 ≤ b131 := Nat.le_trans Z0 (Nat.le_of_eq g131.symm)
  have Zs131 : n0 ≤ h131.size := Nat.le_trans Z0 E131.1
  have fV132 : OwnKit.Ar Z h131 b131 .long 19 (fun _ => defaultValue .long) := OwnKit.Ar.new A131 (by decide) (by decide)
  have s133 : ∀ t, Steps p.tables e below (T131.setTop (mkF m 36 #[.val (.int xw), .val (.int xo), .val (.int xf), .val (.long xx), .second, .val (.int fw), .val (.int fo), .val (.int w123), .unset, .unset, .unset, .unset, .unset, .unset, .unset, .unset, .unset, .unset, .unset] [(.long (1 : Int64)), (.int (0 : Int32)), (.ref b131), (.ref b131)])) t → Steps p.tables e below (T131.setTop (mkF m 33 #[.val (.int xw), .val (.int xo), .val (.int xf), .val (.long xx), .second, .val (.int fw), .val (.int fo), .val (.int w123), .unset, .unset, .unset, .unset, .unset, .unset, .unset, .unset, .unset, .unset, .unset] [(.ref b131)])) t := by
    intro t kt
    refine XS.dup X131.here hx rfl (hb hby at_33) rfl rfl ?_
    show Steps p.tables e below (T131.setTop (mkF m 34 #[.val (.int xw), .val (.int xo), .val (.int xf), .val (.long xx), .second, .val (.int fw), .val (.int fo), .val (.int w123), .unset, .unset, .unset, .unset, .unset, .unset, .unset, .unset, .unset, .unset, .unset] [(.ref b131), (.ref b131)])) t
    refine XS.iconst X131.here hx rfl (hb hby at_34) ?_
    show Steps p.tables e below (T131.setTop (mkF m 35 #[.val (.int xw), .val (.int xo), .val (.int xf), .val (.long xx), .second, .val (.int fw), .val (.int fo), .val (.int w123), .unset, .unset, .unset, .unset, .unset, .unset, .unset, .unset, .unset, .unset, .unset] [(.int (0 : Int32)), (.ref b131), (.ref b131)])) t
    refine XS.lconst X131.here hx rfl (hb hby at_35) ?_
    exact kt
  obtain ⟨T134, h134, X134, e134, W134, V134, st134⟩ := OwnKit.stAL X131 hx hZ e131 fV132 (j := (0 : Int32)) (by decide) (by decide) (g := (mkF m 36 #[.val (.int xw), .val (.int xo), .val (.int xf), .val (.long xx), .second, .val (.int fw), .val (.int fo), .val (.int w123), .unset, .unset, .unset, .unset, .unset, .unset, .unset, .unset, .unset, .unset, .unset] [(.long (1 : Int64)), (.int (0 : Int32)), (.ref b131), (.ref b131)])) rfl rfl (hb hby at_36)
  have Zs134 : n0 ≤ h134.size := Nat.le_trans Zs131 (Keep.of_wr W134).1
  have fV135 := V134
  have N134 := Fr.snoc X134 N0 gn131
  have s136 : ∀ t, Steps p.tables e below (T134.setTop (mkF m 42 #[.val (.int xw), .val (.int xo), .val (.int xf), .val (.long xx), .second, .val (.int fw), .val (.int fo), .val (.int w123), .unset, .unset, .unset, .unset, .unset, .unset, .unset, .unset, .unset, .unset, .unset] [(.long (10 : Int64)), (.int (1 : Int32)), (.ref b131), (.ref b131)])) t → Steps p.tables e below (T134.setTop (mkF m 37 #[.val (.int xw), .val (.int xo), .val (.int xf), .val (.long xx), .second, .val (.int fw), .val (.int fo), .val (.int w123), .unset, .unset, .unset, .unset, .unset, .unset, .unset, .unset, .unset, .unset, .unset] [(.ref b131)])) t := by
    intro t kt
    refine XS.dup X134.here hx rfl (hb hby at_37) rfl rfl ?_
    show Steps p.tables e below (T134.setTop (mkF m 38 #[.val (.int xw), .val (.int xo), .val (.int xf), .val (.long xx), .second, .val (.int fw), .val (.int fo), .val (.int w123), .unset, .unset, .unset, .unset, .unset, .unset, .unset, .unset, .unset, .unset, .unset] [(.ref b131), (.ref b131)])) t
    refine XS.iconst X134.here hx rfl (hb hby at_38) ?_
    show Steps p.tables e below (T134.setTop (mkF m 39 #[.val (.int xw), .val (.int xo), .val (.int xf), .val (.long xx), .second, .val (.int fw), .val (.int fo), .val (.int w123), .unset, .unset, .unset, .unset, .unset, .unset, .unset, .unset, .unset, .unset, .unset] [(.int (1 : Int32)), (.ref b131), (.ref b131)])) t
    refine X134.ldc2Long hx hown (mvT hZ (hw _ (List.mem_of_getElem? (i := 2) rfl))) (g := (mkF m 39 #[.val (.int xw), .val (.int xo), .val (.int xf), .val (.long xx), .second, .val (.int fw), .val (.int fo), .val (.int w123), .unset, .unset, .unset, .unset, .unset, .unset, .unset, .unset, .unset, .unset, .unset] [(.int (1 : Int32)), (.ref b131), (.ref b131)])) rfl (hb hby at_39) _ ?_
    exact kt
  obtain ⟨T137, h137, X137, e137, W137, V137, st137⟩ := OwnKit.stAL X134 hx hZ e134 fV135 (j := (1 : Int32)) (by decide) (by decide) (g := (mkF m 42 #[.val (.int xw), .val (.int xo), .val (.int xf), .val (.long xx), .second, .val (.int fw), .val (.int fo), .val (.int w123), .unset, .unset, .unset, .unset, .unset, .unset, .unset, .unset, .unset, .unset, .unset] [(.long (10 : Int64)), (.int (1 : Int32)), (.ref b131), (.ref b131)])) rfl rfl (hb hby at_42)
  have Zs137 : n0 ≤ h137.size := Nat.le_trans Zs134 (Keep.of_wr W137).1
  have fV138 := V137
  have N137 := Fr.snoc X137 N134 gn131
  have s139 : ∀ t, Steps p.tables e below (T137.setTop (mkF m 48 #[.val (.int xw), .val (.int xo), .val (.int xf), .val (.long xx), .second, .val (.int fw), .val (.int fo), .val (.int w123), .unset, .unset, .unset, .unset, .unset, .unset, .unset, .unset, .unset, .unset, .unset] [(.long (100 : Int64)), (.int (2 : Int32)), (.ref b131), (.ref b131)])) t → Steps p.tables e below (T137.setTop (mkF m 43 #[.val (.int xw), .val (.int xo), .val (.int xf), .val (.long xx), .second, .val (.int fw), .val (.int fo), .val (.int w123), .unset, .unset, .unset, .unset, .unset, .unset, .unset, .unset, .unset, .unset, .unset] [(.ref b131)])) t := by
    intro t kt
    refine XS.dup X137.here hx rfl (hb hby at_43) rfl rfl ?_
    show Steps p.tables e below (T137.setTop (mkF m 44 #[.val (.int xw), .val (.int xo), .val (.int xf), .val (.long xx), .second, .val (.int fw), .val (.int fo), .val (.int w123), .unset, .unset, .unset, .unset, .unset, .unset, .unset, .unset, .unset, .unset, .unset] [(.ref b131), (.ref b131)])) t
    refine XS.iconst X137.here hx rfl (hb hby at_44) ?_
    show Steps p.tables e below (T137.setTop (mkF m 45 #[.val (.int xw), .val (.int xo), .val (.int xf), .val (.long xx), .second, .val (.int fw), .val (.int fo), .val (.int w123), .unset, .unset, .unset, .unset, .unset, .unset, .unset, .unset, .unset, .unset, .unset] [(.int (2 : Int32)), (.ref b131), (.ref b131)])) t
    refine X137.ldc2Long hx hown (mvT hZ (hw _ (List.mem_of_getElem? (i := 3) rfl))) (g := (mkF m 45 #[.val (.int xw), .val (.int xo), .val (.int xf), .val (.long xx), .second, .val (.int fw), .val (.int fo), .val (.int w123), .unset, .unset, .unset, .unset, .unset, .unset, .unset, .unset, .unset, .unset, .unset] [(.int (2 : Int32)), (.ref b131), (.ref b131)])) rfl (hb hby at_45) _ ?_
    exact kt
  obtain ⟨T140, h140, X140, e140, W140, V140, st140⟩ := OwnKit.stAL X137 hx hZ e137 fV138 (j := (2 : Int32)) (by decide) (by decide) (g := (mkF m 48 #[.val (.int xw), .val (.int xo), .val (.int xf), .val (.long xx), .second, .val (.int fw), .val (.int fo), .val (.int w123), .unset, .unset, .unset, .unset, .unset, .unset, .unset, .unset, .unset, .unset, .unset] [(.long (100 : Int64)), (.int (2 : Int32)), (.ref b131), (.ref b131)])) rfl rfl (hb hby at_48)
  have Zs140 : n0 ≤ h140.size := Nat.le_trans Zs137 (Keep.of_wr W140).1
  have fV141 := V140
  have N140 := Fr.snoc X140 N137 gn131
  have s142 : ∀ t, Steps p.tables e below (T140.setTop (mkF m 54 #[.val (.int xw), .val (.int xo), .val (.int xf), .val (.long xx), .second, .val (.int fw), .val (.int fo), .val (.int w123), .unset, .unset, .unset, .unset, .unset, .unset, .unset, .unset, .unset, .unset, .unset] [(.long (1000 : Int64)), (.int (3 : Int32)), (.ref b131), (.ref b131)])) t → Steps p.tables e below (T140.setTop (mkF m 49 #[.val (.int xw), .val (.int xo), .val (.int xf), .val (.long xx), .second, .val (.int fw), .val (.int fo), .val (.int w123), .unset, .unset, .unset, .unset, .unset, .unset, .unset, .unset, .unset, .unset, .unset] [(.ref b131)])) t := by
    intro t kt
    refine XS.dup X140.here hx rfl (hb hby at_49) rfl rfl ?_
    show Steps p.tables e below (T140.setTop (mkF m 50 #[.val (.int xw), .val (.int xo), .val (.int xf), .val (.long xx), .second, .val (.int fw), .val (.int fo), .val (.int w123), .unset, .unset, .unset, .unset, .unset, .unset, .unset, .unset, .unset, .unset, .unset] [(.ref b131), (.ref b131)])) t
    refine XS.iconst X140.here hx rfl (hb hby at_50) ?_
    show Steps p.tables e below (T140.setTop (mkF m 51 #[.val (.int xw), .val (.int xo), .val (.int xf), .val (.long xx), .second, .val (.int fw), .val (.int fo), .val (.int w123), .unset, .unset, .unset, .unset, .unset, .unset, .unset, .unset, .unset, .unset, .unset] [(.int (3 : Int32)), (.ref b131), (.ref b131)])) t
    refine X140.ldc2Long hx hown (mvT hZ (hw _ (List.mem_of_getElem? (i := 4) rfl))) (g := (mkF m 51 #[.val (.int xw), .val (.int xo), .val (.int xf), .val (.long xx), .second, .val (.int fw), .val (.int fo), .val (.int w123), .unset, .unset, .unset, .unset, .unset, .unset, .unset, .unset, .unset, .unset, .unset] [(.int (3 : Int32)), (.ref b131), (.ref b131)])) rfl (hb hby at_51) _ ?_
    exact kt
  obtain ⟨T143, h143, X143, e143, W143, V143, st143⟩ := OwnKit.stAL X140 hx hZ e140 fV141 (j := (3 : Int32)) (by decide) (by decide) (g := (mkF m 54 #[.val (.int xw), .val (.int xo), .val (.int xf), .val (.long xx), .second, .val (.int fw), .val (.int fo), .val (.int w123), .unset, .unset, .unset, .unset, .unset, .unset, .unset, .unset, .unset, .unset, .unset] [(.long (1000 : Int64)), (.int (3 : Int32)), (.ref b131), (.ref b131)])) rfl rfl (hb hby at_54)
  have Zs143 : n0 ≤ h143.size := Nat.le_trans Zs140 (Keep.of_wr W143).1
  have fV144 := V143
  have N143 := Fr.snoc X143 N140 gn131
  have s145 : ∀ t, Steps p.tables e below (T143.setTop (mkF m 60 #[.val (.int xw), .val (.int xo), .val (.int xf), .val (.long xx), .second, .val (.int fw), .val (.int fo), .val (.int w123), .unset, .unset, .unset, .unset, .unset, .unset, .unset, .unset, .unset, .unset, .unset] [(.long (10000 : Int64)), (.int (4 : Int32)), (.ref b131), (.ref b131)])) t → Steps p.tables e below (T143.setTop (mkF m 55 #[.val (.int xw), .val (.int xo), .val (.int xf), .val (.long xx), .second, .val (.int fw), .val (.int fo), .val (.int w123), .unset, .unset, .unset, .unset, .unset, .unset, .unset, .unset, .unset, .unset, .unset] [(.ref b131)])) t := by
    intro t kt
    refine XS.dup X143.here hx rfl (hb hby at_55) rfl rfl ?_
    show Steps p.tables e below (T143.setTop (mkF m 56 #[.val (.int xw), .val (.int xo), .val (.int xf), .val (.long xx), .second, .val (.int fw), .val (.int fo), .val (.int w123), .unset, .unset, .unset, .unset, .unset, .unset, .unset, .unset, .unset, .unset, .unset] [(.ref b131), (.ref b131)])) t
    refine XS.iconst X143.here hx rfl (hb hby at_56) ?_
    show Steps p.tables e below (T143.setTop (mkF m 57 #[.val (.int xw), .val (.int xo), .val (.int xf), .val (.long xx), .second, .val (.int fw), .val (.int fo), .val (.int w123), .unset, .unset, .unset, .unset, .unset, .unset, .unset, .unset, .unset, .unset, .unset] [(.int (4 : Int32)), (.ref b131), (.ref b131)])) t
    refine X143.ldc2Long hx hown (mvT hZ (hw _ (List.mem_of_getElem? (i := 5) rfl))) (g := (mkF m 57 #[.val (.int xw), .val (.int xo), .val (.int xf), .val (.long xx), .second, .val (.int fw), .val (.int fo), .val (.int w123), .unset, .unset, .unset, .unset, .unset, .unset, .unset, .unset, .unset, .unset, .unset] [(.int (4 : Int32)), (.ref b131), (.ref b131)])) rfl (hb hby at_57) _ ?_
    exact kt
  obtain ⟨T146, h146, X146, e146, W146, V146, st146⟩ := OwnKit.stAL X143 hx hZ e143 fV144 (j := (4 : Int32)) (by decide) (by decide) (g := (mkF m 60 #[.val (.int xw), .val (.int xo), .val (.int xf), .val (.long xx), .second, .val (.int fw), .val (.int fo), .val (.int w123), .unset, .unset, .unset, .unset, .unset, .unset, .unset, .unset, .unset, .unset, .unset] [(.long (10000 : Int64)), (.int (4 : Int32)), (.ref b131), (.ref b131)])) rfl rfl (hb hby at_60)
  have Zs146 : n0 ≤ h146.size := Nat.le_trans Zs143 (Keep.of_wr W146).1
  have fV147 := V146
  have N146 := Fr.snoc X146 N143 gn131
  have s148 : ∀ t, Steps p.tables e below (T146.setTop (mkF m 66 #[.val (.int xw), .val (.int xo), .val (.int xf), .val (.long xx), .second, .val (.int fw), .val (.int fo), .val (.int w123), .unset, .unset, .unset, .unset, .unset, .unset, .unset, .unset, .unset, .unset, .unset] [(.long (100000 : Int64)), (.int (5 : Int32)), (.ref b131), (.ref b131)])) t → Steps p.tables e below (T146.setTop (mkF m 61 #[.val (.int xw), .val (.int xo), .val (.int xf), .val (.long xx), .second, .val (.int fw), .val (.int fo), .val (.int w123), .unset, .unset, .unset, .unset, .unset, .unset, .unset, .unset, .unset, .unset, .unset] [(.ref b131)])) t := by
    intro t kt
    refine XS.dup X146.here hx rfl (hb hby at_61) rfl rfl ?_
    show Steps p.tables e below (T146.setTop (mkF m 62 #[.val (.int xw), .val (.int xo), .val (.int xf), .val (.long xx), .second, .val (.int fw), .val (.int fo), .val (.int w123), .unset, .unset, .unset, .unset, .unset, .unset, .unset, .unset, .unset, .unset, .unset] [(.ref b131), (.ref b131)])) t
    refine XS.iconst X146.here hx rfl (hb hby at_62) ?_
    show Steps p.tables e below (T146.setTop (mkF m 63 #[.val (.int xw), .val (.int xo), .val (.int xf), .val (.long xx), .second, .val (.int fw), .val (.int fo), .val (.int w123), .unset, .unset, .unset, .unset, .unset, .unset, .unset, .unset, .unset, .unset, .unset] [(.int (5 : Int32)), (.ref b131), (.ref b131)])) t
    refine X146.ldc2Long hx hown (mvT hZ (hw _ (List.mem_of_getElem? (i := 6) rfl))) (g := (mkF m 63 #[.val (.int xw), .val (.int xo), .val (.int xf), .val (.long xx), .second, .val (.int fw), .val (.int fo), .val (.int w123), .unset, .unset, .unset, .unset, .unset, .unset, .unset, .unset, .unset, .unset, .unset] [(.int (5 : Int32)), (.ref b131), (.ref b131)])) rfl (hb hby at_63) _ ?_
    exact kt
  obtain ⟨T149, h149, X149, e149, W149, V149, st149⟩ := OwnKit.stAL X146 hx hZ e146 fV147 (j := (5 : Int32)) (by decide) (by decide) (g := (mkF m 66 #[.val (.int xw), .val (.int xo), .val (.int xf), .val (.long xx), .second, .val (.int fw), .val (.int fo), .val (.int w123), .unset, .unset, .unset, .unset, .unset, .unset, .unset, .unset, .unset, .unset, .unset] [(.long (100000 : Int64)), (.int (5 : Int32)), (.ref b131), (.ref b131)])) rfl rfl (hb hby at_66)
  have Zs149 : n0 ≤ h149.size := Nat.le_trans Zs146 (Keep.of_wr W149).1
  have fV150 := V149
  have N149 := Fr.snoc X149 N146 gn131
  have s151 : ∀ t, Steps p.tables e below (T149.setTop (mkF m 73 #[.val (.int xw), .val (.int xo), .val (.int xf), .val (.long xx), .second, .val (.int fw), .val (.int fo), .val (.int w123), .unset, .unset, .unset, .unset, .unset, .unset, .unset, .unset, .unset, .unset, .unset] [(.long (1000000 : Int64)), (.int (6 : Int32)), (.ref b131), (.ref b131)])) t → Steps p.tables e below (T149.setTop (mkF m 67 #[.val (.int xw), .val (.int xo), .val (.int xf), .val (.long xx), .second, .val (.int fw), .val (.int fo), .val (.int w123), .unset, .unset, .unset, .unset, .unset, .unset, .unset, .unset, .unset, .unset, .unset] [(.ref b131)])) t := by
    intro t kt
    refine XS.dup X149.here hx rfl (hb hby at_67) rfl rfl ?_
    show Steps p.tables e below (T149.setTop (mkF m 68 #[.val (.int xw), .val (.int xo), .val (.int xf), .val (.long xx), .second, .val (.int fw), .val (.int fo), .val (.int w123), .unset, .unset, .unset, .unset, .unset, .unset, .unset, .unset, .unset, .unset, .unset] [(.ref b131), (.ref b131)])) t
    refine XS.bipush X149.here hx rfl (hb hby at_68) ?_
    show Steps p.tables e below (T149.setTop (mkF m 70 #[.val (.int xw), .val (.int xo), .val (.int xf), .val (.long xx), .second, .val (.int fw), .val (.int fo), .val (.int w123), .unset, .unset, .unset, .unset, .unset, .unset, .unset, .unset, .unset, .unset, .unset] [(.int (6 : Int32)), (.ref b131), (.ref b131)])) t
    refine X149.ldc2Long hx hown (mvT hZ (hw _ (List.mem_of_getElem? (i := 7) rfl))) (g := (mkF m 70 #[.val (.int xw), .val (.int xo), .val (.int xf), .val (.long xx), .second, .val (.int fw), .val (.int fo), .val (.int w123), .unset, .unset, .unset, .unset, .unset, .unset, .unset, .unset, .unset, .unset, .unset] [(.int (6 : Int32)), (.ref b131), (.ref b131)])) rfl (hb hby at_70) _ ?_
    exact kt
  obtain ⟨T152, h152, X152, e152, W152, V152, st152⟩ := OwnKit.stAL X149 hx hZ e149 fV150 (j := (6 : Int32)) (by decide) (by decide) (g := (mkF m 73 #[.val (.int xw), .val (.int xo), .val (.int xf), .val (.long xx), .second, .val (.int fw), .val (.int fo), .val (.int w123), .unset, .unset, .unset, .unset, .unset, .unset, .unset, .unset, .unset, .unset, .unset] [(.long (1000000 : Int64)), (.int (6 : Int32)), (.ref b131), (.ref b131)])) rfl rfl (hb hby at_73)
  have Zs152 : n0 ≤ h152.size := Nat.le_trans Zs149 (Keep.of_wr W152).1
  have fV153 := V152
  have N152 := Fr.snoc X152 N149 gn131
  have s154 : ∀ t, Steps p.tables e below (T152.setTop (mkF m 80 #[.val (.int xw), .val (.int xo), .val (.int xf), .val (.long xx), .second, .val (.int fw), .val (.int fo), .val (.int w123), .unset, .unset, .unset, .unset, .unset, .unset, .unset, .unset, .unset, .unset, .unset] [(.long (10000000 : Int64)), (.int (7 : Int32)), (.ref b131), (.ref b131)])) t → Steps p.tables e below (T152.setTop (mkF m 74 #[.val (.int xw), .val (.int xo), .val (.int xf), .val (.long xx), .second, .val (.int fw), .val (.int fo), .val (.int w123), .unset, .unset, .unset, .unset, .unset, .unset, .unset, .unset, .unset, .unset, .unset] [(.ref b131)])) t := by
    intro t kt
    refine XS.dup X152.here hx rfl (hb hby at_74) rfl rfl ?_
    show Steps p.tables e below (T152.setTop (mkF m 75 #[.val (.int xw), .val (.int xo), .val (.int xf), .val (.long xx), .second, .val (.int fw), .val (.int fo), .val (.int w123), .unset, .unset, .unset, .unset, .unset, .unset, .unset, .unset, .unset, .unset, .unset] [(.ref b131), (.ref b131)])) t
    refine XS.bipush X152.here hx rfl (hb hby at_75) ?_
    show Steps p.tables e below (T152.setTop (mkF m 77 #[.val (.int xw), .val (.int xo), .val (.int xf), .val (.long xx), .second, .val (.int fw), .val (.int fo), .val (.int w123), .unset, .unset, .unset, .unset, .unset, .unset, .unset, .unset, .unset, .unset, .unset] [(.int (7 : Int32)), (.ref b131), (.ref b131)])) t
    refine X152.ldc2Long hx hown (mvT hZ (hw _ (List.mem_of_getElem? (i := 8) rfl))) (g := (mkF m 77 #[.val (.int xw), .val (.int xo), .val (.int xf), .val (.long xx), .second, .val (.int fw), .val (.int fo), .val (.int w123), .unset, .unset, .unset, .unset, .unset, .unset, .unset, .unset, .unset, .unset, .unset] [(.int (7 : Int32)), (.ref b131), (.ref b131)])) rfl (hb hby at_77) _ ?_
    exact kt
  obtain ⟨T155, h155, X155, e155, W155, V155, st155⟩ := OwnKit.stAL X152 hx hZ e152 fV153 (j := (7 : Int32)) (by decide) (by decide) (g := (mkF m 80 #[.val (.int xw), .val (.int xo), .val (.int xf), .val (.long xx), .second, .val (.int fw), .val (.int fo), .val (.int w123), .unset, .unset, .unset, .unset, .unset, .unset, .unset, .unset, .unset, .unset, .unset] [(.long (10000000 : Int64)), (.int (7 : Int32)), (.ref b131), (.ref b131)])) rfl rfl (hb hby at_80)
  have Zs155 : n0 ≤ h155.size := Nat.le_trans Zs152 (Keep.of_wr W155).1
  have fV156 := V155
  have N155 := Fr.snoc X155 N152 gn131
  have s157 : ∀ t, Steps p.tables e below (T155.setTop (mkF m 87 #[.val (.int xw), .val (.int xo), .val (.int xf), .val (.long xx), .second, .val (.int fw), .val (.int fo), .val (.int w123), .unset, .unset, .unset, .unset, .unset, .unset, .unset, .unset, .unset, .unset, .unset] [(.long (100000000 : Int64)), (.int (8 : Int32)), (.ref b131), (.ref b131)])) t → Steps p.tables e below (T155.setTop (mkF m 81 #[.val (.int xw), .val (.int xo), .val (.int xf), .val (.long xx), .second, .val (.int fw), .val (.int fo), .val (.int w123), .unset, .unset, .unset, .unset, .unset, .unset, .unset, .unset, .unset, .unset, .unset] [(.ref b131)])) t := by
    intro t kt
    refine XS.dup X155.here hx rfl (hb hby at_81) rfl rfl ?_
    show Steps p.tables e below (T155.setTop (mkF m 82 #[.val (.int xw), .val (.int xo), .val (.int xf), .val (.long xx), .second, .val (.int fw), .val (.int fo), .val (.int w123), .unset, .unset, .unset, .unset, .unset, .unset, .unset, .unset, .unset, .unset, .unset] [(.ref b131), (.ref b131)])) t
    refine XS.bipush X155.here hx rfl (hb hby at_82) ?_
    show Steps p.tables e below (T155.setTop (mkF m 84 #[.val (.int xw), .val (.int xo), .val (.int xf), .val (.long xx), .second, .val (.int fw), .val (.int fo), .val (.int w123), .unset, .unset, .unset, .unset, .unset, .unset, .unset, .unset, .unset, .unset, .unset] [(.int (8 : Int32)), (.ref b131), (.ref b131)])) t
    refine X155.ldc2Long hx hown (mvT hZ (hw _ (List.mem_of_getElem? (i := 9) rfl))) (g := (mkF m 84 #[.val (.int xw), .val (.int xo), .val (.int xf), .val (.long xx), .second, .val (.int fw), .val (.int fo), .val (.int w123), .unset, .unset, .unset, .unset, .unset, .unset, .unset, .unset, .unset, .unset, .unset] [(.int (8 : Int32)), (.ref b131), (.ref b131)])) rfl (hb hby at_84) _ ?_
    exact kt
  obtain ⟨T158, h158, X158, e158, W158, V158, st158⟩ := OwnKit.stAL X155 hx hZ e155 fV156 (j := (8 : Int32)) (by decide) (by decide) (g := (mkF m 87 #[.val (.int xw), .val (.int xo), .val (.int xf), .val (.long xx), .second, .val (.int fw), .val (.int fo), .val (.int w123), .unset, .unset, .unset, .unset, .unset, .unset, .unset, .unset, .unset, .unset, .unset] [(.long (100000000 : Int64)), (.int (8 : Int32)), (.ref b131), (.ref b131)])) rfl rfl (hb hby at_87)
  have Zs158 : n0 ≤ h158.size := Nat.le_trans Zs155 (Keep.of_wr W158).1
  have fV159 := V158
  have N158 := Fr.snoc X158 N155 gn131
  have s160 : ∀ t, Steps p.tables e below (T158.setTop (mkF m 94 #[.val (.int xw), .val (.int xo), .val (.int xf), .val (.long xx), .second, .val (.int fw), .val (.int fo), .val (.int w123), .unset, .unset, .unset, .unset, .unset, .unset, .unset, .unset, .unset, .unset, .unset] [(.long (1000000000 : Int64)), (.int (9 : Int32)), (.ref b131), (.ref b131)])) t → Steps p.tables e below (T158.setTop (mkF m 88 #[.val (.int xw), .val (.int xo), .val (.int xf), .val (.long xx), .second, .val (.int fw), .val (.int fo), .val (.int w123), .unset, .unset, .unset, .unset, .unset, .unset, .unset, .unset, .unset, .unset, .unset] [(.ref b131)])) t := by
    intro t kt
    refine XS.dup X158.here hx rfl (hb hby at_88) rfl rfl ?_
    show Steps p.tables e below (T158.setTop (mkF m 89 #[.val (.int xw), .val (.int xo), .val (.int xf), .val (.long xx), .second, .val (.int fw), .val (.int fo), .val (.int w123), .unset, .unset, .unset, .unset, .unset, .unset, .unset, .unset, .unset, .unset, .unset] [(.ref b131), (.ref b131)])) t
    refine XS.bipush X158.here hx rfl (hb hby at_89) ?_
    show Steps p.tables e below (T158.setTop (mkF m 91 #[.val (.int xw), .val (.int xo), .val (.int xf), .val (.long xx), .second, .val (.int fw), .val (.int fo), .val (.int w123), .unset, .unset, .unset, .unset, .unset, .unset, .unset, .unset, .unset, .unset, .unset] [(.int (9 : Int32)), (.ref b131), (.ref b131)])) t
    refine X158.ldc2Long hx hown (mvT hZ (hw _ (List.mem_of_getElem? (i := 10) rfl))) (g := (mkF m 91 #[.val (.int xw), .val (.int xo), .val (.int xf), .val (.long xx), .second, .val (.int fw), .val (.int fo), .val (.int w123), .unset, .unset, .unset, .unset, .unset, .unset, .unset, .unset, .unset, .unset, .unset] [(.int (9 : Int32)), (.ref b131), (.ref b131)])) rfl (hb hby at_91) _ ?_
    exact kt
  obtain ⟨T161, h161, X161, e161, W161, V161, st161⟩ := OwnKit.stAL X158 hx hZ e158 fV159 (j := (9 : Int32)) (by decide) (by decide) (g := (mkF m 94 #[.val (.int xw), .val (.int xo), .val (.int xf), .val (.long xx), .second, .val (.int fw), .val (.int fo), .val (.int w123), .unset, .unset, .unset, .unset, .unset, .unset, .unset, .unset, .unset, .unset, .unset] [(.long (1000000000 : Int64)), (.int (9 : Int32)), (.ref b131), (.ref b131)])) rfl rfl (hb hby at_94)
  have Zs161 : n0 ≤ h161.size := Nat.le_trans Zs158 (Keep.of_wr W161).1
  have fV162 := V161
  have N161 := Fr.snoc X161 N158 gn131
  have s163 : ∀ t, Steps p.tables e below (T161.setTop (mkF m 101 #[.val (.int xw), .val (.int xo), .val (.int xf), .val (.long xx), .second, .val (.int fw), .val (.int fo), .val (.int w123), .unset, .unset, .unset, .unset, .unset, .unset, .unset, .unset, .unset, .unset, .unset] [(.long (10000000000 : Int64)), (.int (10 : Int32)), (.ref b131), (.ref b131)])) t → Steps p.tables e below (T161.setTop (mkF m 95 #[.val (.int xw), .val (.int xo), .val (.int xf), .val (.long xx), .second, .val (.int fw), .val (.int fo), .val (.int w123), .unset, .unset, .unset, .unset, .unset, .unset, .unset, .unset, .unset, .unset, .unset] [(.ref b131)])) t := by
    intro t kt
    refine XS.dup X161.here hx rfl (hb hby at_95) rfl rfl ?_
    show Steps p.tables e below (T161.setTop (mkF m 96 #[.val (.int xw), .val (.int xo), .val (.int xf), .val (.long xx), .second, .val (.int fw), .val (.int fo), .val (.int w123), .unset, .unset, .unset, .unset, .unset, .unset, .unset, .unset, .unset, .unset, .unset] [(.ref b131), (.ref b131)])) t
    refine XS.bipush X161.here hx rfl (hb hby at_96) ?_
    show Steps p.tables e below (T161.setTop (mkF m 98 #[.val (.int xw), .val (.int xo), .val (.int xf), .val (.long xx), .second, .val (.int fw), .val (.int fo), .val (.int w123), .unset, .unset, .unset, .unset, .unset, .unset, .unset, .unset, .unset, .unset, .unset] [(.int (10 : Int32)), (.ref b131), (.ref b131)])) t
    refine X161.ldc2Long hx hown (mvT hZ (hw _ (List.mem_of_getElem? (i := 11) rfl))) (g := (mkF m 98 #[.val (.int xw), .val (.int xo), .val (.int xf), .val (.long xx), .second, .val (.int fw), .val (.int fo), .val (.int w123), .unset, .unset, .unset, .unset, .unset, .unset, .unset, .unset, .unset, .unset, .unset] [(.int (10 : Int32)), (.ref b131), (.ref b131)])) rfl (hb hby at_98) _ ?_
    exact kt
  obtain ⟨T164, h164, X164, e164, W164, V164, st164⟩ := OwnKit.stAL X161 hx hZ e161 fV162 (j := (10 : Int32)) (by decide) (by decide) (g := (mkF m 101 #[.val (.int xw), .val (.int xo), .val (.int xf), .val (.long xx), .second, .val (.int fw), .val (.int fo), .val (.int w123), .unset, .unset, .unset, .unset, .unset, .unset, .unset, .unset, .unset, .unset, .unset] [(.long (10000000000 : Int64)), (.int (10 : Int32)), (.ref b131), (.ref b131)])) rfl rfl (hb hby at_101)
  have Zs164 : n0 ≤ h164.size := Nat.le_trans Zs161 (Keep.of_wr W164).1
  have fV165 := V164
  have N164 := Fr.snoc X164 N161 gn131
  have s166 : ∀ t, Steps p.tables e below (T164.setTop (mkF m 108 #[.val (.int xw), .val (.int xo), .val (.int xf), .val (.long xx), .second, .val (.int fw), .val (.int fo), .val (.int w123), .unset, .unset, .unset, .unset, .unset, .unset, .unset, .unset, .unset, .unset, .unset] [(.long (100000000000 : Int64)), (.int (11 : Int32)), (.ref b131), (.ref b131)])) t → Steps p.tables e below (T164.setTop (mkF m 102 #[.val (.int xw), .val (.int xo), .val (.int xf), .val (.long xx), .second, .val (.int fw), .val (.int fo), .val (.int w123), .unset, .unset, .unset, .unset, .unset, .unset, .unset, .unset, .unset, .unset, .unset] [(.ref b131)])) t := by
    intro t kt
    refine XS.dup X164.here hx rfl (hb hby at_102) rfl rfl ?_
    show Steps p.tables e below (T164.setTop (mkF m 103 #[.val (.int xw), .val (.int xo), .val (.int xf), .val (.long xx), .second, .val (.int fw), .val (.int fo), .val (.int w123), .unset, .unset, .unset, .unset, .unset, .unset, .unset, .unset, .unset, .unset, .unset] [(.ref b131), (.ref b131)])) t
    refine XS.bipush X164.here hx rfl (hb hby at_103) ?_
    show Steps p.tables e below (T164.setTop (mkF m 105 #[.val (.int xw), .val (.int xo), .val (.int xf), .val (.long xx), .second, .val (.int fw), .val (.int fo), .val (.int w123), .unset, .unset, .unset, .unset, .unset, .unset, .unset, .unset, .unset, .unset, .unset] [(.int (11 : Int32)), (.ref b131), (.ref b131)])) t
    refine X164.ldc2Long hx hown (mvT hZ (hw _ (List.mem_of_getElem? (i := 12) rfl))) (g := (mkF m 105 #[.val (.int xw), .val (.int xo), .val (.int xf), .val (.long xx), .second, .val (.int fw), .val (.int fo), .val (.int w123), .unset, .unset, .unset, .unset, .unset, .unset, .unset, .unset, .unset, .unset, .unset] [(.int (11 : Int32)), (.ref b131), (.ref b131)])) rfl (hb hby at_105) _ ?_
    exact kt
  obtain ⟨T167, h167, X167, e167, W167, V167, st167⟩ := OwnKit.stAL X164 hx hZ e164 fV165 (j := (11 : Int32)) (by decide) (by decide) (g := (mkF m 108 #[.val (.int xw), .val (.int xo), .val (.int xf), .val (.long xx), .second, .val (.int fw), .val (.int fo), .val (.int w123), .unset, .unset, .unset, .unset, .unset, .unset, .unset, .unset, .unset, .unset, .unset] [(.long (100000000000 : Int64)), (.int (11 : Int32)), (.ref b131), (.ref b131)])) rfl rfl (hb hby at_108)
  have Zs167 : n0 ≤ h167.size := Nat.le_trans Zs164 (Keep.of_wr W167).1
  have fV168 := V167
  have N167 := Fr.snoc X167 N164 gn131
  have s169 : ∀ t, Steps p.tables e below (T167.setTop (mkF m 115 #[.val (.int xw), .val (.int xo), .val (.int xf), .val (.long xx), .second, .val (.int fw), .val (.int fo), .val (.int w123), .unset, .unset, .unset, .unset, .unset, .unset, .unset, .unset, .unset, .unset, .unset] [(.long (1000000000000 : Int64)), (.int (12 : Int32)), (.ref b131), (.ref b131)])) t → Steps p.tables e below (T167.setTop (mkF m 109 #[.val (.int xw), .val (.int xo), .val (.int xf), .val (.long xx), .second, .val (.int fw), .val (.int fo), .val (.int w123), .unset, .unset, .unset, .unset, .unset, .unset, .unset, .unset, .unset, .unset, .unset] [(.ref b131)])) t := by
    intro t kt
    refine XS.dup X167.here hx rfl (hb hby at_109) rfl rfl ?_
    show Steps p.tables e below (T167.setTop (mkF m 110 #[.val (.int xw), .val (.int xo), .val (.int xf), .val (.long xx), .second, .val (.int fw), .val (.int fo), .val (.int w123), .unset, .unset, .unset, .unset, .unset, .unset, .unset, .unset, .unset, .unset, .unset] [(.ref b131), (.ref b131)])) t
    refine XS.bipush X167.here hx rfl (hb hby at_110) ?_
    show Steps p.tables e below (T167.setTop (mkF m 112 #[.val (.int xw), .val (.int xo), .val (.int xf), .val (.long xx), .second, .val (.int fw), .val (.int fo), .val (.int w123), .unset, .unset, .unset, .unset, .unset, .unset, .unset, .unset, .unset, .unset, .unset] [(.int (12 : Int32)), (.ref b131), (.ref b131)])) t
    refine X167.ldc2Long hx hown (mvT hZ (hw _ (List.mem_of_getElem? (i := 13) rfl))) (g := (mkF m 112 #[.val (.int xw), .val (.int xo), .val (.int xf), .val (.long xx), .second, .val (.int fw), .val (.int fo), .val (.int w123), .unset, .unset, .unset, .unset, .unset, .unset, .unset, .unset, .unset, .unset, .unset] [(.int (12 : Int32)), (.ref b131), (.ref b131)])) rfl (hb hby at_112) _ ?_
    exact kt
  obtain ⟨T170, h170, X170, e170, W170, V170, st170⟩ := OwnKit.stAL X167 hx hZ e167 fV168 (j := (12 : Int32)) (by decide) (by decide) (g := (mkF m 115 #[.val (.int xw), .val (.int xo), .val (.int xf), .val (.long xx), .second, .val (.int fw), .val (.int fo), .val (.int w123), .unset, .unset, .unset, .unset, .unset, .unset, .unset, .unset, .unset, .unset, .unset] [(.long (1000000000000 : Int64)), (.int (12 : Int32)), (.ref b131), (.ref b131)])) rfl rfl (hb hby at_115)
  have Zs170 : n0 ≤ h170.size := Nat.le_trans Zs167 (Keep.of_wr W170).1
  have fV171 := V170
  have N170 := Fr.snoc X170 N167 gn131
  have s172 : ∀ t, Steps p.tables e below (T170.setTop (mkF m 122 #[.val (.int xw), .val (.int xo), .val (.int xf), .val (.long xx), .second, .val (.int fw), .val (.int fo), .val (.int w123), .unset, .unset, .unset, .unset, .unset, .unset, .unset, .unset, .unset, .unset, .unset] [(.long (10000000000000 : Int64)), (.int (13 : Int32)), (.ref b131), (.ref b131)])) t → Steps p.tables e below (T170.setTop (mkF m 116 #[.val (.int xw), .val (.int xo), .val (.int xf), .val (.long xx), .second, .val (.int fw), .val (.int fo), .val (.int w123), .unset, .unset, .unset, .unset, .unset, .unset, .unset, .unset, .unset, .unset, .unset] [(.ref b131)])) t := by
    intro t kt
    refine XS.dup X170.here hx rfl (hb hby at_116) rfl rfl ?_
    show Steps p.tables e below (T170.setTop (mkF m 117 #[.val (.int xw), .val (.int xo), .val (.int xf), .val (.long xx), .second, .val (.int fw), .val (.int fo), .val (.int w123), .unset, .unset, .unset, .unset, .unset, .unset, .unset, .unset, .unset, .unset, .unset] [(.ref b131), (.ref b131)])) t
    refine XS.bipush X170.here hx rfl (hb hby at_117) ?_
    show Steps p.tables e below (T170.setTop (mkF m 119 #[.val (.int xw), .val (.int xo), .val (.int xf), .val (.long xx), .second, .val (.int fw), .val (.int fo), .val (.int w123), .unset, .unset, .unset, .unset, .unset, .unset, .unset, .unset, .unset, .unset, .unset] [(.int (13 : Int32)), (.ref b131), (.ref b131)])) t
    refine X170.ldc2Long hx hown (mvT hZ (hw _ (List.mem_of_getElem? (i := 14) rfl))) (g := (mkF m 119 #[.val (.int xw), .val (.int xo), .val (.int xf), .val (.long xx), .second, .val (.int fw), .val (.int fo), .val (.int w123), .unset, .unset, .unset, .unset, .unset, .unset, .unset, .unset, .unset, .unset, .unset] [(.int (13 : Int32)), (.ref b131), (.ref b131)])) rfl (hb hby at_119) _ ?_
    exact kt
  obtain ⟨T173, h173, X173, e173, W173, V173, st173⟩ := OwnKit.stAL X170 hx hZ e170 fV171 (j := (13 : Int32)) (by decide) (by decide) (g := (mkF m 122 #[.val (.int xw), .val (.int xo), .val (.int xf), .val (.long xx), .second, .val (.int fw), .val (.int fo), .val (.int w123), .unset, .unset, .unset, .unset, .unset, .unset, .unset, .unset, .unset, .unset, .unset] [(.long (10000000000000 : Int64)), (.int (13 : Int32)), (.ref b131), (.ref b131)])) rfl rfl (hb hby at_122)
  have Zs173 : n0 ≤ h173.size := Nat.le_trans Zs170 (Keep.of_wr W173).1
  have fV174 := V173
  have N173 := Fr.snoc X173 N170 gn131
  have s175 : ∀ t, Steps p.tables e below (T173.setTop (mkF m 129 #[.val (.int xw), .val (.int xo), .val (.int xf), .val (.long xx), .second, .val (.int fw), .val (.int fo), .val (.int w123), .unset, .unset, .unset, .unset, .unset, .unset, .unset, .unset, .unset, .unset, .unset] [(.long (100000000000000 : Int64)), (.int (14 : Int32)), (.ref b131), (.ref b131)])) t → Steps p.tables e below (T173.setTop (mkF m 123 #[.val (.int xw), .val (.int xo), .val (.int xf), .val (.long xx), .second, .val (.int fw), .val (.int fo), .val (.int w123), .unset, .unset, .unset, .unset, .unset, .unset, .unset, .unset, .unset, .unset, .unset] [(.ref b131)])) t := by
    intro t kt
    refine XS.dup X173.here hx rfl (hb hby at_123) rfl rfl ?_
    show Steps p.tables e below (T173.setTop (mkF m 124 #[.val (.int xw), .val (.int xo), .val (.int xf), .val (.long xx), .second, .val (.int fw), .val (.int fo), .val (.int w123), .unset, .unset, .unset, .unset, .unset, .unset, .unset, .unset, .unset, .unset, .unset] [(.ref b131), (.ref b131)])) t
    refine XS.bipush X173.here hx rfl (hb hby at_124) ?_
    show Steps p.tables e below (T173.setTop (mkF m 126 #[.val (.int xw), .val (.int xo), .val (.int xf), .val (.long xx), .second, .val (.int fw), .val (.int fo), .val (.int w123), .unset, .unset, .unset, .unset, .unset, .unset, .unset, .unset, .unset, .unset, .unset] [(.int (14 : Int32)), (.ref b131), (.ref b131)])) t
    refine X173.ldc2Long hx hown (mvT hZ (hw _ (List.mem_of_getElem? (i := 15) rfl))) (g := (mkF m 126 #[.val (.int xw), .val (.int xo), .val (.int xf), .val (.long xx), .second, .val (.int fw), .val (.int fo), .val (.int w123), .unset, .unset, .unset, .unset, .unset, .unset, .unset, .unset, .unset, .unset, .unset] [(.int (14 : Int32)), (.ref b131), (.ref b131)])) rfl (hb hby at_126) _ ?_
    exact kt
  obtain ⟨T176, h176, X176, e176, W176, V176, st176⟩ := OwnKit.stAL X173 hx hZ e173 fV174 (j := (14 : Int32)) (by decide) (by decide) (g := (mkF m 129 #[.val (.int xw), .val (.int xo), .val (.int xf), .val (.long xx), .second, .val (.int fw), .val (.int fo), .val (.int w123), .unset, .unset, .unset, .unset, .unset, .unset, .unset, .unset, .unset, .unset, .unset] [(.long (100000000000000 : Int64)), (.int (14 : Int32)), (.ref b131), (.ref b131)])) rfl rfl (hb hby at_129)
  have Zs176 : n0 ≤ h176.size := Nat.le_trans Zs173 (Keep.of_wr W176).1
  have fV177 := V176
  have N176 := Fr.snoc X176 N173 gn131
  have s178 : ∀ t, Steps p.tables e below (T176.setTop (mkF m 136 #[.val (.int xw), .val (.int xo), .val (.int xf), .val (.long xx), .second, .val (.int fw), .val (.int fo), .val (.int w123), .unset, .unset, .unset, .unset, .unset, .unset, .unset, .unset, .unset, .unset, .unset] [(.long (1000000000000000 : Int64)), (.int (15 : Int32)), (.ref b131), (.ref b131)])) t → Steps p.tables e below (T176.setTop (mkF m 130 #[.val (.int xw), .val (.int xo), .val (.int xf), .val (.long xx), .second, .val (.int fw), .val (.int fo), .val (.int w123), .unset, .unset, .unset, .unset, .unset, .unset, .unset, .unset, .unset, .unset, .unset] [(.ref b131)])) t := by
    intro t kt
    refine XS.dup X176.here hx rfl (hb hby at_130) rfl rfl ?_
    show Steps p.tables e below (T176.setTop (mkF m 131 #[.val (.int xw), .val (.int xo), .val (.int xf), .val (.long xx), .second, .val (.int fw), .val (.int fo), .val (.int w123), .unset, .unset, .unset, .unset, .unset, .unset, .unset, .unset, .unset, .unset, .unset] [(.ref b131), (.ref b131)])) t
    refine XS.bipush X176.here hx rfl (hb hby at_131) ?_
    show Steps p.tables e below (T176.setTop (mkF m 133 #[.val (.int xw), .val (.int xo), .val (.int xf), .val (.long xx), .second, .val (.int fw), .val (.int fo), .val (.int w123), .unset, .unset, .unset, .unset, .unset, .unset, .unset, .unset, .unset, .unset, .unset] [(.int (15 : Int32)), (.ref b131), (.ref b131)])) t
    refine X176.ldc2Long hx hown (mvT hZ (hw _ (List.mem_of_getElem? (i := 16) rfl))) (g := (mkF m 133 #[.val (.int xw), .val (.int xo), .val (.int xf), .val (.long xx), .second, .val (.int fw), .val (.int fo), .val (.int w123), .unset, .unset, .unset, .unset, .unset, .unset, .unset, .unset, .unset, .unset, .unset] [(.int (15 : Int32)), (.ref b131), (.ref b131)])) rfl (hb hby at_133) _ ?_
    exact kt
  obtain ⟨T179, h179, X179, e179, W179, V179, st179⟩ := OwnKit.stAL X176 hx hZ e176 fV177 (j := (15 : Int32)) (by decide) (by decide) (g := (mkF m 136 #[.val (.int xw), .val (.int xo), .val (.int xf), .val (.long xx), .second, .val (.int fw), .val (.int fo), .val (.int w123), .unset, .unset, .unset, .unset, .unset, .unset, .unset, .unset, .unset, .unset, .unset] [(.long (1000000000000000 : Int64)), (.int (15 : Int32)), (.ref b131), (.ref b131)])) rfl rfl (hb hby at_136)
  have Zs179 : n0 ≤ h179.size := Nat.le_trans Zs176 (Keep.of_wr W179).1
  have fV180 := V179
  have N179 := Fr.snoc X179 N176 gn131
  have s181 : ∀ t, Steps p.tables e below (T179.setTop (mkF m 143 #[.val (.int xw), .val (.int xo), .val (.int xf), .val (.long xx), .second, .val (.int fw), .val (.int fo), .val (.int w123), .unset, .unset, .unset, .unset, .unset, .unset, .unset, .unset, .unset, .unset, .unset] [(.long (10000000000000000 : Int64)), (.int (16 : Int32)), (.ref b131), (.ref b131)])) t → Steps p.tables e below (T179.setTop (mkF m 137 #[.val (.int xw), .val (.int xo), .val (.int xf), .val (.long xx), .second, .val (.int fw), .val (.int fo), .val (.int w123), .unset, .unset, .unset, .unset, .unset, .unset, .unset, .unset, .unset, .unset, .unset] [(.ref b131)])) t := by
    intro t kt
    refine XS.dup X179.here hx rfl (hb hby at_137) rfl rfl ?_
    show Steps p.tables e below (T179.setTop (mkF m 138 #[.val (.int xw), .val (.int xo), .val (.int xf), .val (.long xx), .second, .val (.int fw), .val (.int fo), .val (.int w123), .unset, .unset, .unset, .unset, .unset, .unset, .unset, .unset, .unset, .unset, .unset] [(.ref b131), (.ref b131)])) t
    refine XS.bipush X179.here hx rfl (hb hby at_138) ?_
    show Steps p.tables e below (T179.setTop (mkF m 140 #[.val (.int xw), .val (.int xo), .val (.int xf), .val (.long xx), .second, .val (.int fw), .val (.int fo), .val (.int w123), .unset, .unset, .unset, .unset, .unset, .unset, .unset, .unset, .unset, .unset, .unset] [(.int (16 : Int32)), (.ref b131), (.ref b131)])) t
    refine X179.ldc2Long hx hown (mvT hZ (hw _ (List.mem_of_getElem? (i := 17) rfl))) (g := (mkF m 140 #[.val (.int xw), .val (.int xo), .val (.int xf), .val (.long xx), .second, .val (.int fw), .val (.int fo), .val (.int w123), .unset, .unset, .unset, .unset, .unset, .unset, .unset, .unset, .unset, .unset, .unset] [(.int (16 : Int32)), (.ref b131), (.ref b131)])) rfl (hb hby at_140) _ ?_
    exact kt
  obtain ⟨T182, h182, X182, e182, W182, V182, st182⟩ := OwnKit.stAL X179 hx hZ e179 fV180 (j := (16 : Int32)) (by decide) (by decide) (g := (mkF m 143 #[.val (.int xw), .val (.int xo), .val (.int xf), .val (.long xx), .second, .val (.int fw), .val (.int fo), .val (.int w123), .unset, .unset, .unset, .unset, .unset, .unset, .unset, .unset, .unset, .unset, .unset] [(.long (10000000000000000 : Int64)), (.int (16 : Int32)), (.ref b131), (.ref b131)])) rfl rfl (hb hby at_143)
  have Zs182 : n0 ≤ h182.size := Nat.le_trans Zs179 (Keep.of_wr W182).1
  have fV183 := V182
  have N182 := Fr.snoc X182 N179 gn131
  have s184 : ∀ t, Steps p.tables e below (T182.setTop (mkF m 150 #[.val (.int xw), .val (.int xo), .val (.int xf), .val (.long xx), .second, .val (.int fw), .val (.int fo), .val (.int w123), .unset, .unset, .unset, .unset, .unset, .unset, .unset, .unset, .unset, .unset, .unset] [(.long (100000000000000000 : Int64)), (.int (17 : Int32)), (.ref b131), (.ref b131)])) t → Steps p.tables e below (T182.setTop (mkF m 144 #[.val (.int xw), .val (.int xo), .val (.int xf), .val (.long xx), .second, .val (.int fw), .val (.int fo), .val (.int w123), .unset, .unset, .unset, .unset, .unset, .unset, .unset, .unset, .unset, .unset, .unset] [(.ref b131)])) t := by
    intro t kt
    refine XS.dup X182.here hx rfl (hb hby at_144) rfl rfl ?_
    show Steps p.tables e below (T182.setTop (mkF m 145 #[.val (.int xw), .val (.int xo), .val (.int xf), .val (.long xx), .second, .val (.int fw), .val (.int fo), .val (.int w123), .unset, .unset, .unset, .unset, .unset, .unset, .unset, .unset, .unset, .unset, .unset] [(.ref b131), (.ref b131)])) t
    refine XS.bipush X182.here hx rfl (hb hby at_145) ?_
    show Steps p.tables e below (T182.setTop (mkF m 147 #[.val (.int xw), .val (.int xo), .val (.int xf), .val (.long xx), .second, .val (.int fw), .val (.int fo), .val (.int w123), .unset, .unset, .unset, .unset, .unset, .unset, .unset, .unset, .unset, .unset, .unset] [(.int (17 : Int32)), (.ref b131), (.ref b131)])) t
    refine X182.ldc2Long hx hown (mvT hZ (hw _ (List.mem_of_getElem? (i := 18) rfl))) (g := (mkF m 147 #[.val (.int xw), .val (.int xo), .val (.int xf), .val (.long xx), .second, .val (.int fw), .val (.int fo), .val (.int w123), .unset, .unset, .unset, .unset, .unset, .unset, .unset, .unset, .unset, .unset, .unset] [(.int (17 : Int32)), (.ref b131), (.ref b131)])) rfl (hb hby at_147) _ ?_
    exact kt
  obtain ⟨T185, h185, X185, e185, W185, V185, st185⟩ := OwnKit.stAL X182 hx hZ e182 fV183 (j := (17 : Int32)) (by decide) (by decide) (g := (mkF m 150 #[.val (.int xw), .val (.int xo), .val (.int xf), .val (.long xx), .second, .val (.int fw), .val (.int fo), .val (.int w123), .unset, .unset, .unset, .unset, .unset, .unset, .unset, .unset, .unset, .unset, .unset] [(.long (100000000000000000 : Int64)), (.int (17 : Int32)), (.ref b131), (.ref b131)])) rfl rfl (hb hby at_150)
  have Zs185 : n0 ≤ h185.size := Nat.le_trans Zs182 (Keep.of_wr W185).1
  have fV186 := V185
  have N185 := Fr.snoc X185 N182 gn131
  have s187 : ∀ t, Steps p.tables e below (T185.setTop (mkF m 157 #[.val (.int xw), .val (.int xo), .val (.int xf), .val (.long xx), .second, .val (.int fw), .val (.int fo), .val (.int w123), .unset, .unset, .unset, .unset, .unset, .unset, .unset, .unset, .unset, .unset, .unset] [(.long (1000000000000000000 : Int64)), (.int (18 : Int32)), (.ref b131), (.ref b131)])) t → Steps p.tables e below (T185.setTop (mkF m 151 #[.val (.int xw), .val (.int xo), .val (.int xf), .val (.long xx), .second, .val (.int fw), .val (.int fo), .val (.int w123), .unset, .unset, .unset, .unset, .unset, .unset, .unset, .unset, .unset, .unset, .unset] [(.ref b131)])) t := by
    intro t kt
    refine XS.dup X185.here hx rfl (hb hby at_151) rfl rfl ?_
    show Steps p.tables e below (T185.setTop (mkF m 152 #[.val (.int xw), .val (.int xo), .val (.int xf), .val (.long xx), .second, .val (.int fw), .val (.int fo), .val (.int w123), .unset, .unset, .unset, .unset, .unset, .unset, .unset, .unset, .unset, .unset, .unset] [(.ref b131), (.ref b131)])) t
    refine XS.bipush X185.here hx rfl (hb hby at_152) ?_
    show Steps p.tables e below (T185.setTop (mkF m 154 #[.val (.int xw), .val (.int xo), .val (.int xf), .val (.long xx), .second, .val (.int fw), .val (.int fo), .val (.int w123), .unset, .unset, .unset, .unset, .unset, .unset, .unset, .unset, .unset, .unset, .unset] [(.int (18 : Int32)), (.ref b131), (.ref b131)])) t
    refine X185.ldc2Long hx hown (mvT hZ (hw _ (List.mem_of_getElem? (i := 19) rfl))) (g := (mkF m 154 #[.val (.int xw), .val (.int xo), .val (.int xf), .val (.long xx), .second, .val (.int fw), .val (.int fo), .val (.int w123), .unset, .unset, .unset, .unset, .unset, .unset, .unset, .unset, .unset, .unset, .unset] [(.int (18 : Int32)), (.ref b131), (.ref b131)])) rfl (hb hby at_154) _ ?_
    exact kt
  obtain ⟨T188, h188, X188, e188, W188, V188, st188⟩ := OwnKit.stAL X185 hx hZ e185 fV186 (j := (18 : Int32)) (by decide) (by decide) (g := (mkF m 157 #[.val (.int xw), .val (.int xo), .val (.int xf), .val (.long xx), .second, .val (.int fw), .val (.int fo), .val (.int w123), .unset, .unset, .unset, .unset, .unset, .unset, .unset, .unset, .unset, .unset, .unset] [(.long (1000000000000000000 : Int64)), (.int (18 : Int32)), (.ref b131), (.ref b131)])) rfl rfl (hb hby at_157)
  have Zs188 : n0 ≤ h188.size := Nat.le_trans Zs185 (Keep.of_wr W188).1
  have fV189 := V188
  have N188 := Fr.snoc X188 N185 gn131
  have s190 : ∀ t, Steps p.tables e below (T188.setTop (mkF m 171 #[.val (.int xw), .val (.int xo), .val (.int xf), .val (.long xx), .second, .val (.int fw), .val (.int fo), .val (.int w123), .val (.ref b131), .val (.long (xx &&& (9223372036854775807 : Int64))), .second, .unset, .unset, .unset, .unset, .unset, .unset, .unset, .unset] [(.int (19 : Int32)), (.int fw)])) t → Steps p.tables e below (T188.setTop (mkF m 158 #[.val (.int xw), .val (.int xo), .val (.int xf), .val (.long xx), .second, .val (.int fw), .val (.int fo), .val (.int w123), .unset, .unset, .unset, .unset, .unset, .unset, .unset, .unset, .unset, .unset, .unset] [(.ref b131)])) t := by
    intro t kt
    refine XS.astore X188.here hx rfl (hb hby at_158) rfl rfl (l' := #[.val (.int xw), .val (.int xo), .val (.int xf), .val (.long xx), .second, .val (.int fw), .val (.int fo), .val (.int w123), .val (.ref b131), .unset, .unset, .unset, .unset, .unset, .unset, .unset, .unset, .unset, .unset]) rfl ?_
    show Steps p.tables e below (T188.setTop (mkF m 160 #[.val (.int xw), .val (.int xo), .val (.int xf), .val (.long xx), .second, .val (.int fw), .val (.int fo), .val (.int w123), .val (.ref b131), .unset, .unset, .unset, .unset, .unset, .unset, .unset, .unset, .unset, .unset] [])) t
    refine XS.lloadN X188.here hx rfl (hb hby at_160) rfl ?_
    show Steps p.tables e below (T188.setTop (mkF m 161 #[.val (.int xw), .val (.int xo), .val (.int xf), .val (.long xx), .second, .val (.int fw), .val (.int fo), .val (.int w123), .val (.ref b131), .unset, .unset, .unset, .unset, .unset, .unset, .unset, .unset, .unset, .unset] [(.long xx)])) t
    refine X188.ldc2Long hx hown (mvT hZ (hw _ (List.mem_of_getElem? (i := 20) rfl))) (g := (mkF m 161 #[.val (.int xw), .val (.int xo), .val (.int xf), .val (.long xx), .second, .val (.int fw), .val (.int fo), .val (.int w123), .val (.ref b131), .unset, .unset, .unset, .unset, .unset, .unset, .unset, .unset, .unset, .unset] [(.long xx)])) rfl (hb hby at_161) _ ?_
    show Steps p.tables e below (T188.setTop (mkF m 164 #[.val (.int xw), .val (.int xo), .val (.int xf), .val (.long xx), .second, .val (.int fw), .val (.int fo), .val (.int w123), .val (.ref b131), .unset, .unset, .unset, .unset, .unset, .unset, .unset, .unset, .unset, .unset] [(.long (9223372036854775807 : Int64)), (.long xx)])) t
    refine XS.land X188.here hx rfl (hb hby at_164) rfl ?_
    show Steps p.tables e below (T188.setTop (mkF m 165 #[.val (.int xw), .val (.int xo), .val (.int xf), .val (.long xx), .second, .val (.int fw), .val (.int fo), .val (.int w123), .val (.ref b131), .unset, .unset, .unset, .unset, .unset, .unset, .unset, .unset, .unset, .unset] [(.long (xx &&& (9223372036854775807 : Int64)))])) t
    refine XS.lstore X188.here hx rfl (hb hby at_165) rfl (l' := #[.val (.int xw), .val (.int xo), .val (.int xf), .val (.long xx), .second, .val (.int fw), .val (.int fo), .val (.int w123), .val (.ref b131), .val (.long (xx &&& (9223372036854775807 : Int64))), .second, .unset, .unset, .unset, .unset, .unset, .unset, .unset, .unset]) rfl ?_
    show Steps p.tables e below (T188.setTop (mkF m 167 #[.val (.int xw), .val (.int xo), .val (.int xf), .val (.long xx), .second, .val (.int fw), .val (.int fo), .val (.int w123), .val (.ref b131), .val (.long (xx &&& (9223372036854775807 : Int64))), .second, .unset, .unset, .unset, .unset, .unset, .unset, .unset, .unset] [])) t
    refine XS.iload X188.here hx rfl (hb hby at_167) rfl ?_
    show Steps p.tables e below (T188.setTop (mkF m 169 #[.val (.int xw), .val (.int xo), .val (.int xf), .val (.long xx), .second, .val (.int fw), .val (.int fo), .val (.int w123), .val (.ref b131), .val (.long (xx &&& (9223372036854775807 : Int64))), .second, .unset, .unset, .unset, .unset, .unset, .unset, .unset, .unset] [(.int fw)])) t
    refine XS.bipush X188.here hx rfl (hb hby at_169) ?_
    exact kt
  have Vt : Ar Z h188 b131 .long 19 (fun i => .long (own_t10 i)) := fV189.as (own_c19 rfl rfl rfl rfl rfl rfl rfl rfl rfl rfl rfl rfl rfl rfl rfl rfl rfl rfl rfl)
  obtain ⟨w195, hw195, j201⟩ : ∃ (w195 : Int64), w195 = (if fw = (19 : Int32) then (xx &&& (9223372036854775807 : Int64)) else ((xx &&& (9223372036854775807 : Int64)) - ((xx &&& (9223372036854775807 : Int64)) / (own_t10 fw.toInt.toNat)) * (own_t10 fw.toInt.toNat))) ∧ ∀ t, Steps p.tables e below (T188.setTop (mkF m 187 #[.val (.int xw), .val (.int xo), .val (.int xf), .val (.long xx), .second, .val (.int fw), .val (.int fo), .val (.int w123), .val (.ref b131), .val (.long (xx &&& (9223372036854775807 : Int64))), .second, .unset, .unset, .unset, .unset, .unset, .unset, .unset, .unset] [(.long w195)])) t → Steps p.tables e below (T188.setTop (mkF m 171 #[.val (.int xw), .val (.int xo), .val (.int xf), .val (.long xx), .second, .val (.int fw), .val (.int fo), .val (.int w123), .val (.ref b131), .val (.long (xx &&& (9223372036854775807 : Int64))), .second, .unset, .unset, .unset, .unset, .unset, .unset, .unset, .unset] [(.int (19 : Int32)), (.int fw)])) t := by
    by_cases c191 : fw = (19 : Int32)
    ·
      have s194 : ∀ t, Steps p.tables e below (T188.setTop (mkF m 187 #[.val (.int xw), .val (.int xo), .val (.int xf), .val (.long xx), .second, .val (.int fw), .val (.int fo), .val (.int w123), .val (.ref b131), .val (.long (xx &&& (9223372036854775807 : Int64))), .second, .unset, .unset, .unset, .unset, .unset, .unset, .unset, .unset] [(.long (xx &&& (9223372036854775807 : Int64)))])) t → Steps p.tables e below (T188.setTop (mkF m 171 #[.val (.int xw), .val (.int xo), .val (.int xf), .val (.long xx), .second, .val (.int fw), .val (.int fo), .val (.int w123), .val (.ref b131), .val (.long (xx &&& (9223372036854775807 : Int64))), .second, .unset, .unset, .unset, .unset, .unset, .unset, .unset, .unset] [(.int (19 : Int32)), (.int fw)])) t := by
        intro t kt
        refine XS.icmpNo X188.here hx rfl (hb hby at_171) rfl (teq c191).2 ?_
        show Steps p.tables e below (T188.setTop (mkF m 174 #[.val (.int xw), .val (.int xo), .val (.int xf), .val (.long xx), .second, .val (.int fw), .val (.int fo), .val (.int w123), .val (.ref b131), .val (.long (xx &&& (9223372036854775807 : Int64))), .second, .unset, .unset, .unset, .unset, .unset, .unset, .unset, .unset] [])) t
        refine XS.lload X188.here hx rfl (hb hby at_174) rfl ?_
        show Steps p.tables e below (T188.setTop (mkF m 176 #[.val (.int xw), .val (.int xo), .val (.int xf), .val (.long xx), .second, .val (.int fw), .val (.int fo), .val (.int w123), .val (.ref b131), .val (.long (xx &&& (9223372036854775807 : Int64))), .second, .unset, .unset, .unset, .unset, .unset, .unset, .unset, .unset] [(.long (xx &&& (9223372036854775807 : Int64)))])) t
        refine XS.goto X188.here hx rfl (pc0 := 176) (pc' := 187) rfl (hb hby at_176) (by decide) (by decide) ?_
        exact kt
      exact ⟨(xx &&& (9223372036854775807 : Int64)), (if_pos c191).symm, fun t kt => s194 _ (kt)⟩
    ·
      have s192 : ∀ t, Steps p.tables e below (T188.setTop (mkF m 185 #[.val (.int xw), .val (.int xo), .val (.int xf), .val (.long xx), .second, .val (.int fw), .val (.int fo), .val (.int w123), .val (.ref b131), .val (.long (xx &&& (9223372036854775807 : Int64))), .second, .unset, .unset, .unset, .unset, .unset, .unset, .unset, .unset] [(.int fw), (.ref b131), (.long (xx &&& (9223372036854775807 : Int64)))])) t → Steps p.tables e below (T188.setTop (mkF m 171 #[.val (.int xw), .val (.int xo), .val (.int xf), .val (.long xx), .second, .val (.int fw), .val (.int fo), .val (.int w123), .val (.ref b131), .val (.long (xx &&& (9223372036854775807 : Int64))), .second, .unset, .unset, .unset, .unset, .unset, .unset, .unset, .unset] [(.int (19 : Int32)), (.int fw)])) t := by
        intro t kt
        refine XS.icmpYes X188.here hx rfl (pc0 := 171) (pc' := 179) rfl (hb hby at_171) rfl (feq c191).2 (by decide) (by decide) ?_
        show Steps p.tables e below (T188.setTop (mkF m 179 #[.val (.int xw), .val (.int xo), .val (.int xf), .val (.long xx), .second, .val (.int fw), .val (.int fo), .val (.int w123), .val (.ref b131), .val (.long (xx &&& (9223372036854775807 : Int64))), .second, .unset, .unset, .unset, .unset, .unset, .unset, .unset, .unset] [])) t
        refine XS.lload X188.here hx rfl (hb hby at_179) rfl ?_
        show Steps p.tables e below (T188.setTop (mkF m 181 #[.val (.int xw), .val (.int xo), .val (.int xf), .val (.long xx), .second, .val (.int fw), .val (.int fo), .val (.int w123), .val (.ref b131), .val (.long (xx &&& (9223372036854775807 : Int64))), .second, .unset, .unset, .unset, .unset, .unset, .unset, .unset, .unset] [(.long (xx &&& (9223372036854775807 : Int64)))])) t
        refine XS.aload X188.here hx rfl (hb hby at_181) rfl rfl ?_
        show Steps p.tables e below (T188.setTop (mkF m 183 #[.val (.int xw), .val (.int xo), .val (.int xf), .val (.long xx), .second, .val (.int fw), .val (.int fo), .val (.int w123), .val (.ref b131), .val (.long (xx &&& (9223372036854775807 : Int64))), .second, .unset, .unset, .unset, .unset, .unset, .unset, .unset, .unset] [(.ref b131), (.long (xx &&& (9223372036854775807 : Int64)))])) t
        refine XS.iload X188.here hx rfl (hb hby at_183) rfl ?_
        exact kt
      have q19 : fw.toInt < 19 := by
        have q : fw.toInt ≠ 19 := fun z => c191 (Int32.toInt_inj.mp z)
        omega
      have s193 : ∀ t, Steps p.tables e below (T188.setTop (mkF m 187 #[.val (.int xw), .val (.int xo), .val (.int xf), .val (.long xx), .second, .val (.int fw), .val (.int fo), .val (.int w123), .val (.ref b131), .val (.long (xx &&& (9223372036854775807 : Int64))), .second, .unset, .unset, .unset, .unset, .unset, .unset, .unset, .unset] [(.long ((xx &&& (9223372036854775807 : Int64)) - ((xx &&& (9223372036854775807 : Int64)) / (own_t10 fw.toInt.toNat)) * (own_t10 fw.toInt.toNat)))])) t → Steps p.tables e below (T188.setTop (mkF m 185 #[.val (.int xw), .val (.int xo), .val (.int xf), .val (.long xx), .second, .val (.int fw), .val (.int fo), .val (.int w123), .val (.ref b131), .val (.long (xx &&& (9223372036854775807 : Int64))), .second, .unset, .unset, .unset, .unset, .unset, .unset, .unset, .unset] [(.int fw), (.ref b131), (.long (xx &&& (9223372036854775807 : Int64)))])) t := by
        intro t kt
        refine OwnKit.ldAL X188 hx hZ e188 Vt (j := fw) (by omega) (by omega) (w := (.long (own_t10 fw.toInt.toNat))) rfl (g := (mkF m 185 #[.val (.int xw), .val (.int xo), .val (.int xf), .val (.long xx), .second, .val (.int fw), .val (.int fo), .val (.int w123), .val (.ref b131), .val (.long (xx &&& (9223372036854775807 : Int64))), .second, .unset, .unset, .unset, .unset, .unset, .unset, .unset, .unset] [(.int fw), (.ref b131), (.long (xx &&& (9223372036854775807 : Int64)))])) rfl rfl (hb hby at_185) _ ?_
        show Steps p.tables e below (T188.setTop (mkF m 186 #[.val (.int xw), .val (.int xo), .val (.int xf), .val (.long xx), .second, .val (.int fw), .val (.int fo), .val (.int w123), .val (.ref b131), .val (.long (xx &&& (9223372036854775807 : Int64))), .second, .unset, .unset, .unset, .unset, .unset, .unset, .unset, .unset] [(.long (own_t10 fw.toInt.toNat)), (.long (xx &&& (9223372036854775807 : Int64)))])) t
        refine XS.lrem X188.here hx rfl (hb hby at_186) rfl (own_nz _ (by omega)) ?_
        exact kt
      exact ⟨((xx &&& (9223372036854775807 : Int64)) - ((xx &&& (9223372036854775807 : Int64)) / (own_t10 fw.toInt.toNat)) * (own_t10 fw.toInt.toNat)), (if_neg c191).symm, fun t kt => s192 _ (s193 _ (kt))⟩
  have s202 : ∀ t, Steps p.tables e below (T188.setTop (mkF m 191 #[.val (.int xw), .val (.int xo), .val (.int xf), .val (.long xx), .second, .val (.int fw), .val (.int fo), .val (.int w123), .val (.ref b131), .val (.long (xx &&& (9223372036854775807 : Int64))), .second, .val (.long w195), .second, .unset, .unset, .unset, .unset, .unset, .unset] [(.int w123)])) t → Steps p.tables e below (T188.setTop (mkF m 187 #[.val (.int xw), .val (.int xo), .val (.int xf), .val (.long xx), .second, .val (.int fw), .val (.int fo), .val (.int w123), .val (.ref b131), .val (.long (xx &&& (9223372036854775807 : Int64))), .second, .unset, .unset, .unset, .unset, .unset, .unset, .unset, .unset] [(.long w195)])) t := by
    intro t kt
    refine XS.lstore X188.here hx rfl (hb hby at_187) rfl (l' := #[.val (.int xw), .val (.int xo), .val (.int xf), .val (.long xx), .second, .val (.int fw), .val (.int fo), .val (.int w123), .val (.ref b131), .val (.long (xx &&& (9223372036854775807 : Int64))), .second, .val (.long w195), .second, .unset, .unset, .unset, .unset, .unset, .unset]) rfl ?_
    show Steps p.tables e below (T188.setTop (mkF m 189 #[.val (.int xw), .val (.int xo), .val (.int xf), .val (.long xx), .second, .val (.int fw), .val (.int fo), .val (.int w123), .val (.ref b131), .val (.long (xx &&& (9223372036854775807 : Int64))), .second, .val (.long w195), .second, .unset, .unset, .unset, .unset, .unset, .unset] [])) t
    refine XS.iload X188.here hx rfl (hb hby at_189) rfl ?_
    exact kt
  obtain ⟨w206, hw206, j212⟩ : ∃ (w206 : Int64), w206 = (if w123 = (0 : Int32) then w195 else ((9223372036854775807 : Int64) - w195)) ∧ ∀ t, Steps p.tables e below (T188.setTop (mkF m 205 #[.val (.int xw), .val (.int xo), .val (.int xf), .val (.long xx), .second, .val (.int fw), .val (.int fo), .val (.int w123), .val (.ref b131), .val (.long (xx &&& (9223372036854775807 : Int64))), .second, .val (.long w195), .second, .unset, .unset, .unset, .unset, .unset, .unset] [(.long w206)])) t → Steps p.tables e below (T188.setTop (mkF m 191 #[.val (.int xw), .val (.int xo), .val (.int xf), .val (.long xx), .second, .val (.int fw), .val (.int fo), .val (.int w123), .val (.ref b131), .val (.long (xx &&& (9223372036854775807 : Int64))), .second, .val (.long w195), .second, .unset, .unset, .unset, .unset, .unset, .unset] [(.int w123)])) t := by
    by_cases c203 : w123 = (0 : Int32)
    ·
      have s204 : ∀ t, Steps p.tables e below (T188.setTop (mkF m 205 #[.val (.int xw), .val (.int xo), .val (.int xf), .val (.long xx), .second, .val (.int fw), .val (.int fo), .val (.int w123), .val (.ref b131), .val (.long (xx &&& (9223372036854775807 : Int64))), .second, .val (.long w195), .second, .unset, .unset, .unset, .unset, .unset, .unset] [(.long w195)])) t → Steps p.tables e below (T188.setTop (mkF m 191 #[.val (.int xw), .val (.int xo), .val (.int xf), .val (.long xx), .second, .val (.int fw), .val (.int fo), .val (.int w123), .val (.ref b131), .val (.long (xx &&& (9223372036854775807 : Int64))), .second, .val (.long w195), .second, .unset, .unset, .unset, .unset, .unset, .unset] [(.int w123)])) t := by
        intro t kt
        refine XS.ifYes X188.here hx rfl (pc0 := 191) (pc' := 203) rfl (hb hby at_191) rfl ((if0 _ _).trans (teq c203).1) (by decide) (by decide) ?_
        show Steps p.tables e below (T188.setTop (mkF m 203 #[.val (.int xw), .val (.int xo), .val (.int xf), .val (.long xx), .second, .val (.int fw), .val (.int fo), .val (.int w123), .val (.ref b131), .val (.long (xx &&& (9223372036854775807 : Int64))), .second, .val (.long w195), .second, .unset, .unset, .unset, .unset, .unset, .unset] [])) t
        refine XS.lload X188.here hx rfl (hb hby at_203) rfl ?_
        exact kt
      exact ⟨w195, (if_pos c203).symm, fun t kt => s204 _ (kt)⟩
    ·
      have s205 : ∀ t, Steps p.tables e below (T188.setTop (mkF m 205 #[.val (.int xw), .val (.int xo), .val (.int xf), .val (.long xx), .second, .val (.int fw), .val (.int fo), .val (.int w123), .val (.ref b131), .val (.long (xx &&& (9223372036854775807 : Int64))), .second, .val (.long w195), .second, .unset, .unset, .unset, .unset, .unset, .unset] [(.long ((9223372036854775807 : Int64) - w195))])) t → Steps p.tables e below (T188.setTop (mkF m 191 #[.val (.int xw), .val (.int xo), .val (.int xf), .val (.long xx), .second, .val (.int fw), .val (.int fo), .val (.int w123), .val (.ref b131), .val (.long (xx &&& (9223372036854775807 : Int64))), .second, .val (.long w195), .second, .unset, .unset, .unset, .unset, .unset, .unset] [(.int w123)])) t := by
        intro t kt
        refine XS.ifNo X188.here hx rfl (hb hby at_191) rfl ((if0 _ _).trans (feq c203).1) ?_
        show Steps p.tables e below (T188.setTop (mkF m 194 #[.val (.int xw), .val (.int xo), .val (.int xf), .val (.long xx), .second, .val (.int fw), .val (.int fo), .val (.int w123), .val (.ref b131), .val (.long (xx &&& (9223372036854775807 : Int64))), .second, .val (.long w195), .second, .unset, .unset, .unset, .unset, .unset, .unset] [])) t
        refine X188.ldc2Long hx hown (mvT hZ (hw _ (List.mem_of_getElem? (i := 20) rfl))) (g := (mkF m 194 #[.val (.int xw), .val (.int xo), .val (.int xf), .val (.long xx), .second, .val (.int fw), .val (.int fo), .val (.int w123), .val (.ref b131), .val (.long (xx &&& (9223372036854775807 : Int64))), .second, .val (.long w195), .second, .unset, .unset, .unset, .unset, .unset, .unset] [])) rfl (hb hby at_194) _ ?_
        show Steps p.tables e below (T188.setTop (mkF m 197 #[.val (.int xw), .val (.int xo), .val (.int xf), .val (.long xx), .second, .val (.int fw), .val (.int fo), .val (.int w123), .val (.ref b131), .val (.long (xx &&& (9223372036854775807 : Int64))), .second, .val (.long w195), .second, .unset, .unset, .unset, .unset, .unset, .unset] [(.long (9223372036854775807 : Int64))])) t
        refine XS.lload X188.here hx rfl (hb hby at_197) rfl ?_
        show Steps p.tables e below (T188.setTop (mkF m 199 #[.val (.int xw), .val (.int xo), .val (.int xf), .val (.long xx), .second, .val (.int fw), .val (.int fo), .val (.int w123), .val (.ref b131), .val (.long (xx &&& (9223372036854775807 : Int64))), .second, .val (.long w195), .second, .unset, .unset, .unset, .unset, .unset, .unset] [(.long w195), (.long (9223372036854775807 : Int64))])) t
        refine XS.lsub X188.here hx rfl (hb hby at_199) rfl ?_
        show Steps p.tables e below (T188.setTop (mkF m 200 #[.val (.int xw), .val (.int xo), .val (.int xf), .val (.long xx), .second, .val (.int fw), .val (.int fo), .val (.int w123), .val (.ref b131), .val (.long (xx &&& (9223372036854775807 : Int64))), .second, .val (.long w195), .second, .unset, .unset, .unset, .unset, .unset, .unset] [(.long ((9223372036854775807 : Int64) - w195))])) t
        refine XS.goto X188.here hx rfl (pc0 := 200) (pc' := 205) rfl (hb hby at_200) (by decide) (by decide) ?_
        exact kt
      exact ⟨((9223372036854775807 : Int64) - w195), (if_neg c203).symm, fun t kt => s205 _ (kt)⟩
  have s213 : ∀ t, Steps p.tables e below (T188.setTop (mkF m 207 #[.val (.int xw), .val (.int xo), .val (.int xf), .val (.long xx), .second, .val (.int fw), .val (.int fo), .val (.int w123), .val (.ref b131), .val (.long (xx &&& (9223372036854775807 : Int64))), .second, .val (.long w195), .second, .val (.long w206), .second, .unset, .unset, .unset, .unset] [])) t → Steps p.tables e below (T188.setTop (mkF m 205 #[.val (.int xw), .val (.int xo), .val (.int xf), .val (.long xx), .second, .val (.int fw), .val (.int fo), .val (.int w123), .val (.ref b131), .val (.long (xx &&& (9223372036854775807 : Int64))), .second, .val (.long w195), .second, .unset, .unset, .unset, .unset, .unset, .unset] [(.long w206)])) t := by
    intro t kt
    refine XS.lstore X188.here hx rfl (hb hby at_205) rfl (l' := #[.val (.int xw), .val (.int xo), .val (.int xf), .val (.long xx), .second, .val (.int fw), .val (.int fo), .val (.int w123), .val (.ref b131), .val (.long (xx &&& (9223372036854775807 : Int64))), .second, .val (.long w195), .second, .val (.long w206), .second, .unset, .unset, .unset, .unset]) rfl ?_
    exact kt
  obtain ⟨val, hval⟩ : ∃ z : Int64, z = w206 := ⟨_, rfl⟩
  have s214 : ∀ t, Steps p.tables e below (T188.setTop (mkF m 207 #[.val (.int xw), .val (.int xo), .val (.int xf), .val (.long xx), .second, .val (.int fw), .val (.int fo), .val (.int w123), .val (.ref b131), .val (.long (xx &&& (9223372036854775807 : Int64))), .second, .val (.long w195), .second, .val (.long val), .second, .unset, .unset, .unset, .unset] [])) t → Steps p.tables e below (T188.setTop (mkF m 207 #[.val (.int xw), .val (.int xo), .val (.int xf), .val (.long xx), .second, .val (.int fw), .val (.int fo), .val (.int w123), .val (.ref b131), .val (.long (xx &&& (9223372036854775807 : Int64))), .second, .val (.long w195), .second, .val (.long w206), .second, .unset, .unset, .unset, .unset] [])) t := fun t kt => by subst hval; exact kt
  obtain ⟨T215, h215, X215, e215, E215, A215, D215, -, st215⟩ := newO X188 hx hZ hown (hw _ (List.mem_of_getElem? (i := 21) rfl)) (hw _ (List.mem_of_getElem? (i := 22) rfl)) (hw _ (List.mem_of_getElem? (i := 23) rfl)) e188 (g := (mkF m 207 #[.val (.int xw), .val (.int xo), .val (.int xf), .val (.long xx), .second, .val (.int fw), .val (.int fo), .val (.int w123), .val (.ref b131), .val (.long (xx &&& (9223372036854775807 : Int64))), .second, .val (.long w195), .second, .val (.long val), .second, .unset, .unset, .unset, .unset] [])) rfl (hb hby at_207) (by decide) (by decide)
  obtain ⟨b215, g215⟩ : ∃ z, z = h188.size := ⟨_, rfl⟩
  rw [← g215] at A215 D215 st215
  have ne216 : b131 ≠ b215 := Nat.ne_of_lt (Nat.lt_of_lt_of_le Vt.lt (Nat.le_of_eq g215.symm))
  have gn215 : n0 ≤ b215 := Nat.le_trans Zs188 (Nat.le_of_eq g215.symm)
  have Zs215 : n0 ≤ h215.size := Nat.le_trans Zs188 E215.1
  have fV217 := Vt.ext E215
  have fF218 : Fld Z h215 b215 "com/example/rowkey_modeler/rowkeymodeler/KeyField" "name" "Ljava/lang/String;" .null := D215 (Or.inr (hw _ (List.mem_of_getElem? (i := 55) rfl))) (ty := (.object "java/lang/String")) (by decide)
  have fF219 : Fld Z h215 b215 "com/example/rowkey_modeler/rowkeymodeler/NumberField" "reverse" "Z" (.int (0 : Int32)) := D215 (Or.inr (hw _ (List.mem_of_getElem? (i := 57) rfl))) (ty := .boolean) (by decide)
  have fF220 : Fld Z h215 b215 "com/example/rowkey_modeler/rowkeymodeler/DecimalField" "width" "I" (.int (0 : Int32)) := D215 (Or.inr (hw _ (List.mem_of_getElem? (i := 59) rfl))) (ty := .int) (by decide)
  have fF221 : Fld Z h215 b215 "com/example/rowkey_modeler/rowkeymodeler/DecimalField" "largestWritten" "J" (.long (0 : Int64)) := D215 (Or.inr (hw _ (List.mem_of_getElem? (i := 63) rfl))) (ty := .long) (by decide)
  have s222 : ∀ t, Steps p.tables e below (T215.setTop (mkF m 211 #[.val (.int xw), .val (.int xo), .val (.int xf), .val (.long xx), .second, .val (.int fw), .val (.int fo), .val (.int w123), .val (.ref b131), .val (.long (xx &&& (9223372036854775807 : Int64))), .second, .val (.long w195), .second, .val (.long val), .second, .unset, .unset, .unset, .unset] [(.ref b215), (.ref b215)])) t → Steps p.tables e below (T215.setTop (mkF m 210 #[.val (.int xw), .val (.int xo), .val (.int xf), .val (.long xx), .second, .val (.int fw), .val (.int fo), .val (.int w123), .val (.ref b131), .val (.long (xx &&& (9223372036854775807 : Int64))), .second, .val (.long w195), .second, .val (.long val), .second, .unset, .unset, .unset, .unset] [(.ref b215)])) t := by
    intro t kt
    refine XS.dup X215.here hx rfl (hb hby at_210) rfl rfl ?_
    exact kt
  obtain ⟨sa223, T223, h223, k223, sb223, kc223, X223, e223, E223, hS223, hk223, hZ223, hown223, Es223, Fc223, Fv223, Va223, la223, lb223, I223, st223⟩ := ldcSV (s := s) (vm0 := s.vm) X215 hx hZ hown (hw _ (List.mem_of_getElem? (i := 24) rfl)) hwS e215 (k0 := h215.size) (hSs h215.size) (Nat.le_refl _) (by rw [hUZ, ← hn0]; exact N188) (by rw [hUZ]; exact fun _ _ q => q) (by rw [hUZ]; exact IB.start) (by decide) hheld hcw (vs := [.int 102]) (z := (1 : Int32)) (by decide) (by decide) (by decide) (g := (mkF m 211 #[.val (.int xw), .val (.int xo), .val (.int xf), .val (.long xx), .second, .val (.int fw), .val (.int fo), .val (.int w123), .val (.ref b131), .val (.long (xx &&& (9223372036854775807 : Int64))), .second, .val (.long w195), .second, .val (.long val), .second, .unset, .unset, .unset, .unset] [(.ref b215), (.ref b215)])) rfl (hb hby at_211) (n := 4) (by decide) (by decide) (by decide) (by decide)
  have Zs223 : n0 ≤ h223.size := Nat.le_trans Zs215 E223.1
  have fV224 := fV217.ext E223
  have fE225 := A215.ext E223
  have fF226 := fF218.ext E223
  have fF227 := fF219.ext E223
  have fF228 := fF220.ext E223
  have fF229 := fF221.ext E223
  have fV230 := OwnKit.arv_ar Va223
  have neS := ne_exa fE225 Es223 (by decide)
  have neB : b215 ≠ sb223 := by obtain ⟨cB, AB, -⟩ := fV230; exact ne_arr fE225 (hw _ (List.mem_of_getElem? (i := 22) rfl)) AB
  have s231 : ∀ t, Steps p.tables e below (T223.setTop (mkF m 217 #[.val (.int xw), .val (.int xo), .val (.int xf), .val (.long xx), .second, .val (.int fw), .val (.int fo), .val (.int w123), .val (.ref b131), .val (.long (xx &&& (9223372036854775807 : Int64))), .second, .val (.long w195), .second, .val (.long val), .second, .unset, .unset, .unset, .unset] [(.int w123), (.int fw), (.ref sa223), (.ref b215), (.ref b215)])) t → Steps p.tables e below (T223.setTop (mkF m 213 #[.val (.int xw), .val (.int xo), .val (.int xf), .val (.long xx), .second, .val (.int fw), .val (.int fo), .val (.int w123), .val (.ref b131), .val (.long (xx &&& (9223372036854775807 : Int64))), .second, .val (.long w195), .second, .val (.long val), .second, .unset, .unset, .unset, .unset] [(.ref sa223), (.ref b215), (.ref b215)])) t := by
    intro t kt
    refine XS.iload X223.here hx rfl (hb hby at_213) rfl ?_
    show Steps p.tables e below (T223.setTop (mkF m 215 #[.val (.int xw), .val (.int xo), .val (.int xf), .val (.long xx), .second, .val (.int fw), .val (.int fo), .val (.int w123), .val (.ref b131), .val (.long (xx &&& (9223372036854775807 : Int64))), .second, .val (.long w195), .second, .val (.long val), .second, .unset, .unset, .unset, .unset] [(.int fw), (.ref sa223), (.ref b215), (.ref b215)])) t
    refine XS.iload X223.here hx rfl (hb hby at_215) rfl ?_
    exact kt
  obtain ⟨_, _, ⟨T232, L232, k232, n232⟩, -, X232, ⟨Lc232, hQ232, l232, y232, z232⟩, st232⟩ := X223.specialBack hx (y := (⟨"com/example/rowkey_modeler/rowkeymodeler/DecimalField", "<init>", "(Ljava/lang/String;IZ)V"⟩ : MethodName)) rfl hown223 (mvT hZ223 (hw _ (List.mem_of_getElem? (i := 32) rfl))) (mvT hZ223 (hw _ (List.mem_of_getElem? (i := 33) rfl))) (mvT hZ223 (hw _ (List.mem_of_getElem? (i := 34) rfl))) (by decide) (backOf (W := 1) (rm14 l Z a0 hw [] b215 sa223 sb223 _ fw w123 h223 n0 Zs223 fE225 fF226 fF227 fF228 fF229 gn215 Es223 Fv223 fV230 hfr hw1 hw19) hZ223 (hw _ (List.mem_of_getElem? (i := 34) rfl)) (hw _ (List.mem_of_getElem? (i := 23) rfl)) (by decide) (by decide)) (g := (mkF m 217 #[.val (.int xw), .val (.int xo), .val (.int xf), .val (.long xx), .second, .val (.int fw), .val (.int fo), .val (.int w123), .val (.ref b131), .val (.long (xx &&& (9223372036854775807 : Int64))), .second, .val (.long w195), .second, .val (.long val), .second, .unset, .unset, .unset, .unset] [(.int w123), (.int fw), (.ref sa223), (.ref b215), (.ref b215)])) rfl (by rw [hml]; rfl) (Steps.refl _) (a := b215) (argsL := [(.ref sa223), (.int fw), (.int w123)]) (rest := [(.ref b215)]) (lenOf pd_oLjava_lang_StringsIZcV rfl) rfl (by show 2 * 0 + _ ≤ _; exact Nat.le_of_eq rfl) (hb hby at_217) (fun _ _ => ⟨rfl, e223, (by decide : 4 + 0 ≤ _), (by decide : 31 + 0 ≤ _)⟩)
  dsimp only [Pt.U, Pt.locs, Pt.cells, Pt.slots] at X232 l232 y232 z232 st232 hQ232
  rw [l232, y232, z232] at X232
  obtain ⟨hv232, N232q, Kc232, fE233, fF234, fF235, fF236⟩ := hQ232
  rw [hv232] at st232
  have N232 := Fr.app N188 N232q
  have Zs232 : n0 ≤ T232.heap.size := Nat.le_trans Zs223 Kc232.1
  have fV237 := fV224.keep Kc232 (ninS ne216 nin0)
  have fE238 := Es223.keep Kc232
  have fF239 := Fv223.keep Kc232 (ninS (Ne.symm neS) nin0)
  have fV240 := fV230.keep Kc232 (ninS (Ne.symm neB) nin0)
  have K232 : Keep h223 T232.heap [b215] := (Keep.refl h223 [b215]).trans Kc232 (allS (Or.inl (List.mem_of_getElem? (i := 0) rfl)) all0)
  have s241 : ∀ t, Steps p.tables e below (T232.setTop (mkF m 224 #[.val (.int xw), .val (.int xo), .val (.int xf), .val (.long xx), .second, .val (.int fw), .val (.int fo), .val (.int w123), .val (.ref b131), .val (.long (xx &&& (9223372036854775807 : Int64))), .second, .val (.long w195), .second, .val (.long val), .second, .val (.ref b215), .unset, .unset, .unset] [(.int (23 : Int32))])) t → Steps p.tables e below (T232.setTop (mkF m 220 #[.val (.int xw), .val (.int xo), .val (.int xf), .val (.long xx), .second, .val (.int fw), .val (.int fo), .val (.int w123), .val (.ref b131), .val (.long (xx &&& (9223372036854775807 : Int64))), .second, .val (.long w195), .second, .val (.long val), .second, .unset, .unset, .unset, .unset] [(.ref b215)])) t := by
    intro t kt
    refine XS.astore X232.here hx rfl (hb hby at_220) rfl rfl (l' := #[.val (.int xw), .val (.int xo), .val (.int xf), .val (.long xx), .second, .val (.int fw), .val (.int fo), .val (.int w123), .val (.ref b131), .val (.long (xx &&& (9223372036854775807 : Int64))), .second, .val (.long w195), .second, .val (.long val), .second, .val (.ref b215), .unset, .unset, .unset]) rfl ?_
    show Steps p.tables e below (T232.setTop (mkF m 222 #[.val (.int xw), .val (.int xo), .val (.int xf), .val (.long xx), .second, .val (.int fw), .val (.int fo), .val (.int w123), .val (.ref b131), .val (.long (xx &&& (9223372036854775807 : Int64))), .second, .val (.long w195), .second, .val (.long val), .second, .val (.ref b215), .unset, .unset, .unset] [])) t
    refine XS.bipush X232.here hx rfl (hb hby at_222) ?_
    exact kt
  obtain ⟨T242, h242, k242, X242, e242, E242, A242, st242⟩ := newP X232 hx hZ223 (hw _ (List.mem_of_getElem? (i := 27) rfl)) rfl (g := (mkF m 224 #[.val (.int xw), .val (.int xo), .val (.int xf), .val (.long xx), .second, .val (.int fw), .val (.int fo), .val (.int w123), .val (.ref b131), .val (.long (xx &&& (9223372036854775807 : Int64))), .second, .val (.long w195), .second, .val (.long val), .second, .val (.ref b215), .unset, .unset, .unset] [(.int (23 : Int32))])) rfl (hb hby at_224) rfl (by decide) (cap := 23) (by decide) (by decide) (by decide) (by decide)
  obtain ⟨b242, g242⟩ : ∃ z, z = T232.heap.size := ⟨_, rfl⟩
  rw [← g242] at A242 st242
  have ne243 : b131 ≠ b242 := Nat.ne_of_lt (Nat.lt_of_lt_of_le fV237.lt (Nat.le_of_eq g242.symm))
  have ne244 : sa223 ≠ b242 := Nat.ne_of_lt (Nat.lt_of_lt_of_le fE238.lt (Nat.le_of_eq g242.symm))
  have ne245 : sb223 ≠ b242 := Nat.ne_of_lt (Nat.lt_of_lt_of_le fV240.lt (Nat.le_of_eq g242.symm))
  have ne246 : b215 ≠ b242 := Nat.ne_of_lt (Nat.lt_of_lt_of_le fE233.lt (Nat.le_of_eq g242.symm))
  have gn242 : n0 ≤ b242 := Nat.le_trans Zs232 (Nat.le_of_eq g242.symm)
  have sz242 : h223.size ≤ b242 := Nat.le_trans K232.1 (Nat.le_of_eq g242.symm)
  have Zs242 : n0 ≤ h242.size := Nat.le_trans Zs232 E242.1
  have fV247 := fV237.ext E242
  have fE248 := fE238.ext E242
  have fF249 := fF239.ext E242
  have fV250 := fV240.ext E242
  have fE251 := fE233.ext E242
  have fF252 := fF234.ext E242
  have fF253 := fF235.ext E242
  have fF254 := fF236.ext E242
  have K242 : Keep h223 h242 [b215] := K232.ext E242
  have fV255 : OwnKit.Ar Z h242 b242 .byte 23 (fun _ => defaultValue .byte) := OwnKit.Ar.new A242 (by decide) (by decide)
  have s256 : ∀ t, Steps p.tables e below (T242.setTop (mkF m 236 #[.val (.int xw), .val (.int xo), .val (.int xf), .val (.long xx), .second, .val (.int fw), .val (.int fo), .val (.int w123), .val (.ref b131), .val (.long (xx &&& (9223372036854775807 : Int64))), .second, .val (.long w195), .second, .val (.long val), .second, .val (.ref b215), .val (.ref b242), .unset, .unset] [(.int fo), (.ref b242), (.long val), (.ref b215)])) t → Steps p.tables e below (T242.setTop (mkF m 226 #[.val (.int xw), .val (.int xo), .val (.int xf), .val (.long xx), .second, .val (.int fw), .val (.int fo), .val (.int w123), .val (.ref b131), .val (.long (xx &&& (9223372036854775807 : Int64))), .second, .val (.long w195), .second, .val (.long val), .second, .val (.ref b215), .unset, .unset, .unset] [(.ref b242)])) t := by
    intro t kt
    refine XS.astore X242.here hx rfl (hb hby at_226) rfl rfl (l' := #[.val (.int xw), .val (.int xo), .val (.int xf), .val (.long xx), .second, .val (.int fw), .val (.int fo), .val (.int w123), .val (.ref b131), .val (.long (xx &&& (9223372036854775807 : Int64))), .second, .val (.long w195), .second, .val (.long val), .second, .val (.ref b215), .val (.ref b242), .unset, .unset]) rfl ?_
    show Steps p.tables e below (T242.setTop (mkF m 228 #[.val (.int xw), .val (.int xo), .val (.int xf), .val (.long xx), .second, .val (.int fw), .val (.int fo), .val (.int w123), .val (.ref b131), .val (.long (xx &&& (9223372036854775807 : Int64))), .second, .val (.long w195), .second, .val (.long val), .second, .val (.ref b215), .val (.ref b242), .unset, .unset] [])) t
    refine XS.aload X242.here hx rfl (hb hby at_228) rfl rfl ?_
    show Steps p.tables e below (T242.setTop (mkF m 230 #[.val (.int xw), .val (.int xo), .val (.int xf), .val (.long xx), .second, .val (.int fw), .val (.int fo), .val (.int w123), .val (.ref b131), .val (.long (xx &&& (9223372036854775807 : Int64))), .second, .val (.long w195), .second, .val (.long val), .second, .val (.ref b215), .val (.ref b242), .unset, .unset] [(.ref b215)])) t
    refine XS.lload X242.here hx rfl (hb hby at_230) rfl ?_
    show Steps p.tables e below (T242.setTop (mkF m 232 #[.val (.int xw), .val (.int xo), .val (.int xf), .val (.long xx), .second, .val (.int fw), .val (.int fo), .val (.int w123), .val (.ref b131), .val (.long (xx &&& (9223372036854775807 : Int64))), .second, .val (.long w195), .second, .val (.long val), .second, .val (.ref b215), .val (.ref b242), .unset, .unset] [(.long val), (.ref b215)])) t
    refine XS.aload X242.here hx rfl (hb hby at_232) rfl rfl ?_
    show Steps p.tables e below (T242.setTop (mkF m 234 #[.val (.int xw), .val (.int xo), .val (.int xf), .val (.long xx), .second, .val (.int fw), .val (.int fo), .val (.int w123), .val (.ref b131), .val (.long (xx &&& (9223372036854775807 : Int64))), .second, .val (.long w195), .second, .val (.long val), .second, .val (.ref b215), .val (.ref b242), .unset, .unset] [(.ref b242), (.long val), (.ref b215)])) t
    refine XS.iload X242.here hx rfl (hb hby at_234) rfl ?_
    exact kt
  obtain ⟨cq257, kq257, qa257, qb257, qc257⟩ := isOf hZ223 e242 fE251
  obtain ⟨_, _, ⟨T257, L257, k257, n257⟩, -, X257, ⟨Lc257, hQ257, l257, y257, z257⟩, st257⟩ := X242.virtualBack hx (y := (⟨"com/example/rowkey_modeler/rowkeymodeler/DecimalField", "writeHeld", "(J[BI)V"⟩ : MethodName)) (z := (⟨"com/example/rowkey_modeler/rowkeymodeler/DecimalField", "writeHeld", "(J[BI)V"⟩ : MethodName)) hown223 (mvT hZ223 (hw _ (List.mem_of_getElem? (i := 64) rfl))) (mvT hZ223 (hw _ (List.mem_of_getElem? (i := 65) rfl))) (notFace_of_selects (args := #[]) (mvT hZ223 (hw _ (List.mem_of_getElem? (i := 67) rfl)))) (mvT hZ223 (hw _ (List.mem_of_getElem? (i := 67) rfl))) (mvT hZ223 (hw _ (List.mem_of_getElem? (i := 66) rfl))) (by decide) (backOf (W := 0) (rm16 l Z a0 hw [] b215 b242 w123 fw val fo _ h242 n0 Zs242 fE251 fF252 fF253 fV255 gn242 hfr hw1 hw19 ho0 ho3) hZ223 (hw _ (List.mem_of_getElem? (i := 68) rfl)) (hw _ (List.mem_of_getElem? (i := 23) rfl)) (by decide) (by decide)) qa257 qc257 (g := (mkF m 236 #[.val (.int xw), .val (.int xo), .val (.int xf), .val (.long xx), .second, .val (.int fw), .val (.int fo), .val (.int w123), .val (.ref b131), .val (.long (xx &&& (9223372036854775807 : Int64))), .second, .val (.long w195), .second, .val (.long val), .second, .val (.ref b215), .val (.ref b242), .unset, .unset] [(.int fo), (.ref b242), (.long val), (.ref b215)])) rfl (by rw [hml]; rfl) (Steps.refl _) (argsL := [(.long val), (.ref b242), (.int fo)]) (rest := []) (lenOf pd_oJaBIcV rfl) rfl (by show 2 * 0 + _ ≤ _; exact Nat.le_of_eq rfl) (hb hby at_236) (fun _ _ => ⟨rfl, e242, (by decide : 5 + 0 ≤ _), (by decide : 54 + 0 ≤ _)⟩)
  dsimp only [Pt.U, Pt.locs, Pt.cells, Pt.slots] at X257 l257 y257 z257 st257 hQ257
  rw [l257, y257, z257] at X257
  obtain ⟨hv257, N257q, Kc257, fV258⟩ := hQ257
  rw [hv257] at st257
  have N257 := Fr.app N232 N257q
  have Zs257 : n0 ≤ T257.heap.size := Nat.le_trans Zs242 Kc257.1
  have fV259 := fV247.keep Kc257 (ninS ne243 nin0)
  have fE260 := fE251.keep Kc257
  have fF261 := fF252.keep Kc257 (ninS ne246 nin0)
  have fF262 := fF253.keep Kc257 (ninS ne246 nin0)
  have fF263 := fF254.keep Kc257 (ninS ne246 nin0)
  have K257 : Keep h223 T257.heap [b215] := K242.trans Kc257 (allS (Or.inr sz242) all0)
  have s264 : ∀ t, Steps p.tables e below (T257.setTop (mkF m 241 #[.val (.int xw), .val (.int xo), .val (.int xf), .val (.long xx), .second, .val (.int fw), .val (.int fo), .val (.int w123), .val (.ref b131), .val (.long (xx &&& (9223372036854775807 : Int64))), .second, .val (.long w195), .second, .val (.long val), .second, .val (.ref b215), .val (.ref b242), .unset, .unset] [(.int w123)])) t → Steps p.tables e below (T257.setTop (mkF m 239 #[.val (.int xw), .val (.int xo), .val (.int xf), .val (.long xx), .second, .val (.int fw), .val (.int fo), .val (.int w123), .val (.ref b131), .val (.long (xx &&& (9223372036854775807 : Int64))), .second, .val (.long w195), .second, .val (.long val), .second, .val (.ref b215), .val (.ref b242), .unset, .unset] [])) t := by
    intro t kt
    refine XS.iload X257.here hx rfl (hb hby at_239) rfl ?_
    exact kt
  obtain ⟨w268, hw268, j274⟩ : ∃ (w268 : Int64), w268 = (if w123 = (0 : Int32) then val else ((9223372036854775807 : Int64) - val)) ∧ ∀ t, Steps p.tables e below (T257.setTop (mkF m 255 #[.val (.int xw), .val (.int xo), .val (.int xf), .val (.long xx), .second, .val (.int fw), .val (.int fo), .val (.int w123), .val (.ref b131), .val (.long (xx &&& (9223372036854775807 : Int64))), .second, .val (.long w195), .second, .val (.long val), .second, .val (.ref b215), .val (.ref b242), .unset, .unset] [(.long w268)])) t → Steps p.tables e below (T257.setTop (mkF m 241 #[.val (.int xw), .val (.int xo), .val (.int xf), .val (.long xx), .second, .val (.int fw), .val (.int fo), .val (.int w123), .val (.ref b131), .val (.long (xx &&& (9223372036854775807 : Int64))), .second, .val (.long w195), .second, .val (.long val), .second, .val (.ref b215), .val (.ref b242), .unset, .unset] [(.int w123)])) t := by
    by_cases c265 : w123 = (0 : Int32)
    ·
      have s266 : ∀ t, Steps p.tables e below (T257.setTop (mkF m 255 #[.val (.int xw), .val (.int xo), .val (.int xf), .val (.long xx), .second, .val (.int fw), .val (.int fo), .val (.int w123), .val (.ref b131), .val (.long (xx &&& (9223372036854775807 : Int64))), .second, .val (.long w195), .second, .val (.long val), .second, .val (.ref b215), .val (.ref b242), .unset, .unset] [(.long val)])) t → Steps p.tables e below (T257.setTop (mkF m 241 #[.val (.int xw), .val (.int xo), .val (.int xf), .val (.long xx), .second, .val (.int fw), .val (.int fo), .val (.int w123), .val (.ref b131), .val (.long (xx &&& (9223372036854775807 : Int64))), .second, .val (.long w195), .second, .val (.long val), .second, .val (.ref b215), .val (.ref b242), .unset, .unset] [(.int w123)])) t := by
        intro t kt
        refine XS.ifYes X257.here hx rfl (pc0 := 241) (pc' := 253) rfl (hb hby at_241) rfl ((if0 _ _).trans (teq c265).1) (by decide) (by decide) ?_
        show Steps p.tables e below (T257.setTop (mkF m 253 #[.val (.int xw), .val (.int xo), .val (.int xf), .val (.long xx), .second, .val (.int fw), .val (.int fo), .val (.int w123), .val (.ref b131), .val (.long (xx &&& (9223372036854775807 : Int64))), .second, .val (.long w195), .second, .val (.long val), .second, .val (.ref b215), .val (.ref b242), .unset, .unset] [])) t
        refine XS.lload X257.here hx rfl (hb hby at_253) rfl ?_
        exact kt
      exact ⟨val, (if_pos c265).symm, fun t kt => s266 _ (kt)⟩
    ·
      have s267 : ∀ t, Steps p.tables e below (T257.setTop (mkF m 255 #[.val (.int xw), .val (.int xo), .val (.int xf), .val (.long xx), .second, .val (.int fw), .val (.int fo), .val (.int w123), .val (.ref b131), .val (.long (xx &&& (9223372036854775807 : Int64))), .second, .val (.long w195), .second, .val (.long val), .second, .val (.ref b215), .val (.ref b242), .unset, .unset] [(.long ((9223372036854775807 : Int64) - val))])) t → Steps p.tables e below (T257.setTop (mkF m 241 #[.val (.int xw), .val (.int xo), .val (.int xf), .val (.long xx), .second, .val (.int fw), .val (.int fo), .val (.int w123), .val (.ref b131), .val (.long (xx &&& (9223372036854775807 : Int64))), .second, .val (.long w195), .second, .val (.long val), .second, .val (.ref b215), .val (.ref b242), .unset, .unset] [(.int w123)])) t := by
        intro t kt
        refine XS.ifNo X257.here hx rfl (hb hby at_241) rfl ((if0 _ _).trans (feq c265).1) ?_
        show Steps p.tables e below (T257.setTop (mkF m 244 #[.val (.int xw), .val (.int xo), .val (.int xf), .val (.long xx), .second, .val (.int fw), .val (.int fo), .val (.int w123), .val (.ref b131), .val (.long (xx &&& (9223372036854775807 : Int64))), .second, .val (.long w195), .second, .val (.long val), .second, .val (.ref b215), .val (.ref b242), .unset, .unset] [])) t
        refine X257.ldc2Long hx hown223 (mvT hZ223 (hw _ (List.mem_of_getElem? (i := 20) rfl))) (g := (mkF m 244 #[.val (.int xw), .val (.int xo), .val (.int xf), .val (.long xx), .second, .val (.int fw), .val (.int fo), .val (.int w123), .val (.ref b131), .val (.long (xx &&& (9223372036854775807 : Int64))), .second, .val (.long w195), .second, .val (.long val), .second, .val (.ref b215), .val (.ref b242), .unset, .unset] [])) rfl (hb hby at_244) _ ?_
        show Steps p.tables e below (T257.setTop (mkF m 247 #[.val (.int xw), .val (.int xo), .val (.int xf), .val (.long xx), .second, .val (.int fw), .val (.int fo), .val (.int w123), .val (.ref b131), .val (.long (xx &&& (9223372036854775807 : Int64))), .second, .val (.long w195), .second, .val (.long val), .second, .val (.ref b215), .val (.ref b242), .unset, .unset] [(.long (9223372036854775807 : Int64))])) t
        refine XS.lload X257.here hx rfl (hb hby at_247) rfl ?_
        show Steps p.tables e below (T257.setTop (mkF m 249 #[.val (.int xw), .val (.int xo), .val (.int xf), .val (.long xx), .second, .val (.int fw), .val (.int fo), .val (.int w123), .val (.ref b131), .val (.long (xx &&& (9223372036854775807 : Int64))), .second, .val (.long w195), .second, .val (.long val), .second, .val (.ref b215), .val (.ref b242), .unset, .unset] [(.long val), (.long (9223372036854775807 : Int64))])) t
        refine XS.lsub X257.here hx rfl (hb hby at_249) rfl ?_
        show Steps p.tables e below (T257.setTop (mkF m 250 #[.val (.int xw), .val (.int xo), .val (.int xf), .val (.long xx), .second, .val (.int fw), .val (.int fo), .val (.int w123), .val (.ref b131), .val (.long (xx &&& (9223372036854775807 : Int64))), .second, .val (.long w195), .second, .val (.long val), .second, .val (.ref b215), .val (.ref b242), .unset, .unset] [(.long ((9223372036854775807 : Int64) - val))])) t
        refine XS.goto X257.here hx rfl (pc0 := 250) (pc' := 255) rfl (hb hby at_250) (by decide) (by decide) ?_
        exact kt
      exact ⟨((9223372036854775807 : Int64) - val), (if_neg c265).symm, fun t kt => s267 _ (kt)⟩
  have s275 : ∀ t, Steps p.tables e below (T257.setTop (mkF m 257 #[.val (.int xw), .val (.int xo), .val (.int xf), .val (.long xx), .second, .val (.int fw), .val (.int fo), .val (.int w123), .val (.ref b131), .val (.long (xx &&& (9223372036854775807 : Int64))), .second, .val (.long w195), .second, .val (.long val), .second, .val (.ref b215), .val (.ref b242), .val (.long w268), .second] [])) t → Steps p.tables e below (T257.setTop (mkF m 255 #[.val (.int xw), .val (.int xo), .val (.int xf), .val (.long xx), .second, .val (.int fw), .val (.int fo), .val (.int w123), .val (.ref b131), .val (.long (xx &&& (9223372036854775807 : Int64))), .second, .val (.long w195), .second, .val (.long val), .second, .val (.ref b215), .val (.ref b242), .unset, .unset] [(.long w268)])) t := by
    intro t kt
    refine XS.lstore X257.here hx rfl (hb hby at_255) rfl (l' := #[.val (.int xw), .val (.int xo), .val (.int xf), .val (.long xx), .second, .val (.int fw), .val (.int fo), .val (.int w123), .val (.ref b131), .val (.long (xx &&& (9223372036854775807 : Int64))), .second, .val (.long w195), .second, .val (.long val), .second, .val (.ref b215), .val (.ref b242), .val (.long w268), .second]) rfl ?_
    exact kt
  have Vg : Ar Z T257.heap b242 .byte 23 (fun i => .int (own_g fo.toInt.toNat fw.toInt.toNat w268 i)) := fV258.as (fun i _ => by show own_out _ _ _ _ i = .int (own_g _ _ _ i); rw [hw268]; unfold own_out own_g; split <;> rfl)
  have s276 : ∀ t, Steps p.tables e below (T257.setTop (mkF m 268 #[.val (.int xw), .val (.int xo), .val (.int xf), .val (.long xx), .second, .val (.int fw), .val (.int fo), .val (.int w123), .val (.ref b131), .val (.long (xx &&& (9223372036854775807 : Int64))), .second, .val (.long w195), .second, .val (.long val), .second, .val (.ref b215), .val (.ref b242), .val (.long w268), .second] [(.ref b131), (.long w268), (.int fw), (.int fo), (.int (0 : Int32)), (.ref b242)])) t → Steps p.tables e below (T257.setTop (mkF m 257 #[.val (.int xw), .val (.int xo), .val (.int xf), .val (.long xx), .second, .val (.int fw), .val (.int fo), .val (.int w123), .val (.ref b131), .val (.long (xx &&& (9223372036854775807 : Int64))), .second, .val (.long w195), .second, .val (.long val), .second, .val (.ref b215), .val (.ref b242), .val (.long w268), .second] [])) t := by
    intro t kt
    refine XS.aload X257.here hx rfl (hb hby at_257) rfl rfl ?_
    show Steps p.tables e below (T257.setTop (mkF m 259 #[.val (.int xw), .val (.int xo), .val (.int xf), .val (.long xx), .second, .val (.int fw), .val (.int fo), .val (.int w123), .val (.ref b131), .val (.long (xx &&& (9223372036854775807 : Int64))), .second, .val (.long w195), .second, .val (.long val), .second, .val (.ref b215), .val (.ref b242), .val (.long w268), .second] [(.ref b242)])) t
    refine XS.iconst X257.here hx rfl (hb hby at_259) ?_
    show Steps p.tables e below (T257.setTop (mkF m 260 #[.val (.int xw), .val (.int xo), .val (.int xf), .val (.long xx), .second, .val (.int fw), .val (.int fo), .val (.int w123), .val (.ref b131), .val (.long (xx &&& (9223372036854775807 : Int64))), .second, .val (.long w195), .second, .val (.long val), .second, .val (.ref b215), .val (.ref b242), .val (.long w268), .second] [(.int (0 : Int32)), (.ref b242)])) t
    refine XS.iload X257.here hx rfl (hb hby at_260) rfl ?_
    show Steps p.tables e below (T257.setTop (mkF m 262 #[.val (.int xw), .val (.int xo), .val (.int xf), .val (.long xx), .second, .val (.int fw), .val (.int fo), .val (.int w123), .val (.ref b131), .val (.long (xx &&& (9223372036854775807 : Int64))), .second, .val (.long w195), .second, .val (.long val), .second, .val (.ref b215), .val (.ref b242), .val (.long w268), .second] [(.int fo), (.int (0 : Int32)), (.ref b242)])) t
    refine XS.iload X257.here hx rfl (hb hby at_262) rfl ?_
    show Steps p.tables e below (T257.setTop (mkF m 264 #[.val (.int xw), .val (.int xo), .val (.int xf), .val (.long xx), .second, .val (.int fw), .val (.int fo), .val (.int w123), .val (.ref b131), .val (.long (xx &&& (9223372036854775807 : Int64))), .second, .val (.long w195), .second, .val (.long val), .second, .val (.ref b215), .val (.ref b242), .val (.long w268), .second] [(.int fw), (.int fo), (.int (0 : Int32)), (.ref b242)])) t
    refine XS.lload X257.here hx rfl (hb hby at_264) rfl ?_
    show Steps p.tables e below (T257.setTop (mkF m 266 #[.val (.int xw), .val (.int xo), .val (.int xf), .val (.long xx), .second, .val (.int fw), .val (.int fo), .val (.int w123), .val (.ref b131), .val (.long (xx &&& (9223372036854775807 : Int64))), .second, .val (.long w195), .second, .val (.long val), .second, .val (.ref b215), .val (.ref b242), .val (.long w268), .second] [(.long w268), (.int fw), (.int fo), (.int (0 : Int32)), (.ref b242)])) t
    refine XS.aload X257.here hx rfl (hb hby at_266) rfl rfl ?_
    exact kt
  obtain ⟨_, _, ⟨T277, L277, k277, n277⟩, -, X277, ⟨Lc277, hQ277, l277, y277, z277⟩, st277⟩ := Jvm.LawKit.callS X257 hx (y := (⟨"com/example/rowkey_modeler/rowkeymodeler/DecimalFieldWriteHeldPinLaw", "at", "([BIIIJ[J)Z"⟩ : MethodName)) hown223 (mvT hZ223 (hw _ (List.mem_of_getElem? (i := 76) rfl))) (mvT hZ223 (hw _ (List.mem_of_getElem? (i := 77) rfl))) (mvT hZ223 (hw _ (List.mem_of_getElem? (i := 78) rfl))) (mvT hZ223 (hw _ (List.mem_of_getElem? (i := 79) rfl))) (by decide) (backOf (W := 0) (rm17 l Z a0 hw [] b242 (0 : Int32) fo fw w268 b131 _ (own_g fo.toInt.toNat fw.toInt.toNat w268 0) T257.heap n0 Zs257 Vg fV259 (by decide) (by decide) rfl hw1 hw19 ho0 ho3) hZ223 (hw _ (List.mem_of_getElem? (i := 79) rfl)) (hw _ (List.mem_of_getElem? (i := 78) rfl)) (by decide) (by decide)) (g := (mkF m 268 #[.val (.int xw), .val (.int xo), .val (.int xf), .val (.long xx), .second, .val (.int fw), .val (.int fo), .val (.int w123), .val (.ref b131), .val (.long (xx &&& (9223372036854775807 : Int64))), .second, .val (.long w195), .second, .val (.long val), .second, .val (.ref b215), .val (.ref b242), .val (.long w268), .second] [(.ref b131), (.long w268), (.int fw), (.int fo), (.int (0 : Int32)), (.ref b242)])) rfl (by rw [hml]; rfl) (argsL := [(.ref b242), (.int (0 : Int32)), (.int fo), (.int fw), (.long w268), (.ref b131)]) (rest := []) (lenOf pd_oaBIIIJaJcZ rfl) rfl (by show 2 * 0 + _ ≤ _; exact Nat.le_of_eq rfl) (hb hby at_268) (fun _ _ => ⟨rfl, rfl, (by decide : 5 + 0 ≤ _), (by decide : 54 + 0 ≤ _)⟩)
  dsimp only [Pt.U, Pt.locs, Pt.cells, Pt.slots] at X277 l277 y277 z277 st277 hQ277
  rw [l277, y277, z277] at X277
  obtain ⟨hv277, N277q, e277q⟩ := hQ277
  rw [hv277] at st277
  have N277 := Fr.app N257 N277q
  have hat0 : ¬ ((fat (0 : Int32) fo fw w268 (own_g fo.toInt.toNat fw.toInt.toNat w268 0)) = (0 : Int32)) := own_at 0 _ _ _ _ (by decide) (by decide) hw1 hw19 ho0 ho3
  have s278 : ∀ t, Steps p.tables e below (T277.setTop (mkF m 285 #[.val (.int xw), .val (.int xo), .val (.int xf), .val (.long xx), .second, .val (.int fw), .val (.int fo), .val (.int w123), .val (.ref b131), .val (.long (xx &&& (9223372036854775807 : Int64))), .second, .val (.long w195), .second, .val (.long val), .second, .val (.ref b215), .val (.ref b242), .val (.long w268), .second] [(.ref b131), (.long w268), (.int fw), (.int fo), (.int (1 : Int32)), (.ref b242)])) t → Steps p.tables e below (T277.setTop (mkF m 271 #[.val (.int xw), .val (.int xo), .val (.int xf), .val (.long xx), .second, .val (.int fw), .val (.int fo), .val (.int w123), .val (.ref b131), .val (.long (xx &&& (9223372036854775807 : Int64))), .second, .val (.long w195), .second, .val (.long val), .second, .val (.ref b215), .val (.ref b242), .val (.long w268), .second] [(.int (fat (0 : Int32) fo fw w268 (own_g fo.toInt.toNat fw.toInt.toNat w268 0)))])) t := by
    intro t kt
    refine XS.ifNo X277.here hx rfl (hb hby at_271) rfl ((if0 _ _).trans (feq hat0).1) ?_
    show Steps p.tables e below (T277.setTop (mkF m 274 #[.val (.int xw), .val (.int xo), .val (.int xf), .val (.long xx), .second, .val (.int fw), .val (.int fo), .val (.int w123), .val (.ref b131), .val (.long (xx &&& (9223372036854775807 : Int64))), .second, .val (.long w195), .second, .val (.long val), .second, .val (.ref b215), .val (.ref b242), .val (.long w268), .second] [])) t
    refine XS.aload X277.here hx rfl (hb hby at_274) rfl rfl ?_
    show Steps p.tables e below (T277.setTop (mkF m 276 #[.val (.int xw), .val (.int xo), .val (.int xf), .val (.long xx), .second, .val (.int fw), .val (.int fo), .val (.int w123), .val (.ref b131), .val (.long (xx &&& (9223372036854775807 : Int64))), .second, .val (.long w195), .second, .val (.long val), .second, .val (.ref b215), .val (.ref b242), .val (.long w268), .second] [(.ref b242)])) t
    refine XS.iconst X277.here hx rfl (hb hby at_276) ?_
    show Steps p.tables e below (T277.setTop (mkF m 277 #[.val (.int xw), .val (.int xo), .val (.int xf), .val (.long xx), .second, .val (.int fw), .val (.int fo), .val (.int w123), .val (.ref b131), .val (.long (xx &&& (9223372036854775807 : Int64))), .second, .val (.long w195), .second, .val (.long val), .second, .val (.ref b215), .val (.ref b242), .val (.long w268), .second] [(.int (1 : Int32)), (.ref b242)])) t
    refine XS.iload X277.here hx rfl (hb hby at_277) rfl ?_
    show Steps p.tables e below (T277.setTop (mkF m 279 #[.val (.int xw), .val (.int xo), .val (.int xf), .val (.long xx), .second, .val (.int fw), .val (.int fo), .val (.int w123), .val (.ref b131), .val (.long (xx &&& (9223372036854775807 : Int64))), .second, .val (.long w195), .second, .val (.long val), .second, .val (.ref b215), .val (.ref b242), .val (.long w268), .second] [(.int fo), (.int (1 : Int32)), (.ref b242)])) t
    refine XS.iload X277.here hx rfl (hb hby at_279) rfl ?_
    show Steps p.tables e below (T277.setTop (mkF m 281 #[.val (.int xw), .val (.int xo), .val (.int xf), .val (.long xx), .second, .val (.int fw), .val (.int fo), .val (.int w123), .val (.ref b131), .val (.long (xx &&& (9223372036854775807 : Int64))), .second, .val (.long w195), .second, .val (.long val), .second, .val (.ref b215), .val (.ref b242), .val (.long w268), .second] [(.int fw), (.int fo), (.int (1 : Int32)), (.ref b242)])) t
    refine XS.lload X277.here hx rfl (hb hby at_281) rfl ?_
    show Steps p.tables e below (T277.setTop (mkF m 283 #[.val (.int xw), .val (.int xo), .val (.int xf), .val (.long xx), .second, .val (.int fw), .val (.int fo), .val (.int w123), .val (.ref b131), .val (.long (xx &&& (9223372036854775807 : Int64))), .second, .val (.long w195), .second, .val (.long val), .second, .val (.ref b215), .val (.ref b242), .val (.long w268), .second] [(.long w268), (.int fw), (.int fo), (.int (1 : Int32)), (.ref b242)])) t
    refine XS.aload X277.here hx rfl (hb hby at_283) rfl rfl ?_
    exact kt
  obtain ⟨_, _, ⟨T279, L279, k279, n279⟩, -, X279, ⟨Lc279, hQ279, l279, y279, z279⟩, st279⟩ := Jvm.LawKit.callS X277 hx (y := (⟨"com/example/rowkey_modeler/rowkeymodeler/DecimalFieldWriteHeldPinLaw", "at", "([BIIIJ[J)Z"⟩ : MethodName)) hown223 (mvT hZ223 (hw _ (List.mem_of_getElem? (i := 76) rfl))) (mvT hZ223 (hw _ (List.mem_of_getElem? (i := 77) rfl))) (mvT hZ223 (hw _ (List.mem_of_getElem? (i := 78) rfl))) (mvT hZ223 (hw _ (List.mem_of_getElem? (i := 79) rfl))) (by decide) (backOf (W := 0) (rm17 l Z a0 hw [] b242 (1 : Int32) fo fw w268 b131 _ (own_g fo.toInt.toNat fw.toInt.toNat w268 1) T257.heap n0 Zs257 Vg fV259 (by decide) (by decide) rfl hw1 hw19 ho0 ho3) hZ223 (hw _ (List.mem_of_getElem? (i := 79) rfl)) (hw _ (List.mem_of_getElem? (i := 78) rfl)) (by decide) (by decide)) (g := (mkF m 285 #[.val (.int xw), .val (.int xo), .val (.int xf), .val (.long xx), .second, .val (.int fw), .val (.int fo), .val (.int w123), .val (.ref b131), .val (.long (xx &&& (9223372036854775807 : Int64))), .second, .val (.long w195), .second, .val (.long val), .second, .val (.ref b215), .val (.ref b242), .val (.long w268), .second] [(.ref b131), (.long w268), (.int fw), (.int fo), (.int (1 : Int32)), (.ref b242)])) rfl (by rw [hml]; rfl) (argsL := [(.ref b242), (.int (1 : Int32)), (.int fo), (.int fw), (.long w268), (.ref b131)]) (rest := []) (lenOf pd_oaBIIIJaJcZ rfl) rfl (by show 2 * 0 + _ ≤ _; exact Nat.le_of_eq rfl) (hb hby at_285) (fun _ _ => ⟨rfl, e277q, (by decide : 5 + 0 ≤ _), (by decide : 54 + 0 ≤ _)⟩)
  dsimp only [Pt.U, Pt.locs, Pt.cells, Pt.slots] at X279 l279 y279 z279 st279 hQ279
  rw [l279, y279, z279] at X279
  obtain ⟨hv279, N279q, e279q⟩ := hQ279
  rw [hv279] at st279
  have N279 := Fr.app N277 N279q
  have hat1 : ¬ ((fat (1 : Int32) fo fw w268 (own_g fo.toInt.toNat fw.toInt.toNat w268 1)) = (0 : Int32)) := own_at 1 _ _ _ _ (by decide) (by decide) hw1 hw19 ho0 ho3
  have s280 : ∀ t, Steps p.tables e below (T279.setTop (mkF m 302 #[.val (.int xw), .val (.int xo), .val (.int xf), .val (.long xx), .second, .val (.int fw), .val (.int fo), .val (.int w123), .val (.ref b131), .val (.long (xx &&& (9223372036854775807 : Int64))), .second, .val (.long w195), .second, .val (.long val), .second, .val (.ref b215), .val (.ref b242), .val (.long w268), .second] [(.ref b131), (.long w268), (.int fw), (.int fo), (.int (2 : Int32)), (.ref b242)])) t → Steps p.tables e below (T279.setTop (mkF m 288 #[.val (.int xw), .val (.int xo), .val (.int xf), .val (.long xx), .second, .val (.int fw), .val (.int fo), .val (.int w123), .val (.ref b131), .val (.long (xx &&& (9223372036854775807 : Int64))), .second, .val (.long w195), .second, .val (.long val), .second, .val (.ref b215), .val (.ref b242), .val (.long w268), .second] [(.int (fat (1 : Int32) fo fw w268 (own_g fo.toInt.toNat fw.toInt.toNat w268 1)))])) t := by
    intro t kt
    refine XS.ifNo X279.here hx rfl (hb hby at_288) rfl ((if0 _ _).trans (feq hat1).1) ?_
    show Steps p.tables e below (T279.setTop (mkF m 291 #[.val (.int xw), .val (.int xo), .val (.int xf), .val (.long xx), .second, .val (.int fw), .val (.int fo), .val (.int w123), .val (.ref b131), .val (.long (xx &&& (9223372036854775807 : Int64))), .second, .val (.long w195), .second, .val (.long val), .second, .val (.ref b215), .val (.ref b242), .val (.long w268), .second] [])) t
    refine XS.aload X279.here hx rfl (hb hby at_291) rfl rfl ?_
    show Steps p.tables e below (T279.setTop (mkF m 293 #[.val (.int xw), .val (.int xo), .val (.int xf), .val (.long xx), .second, .val (.int fw), .val (.int fo), .val (.int w123), .val (.ref b131), .val (.long (xx &&& (9223372036854775807 : Int64))), .second, .val (.long w195), .second, .val (.long val), .second, .val (.ref b215), .val (.ref b242), .val (.long w268), .second] [(.ref b242)])) t
    refine XS.iconst X279.here hx rfl (hb hby at_293) ?_
    show Steps p.tables e below (T279.setTop (mkF m 294 #[.val (.int xw), .val (.int xo), .val (.int xf), .val (.long xx), .second, .val (.int fw), .val (.int fo), .val (.int w123), .val (.ref b131), .val (.long (xx &&& (9223372036854775807 : Int64))), .second, .val (.long w195), .second, .val (.long val), .second, .val (.ref b215), .val (.ref b242), .val (.long w268), .second] [(.int (2 : Int32)), (.ref b242)])) t
    refine XS.iload X279.here hx rfl (hb hby at_294) rfl ?_
    show Steps p.tables e below (T279.setTop (mkF m 296 #[.val (.int xw), .val (.int xo), .val (.int xf), .val (.long xx), .second, .val (.int fw), .val (.int fo), .val (.int w123), .val (.ref b131), .val (.long (xx &&& (9223372036854775807 : Int64))), .second, .val (.long w195), .second, .val (.long val), .second, .val (.ref b215), .val (.ref b242), .val (.long w268), .second] [(.int fo), (.int (2 : Int32)), (.ref b242)])) t
    refine XS.iload X279.here hx rfl (hb hby at_296) rfl ?_
    show Steps p.tables e below (T279.setTop (mkF m 298 #[.val (.int xw), .val (.int xo), .val (.int xf), .val (.long xx), .second, .val (.int fw), .val (.int fo), .val (.int w123), .val (.ref b131), .val (.long (xx &&& (9223372036854775807 : Int64))), .second, .val (.long w195), .second, .val (.long val), .second, .val (.ref b215), .val (.ref b242), .val (.long w268), .second] [(.int fw), (.int fo), (.int (2 : Int32)), (.ref b242)])) t
    refine XS.lload X279.here hx rfl (hb hby at_298) rfl ?_
    show Steps p.tables e below (T279.setTop (mkF m 300 #[.val (.int xw), .val (.int xo), .val (.int xf), .val (.long xx), .second, .val (.int fw), .val (.int fo), .val (.int w123), .val (.ref b131), .val (.long (xx &&& (9223372036854775807 : Int64))), .second, .val (.long w195), .second, .val (.long val), .second, .val (.ref b215), .val (.ref b242), .val (.long w268), .second] [(.long w268), (.int fw), (.int fo), (.int (2 : Int32)), (.ref b242)])) t
    refine XS.aload X279.here hx rfl (hb hby at_300) rfl rfl ?_
    exact kt
  obtain ⟨_, _, ⟨T281, L281, k281, n281⟩, -, X281, ⟨Lc281, hQ281, l281, y281, z281⟩, st281⟩ := Jvm.LawKit.callS X279 hx (y := (⟨"com/example/rowkey_modeler/rowkeymodeler/DecimalFieldWriteHeldPinLaw", "at", "([BIIIJ[J)Z"⟩ : MethodName)) hown223 (mvT hZ223 (hw _ (List.mem_of_getElem? (i := 76) rfl))) (mvT hZ223 (hw _ (List.mem_of_getElem? (i := 77) rfl))) (mvT hZ223 (hw _ (List.mem_of_getElem? (i := 78) rfl))) (mvT hZ223 (hw _ (List.mem_of_getElem? (i := 79) rfl))) (by decide) (backOf (W := 0) (rm17 l Z a0 hw [] b242 (2 : Int32) fo fw w268 b131 _ (own_g fo.toInt.toNat fw.toInt.toNat w268 2) T257.heap n0 Zs257 Vg fV259 (by decide) (by decide) rfl hw1 hw19 ho0 ho3) hZ223 (hw _ (List.mem_of_getElem? (i := 79) rfl)) (hw _ (List.mem_of_getElem? (i := 78) rfl)) (by decide) (by decide)) (g := (mkF m 302 #[.val (.int xw), .val (.int xo), .val (.int xf), .val (.long xx), .second, .val (.int fw), .val (.int fo), .val (.int w123), .val (.ref b131), .val (.long (xx &&& (9223372036854775807 : Int64))), .second, .val (.long w195), .second, .val (.long val), .second, .val (.ref b215), .val (.ref b242), .val (.long w268), .second] [(.ref b131), (.long w268), (.int fw), (.int fo), (.int (2 : Int32)), (.ref b242)])) rfl (by rw [hml]; rfl) (argsL := [(.ref b242), (.int (2 : Int32)), (.int fo), (.int fw), (.long w268), (.ref b131)]) (rest := []) (lenOf pd_oaBIIIJaJcZ rfl) rfl (by show 2 * 0 + _ ≤ _; exact Nat.le_of_eq rfl) (hb hby at_302) (fun _ _ => ⟨rfl, e279q, (by decide : 5 + 0 ≤ _), (by decide : 54 + 0 ≤ _)⟩)
  dsimp only [Pt.U, Pt.locs, Pt.cells, Pt.slots] at X281 l281 y281 z281 st281 hQ281
  rw [l281, y281, z281] at X281
  obtain ⟨hv281, N281q, e281q⟩ := hQ281
  rw [hv281] at st281
  have N281 := Fr.app N279 N281q
  have hat2 : ¬ ((fat (2 : Int32) fo fw w268 (own_g fo.toInt.toNat fw.toInt.toNat w268 2)) = (0 : Int32)) := own_at 2 _ _ _ _ (by decide) (by decide) hw1 hw19 ho0 ho3
  have s282 : ∀ t, Steps p.tables e below (T281.setTop (mkF m 319 #[.val (.int xw), .val (.int xo), .val (.int xf), .val (.long xx), .second, .val (.int fw), .val (.int fo), .val (.int w123), .val (.ref b131), .val (.long (xx &&& (9223372036854775807 : Int64))), .second, .val (.long w195), .second, .val (.long val), .second, .val (.ref b215), .val (.ref b242), .val (.long w268), .second] [(.ref b131), (.long w268), (.int fw), (.int fo), (.int (3 : Int32)), (.ref b242)])) t → Steps p.tables e below (T281.setTop (mkF m 305 #[.val (.int xw), .val (.int xo), .val (.int xf), .val (.long xx), .second, .val (.int fw), .val (.int fo), .val (.int w123), .val (.ref b131), .val (.long (xx &&& (9223372036854775807 : Int64))), .second, .val (.long w195), .second, .val (.long val), .second, .val (.ref b215), .val (.ref b242), .val (.long w268), .second] [(.int (fat (2 : Int32) fo fw w268 (own_g fo.toInt.toNat fw.toInt.toNat w268 2)))])) t := by
    intro t kt
    refine XS.ifNo X281.here hx rfl (hb hby at_305) rfl ((if0 _ _).trans (feq hat2).1) ?_
    show Steps p.tables e below (T281.setTop (mkF m 308 #[.val (.int xw), .val (.int xo), .val (.int xf), .val (.long xx), .second, .val (.int fw), .val (.int fo), .val (.int w123), .val (.ref b131), .val (.long (xx &&& (9223372036854775807 : Int64))), .second, .val (.long w195), .second, .val (.long val), .second, .val (.ref b215), .val (.ref b242), .val (.long w268), .second] [])) t
    refine XS.aload X281.here hx rfl (hb hby at_308) rfl rfl ?_
    show Steps p.tables e below (T281.setTop (mkF m 310 #[.val (.int xw), .val (.int xo), .val (.int xf), .val (.long xx), .second, .val (.int fw), .val (.int fo), .val (.int w123), .val (.ref b131), .val (.long (xx &&& (9223372036854775807 : Int64))), .second, .val (.long w195), .second, .val (.long val), .second, .val (.ref b215), .val (.ref b242), .val (.long w268), .second] [(.ref b242)])) t
    refine XS.iconst X281.here hx rfl (hb hby at_310) ?_
    show Steps p.tables e below (T281.setTop (mkF m 311 #[.val (.int xw), .val (.int xo), .val (.int xf), .val (.long xx), .second, .val (.int fw), .val (.int fo), .val (.int w123), .val (.ref b131), .val (.long (xx &&& (9223372036854775807 : Int64))), .second, .val (.long w195), .second, .val (.long val), .second, .val (.ref b215), .val (.ref b242), .val (.long w268), .second] [(.int (3 : Int32)), (.ref b242)])) t
    refine XS.iload X281.here hx rfl (hb hby at_311) rfl ?_
    show Steps p.tables e below (T281.setTop (mkF m 313 #[.val (.int xw), .val (.int xo), .val (.int xf), .val (.long xx), .second, .val (.int fw), .val (.int fo), .val (.int w123), .val (.ref b131), .val (.long (xx &&& (9223372036854775807 : Int64))), .second, .val (.long w195), .second, .val (.long val), .second, .val (.ref b215), .val (.ref b242), .val (.long w268), .second] [(.int fo), (.int (3 : Int32)), (.ref b242)])) t
    refine XS.iload X281.here hx rfl (hb hby at_313) rfl ?_
    show Steps p.tables e below (T281.setTop (mkF m 315 #[.val (.int xw), .val (.int xo), .val (.int xf), .val (.long xx), .second, .val (.int fw), .val (.int fo), .val (.int w123), .val (.ref b131), .val (.long (xx &&& (9223372036854775807 : Int64))), .second, .val (.long w195), .second, .val (.long val), .second, .val (.ref b215), .val (.ref b242), .val (.long w268), .second] [(.int fw), (.int fo), (.int (3 : Int32)), (.ref b242)])) t
    refine XS.lload X281.here hx rfl (hb hby at_315) rfl ?_
    show Steps p.tables e below (T281.setTop (mkF m 317 #[.val (.int xw), .val (.int xo), .val (.int xf), .val (.long xx), .second, .val (.int fw), .val (.int fo), .val (.int w123), .val (.ref b131), .val (.long (xx &&& (9223372036854775807 : Int64))), .second, .val (.long w195), .second, .val (.long val), .second, .val (.ref b215), .val (.ref b242), .val (.long w268), .second] [(.long w268), (.int fw), (.int fo), (.int (3 : Int32)), (.ref b242)])) t
    refine XS.aload X281.here hx rfl (hb hby at_317) rfl rfl ?_
    exact kt
  obtain ⟨_, _, ⟨T283, L283, k283, n283⟩, -, X283, ⟨Lc283, hQ283, l283, y283, z283⟩, st283⟩ := Jvm.LawKit.callS X281 hx (y := (⟨"com/example/rowkey_modeler/rowkeymodeler/DecimalFieldWriteHeldPinLaw", "at", "([BIIIJ[J)Z"⟩ : MethodName)) hown223 (mvT hZ223 (hw _ (List.mem_of_getElem? (i := 76) rfl))) (mvT hZ223 (hw _ (List.mem_of_getElem? (i := 77) rfl))) (mvT hZ223 (hw _ (List.mem_of_getElem? (i := 78) rfl))) (mvT hZ223 (hw _ (List.mem_of_getElem? (i := 79) rfl))) (by decide) (backOf (W := 0) (rm17 l Z a0 hw [] b242 (3 : Int32) fo fw w268 b131 _ (own_g fo.toInt.toNat fw.toInt.toNat w268 3) T257.heap n0 Zs257 Vg fV259 (by decide) (by decide) rfl hw1 hw19 ho0 ho3) hZ223 (hw _ (List.mem_of_getElem? (i := 79) rfl)) (hw _ (List.mem_of_getElem? (i := 78) rfl)) (by decide) (by decide)) (g := (mkF m 319 #[.val (.int xw), .val (.int xo), .val (.int xf), .val (.long xx), .second, .val (.int fw), .val (.int fo), .val (.int w123), .val (.ref b131), .val (.long (xx &&& (9223372036854775807 : Int64))), .second, .val (.long w195), .second, .val (.long val), .second, .val (.ref b215), .val (.ref b242), .val (.long w268), .second] [(.ref b131), (.long w268), (.int fw), (.int fo), (.int (3 : Int32)), (.ref b242)])) rfl (by rw [hml]; rfl) (argsL := [(.ref b242), (.int (3 : Int32)), (.int fo), (.int fw), (.long w268), (.ref b131)]) (rest := []) (lenOf pd_oaBIIIJaJcZ rfl) rfl (by show 2 * 0 + _ ≤ _; exact Nat.le_of_eq rfl) (hb hby at_319) (fun _ _ => ⟨rfl, e281q, (by decide : 5 + 0 ≤ _), (by decide : 54 + 0 ≤ _)⟩)
  dsimp only [Pt.U, Pt.locs, Pt.cells, Pt.slots] at X283 l283 y283 z283 st283 hQ283
  rw [l283, y283, z283] at X283
  obtain ⟨hv283, N283q, e283q⟩ := hQ283
  rw [hv283] at st283
  have N283 := Fr.app N281 N283q
  have hat3 : ¬ ((fat (3 : Int32) fo fw w268 (own_g fo.toInt.toNat fw.toInt.toNat w268 3)) = (0 : Int32)) := own_at 3 _ _ _ _ (by decide) (by decide) hw1 hw19 ho0 ho3
  have s284 : ∀ t, Steps p.tables e below (T283.setTop (mkF m 336 #[.val (.int xw), .val (.int xo), .val (.int xf), .val (.long xx), .second, .val (.int fw), .val (.int fo), .val (.int w123), .val (.ref b131), .val (.long (xx &&& (9223372036854775807 : Int64))), .second, .val (.long w195), .second, .val (.long val), .second, .val (.ref b215), .val (.ref b242), .val (.long w268), .second] [(.ref b131), (.long w268), (.int fw), (.int fo), (.int (4 : Int32)), (.ref b242)])) t → Steps p.tables e below (T283.setTop (mkF m 322 #[.val (.int xw), .val (.int xo), .val (.int xf), .val (.long xx), .second, .val (.int fw), .val (.int fo), .val (.int w123), .val (.ref b131), .val (.long (xx &&& (9223372036854775807 : Int64))), .second, .val (.long w195), .second, .val (.long val), .second, .val (.ref b215), .val (.ref b242), .val (.long w268), .second] [(.int (fat (3 : Int32) fo fw w268 (own_g fo.toInt.toNat fw.toInt.toNat w268 3)))])) t := by
    intro t kt
    refine XS.ifNo X283.here hx rfl (hb hby at_322) rfl ((if0 _ _).trans (feq hat3).1) ?_
    show Steps p.tables e below (T283.setTop (mkF m 325 #[.val (.int xw), .val (.int xo), .val (.int xf), .val (.long xx), .second, .val (.int fw), .val (.int fo), .val (.int w123), .val (.ref b131), .val (.long (xx &&& (9223372036854775807 : Int64))), .second, .val (.long w195), .second, .val (.long val), .second, .val (.ref b215), .val (.ref b242), .val (.long w268), .second] [])) t
    refine XS.aload X283.here hx rfl (hb hby at_325) rfl rfl ?_
    show Steps p.tables e below (T283.setTop (mkF m 327 #[.val (.int xw), .val (.int xo), .val (.int xf), .val (.long xx), .second, .val (.int fw), .val (.int fo), .val (.int w123), .val (.ref b131), .val (.long (xx &&& (9223372036854775807 : Int64))), .second, .val (.long w195), .second, .val (.long val), .second, .val (.ref b215), .val (.ref b242), .val (.long w268), .second] [(.ref b242)])) t
    refine XS.iconst X283.here hx rfl (hb hby at_327) ?_
    show Steps p.tables e below (T283.setTop (mkF m 328 #[.val (.int xw), .val (.int xo), .val (.int xf), .val (.long xx), .second, .val (.int fw), .val (.int fo), .val (.int w123), .val (.ref b131), .val (.long (xx &&& (9223372036854775807 : Int64))), .second, .val (.long w195), .second, .val (.long val), .second, .val (.ref b215), .val (.ref b242), .val (.long w268), .second] [(.int (4 : Int32)), (.ref b242)])) t
    refine XS.iload X283.here hx rfl (hb hby at_328) rfl ?_
    show Steps p.tables e below (T283.setTop (mkF m 330 #[.val (.int xw), .val (.int xo), .val (.int xf), .val (.long xx), .second, .val (.int fw), .val (.int fo), .val (.int w123), .val (.ref b131), .val (.long (xx &&& (9223372036854775807 : Int64))), .second, .val (.long w195), .second, .val (.long val), .second, .val (.ref b215), .val (.ref b242), .val (.long w268), .second] [(.int fo), (.int (4 : Int32)), (.ref b242)])) t
    refine XS.iload X283.here hx rfl (hb hby at_330) rfl ?_
    show Steps p.tables e below (T283.setTop (mkF m 332 #[.val (.int xw), .val (.int xo), .val (.int xf), .val (.long xx), .second, .val (.int fw), .val (.int fo), .val (.int w123), .val (.ref b131), .val (.long (xx &&& (9223372036854775807 : Int64))), .second, .val (.long w195), .second, .val (.long val), .second, .val (.ref b215), .val (.ref b242), .val (.long w268), .second] [(.int fw), (.int fo), (.int (4 : Int32)), (.ref b242)])) t
    refine XS.lload X283.here hx rfl (hb hby at_332) rfl ?_
    show Steps p.tables e below (T283.setTop (mkF m 334 #[.val (.int xw), .val (.int xo), .val (.int xf), .val (.long xx), .second, .val (.int fw), .val (.int fo), .val (.int w123), .val (.ref b131), .val (.long (xx &&& (9223372036854775807 : Int64))), .second, .val (.long w195), .second, .val (.long val), .second, .val (.ref b215), .val (.ref b242), .val (.long w268), .second] [(.long w268), (.int fw), (.int fo), (.int (4 : Int32)), (.ref b242)])) t
    refine XS.aload X283.here hx rfl (hb hby at_334) rfl rfl ?_
    exact kt
  obtain ⟨_, _, ⟨T285, L285, k285, n285⟩, -, X285, ⟨Lc285, hQ285, l285, y285, z285⟩, st285⟩ := Jvm.LawKit.callS X283 hx (y := (⟨"com/example/rowkey_modeler/rowkeymodeler/DecimalFieldWriteHeldPinLaw", "at", "([BIIIJ[J)Z"⟩ : MethodName)) hown223 (mvT hZ223 (hw _ (List.mem_of_getElem? (i := 76) rfl))) (mvT hZ223 (hw _ (List.mem_of_getElem? (i := 77) rfl))) (mvT hZ223 (hw _ (List.mem_of_getElem? (i := 78) rfl))) (mvT hZ223 (hw _ (List.mem_of_getElem? (i := 79) rfl))) (by decide) (backOf (W := 0) (rm17 l Z a0 hw [] b242 (4 : Int32) fo fw w268 b131 _ (own_g fo.toInt.toNat fw.toInt.toNat w268 4) T257.heap n0 Zs257 Vg fV259 (by decide) (by decide) rfl hw1 hw19 ho0 ho3) hZ223 (hw _ (List.mem_of_getElem? (i := 79) rfl)) (hw _ (List.mem_of_getElem? (i := 78) rfl)) (by decide) (by decide)) (g := (mkF m 336 #[.val (.int xw), .val (.int xo), .val (.int xf), .val (.long xx), .second, .val (.int fw), .val (.int fo), .val (.int w123), .val (.ref b131), .val (.long (xx &&& (9223372036854775807 : Int64))), .second, .val (.long w195), .second, .val (.long val), .second, .val (.ref b215), .val (.ref b242), .val (.long w268), .second] [(.ref b131), (.long w268), (.int fw), (.int fo), (.int (4 : Int32)), (.ref b242)])) rfl (by rw [hml]; rfl) (argsL := [(.ref b242), (.int (4 : Int32)), (.int fo), (.int fw), (.long w268), (.ref b131)]) (rest := []) (lenOf pd_oaBIIIJaJcZ rfl) rfl (by show 2 * 0 + _ ≤ _; exact Nat.le_of_eq rfl) (hb hby at_336) (fun _ _ => ⟨rfl, e283q, (by decide : 5 + 0 ≤ _), (by decide : 54 + 0 ≤ _)⟩)
  dsimp only [Pt.U, Pt.locs, Pt.cells, Pt.slots] at X285 l285 y285 z285 st285 hQ285
  rw [l285, y285, z285] at X285
  obtain ⟨hv285, N285q, e285q⟩ := hQ285
  rw [hv285] at st285
  have N285 := Fr.app N283 N285q
  have hat4 : ¬ ((fat (4 : Int32) fo fw w268 (own_g fo.toInt.toNat fw.toInt.toNat w268 4)) = (0 : Int32)) := own_at 4 _ _ _ _ (by decide) (by decide) hw1 hw19 ho0 ho3
  have s286 : ∀ t, Steps p.tables e below (T285.setTop (mkF m 353 #[.val (.int xw), .val (.int xo), .val (.int xf), .val (.long xx), .second, .val (.int fw), .val (.int fo), .val (.int w123), .val (.ref b131), .val (.long (xx &&& (9223372036854775807 : Int64))), .second, .val (.long w195), .second, .val (.long val), .second, .val (.ref b215), .val (.ref b242), .val (.long w268), .second] [(.ref b131), (.long w268), (.int fw), (.int fo), (.int (5 : Int32)), (.ref b242)])) t → Steps p.tables e below (T285.setTop (mkF m 339 #[.val (.int xw), .val (.int xo), .val (.int xf), .val (.long xx), .second, .val (.int fw), .val (.int fo), .val (.int w123), .val (.ref b131), .val (.long (xx &&& (9223372036854775807 : Int64))), .second, .val (.long w195), .second, .val (.long val), .second, .val (.ref b215), .val (.ref b242), .val (.long w268), .second] [(.int (fat (4 : Int32) fo fw w268 (own_g fo.toInt.toNat fw.toInt.toNat w268 4)))])) t := by
    intro t kt
    refine XS.ifNo X285.here hx rfl (hb hby at_339) rfl ((if0 _ _).trans (feq hat4).1) ?_
    show Steps p.tables e below (T285.setTop (mkF m 342 #[.val (.int xw), .val (.int xo), .val (.int xf), .val (.long xx), .second, .val (.int fw), .val (.int fo), .val (.int w123), .val (.ref b131), .val (.long (xx &&& (9223372036854775807 : Int64))), .second, .val (.long w195), .second, .val (.long val), .second, .val (.ref b215), .val (.ref b242), .val (.long w268), .second] [])) t
    refine XS.aload X285.here hx rfl (hb hby at_342) rfl rfl ?_
    show Steps p.tables e below (T285.setTop (mkF m 344 #[.val (.int xw), .val (.int xo), .val (.int xf), .val (.long xx), .second, .val (.int fw), .val (.int fo), .val (.int w123), .val (.ref b131), .val (.long (xx &&& (9223372036854775807 : Int64))), .second, .val (.long w195), .second, .val (.long val), .second, .val (.ref b215), .val (.ref b242), .val (.long w268), .second] [(.ref b242)])) t
    refine XS.iconst X285.here hx rfl (hb hby at_344) ?_
    show Steps p.tables e below (T285.setTop (mkF m 345 #[.val (.int xw), .val (.int xo), .val (.int xf), .val (.long xx), .second, .val (.int fw), .val (.int fo), .val (.int w123), .val (.ref b131), .val (.long (xx &&& (9223372036854775807 : Int64))), .second, .val (.long w195), .second, .val (.long val), .second, .val (.ref b215), .val (.ref b242), .val (.long w268), .second] [(.int (5 : Int32)), (.ref b242)])) t
    refine XS.iload X285.here hx rfl (hb hby at_345) rfl ?_
    show Steps p.tables e below (T285.setTop (mkF m 347 #[.val (.int xw), .val (.int xo), .val (.int xf), .val (.long xx), .second, .val (.int fw), .val (.int fo), .val (.int w123), .val (.ref b131), .val (.long (xx &&& (9223372036854775807 : Int64))), .second, .val (.long w195), .second, .val (.long val), .second, .val (.ref b215), .val (.ref b242), .val (.long w268), .second] [(.int fo), (.int (5 : Int32)), (.ref b242)])) t
    refine XS.iload X285.here hx rfl (hb hby at_347) rfl ?_
    show Steps p.tables e below (T285.setTop (mkF m 349 #[.val (.int xw), .val (.int xo), .val (.int xf), .val (.long xx), .second, .val (.int fw), .val (.int fo), .val (.int w123), .val (.ref b131), .val (.long (xx &&& (9223372036854775807 : Int64))), .second, .val (.long w195), .second, .val (.long val), .second, .val (.ref b215), .val (.ref b242), .val (.long w268), .second] [(.int fw), (.int fo), (.int (5 : Int32)), (.ref b242)])) t
    refine XS.lload X285.here hx rfl (hb hby at_349) rfl ?_
    show Steps p.tables e below (T285.setTop (mkF m 351 #[.val (.int xw), .val (.int xo), .val (.int xf), .val (.long xx), .second, .val (.int fw), .val (.int fo), .val (.int w123), .val (.ref b131), .val (.long (xx &&& (9223372036854775807 : Int64))), .second, .val (.long w195), .second, .val (.long val), .second, .val (.ref b215), .val (.ref b242), .val (.long w268), .second] [(.long w268), (.int fw), (.int fo), (.int (5 : Int32)), (.ref b242)])) t
    refine XS.aload X285.here hx rfl (hb hby at_351) rfl rfl ?_
    exact kt
  obtain ⟨_, _, ⟨T287, L287, k287, n287⟩, -, X287, ⟨Lc287, hQ287, l287, y287, z287⟩, st287⟩ := Jvm.LawKit.callS X285 hx (y := (⟨"com/example/rowkey_modeler/rowkeymodeler/DecimalFieldWriteHeldPinLaw", "at", "([BIIIJ[J)Z"⟩ : MethodName)) hown223 (mvT hZ223 (hw _ (List.mem_of_getElem? (i := 76) rfl))) (mvT hZ223 (hw _ (List.mem_of_getElem? (i := 77) rfl))) (mvT hZ223 (hw _ (List.mem_of_getElem? (i := 78) rfl))) (mvT hZ223 (hw _ (List.mem_of_getElem? (i := 79) rfl))) (by decide) (backOf (W := 0) (rm17 l Z a0 hw [] b242 (5 : Int32) fo fw w268 b131 _ (own_g fo.toInt.toNat fw.toInt.toNat w268 5) T257.heap n0 Zs257 Vg fV259 (by decide) (by decide) rfl hw1 hw19 ho0 ho3) hZ223 (hw _ (List.mem_of_getElem? (i := 79) rfl)) (hw _ (List.mem_of_getElem? (i := 78) rfl)) (by decide) (by decide)) (g := (mkF m 353 #[.val (.int xw), .val (.int xo), .val (.int xf), .val (.long xx), .second, .val (.int fw), .val (.int fo), .val (.int w123), .val (.ref b131), .val (.long (xx &&& (9223372036854775807 : Int64))), .second, .val (.long w195), .second, .val (.long val), .second, .val (.ref b215), .val (.ref b242), .val (.long w268), .second] [(.ref b131), (.long w268), (.int fw), (.int fo), (.int (5 : Int32)), (.ref b242)])) rfl (by rw [hml]; rfl) (argsL := [(.ref b242), (.int (5 : Int32)), (.int fo), (.int fw), (.long w268), (.ref b131)]) (rest := []) (lenOf pd_oaBIIIJaJcZ rfl) rfl (by show 2 * 0 + _ ≤ _; exact Nat.le_of_eq rfl) (hb hby at_353) (fun _ _ => ⟨rfl, e285q, (by decide : 5 + 0 ≤ _), (by decide : 54 + 0 ≤ _)⟩)
  dsimp only [Pt.U, Pt.locs, Pt.cells, Pt.slots] at X287 l287 y287 z287 st287 hQ287
  rw [l287, y287, z287] at X287
  obtain ⟨hv287, N287q, e287q⟩ := hQ287
  rw [hv287] at st287
  have N287 := Fr.app N285 N287q
  have hat5 : ¬ ((fat (5 : Int32) fo fw w268 (own_g fo.toInt.toNat fw.toInt.toNat w268 5)) = (0 : Int32)) := own_at 5 _ _ _ _ (by decide) (by decide) hw1 hw19 ho0 ho3
  have s288 : ∀ t, Steps p.tables e below (T287.setTop (mkF m 371 #[.val (.int xw), .val (.int xo), .val (.int xf), .val (.long xx), .second, .val (.int fw), .val (.int fo), .val (.int w123), .val (.ref b131), .val (.long (xx &&& (9223372036854775807 : Int64))), .second, .val (.long w195), .second, .val (.long val), .second, .val (.ref b215), .val (.ref b242), .val (.long w268), .second] [(.ref b131), (.long w268), (.int fw), (.int fo), (.int (6 : Int32)), (.ref b242)])) t → Steps p.tables e below (T287.setTop (mkF m 356 #[.val (.int xw), .val (.int xo), .val (.int xf), .val (.long xx), .second, .val (.int fw), .val (.int fo), .val (.int w123), .val (.ref b131), .val (.long (xx &&& (9223372036854775807 : Int64))), .second, .val (.long w195), .second, .val (.long val), .second, .val (.ref b215), .val (.ref b242), .val (.long w268), .second] [(.int (fat (5 : Int32) fo fw w268 (own_g fo.toInt.toNat fw.toInt.toNat w268 5)))])) t := by
    intro t kt
    refine XS.ifNo X287.here hx rfl (hb hby at_356) rfl ((if0 _ _).trans (feq hat5).1) ?_
    show Steps p.tables e below (T287.setTop (mkF m 359 #[.val (.int xw), .val (.int xo), .val (.int xf), .val (.long xx), .second, .val (.int fw), .val (.int fo), .val (.int w123), .val (.ref b131), .val (.long (xx &&& (9223372036854775807 : Int64))), .second, .val (.long w195), .second, .val (.long val), .second, .val (.ref b215), .val (.ref b242), .val (.long w268), .second] [])) t
    refine XS.aload X287.here hx rfl (hb hby at_359) rfl rfl ?_
    show Steps p.tables e below (T287.setTop (mkF m 361 #[.val (.int xw), .val (.int xo), .val (.int xf), .val (.long xx), .second, .val (.int fw), .val (.int fo), .val (.int w123), .val (.ref b131), .val (.long (xx &&& (9223372036854775807 : Int64))), .second, .val (.long w195), .second, .val (.long val), .second, .val (.ref b215), .val (.ref b242), .val (.long w268), .second] [(.ref b242)])) t
    refine XS.bipush X287.here hx rfl (hb hby at_361) ?_
    show Steps p.tables e below (T287.setTop (mkF m 363 #[.val (.int xw), .val (.int xo), .val (.int xf), .val (.long xx), .second, .val (.int fw), .val (.int fo), .val (.int w123), .val (.ref b131), .val (.long (xx &&& (9223372036854775807 : Int64))), .second, .val (.long w195), .second, .val (.long val), .second, .val (.ref b215), .val (.ref b242), .val (.long w268), .second] [(.int (6 : Int32)), (.ref b242)])) t
    refine XS.iload X287.here hx rfl (hb hby at_363) rfl ?_
    show Steps p.tables e below (T287.setTop (mkF m 365 #[.val (.int xw), .val (.int xo), .val (.int xf), .val (.long xx), .second, .val (.int fw), .val (.int fo), .val (.int w123), .val (.ref b131), .val (.long (xx &&& (9223372036854775807 : Int64))), .second, .val (.long w195), .second, .val (.long val), .second, .val (.ref b215), .val (.ref b242), .val (.long w268), .second] [(.int fo), (.int (6 : Int32)), (.ref b242)])) t
    refine XS.iload X287.here hx rfl (hb hby at_365) rfl ?_
    show Steps p.tables e below (T287.setTop (mkF m 367 #[.val (.int xw), .val (.int xo), .val (.int xf), .val (.long xx), .second, .val (.int fw), .val (.int fo), .val (.int w123), .val (.ref b131), .val (.long (xx &&& (9223372036854775807 : Int64))), .second, .val (.long w195), .second, .val (.long val), .second, .val (.ref b215), .val (.ref b242), .val (.long w268), .second] [(.int fw), (.int fo), (.int (6 : Int32)), (.ref b242)])) t
    refine XS.lload X287.here hx rfl (hb hby at_367) rfl ?_
    show Steps p.tables e below (T287.setTop (mkF m 369 #[.val (.int xw), .val (.int xo), .val (.int xf), .val (.long xx), .second, .val (.int fw), .val (.int fo), .val (.int w123), .val (.ref b131), .val (.long (xx &&& (9223372036854775807 : Int64))), .second, .val (.long w195), .second, .val (.long val), .second, .val (.ref b215), .val (.ref b242), .val (.long w268), .second] [(.long w268), (.int fw), (.int fo), (.int (6 : Int32)), (.ref b242)])) t
    refine XS.aload X287.here hx rfl (hb hby at_369) rfl rfl ?_
    exact kt
  obtain ⟨_, _, ⟨T289, L289, k289, n289⟩, -, X289, ⟨Lc289, hQ289, l289, y289, z289⟩, st289⟩ := Jvm.LawKit.callS X287 hx (y := (⟨"com/example/rowkey_modeler/rowkeymodeler/DecimalFieldWriteHeldPinLaw", "at", "([BIIIJ[J)Z"⟩ : MethodName)) hown223 (mvT hZ223 (hw _ (List.mem_of_getElem? (i := 76) rfl))) (mvT hZ223 (hw _ (List.mem_of_getElem? (i := 77) rfl))) (mvT hZ223 (hw _ (List.mem_of_getElem? (i := 78) rfl))) (mvT hZ223 (hw _ (List.mem_of_getElem? (i := 79) rfl))) (by decide) (backOf (W := 0) (rm17 l Z a0 hw [] b242 (6 : Int32) fo fw w268 b131 _ (own_g fo.toInt.toNat fw.toInt.toNat w268 6) T257.heap n0 Zs257 Vg fV259 (by decide) (by decide) rfl hw1 hw19 ho0 ho3) hZ223 (hw _ (List.mem_of_getElem? (i := 79) rfl)) (hw _ (List.mem_of_getElem? (i := 78) rfl)) (by decide) (by decide)) (g := (mkF m 371 #[.val (.int xw), .val (.int xo), .val (.int xf), .val (.long xx), .second, .val (.int fw), .val (.int fo), .val (.int w123), .val (.ref b131), .val (.long (xx &&& (9223372036854775807 : Int64))), .second, .val (.long w195), .second, .val (.long val), .second, .val (.ref b215), .val (.ref b242), .val (.long w268), .second] [(.ref b131), (.long w268), (.int fw), (.int fo), (.int (6 : Int32)), (.ref b242)])) rfl (by rw [hml]; rfl) (argsL := [(.ref b242), (.int (6 : Int32)), (.int fo), (.int fw), (.long w268), (.ref b131)]) (rest := []) (lenOf pd_oaBIIIJaJcZ rfl) rfl (by show 2 * 0 + _ ≤ _; exact Nat.le_of_eq rfl) (hb hby at_371) (fun _ _ => ⟨rfl, e287q, (by decide : 5 + 0 ≤ _), (by decide : 54 + 0 ≤ _)⟩)
  dsimp only [Pt.U, Pt.locs, Pt.cells, Pt.slots] at X289 l289 y289 z289 st289 hQ289
  rw [l289, y289, z289] at X289
  obtain ⟨hv289, N289q, e289q⟩ := hQ289
  rw [hv289] at st289
  have N289 := Fr.app N287 N289q
  have hat6 : ¬ ((fat (6 : Int32) fo fw w268 (own_g fo.toInt.toNat fw.toInt.toNat w268 6)) = (0 : Int32)) := own_at 6 _ _ _ _ (by decide) (by decide) hw1 hw19 ho0 ho3
  have s290 : ∀ t, Steps p.tables e below (T289.setTop (mkF m 389 #[.val (.int xw), .val (.int xo), .val (.int xf), .val (.long xx), .second, .val (.int fw), .val (.int fo), .val (.int w123), .val (.ref b131), .val (.long (xx &&& (9223372036854775807 : Int64))), .second, .val (.long w195), .second, .val (.long val), .second, .val (.ref b215), .val (.ref b242), .val (.long w268), .second] [(.ref b131), (.long w268), (.int fw), (.int fo), (.int (7 : Int32)), (.ref b242)])) t → Steps p.tables e below (T289.setTop (mkF m 374 #[.val (.int xw), .val (.int xo), .val (.int xf), .val (.long xx), .second, .val (.int fw), .val (.int fo), .val (.int w123), .val (.ref b131), .val (.long (xx &&& (9223372036854775807 : Int64))), .second, .val (.long w195), .second, .val (.long val), .second, .val (.ref b215), .val (.ref b242), .val (.long w268), .second] [(.int (fat (6 : Int32) fo fw w268 (own_g fo.toInt.toNat fw.toInt.toNat w268 6)))])) t := by
    intro t kt
    refine XS.ifNo X289.here hx rfl (hb hby at_374) rfl ((if0 _ _).trans (feq hat6).1) ?_
    show Steps p.tables e below (T289.setTop (mkF m 377 #[.val (.int xw), .val (.int xo), .val (.int xf), .val (.long xx), .second, .val (.int fw), .val (.int fo), .val (.int w123), .val (.ref b131), .val (.long (xx &&& (9223372036854775807 : Int64))), .second, .val (.long w195), .second, .val (.long val), .second, .val (.ref b215), .val (.ref b242), .val (.long w268), .second] [])) t
    refine XS.aload X289.here hx rfl (hb hby at_377) rfl rfl ?_
    show Steps p.tables e below (T289.setTop (mkF m 379 #[.val (.int xw), .val (.int xo), .val (.int xf), .val (.long xx), .second, .val (.int fw), .val (.int fo), .val (.int w123), .val (.ref b131), .val (.long (xx &&& (9223372036854775807 : Int64))), .second, .val (.long w195), .second, .val (.long val), .second, .val (.ref b215), .val (.ref b242), .val (.long w268), .second] [(.ref b242)])) t
    refine XS.bipush X289.here hx rfl (hb hby at_379) ?_
    show Steps p.tables e below (T289.setTop (mkF m 381 #[.val (.int xw), .val (.int xo), .val (.int xf), .val (.long xx), .second, .val (.int fw), .val (.int fo), .val (.int w123), .val (.ref b131), .val (.long (xx &&& (9223372036854775807 : Int64))), .second, .val (.long w195), .second, .val (.long val), .second, .val (.ref b215), .val (.ref b242), .val (.long w268), .second] [(.int (7 : Int32)), (.ref b242)])) t
    refine XS.iload X289.here hx rfl (hb hby at_381) rfl ?_
    show Steps p.tables e below (T289.setTop (mkF m 383 #[.val (.int xw), .val (.int xo), .val (.int xf), .val (.long xx), .second, .val (.int fw), .val (.int fo), .val (.int w123), .val (.ref b131), .val (.long (xx &&& (9223372036854775807 : Int64))), .second, .val (.long w195), .second, .val (.long val), .second, .val (.ref b215), .val (.ref b242), .val (.long w268), .second] [(.int fo), (.int (7 : Int32)), (.ref b242)])) t
    refine XS.iload X289.here hx rfl (hb hby at_383) rfl ?_
    show Steps p.tables e below (T289.setTop (mkF m 385 #[.val (.int xw), .val (.int xo), .val (.int xf), .val (.long xx), .second, .val (.int fw), .val (.int fo), .val (.int w123), .val (.ref b131), .val (.long (xx &&& (9223372036854775807 : Int64))), .second, .val (.long w195), .second, .val (.long val), .second, .val (.ref b215), .val (.ref b242), .val (.long w268), .second] [(.int fw), (.int fo), (.int (7 : Int32)), (.ref b242)])) t
    refine XS.lload X289.here hx rfl (hb hby at_385) rfl ?_
    show Steps p.tables e below (T289.setTop (mkF m 387 #[.val (.int xw), .val (.int xo), .val (.int xf), .val (.long xx), .second, .val (.int fw), .val (.int fo), .val (.int w123), .val (.ref b131), .val (.long (xx &&& (9223372036854775807 : Int64))), .second, .val (.long w195), .second, .val (.long val), .second, .val (.ref b215), .val (.ref b242), .val (.long w268), .second] [(.long w268), (.int fw), (.int fo), (.int (7 : Int32)), (.ref b242)])) t
    refine XS.aload X289.here hx rfl (hb hby at_387) rfl rfl ?_
    exact kt
  obtain ⟨_, _, ⟨T291, L291, k291, n291⟩, -, X291, ⟨Lc291, hQ291, l291, y291, z291⟩, st291⟩ := Jvm.LawKit.callS X289 hx (y := (⟨"com/example/rowkey_modeler/rowkeymodeler/DecimalFieldWriteHeldPinLaw", "at", "([BIIIJ[J)Z"⟩ : MethodName)) hown223 (mvT hZ223 (hw _ (List.mem_of_getElem? (i := 76) rfl))) (mvT hZ223 (hw _ (List.mem_of_getElem? (i := 77) rfl))) (mvT hZ223 (hw _ (List.mem_of_getElem? (i := 78) rfl))) (mvT hZ223 (hw _ (List.mem_of_getElem? (i := 79) rfl))) (by decide) (backOf (W := 0) (rm17 l Z a0 hw [] b242 (7 : Int32) fo fw w268 b131 _ (own_g fo.toInt.toNat fw.toInt.toNat w268 7) T257.heap n0 Zs257 Vg fV259 (by decide) (by decide) rfl hw1 hw19 ho0 ho3) hZ223 (hw _ (List.mem_of_getElem? (i := 79) rfl)) (hw _ (List.mem_of_getElem? (i := 78) rfl)) (by decide) (by decide)) (g := (mkF m 389 #[.val (.int xw), .val (.int xo), .val (.int xf), .val (.long xx), .second, .val (.int fw), .val (.int fo), .val (.int w123), .val (.ref b131), .val (.long (xx &&& (9223372036854775807 : Int64))), .second, .val (.long w195), .second, .val (.long val), .second, .val (.ref b215), .val (.ref b242), .val (.long w268), .second] [(.ref b131), (.long w268), (.int fw), (.int fo), (.int (7 : Int32)), (.ref b242)])) rfl (by rw [hml]; rfl) (argsL := [(.ref b242), (.int (7 : Int32)), (.int fo), (.int fw), (.long w268), (.ref b131)]) (rest := []) (lenOf pd_oaBIIIJaJcZ rfl) rfl (by show 2 * 0 + _ ≤ _; exact Nat.le_of_eq rfl) (hb hby at_389) (fun _ _ => ⟨rfl, e289q, (by decide : 5 + 0 ≤ _), (by decide : 54 + 0 ≤ _)⟩)
  dsimp only [Pt.U, Pt.locs, Pt.cells, Pt.slots] at X291 l291 y291 z291 st291 hQ291
  rw [l291, y291, z291] at X291
  obtain ⟨hv291, N291q, e291q⟩ := hQ291
  rw [hv291] at st291
  have N291 := Fr.app N289 N291q
  have hat7 : ¬ ((fat (7 : Int32) fo fw w268 (own_g fo.toInt.toNat fw.toInt.toNat w268 7)) = (0 : Int32)) := own_at 7 _ _ _ _ (by decide) (by decide) hw1 hw19 ho0 ho3
  have s292 : ∀ t, Steps p.tables e below (T291.setTop (mkF m 407 #[.val (.int xw), .val (.int xo), .val (.int xf), .val (.long xx), .second, .val (.int fw), .val (.int fo), .val (.int w123), .val (.ref b131), .val (.long (xx &&& (9223372036854775807 : Int64))), .second, .val (.long w195), .second, .val (.long val), .second, .val (.ref b215), .val (.ref b242), .val (.long w268), .second] [(.ref b131), (.long w268), (.int fw), (.int fo), (.int (8 : Int32)), (.ref b242)])) t → Steps p.tables e below (T291.setTop (mkF m 392 #[.val (.int xw), .val (.int xo), .val (.int xf), .val (.long xx), .second, .val (.int fw), .val (.int fo), .val (.int w123), .val (.ref b131), .val (.long (xx &&& (9223372036854775807 : Int64))), .second, .val (.long w195), .second, .val (.long val), .second, .val (.ref b215), .val (.ref b242), .val (.long w268), .second] [(.int (fat (7 : Int32) fo fw w268 (own_g fo.toInt.toNat fw.toInt.toNat w268 7)))])) t := by
    intro t kt
    refine XS.ifNo X291.here hx rfl (hb hby at_392) rfl ((if0 _ _).trans (feq hat7).1) ?_
    show Steps p.tables e below (T291.setTop (mkF m 395 #[.val (.int xw), .val (.int xo), .val (.int xf), .val (.long xx), .second, .val (.int fw), .val (.int fo), .val (.int w123), .val (.ref b131), .val (.long (xx &&& (9223372036854775807 : Int64))), .second, .val (.long w195), .second, .val (.long val), .second, .val (.ref b215), .val (.ref b242), .val (.long w268), .second] [])) t
    refine XS.aload X291.here hx rfl (hb hby at_395) rfl rfl ?_
    show Steps p.tables e below (T291.setTop (mkF m 397 #[.val (.int xw), .val (.int xo), .val (.int xf), .val (.long xx), .second, .val (.int fw), .val (.int fo), .val (.int w123), .val (.ref b131), .val (.long (xx &&& (9223372036854775807 : Int64))), .second, .val (.long w195), .second, .val (.long val), .second, .val (.ref b215), .val (.ref b242), .val (.long w268), .second] [(.ref b242)])) t
    refine XS.bipush X291.here hx rfl (hb hby at_397) ?_
    show Steps p.tables e below (T291.setTop (mkF m 399 #[.val (.int xw), .val (.int xo), .val (.int xf), .val (.long xx), .second, .val (.int fw), .val (.int fo), .val (.int w123), .val (.ref b131), .val (.long (xx &&& (9223372036854775807 : Int64))), .second, .val (.long w195), .second, .val (.long val), .second, .val (.ref b215), .val (.ref b242), .val (.long w268), .second] [(.int (8 : Int32)), (.ref b242)])) t
    refine XS.iload X291.here hx rfl (hb hby at_399) rfl ?_
    show Steps p.tables e below (T291.setTop (mkF m 401 #[.val (.int xw), .val (.int xo), .val (.int xf), .val (.long xx), .second, .val (.int fw), .val (.int fo), .val (.int w123), .val (.ref b131), .val (.long (xx &&& (9223372036854775807 : Int64))), .second, .val (.long w195), .second, .val (.long val), .second, .val (.ref b215), .val (.ref b242), .val (.long w268), .second] [(.int fo), (.int (8 : Int32)), (.ref b242)])) t
    refine XS.iload X291.here hx rfl (hb hby at_401) rfl ?_
    show Steps p.tables e below (T291.setTop (mkF m 403 #[.val (.int xw), .val (.int xo), .val (.int xf), .val (.long xx), .second, .val (.int fw), .val (.int fo), .val (.int w123), .val (.ref b131), .val (.long (xx &&& (9223372036854775807 : Int64))), .second, .val (.long w195), .second, .val (.long val), .second, .val (.ref b215), .val (.ref b242), .val (.long w268), .second] [(.int fw), (.int fo), (.int (8 : Int32)), (.ref b242)])) t
    refine XS.lload X291.here hx rfl (hb hby at_403) rfl ?_
    show Steps p.tables e below (T291.setTop (mkF m 405 #[.val (.int xw), .val (.int xo), .val (.int xf), .val (.long xx), .second, .val (.int fw), .val (.int fo), .val (.int w123), .val (.ref b131), .val (.long (xx &&& (9223372036854775807 : Int64))), .second, .val (.long w195), .second, .val (.long val), .second, .val (.ref b215), .val (.ref b242), .val (.long w268), .second] [(.long w268), (.int fw), (.int fo), (.int (8 : Int32)), (.ref b242)])) t
    refine XS.aload X291.here hx rfl (hb hby at_405) rfl rfl ?_
    exact kt
  obtain ⟨_, _, ⟨T293, L293, k293, n293⟩, -, X293, ⟨Lc293, hQ293, l293, y293, z293⟩, st293⟩ := Jvm.LawKit.callS X291 hx (y := (⟨"com/example/rowkey_modeler/rowkeymodeler/DecimalFieldWriteHeldPinLaw", "at", "([BIIIJ[J)Z"⟩ : MethodName)) hown223 (mvT hZ223 (hw _ (List.mem_of_getElem? (i := 76) rfl))) (mvT hZ223 (hw _ (List.mem_of_getElem? (i := 77) rfl))) (mvT hZ223 (hw _ (List.mem_of_getElem? (i := 78) rfl))) (mvT hZ223 (hw _ (List.mem_of_getElem? (i := 79) rfl))) (by decide) (backOf (W := 0) (rm17 l Z a0 hw [] b242 (8 : Int32) fo fw w268 b131 _ (own_g fo.toInt.toNat fw.toInt.toNat w268 8) T257.heap n0 Zs257 Vg fV259 (by decide) (by decide) rfl hw1 hw19 ho0 ho3) hZ223 (hw _ (List.mem_of_getElem? (i := 79) rfl)) (hw _ (List.mem_of_getElem? (i := 78) rfl)) (by decide) (by decide)) (g := (mkF m 407 #[.val (.int xw), .val (.int xo), .val (.int xf), .val (.long xx), .second, .val (.int fw), .val (.int fo), .val (.int w123), .val (.ref b131), .val (.long (xx &&& (9223372036854775807 : Int64))), .second, .val (.long w195), .second, .val (.long val), .second, .val (.ref b215), .val (.ref b242), .val (.long w268), .second] [(.ref b131), (.long w268), (.int fw), (.int fo), (.int (8 : Int32)), (.ref b242)])) rfl (by rw [hml]; rfl) (argsL := [(.ref b242), (.int (8 : Int32)), (.int fo), (.int fw), (.long w268), (.ref b131)]) (rest := []) (lenOf pd_oaBIIIJaJcZ rfl) rfl (by show 2 * 0 + _ ≤ _; exact Nat.le_of_eq rfl) (hb hby at_407) (fun _ _ => ⟨rfl, e291q, (by decide : 5 + 0 ≤ _), (by decide : 54 + 0 ≤ _)⟩)
  dsimp only [Pt.U, Pt.locs, Pt.cells, Pt.slots] at X293 l293 y293 z293 st293 hQ293
  rw [l293, y293, z293] at X293
  obtain ⟨hv293, N293q, e293q⟩ := hQ293
  rw [hv293] at st293
  have N293 := Fr.app N291 N293q
  have hat8 : ¬ ((fat (8 : Int32) fo fw w268 (own_g fo.toInt.toNat fw.toInt.toNat w268 8)) = (0 : Int32)) := own_at 8 _ _ _ _ (by decide) (by decide) hw1 hw19 ho0 ho3
  have s294 : ∀ t, Steps p.tables e below (T293.setTop (mkF m 425 #[.val (.int xw), .val (.int xo), .val (.int xf), .val (.long xx), .second, .val (.int fw), .val (.int fo), .val (.int w123), .val (.ref b131), .val (.long (xx &&& (9223372036854775807 : Int64))), .second, .val (.long w195), .second, .val (.long val), .second, .val (.ref b215), .val (.ref b242), .val (.long w268), .second] [(.ref b131), (.long w268), (.int fw), (.int fo), (.int (9 : Int32)), (.ref b242)])) t → Steps p.tables e below (T293.setTop (mkF m 410 #[.val (.int xw), .val (.int xo), .val (.int xf), .val (.long xx), .second, .val (.int fw), .val (.int fo), .val (.int w123), .val (.ref b131), .val (.long (xx &&& (9223372036854775807 : Int64))), .second, .val (.long w195), .second, .val (.long val), .second, .val (.ref b215), .val (.ref b242), .val (.long w268), .second] [(.int (fat (8 : Int32) fo fw w268 (own_g fo.toInt.toNat fw.toInt.toNat w268 8)))])) t := by
    intro t kt
    refine XS.ifNo X293.here hx rfl (hb hby at_410) rfl ((if0 _ _).trans (feq hat8).1) ?_
    show Steps p.tables e below (T293.setTop (mkF m 413 #[.val (.int xw), .val (.int xo), .val (.int xf), .val (.long xx), .second, .val (.int fw), .val (.int fo), .val (.int w123), .val (.ref b131), .val (.long (xx &&& (9223372036854775807 : Int64))), .second, .val (.long w195), .second, .val (.long val), .second, .val (.ref b215), .val (.ref b242), .val (.long w268), .second] [])) t
    refine XS.aload X293.here hx rfl (hb hby at_413) rfl rfl ?_
    show Steps p.tables e below (T293.setTop (mkF m 415 #[.val (.int xw), .val (.int xo), .val (.int xf), .val (.long xx), .second, .val (.int fw), .val (.int fo), .val (.int w123), .val (.ref b131), .val (.long (xx &&& (9223372036854775807 : Int64))), .second, .val (.long w195), .second, .val (.long val), .second, .val (.ref b215), .val (.ref b242), .val (.long w268), .second] [(.ref b242)])) t
    refine XS.bipush X293.here hx rfl (hb hby at_415) ?_
    show Steps p.tables e below (T293.setTop (mkF m 417 #[.val (.int xw), .val (.int xo), .val (.int xf), .val (.long xx), .second, .val (.int fw), .val (.int fo), .val (.int w123), .val (.ref b131), .val (.long (xx &&& (9223372036854775807 : Int64))), .second, .val (.long w195), .second, .val (.long val), .second, .val (.ref b215), .val (.ref b242), .val (.long w268), .second] [(.int (9 : Int32)), (.ref b242)])) t
    refine XS.iload X293.here hx rfl (hb hby at_417) rfl ?_
    show Steps p.tables e below (T293.setTop (mkF m 419 #[.val (.int xw), .val (.int xo), .val (.int xf), .val (.long xx), .second, .val (.int fw), .val (.int fo), .val (.int w123), .val (.ref b131), .val (.long (xx &&& (9223372036854775807 : Int64))), .second, .val (.long w195), .second, .val (.long val), .second, .val (.ref b215), .val (.ref b242), .val (.long w268), .second] [(.int fo), (.int (9 : Int32)), (.ref b242)])) t
    refine XS.iload X293.here hx rfl (hb hby at_419) rfl ?_
    show Steps p.tables e below (T293.setTop (mkF m 421 #[.val (.int xw), .val (.int xo), .val (.int xf), .val (.long xx), .second, .val (.int fw), .val (.int fo), .val (.int w123), .val (.ref b131), .val (.long (xx &&& (9223372036854775807 : Int64))), .second, .val (.long w195), .second, .val (.long val), .second, .val (.ref b215), .val (.ref b242), .val (.long w268), .second] [(.int fw), (.int fo), (.int (9 : Int32)), (.ref b242)])) t
    refine XS.lload X293.here hx rfl (hb hby at_421) rfl ?_
    show Steps p.tables e below (T293.setTop (mkF m 423 #[.val (.int xw), .val (.int xo), .val (.int xf), .val (.long xx), .second, .val (.int fw), .val (.int fo), .val (.int w123), .val (.ref b131), .val (.long (xx &&& (9223372036854775807 : Int64))), .second, .val (.long w195), .second, .val (.long val), .second, .val (.ref b215), .val (.ref b242), .val (.long w268), .second] [(.long w268), (.int fw), (.int fo), (.int (9 : Int32)), (.ref b242)])) t
    refine XS.aload X293.here hx rfl (hb hby at_423) rfl rfl ?_
    exact kt
  obtain ⟨_, _, ⟨T295, L295, k295, n295⟩, -, X295, ⟨Lc295, hQ295, l295, y295, z295⟩, st295⟩ := Jvm.LawKit.callS X293 hx (y := (⟨"com/example/rowkey_modeler/rowkeymodeler/DecimalFieldWriteHeldPinLaw", "at", "([BIIIJ[J)Z"⟩ : MethodName)) hown223 (mvT hZ223 (hw _ (List.mem_of_getElem? (i := 76) rfl))) (mvT hZ223 (hw _ (List.mem_of_getElem? (i := 77) rfl))) (mvT hZ223 (hw _ (List.mem_of_getElem? (i := 78) rfl))) (mvT hZ223 (hw _ (List.mem_of_getElem? (i := 79) rfl))) (by decide) (backOf (W := 0) (rm17 l Z a0 hw [] b242 (9 : Int32) fo fw w268 b131 _ (own_g fo.toInt.toNat fw.toInt.toNat w268 9) T257.heap n0 Zs257 Vg fV259 (by decide) (by decide) rfl hw1 hw19 ho0 ho3) hZ223 (hw _ (List.mem_of_getElem? (i := 79) rfl)) (hw _ (List.mem_of_getElem? (i := 78) rfl)) (by decide) (by decide)) (g := (mkF m 425 #[.val (.int xw), .val (.int xo), .val (.int xf), .val (.long xx), .second, .val (.int fw), .val (.int fo), .val (.int w123), .val (.ref b131), .val (.long (xx &&& (9223372036854775807 : Int64))), .second, .val (.long w195), .second, .val (.long val), .second, .val (.ref b215), .val (.ref b242), .val (.long w268), .second] [(.ref b131), (.long w268), (.int fw), (.int fo), (.int (9 : Int32)), (.ref b242)])) rfl (by rw [hml]; rfl) (argsL := [(.ref b242), (.int (9 : Int32)), (.int fo), (.int fw), (.long w268), (.ref b131)]) (rest := []) (lenOf pd_oaBIIIJaJcZ rfl) rfl (by show 2 * 0 + _ ≤ _; exact Nat.le_of_eq rfl) (hb hby at_425) (fun _ _ => ⟨rfl, e293q, (by decide : 5 + 0 ≤ _), (by decide : 54 + 0 ≤ _)⟩)
  dsimp only [Pt.U, Pt.locs, Pt.cells, Pt.slots] at X295 l295 y295 z295 st295 hQ295
  rw [l295, y295, z295] at X295
  obtain ⟨hv295, N295q, e295q⟩ := hQ295
  rw [hv295] at st295
  have N295 := Fr.app N293 N295q
  have hat9 : ¬ ((fat (9 : Int32) fo fw w268 (own_g fo.toInt.toNat fw.toInt.toNat w268 9)) = (0 : Int32)) := own_at 9 _ _ _ _ (by decide) (by decide) hw1 hw19 ho0 ho3
  have s296 : ∀ t, Steps p.tables e below (T295.setTop (mkF m 443 #[.val (.int xw), .val (.int xo), .val (.int xf), .val (.long xx), .second, .val (.int fw), .val (.int fo), .val (.int w123), .val (.ref b131), .val (.long (xx &&& (9223372036854775807 : Int64))), .second, .val (.long w195), .second, .val (.long val), .second, .val (.ref b215), .val (.ref b242), .val (.long w268), .second] [(.ref b131), (.long w268), (.int fw), (.int fo), (.int (10 : Int32)), (.ref b242)])) t → Steps p.tables e below (T295.setTop (mkF m 428 #[.val (.int xw), .val (.int xo), .val (.int xf), .val (.long xx), .second, .val (.int fw), .val (.int fo), .val (.int w123), .val (.ref b131), .val (.long (xx &&& (9223372036854775807 : Int64))), .second, .val (.long w195), .second, .val (.long val), .second, .val (.ref b215), .val (.ref b242), .val (.long w268), .second] [(.int (fat (9 : Int32) fo fw w268 (own_g fo.toInt.toNat fw.toInt.toNat w268 9)))])) t := by
    intro t kt
    refine XS.ifNo X295.here hx rfl (hb hby at_428) rfl ((if0 _ _).trans (feq hat9).1) ?_
    show Steps p.tables e below (T295.setTop (mkF m 431 #[.val (.int xw), .val (.int xo), .val (.int xf), .val (.long xx), .second, .val (.int fw), .val (.int fo), .val (.int w123), .val (.ref b131), .val (.long (xx &&& (9223372036854775807 : Int64))), .second, .val (.long w195), .second, .val (.long val), .second, .val (.ref b215), .val (.ref b242), .val (.long w268), .second] [])) t
    refine XS.aload X295.here hx rfl (hb hby at_431) rfl rfl ?_
    show Steps p.tables e below (T295.setTop (mkF m 433 #[.val (.int xw), .val (.int xo), .val (.int xf), .val (.long xx), .second, .val (.int fw), .val (.int fo), .val (.int w123), .val (.ref b131), .val (.long (xx &&& (9223372036854775807 : Int64))), .second, .val (.long w195), .second, .val (.long val), .second, .val (.ref b215), .val (.ref b242), .val (.long w268), .second] [(.ref b242)])) t
    refine XS.bipush X295.here hx rfl (hb hby at_433) ?_
    show Steps p.tables e below (T295.setTop (mkF m 435 #[.val (.int xw), .val (.int xo), .val (.int xf), .val (.long xx), .second, .val (.int fw), .val (.int fo), .val (.int w123), .val (.ref b131), .val (.long (xx &&& (9223372036854775807 : Int64))), .second, .val (.long w195), .second, .val (.long val), .second, .val (.ref b215), .val (.ref b242), .val (.long w268), .second] [(.int (10 : Int32)), (.ref b242)])) t
    refine XS.iload X295.here hx rfl (hb hby at_435) rfl ?_
    show Steps p.tables e below (T295.setTop (mkF m 437 #[.val (.int xw), .val (.int xo), .val (.int xf), .val (.long xx), .second, .val (.int fw), .val (.int fo), .val (.int w123), .val (.ref b131), .val (.long (xx &&& (9223372036854775807 : Int64))), .second, .val (.long w195), .second, .val (.long val), .second, .val (.ref b215), .val (.ref b242), .val (.long w268), .second] [(.int fo), (.int (10 : Int32)), (.ref b242)])) t
    refine XS.iload X295.here hx rfl (hb hby at_437) rfl ?_
    show Steps p.tables e below (T295.setTop (mkF m 439 #[.val (.int xw), .val (.int xo), .val (.int xf), .val (.long xx), .second, .val (.int fw), .val (.int fo), .val (.int w123), .val (.ref b131), .val (.long (xx &&& (9223372036854775807 : Int64))), .second, .val (.long w195), .second, .val (.long val), .second, .val (.ref b215), .val (.ref b242), .val (.long w268), .second] [(.int fw), (.int fo), (.int (10 : Int32)), (.ref b242)])) t
    refine XS.lload X295.here hx rfl (hb hby at_439) rfl ?_
    show Steps p.tables e below (T295.setTop (mkF m 441 #[.val (.int xw), .val (.int xo), .val (.int xf), .val (.long xx), .second, .val (.int fw), .val (.int fo), .val (.int w123), .val (.ref b131), .val (.long (xx &&& (9223372036854775807 : Int64))), .second, .val (.long w195), .second, .val (.long val), .second, .val (.ref b215), .val (.ref b242), .val (.long w268), .second] [(.long w268), (.int fw), (.int fo), (.int (10 : Int32)), (.ref b242)])) t
    refine XS.aload X295.here hx rfl (hb hby at_441) rfl rfl ?_
    exact kt
  obtain ⟨_, _, ⟨T297, L297, k297, n297⟩, -, X297, ⟨Lc297, hQ297, l297, y297, z297⟩, st297⟩ := Jvm.LawKit.callS X295 hx (y := (⟨"com/example/rowkey_modeler/rowkeymodeler/DecimalFieldWriteHeldPinLaw", "at", "([BIIIJ[J)Z"⟩ : MethodName)) hown223 (mvT hZ223 (hw _ (List.mem_of_getElem? (i := 76) rfl))) (mvT hZ223 (hw _ (List.mem_of_getElem? (i := 77) rfl))) (mvT hZ223 (hw _ (List.mem_of_getElem? (i := 78) rfl))) (mvT hZ223 (hw _ (List.mem_of_getElem? (i := 79) rfl))) (by decide) (backOf (W := 0) (rm17 l Z a0 hw [] b242 (10 : Int32) fo fw w268 b131 _ (own_g fo.toInt.toNat fw.toInt.toNat w268 10) T257.heap n0 Zs257 Vg fV259 (by decide) (by decide) rfl hw1 hw19 ho0 ho3) hZ223 (hw _ (List.mem_of_getElem? (i := 79) rfl)) (hw _ (List.mem_of_getElem? (i := 78) rfl)) (by decide) (by decide)) (g := (mkF m 443 #[.val (.int xw), .val (.int xo), .val (.int xf), .val (.long xx), .second, .val (.int fw), .val (.int fo), .val (.int w123), .val (.ref b131), .val (.long (xx &&& (9223372036854775807 : Int64))), .second, .val (.long w195), .second, .val (.long val), .second, .val (.ref b215), .val (.ref b242), .val (.long w268), .second] [(.ref b131), (.long w268), (.int fw), (.int fo), (.int (10 : Int32)), (.ref b242)])) rfl (by rw [hml]; rfl) (argsL := [(.ref b242), (.int (10 : Int32)), (.int fo), (.int fw), (.long w268), (.ref b131)]) (rest := []) (lenOf pd_oaBIIIJaJcZ rfl) rfl (by show 2 * 0 + _ ≤ _; exact Nat.le_of_eq rfl) (hb hby at_443) (fun _ _ => ⟨rfl, e295q, (by decide : 5 + 0 ≤ _), (by decide : 54 + 0 ≤ _)⟩)
  dsimp only [Pt.U, Pt.locs, Pt.cells, Pt.slots] at X297 l297 y297 z297 st297 hQ297
  rw [l297, y297, z297] at X297
  obtain ⟨hv297, N297q, e297q⟩ := hQ297
  rw [hv297] at st297
  have N297 := Fr.app N295 N297q
  have hat10 : ¬ ((fat (10 : Int32) fo fw w268 (own_g fo.toInt.toNat fw.toInt.toNat w268 10)) = (0 : Int32)) := own_at 10 _ _ _ _ (by decide) (by decide) hw1 hw19 ho0 ho3
  have s298 : ∀ t, Steps p.tables e below (T297.setTop (mkF m 461 #[.val (.int xw), .val (.int xo), .val (.int xf), .val (.long xx), .second, .val (.int fw), .val (.int fo), .val (.int w123), .val (.ref b131), .val (.long (xx &&& (9223372036854775807 : Int64))), .second, .val (.long w195), .second, .val (.long val), .second, .val (.ref b215), .val (.ref b242), .val (.long w268), .second] [(.ref b131), (.long w268), (.int fw), (.int fo), (.int (11 : Int32)), (.ref b242)])) t → Steps p.tables e below (T297.setTop (mkF m 446 #[.val (.int xw), .val (.int xo), .val (.int xf), .val (.long xx), .second, .val (.int fw), .val (.int fo), .val (.int w123), .val (.ref b131), .val (.long (xx &&& (9223372036854775807 : Int64))), .second, .val (.long w195), .second, .val (.long val), .second, .val (.ref b215), .val (.ref b242), .val (.long w268), .second] [(.int (fat (10 : Int32) fo fw w268 (own_g fo.toInt.toNat fw.toInt.toNat w268 10)))])) t := by
    intro t kt
    refine XS.ifNo X297.here hx rfl (hb hby at_446) rfl ((if0 _ _).trans (feq hat10).1) ?_
    show Steps p.tables e below (T297.setTop (mkF m 449 #[.val (.int xw), .val (.int xo), .val (.int xf), .val (.long xx), .second, .val (.int fw), .val (.int fo), .val (.int w123), .val (.ref b131), .val (.long (xx &&& (9223372036854775807 : Int64))), .second, .val (.long w195), .second, .val (.long val), .second, .val (.ref b215), .val (.ref b242), .val (.long w268), .second] [])) t
    refine XS.aload X297.here hx rfl (hb hby at_449) rfl rfl ?_
    show Steps p.tables e below (T297.setTop (mkF m 451 #[.val (.int xw), .val (.int xo), .val (.int xf), .val (.long xx), .second, .val (.int fw), .val (.int fo), .val (.int w123), .val (.ref b131), .val (.long (xx &&& (9223372036854775807 : Int64))), .second, .val (.long w195), .second, .val (.long val), .second, .val (.ref b215), .val (.ref b242), .val (.long w268), .second] [(.ref b242)])) t
    refine XS.bipush X297.here hx rfl (hb hby at_451) ?_
    show Steps p.tables e below (T297.setTop (mkF m 453 #[.val (.int xw), .val (.int xo), .val (.int xf), .val (.long xx), .second, .val (.int fw), .val (.int fo), .val (.int w123), .val (.ref b131), .val (.long (xx &&& (9223372036854775807 : Int64))), .second, .val (.long w195), .second, .val (.long val), .second, .val (.ref b215), .val (.ref b242), .val (.long w268), .second] [(.int (11 : Int32)), (.ref b242)])) t
    refine XS.iload X297.here hx rfl (hb hby at_453) rfl ?_
    show Steps p.tables e below (T297.setTop (mkF m 455 #[.val (.int xw), .val (.int xo), .val (.int xf), .val (.long xx), .second, .val (.int fw), .val (.int fo), .val (.int w123), .val (.ref b131), .val (.long (xx &&& (9223372036854775807 : Int64))), .second, .val (.long w195), .second, .val (.long val), .second, .val (.ref b215), .val (.ref b242), .val (.long w268), .second] [(.int fo), (.int (11 : Int32)), (.ref b242)])) t
    refine XS.iload X297.here hx rfl (hb hby at_455) rfl ?_
    show Steps p.tables e below (T297.setTop (mkF m 457 #[.val (.int xw), .val (.int xo), .val (.int xf), .val (.long xx), .second, .val (.int fw), .val (.int fo), .val (.int w123), .val (.ref b131), .val (.long (xx &&& (9223372036854775807 : Int64))), .second, .val (.long w195), .second, .val (.long val), .second, .val (.ref b215), .val (.ref b242), .val (.long w268), .second] [(.int fw), (.int fo), (.int (11 : Int32)), (.ref b242)])) t
    refine XS.lload X297.here hx rfl (hb hby at_457) rfl ?_
    show Steps p.tables e below (T297.setTop (mkF m 459 #[.val (.int xw), .val (.int xo), .val (.int xf), .val (.long xx), .second, .val (.int fw), .val (.int fo), .val (.int w123), .val (.ref b131), .val (.long (xx &&& (9223372036854775807 : Int64))), .second, .val (.long w195), .second, .val (.long val), .second, .val (.ref b215), .val (.ref b242), .val (.long w268), .second] [(.long w268), (.int fw), (.int fo), (.int (11 : Int32)), (.ref b242)])) t
    refine XS.aload X297.here hx rfl (hb hby at_459) rfl rfl ?_
    exact kt
  obtain ⟨_, _, ⟨T299, L299, k299, n299⟩, -, X299, ⟨Lc299, hQ299, l299, y299, z299⟩, st299⟩ := Jvm.LawKit.callS X297 hx (y := (⟨"com/example/rowkey_modeler/rowkeymodeler/DecimalFieldWriteHeldPinLaw", "at", "([BIIIJ[J)Z"⟩ : MethodName)) hown223 (mvT hZ223 (hw _ (List.mem_of_getElem? (i := 76) rfl))) (mvT hZ223 (hw _ (List.mem_of_getElem? (i := 77) rfl))) (mvT hZ223 (hw _ (List.mem_of_getElem? (i := 78) rfl))) (mvT hZ223 (hw _ (List.mem_of_getElem? (i := 79) rfl))) (by decide) (backOf (W := 0) (rm17 l Z a0 hw [] b242 (11 : Int32) fo fw w268 b131 _ (own_g fo.toInt.toNat fw.toInt.toNat w268 11) T257.heap n0 Zs257 Vg fV259 (by decide) (by decide) rfl hw1 hw19 ho0 ho3) hZ223 (hw _ (List.mem_of_getElem? (i := 79) rfl)) (hw _ (List.mem_of_getElem? (i := 78) rfl)) (by decide) (by decide)) (g := (mkF m 461 #[.val (.int xw), .val (.int xo), .val (.int xf), .val (.long xx), .second, .val (.int fw), .val (.int fo), .val (.int w123), .val (.ref b131), .val (.long (xx &&& (9223372036854775807 : Int64))), .second, .val (.long w195), .second, .val (.long val), .second, .val (.ref b215), .val (.ref b242), .val (.long w268), .second] [(.ref b131), (.long w268), (.int fw), (.int fo), (.int (11 : Int32)), (.ref b242)])) rfl (by rw [hml]; rfl) (argsL := [(.ref b242), (.int (11 : Int32)), (.int fo), (.int fw), (.long w268), (.ref b131)]) (rest := []) (lenOf pd_oaBIIIJaJcZ rfl) rfl (by show 2 * 0 + _ ≤ _; exact Nat.le_of_eq rfl) (hb hby at_461) (fun _ _ => ⟨rfl, e297q, (by decide : 5 + 0 ≤ _), (by decide : 54 + 0 ≤ _)⟩)
  dsimp only [Pt.U, Pt.locs, Pt.cells, Pt.slots] at X299 l299 y299 z299 st299 hQ299
  rw [l299, y299, z299] at X299
  obtain ⟨hv299, N299q, e299q⟩ := hQ299
  rw [hv299] at st299
  have N299 := Fr.app N297 N299q
  have hat11 : ¬ ((fat (11 : Int32) fo fw w268 (own_g fo.toInt.toNat fw.toInt.toNat w268 11)) = (0 : Int32)) := own_at 11 _ _ _ _ (by decide) (by decide) hw1 hw19 ho0 ho3
  have s300 : ∀ t, Steps p.tables e below (T299.setTop (mkF m 479 #[.val (.int xw), .val (.int xo), .val (.int xf), .val (.long xx), .second, .val (.int fw), .val (.int fo), .val (.int w123), .val (.ref b131), .val (.long (xx &&& (9223372036854775807 : Int64))), .second, .val (.long w195), .second, .val (.long val), .second, .val (.ref b215), .val (.ref b242), .val (.long w268), .second] [(.ref b131), (.long w268), (.int fw), (.int fo), (.int (12 : Int32)), (.ref b242)])) t → Steps p.tables e below (T299.setTop (mkF m 464 #[.val (.int xw), .val (.int xo), .val (.int xf), .val (.long xx), .second, .val (.int fw), .val (.int fo), .val (.int w123), .val (.ref b131), .val (.long (xx &&& (9223372036854775807 : Int64))), .second, .val (.long w195), .second, .val (.long val), .second, .val (.ref b215), .val (.ref b242), .val (.long w268), .second] [(.int (fat (11 : Int32) fo fw w268 (own_g fo.toInt.toNat fw.toInt.toNat w268 11)))])) t := by
    intro t kt
    refine XS.ifNo X299.here hx rfl (hb hby at_464) rfl ((if0 _ _).trans (feq hat11).1) ?_
    show Steps p.tables e below (T299.setTop (mkF m 467 #[.val (.int xw), .val (.int xo), .val (.int xf), .val (.long xx), .second, .val (.int fw), .val (.int fo), .val (.int w123), .val (.ref b131), .val (.long (xx &&& (9223372036854775807 : Int64))), .second, .val (.long w195), .second, .val (.long val), .second, .val (.ref b215), .val (.ref b242), .val (.long w268), .second] [])) t
    refine XS.aload X299.here hx rfl (hb hby at_467) rfl rfl ?_
    show Steps p.tables e below (T299.setTop (mkF m 469 #[.val (.int xw), .val (.int xo), .val (.int xf), .val (.long xx), .second, .val (.int fw), .val (.int fo), .val (.int w123), .val (.ref b131), .val (.long (xx &&& (9223372036854775807 : Int64))), .second, .val (.long w195), .second, .val (.long val), .second, .val (.ref b215), .val (.ref b242), .val (.long w268), .second] [(.ref b242)])) t
    refine XS.bipush X299.here hx rfl (hb hby at_469) ?_
    show Steps p.tables e below (T299.setTop (mkF m 471 #[.val (.int xw), .val (.int xo), .val (.int xf), .val (.long xx), .second, .val (.int fw), .val (.int fo), .val (.int w123), .val (.ref b131), .val (.long (xx &&& (9223372036854775807 : Int64))), .second, .val (.long w195), .second, .val (.long val), .second, .val (.ref b215), .val (.ref b242), .val (.long w268), .second] [(.int (12 : Int32)), (.ref b242)])) t
    refine XS.iload X299.here hx rfl (hb hby at_471) rfl ?_
    show Steps p.tables e below (T299.setTop (mkF m 473 #[.val (.int xw), .val (.int xo), .val (.int xf), .val (.long xx), .second, .val (.int fw), .val (.int fo), .val (.int w123), .val (.ref b131), .val (.long (xx &&& (9223372036854775807 : Int64))), .second, .val (.long w195), .second, .val (.long val), .second, .val (.ref b215), .val (.ref b242), .val (.long w268), .second] [(.int fo), (.int (12 : Int32)), (.ref b242)])) t
    refine XS.iload X299.here hx rfl (hb hby at_473) rfl ?_
    show Steps p.tables e below (T299.setTop (mkF m 475 #[.val (.int xw), .val (.int xo), .val (.int xf), .val (.long xx), .second, .val (.int fw), .val (.int fo), .val (.int w123), .val (.ref b131), .val (.long (xx &&& (9223372036854775807 : Int64))), .second, .val (.long w195), .second, .val (.long val), .second, .val (.ref b215), .val (.ref b242), .val (.long w268), .second] [(.int fw), (.int fo), (.int (12 : Int32)), (.ref b242)])) t
    refine XS.lload X299.here hx rfl (hb hby at_475) rfl ?_
    show Steps p.tables e below (T299.setTop (mkF m 477 #[.val (.int xw), .val (.int xo), .val (.int xf), .val (.long xx), .second, .val (.int fw), .val (.int fo), .val (.int w123), .val (.ref b131), .val (.long (xx &&& (9223372036854775807 : Int64))), .second, .val (.long w195), .second, .val (.long val), .second, .val (.ref b215), .val (.ref b242), .val (.long w268), .second] [(.long w268), (.int fw), (.int fo), (.int (12 : Int32)), (.ref b242)])) t
    refine XS.aload X299.here hx rfl (hb hby at_477) rfl rfl ?_
    exact kt
  obtain ⟨_, _, ⟨T301, L301, k301, n301⟩, -, X301, ⟨Lc301, hQ301, l301, y301, z301⟩, st301⟩ := Jvm.LawKit.callS X299 hx (y := (⟨"com/example/rowkey_modeler/rowkeymodeler/DecimalFieldWriteHeldPinLaw", "at", "([BIIIJ[J)Z"⟩ : MethodName)) hown223 (mvT hZ223 (hw _ (List.mem_of_getElem? (i := 76) rfl))) (mvT hZ223 (hw _ (List.mem_of_getElem? (i := 77) rfl))) (mvT hZ223 (hw _ (List.mem_of_getElem? (i := 78) rfl))) (mvT hZ223 (hw _ (List.mem_of_getElem? (i := 79) rfl))) (by decide) (backOf (W := 0) (rm17 l Z a0 hw [] b242 (12 : Int32) fo fw w268 b131 _ (own_g fo.toInt.toNat fw.toInt.toNat w268 12) T257.heap n0 Zs257 Vg fV259 (by decide) (by decide) rfl hw1 hw19 ho0 ho3) hZ223 (hw _ (List.mem_of_getElem? (i := 79) rfl)) (hw _ (List.mem_of_getElem? (i := 78) rfl)) (by decide) (by decide)) (g := (mkF m 479 #[.val (.int xw), .val (.int xo), .val (.int xf), .val (.long xx), .second, .val (.int fw), .val (.int fo), .val (.int w123), .val (.ref b131), .val (.long (xx &&& (9223372036854775807 : Int64))), .second, .val (.long w195), .second, .val (.long val), .second, .val (.ref b215), .val (.ref b242), .val (.long w268), .second] [(.ref b131), (.long w268), (.int fw), (.int fo), (.int (12 : Int32)), (.ref b242)])) rfl (by rw [hml]; rfl) (argsL := [(.ref b242), (.int (12 : Int32)), (.int fo), (.int fw), (.long w268), (.ref b131)]) (rest := []) (lenOf pd_oaBIIIJaJcZ rfl) rfl (by show 2 * 0 + _ ≤ _; exact Nat.le_of_eq rfl) (hb hby at_479) (fun _ _ => ⟨rfl, e299q, (by decide : 5 + 0 ≤ _), (by decide : 54 + 0 ≤ _)⟩)
  dsimp only [Pt.U, Pt.locs, Pt.cells, Pt.slots] at X301 l301 y301 z301 st301 hQ301
  rw [l301, y301, z301] at X301
  obtain ⟨hv301, N301q, e301q⟩ := hQ301
  rw [hv301] at st301
  have N301 := Fr.app N299 N301q
  have hat12 : ¬ ((fat (12 : Int32) fo fw w268 (own_g fo.toInt.toNat fw.toInt.toNat w268 12)) = (0 : Int32)) := own_at 12 _ _ _ _ (by decide) (by decide) hw1 hw19 ho0 ho3
  have s302 : ∀ t, Steps p.tables e below (T301.setTop (mkF m 497 #[.val (.int xw), .val (.int xo), .val (.int xf), .val (.long xx), .second, .val (.int fw), .val (.int fo), .val (.int w123), .val (.ref b131), .val (.long (xx &&& (9223372036854775807 : Int64))), .second, .val (.long w195), .second, .val (.long val), .second, .val (.ref b215), .val (.ref b242), .val (.long w268), .second] [(.ref b131), (.long w268), (.int fw), (.int fo), (.int (13 : Int32)), (.ref b242)])) t → Steps p.tables e below (T301.setTop (mkF m 482 #[.val (.int xw), .val (.int xo), .val (.int xf), .val (.long xx), .second, .val (.int fw), .val (.int fo), .val (.int w123), .val (.ref b131), .val (.long (xx &&& (9223372036854775807 : Int64))), .second, .val (.long w195), .second, .val (.long val), .second, .val (.ref b215), .val (.ref b242), .val (.long w268), .second] [(.int (fat (12 : Int32) fo fw w268 (own_g fo.toInt.toNat fw.toInt.toNat w268 12)))])) t := by
    intro t kt
    refine XS.ifNo X301.here hx rfl (hb hby at_482) rfl ((if0 _ _).trans (feq hat12).1) ?_
    show Steps p.tables e below (T301.setTop (mkF m 485 #[.val (.int xw), .val (.int xo), .val (.int xf), .val (.long xx), .second, .val (.int fw), .val (.int fo), .val (.int w123), .val (.ref b131), .val (.long (xx &&& (9223372036854775807 : Int64))), .second, .val (.long w195), .second, .val (.long val), .second, .val (.ref b215), .val (.ref b242), .val (.long w268), .second] [])) t
    refine XS.aload X301.here hx rfl (hb hby at_485) rfl rfl ?_
    show Steps p.tables e below (T301.setTop (mkF m 487 #[.val (.int xw), .val (.int xo), .val (.int xf), .val (.long xx), .second, .val (.int fw), .val (.int fo), .val (.int w123), .val (.ref b131), .val (.long (xx &&& (9223372036854775807 : Int64))), .second, .val (.long w195), .second, .val (.long val), .second, .val (.ref b215), .val (.ref b242), .val (.long w268), .second] [(.ref b242)])) t
    refine XS.bipush X301.here hx rfl (hb hby at_487) ?_
    show Steps p.tables e below (T301.setTop (mkF m 489 #[.val (.int xw), .val (.int xo), .val (.int xf), .val (.long xx), .second, .val (.int fw), .val (.int fo), .val (.int w123), .val (.ref b131), .val (.long (xx &&& (9223372036854775807 : Int64))), .second, .val (.long w195), .second, .val (.long val), .second, .val (.ref b215), .val (.ref b242), .val (.long w268), .second] [(.int (13 : Int32)), (.ref b242)])) t
    refine XS.iload X301.here hx rfl (hb hby at_489) rfl ?_
    show Steps p.tables e below (T301.setTop (mkF m 491 #[.val (.int xw), .val (.int xo), .val (.int xf), .val (.long xx), .second, .val (.int fw), .val (.int fo), .val (.int w123), .val (.ref b131), .val (.long (xx &&& (9223372036854775807 : Int64))), .second, .val (.long w195), .second, .val (.long val), .second, .val (.ref b215), .val (.ref b242), .val (.long w268), .second] [(.int fo), (.int (13 : Int32)), (.ref b242)])) t
    refine XS.iload X301.here hx rfl (hb hby at_491) rfl ?_
    show Steps p.tables e below (T301.setTop (mkF m 493 #[.val (.int xw), .val (.int xo), .val (.int xf), .val (.long xx), .second, .val (.int fw), .val (.int fo), .val (.int w123), .val (.ref b131), .val (.long (xx &&& (9223372036854775807 : Int64))), .second, .val (.long w195), .second, .val (.long val), .second, .val (.ref b215), .val (.ref b242), .val (.long w268), .second] [(.int fw), (.int fo), (.int (13 : Int32)), (.ref b242)])) t
    refine XS.lload X301.here hx rfl (hb hby at_493) rfl ?_
    show Steps p.tables e below (T301.setTop (mkF m 495 #[.val (.int xw), .val (.int xo), .val (.int xf), .val (.long xx), .second, .val (.int fw), .val (.int fo), .val (.int w123), .val (.ref b131), .val (.long (xx &&& (9223372036854775807 : Int64))), .second, .val (.long w195), .second, .val (.long val), .second, .val (.ref b215), .val (.ref b242), .val (.long w268), .second] [(.long w268), (.int fw), (.int fo), (.int (13 : Int32)), (.ref b242)])) t
    refine XS.aload X301.here hx rfl (hb hby at_495) rfl rfl ?_
    exact kt
  obtain ⟨_, _, ⟨T303, L303, k303, n303⟩, -, X303, ⟨Lc303, hQ303, l303, y303, z303⟩, st303⟩ := Jvm.LawKit.callS X301 hx (y := (⟨"com/example/rowkey_modeler/rowkeymodeler/DecimalFieldWriteHeldPinLaw", "at", "([BIIIJ[J)Z"⟩ : MethodName)) hown223 (mvT hZ223 (hw _ (List.mem_of_getElem? (i := 76) rfl))) (mvT hZ223 (hw _ (List.mem_of_getElem? (i := 77) rfl))) (mvT hZ223 (hw _ (List.mem_of_getElem? (i := 78) rfl))) (mvT hZ223 (hw _ (List.mem_of_getElem? (i := 79) rfl))) (by decide) (backOf (W := 0) (rm17 l Z a0 hw [] b242 (13 : Int32) fo fw w268 b131 _ (own_g fo.toInt.toNat fw.toInt.toNat w268 13) T257.heap n0 Zs257 Vg fV259 (by decide) (by decide) rfl hw1 hw19 ho0 ho3) hZ223 (hw _ (List.mem_of_getElem? (i := 79) rfl)) (hw _ (List.mem_of_getElem? (i := 78) rfl)) (by decide) (by decide)) (g := (mkF m 497 #[.val (.int xw), .val (.int xo), .val (.int xf), .val (.long xx), .second, .val (.int fw), .val (.int fo), .val (.int w123), .val (.ref b131), .val (.long (xx &&& (9223372036854775807 : Int64))), .second, .val (.long w195), .second, .val (.long val), .second, .val (.ref b215), .val (.ref b242), .val (.long w268), .second] [(.ref b131), (.long w268), (.int fw), (.int fo), (.int (13 : Int32)), (.ref b242)])) rfl (by rw [hml]; rfl) (argsL := [(.ref b242), (.int (13 : Int32)), (.int fo), (.int fw), (.long w268), (.ref b131)]) (rest := []) (lenOf pd_oaBIIIJaJcZ rfl) rfl (by show 2 * 0 + _ ≤ _; exact Nat.le_of_eq rfl) (hb hby at_497) (fun _ _ => ⟨rfl, e301q, (by decide : 5 + 0 ≤ _), (by decide : 54 + 0 ≤ _)⟩)
  dsimp only [Pt.U, Pt.locs, Pt.cells, Pt.slots] at X303 l303 y303 z303 st303 hQ303
  rw [l303, y303, z303] at X303
  obtain ⟨hv303, N303q, e303q⟩ := hQ303
  rw [hv303] at st303
  have N303 := Fr.app N301 N303q
  have hat13 : ¬ ((fat (13 : Int32) fo fw w268 (own_g fo.toInt.toNat fw.toInt.toNat w268 13)) = (0 : Int32)) := own_at 13 _ _ _ _ (by decide) (by decide) hw1 hw19 ho0 ho3
  have s304 : ∀ t, Steps p.tables e below (T303.setTop (mkF m 515 #[.val (.int xw), .val (.int xo), .val (.int xf), .val (.long xx), .second, .val (.int fw), .val (.int fo), .val (.int w123), .val (.ref b131), .val (.long (xx &&& (9223372036854775807 : Int64))), .second, .val (.long w195), .second, .val (.long val), .second, .val (.ref b215), .val (.ref b242), .val (.long w268), .second] [(.ref b131), (.long w268), (.int fw), (.int fo), (.int (14 : Int32)), (.ref b242)])) t → Steps p.tables e below (T303.setTop (mkF m 500 #[.val (.int xw), .val (.int xo), .val (.int xf), .val (.long xx), .second, .val (.int fw), .val (.int fo), .val (.int w123), .val (.ref b131), .val (.long (xx &&& (9223372036854775807 : Int64))), .second, .val (.long w195), .second, .val (.long val), .second, .val (.ref b215), .val (.ref b242), .val (.long w268), .second] [(.int (fat (13 : Int32) fo fw w268 (own_g fo.toInt.toNat fw.toInt.toNat w268 13)))])) t := by
    intro t kt
    refine XS.ifNo X303.here hx rfl (hb hby at_500) rfl ((if0 _ _).trans (feq hat13).1) ?_
    show Steps p.tables e below (T303.setTop (mkF m 503 #[.val (.int xw), .val (.int xo), .val (.int xf), .val (.long xx), .second, .val (.int fw), .val (.int fo), .val (.int w123), .val (.ref b131), .val (.long (xx &&& (9223372036854775807 : Int64))), .second, .val (.long w195), .second, .val (.long val), .second, .val (.ref b215), .val (.ref b242), .val (.long w268), .second] [])) t
    refine XS.aload X303.here hx rfl (hb hby at_503) rfl rfl ?_
    show Steps p.tables e below (T303.setTop (mkF m 505 #[.val (.int xw), .val (.int xo), .val (.int xf), .val (.long xx), .second, .val (.int fw), .val (.int fo), .val (.int w123), .val (.ref b131), .val (.long (xx &&& (9223372036854775807 : Int64))), .second, .val (.long w195), .second, .val (.long val), .second, .val (.ref b215), .val (.ref b242), .val (.long w268), .second] [(.ref b242)])) t
    refine XS.bipush X303.here hx rfl (hb hby at_505) ?_
    show Steps p.tables e below (T303.setTop (mkF m 507 #[.val (.int xw), .val (.int xo), .val (.int xf), .val (.long xx), .second, .val (.int fw), .val (.int fo), .val (.int w123), .val (.ref b131), .val (.long (xx &&& (9223372036854775807 : Int64))), .second, .val (.long w195), .second, .val (.long val), .second, .val (.ref b215), .val (.ref b242), .val (.long w268), .second] [(.int (14 : Int32)), (.ref b242)])) t
    refine XS.iload X303.here hx rfl (hb hby at_507) rfl ?_
    show Steps p.tables e below (T303.setTop (mkF m 509 #[.val (.int xw), .val (.int xo), .val (.int xf), .val (.long xx), .second, .val (.int fw), .val (.int fo), .val (.int w123), .val (.ref b131), .val (.long (xx &&& (9223372036854775807 : Int64))), .second, .val (.long w195), .second, .val (.long val), .second, .val (.ref b215), .val (.ref b242), .val (.long w268), .second] [(.int fo), (.int (14 : Int32)), (.ref b242)])) t
    refine XS.iload X303.here hx rfl (hb hby at_509) rfl ?_
    show Steps p.tables e below (T303.setTop (mkF m 511 #[.val (.int xw), .val (.int xo), .val (.int xf), .val (.long xx), .second, .val (.int fw), .val (.int fo), .val (.int w123), .val (.ref b131), .val (.long (xx &&& (9223372036854775807 : Int64))), .second, .val (.long w195), .second, .val (.long val), .second, .val (.ref b215), .val (.ref b242), .val (.long w268), .second] [(.int fw), (.int fo), (.int (14 : Int32)), (.ref b242)])) t
    refine XS.lload X303.here hx rfl (hb hby at_511) rfl ?_
    show Steps p.tables e below (T303.setTop (mkF m 513 #[.val (.int xw), .val (.int xo), .val (.int xf), .val (.long xx), .second, .val (.int fw), .val (.int fo), .val (.int w123), .val (.ref b131), .val (.long (xx &&& (9223372036854775807 : Int64))), .second, .val (.long w195), .second, .val (.long val), .second, .val (.ref b215), .val (.ref b242), .val (.long w268), .second] [(.long w268), (.int fw), (.int fo), (.int (14 : Int32)), (.ref b242)])) t
    refine XS.aload X303.here hx rfl (hb hby at_513) rfl rfl ?_
    exact kt
  obtain ⟨_, _, ⟨T305, L305, k305, n305⟩, -, X305, ⟨Lc305, hQ305, l305, y305, z305⟩, st305⟩ := Jvm.LawKit.callS X303 hx (y := (⟨"com/example/rowkey_modeler/rowkeymodeler/DecimalFieldWriteHeldPinLaw", "at", "([BIIIJ[J)Z"⟩ : MethodName)) hown223 (mvT hZ223 (hw _ (List.mem_of_getElem? (i := 76) rfl))) (mvT hZ223 (hw _ (List.mem_of_getElem? (i := 77) rfl))) (mvT hZ223 (hw _ (List.mem_of_getElem? (i := 78) rfl))) (mvT hZ223 (hw _ (List.mem_of_getElem? (i := 79) rfl))) (by decide) (backOf (W := 0) (rm17 l Z a0 hw [] b242 (14 : Int32) fo fw w268 b131 _ (own_g fo.toInt.toNat fw.toInt.toNat w268 14) T257.heap n0 Zs257 Vg fV259 (by decide) (by decide) rfl hw1 hw19 ho0 ho3) hZ223 (hw _ (List.mem_of_getElem? (i := 79) rfl)) (hw _ (List.mem_of_getElem? (i := 78) rfl)) (by decide) (by decide)) (g := (mkF m 515 #[.val (.int xw), .val (.int xo), .val (.int xf), .val (.long xx), .second, .val (.int fw), .val (.int fo), .val (.int w123), .val (.ref b131), .val (.long (xx &&& (9223372036854775807 : Int64))), .second, .val (.long w195), .second, .val (.long val), .second, .val (.ref b215), .val (.ref b242), .val (.long w268), .second] [(.ref b131), (.long w268), (.int fw), (.int fo), (.int (14 : Int32)), (.ref b242)])) rfl (by rw [hml]; rfl) (argsL := [(.ref b242), (.int (14 : Int32)), (.int fo), (.int fw), (.long w268), (.ref b131)]) (rest := []) (lenOf pd_oaBIIIJaJcZ rfl) rfl (by show 2 * 0 + _ ≤ _; exact Nat.le_of_eq rfl) (hb hby at_515) (fun _ _ => ⟨rfl, e303q, (by decide : 5 + 0 ≤ _), (by decide : 54 + 0 ≤ _)⟩)
  dsimp only [Pt.U, Pt.locs, Pt.cells, Pt.slots] at X305 l305 y305 z305 st305 hQ305
  rw [l305, y305, z305] at X305
  obtain ⟨hv305, N305q, e305q⟩ := hQ305
  rw [hv305] at st305
  have N305 := Fr.app N303 N305q
  have hat14 : ¬ ((fat (14 : Int32) fo fw w268 (own_g fo.toInt.toNat fw.toInt.toNat w268 14)) = (0 : Int32)) := own_at 14 _ _ _ _ (by decide) (by decide) hw1 hw19 ho0 ho3
  have s306 : ∀ t, Steps p.tables e below (T305.setTop (mkF m 533 #[.val (.int xw), .val (.int xo), .val (.int xf), .val (.long xx), .second, .val (.int fw), .val (.int fo), .val (.int w123), .val (.ref b131), .val (.long (xx &&& (9223372036854775807 : Int64))), .second, .val (.long w195), .second, .val (.long val), .second, .val (.ref b215), .val (.ref b242), .val (.long w268), .second] [(.ref b131), (.long w268), (.int fw), (.int fo), (.int (15 : Int32)), (.ref b242)])) t → Steps p.tables e below (T305.setTop (mkF m 518 #[.val (.int xw), .val (.int xo), .val (.int xf), .val (.long xx), .second, .val (.int fw), .val (.int fo), .val (.int w123), .val (.ref b131), .val (.long (xx &&& (9223372036854775807 : Int64))), .second, .val (.long w195), .second, .val (.long val), .second, .val (.ref b215), .val (.ref b242), .val (.long w268), .second] [(.int (fat (14 : Int32) fo fw w268 (own_g fo.toInt.toNat fw.toInt.toNat w268 14)))])) t := by
    intro t kt
    refine XS.ifNo X305.here hx rfl (hb hby at_518) rfl ((if0 _ _).trans (feq hat14).1) ?_
    show Steps p.tables e below (T305.setTop (mkF m 521 #[.val (.int xw), .val (.int xo), .val (.int xf), .val (.long xx), .second, .val (.int fw), .val (.int fo), .val (.int w123), .val (.ref b131), .val (.long (xx &&& (9223372036854775807 : Int64))), .second, .val (.long w195), .second, .val (.long val), .second, .val (.ref b215), .val (.ref b242), .val (.long w268), .second] [])) t
    refine XS.aload X305.here hx rfl (hb hby at_521) rfl rfl ?_
    show Steps p.tables e below (T305.setTop (mkF m 523 #[.val (.int xw), .val (.int xo), .val (.int xf), .val (.long xx), .second, .val (.int fw), .val (.int fo), .val (.int w123), .val (.ref b131), .val (.long (xx &&& (9223372036854775807 : Int64))), .second, .val (.long w195), .second, .val (.long val), .second, .val (.ref b215), .val (.ref b242), .val (.long w268), .second] [(.ref b242)])) t
    refine XS.bipush X305.here hx rfl (hb hby at_523) ?_
    show Steps p.tables e below (T305.setTop (mkF m 525 #[.val (.int xw), .val (.int xo), .val (.int xf), .val (.long xx), .second, .val (.int fw), .val (.int fo), .val (.int w123), .val (.ref b131), .val (.long (xx &&& (9223372036854775807 : Int64))), .second, .val (.long w195), .second, .val (.long val), .second, .val (.ref b215), .val (.ref b242), .val (.long w268), .second] [(.int (15 : Int32)), (.ref b242)])) t
    refine XS.iload X305.here hx rfl (hb hby at_525) rfl ?_
    show Steps p.tables e below (T305.setTop (mkF m 527 #[.val (.int xw), .val (.int xo), .val (.int xf), .val (.long xx), .second, .val (.int fw), .val (.int fo), .val (.int w123), .val (.ref b131), .val (.long (xx &&& (9223372036854775807 : Int64))), .second, .val (.long w195), .second, .val (.long val), .second, .val (.ref b215), .val (.ref b242), .val (.long w268), .second] [(.int fo), (.int (15 : Int32)), (.ref b242)])) t
    refine XS.iload X305.here hx rfl (hb hby at_527) rfl ?_
    show Steps p.tables e below (T305.setTop (mkF m 529 #[.val (.int xw), .val (.int xo), .val (.int xf), .val (.long xx), .second, .val (.int fw), .val (.int fo), .val (.int w123), .val (.ref b131), .val (.long (xx &&& (9223372036854775807 : Int64))), .second, .val (.long w195), .second, .val (.long val), .second, .val (.ref b215), .val (.ref b242), .val (.long w268), .second] [(.int fw), (.int fo), (.int (15 : Int32)), (.ref b242)])) t
    refine XS.lload X305.here hx rfl (hb hby at_529) rfl ?_
    show Steps p.tables e below (T305.setTop (mkF m 531 #[.val (.int xw), .val (.int xo), .val (.int xf), .val (.long xx), .second, .val (.int fw), .val (.int fo), .val (.int w123), .val (.ref b131), .val (.long (xx &&& (9223372036854775807 : Int64))), .second, .val (.long w195), .second, .val (.long val), .second, .val (.ref b215), .val (.ref b242), .val (.long w268), .second] [(.long w268), (.int fw), (.int fo), (.int (15 : Int32)), (.ref b242)])) t
    refine XS.aload X305.here hx rfl (hb hby at_531) rfl rfl ?_
    exact kt
  obtain ⟨_, _, ⟨T307, L307, k307, n307⟩, -, X307, ⟨Lc307, hQ307, l307, y307, z307⟩, st307⟩ := Jvm.LawKit.callS X305 hx (y := (⟨"com/example/rowkey_modeler/rowkeymodeler/DecimalFieldWriteHeldPinLaw", "at", "([BIIIJ[J)Z"⟩ : MethodName)) hown223 (mvT hZ223 (hw _ (List.mem_of_getElem? (i := 76) rfl))) (mvT hZ223 (hw _ (List.mem_of_getElem? (i := 77) rfl))) (mvT hZ223 (hw _ (List.mem_of_getElem? (i := 78) rfl))) (mvT hZ223 (hw _ (List.mem_of_getElem? (i := 79) rfl))) (by decide) (backOf (W := 0) (rm17 l Z a0 hw [] b242 (15 : Int32) fo fw w268 b131 _ (own_g fo.toInt.toNat fw.toInt.toNat w268 15) T257.heap n0 Zs257 Vg fV259 (by decide) (by decide) rfl hw1 hw19 ho0 ho3) hZ223 (hw _ (List.mem_of_getElem? (i := 79) rfl)) (hw _ (List.mem_of_getElem? (i := 78) rfl)) (by decide) (by decide)) (g := (mkF m 533 #[.val (.int xw), .val (.int xo), .val (.int xf), .val (.long xx), .second, .val (.int fw), .val (.int fo), .val (.int w123), .val (.ref b131), .val (.long (xx &&& (9223372036854775807 : Int64))), .second, .val (.long w195), .second, .val (.long val), .second, .val (.ref b215), .val (.ref b242), .val (.long w268), .second] [(.ref b131), (.long w268), (.int fw), (.int fo), (.int (15 : Int32)), (.ref b242)])) rfl (by rw [hml]; rfl) (argsL := [(.ref b242), (.int (15 : Int32)), (.int fo), (.int fw), (.long w268), (.ref b131)]) (rest := []) (lenOf pd_oaBIIIJaJcZ rfl) rfl (by show 2 * 0 + _ ≤ _; exact Nat.le_of_eq rfl) (hb hby at_533) (fun _ _ => ⟨rfl, e305q, (by decide : 5 + 0 ≤ _), (by decide : 54 + 0 ≤ _)⟩)
  dsimp only [Pt.U, Pt.locs, Pt.cells, Pt.slots] at X307 l307 y307 z307 st307 hQ307
  rw [l307, y307, z307] at X307
  obtain ⟨hv307, N307q, e307q⟩ := hQ307
  rw [hv307] at st307
  have N307 := Fr.app N305 N307q
  have hat15 : ¬ ((fat (15 : Int32) fo fw w268 (own_g fo.toInt.toNat fw.toInt.toNat w268 15)) = (0 : Int32)) := own_at 15 _ _ _ _ (by decide) (by decide) hw1 hw19 ho0 ho3
  have s308 : ∀ t, Steps p.tables e below (T307.setTop (mkF m 551 #[.val (.int xw), .val (.int xo), .val (.int xf), .val (.long xx), .second, .val (.int fw), .val (.int fo), .val (.int w123), .val (.ref b131), .val (.long (xx &&& (9223372036854775807 : Int64))), .second, .val (.long w195), .second, .val (.long val), .second, .val (.ref b215), .val (.ref b242), .val (.long w268), .second] [(.ref b131), (.long w268), (.int fw), (.int fo), (.int (16 : Int32)), (.ref b242)])) t → Steps p.tables e below (T307.setTop (mkF m 536 #[.val (.int xw), .val (.int xo), .val (.int xf), .val (.long xx), .second, .val (.int fw), .val (.int fo), .val (.int w123), .val (.ref b131), .val (.long (xx &&& (9223372036854775807 : Int64))), .second, .val (.long w195), .second, .val (.long val), .second, .val (.ref b215), .val (.ref b242), .val (.long w268), .second] [(.int (fat (15 : Int32) fo fw w268 (own_g fo.toInt.toNat fw.toInt.toNat w268 15)))])) t := by
    intro t kt
    refine XS.ifNo X307.here hx rfl (hb hby at_536) rfl ((if0 _ _).trans (feq hat15).1) ?_
    show Steps p.tables e below (T307.setTop (mkF m 539 #[.val (.int xw), .val (.int xo), .val (.int xf), .val (.long xx), .second, .val (.int fw), .val (.int fo), .val (.int w123), .val (.ref b131), .val (.long (xx &&& (9223372036854775807 : Int64))), .second, .val (.long w195), .second, .val (.long val), .second, .val (.ref b215), .val (.ref b242), .val (.long w268), .second] [])) t
    refine XS.aload X307.here hx rfl (hb hby at_539) rfl rfl ?_
    show Steps p.tables e below (T307.setTop (mkF m 541 #[.val (.int xw), .val (.int xo), .val (.int xf), .val (.long xx), .second, .val (.int fw), .val (.int fo), .val (.int w123), .val (.ref b131), .val (.long (xx &&& (9223372036854775807 : Int64))), .second, .val (.long w195), .second, .val (.long val), .second, .val (.ref b215), .val (.ref b242), .val (.long w268), .second] [(.ref b242)])) t
    refine XS.bipush X307.here hx rfl (hb hby at_541) ?_
    show Steps p.tables e below (T307.setTop (mkF m 543 #[.val (.int xw), .val (.int xo), .val (.int xf), .val (.long xx), .second, .val (.int fw), .val (.int fo), .val (.int w123), .val (.ref b131), .val (.long (xx &&& (9223372036854775807 : Int64))), .second, .val (.long w195), .second, .val (.long val), .second, .val (.ref b215), .val (.ref b242), .val (.long w268), .second] [(.int (16 : Int32)), (.ref b242)])) t
    refine XS.iload X307.here hx rfl (hb hby at_543) rfl ?_
    show Steps p.tables e below (T307.setTop (mkF m 545 #[.val (.int xw), .val (.int xo), .val (.int xf), .val (.long xx), .second, .val (.int fw), .val (.int fo), .val (.int w123), .val (.ref b131), .val (.long (xx &&& (9223372036854775807 : Int64))), .second, .val (.long w195), .second, .val (.long val), .second, .val (.ref b215), .val (.ref b242), .val (.long w268), .second] [(.int fo), (.int (16 : Int32)), (.ref b242)])) t
    refine XS.iload X307.here hx rfl (hb hby at_545) rfl ?_
    show Steps p.tables e below (T307.setTop (mkF m 547 #[.val (.int xw), .val (.int xo), .val (.int xf), .val (.long xx), .second, .val (.int fw), .val (.int fo), .val (.int w123), .val (.ref b131), .val (.long (xx &&& (9223372036854775807 : Int64))), .second, .val (.long w195), .second, .val (.long val), .second, .val (.ref b215), .val (.ref b242), .val (.long w268), .second] [(.int fw), (.int fo), (.int (16 : Int32)), (.ref b242)])) t
    refine XS.lload X307.here hx rfl (hb hby at_547) rfl ?_
    show Steps p.tables e below (T307.setTop (mkF m 549 #[.val (.int xw), .val (.int xo), .val (.int xf), .val (.long xx), .second, .val (.int fw), .val (.int fo), .val (.int w123), .val (.ref b131), .val (.long (xx &&& (9223372036854775807 : Int64))), .second, .val (.long w195), .second, .val (.long val), .second, .val (.ref b215), .val (.ref b242), .val (.long w268), .second] [(.long w268), (.int fw), (.int fo), (.int (16 : Int32)), (.ref b242)])) t
    refine XS.aload X307.here hx rfl (hb hby at_549) rfl rfl ?_
    exact kt
  obtain ⟨_, _, ⟨T309, L309, k309, n309⟩, -, X309, ⟨Lc309, hQ309, l309, y309, z309⟩, st309⟩ := Jvm.LawKit.callS X307 hx (y := (⟨"com/example/rowkey_modeler/rowkeymodeler/DecimalFieldWriteHeldPinLaw", "at", "([BIIIJ[J)Z"⟩ : MethodName)) hown223 (mvT hZ223 (hw _ (List.mem_of_getElem? (i := 76) rfl))) (mvT hZ223 (hw _ (List.mem_of_getElem? (i := 77) rfl))) (mvT hZ223 (hw _ (List.mem_of_getElem? (i := 78) rfl))) (mvT hZ223 (hw _ (List.mem_of_getElem? (i := 79) rfl))) (by decide) (backOf (W := 0) (rm17 l Z a0 hw [] b242 (16 : Int32) fo fw w268 b131 _ (own_g fo.toInt.toNat fw.toInt.toNat w268 16) T257.heap n0 Zs257 Vg fV259 (by decide) (by decide) rfl hw1 hw19 ho0 ho3) hZ223 (hw _ (List.mem_of_getElem? (i := 79) rfl)) (hw _ (List.mem_of_getElem? (i := 78) rfl)) (by decide) (by decide)) (g := (mkF m 551 #[.val (.int xw), .val (.int xo), .val (.int xf), .val (.long xx), .second, .val (.int fw), .val (.int fo), .val (.int w123), .val (.ref b131), .val (.long (xx &&& (9223372036854775807 : Int64))), .second, .val (.long w195), .second, .val (.long val), .second, .val (.ref b215), .val (.ref b242), .val (.long w268), .second] [(.ref b131), (.long w268), (.int fw), (.int fo), (.int (16 : Int32)), (.ref b242)])) rfl (by rw [hml]; rfl) (argsL := [(.ref b242), (.int (16 : Int32)), (.int fo), (.int fw), (.long w268), (.ref b131)]) (rest := []) (lenOf pd_oaBIIIJaJcZ rfl) rfl (by show 2 * 0 + _ ≤ _; exact Nat.le_of_eq rfl) (hb hby at_551) (fun _ _ => ⟨rfl, e307q, (by decide : 5 + 0 ≤ _), (by decide : 54 + 0 ≤ _)⟩)
  dsimp only [Pt.U, Pt.locs, Pt.cells, Pt.slots] at X309 l309 y309 z309 st309 hQ309
  rw [l309, y309, z309] at X309
  obtain ⟨hv309, N309q, e309q⟩ := hQ309
  rw [hv309] at st309
  have N309 := Fr.app N307 N309q
  have hat16 : ¬ ((fat (16 : Int32) fo fw w268 (own_g fo.toInt.toNat fw.toInt.toNat w268 16)) = (0 : Int32)) := own_at 16 _ _ _ _ (by decide) (by decide) hw1 hw19 ho0 ho3
  have s310 : ∀ t, Steps p.tables e below (T309.setTop (mkF m 569 #[.val (.int xw), .val (.int xo), .val (.int xf), .val (.long xx), .second, .val (.int fw), .val (.int fo), .val (.int w123), .val (.ref b131), .val (.long (xx &&& (9223372036854775807 : Int64))), .second, .val (.long w195), .second, .val (.long val), .second, .val (.ref b215), .val (.ref b242), .val (.long w268), .second] [(.ref b131), (.long w268), (.int fw), (.int fo), (.int (17 : Int32)), (.ref b242)])) t → Steps p.tables e below (T309.setTop (mkF m 554 #[.val (.int xw), .val (.int xo), .val (.int xf), .val (.long xx), .second, .val (.int fw), .val (.int fo), .val (.int w123), .val (.ref b131), .val (.long (xx &&& (9223372036854775807 : Int64))), .second, .val (.long w195), .second, .val (.long val), .second, .val (.ref b215), .val (.ref b242), .val (.long w268), .second] [(.int (fat (16 : Int32) fo fw w268 (own_g fo.toInt.toNat fw.toInt.toNat w268 16)))])) t := by
    intro t kt
    refine XS.ifNo X309.here hx rfl (hb hby at_554) rfl ((if0 _ _).trans (feq hat16).1) ?_
    show Steps p.tables e below (T309.setTop (mkF m 557 #[.val (.int xw), .val (.int xo), .val (.int xf), .val (.long xx), .second, .val (.int fw), .val (.int fo), .val (.int w123), .val (.ref b131), .val (.long (xx &&& (9223372036854775807 : Int64))), .second, .val (.long w195), .second, .val (.long val), .second, .val (.ref b215), .val (.ref b242), .val (.long w268), .second] [])) t
    refine XS.aload X309.here hx rfl (hb hby at_557) rfl rfl ?_
    show Steps p.tables e below (T309.setTop (mkF m 559 #[.val (.int xw), .val (.int xo), .val (.int xf), .val (.long xx), .second, .val (.int fw), .val (.int fo), .val (.int w123), .val (.ref b131), .val (.long (xx &&& (9223372036854775807 : Int64))), .second, .val (.long w195), .second, .val (.long val), .second, .val (.ref b215), .val (.ref b242), .val (.long w268), .second] [(.ref b242)])) t
    refine XS.bipush X309.here hx rfl (hb hby at_559) ?_
    show Steps p.tables e below (T309.setTop (mkF m 561 #[.val (.int xw), .val (.int xo), .val (.int xf), .val (.long xx), .second, .val (.int fw), .val (.int fo), .val (.int w123), .val (.ref b131), .val (.long (xx &&& (9223372036854775807 : Int64))), .second, .val (.long w195), .second, .val (.long val), .second, .val (.ref b215), .val (.ref b242), .val (.long w268), .second] [(.int (17 : Int32)), (.ref b242)])) t
    refine XS.iload X309.here hx rfl (hb hby at_561) rfl ?_
    show Steps p.tables e below (T309.setTop (mkF m 563 #[.val (.int xw), .val (.int xo), .val (.int xf), .val (.long xx), .second, .val (.int fw), .val (.int fo), .val (.int w123), .val (.ref b131), .val (.long (xx &&& (9223372036854775807 : Int64))), .second, .val (.long w195), .second, .val (.long val), .second, .val (.ref b215), .val (.ref b242), .val (.long w268), .second] [(.int fo), (.int (17 : Int32)), (.ref b242)])) t
    refine XS.iload X309.here hx rfl (hb hby at_563) rfl ?_
    show Steps p.tables e below (T309.setTop (mkF m 565 #[.val (.int xw), .val (.int xo), .val (.int xf), .val (.long xx), .second, .val (.int fw), .val (.int fo), .val (.int w123), .val (.ref b131), .val (.long (xx &&& (9223372036854775807 : Int64))), .second, .val (.long w195), .second, .val (.long val), .second, .val (.ref b215), .val (.ref b242), .val (.long w268), .second] [(.int fw), (.int fo), (.int (17 : Int32)), (.ref b242)])) t
    refine XS.lload X309.here hx rfl (hb hby at_565) rfl ?_
    show Steps p.tables e below (T309.setTop (mkF m 567 #[.val (.int xw), .val (.int xo), .val (.int xf), .val (.long xx), .second, .val (.int fw), .val (.int fo), .val (.int w123), .val (.ref b131), .val (.long (xx &&& (9223372036854775807 : Int64))), .second, .val (.long w195), .second, .val (.long val), .second, .val (.ref b215), .val (.ref b242), .val (.long w268), .second] [(.long w268), (.int fw), (.int fo), (.int (17 : Int32)), (.ref b242)])) t
    refine XS.aload X309.here hx rfl (hb hby at_567) rfl rfl ?_
    exact kt
  obtain ⟨_, _, ⟨T311, L311, k311, n311⟩, -, X311, ⟨Lc311, hQ311, l311, y311, z311⟩, st311⟩ := Jvm.LawKit.callS X309 hx (y := (⟨"com/example/rowkey_modeler/rowkeymodeler/DecimalFieldWriteHeldPinLaw", "at", "([BIIIJ[J)Z"⟩ : MethodName)) hown223 (mvT hZ223 (hw _ (List.mem_of_getElem? (i := 76) rfl))) (mvT hZ223 (hw _ (List.mem_of_getElem? (i := 77) rfl))) (mvT hZ223 (hw _ (List.mem_of_getElem? (i := 78) rfl))) (mvT hZ223 (hw _ (List.mem_of_getElem? (i := 79) rfl))) (by decide) (backOf (W := 0) (rm17 l Z a0 hw [] b242 (17 : Int32) fo fw w268 b131 _ (own_g fo.toInt.toNat fw.toInt.toNat w268 17) T257.heap n0 Zs257 Vg fV259 (by decide) (by decide) rfl hw1 hw19 ho0 ho3) hZ223 (hw _ (List.mem_of_getElem? (i := 79) rfl)) (hw _ (List.mem_of_getElem? (i := 78) rfl)) (by decide) (by decide)) (g := (mkF m 569 #[.val (.int xw), .val (.int xo), .val (.int xf), .val (.long xx), .second, .val (.int fw), .val (.int fo), .val (.int w123), .val (.ref b131), .val (.long (xx &&& (9223372036854775807 : Int64))), .second, .val (.long w195), .second, .val (.long val), .second, .val (.ref b215), .val (.ref b242), .val (.long w268), .second] [(.ref b131), (.long w268), (.int fw), (.int fo), (.int (17 : Int32)), (.ref b242)])) rfl (by rw [hml]; rfl) (argsL := [(.ref b242), (.int (17 : Int32)), (.int fo), (.int fw), (.long w268), (.ref b131)]) (rest := []) (lenOf pd_oaBIIIJaJcZ rfl) rfl (by show 2 * 0 + _ ≤ _; exact Nat.le_of_eq rfl) (hb hby at_569) (fun _ _ => ⟨rfl, e309q, (by decide : 5 + 0 ≤ _), (by decide : 54 + 0 ≤ _)⟩)
  dsimp only [Pt.U, Pt.locs, Pt.cells, Pt.slots] at X311 l311 y311 z311 st311 hQ311
  rw [l311, y311, z311] at X311
  obtain ⟨hv311, N311q, e311q⟩ := hQ311
  rw [hv311] at st311
  have N311 := Fr.app N309 N311q
  have hat17 : ¬ ((fat (17 : Int32) fo fw w268 (own_g fo.toInt.toNat fw.toInt.toNat w268 17)) = (0 : Int32)) := own_at 17 _ _ _ _ (by decide) (by decide) hw1 hw19 ho0 ho3
  have s312 : ∀ t, Steps p.tables e below (T311.setTop (mkF m 587 #[.val (.int xw), .val (.int xo), .val (.int xf), .val (.long xx), .second, .val (.int fw), .val (.int fo), .val (.int w123), .val (.ref b131), .val (.long (xx &&& (9223372036854775807 : Int64))), .second, .val (.long w195), .second, .val (.long val), .second, .val (.ref b215), .val (.ref b242), .val (.long w268), .second] [(.ref b131), (.long w268), (.int fw), (.int fo), (.int (18 : Int32)), (.ref b242)])) t → Steps p.tables e below (T311.setTop (mkF m 572 #[.val (.int xw), .val (.int xo), .val (.int xf), .val (.long xx), .second, .val (.int fw), .val (.int fo), .val (.int w123), .val (.ref b131), .val (.long (xx &&& (9223372036854775807 : Int64))), .second, .val (.long w195), .second, .val (.long val), .second, .val (.ref b215), .val (.ref b242), .val (.long w268), .second] [(.int (fat (17 : Int32) fo fw w268 (own_g fo.toInt.toNat fw.toInt.toNat w268 17)))])) t := by
    intro t kt
    refine XS.ifNo X311.here hx rfl (hb hby at_572) rfl ((if0 _ _).trans (feq hat17).1) ?_
    show Steps p.tables e below (T311.setTop (mkF m 575 #[.val (.int xw), .val (.int xo), .val (.int xf), .val (.long xx), .second, .val (.int fw), .val (.int fo), .val (.int w123), .val (.ref b131), .val (.long (xx &&& (9223372036854775807 : Int64))), .second, .val (.long w195), .second, .val (.long val), .second, .val (.ref b215), .val (.ref b242), .val (.long w268), .second] [])) t
    refine XS.aload X311.here hx rfl (hb hby at_575) rfl rfl ?_
    show Steps p.tables e below (T311.setTop (mkF m 577 #[.val (.int xw), .val (.int xo), .val (.int xf), .val (.long xx), .second, .val (.int fw), .val (.int fo), .val (.int w123), .val (.ref b131), .val (.long (xx &&& (9223372036854775807 : Int64))), .second, .val (.long w195), .second, .val (.long val), .second, .val (.ref b215), .val (.ref b242), .val (.long w268), .second] [(.ref b242)])) t
    refine XS.bipush X311.here hx rfl (hb hby at_577) ?_
    show Steps p.tables e below (T311.setTop (mkF m 579 #[.val (.int xw), .val (.int xo), .val (.int xf), .val (.long xx), .second, .val (.int fw), .val (.int fo), .val (.int w123), .val (.ref b131), .val (.long (xx &&& (9223372036854775807 : Int64))), .second, .val (.long w195), .second, .val (.long val), .second, .val (.ref b215), .val (.ref b242), .val (.long w268), .second] [(.int (18 : Int32)), (.ref b242)])) t
    refine XS.iload X311.here hx rfl (hb hby at_579) rfl ?_
    show Steps p.tables e below (T311.setTop (mkF m 581 #[.val (.int xw), .val (.int xo), .val (.int xf), .val (.long xx), .second, .val (.int fw), .val (.int fo), .val (.int w123), .val (.ref b131), .val (.long (xx &&& (9223372036854775807 : Int64))), .second, .val (.long w195), .second, .val (.long val), .second, .val (.ref b215), .val (.ref b242), .val (.long w268), .second] [(.int fo), (.int (18 : Int32)), (.ref b242)])) t
    refine XS.iload X311.here hx rfl (hb hby at_581) rfl ?_
    show Steps p.tables e below (T311.setTop (mkF m 583 #[.val (.int xw), .val (.int xo), .val (.int xf), .val (.long xx), .second, .val (.int fw), .val (.int fo), .val (.int w123), .val (.ref b131), .val (.long (xx &&& (9223372036854775807 : Int64))), .second, .val (.long w195), .second, .val (.long val), .second, .val (.ref b215), .val (.ref b242), .val (.long w268), .second] [(.int fw), (.int fo), (.int (18 : Int32)), (.ref b242)])) t
    refine XS.lload X311.here hx rfl (hb hby at_583) rfl ?_
    show Steps p.tables e below (T311.setTop (mkF m 585 #[.val (.int xw), .val (.int xo), .val (.int xf), .val (.long xx), .second, .val (.int fw), .val (.int fo), .val (.int w123), .val (.ref b131), .val (.long (xx &&& (9223372036854775807 : Int64))), .second, .val (.long w195), .second, .val (.long val), .second, .val (.ref b215), .val (.ref b242), .val (.long w268), .second] [(.long w268), (.int fw), (.int fo), (.int (18 : Int32)), (.ref b242)])) t
    refine XS.aload X311.here hx rfl (hb hby at_585) rfl rfl ?_
    exact kt
  obtain ⟨_, _, ⟨T313, L313, k313, n313⟩, -, X313, ⟨Lc313, hQ313, l313, y313, z313⟩, st313⟩ := Jvm.LawKit.callS X311 hx (y := (⟨"com/example/rowkey_modeler/rowkeymodeler/DecimalFieldWriteHeldPinLaw", "at", "([BIIIJ[J)Z"⟩ : MethodName)) hown223 (mvT hZ223 (hw _ (List.mem_of_getElem? (i := 76) rfl))) (mvT hZ223 (hw _ (List.mem_of_getElem? (i := 77) rfl))) (mvT hZ223 (hw _ (List.mem_of_getElem? (i := 78) rfl))) (mvT hZ223 (hw _ (List.mem_of_getElem? (i := 79) rfl))) (by decide) (backOf (W := 0) (rm17 l Z a0 hw [] b242 (18 : Int32) fo fw w268 b131 _ (own_g fo.toInt.toNat fw.toInt.toNat w268 18) T257.heap n0 Zs257 Vg fV259 (by decide) (by decide) rfl hw1 hw19 ho0 ho3) hZ223 (hw _ (List.mem_of_getElem? (i := 79) rfl)) (hw _ (List.mem_of_getElem? (i := 78) rfl)) (by decide) (by decide)) (g := (mkF m 587 #[.val (.int xw), .val (.int xo), .val (.int xf), .val (.long xx), .second, .val (.int fw), .val (.int fo), .val (.int w123), .val (.ref b131), .val (.long (xx &&& (9223372036854775807 : Int64))), .second, .val (.long w195), .second, .val (.long val), .second, .val (.ref b215), .val (.ref b242), .val (.long w268), .second] [(.ref b131), (.long w268), (.int fw), (.int fo), (.int (18 : Int32)), (.ref b242)])) rfl (by rw [hml]; rfl) (argsL := [(.ref b242), (.int (18 : Int32)), (.int fo), (.int fw), (.long w268), (.ref b131)]) (rest := []) (lenOf pd_oaBIIIJaJcZ rfl) rfl (by show 2 * 0 + _ ≤ _; exact Nat.le_of_eq rfl) (hb hby at_587) (fun _ _ => ⟨rfl, e311q, (by decide : 5 + 0 ≤ _), (by decide : 54 + 0 ≤ _)⟩)
  dsimp only [Pt.U, Pt.locs, Pt.cells, Pt.slots] at X313 l313 y313 z313 st313 hQ313
  rw [l313, y313, z313] at X313
  obtain ⟨hv313, N313q, e313q⟩ := hQ313
  rw [hv313] at st313
  have N313 := Fr.app N311 N313q
  have hat18 : ¬ ((fat (18 : Int32) fo fw w268 (own_g fo.toInt.toNat fw.toInt.toNat w268 18)) = (0 : Int32)) := own_at 18 _ _ _ _ (by decide) (by decide) hw1 hw19 ho0 ho3
  have s314 : ∀ t, Steps p.tables e below (T313.setTop (mkF m 605 #[.val (.int xw), .val (.int xo), .val (.int xf), .val (.long xx), .second, .val (.int fw), .val (.int fo), .val (.int w123), .val (.ref b131), .val (.long (xx &&& (9223372036854775807 : Int64))), .second, .val (.long w195), .second, .val (.long val), .second, .val (.ref b215), .val (.ref b242), .val (.long w268), .second] [(.ref b131), (.long w268), (.int fw), (.int fo), (.int (19 : Int32)), (.ref b242)])) t → Steps p.tables e below (T313.setTop (mkF m 590 #[.val (.int xw), .val (.int xo), .val (.int xf), .val (.long xx), .second, .val (.int fw), .val (.int fo), .val (.int w123), .val (.ref b131), .val (.long (xx &&& (9223372036854775807 : Int64))), .second, .val (.long w195), .second, .val (.long val), .second, .val (.ref b215), .val (.ref b242), .val (.long w268), .second] [(.int (fat (18 : Int32) fo fw w268 (own_g fo.toInt.toNat fw.toInt.toNat w268 18)))])) t := by
    intro t kt
    refine XS.ifNo X313.here hx rfl (hb hby at_590) rfl ((if0 _ _).trans (feq hat18).1) ?_
    show Steps p.tables e below (T313.setTop (mkF m 593 #[.val (.int xw), .val (.int xo), .val (.int xf), .val (.long xx), .second, .val (.int fw), .val (.int fo), .val (.int w123), .val (.ref b131), .val (.long (xx &&& (9223372036854775807 : Int64))), .second, .val (.long w195), .second, .val (.long val), .second, .val (.ref b215), .val (.ref b242), .val (.long w268), .second] [])) t
    refine XS.aload X313.here hx rfl (hb hby at_593) rfl rfl ?_
    show Steps p.tables e below (T313.setTop (mkF m 595 #[.val (.int xw), .val (.int xo), .val (.int xf), .val (.long xx), .second, .val (.int fw), .val (.int fo), .val (.int w123), .val (.ref b131), .val (.long (xx &&& (9223372036854775807 : Int64))), .second, .val (.long w195), .second, .val (.long val), .second, .val (.ref b215), .val (.ref b242), .val (.long w268), .second] [(.ref b242)])) t
    refine XS.bipush X313.here hx rfl (hb hby at_595) ?_
    show Steps p.tables e below (T313.setTop (mkF m 597 #[.val (.int xw), .val (.int xo), .val (.int xf), .val (.long xx), .second, .val (.int fw), .val (.int fo), .val (.int w123), .val (.ref b131), .val (.long (xx &&& (9223372036854775807 : Int64))), .second, .val (.long w195), .second, .val (.long val), .second, .val (.ref b215), .val (.ref b242), .val (.long w268), .second] [(.int (19 : Int32)), (.ref b242)])) t
    refine XS.iload X313.here hx rfl (hb hby at_597) rfl ?_
    show Steps p.tables e below (T313.setTop (mkF m 599 #[.val (.int xw), .val (.int xo), .val (.int xf), .val (.long xx), .second, .val (.int fw), .val (.int fo), .val (.int w123), .val (.ref b131), .val (.long (xx &&& (9223372036854775807 : Int64))), .second, .val (.long w195), .second, .val (.long val), .second, .val (.ref b215), .val (.ref b242), .val (.long w268), .second] [(.int fo), (.int (19 : Int32)), (.ref b242)])) t
    refine XS.iload X313.here hx rfl (hb hby at_599) rfl ?_
    show Steps p.tables e below (T313.setTop (mkF m 601 #[.val (.int xw), .val (.int xo), .val (.int xf), .val (.long xx), .second, .val (.int fw), .val (.int fo), .val (.int w123), .val (.ref b131), .val (.long (xx &&& (9223372036854775807 : Int64))), .second, .val (.long w195), .second, .val (.long val), .second, .val (.ref b215), .val (.ref b242), .val (.long w268), .second] [(.int fw), (.int fo), (.int (19 : Int32)), (.ref b242)])) t
    refine XS.lload X313.here hx rfl (hb hby at_601) rfl ?_
    show Steps p.tables e below (T313.setTop (mkF m 603 #[.val (.int xw), .val (.int xo), .val (.int xf), .val (.long xx), .second, .val (.int fw), .val (.int fo), .val (.int w123), .val (.ref b131), .val (.long (xx &&& (9223372036854775807 : Int64))), .second, .val (.long w195), .second, .val (.long val), .second, .val (.ref b215), .val (.ref b242), .val (.long w268), .second] [(.long w268), (.int fw), (.int fo), (.int (19 : Int32)), (.ref b242)])) t
    refine XS.aload X313.here hx rfl (hb hby at_603) rfl rfl ?_
    exact kt
  obtain ⟨_, _, ⟨T315, L315, k315, n315⟩, -, X315, ⟨Lc315, hQ315, l315, y315, z315⟩, st315⟩ := Jvm.LawKit.callS X313 hx (y := (⟨"com/example/rowkey_modeler/rowkeymodeler/DecimalFieldWriteHeldPinLaw", "at", "([BIIIJ[J)Z"⟩ : MethodName)) hown223 (mvT hZ223 (hw _ (List.mem_of_getElem? (i := 76) rfl))) (mvT hZ223 (hw _ (List.mem_of_getElem? (i := 77) rfl))) (mvT hZ223 (hw _ (List.mem_of_getElem? (i := 78) rfl))) (mvT hZ223 (hw _ (List.mem_of_getElem? (i := 79) rfl))) (by decide) (backOf (W := 0) (rm17 l Z a0 hw [] b242 (19 : Int32) fo fw w268 b131 _ (own_g fo.toInt.toNat fw.toInt.toNat w268 19) T257.heap n0 Zs257 Vg fV259 (by decide) (by decide) rfl hw1 hw19 ho0 ho3) hZ223 (hw _ (List.mem_of_getElem? (i := 79) rfl)) (hw _ (List.mem_of_getElem? (i := 78) rfl)) (by decide) (by decide)) (g := (mkF m 605 #[.val (.int xw), .val (.int xo), .val (.int xf), .val (.long xx), .second, .val (.int fw), .val (.int fo), .val (.int w123), .val (.ref b131), .val (.long (xx &&& (9223372036854775807 : Int64))), .second, .val (.long w195), .second, .val (.long val), .second, .val (.ref b215), .val (.ref b242), .val (.long w268), .second] [(.ref b131), (.long w268), (.int fw), (.int fo), (.int (19 : Int32)), (.ref b242)])) rfl (by rw [hml]; rfl) (argsL := [(.ref b242), (.int (19 : Int32)), (.int fo), (.int fw), (.long w268), (.ref b131)]) (rest := []) (lenOf pd_oaBIIIJaJcZ rfl) rfl (by show 2 * 0 + _ ≤ _; exact Nat.le_of_eq rfl) (hb hby at_605) (fun _ _ => ⟨rfl, e313q, (by decide : 5 + 0 ≤ _), (by decide : 54 + 0 ≤ _)⟩)
  dsimp only [Pt.U, Pt.locs, Pt.cells, Pt.slots] at X315 l315 y315 z315 st315 hQ315
  rw [l315, y315, z315] at X315
  obtain ⟨hv315, N315q, e315q⟩ := hQ315
  rw [hv315] at st315
  have N315 := Fr.app N313 N315q
  have hat19 : ¬ ((fat (19 : Int32) fo fw w268 (own_g fo.toInt.toNat fw.toInt.toNat w268 19)) = (0 : Int32)) := own_at 19 _ _ _ _ (by decide) (by decide) hw1 hw19 ho0 ho3
  have s316 : ∀ t, Steps p.tables e below (T315.setTop (mkF m 623 #[.val (.int xw), .val (.int xo), .val (.int xf), .val (.long xx), .second, .val (.int fw), .val (.int fo), .val (.int w123), .val (.ref b131), .val (.long (xx &&& (9223372036854775807 : Int64))), .second, .val (.long w195), .second, .val (.long val), .second, .val (.ref b215), .val (.ref b242), .val (.long w268), .second] [(.ref b131), (.long w268), (.int fw), (.int fo), (.int (20 : Int32)), (.ref b242)])) t → Steps p.tables e below (T315.setTop (mkF m 608 #[.val (.int xw), .val (.int xo), .val (.int xf), .val (.long xx), .second, .val (.int fw), .val (.int fo), .val (.int w123), .val (.ref b131), .val (.long (xx &&& (9223372036854775807 : Int64))), .second, .val (.long w195), .second, .val (.long val), .second, .val (.ref b215), .val (.ref b242), .val (.long w268), .second] [(.int (fat (19 : Int32) fo fw w268 (own_g fo.toInt.toNat fw.toInt.toNat w268 19)))])) t := by
    intro t kt
    refine XS.ifNo X315.here hx rfl (hb hby at_608) rfl ((if0 _ _).trans (feq hat19).1) ?_
    show Steps p.tables e below (T315.setTop (mkF m 611 #[.val (.int xw), .val (.int xo), .val (.int xf), .val (.long xx), .second, .val (.int fw), .val (.int fo), .val (.int w123), .val (.ref b131), .val (.long (xx &&& (9223372036854775807 : Int64))), .second, .val (.long w195), .second, .val (.long val), .second, .val (.ref b215), .val (.ref b242), .val (.long w268), .second] [])) t
    refine XS.aload X315.here hx rfl (hb hby at_611) rfl rfl ?_
    show Steps p.tables e below (T315.setTop (mkF m 613 #[.val (.int xw), .val (.int xo), .val (.int xf), .val (.long xx), .second, .val (.int fw), .val (.int fo), .val (.int w123), .val (.ref b131), .val (.long (xx &&& (9223372036854775807 : Int64))), .second, .val (.long w195), .second, .val (.long val), .second, .val (.ref b215), .val (.ref b242), .val (.long w268), .second] [(.ref b242)])) t
    refine XS.bipush X315.here hx rfl (hb hby at_613) ?_
    show Steps p.tables e below (T315.setTop (mkF m 615 #[.val (.int xw), .val (.int xo), .val (.int xf), .val (.long xx), .second, .val (.int fw), .val (.int fo), .val (.int w123), .val (.ref b131), .val (.long (xx &&& (9223372036854775807 : Int64))), .second, .val (.long w195), .second, .val (.long val), .second, .val (.ref b215), .val (.ref b242), .val (.long w268), .second] [(.int (20 : Int32)), (.ref b242)])) t
    refine XS.iload X315.here hx rfl (hb hby at_615) rfl ?_
    show Steps p.tables e below (T315.setTop (mkF m 617 #[.val (.int xw), .val (.int xo), .val (.int xf), .val (.long xx), .second, .val (.int fw), .val (.int fo), .val (.int w123), .val (.ref b131), .val (.long (xx &&& (9223372036854775807 : Int64))), .second, .val (.long w195), .second, .val (.long val), .second, .val (.ref b215), .val (.ref b242), .val (.long w268), .second] [(.int fo), (.int (20 : Int32)), (.ref b242)])) t
    refine XS.iload X315.here hx rfl (hb hby at_617) rfl ?_
    show Steps p.tables e below (T315.setTop (mkF m 619 #[.val (.int xw), .val (.int xo), .val (.int xf), .val (.long xx), .second, .val (.int fw), .val (.int fo), .val (.int w123), .val (.ref b131), .val (.long (xx &&& (9223372036854775807 : Int64))), .second, .val (.long w195), .second, .val (.long val), .second, .val (.ref b215), .val (.ref b242), .val (.long w268), .second] [(.int fw), (.int fo), (.int (20 : Int32)), (.ref b242)])) t
    refine XS.lload X315.here hx rfl (hb hby at_619) rfl ?_
    show Steps p.tables e below (T315.setTop (mkF m 621 #[.val (.int xw), .val (.int xo), .val (.int xf), .val (.long xx), .second, .val (.int fw), .val (.int fo), .val (.int w123), .val (.ref b131), .val (.long (xx &&& (9223372036854775807 : Int64))), .second, .val (.long w195), .second, .val (.long val), .second, .val (.ref b215), .val (.ref b242), .val (.long w268), .second] [(.long w268), (.int fw), (.int fo), (.int (20 : Int32)), (.ref b242)])) t
    refine XS.aload X315.here hx rfl (hb hby at_621) rfl rfl ?_
    exact kt
  obtain ⟨_, _, ⟨T317, L317, k317, n317⟩, -, X317, ⟨Lc317, hQ317, l317, y317, z317⟩, st317⟩ := Jvm.LawKit.callS X315 hx (y := (⟨"com/example/rowkey_modeler/rowkeymodeler/DecimalFieldWriteHeldPinLaw", "at", "([BIIIJ[J)Z"⟩ : MethodName)) hown223 (mvT hZ223 (hw _ (List.mem_of_getElem? (i := 76) rfl))) (mvT hZ223 (hw _ (List.mem_of_getElem? (i := 77) rfl))) (mvT hZ223 (hw _ (List.mem_of_getElem? (i := 78) rfl))) (mvT hZ223 (hw _ (List.mem_of_getElem? (i := 79) rfl))) (by decide) (backOf (W := 0) (rm17 l Z a0 hw [] b242 (20 : Int32) fo fw w268 b131 _ (own_g fo.toInt.toNat fw.toInt.toNat w268 20) T257.heap n0 Zs257 Vg fV259 (by decide) (by decide) rfl hw1 hw19 ho0 ho3) hZ223 (hw _ (List.mem_of_getElem? (i := 79) rfl)) (hw _ (List.mem_of_getElem? (i := 78) rfl)) (by decide) (by decide)) (g := (mkF m 623 #[.val (.int xw), .val (.int xo), .val (.int xf), .val (.long xx), .second, .val (.int fw), .val (.int fo), .val (.int w123), .val (.ref b131), .val (.long (xx &&& (9223372036854775807 : Int64))), .second, .val (.long w195), .second, .val (.long val), .second, .val (.ref b215), .val (.ref b242), .val (.long w268), .second] [(.ref b131), (.long w268), (.int fw), (.int fo), (.int (20 : Int32)), (.ref b242)])) rfl (by rw [hml]; rfl) (argsL := [(.ref b242), (.int (20 : Int32)), (.int fo), (.int fw), (.long w268), (.ref b131)]) (rest := []) (lenOf pd_oaBIIIJaJcZ rfl) rfl (by show 2 * 0 + _ ≤ _; exact Nat.le_of_eq rfl) (hb hby at_623) (fun _ _ => ⟨rfl, e315q, (by decide : 5 + 0 ≤ _), (by decide : 54 + 0 ≤ _)⟩)
  dsimp only [Pt.U, Pt.locs, Pt.cells, Pt.slots] at X317 l317 y317 z317 st317 hQ317
  rw [l317, y317, z317] at X317
  obtain ⟨hv317, N317q, e317q⟩ := hQ317
  rw [hv317] at st317
  have N317 := Fr.app N315 N317q
  have hat20 : ¬ ((fat (20 : Int32) fo fw w268 (own_g fo.toInt.toNat fw.toInt.toNat w268 20)) = (0 : Int32)) := own_at 20 _ _ _ _ (by decide) (by decide) hw1 hw19 ho0 ho3
  have s318 : ∀ t, Steps p.tables e below (T317.setTop (mkF m 641 #[.val (.int xw), .val (.int xo), .val (.int xf), .val (.long xx), .second, .val (.int fw), .val (.int fo), .val (.int w123), .val (.ref b131), .val (.long (xx &&& (9223372036854775807 : Int64))), .second, .val (.long w195), .second, .val (.long val), .second, .val (.ref b215), .val (.ref b242), .val (.long w268), .second] [(.ref b131), (.long w268), (.int fw), (.int fo), (.int (21 : Int32)), (.ref b242)])) t → Steps p.tables e below (T317.setTop (mkF m 626 #[.val (.int xw), .val (.int xo), .val (.int xf), .val (.long xx), .second, .val (.int fw), .val (.int fo), .val (.int w123), .val (.ref b131), .val (.long (xx &&& (9223372036854775807 : Int64))), .second, .val (.long w195), .second, .val (.long val), .second, .val (.ref b215), .val (.ref b242), .val (.long w268), .second] [(.int (fat (20 : Int32) fo fw w268 (own_g fo.toInt.toNat fw.toInt.toNat w268 20)))])) t := by
    intro t kt
    refine XS.ifNo X317.here hx rfl (hb hby at_626) rfl ((if0 _ _).trans (feq hat20).1) ?_
    show Steps p.tables e below (T317.setTop (mkF m 629 #[.val (.int xw), .val (.int xo), .val (.int xf), .val (.long xx), .second, .val (.int fw), .val (.int fo), .val (.int w123), .val (.ref b131), .val (.long (xx &&& (9223372036854775807 : Int64))), .second, .val (.long w195), .second, .val (.long val), .second, .val (.ref b215), .val (.ref b242), .val (.long w268), .second] [])) t
    refine XS.aload X317.here hx rfl (hb hby at_629) rfl rfl ?_
    show Steps p.tables e below (T317.setTop (mkF m 631 #[.val (.int xw), .val (.int xo), .val (.int xf), .val (.long xx), .second, .val (.int fw), .val (.int fo), .val (.int w123), .val (.ref b131), .val (.long (xx &&& (9223372036854775807 : Int64))), .second, .val (.long w195), .second, .val (.long val), .second, .val (.ref b215), .val (.ref b242), .val (.long w268), .second] [(.ref b242)])) t
    refine XS.bipush X317.here hx rfl (hb hby at_631) ?_
    show Steps p.tables e below (T317.setTop (mkF m 633 #[.val (.int xw), .val (.int xo), .val (.int xf), .val (.long xx), .second, .val (.int fw), .val (.int fo), .val (.int w123), .val (.ref b131), .val (.long (xx &&& (9223372036854775807 : Int64))), .second, .val (.long w195), .second, .val (.long val), .second, .val (.ref b215), .val (.ref b242), .val (.long w268), .second] [(.int (21 : Int32)), (.ref b242)])) t
    refine XS.iload X317.here hx rfl (hb hby at_633) rfl ?_
    show Steps p.tables e below (T317.setTop (mkF m 635 #[.val (.int xw), .val (.int xo), .val (.int xf), .val (.long xx), .second, .val (.int fw), .val (.int fo), .val (.int w123), .val (.ref b131), .val (.long (xx &&& (9223372036854775807 : Int64))), .second, .val (.long w195), .second, .val (.long val), .second, .val (.ref b215), .val (.ref b242), .val (.long w268), .second] [(.int fo), (.int (21 : Int32)), (.ref b242)])) t
    refine XS.iload X317.here hx rfl (hb hby at_635) rfl ?_
    show Steps p.tables e below (T317.setTop (mkF m 637 #[.val (.int xw), .val (.int xo), .val (.int xf), .val (.long xx), .second, .val (.int fw), .val (.int fo), .val (.int w123), .val (.ref b131), .val (.long (xx &&& (9223372036854775807 : Int64))), .second, .val (.long w195), .second, .val (.long val), .second, .val (.ref b215), .val (.ref b242), .val (.long w268), .second] [(.int fw), (.int fo), (.int (21 : Int32)), (.ref b242)])) t
    refine XS.lload X317.here hx rfl (hb hby at_637) rfl ?_
    show Steps p.tables e below (T317.setTop (mkF m 639 #[.val (.int xw), .val (.int xo), .val (.int xf), .val (.long xx), .second, .val (.int fw), .val (.int fo), .val (.int w123), .val (.ref b131), .val (.long (xx &&& (9223372036854775807 : Int64))), .second, .val (.long w195), .second, .val (.long val), .second, .val (.ref b215), .val (.ref b242), .val (.long w268), .second] [(.long w268), (.int fw), (.int fo), (.int (21 : Int32)), (.ref b242)])) t
    refine XS.aload X317.here hx rfl (hb hby at_639) rfl rfl ?_
    exact kt
  obtain ⟨_, _, ⟨T319, L319, k319, n319⟩, -, X319, ⟨Lc319, hQ319, l319, y319, z319⟩, st319⟩ := Jvm.LawKit.callS X317 hx (y := (⟨"com/example/rowkey_modeler/rowkeymodeler/DecimalFieldWriteHeldPinLaw", "at", "([BIIIJ[J)Z"⟩ : MethodName)) hown223 (mvT hZ223 (hw _ (List.mem_of_getElem? (i := 76) rfl))) (mvT hZ223 (hw _ (List.mem_of_getElem? (i := 77) rfl))) (mvT hZ223 (hw _ (List.mem_of_getElem? (i := 78) rfl))) (mvT hZ223 (hw _ (List.mem_of_getElem? (i := 79) rfl))) (by decide) (backOf (W := 0) (rm17 l Z a0 hw [] b242 (21 : Int32) fo fw w268 b131 _ (own_g fo.toInt.toNat fw.toInt.toNat w268 21) T257.heap n0 Zs257 Vg fV259 (by decide) (by decide) rfl hw1 hw19 ho0 ho3) hZ223 (hw _ (List.mem_of_getElem? (i := 79) rfl)) (hw _ (List.mem_of_getElem? (i := 78) rfl)) (by decide) (by decide)) (g := (mkF m 641 #[.val (.int xw), .val (.int xo), .val (.int xf), .val (.long xx), .second, .val (.int fw), .val (.int fo), .val (.int w123), .val (.ref b131), .val (.long (xx &&& (9223372036854775807 : Int64))), .second, .val (.long w195), .second, .val (.long val), .second, .val (.ref b215), .val (.ref b242), .val (.long w268), .second] [(.ref b131), (.long w268), (.int fw), (.int fo), (.int (21 : Int32)), (.ref b242)])) rfl (by rw [hml]; rfl) (argsL := [(.ref b242), (.int (21 : Int32)), (.int fo), (.int fw), (.long w268), (.ref b131)]) (rest := []) (lenOf pd_oaBIIIJaJcZ rfl) rfl (by show 2 * 0 + _ ≤ _; exact Nat.le_of_eq rfl) (hb hby at_641) (fun _ _ => ⟨rfl, e317q, (by decide : 5 + 0 ≤ _), (by decide : 54 + 0 ≤ _)⟩)
  dsimp only [Pt.U, Pt.locs, Pt.cells, Pt.slots] at X319 l319 y319 z319 st319 hQ319
  rw [l319, y319, z319] at X319
  obtain ⟨hv319, N319q, e319q⟩ := hQ319
  rw [hv319] at st319
  have N319 := Fr.app N317 N319q
  have hat21 : ¬ ((fat (21 : Int32) fo fw w268 (own_g fo.toInt.toNat fw.toInt.toNat w268 21)) = (0 : Int32)) := own_at 21 _ _ _ _ (by decide) (by decide) hw1 hw19 ho0 ho3
  have s320 : ∀ t, Steps p.tables e below (T319.setTop (mkF m 659 #[.val (.int xw), .val (.int xo), .val (.int xf), .val (.long xx), .second, .val (.int fw), .val (.int fo), .val (.int w123), .val (.ref b131), .val (.long (xx &&& (9223372036854775807 : Int64))), .second, .val (.long w195), .second, .val (.long val), .second, .val (.ref b215), .val (.ref b242), .val (.long w268), .second] [(.ref b131), (.long w268), (.int fw), (.int fo), (.int (22 : Int32)), (.ref b242)])) t → Steps p.tables e below (T319.setTop (mkF m 644 #[.val (.int xw), .val (.int xo), .val (.int xf), .val (.long xx), .second, .val (.int fw), .val (.int fo), .val (.int w123), .val (.ref b131), .val (.long (xx &&& (9223372036854775807 : Int64))), .second, .val (.long w195), .second, .val (.long val), .second, .val (.ref b215), .val (.ref b242), .val (.long w268), .second] [(.int (fat (21 : Int32) fo fw w268 (own_g fo.toInt.toNat fw.toInt.toNat w268 21)))])) t := by
    intro t kt
    refine XS.ifNo X319.here hx rfl (hb hby at_644) rfl ((if0 _ _).trans (feq hat21).1) ?_
    show Steps p.tables e below (T319.setTop (mkF m 647 #[.val (.int xw), .val (.int xo), .val (.int xf), .val (.long xx), .second, .val (.int fw), .val (.int fo), .val (.int w123), .val (.ref b131), .val (.long (xx &&& (9223372036854775807 : Int64))), .second, .val (.long w195), .second, .val (.long val), .second, .val (.ref b215), .val (.ref b242), .val (.long w268), .second] [])) t
    refine XS.aload X319.here hx rfl (hb hby at_647) rfl rfl ?_
    show Steps p.tables e below (T319.setTop (mkF m 649 #[.val (.int xw), .val (.int xo), .val (.int xf), .val (.long xx), .second, .val (.int fw), .val (.int fo), .val (.int w123), .val (.ref b131), .val (.long (xx &&& (9223372036854775807 : Int64))), .second, .val (.long w195), .second, .val (.long val), .second, .val (.ref b215), .val (.ref b242), .val (.long w268), .second] [(.ref b242)])) t
    refine XS.bipush X319.here hx rfl (hb hby at_649) ?_
    show Steps p.tables e below (T319.setTop (mkF m 651 #[.val (.int xw), .val (.int xo), .val (.int xf), .val (.long xx), .second, .val (.int fw), .val (.int fo), .val (.int w123), .val (.ref b131), .val (.long (xx &&& (9223372036854775807 : Int64))), .second, .val (.long w195), .second, .val (.long val), .second, .val (.ref b215), .val (.ref b242), .val (.long w268), .second] [(.int (22 : Int32)), (.ref b242)])) t
    refine XS.iload X319.here hx rfl (hb hby at_651) rfl ?_
    show Steps p.tables e below (T319.setTop (mkF m 653 #[.val (.int xw), .val (.int xo), .val (.int xf), .val (.long xx), .second, .val (.int fw), .val (.int fo), .val (.int w123), .val (.ref b131), .val (.long (xx &&& (9223372036854775807 : Int64))), .second, .val (.long w195), .second, .val (.long val), .second, .val (.ref b215), .val (.ref b242), .val (.long w268), .second] [(.int fo), (.int (22 : Int32)), (.ref b242)])) t
    refine XS.iload X319.here hx rfl (hb hby at_653) rfl ?_
    show Steps p.tables e below (T319.setTop (mkF m 655 #[.val (.int xw), .val (.int xo), .val (.int xf), .val (.long xx), .second, .val (.int fw), .val (.int fo), .val (.int w123), .val (.ref b131), .val (.long (xx &&& (9223372036854775807 : Int64))), .second, .val (.long w195), .second, .val (.long val), .second, .val (.ref b215), .val (.ref b242), .val (.long w268), .second] [(.int fw), (.int fo), (.int (22 : Int32)), (.ref b242)])) t
    refine XS.lload X319.here hx rfl (hb hby at_655) rfl ?_
    show Steps p.tables e below (T319.setTop (mkF m 657 #[.val (.int xw), .val (.int xo), .val (.int xf), .val (.long xx), .second, .val (.int fw), .val (.int fo), .val (.int w123), .val (.ref b131), .val (.long (xx &&& (9223372036854775807 : Int64))), .second, .val (.long w195), .second, .val (.long val), .second, .val (.ref b215), .val (.ref b242), .val (.long w268), .second] [(.long w268), (.int fw), (.int fo), (.int (22 : Int32)), (.ref b242)])) t
    refine XS.aload X319.here hx rfl (hb hby at_657) rfl rfl ?_
    exact kt
  obtain ⟨_, _, ⟨T321, L321, k321, n321⟩, -, X321, ⟨Lc321, hQ321, l321, y321, z321⟩, st321⟩ := Jvm.LawKit.callS X319 hx (y := (⟨"com/example/rowkey_modeler/rowkeymodeler/DecimalFieldWriteHeldPinLaw", "at", "([BIIIJ[J)Z"⟩ : MethodName)) hown223 (mvT hZ223 (hw _ (List.mem_of_getElem? (i := 76) rfl))) (mvT hZ223 (hw _ (List.mem_of_getElem? (i := 77) rfl))) (mvT hZ223 (hw _ (List.mem_of_getElem? (i := 78) rfl))) (mvT hZ223 (hw _ (List.mem_of_getElem? (i := 79) rfl))) (by decide) (backOf (W := 0) (rm17 l Z a0 hw [] b242 (22 : Int32) fo fw w268 b131 _ (own_g fo.toInt.toNat fw.toInt.toNat w268 22) T257.heap n0 Zs257 Vg fV259 (by decide) (by decide) rfl hw1 hw19 ho0 ho3) hZ223 (hw _ (List.mem_of_getElem? (i := 79) rfl)) (hw _ (List.mem_of_getElem? (i := 78) rfl)) (by decide) (by decide)) (g := (mkF m 659 #[.val (.int xw), .val (.int xo), .val (.int xf), .val (.long xx), .second, .val (.int fw), .val (.int fo), .val (.int w123), .val (.ref b131), .val (.long (xx &&& (9223372036854775807 : Int64))), .second, .val (.long w195), .second, .val (.long val), .second, .val (.ref b215), .val (.ref b242), .val (.long w268), .second] [(.ref b131), (.long w268), (.int fw), (.int fo), (.int (22 : Int32)), (.ref b242)])) rfl (by rw [hml]; rfl) (argsL := [(.ref b242), (.int (22 : Int32)), (.int fo), (.int fw), (.long w268), (.ref b131)]) (rest := []) (lenOf pd_oaBIIIJaJcZ rfl) rfl (by show 2 * 0 + _ ≤ _; exact Nat.le_of_eq rfl) (hb hby at_659) (fun _ _ => ⟨rfl, e319q, (by decide : 5 + 0 ≤ _), (by decide : 54 + 0 ≤ _)⟩)
  dsimp only [Pt.U, Pt.locs, Pt.cells, Pt.slots] at X321 l321 y321 z321 st321 hQ321
  rw [l321, y321, z321] at X321
  obtain ⟨hv321, N321q, e321q⟩ := hQ321
  rw [hv321] at st321
  have N321 := Fr.app N319 N321q
  have hat22 : ¬ ((fat (22 : Int32) fo fw w268 (own_g fo.toInt.toNat fw.toInt.toNat w268 22)) = (0 : Int32)) := own_at 22 _ _ _ _ (by decide) (by decide) hw1 hw19 ho0 ho3
  have s322 : ∀ t, Steps p.tables e below (T321.setTop (mkF m 670 #[.val (.int xw), .val (.int xo), .val (.int xf), .val (.long xx), .second, .val (.int fw), .val (.int fo), .val (.int w123), .val (.ref b131), .val (.long (xx &&& (9223372036854775807 : Int64))), .second, .val (.long w195), .second, .val (.long val), .second, .val (.ref b215), .val (.ref b242), .val (.long w268), .second] [(.int (1 : Int32))])) t → Steps p.tables e below (T321.setTop (mkF m 662 #[.val (.int xw), .val (.int xo), .val (.int xf), .val (.long xx), .second, .val (.int fw), .val (.int fo), .val (.int w123), .val (.ref b131), .val (.long (xx &&& (9223372036854775807 : Int64))), .second, .val (.long w195), .second, .val (.long val), .second, .val (.ref b215), .val (.ref b242), .val (.long w268), .second] [(.int (fat (22 : Int32) fo fw w268 (own_g fo.toInt.toNat fw.toInt.toNat w268 22)))])) t := by
    intro t kt
    refine XS.ifNo X321.here hx rfl (hb hby at_662) rfl ((if0 _ _).trans (feq hat22).1) ?_
    show Steps p.tables e below (T321.setTop (mkF m 665 #[.val (.int xw), .val (.int xo), .val (.int xf), .val (.long xx), .second, .val (.int fw), .val (.int fo), .val (.int w123), .val (.ref b131), .val (.long (xx &&& (9223372036854775807 : Int64))), .second, .val (.long w195), .second, .val (.long val), .second, .val (.ref b215), .val (.ref b242), .val (.long w268), .second] [])) t
    refine XS.iconst X321.here hx rfl (hb hby at_665) ?_
    show Steps p.tables e below (T321.setTop (mkF m 666 #[.val (.int xw), .val (.int xo), .val (.int xf), .val (.long xx), .second, .val (.int fw), .val (.int fo), .val (.int w123), .val (.ref b131), .val (.long (xx &&& (9223372036854775807 : Int64))), .second, .val (.long w195), .second, .val (.long val), .second, .val (.ref b215), .val (.ref b242), .val (.long w268), .second] [(.int (1 : Int32))])) t
    refine XS.goto X321.here hx rfl (pc0 := 666) (pc' := 670) rfl (hb hby at_666) (by decide) (by decide) ?_
    exact kt
  obtain ⟨fs_, hr, hrun, hended, hRW⟩ := X321.leaveW hS223 (by rw [e321q]; exact Nat.le_trans hk223 K257.1) (hlocks := BodyLoose.notSynchronized Bd) (v := some (.int (1 : Int32))) (fun h => by rw [Bd.returns] at h; cases h)
  refine ⟨_, _, pre0 _ (s117 _ (s118 _ (s119 _ (j129 _ (s130 _ (st131 _ (s133 _ (st134 _ (s136 _ (st137 _ (s139 _ (st140 _ (s142 _ (st143 _ (s145 _ (st146 _ (s148 _ (st149 _ (s151 _ (st152 _ (s154 _ (st155 _ (s157 _ (st158 _ (s160 _ (st161 _ (s163 _ (st164 _ (s166 _ (st167 _ (s169 _ (st170 _ (s172 _ (st173 _ (s175 _ (st176 _ (s178 _ (st179 _ (s181 _ (st182 _ (s184 _ (st185 _ (s187 _ (st188 _ (s190 _ (j201 _ (s202 _ (j212 _ (s213 _ (s214 _ (st215 _ (s222 _ (st223 _ (s231 _ (st232.trans (s241 _ (st242 _ (s256 _ (st257.trans (s264 _ (j274 _ (s275 _ (s276 _ (st277 _ (s278 _ (st279 _ (s280 _ (st281 _ (s282 _ (st283 _ (s284 _ (st285 _ (s286 _ (st287 _ (s288 _ (st289 _ (s290 _ (st291 _ (s292 _ (st293 _ (s294 _ (st295 _ (s296 _ (st297 _ (s298 _ (st299 _ (s300 _ (st301 _ (s302 _ (st303 _ (s304 _ (st305 _ (s306 _ (st307 _ (s308 _ (st309 _ (s310 _ (st311 _ (s312 _ (st313 _ (s314 _ (st315 _ (s316 _ (st317 _ (s318 _ (st319 _ (s320 _ (st321 _ (s322 _ (?_)))))))))))))))))))))))))))))))))))))))))))))))))))))))))))))))))))))))))))))))))))))))))))))))))))))))))))))), hrun, hended, _, _, rfl, ?_, ⟨hRW.1, hRW.2.1, hRW.2.2.1, hRW.2.2.2.mono (by decide) (by decide)⟩⟩
  · show Steps p.tables e below (T321.setTop (mkF m 670 #[.val (.int xw), .val (.int xo), .val (.int xf), .val (.long xx), .second, .val (.int fw), .val (.int fo), .val (.int w123), .val (.ref b131), .val (.long (xx &&& (9223372036854775807 : Int64))), .second, .val (.long w195), .second, .val (.long val), .second, .val (.ref b215), .val (.ref b242), .val (.long w268), .second] [(.int (1 : Int32))])) _
    exact retN X321 hx (t := .boolean) Bd.returns (by simp) (hb hby at_670) hr
  · show Q0 Z xw xo xf xx h0 n0 _ T321.heap _
    rw [e321q]
    exact ⟨rfl, N321⟩
set_option maxRecDepth 65536 in
set_option maxHeartbeats 40000000 in
theorem comes_1 {Post : Tables → Env → Array Value → State → Outcome → State → Prop} (hpost : ∀ tb e args s v u, (limb_1_1.after args s (.returned v) u = true ∧ limb_1_2.after args s (.returned v) u = true ∧ True) → ReturnedEndW s (.returned v) u (Jvm.fieldLocs frame_1_writes args s ++ Jvm.arrayLocs frame_1_arrays args s ++ Jvm.staticLocs frame_1_statics s) 16 1216 → Post tb e args s (.returned v) u) :
    ArmFor flags0 classFile x code maxLocals ret World_1 tables_1 room_1 Calls_1 rest_1 Pre_1 Post := by
  intro l hfl _ _ p e ha hc hk s m args below hf hA hF happ hP
  obtain ⟨hcalls, hrest, hpre⟩ := hP
  obtain ⟨-, -, -, hnamed, -, -, -, hat⟩ := (Spec.applies_iff hf).mp happ
  obtain ⟨hg, hn⟩ := and_e (Cond.before_iff.mp (show (Jvm.Cond.and given_1 narrow_1).before args s = true from hpre))
  obtain ⟨ha0, hb0⟩ := and_e hg
  obtain ⟨ha1, hb1⟩ := and_e hb0
  obtain ⟨ha2, hb2⟩ := and_e hb1
  obtain ⟨ha3, hb3⟩ := and_e hb2
  obtain ⟨w0, w1, w2, w3, rfl⟩ : ∃ w0 w1 w2 w3 : Value, args = #[w0, w1, w2, w3] := by
    have hs : args.size = 4 := by simpa [Cond.value, given_1] using ha0
    obtain ⟨L⟩ := args
    match L, hs with
    | [w0, w1, w2, w3], _ => exact ⟨w0, w1, w2, w3, rfl⟩
  have hw := fun d (hd : d ∈ tables_1) => atoms_spec (ws := Jvm.Cond.code x code maxLocals ret :: tables_1) hat d (List.mem_cons_of_mem _ hd)
  obtain ⟨i0, ei0⟩ := is_v ha1
  obtain rfl : w0 = (.int i0) := Option.some.inj ei0
  obtain ⟨i1, ei1⟩ := is_v ha2
  obtain rfl : w1 = (.int i1) := Option.some.inj ei1
  obtain ⟨i2, ei2⟩ := is_v ha3
  obtain rfl : w2 = (.int i2) := Option.some.inj ei2
  obtain ⟨i3, ei3⟩ := isL_v hb3
  obtain rfl : w3 = (.long i3) := Option.some.inj ei3
  obtain ⟨hsets, hown0⟩ := atoms_of _ (rest_1_c_eq ▸ (show rest_1_c.before _ s = true from hrest))
  have hcw := hsets _ (List.mem_of_getElem? (i := 2) rfl)
  obtain ⟨n, o, h1, h2, h3, _, L, rfl, ⟨rfl, N⟩, hq⟩ := rm0 l s _ hw tables_1 i0 i1 i2 i3 s.heap s.heap.size (Nat.le_refl _) hcw (hcalls.1 _ (List.mem_cons_self ..)) rfl p e ha hc hk s m _ below hf ((Spec.applies_iff_loose hf).mp happ).1 ⟨rfl, State.Warmed39.refl s, rfl, rfl⟩ trivial
  refine ⟨n, _, h1, h2, h3, hpost _ _ _ _ _ _ ⟨Cond.after_iff.mpr rfl, Cond.after_iff.mpr (eq_i res_at (Term.int_eval (1)) rfl), trivial⟩ ⟨hq.1, hq.2.1, hq.2.2.1, (hq.2.2.2.sift fun y hy => Or.inr (N y hy)).mono (by decide) (by decide)⟩⟩
theorem main_1_1 : Claimed_1_1 := comes_1 fun _ _ _ _ _ _ h hF => ⟨h.1, hF⟩
theorem main_1_2 : Claimed_1_2 := comes_1 fun _ _ _ _ _ _ h hF => ⟨h.2.1, hF⟩
end Jvm.Pilot.@@N@@
namespace Jvm.Pilot.@@N@@
open Jvm Jvm.ClassFile Sem Op Lib Jvm.Free Jvm.Stand Jvm.Pilot.@@N@@.Jvm.D
/-! MADE BY PROGRAM (witnessworld.py) out of the Statement's table words and the real class files: 22 classes; the members and pool entries that the words name. The judged class is class 1, her method 1. -/
namespace start1
open Jvm.ClassFile
def u (s : String) : CpInfo := .utf8 (stringToUtf16 s)
/-- a pool by its gaps: so many unusable entries, then the entry; so many at the end -/
def gap : Nat → List CpInfo → List CpInfo
  | 0, r => r
  | n + 1, r => .unusable :: gap n r
def poolList (es : List (Nat × CpInfo)) (last : Nat) : List CpInfo := es.foldr (fun e r => gap e.1 (e.2 :: r)) (gap last [])
def pool (es : List (Nat × CpInfo)) (last : Nat) : Array CpInfo := ⟨poolList es last⟩
def fileOf (pool : Array CpInfo) (this : Nat) (attrs : Array Attribute := #[]) (ms : Array MethodInfo := #[]) (fl : Nat := 33) (sup : Nat := 0) (ifs : Array Nat := #[]) (fds : Array FieldInfo := #[]) : ClassFile where
  minorVersion := 0
  majorVersion := 65
  constantPool := pool
  accessFlags := fl
  thisClass := this
  superClass := sup
  interfaces := ifs
  fields := fds
  methods := ms
  attributes := attrs
def plain (name : String) (sup : Option ClassId) : Class where
  name := name
  kind := .ordinary
  loader := none
  accessFlags := 33
  super := sup
  interfaces := #[]
  cf := none
  fields := #[]
  methods := #[]
  instanceTypes := #[]
  staticTypes := #[]
  resolved := #[]
  callSites := []
  init := .initialized
  statics := none
  mirror := none

def pool0 : Array CpInfo := pool [(5, u "<init>"), (0, u "()V"), (1, .class_ 10), (1, u "java/lang/Object")] 113

def k0c0 : Code := { maxStack := 0, maxLocals := 1, code := object_method_1_code, exceptionTable := #[], attributes := #[] }
def k0m0 : Method := { name := "<init>", desc := "()V", sig := { parameters := [], returnType := none }, accessFlags := 1, code := some k0c0 }
/-- java/lang/Object -/
def k0 : Class := { plain "java/lang/Object" none with
  accessFlags := 33
  interfaces := #[]
  cf := some (fileOf pool0 8 #[] #[{ accessFlags := 1, nameIndex := 5, descriptorIndex := 6, attributes := #[] }] 33 0 #[] #[])
  fields := #[]
  methods := #[k0m0]
  instanceTypes := #[]
  staticTypes := #[]
  resolved := Array.replicate 124 none
  statics := none }

def pool1 : Array CpInfo := pool [(2, .class_ 4), (1, u "java/lang/Object"), (0, u "<init>"), (0, u "()V"), (0, .integer 2147483647), (0, .long 10), (1, .long 100), (1, .long 1000), (1, .long 10000), (1, .long 100000), (1, .long 1000000), (1, .long 10000000), (1, .long 100000000), (1, .long 1000000000), (1, .long 10000000000), (1, .long 100000000000), (1, .long 1000000000000), (1, .long 10000000000000), (1, .long 100000000000000), (1, .long 1000000000000000), (1, .long 10000000000000000), (1, .long 100000000000000000), (1, .long 1000000000000000000), (3, .long 9223372036854775807), (1, .class_ 49), (0, u "com/example/rowkey_modeler/rowkeymodeler/DecimalField"), (0, .string 51), (0, u "f"), (0, .methodref 48 53), (0, .nameAndType 5 54), (0, u "(Ljava/lang/String;IZ)V"), (0, .methodref 48 56), (0, .nameAndType 57 58), (0, u "writeHeld"), (0, u "(J[BI)V"), (0, .methodref 60 61), (0, .class_ 62), (0, .nameAndType 63 64), (0, u "com/example/rowkey_modeler/rowkeymodeler/DecimalFieldWriteHeldPinLaw"), (0, u "at"), (0, u "([BIIIJ[J)Z"), (0, .long 48), (3, u "law"), (0, u "(IIIJ)Z")] 7

def k1m0 : Method := { name := "<init>", desc := "()V", sig := { parameters := [], returnType := none }, accessFlags := 1, code := none }
def k1c1 : Code := { maxStack := 7, maxLocals := 19, code := code, exceptionTable := #[], attributes := #[] }
def k1m1 : Method := { name := "law", desc := "(IIIJ)Z", sig := { parameters := [.int, .int, .int, .long], returnType := some .boolean }, accessFlags := 9, code := some k1c1 }
def k1c2 : Code := { maxStack := 5, maxLocals := 9, code := method_3_code, exceptionTable := #[], attributes := #[] }
def k1m2 : Method := { name := "at", desc := "([BIIIJ[J)Z", sig := { parameters := [(.array .byte), .int, .int, .int, .long, (.array .long)], returnType := some .boolean }, accessFlags := 10, code := some k1c2 }
/-- com/example/rowkey_modeler/rowkeymodeler/DecimalFieldWriteHeldPinLaw -/
def k1 : Class := { plain "com/example/rowkey_modeler/rowkeymodeler/DecimalFieldWriteHeldPinLaw" (some 0) with
  accessFlags := 49
  interfaces := #[]
  cf := some (fileOf pool1 60 #[] #[{ accessFlags := 1, nameIndex := 5, descriptorIndex := 6, attributes := #[] }, { accessFlags := 9, nameIndex := 69, descriptorIndex := 70, attributes := #[] }, { accessFlags := 10, nameIndex := 63, descriptorIndex := 64, attributes := #[] }] 49 2 #[] #[])
  fields := #[]
  methods := #[k1m0, k1m1, k1m2]
  instanceTypes := #[]
  staticTypes := #[]
  resolved := Array.replicate 78 none
  statics := none }

def pool2 : Array CpInfo := pool [(1, .class_ 2), (0, u "com/example/rowkey_modeler/rowkeymodeler/KeyLayout$Element"), (0, .class_ 4), (0, u "java/lang/Object"), (3, .class_ 9), (0, u "com/example/rowkey_modeler/rowkeymodeler/KeyLayout")] 7

/-- com/example/rowkey_modeler/rowkeymodeler/KeyLayout$Element -/
def k2 : Class := { plain "com/example/rowkey_modeler/rowkeymodeler/KeyLayout$Element" (some 0) with
  accessFlags := 1537
  interfaces := #[]
  cf := some (fileOf pool2 1 #[.nestHost 8] #[] 1537 3 #[] #[])
  fields := #[]
  methods := #[]
  instanceTypes := #[]
  staticTypes := #[]
  resolved := Array.replicate 17 none
  statics := none }

def pool3 : Array CpInfo := pool [(1, .methodref 2 3), (0, .class_ 4), (0, .nameAndType 5 6), (0, u "java/lang/Object"), (0, u "<init>"), (0, u "()V"), (0, .methodref 8 9), (0, .class_ 10), (0, .nameAndType 11 12), (0, u "java/lang/String"), (0, u "isEmpty"), (0, u "()Z"), (6, u "(Ljava/lang/String;)V"), (0, .fieldref 21 22), (0, .class_ 23), (0, .nameAndType 24 25), (0, u "com/example/rowkey_modeler/rowkeymodeler/KeyField"), (0, u "name"), (0, u "Ljava/lang/String;"), (12, .class_ 39), (0, u "com/example/rowkey_modeler/rowkeymodeler/KeyLayout$Element")] 24

def k3c0 : Code := { maxStack := 3, maxLocals := 2, code := prog_11_method_1_code, exceptionTable := #[], attributes := #[] }
def k3m0 : Method := { name := "<init>", desc := "(Ljava/lang/String;)V", sig := { parameters := [(.object "java/lang/String")], returnType := none }, accessFlags := 0, code := some k3c0 }
/-- com/example/rowkey_modeler/rowkeymodeler/KeyField -/
def k3 : Class := { plain "com/example/rowkey_modeler/rowkeymodeler/KeyField" (some 0) with
  accessFlags := 1057
  interfaces := #[2]
  cf := some (fileOf pool3 21 #[] #[{ accessFlags := 0, nameIndex := 5, descriptorIndex := 19, attributes := #[] }] 1057 2 #[38] #[{ accessFlags := 18, nameIndex := 24, descriptorIndex := 25, attributes := #[] }])
  fields := #[{ name := "name", type := (.object "java/lang/String"), accessFlags := 18, slot := 0, constantValue := 0 }]
  methods := #[k3m0]
  instanceTypes := #[(.object "java/lang/String")]
  staticTypes := #[]
  resolved := Array.replicate 64 none
  statics := none }

def pool4 : Array CpInfo := pool [(1, .methodref 2 3), (0, .class_ 4), (0, .nameAndType 5 6), (0, u "com/example/rowkey_modeler/rowkeymodeler/KeyField"), (0, u "<init>"), (0, u "(Ljava/lang/String;)V"), (0, .fieldref 8 9), (0, .class_ 10), (0, .nameAndType 11 12), (0, u "com/example/rowkey_modeler/rowkeymodeler/NumberField"), (0, u "reverse"), (0, u "Z"), (135, u "(Ljava/lang/String;Z)V"), (2, u "()Z")] 34

def k4c0 : Code := { maxStack := 2, maxLocals := 3, code := prog_17_method_1_code, exceptionTable := #[], attributes := #[] }
def k4m0 : Method := { name := "<init>", desc := "(Ljava/lang/String;Z)V", sig := { parameters := [(.object "java/lang/String"), .boolean], returnType := none }, accessFlags := 0, code := some k4c0 }
def k4c1 : Code := { maxStack := 1, maxLocals := 1, code := prog_17_method_2_code, exceptionTable := #[], attributes := #[] }
def k4m1 : Method := { name := "reverse", desc := "()Z", sig := { parameters := [], returnType := some .boolean }, accessFlags := 1, code := some k4c1 }
/-- com/example/rowkey_modeler/rowkeymodeler/NumberField -/
def k4 : Class := { plain "com/example/rowkey_modeler/rowkeymodeler/NumberField" (some 3) with
  accessFlags := 1057
  interfaces := #[]
  cf := some (fileOf pool4 8 #[] #[{ accessFlags := 0, nameIndex := 5, descriptorIndex := 148, attributes := #[] }, { accessFlags := 1, nameIndex := 11, descriptorIndex := 151, attributes := #[] }] 1057 2 #[] #[{ accessFlags := 18, nameIndex := 11, descriptorIndex := 12, attributes := #[] }])
  fields := #[{ name := "reverse", type := .boolean, accessFlags := 18, slot := 1, constantValue := 0 }]
  methods := #[k4m0, k4m1]
  instanceTypes := #[(.object "java/lang/String"), .boolean]
  staticTypes := #[]
  resolved := Array.replicate 186 none
  statics := none }

def pool5 : Array CpInfo := pool [(1, .methodref 2 3), (0, .class_ 4), (0, .nameAndType 5 6), (0, u "com/example/rowkey_modeler/rowkeymodeler/NumberField"), (0, u "<init>"), (0, u "(Ljava/lang/String;Z)V"), (0, .class_ 8), (0, u "com/example/rowkey_modeler/rowkeymodeler/DecimalField"), (9, .fieldref 7 19), (0, .nameAndType 20 21), (0, u "width"), (0, u "I"), (2, .long 9223372036854775807), (1, .long 10), (1, .fieldref 7 29), (0, .nameAndType 30 31), (0, u "largestWritten"), (0, u "J"), (2, .methodref 7 35), (0, .nameAndType 36 37), (0, u "reverse"), (0, u "()Z"), (0, .long 48), (9, u "TYPE_NAME"), (0, u "Ljava/lang/String;"), (1, u "MAX_WIDTH"), (1, u "(Ljava/lang/String;IZ)V"), (11, u "writeHeld"), (0, u "(J[BI)V")] 24

def k5c0 : Code := { maxStack := 4, maxLocals := 7, code := prog_6_method_1_code, exceptionTable := #[], attributes := #[] }
def k5m0 : Method := { name := "<init>", desc := "(Ljava/lang/String;IZ)V", sig := { parameters := [(.object "java/lang/String"), .int, .boolean], returnType := none }, accessFlags := 1, code := some k5c0 }
def k5c1 : Code := { maxStack := 8, maxLocals := 8, code := prog_6_method_6_code, exceptionTable := #[], attributes := #[] }
def k5m1 : Method := { name := "writeHeld", desc := "(J[BI)V", sig := { parameters := [.long, (.array .byte), .int], returnType := none }, accessFlags := 0, code := some k5c1 }
/-- com/example/rowkey_modeler/rowkeymodeler/DecimalField -/
def k5 : Class := { plain "com/example/rowkey_modeler/rowkeymodeler/DecimalField" (some 4) with
  accessFlags := 49
  interfaces := #[]
  cf := some (fileOf pool5 7 #[] #[{ accessFlags := 1, nameIndex := 5, descriptorIndex := 53, attributes := #[] }, { accessFlags := 0, nameIndex := 65, descriptorIndex := 66, attributes := #[] }] 49 2 #[] #[{ accessFlags := 25, nameIndex := 48, descriptorIndex := 49, attributes := #[] }, { accessFlags := 25, nameIndex := 51, descriptorIndex := 21, attributes := #[] }, { accessFlags := 18, nameIndex := 20, descriptorIndex := 21, attributes := #[] }, { accessFlags := 18, nameIndex := 30, descriptorIndex := 31, attributes := #[] }])
  fields := #[{ name := "TYPE_NAME", type := (.object "java/lang/String"), accessFlags := 25, slot := 0, constantValue := 0 }, { name := "MAX_WIDTH", type := .int, accessFlags := 25, slot := 1, constantValue := 0 }, { name := "width", type := .int, accessFlags := 18, slot := 2, constantValue := 0 }, { name := "largestWritten", type := .long, accessFlags := 18, slot := 3, constantValue := 0 }]
  methods := #[k5m0, k5m1]
  instanceTypes := #[(.object "java/lang/String"), .boolean, .int, .long]
  staticTypes := #[(.object "java/lang/String"), .int]
  resolved := Array.replicate 91 none
  statics := none }

def pool6 : Array CpInfo := pool [(1, .class_ 2), (0, u "java/io/Serializable"), (0, .class_ 4), (0, u "java/lang/Object")] 2

/-- java/io/Serializable -/
def k6 : Class := { plain "java/io/Serializable" (some 0) with
  accessFlags := 1537
  interfaces := #[]
  cf := some (fileOf pool6 1 #[] #[] 1537 3 #[] #[])
  fields := #[]
  methods := #[]
  instanceTypes := #[]
  staticTypes := #[]
  resolved := Array.replicate 7 none
  statics := none }

def pool7 : Array CpInfo := pool [(1, .class_ 2), (0, u "java/lang/Comparable"), (0, .class_ 4), (0, u "java/lang/Object")] 7

/-- java/lang/Comparable -/
def k7 : Class := { plain "java/lang/Comparable" (some 0) with
  accessFlags := 1537
  interfaces := #[]
  cf := some (fileOf pool7 1 #[] #[] 1537 3 #[] #[])
  fields := #[]
  methods := #[]
  instanceTypes := #[]
  staticTypes := #[]
  resolved := Array.replicate 12 none
  statics := none }

def pool8 : Array CpInfo := pool [(2, .class_ 4), (1, u "java/lang/CharSequence"), (42, .class_ 48), (0, u "java/lang/CharSequence$1CodePointIterator"), (10, .class_ 60), (0, u "java/lang/CharSequence$1CharIterator"), (5, .class_ 67), (0, u "java/lang/Object")] 63

/-- java/lang/CharSequence -/
def k8 : Class := { plain "java/lang/CharSequence" (some 0) with
  accessFlags := 1537
  interfaces := #[]
  cf := some (fileOf pool8 2 #[.nestMembers #[47, 59]] #[] 1537 66 #[] #[])
  fields := #[]
  methods := #[]
  instanceTypes := #[]
  staticTypes := #[]
  resolved := Array.replicate 131 none
  statics := none }

def pool9 : Array CpInfo := pool [(1, .class_ 2), (0, u "java/lang/constant/Constable"), (0, .class_ 4), (0, u "java/lang/Object")] 6

/-- java/lang/constant/Constable -/
def k9 : Class := { plain "java/lang/constant/Constable" (some 0) with
  accessFlags := 1537
  interfaces := #[]
  cf := some (fileOf pool9 1 #[] #[] 1537 3 #[] #[])
  fields := #[]
  methods := #[]
  instanceTypes := #[]
  staticTypes := #[]
  resolved := Array.replicate 11 none
  statics := none }

def pool10 : Array CpInfo := pool [(1, .class_ 2), (0, u "java/lang/constant/ConstantDesc"), (0, .class_ 4), (0, u "java/lang/Object")] 32

/-- java/lang/constant/ConstantDesc -/
def k10 : Class := { plain "java/lang/constant/ConstantDesc" (some 0) with
  accessFlags := 1537
  interfaces := #[]
  cf := some (fileOf pool10 1 #[] #[] 1537 3 #[] #[])
  fields := #[]
  methods := #[]
  instanceTypes := #[]
  staticTypes := #[]
  resolved := Array.replicate 37 none
  statics := none }

def pool11 : Array CpInfo := pool [(2, .class_ 4), (1, u "java/lang/Object"), (0, u "<init>"), (0, u "()V"), (2, .fieldref 10 11), (0, .class_ 12), (0, .nameAndType 13 14), (0, u "java/lang/String"), (0, u "value"), (0, u "[B"), (2, u "coder"), (0, u "B"), (2, u "hash"), (0, u "I"), (2, u "hashIsZero"), (0, u "Z"), (13, u "COMPACT_STRINGS"), (101, u "()Z"), (432, .class_ 576), (0, u "java/lang/CharSequence"), (22, u "CASE_INSENSITIVE_ORDER"), (0, u "Ljava/util/Comparator;"), (91, u "isEmpty"), (408, u "serialPersistentFields"), (0, u "[Ljava/io/ObjectStreamField;"), (0, .class_ 1104), (0, u "java/lang/String$CaseInsensitiveComparator"), (1, .class_ 1107), (0, u "java/io/Serializable"), (0, .class_ 1109), (0, u "java/lang/Comparable"), (0, .class_ 1111), (0, u "java/lang/constant/Constable"), (0, .class_ 1113), (0, u "java/lang/constant/ConstantDesc"), (2, u "serialVersionUID"), (0, u "J"), (3, u "REPL"), (0, u "C"), (2, u "LATIN1"), (1, u "UTF16")] 323

def k11m0 : Method := { name := "<init>", desc := "()V", sig := { parameters := [], returnType := none }, accessFlags := 1, code := none }
def k11c1 : Code := { maxStack := 1, maxLocals := 1, code := jdk_42_method_55_code, exceptionTable := #[], attributes := #[] }
def k11m1 : Method := { name := "isEmpty", desc := "()Z", sig := { parameters := [], returnType := some .boolean }, accessFlags := 1, code := some k11c1 }
/-- java/lang/String -/
def k11 : Class := { plain "java/lang/String" (some 0) with
  accessFlags := 49
  interfaces := #[6, 7, 8, 9, 10]
  cf := some (fileOf pool11 10 #[.nestMembers #[1103]] #[{ accessFlags := 1, nameIndex := 5, descriptorIndex := 6, attributes := #[] }, { accessFlags := 1, nameIndex := 692, descriptorIndex := 142, attributes := #[] }] 49 2 #[1106, 1108, 575, 1110, 1112] #[{ accessFlags := 18, nameIndex := 13, descriptorIndex := 14, attributes := #[] }, { accessFlags := 18, nameIndex := 17, descriptorIndex := 18, attributes := #[] }, { accessFlags := 2, nameIndex := 21, descriptorIndex := 22, attributes := #[] }, { accessFlags := 2, nameIndex := 25, descriptorIndex := 26, attributes := #[] }, { accessFlags := 26, nameIndex := 1116, descriptorIndex := 1117, attributes := #[] }, { accessFlags := 24, nameIndex := 40, descriptorIndex := 26, attributes := #[] }, { accessFlags := 26, nameIndex := 1101, descriptorIndex := 1102, attributes := #[] }, { accessFlags := 26, nameIndex := 1121, descriptorIndex := 1122, attributes := #[] }, { accessFlags := 25, nameIndex := 599, descriptorIndex := 600, attributes := #[] }, { accessFlags := 24, nameIndex := 1125, descriptorIndex := 18, attributes := #[] }, { accessFlags := 24, nameIndex := 1127, descriptorIndex := 18, attributes := #[] }])
  fields := #[{ name := "value", type := (.array .byte), accessFlags := 18, slot := 0, constantValue := 0 }, { name := "coder", type := .byte, accessFlags := 18, slot := 1, constantValue := 0 }, { name := "hash", type := .int, accessFlags := 2, slot := 2, constantValue := 0 }, { name := "hashIsZero", type := .boolean, accessFlags := 2, slot := 3, constantValue := 0 }, { name := "serialVersionUID", type := .long, accessFlags := 26, slot := 0, constantValue := 0 }, { name := "COMPACT_STRINGS", type := .boolean, accessFlags := 24, slot := 1, constantValue := 0 }, { name := "serialPersistentFields", type := (.array (.object "java/io/ObjectStreamField")), accessFlags := 26, slot := 2, constantValue := 0 }, { name := "REPL", type := .char, accessFlags := 26, slot := 3, constantValue := 0 }, { name := "CASE_INSENSITIVE_ORDER", type := (.object "java/util/Comparator"), accessFlags := 25, slot := 4, constantValue := 0 }, { name := "LATIN1", type := .byte, accessFlags := 24, slot := 5, constantValue := 0 }, { name := "UTF16", type := .byte, accessFlags := 24, slot := 6, constantValue := 0 }]
  methods := #[k11m0, k11m1]
  instanceTypes := #[(.array .byte), .byte, .int, .boolean]
  staticTypes := #[.long, .boolean, (.array (.object "java/io/ObjectStreamField")), .char, (.object "java/util/Comparator"), .byte, .byte]
  resolved := Array.replicate 1451 none
  statics := some 0 }

def pool12 : Array CpInfo := pool [(4, .class_ 6), (1, u "java/lang/Object"), (0, u "<init>"), (0, u "()V"), (5, .class_ 16), (1, u "java/lang/StringLatin1"), (104, u "$assertionsDisabled"), (0, u "Z"), (98, .class_ 223), (1, u "java/lang/StringLatin1$LinesSpliterator"), (166, .class_ 391), (0, u "java/lang/StringLatin1$CharsSpliterator")] 3

def k12m0 : Method := { name := "<init>", desc := "()V", sig := { parameters := [], returnType := none }, accessFlags := 0, code := none }
/-- java/lang/StringLatin1 -/
def k12 : Class := { plain "java/lang/StringLatin1" (some 0) with
  accessFlags := 48
  interfaces := #[]
  cf := some (fileOf pool12 14 #[.nestMembers #[390, 221]] #[{ accessFlags := 0, nameIndex := 7, descriptorIndex := 8, attributes := #[] }] 48 4 #[] #[{ accessFlags := 4120, nameIndex := 121, descriptorIndex := 122, attributes := #[] }])
  fields := #[{ name := "$assertionsDisabled", type := .boolean, accessFlags := 4120, slot := 0, constantValue := 0 }]
  methods := #[k12m0]
  instanceTypes := #[]
  staticTypes := #[.boolean]
  resolved := Array.replicate 395 none
  statics := none }

def pool13 : Array CpInfo := pool [(2, .class_ 4), (1, u "java/lang/Object"), (0, u "<init>"), (0, u "()V"), (17, .class_ 26), (1, u "jdk/internal/util/Preconditions"), (28, .class_ 56), (0, u "jdk/internal/util/Preconditions$4"), (57, .class_ 115), (0, u "jdk/internal/util/Preconditions$1"), (7, u "SIOOBE_FORMATTER"), (0, u "Ljava/util/function/BiFunction;"), (0, .class_ 126), (0, u "jdk/internal/util/Preconditions$2"), (3, u "AIOOBE_FORMATTER"), (0, .class_ 132), (0, u "jdk/internal/util/Preconditions$3"), (3, u "IOOBE_FORMATTER")] 57

def k13m0 : Method := { name := "<init>", desc := "()V", sig := { parameters := [], returnType := none }, accessFlags := 1, code := none }
/-- jdk/internal/util/Preconditions -/
def k13 : Class := { plain "jdk/internal/util/Preconditions" (some 0) with
  accessFlags := 33
  interfaces := #[]
  cf := some (fileOf pool13 24 #[.nestMembers #[55, 131, 125, 114]] #[{ accessFlags := 1, nameIndex := 5, descriptorIndex := 6, attributes := #[] }] 33 2 #[] #[{ accessFlags := 25, nameIndex := 123, descriptorIndex := 124, attributes := #[] }, { accessFlags := 25, nameIndex := 130, descriptorIndex := 124, attributes := #[] }, { accessFlags := 25, nameIndex := 136, descriptorIndex := 124, attributes := #[] }])
  fields := #[{ name := "SIOOBE_FORMATTER", type := (.object "java/util/function/BiFunction"), accessFlags := 25, slot := 0, constantValue := 0 }, { name := "AIOOBE_FORMATTER", type := (.object "java/util/function/BiFunction"), accessFlags := 25, slot := 1, constantValue := 0 }, { name := "IOOBE_FORMATTER", type := (.object "java/util/function/BiFunction"), accessFlags := 25, slot := 2, constantValue := 0 }]
  methods := #[k13m0]
  instanceTypes := #[]
  staticTypes := #[(.object "java/util/function/BiFunction"), (.object "java/util/function/BiFunction"), (.object "java/util/function/BiFunction")]
  resolved := Array.replicate 194 none
  statics := some 1 }

def pool14 : Array CpInfo := pool [(9, u "<init>"), (6, .class_ 18), (1, u "java/lang/Object"), (0, u "()V"), (1, .class_ 23), (1, u "jdk/internal/util/ArraysSupport"), (0, u "LOG2_ARRAY_LONG_INDEX_SCALE"), (0, u "I"), (2, u "U"), (0, u "Ljdk/internal/misc/Unsafe;"), (8, u "BIG_ENDIAN"), (0, u "Z"), (8, u "LOG2_BYTE_BIT_SIZE"), (4, u "LOG2_ARRAY_INT_INDEX_SCALE"), (54, u "JLA"), (0, u "Ljdk/internal/access/JavaLangAccess;"), (11, u "LOG2_ARRAY_BOOLEAN_INDEX_SCALE"), (9, u "LOG2_ARRAY_BYTE_INDEX_SCALE"), (5, u "LOG2_ARRAY_CHAR_INDEX_SCALE"), (5, u "LOG2_ARRAY_SHORT_INDEX_SCALE"), (18, u "LOG2_ARRAY_FLOAT_INDEX_SCALE"), (24, u "LOG2_ARRAY_DOUBLE_INDEX_SCALE"), (89, u "T_BOOLEAN"), (2, u "T_CHAR"), (1, u "T_FLOAT"), (1, u "T_DOUBLE"), (1, u "T_BYTE"), (1, u "T_SHORT"), (1, u "T_INT"), (1, u "T_LONG"), (1, u "SOFT_MAX_ARRAY_LENGTH")] 83

def k14m0 : Method := { name := "<init>", desc := "()V", sig := { parameters := [], returnType := none }, accessFlags := 2, code := none }
/-- jdk/internal/util/ArraysSupport -/
def k14 : Class := { plain "jdk/internal/util/ArraysSupport" (some 0) with
  accessFlags := 33
  interfaces := #[]
  cf := some (fileOf pool14 21 #[] #[{ accessFlags := 2, nameIndex := 9, descriptorIndex := 19, attributes := #[] }] 33 16 #[] #[{ accessFlags := 24, nameIndex := 28, descriptorIndex := 29, attributes := #[] }, { accessFlags := 26, nameIndex := 38, descriptorIndex := 39, attributes := #[] }, { accessFlags := 25, nameIndex := 121, descriptorIndex := 25, attributes := #[] }, { accessFlags := 25, nameIndex := 131, descriptorIndex := 25, attributes := #[] }, { accessFlags := 25, nameIndex := 137, descriptorIndex := 25, attributes := #[] }, { accessFlags := 25, nameIndex := 143, descriptorIndex := 25, attributes := #[] }, { accessFlags := 25, nameIndex := 53, descriptorIndex := 25, attributes := #[] }, { accessFlags := 25, nameIndex := 24, descriptorIndex := 25, attributes := #[] }, { accessFlags := 25, nameIndex := 162, descriptorIndex := 25, attributes := #[] }, { accessFlags := 25, nameIndex := 187, descriptorIndex := 25, attributes := #[] }, { accessFlags := 26, nameIndex := 48, descriptorIndex := 25, attributes := #[] }, { accessFlags := 25, nameIndex := 277, descriptorIndex := 25, attributes := #[] }, { accessFlags := 25, nameIndex := 280, descriptorIndex := 25, attributes := #[] }, { accessFlags := 25, nameIndex := 282, descriptorIndex := 25, attributes := #[] }, { accessFlags := 25, nameIndex := 284, descriptorIndex := 25, attributes := #[] }, { accessFlags := 25, nameIndex := 286, descriptorIndex := 25, attributes := #[] }, { accessFlags := 25, nameIndex := 288, descriptorIndex := 25, attributes := #[] }, { accessFlags := 25, nameIndex := 290, descriptorIndex := 25, attributes := #[] }, { accessFlags := 25, nameIndex := 292, descriptorIndex := 25, attributes := #[] }, { accessFlags := 26, nameIndex := 108, descriptorIndex := 109, attributes := #[] }, { accessFlags := 25, nameIndex := 294, descriptorIndex := 25, attributes := #[] }])
  fields := #[{ name := "U", type := (.object "jdk/internal/misc/Unsafe"), accessFlags := 24, slot := 0, constantValue := 0 }, { name := "BIG_ENDIAN", type := .boolean, accessFlags := 26, slot := 1, constantValue := 0 }, { name := "LOG2_ARRAY_BOOLEAN_INDEX_SCALE", type := .int, accessFlags := 25, slot := 2, constantValue := 0 }, { name := "LOG2_ARRAY_BYTE_INDEX_SCALE", type := .int, accessFlags := 25, slot := 3, constantValue := 0 }, { name := "LOG2_ARRAY_CHAR_INDEX_SCALE", type := .int, accessFlags := 25, slot := 4, constantValue := 0 }, { name := "LOG2_ARRAY_SHORT_INDEX_SCALE", type := .int, accessFlags := 25, slot := 5, constantValue := 0 }, { name := "LOG2_ARRAY_INT_INDEX_SCALE", type := .int, accessFlags := 25, slot := 6, constantValue := 0 }, { name := "LOG2_ARRAY_LONG_INDEX_SCALE", type := .int, accessFlags := 25, slot := 7, constantValue := 0 }, { name := "LOG2_ARRAY_FLOAT_INDEX_SCALE", type := .int, accessFlags := 25, slot := 8, constantValue := 0 }, { name := "LOG2_ARRAY_DOUBLE_INDEX_SCALE", type := .int, accessFlags := 25, slot := 9, constantValue := 0 }, { name := "LOG2_BYTE_BIT_SIZE", type := .int, accessFlags := 26, slot := 10, constantValue := 0 }, { name := "T_BOOLEAN", type := .int, accessFlags := 25, slot := 11, constantValue := 0 }, { name := "T_CHAR", type := .int, accessFlags := 25, slot := 12, constantValue := 0 }, { name := "T_FLOAT", type := .int, accessFlags := 25, slot := 13, constantValue := 0 }, { name := "T_DOUBLE", type := .int, accessFlags := 25, slot := 14, constantValue := 0 }, { name := "T_BYTE", type := .int, accessFlags := 25, slot := 15, constantValue := 0 }, { name := "T_SHORT", type := .int, accessFlags := 25, slot := 16, constantValue := 0 }, { name := "T_INT", type := .int, accessFlags := 25, slot := 17, constantValue := 0 }, { name := "T_LONG", type := .int, accessFlags := 25, slot := 18, constantValue := 0 }, { name := "JLA", type := (.object "jdk/internal/access/JavaLangAccess"), accessFlags := 26, slot := 19, constantValue := 0 }, { name := "SOFT_MAX_ARRAY_LENGTH", type := .int, accessFlags := 25, slot := 20, constantValue := 0 }]
  methods := #[k14m0]
  instanceTypes := #[]
  staticTypes := #[(.object "jdk/internal/misc/Unsafe"), .boolean, .int, .int, .int, .int, .int, .int, .int, .int, .int, .int, .int, .int, .int, .int, .int, .int, .int, (.object "jdk/internal/access/JavaLangAccess"), .int]
  resolved := Array.replicate 378 none
  statics := none }

def pool15 : Array CpInfo := pool [(1, u "java/lang/Cloneable"), (0, .class_ 1), (0, u "java/lang/Object"), (0, .class_ 3)] 3

/-- java/lang/Cloneable -/
def k15 : Class := { plain "java/lang/Cloneable" (some 0) with
  accessFlags := 1537
  interfaces := #[]
  cf := some (fileOf pool15 2 #[] #[] 1537 4 #[] #[])
  fields := #[]
  methods := #[]
  instanceTypes := #[]
  staticTypes := #[]
  resolved := Array.replicate 8 none
  statics := none }

/-- the primitive byte -/
def k16 : Class := { plain "byte" none with kind := .primitive 'B', accessFlags := 0x411 }
/-- [B -/
def k17 : Class := { plain "[B" (some 0) with kind := .array 16 .byte, interfaces := #[15, 6], accessFlags := 1041 }

/-- the primitive int -/
def k18 : Class := { plain "int" none with kind := .primitive 'I', accessFlags := 0x411 }
/-- [I -/
def k19 : Class := { plain "[I" (some 0) with kind := .array 18 .int, interfaces := #[15, 6], accessFlags := 1041 }

/-- the primitive long -/
def k20 : Class := { plain "long" none with kind := .primitive 'J', accessFlags := 0x411 }
/-- [J -/
def k21 : Class := { plain "[J" (some 0) with kind := .array 20 .long, interfaces := #[15, 6], accessFlags := 1041 }

def heap : Heap := #[{ cls := 11, slots := #[.long 0, .int 1, .null, .int 0, .null, .int 0, .int 0], vm := .statics 11 },
  { cls := 13, slots := #[.null, .null, .null], vm := .statics 13 }]
def classes : Array Class := #[k0, k1, k2, k3, k4, k5, k6, k7, k8, k9, k10, k11, k12, k13, k14, k15, k16, k17, k18, k19, k20, k21]
def interned : List (Array UInt16 × Addr) := []
def slotsUsed : Nat := 10
def theMethod : MethodId := ⟨1, 1⟩
def args0 : Array Value := #[.int 5, .int 6, .int 7, .long 8]
def aboutOver (below : List Frame) : State where
  vm := { classes := classes, interned := interned.toArray }
  heap := heap
  slotsUsed := slotsUsed
  threads := #[{ frames := .invoking theMethod args0 :: below }]
def below0 : List Frame := [.native { method := ⟨0, 0⟩, args := #[] }]
def about1 : State := aboutOver below0
def p0 : Program := .bare "" "" ""
def e0 : Env := launch0.env 0 0 0
theorem w_frames : about1.frames = Frame.invoking theMethod args0 :: below0 := rfl
set_option maxRecDepth 65536 in
theorem w_args : argsFit about1.vm theMethod args0 = true := by decide +kernel
set_option maxRecDepth 65536 in
theorem w_heap : heapFits about1 = true := by decide +kernel
set_option maxRecDepth 65536 in
theorem w_runnable : about1.curStatus? = some .runnable := by decide +kernel
set_option maxRecDepth 65536 in
theorem w_alone : about1.alone = true := by decide +kernel
set_option maxRecDepth 65536 in
theorem w_named : about1.methodNamed? x = some theMethod := by decide +kernel
set_option maxRecDepth 65536 in
theorem w_hears : about1.hears theMethod below0 = true := by decide +kernel
set_option maxRecDepth 65536 in
theorem w_ripe : about1.ripe theMethod args0 below0 = true := by decide +kernel
theorem w_running : about1.status = .running := rfl
set_option maxRecDepth 65536 in
theorem w_room : about1.hasRoom e0.platform room_1 = true :=
  launch0.hasRoom_least _ room_1 (by decide +kernel) (by decide +kernel) (by decide +kernel) (by decide +kernel) (by decide +kernel) (by decide +kernel)
theorem allAtoms_all (ts : List Jvm.Cond) (a : Array Jvm.Value) (st : Jvm.State) : (allAtoms ts).before a st = ts.all (fun c => c.before a st) := by
  induction ts with
  | nil => rfl
  | cons c t ih =>
    show (Jvm.Cond.and c (allAtoms t)).before a st = _
    rw [Jvm.Cond.before_and, ih, List.all_cons]
def words1 : List Jvm.Cond := Jvm.Cond.code x code maxLocals ret :: tables_1
/-- a 'code' word, met by the world's own term for the bytes: nothing is compared byte by byte -/
theorem code_word {y : MethodName} {bytes : ByteArray} {mx : Nat} {rt : Option FieldType} {a : Array Value} {s : State} {m : MethodId} {meth : Method} {c : Code} (h1 : s.methodNamed? y = some m) (h2 : s.vm.method? m = some meth) (h3 : meth.code = some c) (h4 : c.code = bytes)
    (h5 : (c.maxLocals == mx && c.exceptionTable.isEmpty && decide (c.maxStack ≤ mostOperands) && decide (meth.sig.returnType = rt) && !meth.locks && decide (parseMethodDescriptor y.desc = some meth.sig)) = true) : (Jvm.Cond.code y bytes mx rt).before a s = true := by
  simp only [Bool.and_eq_true, beq_iff_eq, Bool.not_eq_true', decide_eq_true_eq] at h5
  obtain ⟨⟨⟨⟨⟨g1, g2⟩, g3⟩, g4⟩, g5⟩, g6⟩ := h5
  simp [Cond.before, Cond.holds, Cond.value, h1, h2, h3, h4, g1, g2, g3, g4, g5, g6]
def isCode : Jvm.Cond → Bool
  | .code _ _ _ _ => true
  | _ => false
theorem all_split {L : List Jvm.Cond} {P : Jvm.Cond → Bool} (h1 : L.all (fun c => isCode c || P c) = true) (h2 : ∀ c ∈ L.filter isCode, P c = true) : L.all P = true := by
  refine List.all_eq_true.mpr fun c hc => ?_
  have h := List.all_eq_true.mp h1 c hc
  rcases Bool.eq_false_or_eq_true (isCode c) with hi | hi
  · exact h2 c (List.mem_filter.mpr ⟨hc, hi⟩)
  · simpa [hi] using h
set_option maxRecDepth 65536 in
theorem w_c0 : (Jvm.Cond.code x code maxLocals ret).before args0 about1 = true := code_word (m := ⟨1, 1⟩) (meth := k1m1) (c := k1c1) (by decide +kernel) rfl rfl rfl (by decide +kernel)
set_option maxRecDepth 65536 in
theorem w_c1 : (Jvm.Cond.code ({ cls := "com/example/rowkey_modeler/rowkeymodeler/DecimalField", name := "<init>", desc := "(Ljava/lang/String;IZ)V" } : Jvm.MethodName) prog_6_method_1_code (7 : Nat) (Option.none : Option Jvm.ClassFile.FieldType)).before args0 about1 = true := code_word (m := ⟨5, 0⟩) (meth := k5m0) (c := k5c0) (by decide +kernel) rfl rfl rfl (by decide +kernel)
set_option maxRecDepth 65536 in
theorem w_c2 : (Jvm.Cond.code ({ cls := "com/example/rowkey_modeler/rowkeymodeler/NumberField", name := "<init>", desc := "(Ljava/lang/String;Z)V" } : Jvm.MethodName) prog_17_method_1_code (3 : Nat) (Option.none : Option Jvm.ClassFile.FieldType)).before args0 about1 = true := code_word (m := ⟨4, 0⟩) (meth := k4m0) (c := k4c0) (by decide +kernel) rfl rfl rfl (by decide +kernel)
set_option maxRecDepth 65536 in
theorem w_c3 : (Jvm.Cond.code ({ cls := "com/example/rowkey_modeler/rowkeymodeler/KeyField", name := "<init>", desc := "(Ljava/lang/String;)V" } : Jvm.MethodName) prog_11_method_1_code (2 : Nat) (Option.none : Option Jvm.ClassFile.FieldType)).before args0 about1 = true := code_word (m := ⟨3, 0⟩) (meth := k3m0) (c := k3c0) (by decide +kernel) rfl rfl rfl (by decide +kernel)
set_option maxRecDepth 65536 in
theorem w_c4 : (Jvm.Cond.code ({ cls := "java/lang/Object", name := "<init>", desc := "()V" } : Jvm.MethodName) object_method_1_code (1 : Nat) (Option.none : Option Jvm.ClassFile.FieldType)).before args0 about1 = true := code_word (m := ⟨0, 0⟩) (meth := k0m0) (c := k0c0) (by decide +kernel) rfl rfl rfl (by decide +kernel)
set_option maxRecDepth 65536 in
theorem w_c5 : (Jvm.Cond.code ({ cls := "java/lang/String", name := "isEmpty", desc := "()Z" } : Jvm.MethodName) jdk_42_method_55_code (1 : Nat) (Option.some Jvm.ClassFile.FieldType.boolean)).before args0 about1 = true := code_word (m := ⟨11, 1⟩) (meth := k11m1) (c := k11c1) (by decide +kernel) rfl rfl rfl (by decide +kernel)
set_option maxRecDepth 65536 in
theorem w_c6 : (Jvm.Cond.code ({ cls := "com/example/rowkey_modeler/rowkeymodeler/DecimalField", name := "writeHeld", desc := "(J[BI)V" } : Jvm.MethodName) prog_6_method_6_code (8 : Nat) (Option.none : Option Jvm.ClassFile.FieldType)).before args0 about1 = true := code_word (m := ⟨5, 1⟩) (meth := k5m1) (c := k5c1) (by decide +kernel) rfl rfl rfl (by decide +kernel)
set_option maxRecDepth 65536 in
theorem w_c7 : (Jvm.Cond.code ({ cls := "com/example/rowkey_modeler/rowkeymodeler/NumberField", name := "reverse", desc := "()Z" } : Jvm.MethodName) prog_17_method_2_code (1 : Nat) (Option.some Jvm.ClassFile.FieldType.boolean)).before args0 about1 = true := code_word (m := ⟨4, 1⟩) (meth := k4m1) (c := k4c1) (by decide +kernel) rfl rfl rfl (by decide +kernel)
set_option maxRecDepth 65536 in
theorem w_c8 : (Jvm.Cond.code ({ cls := "com/example/rowkey_modeler/rowkeymodeler/DecimalFieldWriteHeldPinLaw", name := "at", desc := "([BIIIJ[J)Z" } : Jvm.MethodName) method_3_code (9 : Nat) (Option.some Jvm.ClassFile.FieldType.boolean)).before args0 about1 = true := code_word (m := ⟨1, 2⟩) (meth := k1m2) (c := k1c2) (by decide +kernel) rfl rfl rfl (by decide +kernel)
def codes1 : List Jvm.Cond := [Jvm.Cond.code x code maxLocals ret, Jvm.Cond.code ({ cls := "com/example/rowkey_modeler/rowkeymodeler/DecimalField", name := "<init>", desc := "(Ljava/lang/String;IZ)V" } : Jvm.MethodName) prog_6_method_1_code (7 : Nat) (Option.none : Option Jvm.ClassFile.FieldType), Jvm.Cond.code ({ cls := "com/example/rowkey_modeler/rowkeymodeler/NumberField", name := "<init>", desc := "(Ljava/lang/String;Z)V" } : Jvm.MethodName) prog_17_method_1_code (3 : Nat) (Option.none : Option Jvm.ClassFile.FieldType), Jvm.Cond.code ({ cls := "com/example/rowkey_modeler/rowkeymodeler/KeyField", name := "<init>", desc := "(Ljava/lang/String;)V" } : Jvm.MethodName) prog_11_method_1_code (2 : Nat) (Option.none : Option Jvm.ClassFile.FieldType), Jvm.Cond.code ({ cls := "java/lang/Object", name := "<init>", desc := "()V" } : Jvm.MethodName) object_method_1_code (1 : Nat) (Option.none : Option Jvm.ClassFile.FieldType), Jvm.Cond.code ({ cls := "java/lang/String", name := "isEmpty", desc := "()Z" } : Jvm.MethodName) jdk_42_method_55_code (1 : Nat) (Option.some Jvm.ClassFile.FieldType.boolean), Jvm.Cond.code ({ cls := "com/example/rowkey_modeler/rowkeymodeler/DecimalField", name := "writeHeld", desc := "(J[BI)V" } : Jvm.MethodName) prog_6_method_6_code (8 : Nat) (Option.none : Option Jvm.ClassFile.FieldType), Jvm.Cond.code ({ cls := "com/example/rowkey_modeler/rowkeymodeler/NumberField", name := "reverse", desc := "()Z" } : Jvm.MethodName) prog_17_method_2_code (1 : Nat) (Option.some Jvm.ClassFile.FieldType.boolean), Jvm.Cond.code ({ cls := "com/example/rowkey_modeler/rowkeymodeler/DecimalFieldWriteHeldPinLaw", name := "at", desc := "([BIIIJ[J)Z" } : Jvm.MethodName) method_3_code (9 : Nat) (Option.some Jvm.ClassFile.FieldType.boolean)]
set_option maxRecDepth 65536 in
theorem codes_eq : words1.filter isCode = codes1 := rfl
theorem w_codes : ∀ c ∈ words1.filter isCode, c.before args0 about1 = true := by
  rw [codes_eq]
  intro c hc
  simp only [codes1, List.mem_cons, List.not_mem_nil, or_false] at hc
  rcases hc with rfl | rfl | rfl | rfl | rfl | rfl | rfl | rfl | rfl
  · exact w_c0
  · exact w_c1
  · exact w_c2
  · exact w_c3
  · exact w_c4
  · exact w_c5
  · exact w_c6
  · exact w_c7
  · exact w_c8
set_option maxRecDepth 65536 in
theorem w_t1 : (words1.take 24).all (fun c => isCode c || c.before args0 about1) = true := by decide +kernel
set_option maxRecDepth 65536 in
theorem w_t2 : ((words1.drop 24).take 24).all (fun c => isCode c || c.before args0 about1) = true := by decide +kernel
set_option maxRecDepth 65536 in
theorem w_t3 : (((words1.drop 24).drop 24).take 24).all (fun c => isCode c || c.before args0 about1) = true := by decide +kernel
set_option maxRecDepth 65536 in
theorem w_t4 : (((words1.drop 24).drop 24).drop 24).all (fun c => isCode c || c.before args0 about1) = true := by decide +kernel
theorem w_tables : (allAtoms (Jvm.Cond.code x code maxLocals ret :: tables_1)).before args0 about1 = true := by
  rw [allAtoms_all]
  show words1.all (fun c => c.before args0 about1) = true
  refine all_split ?_ w_codes
  rw [← List.take_append_drop 24 words1, List.all_append, w_t1, ← List.take_append_drop 24 (words1.drop 24), List.all_append, w_t2, ← List.take_append_drop 24 ((words1.drop 24).drop 24), List.all_append, w_t3, w_t4]
  rfl
set_option maxRecDepth 65536 in
theorem w_rest : rest_1_c.before args0 about1 = true := by decide +kernel
set_option maxRecDepth 65536 in
theorem w_case : (Jvm.Cond.and given_1 narrow_1).before args0 about1 = true := by decide +kernel
set_option maxRecDepth 65536 in
theorem w_consts : constsHeld consts_1 about1 := Jvm.Lit.constsHeldB_iff.mp (by decide +kernel)
theorem w_applies : (headSpec (Jvm.Cond.code x code maxLocals ret :: tables_1) room_1).applies x e0.platform about1 = true :=
  (Spec.applies_iff w_frames).mpr ⟨w_running, w_runnable, w_alone, w_named, w_hears, w_ripe, w_room, w_tables⟩
theorem atStart : AtStart classFile x code maxLocals ret World_1 tables_1 room_1 Calls_1 rest_1 Pre_1 launch0 p0 e0 about1 theMethod args0 below0 :=
  ⟨lists_1, trivial, launch0.admits_env _ _ _, launch0.least_env, fairChoices_fair.cas, fairChoices_fair.clock, w_frames, w_args, w_heap, w_applies, ⟨w_consts, trivial⟩, w_rest, w_case⟩
end start1
theorem witness_1 : WitnessClaimed_1 := ⟨start1.p0, start1.e0, start1.about1, start1.theMethod, start1.args0, start1.below0, start1.atStart⟩
end Jvm.Pilot.@@N@@
