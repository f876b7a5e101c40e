import JvmDerived
import JvmDerived.Pilot.@@N@@Statement
import JvmDerived.Pilot.@@N@@Code
set_option linter.unusedVariables false
set_option linter.unusedSimpArgs false
@@BLOCK:NumsL.lean.txt@@
namespace Jvm.RoadKit
open Sem ClassFile Op Lib Jvm.Stand Jvm.Free Jvm.LawKit
section New
variable {p : Program} {l : Launch} {e : Env} {R : Room} {s : State} {m : MethodId} {args : Array Value} {below : List Frame} {meth : Method} {c : Code} {T : State} {locs : List Loc} {cells slots : Nat}
theorem retI (X : Stand p l e R s m args below meth c T locs cells slots) (hx : p.tables.exec = Jvm.exec) {pc : Nat} {Ls : Array Slot} {z : Int32} {rest : List Value} (hret : meth.sig.returnType = some .int) (hd : decode c.code pc = .ok (.ireturn, 1)) {fs : List Frame}
    (hl : ∀ (f : JFrame) (acts : List Action), f.method = m → f.locked = none → f.entered = [] → (doReturn e (T.setTop f) acts (some (.int z))).1 = T.setFrames fs) : Steps p.tables e below (T.setTop (mkF m pc Ls (.int z :: rest))) (T.setFrames fs) := by
  have hm' : T.vm.method? m = some meth := X.method'
  have hn : narrow .int (.int z) = .int z := rfl
  show Steps p.tables e below (T.setTop { method := m, pc := pc, locals := Ls, stack := _ :: rest, locked := none }) _
  jvm_step X.here [X.here.top, hx, hd, hm', hret, hn]
  first | (intro acts; rw [hl _ acts rfl rfl rfl]) | rw [hl _ _ rfl rfl rfl]
  exact Steps.refl _
end New
end Jvm.RoadKit
namespace Jvm.OwnKit
open Sem ClassFile Op Lib Jvm.Stand Jvm.Free Jvm.LawKit Jvm.RoadKit
section OwnLayer
variable {p : Program} {l : Launch} {e : Env} {R : Room} {s : State} {m : MethodId} {args : Array Value} {below : List Frame} {meth : Method} {c : Code} {T : State} {locs : List Loc} {cells slots : Nat} {Z : State} {h h' : Heap} {a b : Addr} {ty : FieldType} {n sl : Nat} {f : Nat → Value} {v : Value} {ws : List Addr}
/-- an array of n places, place j holding f j -/
def Ar (Z : State) (h : Heap) (a : Addr) (ty : FieldType) (n : Nat) (f : Nat → Value) : Prop := ∃ c : Cell, Arr Z h a c ty ∧ c.slots.size = n ∧ n < 2147483648 ∧ ∀ j, j < n → c.slots[j]? = some (f j)
theorem Ar.lt (F : Ar Z h a ty n f) : a < h.size := by obtain ⟨c, A, -⟩ := F; exact A.lt
theorem Ar.ext (F : Ar Z h a ty n f) (E : Ext h h') : Ar Z h' a ty n f := by obtain ⟨c, A, r⟩ := F; exact ⟨c, A.ext E, r⟩
theorem Ar.other (F : Ar Z h b ty n f) (W : Wr h h' a sl v) (q : b ≠ a) : Ar Z h' b ty n f := by obtain ⟨c, A, r⟩ := F; exact ⟨c, A.other W q, r⟩
theorem Ar.keep (F : Ar Z h a ty n f) (K : Keep h h' ws) (q : a ∉ ws) : Ar Z h' a ty n f := by obtain ⟨c, A, r⟩ := F; exact ⟨c, ⟨K.2.1 a c A.1 q, A.2⟩, r⟩
theorem Ar.as (F : Ar Z h a ty n f) {g : Nat → Value} (e : ∀ j, j < n → f j = g j) : Ar Z h a ty n g := by
  obtain ⟨c, A, r1, r2, r3⟩ := F; exact ⟨c, A, r1, r2, fun j hj => by rw [r3 j hj, e j hj]⟩
theorem nat_clamp (j : Int32) : j.toNatClampNeg = j.toInt.toNat := rfl
theorem Ar.new {k : ClassId} {z : Int32} {N : Nat} (A : Arr Z h a (newA k ty z) ty) (q : ¬ z < 0) (hN : z.toInt.toNat = N) : Ar Z h a ty N (fun _ => defaultValue ty) := by
  have hs : (newA k ty z).slots.size = N := by rw [sz_new, nat_clamp, hN]
  refine ⟨_, A, hs, ?_, fun j hj => ?_⟩
  · have := z.toInt_lt; omega
  · show (Array.replicate z.toNatClampNeg (defaultValue ty))[j]? = _
    rw [Array.getElem?_replicate, if_pos (by rw [nat_clamp, hN]; exact hj)]
theorem ar_in {c : Cell} {j : Int32} (hs : c.slots.size = n) (h0 : 0 ≤ j.toInt) (h1 : j.toInt < n) : ¬ (j < 0 ∨ c.slots.size ≤ j.toNatClampNeg) := by
  rw [hs, nat_clamp, Int32.lt_iff_toInt_lt]
  show ¬ (j.toInt < 0 ∨ n ≤ j.toInt.toNat)
  omega
theorem Ar.set {c : Cell} {j : Int32} (A : Arr Z h a c ty) (hs : c.slots.size = n) (hn : n < 2147483648) (H : ∀ j, j < n → c.slots[j]? = some (f j)) (h0 : 0 ≤ j.toInt) (h1 : j.toInt < n) (W : Wr h h' a j.toNatClampNeg v) : Ar Z h' a ty n (fun i => if i = j.toInt.toNat then v else f i) := by
  refine ⟨_, A.same W, by rw [sz_set, hs], hn, fun i hi => ?_⟩
  show (c.slots.setIfInBounds j.toNatClampNeg v)[i]? = _
  rw [Array.getElem?_setIfInBounds, nat_clamp]
  show _ = some (if i = j.toInt.toNat then v else f i)
  by_cases q : i = j.toInt.toNat
  · rw [if_pos q.symm, if_pos (by omega), if_pos q]
  · rw [if_neg (fun z => q z.symm), if_neg q, H i hi]
theorem arv_ar {k : ClassId} {z : Int32} {vs : List Value} {d : Value} (F : Arv Z h a k ty z vs d) : Ar Z h a ty z.toInt.toNat (fun i => vs.getD i d) := by
  obtain ⟨c, A, -, r2, r3, H, -⟩ := F
  have hz := z.toInt_lt
  exact ⟨c, A, r2, by omega, fun j hj => H j (by rw [r2, nat_clamp]; exact hj)⟩
theorem ldAI (X : Stand p l e R s m args below meth c T locs cells slots) (hx : p.tables.exec = Jvm.exec) (hZ : Z.Warmed39 s.vm) (eT : T.heap = h) (F : Ar Z h a .int n f) {j : Int32} (h0 : 0 ≤ j.toInt) (h1 : j.toInt < n) {w : Value} (hv : f j.toInt.toNat = w)
    {g : JFrame} (hg : g.method = m) {rest : List Value} (hs : g.stack = .int j :: .ref a :: rest) (hd : decode c.code g.pc = .ok (.iaload, 1)) :
    ∀ target, Steps p.tables e below (T.setTop { g with pc := g.pc + 1, stack := w :: rest }) target → Steps p.tables e below (T.setTop g) target := by
  obtain ⟨cl, A, r1, r2, r3⟩ := F
  exact fun target k => X.iaload hx (by rw [eT]; exact A.1) (State.isArrayOf_alike hZ.alike A.2.1) A.2.2 (ar_in r1 h0 h1) (by rw [nat_clamp, r3 _ (by omega), hv]) hg hs hd target k
theorem ldAL (X : Stand p l e R s m args below meth c T locs cells slots) (hx : p.tables.exec = Jvm.exec) (hZ : Z.Warmed39 s.vm) (eT : T.heap = h) (F : Ar Z h a .long n f) {j : Int32} (h0 : 0 ≤ j.toInt) (h1 : j.toInt < n) {w : Value} (hv : f j.toInt.toNat = w)
    {g : JFrame} (hg : g.method = m) {rest : List Value} (hs : g.stack = .int j :: .ref a :: rest) (hd : decode c.code g.pc = .ok (.laload, 1)) :
    ∀ target, Steps p.tables e below (T.setTop { g with pc := g.pc + 1, stack := w :: rest }) target → Steps p.tables e below (T.setTop g) target := by
  obtain ⟨cl, A, r1, r2, r3⟩ := F
  exact fun target k => X.laload hx (by rw [eT]; exact A.1) (State.isArrayOf_alike hZ.alike A.2.1) A.2.2 (ar_in r1 h0 h1) (by rw [nat_clamp, r3 _ (by omega), hv]) hg hs hd target k
theorem ldAB (X : Stand p l e R s m args below meth c T locs cells slots) (hx : p.tables.exec = Jvm.exec) (hZ : Z.Warmed39 s.vm) (eT : T.heap = h) (F : Ar Z h a .byte n f) {j : Int32} (h0 : 0 ≤ j.toInt) (h1 : j.toInt < n) {w : Value} (hv : f j.toInt.toNat = w)
    {g : JFrame} (hg : g.method = m) {rest : List Value} (hs : g.stack = .int j :: .ref a :: rest) (hd : decode c.code g.pc = .ok (.baload, 1)) :
    ∀ target, Steps p.tables e below (T.setTop { g with pc := g.pc + 1, stack := w :: rest }) target → Steps p.tables e below (T.setTop g) target := by
  obtain ⟨cl, A, r1, r2, r3⟩ := F
  exact fun target k => X.baloadBytes hx (by rw [eT]; exact A.1) (State.isArrayOf_alike hZ.alike A.2.1) A.2.2 (ar_in r1 h0 h1) (by rw [nat_clamp, r3 _ (by omega), hv]) hg hs hd target k
theorem ldAZ (X : Stand p l e R s m args below meth c T locs cells slots) (hx : p.tables.exec = Jvm.exec) (hZ : Z.Warmed39 s.vm) (eT : T.heap = h) (F : Ar Z h a .boolean n f) {j : Int32} (h0 : 0 ≤ j.toInt) (h1 : j.toInt < n) {w : Value} (hv : f j.toInt.toNat = w)
    {g : JFrame} (hg : g.method = m) {rest : List Value} (hs : g.stack = .int j :: .ref a :: rest) (hd : decode c.code g.pc = .ok (.baload, 1)) :
    ∀ target, Steps p.tables e below (T.setTop { g with pc := g.pc + 1, stack := w :: rest }) target → Steps p.tables e below (T.setTop g) target := by
  obtain ⟨cl, A, r1, r2, r3⟩ := F
  exact fun target k => X.baloadBooleans hx (by rw [eT]; exact A.1) (State.isArrayOf_alike hZ.alike A.2.1) A.2.2 (ar_in r1 h0 h1) (by rw [nat_clamp, r3 _ (by omega), hv]) hg hs hd target k
theorem alen (X : Stand p l e R s m args below meth c T locs cells slots) (hx : p.tables.exec = Jvm.exec) (hZ : Z.Warmed39 s.vm) (eT : T.heap = h) (F : Ar Z h a ty n f) {z : Int32} (hz : z.toInt = n)
    {g : JFrame} (hg : g.method = m) {rest : List Value} (hs : g.stack = .ref a :: rest) (hd : decode c.code g.pc = .ok (.arraylength, 1)) :
    ∀ target, Steps p.tables e below (T.setTop { g with pc := g.pc + 1, stack := .int z :: rest }) target → Steps p.tables e below (T.setTop g) target := by
  obtain ⟨cl, A, r1, r2, r3⟩ := F
  have q : cl.slots.size.toInt32 = z := by
    rw [r1]
    apply Int32.toInt_inj.mp
    rw [hz]
    show (Int32.ofNat n).toInt = n
    exact Int32.toInt_ofNat_small (by omega)
  exact fun target k => X.arraylength hx (by rw [eT]; exact A.1) (State.isArrayOf_alike hZ.alike A.2.1) hg hs hd target (by rw [q]; exact k)
theorem stAI (X : Stand p l e R s m args below meth c T locs cells slots) (hx : p.tables.exec = Jvm.exec) (hZ : Z.Warmed39 s.vm) (eT : T.heap = h) (F : Ar Z h a .int n f) {j x : Int32} (h0 : 0 ≤ j.toInt) (h1 : j.toInt < n)
    {g : JFrame} (hg : g.method = m) {rest : List Value} (hs : g.stack = .int x :: .int j :: .ref a :: rest) (hd : decode c.code g.pc = .ok (.iastore, 1)) :
    ∃ T' h', Stand p l e R s m args below meth c T' (locs ++ [⟨a, j.toNatClampNeg⟩]) cells slots ∧ T'.heap = h' ∧ Wr h h' a j.toNatClampNeg (.int x) ∧ Ar Z h' a .int n (fun i => if i = j.toInt.toNat then .int x else f i) ∧ ∀ target, Steps p.tables e below (T'.setTop { g with pc := g.pc + 1, stack := rest }) target → Steps p.tables e below (T.setTop g) target := by
  obtain ⟨cl, A, r1, r2, r3⟩ := F
  obtain ⟨T', h', X', e', W, st⟩ := stI X hx hZ eT A (ar_in r1 h0 h1) hg hs hd
  exact ⟨T', h', X', e', W, Ar.set A r1 r2 r3 h0 h1 W, st⟩
theorem stAL (X : Stand p l e R s m args below meth c T locs cells slots) (hx : p.tables.exec = Jvm.exec) (hZ : Z.Warmed39 s.vm) (eT : T.heap = h) (F : Ar Z h a .long n f) {j : Int32} {x : Int64} (h0 : 0 ≤ j.toInt) (h1 : j.toInt < n)
    {g : JFrame} (hg : g.method = m) {rest : List Value} (hs : g.stack = .long x :: .int j :: .ref a :: rest) (hd : decode c.code g.pc = .ok (.lastore, 1)) :
    ∃ T' h', Stand p l e R s m args below meth c T' (locs ++ [⟨a, j.toNatClampNeg⟩]) cells slots ∧ T'.heap = h' ∧ Wr h h' a j.toNatClampNeg (.long x) ∧ Ar Z h' a .long n (fun i => if i = j.toInt.toNat then .long x else f i) ∧ ∀ target, Steps p.tables e below (T'.setTop { g with pc := g.pc + 1, stack := rest }) target → Steps p.tables e below (T.setTop g) target := by
  obtain ⟨cl, A, r1, r2, r3⟩ := F
  obtain ⟨T', h', X', e', W, st⟩ := stJ X hx hZ eT A (ar_in r1 h0 h1) hg hs hd
  exact ⟨T', h', X', e', W, Ar.set A r1 r2 r3 h0 h1 W, st⟩
theorem stAB (X : Stand p l e R s m args below meth c T locs cells slots) (hx : p.tables.exec = Jvm.exec) (hZ : Z.Warmed39 s.vm) (eT : T.heap = h) (F : Ar Z h a .byte n f) {j x : Int32} (h0 : 0 ≤ j.toInt) (h1 : j.toInt < n)
    {g : JFrame} (hg : g.method = m) {rest : List Value} (hs : g.stack = .int x :: .int j :: .ref a :: rest) (hd : decode c.code g.pc = .ok (.bastore, 1)) :
    ∃ T' h', Stand p l e R s m args below meth c T' (locs ++ [⟨a, j.toNatClampNeg⟩]) cells slots ∧ T'.heap = h' ∧ Wr h h' a j.toNatClampNeg (.int (nar .byte x)) ∧ Ar Z h' a .byte n (fun i => if i = j.toInt.toNat then .int (nar .byte x) else f i) ∧ ∀ target, Steps p.tables e below (T'.setTop { g with pc := g.pc + 1, stack := rest }) target → Steps p.tables e below (T.setTop g) target := by
  obtain ⟨cl, A, r1, r2, r3⟩ := F
  obtain ⟨T', h', X', e', W, st⟩ := stB X hx hZ eT A (ar_in r1 h0 h1) hg hs hd
  exact ⟨T', h', X', e', W, Ar.set A r1 r2 r3 h0 h1 W, st⟩
theorem stAZ (X : Stand p l e R s m args below meth c T locs cells slots) (hx : p.tables.exec = Jvm.exec) (hZ : Z.Warmed39 s.vm) (eT : T.heap = h) (F : Ar Z h a .boolean n f) {j x : Int32} (h0 : 0 ≤ j.toInt) (h1 : j.toInt < n)
    {g : JFrame} (hg : g.method = m) {rest : List Value} (hs : g.stack = .int x :: .int j :: .ref a :: rest) (hd : decode c.code g.pc = .ok (.bastore, 1)) :
    ∃ T' h', Stand p l e R s m args below meth c T' (locs ++ [⟨a, j.toNatClampNeg⟩]) cells slots ∧ T'.heap = h' ∧ Wr h h' a j.toNatClampNeg (.int (nar .boolean x)) ∧ Ar Z h' a .boolean n (fun i => if i = j.toInt.toNat then .int (nar .boolean x) else f i) ∧ ∀ target, Steps p.tables e below (T'.setTop { g with pc := g.pc + 1, stack := rest }) target → Steps p.tables e below (T.setTop g) target := by
  obtain ⟨cl, A, r1, r2, r3⟩ := F
  obtain ⟨T', h', X', e', W, st⟩ := stZ X hx hZ eT A (ar_in r1 h0 h1) hg hs hd
  exact ⟨T', h', X', e', W, Ar.set A r1 r2 r3 h0 h1 W, st⟩
end OwnLayer
end Jvm.OwnKit
namespace Jvm.Pilot.@@N@@
open Jvm Jvm.ClassFile Sem Op Lib Jvm.Free Jvm.Stand Jvm.LawKit Jvm.RoadKit Bundle Jvm.OwnKit Jvm.Pilot.@@N@@.Jvm.D
def folb (oq : Int64) (on : Int64) : Int64 := (if (9223372036854775 : Int64) < oq then (-9223372036854775808 : Int64) else (if on < ((-9223372036854775808 : Int64) + (oq * (1000 : Int64))) then (-9223372036854775808 : Int64) else (on - (oq * (1000 : Int64)))))
def fexp (u0 : Int64) (u1 : Int64) : Int64 := (if ((u0 * (1000 : Int64)) / (1000 : Int64)) = u0 then (if u1 < (u1 - (u0 * (1000 : Int64))) then (-9223372036854775808 : Int64) else (u1 - (u0 * (1000 : Int64)))) else (-9223372036854775808 : Int64))
theorem ef_1 (m : MethodId) (x0 : Addr) : entryFrame m #[(.ref x0)] 1 = mkF m 0 #[.val (.ref x0)] [] := by first | (simp [entryFrame, mkF, argsToLocals, Value.category]; done) | rfl
theorem pn_java_lang_Record : plainName "java/lang/Record" = true := by first | (simp [plainName, overriddenIn]; done) | decide +kernel
theorem d1_0 : decode jdk_30_method_1_code 0 = .ok (.aload_n 0, 1) := by decide +kernel
theorem d1_1 : decode jdk_30_method_1_code 1 = .ok (.invokespecial 1, 3) := by decide +kernel
theorem d1_4 : decode jdk_30_method_1_code 4 = .ok (.return_, 1) := by decide +kernel
theorem ef_2 (m : MethodId) (x0 : Addr) (x1 : Addr) (x2 : Int32) (x3 : Int64) : entryFrame m #[(.ref x0), (.ref x1), (.int x2), (.long x3)] 5 = mkF m 0 #[.val (.ref x0), .val (.ref x1), .val (.int x2), .val (.long x3), .second] [] := by first | (simp [entryFrame, mkF, argsToLocals, Value.category]; done) | rfl
theorem pn_com_example_rangewell_rangewell_model_Family : plainName "com/example/rangewell/rangewell/model/Family" = true := by first | (simp [plainName, overriddenIn]; done) | decide +kernel
theorem d2_0 : decode prog_37_method_1_code 0 = .ok (.aload_n 0, 1) := by decide +kernel
theorem d2_1 : decode prog_37_method_1_code 1 = .ok (.invokespecial 5, 3) := by decide +kernel
theorem pd_ocV : parseMethodDescriptor "()V" = some ⟨[], none⟩ := by decide +kernel
theorem d2_4 : decode prog_37_method_1_code 4 = .ok (.aload_n 0, 1) := by decide +kernel
theorem d2_5 : decode prog_37_method_1_code 5 = .ok (.aload_n 1, 1) := by decide +kernel
theorem d2_6 : decode prog_37_method_1_code 6 = .ok (.putfield 11, 3) := by decide +kernel
theorem d2_9 : decode prog_37_method_1_code 9 = .ok (.aload_n 0, 1) := by decide +kernel
theorem d2_10 : decode prog_37_method_1_code 10 = .ok (.iload_n 2, 1) := by decide +kernel
theorem d2_11 : decode prog_37_method_1_code 11 = .ok (.putfield 15, 3) := by decide +kernel
theorem d2_14 : decode prog_37_method_1_code 14 = .ok (.aload_n 0, 1) := by decide +kernel
theorem d2_15 : decode prog_37_method_1_code 15 = .ok (.lload_n 3, 1) := by decide +kernel
theorem d2_16 : decode prog_37_method_1_code 16 = .ok (.putfield 19, 3) := by decide +kernel
theorem d2_19 : decode prog_37_method_1_code 19 = .ok (.return_, 1) := by decide +kernel
theorem ef_3 (m : MethodId) (x0 : Addr) (x1 : Int64) : entryFrame m #[(.ref x0), (.long x1)] 5 = mkF m 0 #[.val (.ref x0), .val (.long x1), .second, .unset, .unset] [] := by first | (simp [entryFrame, mkF, argsToLocals, Value.category]; done) | rfl
theorem d3_0 : decode prog_37_method_4_code 0 = .ok (.aload_n 0, 1) := by decide +kernel
theorem d3_1 : decode prog_37_method_4_code 1 = .ok (.getfield 19, 3) := by decide +kernel
theorem d3_4 : decode prog_37_method_4_code 4 = .ok (.ldc2_w 49, 3) := by decide +kernel
theorem d3_7 : decode prog_37_method_4_code 7 = .ok (.lcmp, 1) := by decide +kernel
theorem d3_8 : decode prog_37_method_4_code 8 = .ok (.ifCond .gt 20, 3) := by decide +kernel
theorem d3_28 : decode prog_37_method_4_code 28 = .ok (.ldc2_w 51, 3) := by decide +kernel
theorem d3_31 : decode prog_37_method_4_code 31 = .ok (.lstore_n 3, 1) := by decide +kernel
theorem d3_32 : decode prog_37_method_4_code 32 = .ok (.goto 14, 3) := by decide +kernel
theorem d3_11 : decode prog_37_method_4_code 11 = .ok (.lload_n 1, 1) := by decide +kernel
theorem d3_12 : decode prog_37_method_4_code 12 = .ok (.ldc2_w 51, 3) := by decide +kernel
theorem d3_15 : decode prog_37_method_4_code 15 = .ok (.aload_n 0, 1) := by decide +kernel
theorem d3_16 : decode prog_37_method_4_code 16 = .ok (.getfield 19, 3) := by decide +kernel
theorem d3_19 : decode prog_37_method_4_code 19 = .ok (.ldc2_w 53, 3) := by decide +kernel
theorem d3_22 : decode prog_37_method_4_code 22 = .ok (.lmul, 1) := by decide +kernel
theorem d3_23 : decode prog_37_method_4_code 23 = .ok (.ladd, 1) := by decide +kernel
theorem d3_24 : decode prog_37_method_4_code 24 = .ok (.lcmp, 1) := by decide +kernel
theorem d3_25 : decode prog_37_method_4_code 25 = .ok (.ifCond .ge 10, 3) := by decide +kernel
theorem d3_35 : decode prog_37_method_4_code 35 = .ok (.lload_n 1, 1) := by decide +kernel
theorem d3_36 : decode prog_37_method_4_code 36 = .ok (.aload_n 0, 1) := by decide +kernel
theorem d3_37 : decode prog_37_method_4_code 37 = .ok (.getfield 19, 3) := by decide +kernel
theorem d3_40 : decode prog_37_method_4_code 40 = .ok (.ldc2_w 53, 3) := by decide +kernel
theorem d3_43 : decode prog_37_method_4_code 43 = .ok (.lmul, 1) := by decide +kernel
theorem d3_44 : decode prog_37_method_4_code 44 = .ok (.lsub, 1) := by decide +kernel
theorem d3_45 : decode prog_37_method_4_code 45 = .ok (.lstore_n 3, 1) := by decide +kernel
theorem d3_46 : decode prog_37_method_4_code 46 = .ok (.lload_n 3, 1) := by decide +kernel
theorem d3_47 : decode prog_37_method_4_code 47 = .ok (.lreturn, 1) := by decide +kernel
theorem ef_4 (m : MethodId) (x0 : Int64) (x1 : Int64) : entryFrame m #[(.long x0), (.long x1)] 8 = mkF m 0 #[.val (.long x0), .second, .val (.long x1), .second, .unset, .unset, .unset, .unset] [] := by first | (simp [entryFrame, mkF, argsToLocals, Value.category]; done) | rfl
theorem pn_com_example_rangewell_rangewell_model_FamilyOldestLivePinLaw : plainName "com/example/rangewell/rangewell/model/FamilyOldestLivePinLaw" = true := by first | (simp [plainName, overriddenIn]; done) | decide +kernel
theorem d4_0 : decode method_2_code 0 = .ok (.lload_n 0, 1) := by decide +kernel
theorem d4_1 : decode method_2_code 1 = .ok (.ldc2_w 7, 3) := by decide +kernel
theorem d4_4 : decode method_2_code 4 = .ok (.lmul, 1) := by decide +kernel
theorem d4_5 : decode method_2_code 5 = .ok (.lstore 4, 2) := by decide +kernel
theorem d4_7 : decode method_2_code 7 = .ok (.lload 4, 2) := by decide +kernel
theorem d4_9 : decode method_2_code 9 = .ok (.ldc2_w 7, 3) := by decide +kernel
theorem d4_12 : decode method_2_code 12 = .ok (.ldiv, 1) := by decide +kernel
theorem d4_13 : decode method_2_code 13 = .ok (.lload_n 0, 1) := by decide +kernel
theorem d4_14 : decode method_2_code 14 = .ok (.lcmp, 1) := by decide +kernel
theorem d4_15 : decode method_2_code 15 = .ok (.ifCond .eq 7, 3) := by decide +kernel
theorem d4_22 : decode method_2_code 22 = .ok (.lload_n 2, 1) := by decide +kernel
theorem d4_23 : decode method_2_code 23 = .ok (.lload 4, 2) := by decide +kernel
theorem d4_25 : decode method_2_code 25 = .ok (.lsub, 1) := by decide +kernel
theorem d4_26 : decode method_2_code 26 = .ok (.lstore 6, 2) := by decide +kernel
theorem d4_28 : decode method_2_code 28 = .ok (.lload 6, 2) := by decide +kernel
theorem d4_30 : decode method_2_code 30 = .ok (.lload_n 2, 1) := by decide +kernel
theorem d4_31 : decode method_2_code 31 = .ok (.lcmp, 1) := by decide +kernel
theorem d4_32 : decode method_2_code 32 = .ok (.ifCond .le 7, 3) := by decide +kernel
theorem d4_35 : decode method_2_code 35 = .ok (.ldc2_w 11, 3) := by decide +kernel
theorem d4_38 : decode method_2_code 38 = .ok (.lreturn, 1) := by decide +kernel
theorem d4_39 : decode method_2_code 39 = .ok (.lload 6, 2) := by decide +kernel
theorem d4_41 : decode method_2_code 41 = .ok (.lreturn, 1) := by decide +kernel
theorem d4_18 : decode method_2_code 18 = .ok (.ldc2_w 11, 3) := by decide +kernel
theorem d4_21 : decode method_2_code 21 = .ok (.lreturn, 1) := by decide +kernel
theorem ef_0 (m : MethodId) (x0 : Int64) (x1 : Int64) (x2 : Int32) : entryFrame m #[(.long x0), (.long x1), (.int x2)] maxLocals = mkF m 0 #[.val (.long x0), .second, .val (.long x1), .second, .val (.int x2), .unset, .unset, .unset, .unset, .unset] [] := by first | (simp [entryFrame, mkF, argsToLocals, Value.category, maxLocals]; done) | rfl
theorem pd_oaBIJcV : parseMethodDescriptor "([BIJ)V" = some ⟨[(.array .byte), .int, .long], none⟩ := by decide +kernel
theorem pd_oJcJ : parseMethodDescriptor "(J)J" = some ⟨[.long], some .long⟩ := by decide +kernel
theorem pd_oJJcJ : parseMethodDescriptor "(JJ)J" = some ⟨[.long, .long], some .long⟩ := by decide +kernel

def Q1 (Z : State) (ra : Addr) (h0 : Heap) (n0 : Nat) (v : Option Value) (h : Heap) (L : List Loc) : Prop := v = none ∧ Fr n0 L ∧ h = h0
set_option maxRecDepth 65536 in
set_option maxHeartbeats 40000000 in
theorem rm1 (l : Launch) (Z : State) (a0 : Array Value) (hw : ∀ d ∈ tables_1, d.before a0 Z = true) (ws : List Jvm.Cond) (ra : Addr) (h0 : Heap) (n0 : Nat) (Z0 : n0 ≤ h0.size)  :
    MetFree l (⟨"java/lang/Record", "<init>", "()V"⟩ : MethodName) (head1 (Jvm.Cond.code (⟨"java/lang/Record", "<init>", "()V"⟩ : MethodName) jdk_30_method_1_code 1 none :: ws) ({ frames := 1, cells := 0, slots := 0, locals := 12 } : Room)) (fun a U => a = #[(.ref ra)] ∧ Z.Warmed39 U.vm ∧ U.heap = h0) (fun _ _ _ _ _ => True) (fun _ U o U' => ∃ v L, o = .returned v ∧ Q1 Z ra h0 n0 v U'.heap L ∧ FrameEnd U o U' L ({ frames := 1, cells := 0, slots := 0, locals := 12 } : Room).cells ({ frames := 1, cells := 0, slots := 0, locals := 12 } : Room).slots) := by
  refine MetFree.of_bodySF (plainFor_of_name pn_java_lang_Record) hisR ?_
  intro p e s m args0 below meth c s₁ Bd hml0 hP hK
  obtain ⟨rfl, hZ, hh⟩ := hP
  have hx := Bd.exec
  have hby := Bd.bytes
  have hml : c.maxLocals = 1 := hml0
  have hown : s.vm.findClass "java/lang/Record" = some m.cls := findClass_of_methodNamed Bd.named
  have hnm := (name_of_methodNamed Bd.named Bd.method).1
  have X0 : Stand p l e ({ frames := 1, cells := 0, slots := 0, locals := 12 } : Room) s m #[(.ref ra)] below meth c s₁ [] 0 0 := Stand.of_body Bd
  have e0 : s₁.heap = h0 := by rw [← hh, Bd.state]; rfl
  have N0 := Fr.nil n0
  have pre0 : ∀ t, Steps p.tables e below (s₁.setTop (mkF m 0 #[.val (.ref ra)] [])) t → Steps p.tables e below (s₁.setTop (entryFrame m #[(.ref ra)] 1)) t := fun t k => castTop (ef_1 m ra) k
  have s1 : ∀ t, Steps p.tables e below (s₁.setTop (mkF m 1 #[.val (.ref ra)] [(.ref ra)])) t → Steps p.tables e below (s₁.setTop (mkF m 0 #[.val (.ref ra)] [])) t := by
    intro t kt
    refine XS.aloadN X0.here hx rfl (hb hby d1_0) rfl rfl ?_
    exact kt
  obtain ⟨T2, X2, e2, st2⟩ := initO X0 hx hZ hown (hw _ (List.mem_of_getElem? (i := 13) rfl)) (hw _ (List.mem_of_getElem? (i := 14) rfl)) (hw _ (List.mem_of_getElem? (i := 15) rfl)) e0 (g := (mkF m 1 #[.val (.ref ra)] [(.ref ra)])) rfl (by rw [hml]; rfl) rfl (hb hby d1_1) (by decide) (W := 0) (by show 2 * 0 + _ ≤ _; exact Nat.le_of_eq rfl) (by decide)
  obtain ⟨fs_, hr, hrun, hended, hW, hsame⟩ := X2.leave (v := none) (fun _ => rfl)
  refine ⟨_, _, pre0 _ (s1 _ (st2 _ (?_))), hrun, hended, _, _, rfl, ?_, ⟨_, rfl⟩, hW, hsame.mono (by decide) (by decide)⟩
  · show Steps p.tables e below (T2.setTop (mkF m 4 #[.val (.ref ra)] [])) _
    exact X2.returnOut hx Bd.returns (hb hby d1_4) hr
  · show Q1 Z ra h0 n0 _ T2.heap _
    rw [e2]
    exact ⟨rfl, N0, rfl⟩
def Q2 (Z : State) (fa fb : Addr) (fp : Int32) (fq : Int64) (h0 : Heap) (n0 : Nat) (v : Option Value) (h : Heap) (L : List Loc) : Prop := v = none ∧ Fr n0 L ∧ Keep h0 h [fa] ∧ Exa Z h fa "com/example/rangewell/rangewell/model/Family" ∧ Fld Z h fa "com/example/rangewell/rangewell/model/Family" "ttlSeconds" "J" (.long fq)
set_option maxRecDepth 65536 in
set_option maxHeartbeats 40000000 in
theorem rm2 (l : Launch) (Z : State) (a0 : Array Value) (hw : ∀ d ∈ tables_1, d.before a0 Z = true) (ws : List Jvm.Cond) (fa fb : Addr) (fp : Int32) (fq : Int64) (h0 : Heap) (n0 : Nat) (Z0 : n0 ≤ h0.size) (Ea : Exa Z h0 fa "com/example/rangewell/rangewell/model/Family") (F1 : Fld Z h0 fa "com/example/rangewell/rangewell/model/Family" "name" "[B" .null) (F2 : Fld Z h0 fa "com/example/rangewell/rangewell/model/Family" "versions" "I" (.int (0 : Int32))) (F3 : Fld Z h0 fa "com/example/rangewell/rangewell/model/Family" "ttlSeconds" "J" (.long (0 : Int64))) (Ga : n0 ≤ fa) :
    MetFree l (⟨"com/example/rangewell/rangewell/model/Family", "<init>", "([BIJ)V"⟩ : MethodName) (head1 (Jvm.Cond.code (⟨"com/example/rangewell/rangewell/model/Family", "<init>", "([BIJ)V"⟩ : MethodName) prog_37_method_1_code 5 none :: ws) ({ frames := 2, cells := 0, slots := 0, locals := 24 } : Room)) (fun a U => a = #[(.ref fa), (.ref fb), (.int fp), (.long fq)] ∧ Z.Warmed39 U.vm ∧ U.heap = h0) (fun _ _ _ _ _ => True) (fun _ U o U' => ∃ v L, o = .returned v ∧ Q2 Z fa fb fp fq h0 n0 v U'.heap L ∧ FrameEnd U o U' L ({ frames := 2, cells := 0, slots := 0, locals := 24 } : Room).cells ({ frames := 2, cells := 0, slots := 0, locals := 24 } : Room).slots) := by
  refine MetFree.of_bodySF (plainFor_of_name pn_com_example_rangewell_rangewell_model_Family) hisR ?_
  intro p e s m args0 below meth c s₁ Bd hml0 hP hK
  obtain ⟨rfl, hZ, hh⟩ := hP
  have hx := Bd.exec
  have hby := Bd.bytes
  have hml : c.maxLocals = 5 := hml0
  have hown : s.vm.findClass "com/example/rangewell/rangewell/model/Family" = some m.cls := findClass_of_methodNamed Bd.named
  have hnm := (name_of_methodNamed Bd.named Bd.method).1
  have X0 : Stand p l e ({ frames := 2, cells := 0, slots := 0, locals := 24 } : Room) s m #[(.ref fa), (.ref fb), (.int fp), (.long fq)] below meth c s₁ [] 0 0 := Stand.of_body Bd
  have e0 : s₁.heap = h0 := by rw [← hh, Bd.state]; rfl
  have N0 := Fr.nil n0
  have pre0 : ∀ t, Steps p.tables e below (s₁.setTop (mkF m 0 #[.val (.ref fa), .val (.ref fb), .val (.int fp), .val (.long fq), .second] [])) t → Steps p.tables e below (s₁.setTop (entryFrame m #[(.ref fa), (.ref fb), (.int fp), (.long fq)] 5)) t := fun t k => castTop (ef_2 m fa fb fp fq) k
  have s3 : ∀ t, Steps p.tables e below (s₁.setTop (mkF m 1 #[.val (.ref fa), .val (.ref fb), .val (.int fp), .val (.long fq), .second] [(.ref fa)])) t → Steps p.tables e below (s₁.setTop (mkF m 0 #[.val (.ref fa), .val (.ref fb), .val (.int fp), .val (.long fq), .second] [])) t := by
    intro t kt
    refine XS.aloadN X0.here hx rfl (hb hby d2_0) rfl rfl ?_
    exact kt
  obtain ⟨_, _, ⟨T4, L4, k4, n4⟩, -, X4, ⟨Lc4, hQ4, l4, y4, z4⟩, st4⟩ := X0.specialBack hx (y := (⟨"java/lang/Record", "<init>", "()V"⟩ : MethodName)) rfl hown (mvT hZ (hw _ (List.mem_of_getElem? (i := 8) rfl))) (mvT hZ (hw _ (List.mem_of_getElem? (i := 9) rfl))) (mvT hZ (hw _ (List.mem_of_getElem? (i := 12) rfl))) (by decide) (backOf (W := 0) (rm1 l Z a0 hw [] fa h0 n0 Z0 ) hZ (hw _ (List.mem_of_getElem? (i := 12) rfl)) (hw _ (List.mem_of_getElem? (i := 11) rfl)) (by decide) (by decide)) (g := (mkF m 1 #[.val (.ref fa), .val (.ref fb), .val (.int fp), .val (.long fq), .second] [(.ref fa)])) rfl (by rw [hml]; rfl) (Steps.refl _) (a := fa) (argsL := []) (rest := []) (lenOf pd_ocV rfl) rfl (by show 2 * 0 + _ ≤ _; exact Nat.le_of_eq rfl) (hb hby d2_1) (fun _ _ => ⟨rfl, e0, (by decide : 0 + 0 ≤ _), (by decide : 0 + 0 ≤ _)⟩)
  dsimp only [Pt.U, Pt.locs, Pt.cells, Pt.slots] at X4 l4 y4 z4 st4 hQ4
  subst l4 y4 z4
  obtain ⟨rfl, N4q, e4q⟩ := hQ4
  have N4 := Fr.app N0 N4q
  have s5 : ∀ t, Steps p.tables e below (T4.setTop (mkF m 6 #[.val (.ref fa), .val (.ref fb), .val (.int fp), .val (.long fq), .second] [(.ref fb), (.ref fa)])) t → Steps p.tables e below (T4.setTop (mkF m 4 #[.val (.ref fa), .val (.ref fb), .val (.int fp), .val (.long fq), .second] [])) t := by
    intro t kt
    refine XS.aloadN X4.here hx rfl (hb hby d2_4) rfl rfl ?_
    show Steps p.tables e below (T4.setTop (mkF m 5 #[.val (.ref fa), .val (.ref fb), .val (.int fp), .val (.long fq), .second] [(.ref fa)])) t
    refine XS.aloadN X4.here hx rfl (hb hby d2_5) rfl rfl ?_
    exact kt
  obtain ⟨T6, h6, X6, e6, W6, st6⟩ := putF X4 hx hZ hown (host := "") (Or.inl (hw _ (List.mem_of_getElem? (i := 16) rfl))) Via.refl e4q F1 Ea (Or.inr ⟨(hw _ (List.mem_of_getElem? (i := 17) rfl)), rfl, hnm⟩) (hw _ (List.mem_of_getElem? (i := 2) rfl)) (ty := (.array .byte)) (by decide) rfl rfl (g := (mkF m 6 #[.val (.ref fa), .val (.ref fb), .val (.int fp), .val (.long fq), .second] [(.ref fb), (.ref fa)])) rfl rfl (hb hby d2_6)
  have Zs6 : n0 ≤ h6.size := Nat.le_trans Z0 (Keep.of_wr W6).1
  have fE7 := Ea.wr W6
  have fF8 := F1.same W6
  have fF9 := F2.other W6 (Or.inr (slot_ne (Or.inr (hw _ (List.mem_of_getElem? (i := 19) rfl))) (Or.inr (hw _ (List.mem_of_getElem? (i := 17) rfl))) (by decide) (t := .int) (t' := (.array .byte)) (by decide) (by decide)))
  have fF10 := F3.other W6 (Or.inr (slot_ne (Or.inr (hw _ (List.mem_of_getElem? (i := 21) rfl))) (Or.inr (hw _ (List.mem_of_getElem? (i := 17) rfl))) (by decide) (t := .long) (t' := (.array .byte)) (by decide) (by decide)))
  have K6 : Keep h0 h6 [fa] := (Keep.refl h0 [fa]).wr W6 (Or.inl (List.mem_of_getElem? (i := 0) rfl))
  have N6 := Fr.snoc X6 N4 Ga
  have s11 : ∀ t, Steps p.tables e below (T6.setTop (mkF m 11 #[.val (.ref fa), .val (.ref fb), .val (.int fp), .val (.long fq), .second] [(.int fp), (.ref fa)])) t → Steps p.tables e below (T6.setTop (mkF m 9 #[.val (.ref fa), .val (.ref fb), .val (.int fp), .val (.long fq), .second] [])) t := by
    intro t kt
    refine XS.aloadN X6.here hx rfl (hb hby d2_9) rfl rfl ?_
    show Steps p.tables e below (T6.setTop (mkF m 10 #[.val (.ref fa), .val (.ref fb), .val (.int fp), .val (.long fq), .second] [(.ref fa)])) t
    refine XS.iloadN X6.here hx rfl (hb hby d2_10) rfl ?_
    exact kt
  obtain ⟨T12, h12, X12, e12, W12, st12⟩ := putF X6 hx hZ hown (host := "") (Or.inl (hw _ (List.mem_of_getElem? (i := 18) rfl))) Via.refl e6 fF9 fE7 (Or.inr ⟨(hw _ (List.mem_of_getElem? (i := 19) rfl)), rfl, hnm⟩) (hw _ (List.mem_of_getElem? (i := 2) rfl)) (ty := .int) (by decide) rfl rfl (g := (mkF m 11 #[.val (.ref fa), .val (.ref fb), .val (.int fp), .val (.long fq), .second] [(.int fp), (.ref fa)])) rfl rfl (hb hby d2_11)
  have Zs12 : n0 ≤ h12.size := Nat.le_trans Zs6 (Keep.of_wr W12).1
  have fE13 := fE7.wr W12
  have fF14 := fF8.other W12 (Or.inr (slot_ne (Or.inr (hw _ (List.mem_of_getElem? (i := 17) rfl))) (Or.inr (hw _ (List.mem_of_getElem? (i := 19) rfl))) (by decide) (t := (.array .byte)) (t' := .int) (by decide) (by decide)))
  have fF15 := fF9.same W12
  have fF16 := fF10.other W12 (Or.inr (slot_ne (Or.inr (hw _ (List.mem_of_getElem? (i := 21) rfl))) (Or.inr (hw _ (List.mem_of_getElem? (i := 19) rfl))) (by decide) (t := .long) (t' := .int) (by decide) (by decide)))
  have K12 : Keep h0 h12 [fa] := K6.wr W12 (Or.inl (List.mem_of_getElem? (i := 0) rfl))
  have N12 := Fr.snoc X12 N6 Ga
  have s17 : ∀ t, Steps p.tables e below (T12.setTop (mkF m 16 #[.val (.ref fa), .val (.ref fb), .val (.int fp), .val (.long fq), .second] [(.long fq), (.ref fa)])) t → Steps p.tables e below (T12.setTop (mkF m 14 #[.val (.ref fa), .val (.ref fb), .val (.int fp), .val (.long fq), .second] [])) t := by
    intro t kt
    refine XS.aloadN X12.here hx rfl (hb hby d2_14) rfl rfl ?_
    show Steps p.tables e below (T12.setTop (mkF m 15 #[.val (.ref fa), .val (.ref fb), .val (.int fp), .val (.long fq), .second] [(.ref fa)])) t
    refine XS.lloadN X12.here hx rfl (hb hby d2_15) rfl ?_
    exact kt
  obtain ⟨T18, h18, X18, e18, W18, st18⟩ := putF X12 hx hZ hown (host := "") (Or.inl (hw _ (List.mem_of_getElem? (i := 20) rfl))) Via.refl e12 fF16 fE13 (Or.inr ⟨(hw _ (List.mem_of_getElem? (i := 21) rfl)), rfl, hnm⟩) (hw _ (List.mem_of_getElem? (i := 2) rfl)) (ty := .long) (by decide) rfl rfl (g := (mkF m 16 #[.val (.ref fa), .val (.ref fb), .val (.int fp), .val (.long fq), .second] [(.long fq), (.ref fa)])) rfl rfl (hb hby d2_16)
  have Zs18 : n0 ≤ h18.size := Nat.le_trans Zs12 (Keep.of_wr W18).1
  have fE19 := fE13.wr W18
  have fF20 := fF14.other W18 (Or.inr (slot_ne (Or.inr (hw _ (List.mem_of_getElem? (i := 17) rfl))) (Or.inr (hw _ (List.mem_of_getElem? (i := 21) rfl))) (by decide) (t := (.array .byte)) (t' := .long) (by decide) (by decide)))
  have fF21 := fF15.other W18 (Or.inr (slot_ne (Or.inr (hw _ (List.mem_of_getElem? (i := 19) rfl))) (Or.inr (hw _ (List.mem_of_getElem? (i := 21) rfl))) (by decide) (t := .int) (t' := .long) (by decide) (by decide)))
  have fF22 := fF16.same W18
  have K18 : Keep h0 h18 [fa] := K12.wr W18 (Or.inl (List.mem_of_getElem? (i := 0) rfl))
  have N18 := Fr.snoc X18 N12 Ga
  obtain ⟨fs_, hr, hrun, hended, hW, hsame⟩ := X18.leave (v := none) (fun _ => rfl)
  refine ⟨_, _, pre0 _ (s3 _ (st4.trans (s5 _ (st6 _ (s11 _ (st12 _ (s17 _ (st18 _ (?_))))))))), hrun, hended, _, _, rfl, ?_, ⟨_, rfl⟩, hW, hsame.mono (by decide) (by decide)⟩
  · show Steps p.tables e below (T18.setTop (mkF m 19 #[.val (.ref fa), .val (.ref fb), .val (.int fp), .val (.long fq), .second] [])) _
    exact X18.returnOut hx Bd.returns (hb hby d2_19) hr
  · show Q2 Z fa fb fp fq h0 n0 _ T18.heap _
    rw [e18]
    exact ⟨rfl, N18, K18, fE19, fF22⟩
def Q3 (Z : State) (oa : Addr) (oq : Int64) (on : Int64) (h0 : Heap) (n0 : Nat) (v : Option Value) (h : Heap) (L : List Loc) : Prop := v = some (.long (folb oq on)) ∧ Fr n0 L ∧ h = h0
set_option maxRecDepth 65536 in
set_option maxHeartbeats 40000000 in
theorem rm3 (l : Launch) (Z : State) (a0 : Array Value) (hw : ∀ d ∈ tables_1, d.before a0 Z = true) (ws : List Jvm.Cond) (oa : Addr) (oq : Int64) (on : Int64) (h0 : Heap) (n0 : Nat) (Z0 : n0 ≤ h0.size) (F1 : Fld Z h0 oa "com/example/rangewell/rangewell/model/Family" "ttlSeconds" "J" (.long oq)) :
    MetFree l (⟨"com/example/rangewell/rangewell/model/Family", "oldestLive", "(J)J"⟩ : MethodName) (head1 (Jvm.Cond.code (⟨"com/example/rangewell/rangewell/model/Family", "oldestLive", "(J)J"⟩ : MethodName) prog_37_method_4_code 5 (some .long) :: ws) ({ frames := 0, cells := 0, slots := 0, locals := 0 } : Room)) (fun a U => a = #[(.ref oa), (.long on)] ∧ Z.Warmed39 U.vm ∧ U.heap = h0) (fun _ _ _ _ _ => True) (fun _ U o U' => ∃ v L, o = .returned v ∧ Q3 Z oa oq on h0 n0 v U'.heap L ∧ FrameEnd U o U' L ({ frames := 0, cells := 0, slots := 0, locals := 0 } : Room).cells ({ frames := 0, cells := 0, slots := 0, locals := 0 } : Room).slots) := by
  refine MetFree.of_bodySF (plainFor_of_name pn_com_example_rangewell_rangewell_model_Family) hisR ?_
  intro p e s m args0 below meth c s₁ Bd hml0 hP hK
  obtain ⟨rfl, hZ, hh⟩ := hP
  have hx := Bd.exec
  have hby := Bd.bytes
  have hml : c.maxLocals = 5 := hml0
  have hown : s.vm.findClass "com/example/rangewell/rangewell/model/Family" = some m.cls := findClass_of_methodNamed Bd.named
  have hnm := (name_of_methodNamed Bd.named Bd.method).1
  have X0 : Stand p l e ({ frames := 0, cells := 0, slots := 0, locals := 0 } : Room) s m #[(.ref oa), (.long on)] below meth c s₁ [] 0 0 := Stand.of_body Bd
  have e0 : s₁.heap = h0 := by rw [← hh, Bd.state]; rfl
  have N0 := Fr.nil n0
  have pre0 : ∀ t, Steps p.tables e below (s₁.setTop (mkF m 0 #[.val (.ref oa), .val (.long on), .second, .unset, .unset] [])) t → Steps p.tables e below (s₁.setTop (entryFrame m #[(.ref oa), (.long on)] 5)) t := fun t k => castTop (ef_3 m oa on) k
  have s23 : ∀ t, Steps p.tables e below (s₁.setTop (mkF m 1 #[.val (.ref oa), .val (.long on), .second, .unset, .unset] [(.ref oa)])) t → Steps p.tables e below (s₁.setTop (mkF m 0 #[.val (.ref oa), .val (.long on), .second, .unset, .unset] [])) t := by
    intro t kt
    refine XS.aloadN X0.here hx rfl (hb hby d3_0) rfl rfl ?_
    exact kt
  obtain ⟨T24, X24, e24, st24⟩ := getF X0 hx hZ hown (host := "") (Or.inl (hw _ (List.mem_of_getElem? (i := 20) rfl))) Via.refl e0 F1 (g := (mkF m 1 #[.val (.ref oa), .val (.long on), .second, .unset, .unset] [(.ref oa)])) rfl rfl (hb hby d3_1)
  have s25 : ∀ t, Steps p.tables e below (T24.setTop (mkF m 8 #[.val (.ref oa), .val (.long on), .second, .unset, .unset] [(.int (lcmpW oq (9223372036854775 : Int64)))])) t → Steps p.tables e below (T24.setTop (mkF m 4 #[.val (.ref oa), .val (.long on), .second, .unset, .unset] [(.long oq)])) t := by
    intro t kt
    refine X24.ldc2Long hx hown (mvT hZ (hw _ (List.mem_of_getElem? (i := 27) rfl))) (g := (mkF m 4 #[.val (.ref oa), .val (.long on), .second, .unset, .unset] [(.long oq)])) rfl (hb hby d3_4) _ ?_
    show Steps p.tables e below (T24.setTop (mkF m 7 #[.val (.ref oa), .val (.long on), .second, .unset, .unset] [(.long (9223372036854775 : Int64)), (.long oq)])) t
    refine XS.lcmp X24.here hx rfl (hb hby d3_7) rfl ?_
    exact kt
  obtain ⟨T44, lc45, w43, X46, e47, N48, rfl, j49⟩ : ∃ (T44 : State) (lc45 : List Loc) (w43 : Int64), Stand p l e ({ frames := 0, cells := 0, slots := 0, locals := 0 } : Room) s m #[(.ref oa), (.long on)] below meth c T44 lc45 0 0 ∧ T44.heap = h0 ∧ Fr n0 lc45 ∧ w43 = (if (9223372036854775 : Int64) < oq then (-9223372036854775808 : Int64) else (if on < ((-9223372036854775808 : Int64) + (oq * (1000 : Int64))) then (-9223372036854775808 : Int64) else (on - (oq * (1000 : Int64))))) ∧ ∀ t, Steps p.tables e below (T44.setTop (mkF m 46 #[.val (.ref oa), .val (.long on), .second, .val (.long w43), .second] [])) t → Steps p.tables e below (T24.setTop (mkF m 8 #[.val (.ref oa), .val (.long on), .second, .unset, .unset] [(.int (lcmpW oq (9223372036854775 : Int64)))])) t := by
    by_cases c26 : (9223372036854775 : Int64) < oq
    ·
      have s27 : ∀ t, Steps p.tables e below (T24.setTop (mkF m 46 #[.val (.ref oa), .val (.long on), .second, .val (.long (-9223372036854775808 : Int64)), .second] [])) t → Steps p.tables e below (T24.setTop (mkF m 8 #[.val (.ref oa), .val (.long on), .second, .unset, .unset] [(.int (lcmpW oq (9223372036854775 : Int64)))])) t := by
        intro t kt
        refine XS.ifYes X24.here hx rfl (pc0 := 8) (pc' := 28) rfl (hb hby d3_8) rfl ((if0 _ _).trans (tlt ((lw_gt _ _).mpr c26)).2.2.1) (by decide) (by decide) ?_
        show Steps p.tables e below (T24.setTop (mkF m 28 #[.val (.ref oa), .val (.long on), .second, .unset, .unset] [])) t
        refine X24.ldc2Long hx hown (mvT hZ (hw _ (List.mem_of_getElem? (i := 28) rfl))) (g := (mkF m 28 #[.val (.ref oa), .val (.long on), .second, .unset, .unset] [])) rfl (hb hby d3_28) _ ?_
        show Steps p.tables e below (T24.setTop (mkF m 31 #[.val (.ref oa), .val (.long on), .second, .unset, .unset] [(.long (-9223372036854775808 : Int64))])) t
        refine XS.lstoreN X24.here hx rfl (hb hby d3_31) rfl (l' := #[.val (.ref oa), .val (.long on), .second, .val (.long (-9223372036854775808 : Int64)), .second]) rfl ?_
        show Steps p.tables e below (T24.setTop (mkF m 32 #[.val (.ref oa), .val (.long on), .second, .val (.long (-9223372036854775808 : Int64)), .second] [])) t
        refine XS.goto X24.here hx rfl (pc0 := 32) (pc' := 46) rfl (hb hby d3_32) (by decide) (by decide) ?_
        exact kt
      exact ⟨T24, _, (-9223372036854775808 : Int64), X24, e24, N0, (if_pos c26).symm, fun t kt => s27 _ (kt)⟩
    ·
      have s28 : ∀ t, Steps p.tables e below (T24.setTop (mkF m 16 #[.val (.ref oa), .val (.long on), .second, .unset, .unset] [(.ref oa), (.long (-9223372036854775808 : Int64)), (.long on)])) t → Steps p.tables e below (T24.setTop (mkF m 8 #[.val (.ref oa), .val (.long on), .second, .unset, .unset] [(.int (lcmpW oq (9223372036854775 : Int64)))])) t := by
        intro t kt
        refine XS.ifNo X24.here hx rfl (hb hby d3_8) rfl ((if0 _ _).trans (flt (mt (lw_gt _ _).mp c26)).2.2.1) ?_
        show Steps p.tables e below (T24.setTop (mkF m 11 #[.val (.ref oa), .val (.long on), .second, .unset, .unset] [])) t
        refine XS.lloadN X24.here hx rfl (hb hby d3_11) rfl ?_
        show Steps p.tables e below (T24.setTop (mkF m 12 #[.val (.ref oa), .val (.long on), .second, .unset, .unset] [(.long on)])) t
        refine X24.ldc2Long hx hown (mvT hZ (hw _ (List.mem_of_getElem? (i := 28) rfl))) (g := (mkF m 12 #[.val (.ref oa), .val (.long on), .second, .unset, .unset] [(.long on)])) rfl (hb hby d3_12) _ ?_
        show Steps p.tables e below (T24.setTop (mkF m 15 #[.val (.ref oa), .val (.long on), .second, .unset, .unset] [(.long (-9223372036854775808 : Int64)), (.long on)])) t
        refine XS.aloadN X24.here hx rfl (hb hby d3_15) rfl rfl ?_
        exact kt
      obtain ⟨T29, X29, e29, st29⟩ := getF X24 hx hZ hown (host := "") (Or.inl (hw _ (List.mem_of_getElem? (i := 20) rfl))) Via.refl e24 F1 (g := (mkF m 16 #[.val (.ref oa), .val (.long on), .second, .unset, .unset] [(.ref oa), (.long (-9223372036854775808 : Int64)), (.long on)])) rfl rfl (hb hby d3_16)
      have s30 : ∀ t, Steps p.tables e below (T29.setTop (mkF m 25 #[.val (.ref oa), .val (.long on), .second, .unset, .unset] [(.int (lcmpW on ((-9223372036854775808 : Int64) + (oq * (1000 : Int64)))))])) t → Steps p.tables e below (T29.setTop (mkF m 19 #[.val (.ref oa), .val (.long on), .second, .unset, .unset] [(.long oq), (.long (-9223372036854775808 : Int64)), (.long on)])) t := by
        intro t kt
        refine X29.ldc2Long hx hown (mvT hZ (hw _ (List.mem_of_getElem? (i := 29) rfl))) (g := (mkF m 19 #[.val (.ref oa), .val (.long on), .second, .unset, .unset] [(.long oq), (.long (-9223372036854775808 : Int64)), (.long on)])) rfl (hb hby d3_19) _ ?_
        show Steps p.tables e below (T29.setTop (mkF m 22 #[.val (.ref oa), .val (.long on), .second, .unset, .unset] [(.long (1000 : Int64)), (.long oq), (.long (-9223372036854775808 : Int64)), (.long on)])) t
        refine XS.lmul X29.here hx rfl (hb hby d3_22) rfl ?_
        show Steps p.tables e below (T29.setTop (mkF m 23 #[.val (.ref oa), .val (.long on), .second, .unset, .unset] [(.long (oq * (1000 : Int64))), (.long (-9223372036854775808 : Int64)), (.long on)])) t
        refine XS.ladd X29.here hx rfl (hb hby d3_23) rfl ?_
        show Steps p.tables e below (T29.setTop (mkF m 24 #[.val (.ref oa), .val (.long on), .second, .unset, .unset] [(.long ((-9223372036854775808 : Int64) + (oq * (1000 : Int64)))), (.long on)])) t
        refine XS.lcmp X29.here hx rfl (hb hby d3_24) rfl ?_
        exact kt
      obtain ⟨T37, lc38, w36, X39, e40, N41, rfl, j42⟩ : ∃ (T37 : State) (lc38 : List Loc) (w36 : Int64), Stand p l e ({ frames := 0, cells := 0, slots := 0, locals := 0 } : Room) s m #[(.ref oa), (.long on)] below meth c T37 lc38 0 0 ∧ T37.heap = h0 ∧ Fr n0 lc38 ∧ w36 = (if on < ((-9223372036854775808 : Int64) + (oq * (1000 : Int64))) then (-9223372036854775808 : Int64) else (on - (oq * (1000 : Int64)))) ∧ ∀ t, Steps p.tables e below (T37.setTop (mkF m 46 #[.val (.ref oa), .val (.long on), .second, .val (.long w36), .second] [])) t → Steps p.tables e below (T29.setTop (mkF m 25 #[.val (.ref oa), .val (.long on), .second, .unset, .unset] [(.int (lcmpW on ((-9223372036854775808 : Int64) + (oq * (1000 : Int64)))))])) t := by
        by_cases c31 : on < ((-9223372036854775808 : Int64) + (oq * (1000 : Int64)))
        ·
          have s35 : ∀ t, Steps p.tables e below (T29.setTop (mkF m 46 #[.val (.ref oa), .val (.long on), .second, .val (.long (-9223372036854775808 : Int64)), .second] [])) t → Steps p.tables e below (T29.setTop (mkF m 25 #[.val (.ref oa), .val (.long on), .second, .unset, .unset] [(.int (lcmpW on ((-9223372036854775808 : Int64) + (oq * (1000 : Int64)))))])) t := by
            intro t kt
            refine XS.ifNo X29.here hx rfl (hb hby d3_25) rfl ((if0 _ _).trans (tlt ((lw_lt _ _).mpr c31)).2.1) ?_
            show Steps p.tables e below (T29.setTop (mkF m 28 #[.val (.ref oa), .val (.long on), .second, .unset, .unset] [])) t
            refine X29.ldc2Long hx hown (mvT hZ (hw _ (List.mem_of_getElem? (i := 28) rfl))) (g := (mkF m 28 #[.val (.ref oa), .val (.long on), .second, .unset, .unset] [])) rfl (hb hby d3_28) _ ?_
            show Steps p.tables e below (T29.setTop (mkF m 31 #[.val (.ref oa), .val (.long on), .second, .unset, .unset] [(.long (-9223372036854775808 : Int64))])) t
            refine XS.lstoreN X29.here hx rfl (hb hby d3_31) rfl (l' := #[.val (.ref oa), .val (.long on), .second, .val (.long (-9223372036854775808 : Int64)), .second]) rfl ?_
            show Steps p.tables e below (T29.setTop (mkF m 32 #[.val (.ref oa), .val (.long on), .second, .val (.long (-9223372036854775808 : Int64)), .second] [])) t
            refine XS.goto X29.here hx rfl (pc0 := 32) (pc' := 46) rfl (hb hby d3_32) (by decide) (by decide) ?_
            exact kt
          exact ⟨T29, _, (-9223372036854775808 : Int64), X29, e29, N0, (if_pos c31).symm, fun t kt => s35 _ (kt)⟩
        ·
          have s32 : ∀ t, Steps p.tables e below (T29.setTop (mkF m 37 #[.val (.ref oa), .val (.long on), .second, .unset, .unset] [(.ref oa), (.long on)])) t → Steps p.tables e below (T29.setTop (mkF m 25 #[.val (.ref oa), .val (.long on), .second, .unset, .unset] [(.int (lcmpW on ((-9223372036854775808 : Int64) + (oq * (1000 : Int64)))))])) t := by
            intro t kt
            refine XS.ifYes X29.here hx rfl (pc0 := 25) (pc' := 35) rfl (hb hby d3_25) rfl ((if0 _ _).trans (flt (mt (lw_lt _ _).mp c31)).2.1) (by decide) (by decide) ?_
            show Steps p.tables e below (T29.setTop (mkF m 35 #[.val (.ref oa), .val (.long on), .second, .unset, .unset] [])) t
            refine XS.lloadN X29.here hx rfl (hb hby d3_35) rfl ?_
            show Steps p.tables e below (T29.setTop (mkF m 36 #[.val (.ref oa), .val (.long on), .second, .unset, .unset] [(.long on)])) t
            refine XS.aloadN X29.here hx rfl (hb hby d3_36) rfl rfl ?_
            exact kt
          obtain ⟨T33, X33, e33, st33⟩ := getF X29 hx hZ hown (host := "") (Or.inl (hw _ (List.mem_of_getElem? (i := 20) rfl))) Via.refl e29 F1 (g := (mkF m 37 #[.val (.ref oa), .val (.long on), .second, .unset, .unset] [(.ref oa), (.long on)])) rfl rfl (hb hby d3_37)
          have s34 : ∀ t, Steps p.tables e below (T33.setTop (mkF m 46 #[.val (.ref oa), .val (.long on), .second, .val (.long (on - (oq * (1000 : Int64)))), .second] [])) t → Steps p.tables e below (T33.setTop (mkF m 40 #[.val (.ref oa), .val (.long on), .second, .unset, .unset] [(.long oq), (.long on)])) t := by
            intro t kt
            refine X33.ldc2Long hx hown (mvT hZ (hw _ (List.mem_of_getElem? (i := 29) rfl))) (g := (mkF m 40 #[.val (.ref oa), .val (.long on), .second, .unset, .unset] [(.long oq), (.long on)])) rfl (hb hby d3_40) _ ?_
            show Steps p.tables e below (T33.setTop (mkF m 43 #[.val (.ref oa), .val (.long on), .second, .unset, .unset] [(.long (1000 : Int64)), (.long oq), (.long on)])) t
            refine XS.lmul X33.here hx rfl (hb hby d3_43) rfl ?_
            show Steps p.tables e below (T33.setTop (mkF m 44 #[.val (.ref oa), .val (.long on), .second, .unset, .unset] [(.long (oq * (1000 : Int64))), (.long on)])) t
            refine XS.lsub X33.here hx rfl (hb hby d3_44) rfl ?_
            show Steps p.tables e below (T33.setTop (mkF m 45 #[.val (.ref oa), .val (.long on), .second, .unset, .unset] [(.long (on - (oq * (1000 : Int64))))])) t
            refine XS.lstoreN X33.here hx rfl (hb hby d3_45) rfl (l' := #[.val (.ref oa), .val (.long on), .second, .val (.long (on - (oq * (1000 : Int64)))), .second]) rfl ?_
            exact kt
          exact ⟨T33, _, (on - (oq * (1000 : Int64))), X33, e33, N0, (if_neg c31).symm, fun t kt => s32 _ (st33 _ (s34 _ (kt)))⟩
      exact ⟨T37, _, (if on < ((-9223372036854775808 : Int64) + (oq * (1000 : Int64))) then (-9223372036854775808 : Int64) else (on - (oq * (1000 : Int64)))), X39, e40, N41, (if_neg c26).symm, fun t kt => s28 _ (st29 _ (s30 _ (j42 _ (kt))))⟩
  have s50 : ∀ t, Steps p.tables e below (T44.setTop (mkF m 47 #[.val (.ref oa), .val (.long on), .second, .val (.long (if (9223372036854775 : Int64) < oq then (-9223372036854775808 : Int64) else (if on < ((-9223372036854775808 : Int64) + (oq * (1000 : Int64))) then (-9223372036854775808 : Int64) else (on - (oq * (1000 : Int64)))))), .second] [(.long (if (9223372036854775 : Int64) < oq then (-9223372036854775808 : Int64) else (if on < ((-9223372036854775808 : Int64) + (oq * (1000 : Int64))) then (-9223372036854775808 : Int64) else (on - (oq * (1000 : Int64))))))])) t → Steps p.tables e below (T44.setTop (mkF m 46 #[.val (.ref oa), .val (.long on), .second, .val (.long (if (9223372036854775 : Int64) < oq then (-9223372036854775808 : Int64) else (if on < ((-9223372036854775808 : Int64) + (oq * (1000 : Int64))) then (-9223372036854775808 : Int64) else (on - (oq * (1000 : Int64)))))), .second] [])) t := by
    intro t kt
    refine XS.lloadN X46.here hx rfl (hb hby d3_46) rfl ?_
    exact kt
  obtain ⟨fs_, hr, hrun, hended, hW, hsame⟩ := X46.leave (v := some (.long (if (9223372036854775 : Int64) < oq then (-9223372036854775808 : Int64) else (if on < ((-9223372036854775808 : Int64) + (oq * (1000 : Int64))) then (-9223372036854775808 : Int64) else (on - (oq * (1000 : Int64))))))) (fun h => by rw [Bd.returns] at h; cases h)
  refine ⟨_, _, pre0 _ (s23 _ (st24 _ (s25 _ (j49 _ (s50 _ (?_)))))), hrun, hended, _, _, rfl, ?_, ⟨_, rfl⟩, hW, hsame.mono (by decide) (by decide)⟩
  · show Steps p.tables e below (T44.setTop (mkF m 47 #[.val (.ref oa), .val (.long on), .second, .val (.long (if (9223372036854775 : Int64) < oq then (-9223372036854775808 : Int64) else (if on < ((-9223372036854775808 : Int64) + (oq * (1000 : Int64))) then (-9223372036854775808 : Int64) else (on - (oq * (1000 : Int64)))))), .second] [(.long (if (9223372036854775 : Int64) < oq then (-9223372036854775808 : Int64) else (if on < ((-9223372036854775808 : Int64) + (oq * (1000 : Int64))) then (-9223372036854775808 : Int64) else (on - (oq * (1000 : Int64))))))])) _
    exact X46.lreturnOut hx Bd.returns (hb hby d3_47) hr
  · show Q3 Z oa oq on h0 n0 _ T44.heap _
    rw [e47]
    exact ⟨rfl, N48, rfl⟩
def Q4 (Z : State) (u0 : Int64) (u1 : Int64) (h0 : Heap) (n0 : Nat) (v : Option Value) (h : Heap) (L : List Loc) : Prop := v = some (.long (fexp u0 u1)) ∧ Fr n0 L ∧ h = h0
set_option maxRecDepth 65536 in
set_option maxHeartbeats 40000000 in
theorem rm4 (l : Launch) (Z : State) (a0 : Array Value) (hw : ∀ d ∈ tables_1, d.before a0 Z = true) (ws : List Jvm.Cond) (u0 : Int64) (u1 : Int64) (h0 : Heap) (n0 : Nat) (Z0 : n0 ≤ h0.size)  :
    MetFree l (⟨"com/example/rangewell/rangewell/model/FamilyOldestLivePinLaw", "expected", "(JJ)J"⟩ : MethodName) (head1 (Jvm.Cond.code (⟨"com/example/rangewell/rangewell/model/FamilyOldestLivePinLaw", "expected", "(JJ)J"⟩ : MethodName) method_2_code 8 (some .long) :: ws) ({ frames := 0, cells := 0, slots := 0, locals := 0 } : Room)) (fun a U => a = #[(.long u0), (.long u1)] ∧ Z.Warmed39 U.vm ∧ U.heap = h0) (fun _ _ _ _ _ => True) (fun _ U o U' => ∃ v L, o = .returned v ∧ Q4 Z u0 u1 h0 n0 v U'.heap L ∧ FrameEnd U o U' L ({ frames := 0, cells := 0, slots := 0, locals := 0 } : Room).cells ({ frames := 0, cells := 0, slots := 0, locals := 0 } : Room).slots) := by
  refine MetFree.of_bodySF (plainFor_of_name pn_com_example_rangewell_rangewell_model_FamilyOldestLivePinLaw) hisR ?_
  intro p e s m args0 below meth c s₁ Bd hml0 hP hK
  obtain ⟨rfl, hZ, hh⟩ := hP
  have hx := Bd.exec
  have hby := Bd.bytes
  have hml : c.maxLocals = 8 := hml0
  have hown : s.vm.findClass "com/example/rangewell/rangewell/model/FamilyOldestLivePinLaw" = some m.cls := findClass_of_methodNamed Bd.named
  have hnm := (name_of_methodNamed Bd.named Bd.method).1
  have X0 : Stand p l e ({ frames := 0, cells := 0, slots := 0, locals := 0 } : Room) s m #[(.long u0), (.long u1)] below meth c s₁ [] 0 0 := Stand.of_body Bd
  have e0 : s₁.heap = h0 := by rw [← hh, Bd.state]; rfl
  have N0 := Fr.nil n0
  have pre0 : ∀ t, Steps p.tables e below (s₁.setTop (mkF m 0 #[.val (.long u0), .second, .val (.long u1), .second, .unset, .unset, .unset, .unset] [])) t → Steps p.tables e below (s₁.setTop (entryFrame m #[(.long u0), (.long u1)] 8)) t := fun t k => castTop (ef_4 m u0 u1) k
  have s51 : ∀ t, Steps p.tables e below (s₁.setTop (mkF m 15 #[.val (.long u0), .second, .val (.long u1), .second, .val (.long (u0 * (1000 : Int64))), .second, .unset, .unset] [(.int (lcmpW ((u0 * (1000 : Int64)) / (1000 : Int64)) u0))])) t → Steps p.tables e below (s₁.setTop (mkF m 0 #[.val (.long u0), .second, .val (.long u1), .second, .unset, .unset, .unset, .unset] [])) t := by
    intro t kt
    refine XS.lloadN X0.here hx rfl (hb hby d4_0) rfl ?_
    show Steps p.tables e below (s₁.setTop (mkF m 1 #[.val (.long u0), .second, .val (.long u1), .second, .unset, .unset, .unset, .unset] [(.long u0)])) t
    refine X0.ldc2Long hx hown (mvT hZ (hw _ (List.mem_of_getElem? (i := 34) rfl))) (g := (mkF m 1 #[.val (.long u0), .second, .val (.long u1), .second, .unset, .unset, .unset, .unset] [(.long u0)])) rfl (hb hby d4_1) _ ?_
    show Steps p.tables e below (s₁.setTop (mkF m 4 #[.val (.long u0), .second, .val (.long u1), .second, .unset, .unset, .unset, .unset] [(.long (1000 : Int64)), (.long u0)])) t
    refine XS.lmul X0.here hx rfl (hb hby d4_4) rfl ?_
    show Steps p.tables e below (s₁.setTop (mkF m 5 #[.val (.long u0), .second, .val (.long u1), .second, .unset, .unset, .unset, .unset] [(.long (u0 * (1000 : Int64)))])) t
    refine XS.lstore X0.here hx rfl (hb hby d4_5) rfl (l' := #[.val (.long u0), .second, .val (.long u1), .second, .val (.long (u0 * (1000 : Int64))), .second, .unset, .unset]) rfl ?_
    show Steps p.tables e below (s₁.setTop (mkF m 7 #[.val (.long u0), .second, .val (.long u1), .second, .val (.long (u0 * (1000 : Int64))), .second, .unset, .unset] [])) t
    refine XS.lload X0.here hx rfl (hb hby d4_7) rfl ?_
    show Steps p.tables e below (s₁.setTop (mkF m 9 #[.val (.long u0), .second, .val (.long u1), .second, .val (.long (u0 * (1000 : Int64))), .second, .unset, .unset] [(.long (u0 * (1000 : Int64)))])) t
    refine X0.ldc2Long hx hown (mvT hZ (hw _ (List.mem_of_getElem? (i := 34) rfl))) (g := (mkF m 9 #[.val (.long u0), .second, .val (.long u1), .second, .val (.long (u0 * (1000 : Int64))), .second, .unset, .unset] [(.long (u0 * (1000 : Int64)))])) rfl (hb hby d4_9) _ ?_
    show Steps p.tables e below (s₁.setTop (mkF m 12 #[.val (.long u0), .second, .val (.long u1), .second, .val (.long (u0 * (1000 : Int64))), .second, .unset, .unset] [(.long (1000 : Int64)), (.long (u0 * (1000 : Int64)))])) t
    refine XS.ldiv X0.here hx rfl (hb hby d4_12) rfl (by decide) ?_
    show Steps p.tables e below (s₁.setTop (mkF m 13 #[.val (.long u0), .second, .val (.long u1), .second, .val (.long (u0 * (1000 : Int64))), .second, .unset, .unset] [(.long ((u0 * (1000 : Int64)) / (1000 : Int64)))])) t
    refine XS.lloadN X0.here hx rfl (hb hby d4_13) rfl ?_
    show Steps p.tables e below (s₁.setTop (mkF m 14 #[.val (.long u0), .second, .val (.long u1), .second, .val (.long (u0 * (1000 : Int64))), .second, .unset, .unset] [(.long u0), (.long ((u0 * (1000 : Int64)) / (1000 : Int64)))])) t
    refine XS.lcmp X0.here hx rfl (hb hby d4_14) rfl ?_
    exact kt
  by_cases c52 : ((u0 * (1000 : Int64)) / (1000 : Int64)) = u0
  ·
    have s53 : ∀ t, Steps p.tables e below (s₁.setTop (mkF m 32 #[.val (.long u0), .second, .val (.long u1), .second, .val (.long (u0 * (1000 : Int64))), .second, .val (.long (u1 - (u0 * (1000 : Int64)))), .second] [(.int (lcmpW (u1 - (u0 * (1000 : Int64))) u1))])) t → Steps p.tables e below (s₁.setTop (mkF m 15 #[.val (.long u0), .second, .val (.long u1), .second, .val (.long (u0 * (1000 : Int64))), .second, .unset, .unset] [(.int (lcmpW ((u0 * (1000 : Int64)) / (1000 : Int64)) u0))])) t := by
      intro t kt
      refine XS.ifYes X0.here hx rfl (pc0 := 15) (pc' := 22) rfl (hb hby d4_15) rfl ((if0 _ _).trans (teq ((lw_eq _ _).mpr c52)).1) (by decide) (by decide) ?_
      show Steps p.tables e below (s₁.setTop (mkF m 22 #[.val (.long u0), .second, .val (.long u1), .second, .val (.long (u0 * (1000 : Int64))), .second, .unset, .unset] [])) t
      refine XS.lloadN X0.here hx rfl (hb hby d4_22) rfl ?_
      show Steps p.tables e below (s₁.setTop (mkF m 23 #[.val (.long u0), .second, .val (.long u1), .second, .val (.long (u0 * (1000 : Int64))), .second, .unset, .unset] [(.long u1)])) t
      refine XS.lload X0.here hx rfl (hb hby d4_23) rfl ?_
      show Steps p.tables e below (s₁.setTop (mkF m 25 #[.val (.long u0), .second, .val (.long u1), .second, .val (.long (u0 * (1000 : Int64))), .second, .unset, .unset] [(.long (u0 * (1000 : Int64))), (.long u1)])) t
      refine XS.lsub X0.here hx rfl (hb hby d4_25) rfl ?_
      show Steps p.tables e below (s₁.setTop (mkF m 26 #[.val (.long u0), .second, .val (.long u1), .second, .val (.long (u0 * (1000 : Int64))), .second, .unset, .unset] [(.long (u1 - (u0 * (1000 : Int64))))])) t
      refine XS.lstore X0.here hx rfl (hb hby d4_26) rfl (l' := #[.val (.long u0), .second, .val (.long u1), .second, .val (.long (u0 * (1000 : Int64))), .second, .val (.long (u1 - (u0 * (1000 : Int64)))), .second]) rfl ?_
      show Steps p.tables e below (s₁.setTop (mkF m 28 #[.val (.long u0), .second, .val (.long u1), .second, .val (.long (u0 * (1000 : Int64))), .second, .val (.long (u1 - (u0 * (1000 : Int64)))), .second] [])) t
      refine XS.lload X0.here hx rfl (hb hby d4_28) rfl ?_
      show Steps p.tables e below (s₁.setTop (mkF m 30 #[.val (.long u0), .second, .val (.long u1), .second, .val (.long (u0 * (1000 : Int64))), .second, .val (.long (u1 - (u0 * (1000 : Int64)))), .second] [(.long (u1 - (u0 * (1000 : Int64))))])) t
      refine XS.lloadN X0.here hx rfl (hb hby d4_30) rfl ?_
      show Steps p.tables e below (s₁.setTop (mkF m 31 #[.val (.long u0), .second, .val (.long u1), .second, .val (.long (u0 * (1000 : Int64))), .second, .val (.long (u1 - (u0 * (1000 : Int64)))), .second] [(.long u1), (.long (u1 - (u0 * (1000 : Int64))))])) t
      refine XS.lcmp X0.here hx rfl (hb hby d4_31) rfl ?_
      exact kt
    by_cases c54 : u1 < (u1 - (u0 * (1000 : Int64)))
    ·
      have s55 : ∀ t, Steps p.tables e below (s₁.setTop (mkF m 38 #[.val (.long u0), .second, .val (.long u1), .second, .val (.long (u0 * (1000 : Int64))), .second, .val (.long (u1 - (u0 * (1000 : Int64)))), .second] [(.long (-9223372036854775808 : Int64))])) t → Steps p.tables e below (s₁.setTop (mkF m 32 #[.val (.long u0), .second, .val (.long u1), .second, .val (.long (u0 * (1000 : Int64))), .second, .val (.long (u1 - (u0 * (1000 : Int64)))), .second] [(.int (lcmpW (u1 - (u0 * (1000 : Int64))) u1))])) t := by
        intro t kt
        refine XS.ifNo X0.here hx rfl (hb hby d4_32) rfl ((if0 _ _).trans (tlt ((lw_gt _ _).mpr c54)).2.2.2) ?_
        show Steps p.tables e below (s₁.setTop (mkF m 35 #[.val (.long u0), .second, .val (.long u1), .second, .val (.long (u0 * (1000 : Int64))), .second, .val (.long (u1 - (u0 * (1000 : Int64)))), .second] [])) t
        refine X0.ldc2Long hx hown (mvT hZ (hw _ (List.mem_of_getElem? (i := 35) rfl))) (g := (mkF m 35 #[.val (.long u0), .second, .val (.long u1), .second, .val (.long (u0 * (1000 : Int64))), .second, .val (.long (u1 - (u0 * (1000 : Int64)))), .second] [])) rfl (hb hby d4_35) _ ?_
        exact kt
      obtain ⟨fs_, hr, hrun, hended, hW, hsame⟩ := X0.leave (v := some (.long (-9223372036854775808 : Int64))) (fun h => by rw [Bd.returns] at h; cases h)
      refine ⟨_, _, pre0 _ (s51 _ (s53 _ (s55 _ (?_)))), hrun, hended, _, _, rfl, ?_, ⟨_, rfl⟩, hW, hsame.mono (by decide) (by decide)⟩
      · show Steps p.tables e below (s₁.setTop (mkF m 38 #[.val (.long u0), .second, .val (.long u1), .second, .val (.long (u0 * (1000 : Int64))), .second, .val (.long (u1 - (u0 * (1000 : Int64)))), .second] [(.long (-9223372036854775808 : Int64))])) _
        exact X0.lreturnOut hx Bd.returns (hb hby d4_38) hr
      · show Q4 Z u0 u1 h0 n0 _ s₁.heap _
        rw [e0]
        exact ⟨by simp only [fexp, if_pos c52, if_pos c54], N0, rfl⟩
    ·
      have s56 : ∀ t, Steps p.tables e below (s₁.setTop (mkF m 41 #[.val (.long u0), .second, .val (.long u1), .second, .val (.long (u0 * (1000 : Int64))), .second, .val (.long (u1 - (u0 * (1000 : Int64)))), .second] [(.long (u1 - (u0 * (1000 : Int64))))])) t → Steps p.tables e below (s₁.setTop (mkF m 32 #[.val (.long u0), .second, .val (.long u1), .second, .val (.long (u0 * (1000 : Int64))), .second, .val (.long (u1 - (u0 * (1000 : Int64)))), .second] [(.int (lcmpW (u1 - (u0 * (1000 : Int64))) u1))])) t := by
        intro t kt
        refine XS.ifYes X0.here hx rfl (pc0 := 32) (pc' := 39) rfl (hb hby d4_32) rfl ((if0 _ _).trans (flt (mt (lw_gt _ _).mp c54)).2.2.2) (by decide) (by decide) ?_
        show Steps p.tables e below (s₁.setTop (mkF m 39 #[.val (.long u0), .second, .val (.long u1), .second, .val (.long (u0 * (1000 : Int64))), .second, .val (.long (u1 - (u0 * (1000 : Int64)))), .second] [])) t
        refine XS.lload X0.here hx rfl (hb hby d4_39) rfl ?_
        exact kt
      obtain ⟨fs_, hr, hrun, hended, hW, hsame⟩ := X0.leave (v := some (.long (u1 - (u0 * (1000 : Int64))))) (fun h => by rw [Bd.returns] at h; cases h)
      refine ⟨_, _, pre0 _ (s51 _ (s53 _ (s56 _ (?_)))), hrun, hended, _, _, rfl, ?_, ⟨_, rfl⟩, hW, hsame.mono (by decide) (by decide)⟩
      · show Steps p.tables e below (s₁.setTop (mkF m 41 #[.val (.long u0), .second, .val (.long u1), .second, .val (.long (u0 * (1000 : Int64))), .second, .val (.long (u1 - (u0 * (1000 : Int64)))), .second] [(.long (u1 - (u0 * (1000 : Int64))))])) _
        exact X0.lreturnOut hx Bd.returns (hb hby d4_41) hr
      · show Q4 Z u0 u1 h0 n0 _ s₁.heap _
        rw [e0]
        exact ⟨by simp only [fexp, if_pos c52, if_neg c54], N0, rfl⟩
  ·
    have s57 : ∀ t, Steps p.tables e below (s₁.setTop (mkF m 21 #[.val (.long u0), .second, .val (.long u1), .second, .val (.long (u0 * (1000 : Int64))), .second, .unset, .unset] [(.long (-9223372036854775808 : Int64))])) t → Steps p.tables e below (s₁.setTop (mkF m 15 #[.val (.long u0), .second, .val (.long u1), .second, .val (.long (u0 * (1000 : Int64))), .second, .unset, .unset] [(.int (lcmpW ((u0 * (1000 : Int64)) / (1000 : Int64)) u0))])) t := by
      intro t kt
      refine XS.ifNo X0.here hx rfl (hb hby d4_15) rfl ((if0 _ _).trans (feq (mt (lw_eq _ _).mp c52)).1) ?_
      show Steps p.tables e below (s₁.setTop (mkF m 18 #[.val (.long u0), .second, .val (.long u1), .second, .val (.long (u0 * (1000 : Int64))), .second, .unset, .unset] [])) t
      refine X0.ldc2Long hx hown (mvT hZ (hw _ (List.mem_of_getElem? (i := 35) rfl))) (g := (mkF m 18 #[.val (.long u0), .second, .val (.long u1), .second, .val (.long (u0 * (1000 : Int64))), .second, .unset, .unset] [])) rfl (hb hby d4_18) _ ?_
      exact kt
    obtain ⟨fs_, hr, hrun, hended, hW, hsame⟩ := X0.leave (v := some (.long (-9223372036854775808 : Int64))) (fun h => by rw [Bd.returns] at h; cases h)
    refine ⟨_, _, pre0 _ (s51 _ (s57 _ (?_))), hrun, hended, _, _, rfl, ?_, ⟨_, rfl⟩, hW, hsame.mono (by decide) (by decide)⟩
    · show Steps p.tables e below (s₁.setTop (mkF m 21 #[.val (.long u0), .second, .val (.long u1), .second, .val (.long (u0 * (1000 : Int64))), .second, .unset, .unset] [(.long (-9223372036854775808 : Int64))])) _
      exact X0.lreturnOut hx Bd.returns (hb hby d4_21) hr
    · show Q4 Z u0 u1 h0 n0 _ s₁.heap _
      rw [e0]
      exact ⟨by simp only [fexp, if_neg c52], N0, rfl⟩
theorem own_plain (x n : Int64) : (folb (x &&& (9223372036854775807 : Int64)) n) = (fexp (x &&& (9223372036854775807 : Int64)) n) := by
  have k1 : (1000 : Int64).toInt = 1000 := by decide
  have km : (-9223372036854775808 : Int64).toInt = -9223372036854775808 := by decide
  have kq : (9223372036854775 : Int64).toInt = 9223372036854775 := by decide
  have hq : (x &&& (9223372036854775807 : Int64)).toInt = x.toInt % 2 ^ 63 := Jvm.Kit.i64_mask x _ (k := 63) (by decide) (by decide)
  generalize (x &&& (9223372036854775807 : Int64)) = q at *
  show (if (9223372036854775 : Int64) < q then (-9223372036854775808 : Int64) else (if n < ((-9223372036854775808 : Int64) + (q * (1000 : Int64))) then (-9223372036854775808 : Int64) else (n - (q * (1000 : Int64)))))
    = (if ((q * (1000 : Int64)) / (1000 : Int64)) = q then (if n < (n - (q * (1000 : Int64))) then (-9223372036854775808 : Int64) else (n - (q * (1000 : Int64)))) else (-9223372036854775808 : Int64))
  have r1 := Jvm.RoadKit.rng64 q
  have r2 := Jvm.RoadKit.rng64 n
  have r3 := Jvm.RoadKit.rng64 (q * (1000 : Int64))
  have r4 := Jvm.RoadKit.rng64 (n - (q * (1000 : Int64)))
  have r5 := Jvm.RoadKit.rng64 ((-9223372036854775808 : Int64) + (q * (1000 : Int64)))
  have c1 := Jvm.RoadKit.c_lmul q 1000
  have c2 := Jvm.RoadKit.c_ldiv (q * (1000 : Int64)) 1000 1000 k1 (by decide)
  have c3 := Jvm.RoadKit.c_lsub n (q * (1000 : Int64))
  have c4 := Jvm.RoadKit.c_ladd (-9223372036854775808 : Int64) (q * (1000 : Int64))
  rw [k1] at c1
  rw [km] at c4
  by_cases h1 : (9223372036854775 : Int64) < q
  · rw [if_pos h1]
    have h1' : 9223372036854775 < q.toInt := by rw [Int64.lt_iff_toInt_lt, kq] at h1; exact h1
    rw [if_neg (fun e => by
      have e' := congrArg Int64.toInt e
      omega)]
  · rw [if_neg h1]
    have h1' : q.toInt ≤ 9223372036854775 := by rw [Int64.lt_iff_toInt_lt, kq] at h1; omega
    have t : (q * (1000 : Int64)).toInt = q.toInt * 1000 := by omega
    have e : ((q * (1000 : Int64)) / (1000 : Int64)) = q := Int64.toInt_inj.mp (by omega)
    rw [if_pos e]
    have i : n < ((-9223372036854775808 : Int64) + (q * (1000 : Int64))) ↔ n < (n - (q * (1000 : Int64))) := by
      rw [Int64.lt_iff_toInt_lt, Int64.lt_iff_toInt_lt]; omega
    by_cases h2 : n < (n - (q * (1000 : Int64)))
    · rw [if_pos (i.mpr h2), if_pos h2]
    · rw [if_neg (mt i.mp h2), if_neg h2]

def Q0 (Z : State) (att : Int64) (an : Int64) (av : Int32) (h0 : Heap) (n0 : Nat) (v : Option Value) (h : Heap) (L : List Loc) : Prop := v = some (.int 1) ∧ Fr n0 L
set_option maxRecDepth 65536 in
set_option maxHeartbeats 40000000 in
theorem rm0 (l : Launch) (Z : State) (a0 : Array Value) (hw : ∀ d ∈ tables_1, d.before a0 Z = true) (ws : List Jvm.Cond) (att : Int64) (an : Int64) (av : Int32) (h0 : Heap) (n0 : Nat) (Z0 : n0 ≤ h0.size)  :
    MetFree l x (head1 (Jvm.Cond.code x code maxLocals ret :: ws) room_1) (fun a U => a = #[(.long att), (.long an), (.int av)] ∧ Z.Warmed39 U.vm ∧ U.heap = h0) (fun _ _ _ _ _ => True) (fun _ U o U' => ∃ v L, o = .returned v ∧ Q0 Z att an av h0 n0 v U'.heap L ∧ FrameEnd U o U' L room_1.cells room_1.slots) := by
  refine MetFree.of_bodySF (plainFor_of_name pn_com_example_rangewell_rangewell_model_FamilyOldestLivePinLaw) hisR ?_
  intro p e s m args0 below meth c s₁ Bd hml0 hP hK
  obtain ⟨rfl, hZ, hh⟩ := hP
  have hx := Bd.exec
  have hby := Bd.bytes
  have hml : c.maxLocals = 10 := hml0
  have hown : s.vm.findClass "com/example/rangewell/rangewell/model/FamilyOldestLivePinLaw" = some m.cls := findClass_of_methodNamed Bd.named
  have hnm := (name_of_methodNamed Bd.named Bd.method).1
  have X0 : Stand p l e room_1 s m #[(.long att), (.long an), (.int av)] below meth c s₁ [] 0 0 := Stand.of_body Bd
  have e0 : s₁.heap = h0 := by rw [← hh, Bd.state]; rfl
  have N0 := Fr.nil n0
  have pre0 : ∀ t, Steps p.tables e below (s₁.setTop (mkF m 0 #[.val (.long att), .second, .val (.long an), .second, .val (.int av), .unset, .unset, .unset, .unset, .unset] [])) t → Steps p.tables e below (s₁.setTop (entryFrame m #[(.long att), (.long an), (.int av)] maxLocals)) t := fun t k => castTop (ef_0 m att an av) k
  have s58 : ∀ t, Steps p.tables e below (s₁.setTop (mkF m 7 #[.val (.long att), .second, .val (.long an), .second, .val (.int av), .val (.long (att &&& (9223372036854775807 : Int64))), .second, .unset, .unset, .unset] [])) t → Steps p.tables e below (s₁.setTop (mkF m 0 #[.val (.long att), .second, .val (.long an), .second, .val (.int av), .unset, .unset, .unset, .unset, .unset] [])) t := by
    intro t kt
    refine XS.lloadN X0.here hx rfl (hb hby at_0) rfl ?_
    show Steps p.tables e below (s₁.setTop (mkF m 1 #[.val (.long att), .second, .val (.long an), .second, .val (.int av), .unset, .unset, .unset, .unset, .unset] [(.long att)])) t
    refine X0.ldc2Long hx hown (mvT hZ (hw _ (List.mem_of_getElem? (i := 0) rfl))) (g := (mkF m 1 #[.val (.long att), .second, .val (.long an), .second, .val (.int av), .unset, .unset, .unset, .unset, .unset] [(.long att)])) rfl (hb hby at_1) _ ?_
    show Steps p.tables e below (s₁.setTop (mkF m 4 #[.val (.long att), .second, .val (.long an), .second, .val (.int av), .unset, .unset, .unset, .unset, .unset] [(.long (9223372036854775807 : Int64)), (.long att)])) t
    refine XS.land X0.here hx rfl (hb hby at_4) rfl ?_
    show Steps p.tables e below (s₁.setTop (mkF m 5 #[.val (.long att), .second, .val (.long an), .second, .val (.int av), .unset, .unset, .unset, .unset, .unset] [(.long (att &&& (9223372036854775807 : Int64)))])) t
    refine XS.lstore X0.here hx rfl (hb hby at_5) rfl (l' := #[.val (.long att), .second, .val (.long an), .second, .val (.int av), .val (.long (att &&& (9223372036854775807 : Int64))), .second, .unset, .unset, .unset]) rfl ?_
    exact kt
  obtain ⟨T59, h59, X59, e59, E59, A59, D59, -, st59⟩ := newO X0 hx hZ hown (hw _ (List.mem_of_getElem? (i := 1) rfl)) (hw _ (List.mem_of_getElem? (i := 2) rfl)) (hw _ (List.mem_of_getElem? (i := 3) rfl)) e0 (g := (mkF m 7 #[.val (.long att), .second, .val (.long an), .second, .val (.int av), .val (.long (att &&& (9223372036854775807 : Int64))), .second, .unset, .unset, .unset] [])) rfl (hb hby at_7) (by decide) (by decide)
  obtain ⟨b59, g59⟩ : ∃ z, z = h0.size := ⟨_, rfl⟩
  rw [← g59] at A59 D59 st59
  have gn59 : n0 ≤ b59 := Nat.le_trans Z0 (Nat.le_of_eq g59.symm)
  have Zs59 : n0 ≤ h59.size := Nat.le_trans Z0 E59.1
  have fF60 : Fld Z h59 b59 "com/example/rangewell/rangewell/model/Family" "name" "[B" .null := D59 (Or.inr (hw _ (List.mem_of_getElem? (i := 17) rfl))) (ty := (.array .byte)) (by decide)
  have fF61 : Fld Z h59 b59 "com/example/rangewell/rangewell/model/Family" "versions" "I" (.int (0 : Int32)) := D59 (Or.inr (hw _ (List.mem_of_getElem? (i := 19) rfl))) (ty := .int) (by decide)
  have fF62 : Fld Z h59 b59 "com/example/rangewell/rangewell/model/Family" "ttlSeconds" "J" (.long (0 : Int64)) := D59 (Or.inr (hw _ (List.mem_of_getElem? (i := 21) rfl))) (ty := .long) (by decide)
  have s63 : ∀ t, Steps p.tables e below (T59.setTop (mkF m 12 #[.val (.long att), .second, .val (.long an), .second, .val (.int av), .val (.long (att &&& (9223372036854775807 : Int64))), .second, .unset, .unset, .unset] [(.int (0 : Int32)), (.ref b59), (.ref b59)])) t → Steps p.tables e below (T59.setTop (mkF m 10 #[.val (.long att), .second, .val (.long an), .second, .val (.int av), .val (.long (att &&& (9223372036854775807 : Int64))), .second, .unset, .unset, .unset] [(.ref b59)])) t := by
    intro t kt
    refine XS.dup X59.here hx rfl (hb hby at_10) rfl rfl ?_
    show Steps p.tables e below (T59.setTop (mkF m 11 #[.val (.long att), .second, .val (.long an), .second, .val (.int av), .val (.long (att &&& (9223372036854775807 : Int64))), .second, .unset, .unset, .unset] [(.ref b59), (.ref b59)])) t
    refine XS.iconst X59.here hx rfl (hb hby at_11) ?_
    exact kt
  obtain ⟨T64, h64, k64, X64, e64, E64, A64, st64⟩ := newP X59 hx hZ (hw _ (List.mem_of_getElem? (i := 4) rfl)) e59 (g := (mkF m 12 #[.val (.long att), .second, .val (.long an), .second, .val (.int av), .val (.long (att &&& (9223372036854775807 : Int64))), .second, .unset, .unset, .unset] [(.int (0 : Int32)), (.ref b59), (.ref b59)])) rfl (hb hby at_12) rfl (by decide) (cap := 0) (by decide) (by decide) (by decide) (by decide)
  obtain ⟨b64, g64⟩ : ∃ z, z = h59.size := ⟨_, rfl⟩
  rw [← g64] at A64 st64
  have ne65 : b59 ≠ b64 := Nat.ne_of_lt (Nat.lt_of_lt_of_le A59.lt (Nat.le_of_eq g64.symm))
  have gn64 : n0 ≤ b64 := Nat.le_trans Zs59 (Nat.le_of_eq g64.symm)
  have Zs64 : n0 ≤ h64.size := Nat.le_trans Zs59 E64.1
  have fE66 := A59.ext E64
  have fF67 := fF60.ext E64
  have fF68 := fF61.ext E64
  have fF69 := fF62.ext E64
  have fV70 : OwnKit.Ar Z h64 b64 .byte 0 (fun _ => defaultValue .byte) := OwnKit.Ar.new A64 (by decide) (by decide)
  have s71 : ∀ t, Steps p.tables e below (T64.setTop (mkF m 18 #[.val (.long att), .second, .val (.long an), .second, .val (.int av), .val (.long (att &&& (9223372036854775807 : Int64))), .second, .unset, .unset, .unset] [(.long (att &&& (9223372036854775807 : Int64))), (.int av), (.ref b64), (.ref b59), (.ref b59)])) t → Steps p.tables e below (T64.setTop (mkF m 14 #[.val (.long att), .second, .val (.long an), .second, .val (.int av), .val (.long (att &&& (9223372036854775807 : Int64))), .second, .unset, .unset, .unset] [(.ref b64), (.ref b59), (.ref b59)])) t := by
    intro t kt
    refine XS.iload X64.here hx rfl (hb hby at_14) rfl ?_
    show Steps p.tables e below (T64.setTop (mkF m 16 #[.val (.long att), .second, .val (.long an), .second, .val (.int av), .val (.long (att &&& (9223372036854775807 : Int64))), .second, .unset, .unset, .unset] [(.int av), (.ref b64), (.ref b59), (.ref b59)])) t
    refine XS.lload X64.here hx rfl (hb hby at_16) rfl ?_
    exact kt
  obtain ⟨_, _, ⟨T72, L72, k72, n72⟩, -, X72, ⟨Lc72, hQ72, l72, y72, z72⟩, st72⟩ := X64.specialBack hx (y := (⟨"com/example/rangewell/rangewell/model/Family", "<init>", "([BIJ)V"⟩ : MethodName)) rfl hown (mvT hZ (hw _ (List.mem_of_getElem? (i := 5) rfl))) (mvT hZ (hw _ (List.mem_of_getElem? (i := 6) rfl))) (mvT hZ (hw _ (List.mem_of_getElem? (i := 7) rfl))) (by decide) (backOf (W := 1) (rm2 l Z a0 hw [] b59 b64 av (att &&& (9223372036854775807 : Int64)) h64 n0 Zs64 fE66 fF67 fF68 fF69 gn59) hZ (hw _ (List.mem_of_getElem? (i := 7) rfl)) (hw _ (List.mem_of_getElem? (i := 3) rfl)) (by decide) (by decide)) (g := (mkF m 18 #[.val (.long att), .second, .val (.long an), .second, .val (.int av), .val (.long (att &&& (9223372036854775807 : Int64))), .second, .unset, .unset, .unset] [(.long (att &&& (9223372036854775807 : Int64))), (.int av), (.ref b64), (.ref b59), (.ref b59)])) rfl (by rw [hml]; rfl) (Steps.refl _) (a := b59) (argsL := [(.ref b64), (.int av), (.long (att &&& (9223372036854775807 : Int64)))]) (rest := [(.ref b59)]) (lenOf pd_oaBIJcV rfl) rfl (by show 2 * 0 + _ ≤ _; exact Nat.le_of_eq rfl) (hb hby at_18) (fun _ _ => ⟨rfl, e64, (by decide : 2 + 0 ≤ _), (by decide : 3 + 0 ≤ _)⟩)
  dsimp only [Pt.U, Pt.locs, Pt.cells, Pt.slots] at X72 l72 y72 z72 st72 hQ72
  subst l72 y72 z72
  obtain ⟨rfl, N72q, Kc72, fE73, fF74⟩ := hQ72
  have N72 := Fr.app N0 N72q
  have Zs72 : n0 ≤ T72.heap.size := Nat.le_trans Zs64 Kc72.1
  have fV75 := fV70.keep Kc72 (ninS (Ne.symm ne65) nin0)
  have s76 : ∀ t, Steps p.tables e below (T72.setTop (mkF m 26 #[.val (.long att), .second, .val (.long an), .second, .val (.int av), .val (.long (att &&& (9223372036854775807 : Int64))), .second, .val (.ref b59), .unset, .unset] [(.long an), (.ref b59)])) t → Steps p.tables e below (T72.setTop (mkF m 21 #[.val (.long att), .second, .val (.long an), .second, .val (.int av), .val (.long (att &&& (9223372036854775807 : Int64))), .second, .unset, .unset, .unset] [(.ref b59)])) t := by
    intro t kt
    refine XS.astore X72.here hx rfl (hb hby at_21) rfl rfl (l' := #[.val (.long att), .second, .val (.long an), .second, .val (.int av), .val (.long (att &&& (9223372036854775807 : Int64))), .second, .val (.ref b59), .unset, .unset]) rfl ?_
    show Steps p.tables e below (T72.setTop (mkF m 23 #[.val (.long att), .second, .val (.long an), .second, .val (.int av), .val (.long (att &&& (9223372036854775807 : Int64))), .second, .val (.ref b59), .unset, .unset] [])) t
    refine XS.aload X72.here hx rfl (hb hby at_23) rfl rfl ?_
    show Steps p.tables e below (T72.setTop (mkF m 25 #[.val (.long att), .second, .val (.long an), .second, .val (.int av), .val (.long (att &&& (9223372036854775807 : Int64))), .second, .val (.ref b59), .unset, .unset] [(.ref b59)])) t
    refine XS.lloadN X72.here hx rfl (hb hby at_25) rfl ?_
    exact kt
  obtain ⟨cq77, kq77, qa77, qb77, qc77⟩ := isOf hZ rfl fE73
  obtain ⟨_, _, ⟨T77, L77, k77, n77⟩, -, X77, ⟨Lc77, hQ77, l77, y77, z77⟩, st77⟩ := X72.virtualBack hx (y := (⟨"com/example/rangewell/rangewell/model/Family", "oldestLive", "(J)J"⟩ : MethodName)) (z := (⟨"com/example/rangewell/rangewell/model/Family", "oldestLive", "(J)J"⟩ : MethodName)) hown (mvT hZ (hw _ (List.mem_of_getElem? (i := 22) rfl))) (mvT hZ (hw _ (List.mem_of_getElem? (i := 23) rfl))) (notFace_of_selects (args := #[]) (mvT hZ (hw _ (List.mem_of_getElem? (i := 25) rfl)))) (mvT hZ (hw _ (List.mem_of_getElem? (i := 25) rfl))) (mvT hZ (hw _ (List.mem_of_getElem? (i := 24) rfl))) (by decide) (backOf (W := 0) (rm3 l Z a0 hw [] b59 (att &&& (9223372036854775807 : Int64)) an T72.heap n0 Zs72 fF74) hZ (hw _ (List.mem_of_getElem? (i := 26) rfl)) (hw _ (List.mem_of_getElem? (i := 3) rfl)) (by decide) (by decide)) qa77 qc77 (g := (mkF m 26 #[.val (.long att), .second, .val (.long an), .second, .val (.int av), .val (.long (att &&& (9223372036854775807 : Int64))), .second, .val (.ref b59), .unset, .unset] [(.long an), (.ref b59)])) rfl (by rw [hml]; rfl) (Steps.refl _) (argsL := [(.long an)]) (rest := []) (lenOf pd_oJcJ rfl) rfl (by show 2 * 0 + _ ≤ _; exact Nat.le_of_eq rfl) (hb hby at_26) (fun _ _ => ⟨rfl, rfl, (by decide : 2 + 0 ≤ _), (by decide : 3 + 0 ≤ _)⟩)
  dsimp only [Pt.U, Pt.locs, Pt.cells, Pt.slots] at X77 l77 y77 z77 st77 hQ77
  subst l77 y77 z77
  obtain ⟨rfl, N77q, e77q⟩ := hQ77
  have N77 := Fr.app N72 N77q
  have s78 : ∀ t, Steps p.tables e below (T77.setTop (mkF m 36 #[.val (.long att), .second, .val (.long an), .second, .val (.int av), .val (.long (att &&& (9223372036854775807 : Int64))), .second, .val (.ref b59), .val (.long (folb (att &&& (9223372036854775807 : Int64)) an)), .second] [(.long an), (.long (att &&& (9223372036854775807 : Int64))), (.long (folb (att &&& (9223372036854775807 : Int64)) an))])) t → Steps p.tables e below (T77.setTop (mkF m 29 #[.val (.long att), .second, .val (.long an), .second, .val (.int av), .val (.long (att &&& (9223372036854775807 : Int64))), .second, .val (.ref b59), .unset, .unset] [(.long (folb (att &&& (9223372036854775807 : Int64)) an))])) t := by
    intro t kt
    refine XS.lstore X77.here hx rfl (hb hby at_29) rfl (l' := #[.val (.long att), .second, .val (.long an), .second, .val (.int av), .val (.long (att &&& (9223372036854775807 : Int64))), .second, .val (.ref b59), .val (.long (folb (att &&& (9223372036854775807 : Int64)) an)), .second]) rfl ?_
    show Steps p.tables e below (T77.setTop (mkF m 31 #[.val (.long att), .second, .val (.long an), .second, .val (.int av), .val (.long (att &&& (9223372036854775807 : Int64))), .second, .val (.ref b59), .val (.long (folb (att &&& (9223372036854775807 : Int64)) an)), .second] [])) t
    refine XS.lload X77.here hx rfl (hb hby at_31) rfl ?_
    show Steps p.tables e below (T77.setTop (mkF m 33 #[.val (.long att), .second, .val (.long an), .second, .val (.int av), .val (.long (att &&& (9223372036854775807 : Int64))), .second, .val (.ref b59), .val (.long (folb (att &&& (9223372036854775807 : Int64)) an)), .second] [(.long (folb (att &&& (9223372036854775807 : Int64)) an))])) t
    refine XS.lload X77.here hx rfl (hb hby at_33) rfl ?_
    show Steps p.tables e below (T77.setTop (mkF m 35 #[.val (.long att), .second, .val (.long an), .second, .val (.int av), .val (.long (att &&& (9223372036854775807 : Int64))), .second, .val (.ref b59), .val (.long (folb (att &&& (9223372036854775807 : Int64)) an)), .second] [(.long (att &&& (9223372036854775807 : Int64))), (.long (folb (att &&& (9223372036854775807 : Int64)) an))])) t
    refine XS.lloadN X77.here hx rfl (hb hby at_35) rfl ?_
    exact kt
  obtain ⟨_, _, ⟨T79, L79, k79, n79⟩, -, X79, ⟨Lc79, hQ79, l79, y79, z79⟩, st79⟩ := Jvm.LawKit.callS X77 hx (y := (⟨"com/example/rangewell/rangewell/model/FamilyOldestLivePinLaw", "expected", "(JJ)J"⟩ : MethodName)) hown (mvT hZ (hw _ (List.mem_of_getElem? (i := 30) rfl))) (mvT hZ (hw _ (List.mem_of_getElem? (i := 31) rfl))) (mvT hZ (hw _ (List.mem_of_getElem? (i := 32) rfl))) (mvT hZ (hw _ (List.mem_of_getElem? (i := 33) rfl))) (by decide) (backOf (W := 2) (rm4 l Z a0 hw [] (att &&& (9223372036854775807 : Int64)) an T72.heap n0 Zs72 ) hZ (hw _ (List.mem_of_getElem? (i := 33) rfl)) (hw _ (List.mem_of_getElem? (i := 32) rfl)) (by decide) (by decide)) (g := (mkF m 36 #[.val (.long att), .second, .val (.long an), .second, .val (.int av), .val (.long (att &&& (9223372036854775807 : Int64))), .second, .val (.ref b59), .val (.long (folb (att &&& (9223372036854775807 : Int64)) an)), .second] [(.long an), (.long (att &&& (9223372036854775807 : Int64))), (.long (folb (att &&& (9223372036854775807 : Int64)) an))])) rfl (by rw [hml]; rfl) (argsL := [(.long (att &&& (9223372036854775807 : Int64))), (.long an)]) (rest := [(.long (folb (att &&& (9223372036854775807 : Int64)) an))]) (lenOf pd_oJJcJ rfl) rfl (by show 2 * 0 + _ ≤ _; exact Nat.le_of_eq rfl) (hb hby at_36) (fun _ _ => ⟨rfl, e77q, (by decide : 2 + 0 ≤ _), (by decide : 3 + 0 ≤ _)⟩)
  dsimp only [Pt.U, Pt.locs, Pt.cells, Pt.slots] at X79 l79 y79 z79 st79 hQ79
  subst l79 y79 z79
  obtain ⟨rfl, N79q, e79q⟩ := hQ79
  have N79 := Fr.app N77 N79q
  have s80 : ∀ t, Steps p.tables e below (T79.setTop (mkF m 40 #[.val (.long att), .second, .val (.long an), .second, .val (.int av), .val (.long (att &&& (9223372036854775807 : Int64))), .second, .val (.ref b59), .val (.long (folb (att &&& (9223372036854775807 : Int64)) an)), .second] [(.int (lcmpW (folb (att &&& (9223372036854775807 : Int64)) an) (fexp (att &&& (9223372036854775807 : Int64)) an)))])) t → Steps p.tables e below (T79.setTop (mkF m 39 #[.val (.long att), .second, .val (.long an), .second, .val (.int av), .val (.long (att &&& (9223372036854775807 : Int64))), .second, .val (.ref b59), .val (.long (folb (att &&& (9223372036854775807 : Int64)) an)), .second] [(.long (fexp (att &&& (9223372036854775807 : Int64)) an)), (.long (folb (att &&& (9223372036854775807 : Int64)) an))])) t := by
    intro t kt
    refine XS.lcmp X79.here hx rfl (hb hby at_39) rfl ?_
    exact kt
  have hfin : (folb (att &&& (9223372036854775807 : Int64)) an) = (fexp (att &&& (9223372036854775807 : Int64)) an) := own_plain att an
  have s81 : ∀ t, Steps p.tables e below (T79.setTop (mkF m 48 #[.val (.long att), .second, .val (.long an), .second, .val (.int av), .val (.long (att &&& (9223372036854775807 : Int64))), .second, .val (.ref b59), .val (.long (folb (att &&& (9223372036854775807 : Int64)) an)), .second] [(.int (1 : Int32))])) t → Steps p.tables e below (T79.setTop (mkF m 40 #[.val (.long att), .second, .val (.long an), .second, .val (.int av), .val (.long (att &&& (9223372036854775807 : Int64))), .second, .val (.ref b59), .val (.long (folb (att &&& (9223372036854775807 : Int64)) an)), .second] [(.int (lcmpW (folb (att &&& (9223372036854775807 : Int64)) an) (fexp (att &&& (9223372036854775807 : Int64)) an)))])) t := by
    intro t kt
    refine XS.ifNo X79.here hx rfl (hb hby at_40) rfl ((if0 _ _).trans (teq ((lw_eq _ _).mpr hfin)).2) ?_
    show Steps p.tables e below (T79.setTop (mkF m 43 #[.val (.long att), .second, .val (.long an), .second, .val (.int av), .val (.long (att &&& (9223372036854775807 : Int64))), .second, .val (.ref b59), .val (.long (folb (att &&& (9223372036854775807 : Int64)) an)), .second] [])) t
    refine XS.iconst X79.here hx rfl (hb hby at_43) ?_
    show Steps p.tables e below (T79.setTop (mkF m 44 #[.val (.long att), .second, .val (.long an), .second, .val (.int av), .val (.long (att &&& (9223372036854775807 : Int64))), .second, .val (.ref b59), .val (.long (folb (att &&& (9223372036854775807 : Int64)) an)), .second] [(.int (1 : Int32))])) t
    refine XS.goto X79.here hx rfl (pc0 := 44) (pc' := 48) rfl (hb hby at_44) (by decide) (by decide) ?_
    exact kt
  obtain ⟨fs_, hr, hrun, hended, hW, hsame⟩ := X79.leave (v := some (.int (1 : Int32))) (fun h => by rw [Bd.returns] at h; cases h)
  refine ⟨_, _, pre0 _ (s58 _ (st59 _ (s63 _ (st64 _ (s71 _ (st72.trans (s76 _ (st77.trans (s78 _ (st79 _ (s80 _ (s81 _ (?_))))))))))))), hrun, hended, _, _, rfl, ?_, ⟨_, rfl⟩, hW, hsame.mono (by decide) (by decide)⟩
  · show Steps p.tables e below (T79.setTop (mkF m 48 #[.val (.long att), .second, .val (.long an), .second, .val (.int av), .val (.long (att &&& (9223372036854775807 : Int64))), .second, .val (.ref b59), .val (.long (folb (att &&& (9223372036854775807 : Int64)) an)), .second] [(.int (1 : Int32))])) _
    exact retN X79 hx (t := .boolean) Bd.returns (by simp) (hb hby at_48) hr
  · show Q0 Z att an av h0 n0 _ T79.heap _
    rw [e79q]
    exact ⟨rfl, N79⟩
set_option maxRecDepth 65536 in
set_option maxHeartbeats 40000000 in
theorem comes_1 {Post : Tables → Env → Array Value → State → Outcome → State → Prop} (hpost : ∀ tb e args s v u, (limb_1_1.after args s (.returned v) u = true ∧ limb_1_2.after args s (.returned v) u = true ∧ True) → FrameEnd s (.returned v) u (Jvm.fieldLocs frame_1_writes args s ++ Jvm.arrayLocs frame_1_arrays args s ++ Jvm.staticLocs frame_1_statics s) 16 128 → Post tb e args s (.returned v) u) :
    ArmFor flags0 classFile x code maxLocals ret World_1 tables_1 room_1 Calls_1 rest_1 Pre_1 Post := by
  intro l hfl _ _ p e ha hc hk s m args below hf hA hF happ hP
  obtain ⟨hcalls, hrest, hpre⟩ := hP
  obtain ⟨-, -, -, hnamed, -, -, -, hat⟩ := (Spec.applies_iff hf).mp happ
  obtain ⟨hg, hn⟩ := and_e (Cond.before_iff.mp (show (Jvm.Cond.and given_1 narrow_1).before args s = true from hpre))
  obtain ⟨ha0, hb0⟩ := and_e hg
  obtain ⟨ha1, hb1⟩ := and_e hb0
  obtain ⟨ha2, hb2⟩ := and_e hb1
  obtain ⟨w0, w1, w2, rfl⟩ : ∃ w0 w1 w2 : Value, args = #[w0, w1, w2] := by
    have hs : args.size = 3 := by simpa [Cond.value, given_1] using ha0
    obtain ⟨L⟩ := args
    match L, hs with
    | [w0, w1, w2], _ => exact ⟨w0, w1, w2, rfl⟩
  have hw := fun d (hd : d ∈ tables_1) => atoms_spec (ws := Jvm.Cond.code x code maxLocals ret :: tables_1) hat d (List.mem_cons_of_mem _ hd)
  obtain ⟨i0, ei0⟩ := isL_v ha1
  obtain rfl : w0 = (.long i0) := Option.some.inj ei0
  obtain ⟨i1, ei1⟩ := isL_v ha2
  obtain rfl : w1 = (.long i1) := Option.some.inj ei1
  obtain ⟨i2, ei2⟩ := is_v hb2
  obtain rfl : w2 = (.int i2) := Option.some.inj ei2
  obtain ⟨n, o, h1, h2, h3, _, L, rfl, ⟨rfl, N⟩, hq⟩ := rm0 l s _ hw tables_1 i0 i1 i2 s.heap s.heap.size (Nat.le_refl _)  p e ha hc hk s m _ below hf ((Spec.applies_iff_loose hf).mp happ).1 ⟨rfl, State.Warmed39.refl s, rfl⟩ trivial
  refine ⟨n, _, h1, h2, h3, hpost _ _ _ _ _ _ ⟨Cond.after_iff.mpr rfl, Cond.after_iff.mpr (eq_i res_at (Term.int_eval (1)) rfl), trivial⟩ ⟨hq.1, hq.2.1, (hq.2.2.sift fun y hy => Or.inr (N y hy)).mono (by decide) (by decide)⟩⟩
theorem main_1_1 : Claimed_1_1 := comes_1 fun _ _ _ _ _ _ h hF => ⟨h.1, hF⟩
theorem main_1_2 : Claimed_1_2 := comes_1 fun _ _ _ _ _ _ h hF => ⟨h.2.1, hF⟩
end Jvm.Pilot.@@N@@
namespace Jvm.Pilot.@@N@@
open Jvm Jvm.ClassFile Sem Op Lib Jvm.Free Jvm.Stand Jvm.Pilot.@@N@@.Jvm.D
/-! MADE BY PROGRAM (witnessworld.py) out of the Statement's table words and the real class files: 10 classes; the members and pool entries that the words name. The judged class is class 1, her method 2. -/
namespace start1
open Jvm.ClassFile
def u (s : String) : CpInfo := .utf8 (stringToUtf16 s)
/-- a pool by its gaps: so many unusable entries, then the entry; so many at the end -/
def gap : Nat → List CpInfo → List CpInfo
  | 0, r => r
  | n + 1, r => .unusable :: gap n r
def poolList (es : List (Nat × CpInfo)) (last : Nat) : List CpInfo := es.foldr (fun e r => gap e.1 (e.2 :: r)) (gap last [])
def pool (es : List (Nat × CpInfo)) (last : Nat) : Array CpInfo := ⟨poolList es last⟩
def fileOf (pool : Array CpInfo) (this : Nat) (attrs : Array Attribute := #[]) (ms : Array MethodInfo := #[]) (fl : Nat := 33) (sup : Nat := 0) (ifs : Array Nat := #[]) (fds : Array FieldInfo := #[]) : ClassFile where
  minorVersion := 0
  majorVersion := 65
  constantPool := pool
  accessFlags := fl
  thisClass := this
  superClass := sup
  interfaces := ifs
  fields := fds
  methods := ms
  attributes := attrs
def plain (name : String) (sup : Option ClassId) : Class where
  name := name
  kind := .ordinary
  loader := none
  accessFlags := 33
  super := sup
  interfaces := #[]
  cf := none
  fields := #[]
  methods := #[]
  instanceTypes := #[]
  staticTypes := #[]
  resolved := #[]
  callSites := []
  init := .initialized
  statics := none
  mirror := none

def pool0 : Array CpInfo := pool [(5, u "<init>"), (0, u "()V"), (1, .class_ 10), (1, u "java/lang/Object")] 113

def k0c0 : Code := { maxStack := 0, maxLocals := 1, code := object_method_1_code, exceptionTable := #[], attributes := #[] }
def k0m0 : Method := { name := "<init>", desc := "()V", sig := { parameters := [], returnType := none }, accessFlags := 1, code := some k0c0 }
/-- java/lang/Object -/
def k0 : Class := { plain "java/lang/Object" none with
  accessFlags := 33
  interfaces := #[]
  cf := some (fileOf pool0 8 #[] #[{ accessFlags := 1, nameIndex := 5, descriptorIndex := 6, attributes := #[] }] 33 0 #[] #[])
  fields := #[]
  methods := #[k0m0]
  instanceTypes := #[]
  staticTypes := #[]
  resolved := Array.replicate 124 none
  statics := none }

def pool1 : Array CpInfo := pool [(2, .class_ 4), (1, u "java/lang/Object"), (0, u "<init>"), (0, u "()V"), (0, .long 1000), (3, .long 9223372036854775808), (1, .long 9223372036854775807), (1, .class_ 16), (0, u "com/example/rangewell/rangewell/model/Family"), (0, .methodref 15 18), (0, .nameAndType 5 19), (0, u "([BIJ)V"), (0, .methodref 15 21), (0, .nameAndType 22 23), (0, u "oldestLive"), (0, u "(J)J"), (0, .methodref 25 26), (0, .class_ 27), (0, .nameAndType 28 29), (0, u "com/example/rangewell/rangewell/model/FamilyOldestLivePinLaw"), (0, u "expected"), (0, u "(JJ)J"), (3, u "law"), (0, u "(JJI)Z")] 2

def k1m0 : Method := { name := "<init>", desc := "()V", sig := { parameters := [], returnType := none }, accessFlags := 2, code := none }
def k1c1 : Code := { maxStack := 4, maxLocals := 8, code := method_2_code, exceptionTable := #[], attributes := #[] }
def k1m1 : Method := { name := "expected", desc := "(JJ)J", sig := { parameters := [.long, .long], returnType := some .long }, accessFlags := 10, code := some k1c1 }
def k1c2 : Code := { maxStack := 6, maxLocals := 10, code := code, exceptionTable := #[], attributes := #[] }
def k1m2 : Method := { name := "law", desc := "(JJI)Z", sig := { parameters := [.long, .long, .int], returnType := some .boolean }, accessFlags := 9, code := some k1c2 }
/-- com/example/rangewell/rangewell/model/FamilyOldestLivePinLaw -/
def k1 : Class := { plain "com/example/rangewell/rangewell/model/FamilyOldestLivePinLaw" (some 0) with
  accessFlags := 49
  interfaces := #[]
  cf := some (fileOf pool1 25 #[] #[{ accessFlags := 2, nameIndex := 5, descriptorIndex := 6, attributes := #[] }, { accessFlags := 10, nameIndex := 28, descriptorIndex := 29, attributes := #[] }, { accessFlags := 9, nameIndex := 33, descriptorIndex := 34, attributes := #[] }] 49 2 #[] #[])
  fields := #[]
  methods := #[k1m0, k1m1, k1m2]
  instanceTypes := #[]
  staticTypes := #[]
  resolved := Array.replicate 37 none
  statics := none }

def pool2 : Array CpInfo := pool [(1, .methodref 2 3), (0, .class_ 4), (0, .nameAndType 5 6), (0, u "java/lang/Object"), (0, u "<init>"), (0, u "()V"), (0, .class_ 8), (0, u "java/lang/Record")] 13

def k2c0 : Code := { maxStack := 1, maxLocals := 1, code := jdk_30_method_1_code, exceptionTable := #[], attributes := #[] }
def k2m0 : Method := { name := "<init>", desc := "()V", sig := { parameters := [], returnType := none }, accessFlags := 4, code := some k2c0 }
/-- java/lang/Record -/
def k2 : Class := { plain "java/lang/Record" (some 0) with
  accessFlags := 1057
  interfaces := #[]
  cf := some (fileOf pool2 7 #[] #[{ accessFlags := 4, nameIndex := 5, descriptorIndex := 6, attributes := #[] }] 1057 2 #[] #[])
  fields := #[]
  methods := #[k2m0]
  instanceTypes := #[]
  staticTypes := #[]
  resolved := Array.replicate 22 none
  statics := none }

def pool3 : Array CpInfo := pool [(3, .class_ 4), (0, u "com/example/rangewell/rangewell/model/Family"), (0, .methodref 6 7), (0, .class_ 8), (0, .nameAndType 9 10), (0, u "java/lang/Record"), (0, u "<init>"), (0, u "()V"), (0, .fieldref 3 12), (0, .nameAndType 13 14), (0, u "name"), (0, u "[B"), (0, .fieldref 3 16), (0, .nameAndType 17 18), (0, u "versions"), (0, u "I"), (0, .fieldref 3 20), (0, .nameAndType 21 22), (0, u "ttlSeconds"), (0, u "J"), (4, u "([BIJ)V"), (21, .long 9223372036854775), (1, .long 9223372036854775808), (1, .long 1000), (13, u "DEFAULT_VERSIONS"), (2, u "FOREVER"), (0, u "MILLIS_PER_SECOND"), (0, u "LONGEST_IN_MILLIS"), (7, u "oldestLive"), (0, u "(J)J")] 37

def k3c0 : Code := { maxStack := 3, maxLocals := 5, code := prog_37_method_1_code, exceptionTable := #[], attributes := #[] }
def k3m0 : Method := { name := "<init>", desc := "([BIJ)V", sig := { parameters := [(.array .byte), .int, .long], returnType := none }, accessFlags := 1, code := some k3c0 }
def k3c1 : Code := { maxStack := 8, maxLocals := 5, code := prog_37_method_4_code, exceptionTable := #[], attributes := #[] }
def k3m1 : Method := { name := "oldestLive", desc := "(J)J", sig := { parameters := [.long], returnType := some .long }, accessFlags := 1, code := some k3c1 }
/-- com/example/rangewell/rangewell/model/Family -/
def k3 : Class := { plain "com/example/rangewell/rangewell/model/Family" (some 2) with
  accessFlags := 49
  interfaces := #[]
  cf := some (fileOf pool3 3 #[] #[{ accessFlags := 1, nameIndex := 9, descriptorIndex := 27, attributes := #[] }, { accessFlags := 1, nameIndex := 80, descriptorIndex := 81, attributes := #[] }] 49 6 #[] #[{ accessFlags := 18, nameIndex := 13, descriptorIndex := 14, attributes := #[] }, { accessFlags := 18, nameIndex := 17, descriptorIndex := 18, attributes := #[] }, { accessFlags := 18, nameIndex := 21, descriptorIndex := 22, attributes := #[] }, { accessFlags := 25, nameIndex := 67, descriptorIndex := 18, attributes := #[] }, { accessFlags := 25, nameIndex := 70, descriptorIndex := 22, attributes := #[] }, { accessFlags := 26, nameIndex := 71, descriptorIndex := 22, attributes := #[] }, { accessFlags := 26, nameIndex := 72, descriptorIndex := 22, attributes := #[] }])
  fields := #[{ name := "name", type := (.array .byte), accessFlags := 18, slot := 0, constantValue := 0 }, { name := "versions", type := .int, accessFlags := 18, slot := 1, constantValue := 0 }, { name := "ttlSeconds", type := .long, accessFlags := 18, slot := 2, constantValue := 0 }, { name := "DEFAULT_VERSIONS", type := .int, accessFlags := 25, slot := 0, constantValue := 0 }, { name := "FOREVER", type := .long, accessFlags := 25, slot := 1, constantValue := 0 }, { name := "MILLIS_PER_SECOND", type := .long, accessFlags := 26, slot := 2, constantValue := 0 }, { name := "LONGEST_IN_MILLIS", type := .long, accessFlags := 26, slot := 3, constantValue := 0 }]
  methods := #[k3m0, k3m1]
  instanceTypes := #[(.array .byte), .int, .long]
  staticTypes := #[.int, .long, .long, .long]
  resolved := Array.replicate 119 none
  statics := none }

def pool4 : Array CpInfo := pool [(1, u "java/lang/Cloneable"), (0, .class_ 1), (0, u "java/lang/Object"), (0, .class_ 3)] 3

/-- java/lang/Cloneable -/
def k4 : Class := { plain "java/lang/Cloneable" (some 0) with
  accessFlags := 1537
  interfaces := #[]
  cf := some (fileOf pool4 2 #[] #[] 1537 4 #[] #[])
  fields := #[]
  methods := #[]
  instanceTypes := #[]
  staticTypes := #[]
  resolved := Array.replicate 8 none
  statics := none }

def pool5 : Array CpInfo := pool [(1, u "java/io/Serializable"), (0, .class_ 1), (0, u "java/lang/Object"), (0, .class_ 3)] 3

/-- java/io/Serializable -/
def k5 : Class := { plain "java/io/Serializable" (some 0) with
  accessFlags := 1537
  interfaces := #[]
  cf := some (fileOf pool5 2 #[] #[] 1537 4 #[] #[])
  fields := #[]
  methods := #[]
  instanceTypes := #[]
  staticTypes := #[]
  resolved := Array.replicate 8 none
  statics := none }

/-- the primitive byte -/
def k6 : Class := { plain "byte" none with kind := .primitive 'B', accessFlags := 0x411 }
/-- [B -/
def k7 : Class := { plain "[B" (some 0) with kind := .array 6 .byte, interfaces := #[4, 5], accessFlags := 1041 }

/-- the primitive int -/
def k8 : Class := { plain "int" none with kind := .primitive 'I', accessFlags := 0x411 }
/-- [I -/
def k9 : Class := { plain "[I" (some 0) with kind := .array 8 .int, interfaces := #[4, 5], accessFlags := 1041 }

def heap : Heap := #[]
def classes : Array Class := #[k0, k1, k2, k3, k4, k5, k6, k7, k8, k9]
def interned : List (Array UInt16 × Addr) := []
def slotsUsed : Nat := 0
def theMethod : MethodId := ⟨1, 2⟩
def args0 : Array Value := #[.long 5, .long 6, .int 7]
def aboutOver (below : List Frame) : State where
  vm := { classes := classes, interned := interned.toArray }
  heap := heap
  slotsUsed := slotsUsed
  threads := #[{ frames := .invoking theMethod args0 :: below }]
def below0 : List Frame := [.native { method := ⟨0, 0⟩, args := #[] }]
def about1 : State := aboutOver below0
def p0 : Program := .bare "" "" ""
def e0 : Env := launch0.env 0 0 0
theorem w_frames : about1.frames = Frame.invoking theMethod args0 :: below0 := rfl
set_option maxRecDepth 65536 in
theorem w_args : argsFit about1.vm theMethod args0 = true := by decide +kernel
set_option maxRecDepth 65536 in
theorem w_heap : heapFits about1 = true := by decide +kernel
set_option maxRecDepth 65536 in
theorem w_runnable : about1.curStatus? = some .runnable := by decide +kernel
set_option maxRecDepth 65536 in
theorem w_alone : about1.alone = true := by decide +kernel
set_option maxRecDepth 65536 in
theorem w_named : about1.methodNamed? x = some theMethod := by decide +kernel
set_option maxRecDepth 65536 in
theorem w_hears : about1.hears theMethod below0 = true := by decide +kernel
set_option maxRecDepth 65536 in
theorem w_ripe : about1.ripe theMethod args0 below0 = true := by decide +kernel
theorem w_running : about1.status = .running := rfl
set_option maxRecDepth 65536 in
theorem w_room : about1.hasRoom e0.platform room_1 = true :=
  launch0.hasRoom_least _ room_1 (by decide +kernel) (by decide +kernel) (by decide +kernel) (by decide +kernel) (by decide +kernel) (by decide +kernel)
theorem allAtoms_all (ts : List Jvm.Cond) (a : Array Jvm.Value) (st : Jvm.State) : (allAtoms ts).before a st = ts.all (fun c => c.before a st) := by
  induction ts with
  | nil => rfl
  | cons c t ih =>
    show (Jvm.Cond.and c (allAtoms t)).before a st = _
    rw [Jvm.Cond.before_and, ih, List.all_cons]
def words1 : List Jvm.Cond := Jvm.Cond.code x code maxLocals ret :: tables_1
/-- a 'code' word, met by the world's own term for the bytes: nothing is compared byte by byte -/
theorem code_word {y : MethodName} {bytes : ByteArray} {mx : Nat} {rt : Option FieldType} {a : Array Value} {s : State} {m : MethodId} {meth : Method} {c : Code} (h1 : s.methodNamed? y = some m) (h2 : s.vm.method? m = some meth) (h3 : meth.code = some c) (h4 : c.code = bytes)
    (h5 : (c.maxLocals == mx && c.exceptionTable.isEmpty && decide (c.maxStack ≤ mostOperands) && decide (meth.sig.returnType = rt) && !meth.locks && decide (parseMethodDescriptor y.desc = some meth.sig)) = true) : (Jvm.Cond.code y bytes mx rt).before a s = true := by
  simp only [Bool.and_eq_true, beq_iff_eq, Bool.not_eq_true', decide_eq_true_eq] at h5
  obtain ⟨⟨⟨⟨⟨g1, g2⟩, g3⟩, g4⟩, g5⟩, g6⟩ := h5
  simp [Cond.before, Cond.holds, Cond.value, h1, h2, h3, h4, g1, g2, g3, g4, g5, g6]
def isCode : Jvm.Cond → Bool
  | .code _ _ _ _ => true
  | _ => false
theorem all_split {L : List Jvm.Cond} {P : Jvm.Cond → Bool} (h1 : L.all (fun c => isCode c || P c) = true) (h2 : ∀ c ∈ L.filter isCode, P c = true) : L.all P = true := by
  refine List.all_eq_true.mpr fun c hc => ?_
  have h := List.all_eq_true.mp h1 c hc
  rcases Bool.eq_false_or_eq_true (isCode c) with hi | hi
  · exact h2 c (List.mem_filter.mpr ⟨hc, hi⟩)
  · simpa [hi] using h
set_option maxRecDepth 65536 in
theorem w_c0 : (Jvm.Cond.code x code maxLocals ret).before args0 about1 = true := code_word (m := ⟨1, 2⟩) (meth := k1m2) (c := k1c2) (by decide +kernel) rfl rfl rfl (by decide +kernel)
set_option maxRecDepth 65536 in
theorem w_c1 : (Jvm.Cond.code ({ cls := "com/example/rangewell/rangewell/model/Family", name := "<init>", desc := "([BIJ)V" } : Jvm.MethodName) prog_37_method_1_code (5 : Nat) (Option.none : Option Jvm.ClassFile.FieldType)).before args0 about1 = true := code_word (m := ⟨3, 0⟩) (meth := k3m0) (c := k3c0) (by decide +kernel) rfl rfl rfl (by decide +kernel)
set_option maxRecDepth 65536 in
theorem w_c2 : (Jvm.Cond.code ({ cls := "java/lang/Record", name := "<init>", desc := "()V" } : Jvm.MethodName) jdk_30_method_1_code (1 : Nat) (Option.none : Option Jvm.ClassFile.FieldType)).before args0 about1 = true := code_word (m := ⟨2, 0⟩) (meth := k2m0) (c := k2c0) (by decide +kernel) rfl rfl rfl (by decide +kernel)
set_option maxRecDepth 65536 in
theorem w_c3 : (Jvm.Cond.code ({ cls := "java/lang/Object", name := "<init>", desc := "()V" } : Jvm.MethodName) object_method_1_code (1 : Nat) (Option.none : Option Jvm.ClassFile.FieldType)).before args0 about1 = true := code_word (m := ⟨0, 0⟩) (meth := k0m0) (c := k0c0) (by decide +kernel) rfl rfl rfl (by decide +kernel)
set_option maxRecDepth 65536 in
theorem w_c4 : (Jvm.Cond.code ({ cls := "com/example/rangewell/rangewell/model/Family", name := "oldestLive", desc := "(J)J" } : Jvm.MethodName) prog_37_method_4_code (5 : Nat) (Option.some Jvm.ClassFile.FieldType.long)).before args0 about1 = true := code_word (m := ⟨3, 1⟩) (meth := k3m1) (c := k3c1) (by decide +kernel) rfl rfl rfl (by decide +kernel)
set_option maxRecDepth 65536 in
theorem w_c5 : (Jvm.Cond.code ({ cls := "com/example/rangewell/rangewell/model/FamilyOldestLivePinLaw", name := "expected", desc := "(JJ)J" } : Jvm.MethodName) method_2_code (8 : Nat) (Option.some Jvm.ClassFile.FieldType.long)).before args0 about1 = true := code_word (m := ⟨1, 1⟩) (meth := k1m1) (c := k1c1) (by decide +kernel) rfl rfl rfl (by decide +kernel)
def codes1 : List Jvm.Cond := [Jvm.Cond.code x code maxLocals ret, Jvm.Cond.code ({ cls := "com/example/rangewell/rangewell/model/Family", name := "<init>", desc := "([BIJ)V" } : Jvm.MethodName) prog_37_method_1_code (5 : Nat) (Option.none : Option Jvm.ClassFile.FieldType), Jvm.Cond.code ({ cls := "java/lang/Record", name := "<init>", desc := "()V" } : Jvm.MethodName) jdk_30_method_1_code (1 : Nat) (Option.none : Option Jvm.ClassFile.FieldType), Jvm.Cond.code ({ cls := "java/lang/Object", name := "<init>", desc := "()V" } : Jvm.MethodName) object_method_1_code (1 : Nat) (Option.none : Option Jvm.ClassFile.FieldType), Jvm.Cond.code ({ cls := "com/example/rangewell/rangewell/model/Family", name := "oldestLive", desc := "(J)J" } : Jvm.MethodName) prog_37_method_4_code (5 : Nat) (Option.some Jvm.ClassFile.FieldType.long), Jvm.Cond.code ({ cls := "com/example/rangewell/rangewell/model/FamilyOldestLivePinLaw", name := "expected", desc := "(JJ)J" } : Jvm.MethodName) method_2_code (8 : Nat) (Option.some Jvm.ClassFile.FieldType.long)]
set_option maxRecDepth 65536 in
theorem codes_eq : words1.filter isCode = codes1 := rfl
theorem w_codes : ∀ c ∈ words1.filter isCode, c.before args0 about1 = true := by
  rw [codes_eq]
  intro c hc
  simp only [codes1, List.mem_cons, List.not_mem_nil, or_false] at hc
  rcases hc with rfl | rfl | rfl | rfl | rfl | rfl
  · exact w_c0
  · exact w_c1
  · exact w_c2
  · exact w_c3
  · exact w_c4
  · exact w_c5
set_option maxRecDepth 65536 in
theorem w_t1 : (words1.take 24).all (fun c => isCode c || c.before args0 about1) = true := by decide +kernel
set_option maxRecDepth 65536 in
theorem w_t2 : (words1.drop 24).all (fun c => isCode c || c.before args0 about1) = true := by decide +kernel
theorem w_tables : (allAtoms (Jvm.Cond.code x code maxLocals ret :: tables_1)).before args0 about1 = true := by
  rw [allAtoms_all]
  show words1.all (fun c => c.before args0 about1) = true
  refine all_split ?_ w_codes
  rw [← List.take_append_drop 24 words1, List.all_append, w_t1, w_t2]
  rfl
set_option maxRecDepth 65536 in
theorem w_case : (Jvm.Cond.and given_1 narrow_1).before args0 about1 = true := by decide +kernel
theorem w_applies : (headSpec (Jvm.Cond.code x code maxLocals ret :: tables_1) room_1).applies x e0.platform about1 = true :=
  (Spec.applies_iff w_frames).mpr ⟨w_running, w_runnable, w_alone, w_named, w_hears, w_ripe, w_room, w_tables⟩
theorem atStart : AtStart classFile x code maxLocals ret World_1 tables_1 room_1 Calls_1 rest_1 Pre_1 launch0 p0 e0 about1 theMethod args0 below0 :=
  ⟨lists_1, trivial, launch0.admits_env _ _ _, launch0.least_env, fairChoices_fair.cas, fairChoices_fair.clock, w_frames, w_args, w_heap, w_applies, trivial, trivial, w_case⟩
end start1
theorem witness_1 : WitnessClaimed_1 := ⟨start1.p0, start1.e0, start1.about1, start1.theMethod, start1.args0, start1.below0, start1.atStart⟩
end Jvm.Pilot.@@N@@
