import JvmDerived
import JvmDerived.Pilot.@@N@@Statement
import JvmDerived.Pilot.@@N@@Code
set_option linter.unusedVariables false
set_option linter.unusedSimpArgs false

namespace Jvm.RoadKit
open Sem ClassFile Op Lib Jvm.Stand Jvm.Free Jvm.LawKit
section New
variable {p : Program} {l : Launch} {e : Env} {R : Room} {s : State} {m : MethodId} {args : Array Value} {below : List Frame} {meth : Method} {c : Code} {T : State} {locs : List Loc} {cells slots : Nat}
theorem retI (X : Stand p l e R s m args below meth c T locs cells slots) (hx : p.tables.exec = Jvm.exec) {pc : Nat} {Ls : Array Slot} {z : Int32} {rest : List Value} (hret : meth.sig.returnType = some .int) (hd : decode c.code pc = .ok (.ireturn, 1)) {fs : List Frame}
    (hl : ∀ (f : JFrame) (acts : List Action), f.method = m → f.locked = none → f.entered = [] → (doReturn e (T.setTop f) acts (some (.int z))).1 = T.setFrames fs) : Steps p.tables e below (T.setTop (mkF m pc Ls (.int z :: rest))) (T.setFrames fs) := by
  have hm' : T.vm.method? m = some meth := X.method'
  have hn : narrow .int (.int z) = .int z := rfl
  show Steps p.tables e below (T.setTop { method := m, pc := pc, locals := Ls, stack := _ :: rest, locked := none }) _
  jvm_step X.here [X.here.top, hx, hd, hm', hret, hn]
  first | (intro acts; rw [hl _ acts rfl rfl rfl]) | rw [hl _ _ rfl rfl rfl]
  exact Steps.refl _
end New
end Jvm.RoadKit
namespace Jvm.OwnKit
open Sem ClassFile Op Lib Jvm.Stand Jvm.Free Jvm.LawKit Jvm.RoadKit
section OwnLayer
variable {p : Program} {l : Launch} {e : Env} {R : Room} {s : State} {m : MethodId} {args : Array Value} {below : List Frame} {meth : Method} {c : Code} {T : State} {locs : List Loc} {cells slots : Nat} {Z : State} {h h' : Heap} {a b : Addr} {ty : FieldType} {n sl : Nat} {f : Nat → Value} {v : Value} {ws : List Addr}
/-- an array of n places, place j holding f j -/
def Ar (Z : State) (h : Heap) (a : Addr) (ty : FieldType) (n : Nat) (f : Nat → Value) : Prop := ∃ c : Cell, Arr Z h a c ty ∧ c.slots.size = n ∧ n < 2147483648 ∧ ∀ j, j < n → c.slots[j]? = some (f j)
theorem Ar.lt (F : Ar Z h a ty n f) : a < h.size := by obtain ⟨c, A, -⟩ := F; exact A.lt
theorem Ar.ext (F : Ar Z h a ty n f) (E : Ext h h') : Ar Z h' a ty n f := by obtain ⟨c, A, r⟩ := F; exact ⟨c, A.ext E, r⟩
theorem Ar.other (F : Ar Z h b ty n f) (W : Wr h h' a sl v) (q : b ≠ a) : Ar Z h' b ty n f := by obtain ⟨c, A, r⟩ := F; exact ⟨c, A.other W q, r⟩
theorem Ar.keep (F : Ar Z h a ty n f) (K : Keep h h' ws) (q : a ∉ ws) : Ar Z h' a ty n f := by obtain ⟨c, A, r⟩ := F; exact ⟨c, ⟨K.2.1 a c A.1 q, A.2⟩, r⟩
theorem Ar.as (F : Ar Z h a ty n f) {g : Nat → Value} (e : ∀ j, j < n → f j = g j) : Ar Z h a ty n g := by
  obtain ⟨c, A, r1, r2, r3⟩ := F; exact ⟨c, A, r1, r2, fun j hj => by rw [r3 j hj, e j hj]⟩
theorem nat_clamp (j : Int32) : j.toNatClampNeg = j.toInt.toNat := rfl
theorem Ar.new {k : ClassId} {z : Int32} {N : Nat} (A : Arr Z h a (newA k ty z) ty) (q : ¬ z < 0) (hN : z.toInt.toNat = N) : Ar Z h a ty N (fun _ => defaultValue ty) := by
  have hs : (newA k ty z).slots.size = N := by rw [sz_new, nat_clamp, hN]
  refine ⟨_, A, hs, ?_, fun j hj => ?_⟩
  · have := z.toInt_lt; omega
  · show (Array.replicate z.toNatClampNeg (defaultValue ty))[j]? = _
    rw [Array.getElem?_replicate, if_pos (by rw [nat_clamp, hN]; exact hj)]
theorem ar_in {c : Cell} {j : Int32} (hs : c.slots.size = n) (h0 : 0 ≤ j.toInt) (h1 : j.toInt < n) : ¬ (j < 0 ∨ c.slots.size ≤ j.toNatClampNeg) := by
  rw [hs, nat_clamp, Int32.lt_iff_toInt_lt]
  show ¬ (j.toInt < 0 ∨ n ≤ j.toInt.toNat)
  omega
theorem Ar.set {c : Cell} {j : Int32} (A : Arr Z h a c ty) (hs : c.slots.size = n) (hn : n < 2147483648) (H : ∀ j, j < n → c.slots[j]? = some (f j)) (h0 : 0 ≤ j.toInt) (h1 : j.toInt < n) (W : Wr h h' a j.toNatClampNeg v) : Ar Z h' a ty n (fun i => if i = j.toInt.toNat then v else f i) := by
  refine ⟨_, A.same W, by rw [sz_set, hs], hn, fun i hi => ?_⟩
  show (c.slots.setIfInBounds j.toNatClampNeg v)[i]? = _
  rw [Array.getElem?_setIfInBounds, nat_clamp]
  show _ = some (if i = j.toInt.toNat then v else f i)
  by_cases q : i = j.toInt.toNat
  · rw [if_pos q.symm, if_pos (by omega), if_pos q]
  · rw [if_neg (fun z => q z.symm), if_neg q, H i hi]
theorem arv_ar {k : ClassId} {z : Int32} {vs : List Value} {d : Value} (F : Arv Z h a k ty z vs d) : Ar Z h a ty z.toInt.toNat (fun i => vs.getD i d) := by
  obtain ⟨c, A, -, r2, r3, H, -⟩ := F
  have hz := z.toInt_lt
  exact ⟨c, A, r2, by omega, fun j hj => H j (by rw [r2, nat_clamp]; exact hj)⟩
theorem ldAI (X : Stand p l e R s m args below meth c T locs cells slots) (hx : p.tables.exec = Jvm.exec) (hZ : Z.Warmed39 s.vm) (eT : T.heap = h) (F : Ar Z h a .int n f) {j : Int32} (h0 : 0 ≤ j.toInt) (h1 : j.toInt < n) {w : Value} (hv : f j.toInt.toNat = w)
    {g : JFrame} (hg : g.method = m) {rest : List Value} (hs : g.stack = .int j :: .ref a :: rest) (hd : decode c.code g.pc = .ok (.iaload, 1)) :
    ∀ target, Steps p.tables e below (T.setTop { g with pc := g.pc + 1, stack := w :: rest }) target → Steps p.tables e below (T.setTop g) target := by
  obtain ⟨cl, A, r1, r2, r3⟩ := F
  exact fun target k => X.iaload hx (by rw [eT]; exact A.1) (State.isArrayOf_alike hZ.alike A.2.1) A.2.2 (ar_in r1 h0 h1) (by rw [nat_clamp, r3 _ (by omega), hv]) hg hs hd target k
theorem ldAL (X : Stand p l e R s m args below meth c T locs cells slots) (hx : p.tables.exec = Jvm.exec) (hZ : Z.Warmed39 s.vm) (eT : T.heap = h) (F : Ar Z h a .long n f) {j : Int32} (h0 : 0 ≤ j.toInt) (h1 : j.toInt < n) {w : Value} (hv : f j.toInt.toNat = w)
    {g : JFrame} (hg : g.method = m) {rest : List Value} (hs : g.stack = .int j :: .ref a :: rest) (hd : decode c.code g.pc = .ok (.laload, 1)) :
    ∀ target, Steps p.tables e below (T.setTop { g with pc := g.pc + 1, stack := w :: rest }) target → Steps p.tables e below (T.setTop g) target := by
  obtain ⟨cl, A, r1, r2, r3⟩ := F
  exact fun target k => X.laload hx (by rw [eT]; exact A.1) (State.isArrayOf_alike hZ.alike A.2.1) A.2.2 (ar_in r1 h0 h1) (by rw [nat_clamp, r3 _ (by omega), hv]) hg hs hd target k
theorem ldAB (X : Stand p l e R s m args below meth c T locs cells slots) (hx : p.tables.exec = Jvm.exec) (hZ : Z.Warmed39 s.vm) (eT : T.heap = h) (F : Ar Z h a .byte n f) {j : Int32} (h0 : 0 ≤ j.toInt) (h1 : j.toInt < n) {w : Value} (hv : f j.toInt.toNat = w)
    {g : JFrame} (hg : g.method = m) {rest : List Value} (hs : g.stack = .int j :: .ref a :: rest) (hd : decode c.code g.pc = .ok (.baload, 1)) :
    ∀ target, Steps p.tables e below (T.setTop { g with pc := g.pc + 1, stack := w :: rest }) target → Steps p.tables e below (T.setTop g) target := by
  obtain ⟨cl, A, r1, r2, r3⟩ := F
  exact fun target k => X.baloadBytes hx (by rw [eT]; exact A.1) (State.isArrayOf_alike hZ.alike A.2.1) A.2.2 (ar_in r1 h0 h1) (by rw [nat_clamp, r3 _ (by omega), hv]) hg hs hd target k
theorem ldAZ (X : Stand p l e R s m args below meth c T locs cells slots) (hx : p.tables.exec = Jvm.exec) (hZ : Z.Warmed39 s.vm) (eT : T.heap = h) (F : Ar Z h a .boolean n f) {j : Int32} (h0 : 0 ≤ j.toInt) (h1 : j.toInt < n) {w : Value} (hv : f j.toInt.toNat = w)
    {g : JFrame} (hg : g.method = m) {rest : List Value} (hs : g.stack = .int j :: .ref a :: rest) (hd : decode c.code g.pc = .ok (.baload, 1)) :
    ∀ target, Steps p.tables e below (T.setTop { g with pc := g.pc + 1, stack := w :: rest }) target → Steps p.tables e below (T.setTop g) target := by
  obtain ⟨cl, A, r1, r2, r3⟩ := F
  exact fun target k => X.baloadBooleans hx (by rw [eT]; exact A.1) (State.isArrayOf_alike hZ.alike A.2.1) A.2.2 (ar_in r1 h0 h1) (by rw [nat_clamp, r3 _ (by omega), hv]) hg hs hd target k
theorem alen (X : Stand p l e R s m args below meth c T locs cells slots) (hx : p.tables.exec = Jvm.exec) (hZ : Z.Warmed39 s.vm) (eT : T.heap = h) (F : Ar Z h a ty n f) {z : Int32} (hz : z.toInt = n)
    {g : JFrame} (hg : g.method = m) {rest : List Value} (hs : g.stack = .ref a :: rest) (hd : decode c.code g.pc = .ok (.arraylength, 1)) :
    ∀ target, Steps p.tables e below (T.setTop { g with pc := g.pc + 1, stack := .int z :: rest }) target → Steps p.tables e below (T.setTop g) target := by
  obtain ⟨cl, A, r1, r2, r3⟩ := F
  have q : cl.slots.size.toInt32 = z := by
    rw [r1]
    apply Int32.toInt_inj.mp
    rw [hz]
    show (Int32.ofNat n).toInt = n
    exact Int32.toInt_ofNat_small (by omega)
  exact fun target k => X.arraylength hx (by rw [eT]; exact A.1) (State.isArrayOf_alike hZ.alike A.2.1) hg hs hd target (by rw [q]; exact k)
theorem stAI (X : Stand p l e R s m args below meth c T locs cells slots) (hx : p.tables.exec = Jvm.exec) (hZ : Z.Warmed39 s.vm) (eT : T.heap = h) (F : Ar Z h a .int n f) {j x : Int32} (h0 : 0 ≤ j.toInt) (h1 : j.toInt < n)
    {g : JFrame} (hg : g.method = m) {rest : List Value} (hs : g.stack = .int x :: .int j :: .ref a :: rest) (hd : decode c.code g.pc = .ok (.iastore, 1)) :
    ∃ T' h', Stand p l e R s m args below meth c T' (locs ++ [⟨a, j.toNatClampNeg⟩]) cells slots ∧ T'.heap = h' ∧ Wr h h' a j.toNatClampNeg (.int x) ∧ Ar Z h' a .int n (fun i => if i = j.toInt.toNat then .int x else f i) ∧ ∀ target, Steps p.tables e below (T'.setTop { g with pc := g.pc + 1, stack := rest }) target → Steps p.tables e below (T.setTop g) target := by
  obtain ⟨cl, A, r1, r2, r3⟩ := F
  obtain ⟨T', h', X', e', W, st⟩ := stI X hx hZ eT A (ar_in r1 h0 h1) hg hs hd
  exact ⟨T', h', X', e', W, Ar.set A r1 r2 r3 h0 h1 W, st⟩
theorem stAL (X : Stand p l e R s m args below meth c T locs cells slots) (hx : p.tables.exec = Jvm.exec) (hZ : Z.Warmed39 s.vm) (eT : T.heap = h) (F : Ar Z h a .long n f) {j : Int32} {x : Int64} (h0 : 0 ≤ j.toInt) (h1 : j.toInt < n)
    {g : JFrame} (hg : g.method = m) {rest : List Value} (hs : g.stack = .long x :: .int j :: .ref a :: rest) (hd : decode c.code g.pc = .ok (.lastore, 1)) :
    ∃ T' h', Stand p l e R s m args below meth c T' (locs ++ [⟨a, j.toNatClampNeg⟩]) cells slots ∧ T'.heap = h' ∧ Wr h h' a j.toNatClampNeg (.long x) ∧ Ar Z h' a .long n (fun i => if i = j.toInt.toNat then .long x else f i) ∧ ∀ target, Steps p.tables e below (T'.setTop { g with pc := g.pc + 1, stack := rest }) target → Steps p.tables e below (T.setTop g) target := by
  obtain ⟨cl, A, r1, r2, r3⟩ := F
  obtain ⟨T', h', X', e', W, st⟩ := stJ X hx hZ eT A (ar_in r1 h0 h1) hg hs hd
  exact ⟨T', h', X', e', W, Ar.set A r1 r2 r3 h0 h1 W, st⟩
theorem stAB (X : Stand p l e R s m args below meth c T locs cells slots) (hx : p.tables.exec = Jvm.exec) (hZ : Z.Warmed39 s.vm) (eT : T.heap = h) (F : Ar Z h a .byte n f) {j x : Int32} (h0 : 0 ≤ j.toInt) (h1 : j.toInt < n)
    {g : JFrame} (hg : g.method = m) {rest : List Value} (hs : g.stack = .int x :: .int j :: .ref a :: rest) (hd : decode c.code g.pc = .ok (.bastore, 1)) :
    ∃ T' h', Stand p l e R s m args below meth c T' (locs ++ [⟨a, j.toNatClampNeg⟩]) cells slots ∧ T'.heap = h' ∧ Wr h h' a j.toNatClampNeg (.int (nar .byte x)) ∧ Ar Z h' a .byte n (fun i => if i = j.toInt.toNat then .int (nar .byte x) else f i) ∧ ∀ target, Steps p.tables e below (T'.setTop { g with pc := g.pc + 1, stack := rest }) target → Steps p.tables e below (T.setTop g) target := by
  obtain ⟨cl, A, r1, r2, r3⟩ := F
  obtain ⟨T', h', X', e', W, st⟩ := stB X hx hZ eT A (ar_in r1 h0 h1) hg hs hd
  exact ⟨T', h', X', e', W, Ar.set A r1 r2 r3 h0 h1 W, st⟩
theorem stAZ (X : Stand p l e R s m args below meth c T locs cells slots) (hx : p.tables.exec = Jvm.exec) (hZ : Z.Warmed39 s.vm) (eT : T.heap = h) (F : Ar Z h a .boolean n f) {j x : Int32} (h0 : 0 ≤ j.toInt) (h1 : j.toInt < n)
    {g : JFrame} (hg : g.method = m) {rest : List Value} (hs : g.stack = .int x :: .int j :: .ref a :: rest) (hd : decode c.code g.pc = .ok (.bastore, 1)) :
    ∃ T' h', Stand p l e R s m args below meth c T' (locs ++ [⟨a, j.toNatClampNeg⟩]) cells slots ∧ T'.heap = h' ∧ Wr h h' a j.toNatClampNeg (.int (nar .boolean x)) ∧ Ar Z h' a .boolean n (fun i => if i = j.toInt.toNat then .int (nar .boolean x) else f i) ∧ ∀ target, Steps p.tables e below (T'.setTop { g with pc := g.pc + 1, stack := rest }) target → Steps p.tables e below (T.setTop g) target := by
  obtain ⟨cl, A, r1, r2, r3⟩ := F
  obtain ⟨T', h', X', e', W, st⟩ := stZ X hx hZ eT A (ar_in r1 h0 h1) hg hs hd
  exact ⟨T', h', X', e', W, Ar.set A r1 r2 r3 h0 h1 W, st⟩
end OwnLayer
end Jvm.OwnKit
namespace Jvm.Pilot.@@N@@
open Jvm Jvm.ClassFile Sem Op Lib Jvm.Free Jvm.Stand Jvm.LawKit Jvm.RoadKit Bundle Jvm.OwnKit Jvm.Pilot.@@N@@.Jvm.D
def fcont (oo : Int64) (on : Int64) (ot : Int64) : Int32 := (if ot < oo then (0 : Int32) else (if on < ot then (0 : Int32) else (1 : Int32)))
def fmax (u0 : Int64) (u1 : Int64) : Int64 := (if u0 < u1 then u1 else u0)
def fmin (u0 : Int64) (u1 : Int64) : Int64 := (if u1 < u0 then u1 else u0)
theorem ef_1 (m : MethodId) (x0 : Addr) : entryFrame m #[(.ref x0)] 1 = mkF m 0 #[.val (.ref x0)] [] := by first | (simp [entryFrame, mkF, argsToLocals, Value.category]; done) | rfl
theorem pn_java_lang_Record : plainName "java/lang/Record" = true := by first | (simp [plainName, overriddenIn]; done) | decide +kernel
theorem d1_0 : decode jdk_30_method_1_code 0 = .ok (.aload_n 0, 1) := by decide +kernel
theorem d1_1 : decode jdk_30_method_1_code 1 = .ok (.invokespecial 1, 3) := by decide +kernel
theorem d1_4 : decode jdk_30_method_1_code 4 = .ok (.return_, 1) := by decide +kernel
theorem ef_2 (m : MethodId) (x0 : Addr) (x1 : Int64) (x2 : Int64) : entryFrame m #[(.ref x0), (.long x1), (.long x2)] 5 = mkF m 0 #[.val (.ref x0), .val (.long x1), .second, .val (.long x2), .second] [] := by first | (simp [entryFrame, mkF, argsToLocals, Value.category]; done) | rfl
theorem pn_com_example_rangewell_rangewell_model_TimeRange : plainName "com/example/rangewell/rangewell/model/TimeRange" = true := by first | (simp [plainName, overriddenIn]; done) | decide +kernel
theorem d2_0 : decode prog_54_method_1_code 0 = .ok (.aload_n 0, 1) := by decide +kernel
theorem d2_1 : decode prog_54_method_1_code 1 = .ok (.invokespecial 1, 3) := by decide +kernel
theorem pd_ocV : parseMethodDescriptor "()V" = some ⟨[], none⟩ := by decide +kernel
theorem d2_4 : decode prog_54_method_1_code 4 = .ok (.aload_n 0, 1) := by decide +kernel
theorem d2_5 : decode prog_54_method_1_code 5 = .ok (.lload_n 1, 1) := by decide +kernel
theorem d2_6 : decode prog_54_method_1_code 6 = .ok (.putfield 7, 3) := by decide +kernel
theorem d2_9 : decode prog_54_method_1_code 9 = .ok (.aload_n 0, 1) := by decide +kernel
theorem d2_10 : decode prog_54_method_1_code 10 = .ok (.lload_n 3, 1) := by decide +kernel
theorem d2_11 : decode prog_54_method_1_code 11 = .ok (.putfield 13, 3) := by decide +kernel
theorem d2_14 : decode prog_54_method_1_code 14 = .ok (.return_, 1) := by decide +kernel
theorem ef_3 (m : MethodId) (x0 : Addr) (x1 : Int64) : entryFrame m #[(.ref x0), (.long x1)] 3 = mkF m 0 #[.val (.ref x0), .val (.long x1), .second] [] := by first | (simp [entryFrame, mkF, argsToLocals, Value.category]; done) | rfl
theorem d3_0 : decode prog_54_method_4_code 0 = .ok (.lload_n 1, 1) := by decide +kernel
theorem d3_1 : decode prog_54_method_4_code 1 = .ok (.aload_n 0, 1) := by decide +kernel
theorem d3_2 : decode prog_54_method_4_code 2 = .ok (.getfield 7, 3) := by decide +kernel
theorem d3_5 : decode prog_54_method_4_code 5 = .ok (.lcmp, 1) := by decide +kernel
theorem d3_6 : decode prog_54_method_4_code 6 = .ok (.ifCond .lt 16, 3) := by decide +kernel
theorem d3_22 : decode prog_54_method_4_code 22 = .ok (.iconst 0, 1) := by decide +kernel
theorem d3_9 : decode prog_54_method_4_code 9 = .ok (.lload_n 1, 1) := by decide +kernel
theorem d3_10 : decode prog_54_method_4_code 10 = .ok (.aload_n 0, 1) := by decide +kernel
theorem d3_11 : decode prog_54_method_4_code 11 = .ok (.getfield 13, 3) := by decide +kernel
theorem d3_14 : decode prog_54_method_4_code 14 = .ok (.lcmp, 1) := by decide +kernel
theorem d3_15 : decode prog_54_method_4_code 15 = .ok (.ifCond .gt 7, 3) := by decide +kernel
theorem d3_18 : decode prog_54_method_4_code 18 = .ok (.iconst 1, 1) := by decide +kernel
theorem d3_19 : decode prog_54_method_4_code 19 = .ok (.goto 4, 3) := by decide +kernel
theorem d3_23 : decode prog_54_method_4_code 23 = .ok (.ireturn, 1) := by decide +kernel
theorem ef_4 (m : MethodId) (x0 : Addr) : entryFrame m #[(.ref x0)] 1 = mkF m 0 #[.val (.ref x0)] [] := by first | (simp [entryFrame, mkF, argsToLocals, Value.category]; done) | rfl
theorem d4_0 : decode prog_54_method_8_code 0 = .ok (.aload_n 0, 1) := by decide +kernel
theorem d4_1 : decode prog_54_method_8_code 1 = .ok (.getfield 7, 3) := by decide +kernel
theorem d4_4 : decode prog_54_method_8_code 4 = .ok (.lreturn, 1) := by decide +kernel
theorem ef_5 (m : MethodId) (x0 : Addr) : entryFrame m #[(.ref x0)] 1 = mkF m 0 #[.val (.ref x0)] [] := by first | (simp [entryFrame, mkF, argsToLocals, Value.category]; done) | rfl
theorem d5_0 : decode prog_54_method_9_code 0 = .ok (.aload_n 0, 1) := by decide +kernel
theorem d5_1 : decode prog_54_method_9_code 1 = .ok (.getfield 13, 3) := by decide +kernel
theorem d5_4 : decode prog_54_method_9_code 4 = .ok (.lreturn, 1) := by decide +kernel
theorem ef_6 (m : MethodId) (x0 : Int64) (x1 : Int64) : entryFrame m #[(.long x0), (.long x1)] 4 = mkF m 0 #[.val (.long x0), .second, .val (.long x1), .second] [] := by first | (simp [entryFrame, mkF, argsToLocals, Value.category]; done) | rfl
theorem d6_0 : decode jdk_29_method_66_code 0 = .ok (.lload_n 0, 1) := by decide +kernel
theorem d6_1 : decode jdk_29_method_66_code 1 = .ok (.lload_n 2, 1) := by decide +kernel
theorem d6_2 : decode jdk_29_method_66_code 2 = .ok (.lcmp, 1) := by decide +kernel
theorem d6_3 : decode jdk_29_method_66_code 3 = .ok (.ifCond .lt 7, 3) := by decide +kernel
theorem d6_10 : decode jdk_29_method_66_code 10 = .ok (.lload_n 2, 1) := by decide +kernel
theorem d6_6 : decode jdk_29_method_66_code 6 = .ok (.lload_n 0, 1) := by decide +kernel
theorem d6_7 : decode jdk_29_method_66_code 7 = .ok (.goto 4, 3) := by decide +kernel
theorem d6_11 : decode jdk_29_method_66_code 11 = .ok (.lreturn, 1) := by decide +kernel
theorem ef_7 (m : MethodId) (x0 : Int64) (x1 : Int64) : entryFrame m #[(.long x0), (.long x1)] 4 = mkF m 0 #[.val (.long x0), .second, .val (.long x1), .second] [] := by first | (simp [entryFrame, mkF, argsToLocals, Value.category]; done) | rfl
theorem d7_0 : decode jdk_29_method_70_code 0 = .ok (.lload_n 0, 1) := by decide +kernel
theorem d7_1 : decode jdk_29_method_70_code 1 = .ok (.lload_n 2, 1) := by decide +kernel
theorem d7_2 : decode jdk_29_method_70_code 2 = .ok (.lcmp, 1) := by decide +kernel
theorem d7_3 : decode jdk_29_method_70_code 3 = .ok (.ifCond .gt 7, 3) := by decide +kernel
theorem d7_10 : decode jdk_29_method_70_code 10 = .ok (.lload_n 2, 1) := by decide +kernel
theorem d7_6 : decode jdk_29_method_70_code 6 = .ok (.lload_n 0, 1) := by decide +kernel
theorem d7_7 : decode jdk_29_method_70_code 7 = .ok (.goto 4, 3) := by decide +kernel
theorem d7_11 : decode jdk_29_method_70_code 11 = .ok (.lreturn, 1) := by decide +kernel
theorem ef_0 (m : MethodId) (x0 : Int64) (x1 : Int64) (x2 : Int64) (x3 : Int32) : entryFrame m #[(.long x0), (.long x1), (.long x2), (.int x3)] maxLocals = mkF m 0 #[.val (.long x0), .second, .val (.long x1), .second, .val (.long x2), .second, .val (.int x3), .unset, .unset, .unset, .unset, .unset, .unset, .unset, .unset, .unset, .unset] [] := by first | (simp [entryFrame, mkF, argsToLocals, Value.category, maxLocals]; done) | rfl
theorem pn_com_example_rangewell_rangewell_model_TimeRangeContainsPinLaw : plainName "com/example/rangewell/rangewell/model/TimeRangeContainsPinLaw" = true := by first | (simp [plainName, overriddenIn]; done) | decide +kernel
theorem pd_oJJcJ : parseMethodDescriptor "(JJ)J" = some ⟨[.long, .long], some .long⟩ := by decide +kernel
theorem pd_oJJcV : parseMethodDescriptor "(JJ)V" = some ⟨[.long, .long], none⟩ := by decide +kernel
theorem pd_oJcZ : parseMethodDescriptor "(J)Z" = some ⟨[.long], some .boolean⟩ := by decide +kernel
theorem pd_ocJ : parseMethodDescriptor "()J" = some ⟨[], some .long⟩ := by decide +kernel

def Q1 (Z : State) (ra : Addr) (h0 : Heap) (n0 : Nat) (v : Option Value) (h : Heap) (L : List Loc) : Prop := v = none ∧ Fr n0 L ∧ h = h0
set_option maxRecDepth 65536 in
set_option maxHeartbeats 40000000 in
theorem rm1 (l : Launch) (Z : State) (a0 : Array Value) (hw : ∀ d ∈ tables_1, d.before a0 Z = true) (ws : List Jvm.Cond) (ra : Addr) (h0 : Heap) (n0 : Nat) (Z0 : n0 ≤ h0.size)  :
    MetFree l (⟨"java/lang/Record", "<init>", "()V"⟩ : MethodName) (head1 (Jvm.Cond.code (⟨"java/lang/Record", "<init>", "()V"⟩ : MethodName) jdk_30_method_1_code 1 none :: ws) ({ frames := 1, cells := 0, slots := 0, locals := 12 } : Room)) (fun a U => a = #[(.ref ra)] ∧ Z.Warmed39 U.vm ∧ U.heap = h0) (fun _ _ _ _ _ => True) (fun _ U o U' => ∃ v L, o = .returned v ∧ Q1 Z ra h0 n0 v U'.heap L ∧ FrameEnd U o U' L ({ frames := 1, cells := 0, slots := 0, locals := 12 } : Room).cells ({ frames := 1, cells := 0, slots := 0, locals := 12 } : Room).slots) := by
  refine MetFree.of_bodySF (plainFor_of_name pn_java_lang_Record) hisR ?_
  intro p e s m args0 below meth c s₁ Bd hml0 hP hK
  obtain ⟨rfl, hZ, hh⟩ := hP
  have hx := Bd.exec
  have hby := Bd.bytes
  have hml : c.maxLocals = 1 := hml0
  have hown : s.vm.findClass "java/lang/Record" = some m.cls := findClass_of_methodNamed Bd.named
  have hnm := (name_of_methodNamed Bd.named Bd.method).1
  have X0 : Stand p l e ({ frames := 1, cells := 0, slots := 0, locals := 12 } : Room) s m #[(.ref ra)] below meth c s₁ [] 0 0 := Stand.of_body Bd
  have e0 : s₁.heap = h0 := by rw [← hh, Bd.state]; rfl
  have N0 := Fr.nil n0
  have pre0 : ∀ t, Steps p.tables e below (s₁.setTop (mkF m 0 #[.val (.ref ra)] [])) t → Steps p.tables e below (s₁.setTop (entryFrame m #[(.ref ra)] 1)) t := fun t k => castTop (ef_1 m ra) k
  have s1 : ∀ t, Steps p.tables e below (s₁.setTop (mkF m 1 #[.val (.ref ra)] [(.ref ra)])) t → Steps p.tables e below (s₁.setTop (mkF m 0 #[.val (.ref ra)] [])) t := by
    intro t kt
    refine XS.aloadN X0.here hx rfl (hb hby d1_0) rfl rfl ?_
    exact kt
  obtain ⟨T2, X2, e2, st2⟩ := initO X0 hx hZ hown (hw _ (List.mem_of_getElem? (i := 11) rfl)) (hw _ (List.mem_of_getElem? (i := 12) rfl)) (hw _ (List.mem_of_getElem? (i := 13) rfl)) e0 (g := (mkF m 1 #[.val (.ref ra)] [(.ref ra)])) rfl (by rw [hml]; rfl) rfl (hb hby d1_1) (by decide) (W := 0) (by show 2 * 0 + _ ≤ _; exact Nat.le_of_eq rfl) (by decide)
  obtain ⟨fs_, hr, hrun, hended, hW, hsame⟩ := X2.leave (v := none) (fun _ => rfl)
  refine ⟨_, _, pre0 _ (s1 _ (st2 _ (?_))), hrun, hended, _, _, rfl, ?_, ⟨_, rfl⟩, hW, hsame.mono (by decide) (by decide)⟩
  · show Steps p.tables e below (T2.setTop (mkF m 4 #[.val (.ref ra)] [])) _
    exact X2.returnOut hx Bd.returns (hb hby d1_4) hr
  · show Q1 Z ra h0 n0 _ T2.heap _
    rw [e2]
    exact ⟨rfl, N0, rfl⟩
def Q2 (Z : State) (fa : Addr) (fo : Int64) (fn : Int64) (h0 : Heap) (n0 : Nat) (v : Option Value) (h : Heap) (L : List Loc) : Prop := v = none ∧ Fr n0 L ∧ Keep h0 h [fa] ∧ Exa Z h fa "com/example/rangewell/rangewell/model/TimeRange" ∧ Fld Z h fa "com/example/rangewell/rangewell/model/TimeRange" "oldest" "J" (.long fo) ∧ Fld Z h fa "com/example/rangewell/rangewell/model/TimeRange" "newest" "J" (.long fn)
set_option maxRecDepth 65536 in
set_option maxHeartbeats 40000000 in
theorem rm2 (l : Launch) (Z : State) (a0 : Array Value) (hw : ∀ d ∈ tables_1, d.before a0 Z = true) (ws : List Jvm.Cond) (fa : Addr) (fo : Int64) (fn : Int64) (h0 : Heap) (n0 : Nat) (Z0 : n0 ≤ h0.size) (Ea : Exa Z h0 fa "com/example/rangewell/rangewell/model/TimeRange") (F1 : Fld Z h0 fa "com/example/rangewell/rangewell/model/TimeRange" "oldest" "J" (.long (0 : Int64))) (F2 : Fld Z h0 fa "com/example/rangewell/rangewell/model/TimeRange" "newest" "J" (.long (0 : Int64))) (Ga : n0 ≤ fa) :
    MetFree l (⟨"com/example/rangewell/rangewell/model/TimeRange", "<init>", "(JJ)V"⟩ : MethodName) (head1 (Jvm.Cond.code (⟨"com/example/rangewell/rangewell/model/TimeRange", "<init>", "(JJ)V"⟩ : MethodName) prog_54_method_1_code 5 none :: ws) ({ frames := 2, cells := 0, slots := 0, locals := 24 } : Room)) (fun a U => a = #[(.ref fa), (.long fo), (.long fn)] ∧ Z.Warmed39 U.vm ∧ U.heap = h0) (fun _ _ _ _ _ => True) (fun _ U o U' => ∃ v L, o = .returned v ∧ Q2 Z fa fo fn h0 n0 v U'.heap L ∧ FrameEnd U o U' L ({ frames := 2, cells := 0, slots := 0, locals := 24 } : Room).cells ({ frames := 2, cells := 0, slots := 0, locals := 24 } : Room).slots) := by
  refine MetFree.of_bodySF (plainFor_of_name pn_com_example_rangewell_rangewell_model_TimeRange) hisR ?_
  intro p e s m args0 below meth c s₁ Bd hml0 hP hK
  obtain ⟨rfl, hZ, hh⟩ := hP
  have hx := Bd.exec
  have hby := Bd.bytes
  have hml : c.maxLocals = 5 := hml0
  have hown : s.vm.findClass "com/example/rangewell/rangewell/model/TimeRange" = some m.cls := findClass_of_methodNamed Bd.named
  have hnm := (name_of_methodNamed Bd.named Bd.method).1
  have X0 : Stand p l e ({ frames := 2, cells := 0, slots := 0, locals := 24 } : Room) s m #[(.ref fa), (.long fo), (.long fn)] below meth c s₁ [] 0 0 := Stand.of_body Bd
  have e0 : s₁.heap = h0 := by rw [← hh, Bd.state]; rfl
  have N0 := Fr.nil n0
  have pre0 : ∀ t, Steps p.tables e below (s₁.setTop (mkF m 0 #[.val (.ref fa), .val (.long fo), .second, .val (.long fn), .second] [])) t → Steps p.tables e below (s₁.setTop (entryFrame m #[(.ref fa), (.long fo), (.long fn)] 5)) t := fun t k => castTop (ef_2 m fa fo fn) k
  have s3 : ∀ t, Steps p.tables e below (s₁.setTop (mkF m 1 #[.val (.ref fa), .val (.long fo), .second, .val (.long fn), .second] [(.ref fa)])) t → Steps p.tables e below (s₁.setTop (mkF m 0 #[.val (.ref fa), .val (.long fo), .second, .val (.long fn), .second] [])) t := by
    intro t kt
    refine XS.aloadN X0.here hx rfl (hb hby d2_0) rfl rfl ?_
    exact kt
  obtain ⟨_, _, ⟨T4, L4, k4, n4⟩, -, X4, ⟨Lc4, hQ4, l4, y4, z4⟩, st4⟩ := X0.specialBack hx (y := (⟨"java/lang/Record", "<init>", "()V"⟩ : MethodName)) rfl hown (mvT hZ (hw _ (List.mem_of_getElem? (i := 6) rfl))) (mvT hZ (hw _ (List.mem_of_getElem? (i := 7) rfl))) (mvT hZ (hw _ (List.mem_of_getElem? (i := 10) rfl))) (by decide) (backOf (W := 0) (rm1 l Z a0 hw [] fa h0 n0 Z0 ) hZ (hw _ (List.mem_of_getElem? (i := 10) rfl)) (hw _ (List.mem_of_getElem? (i := 9) rfl)) (by decide) (by decide)) (g := (mkF m 1 #[.val (.ref fa), .val (.long fo), .second, .val (.long fn), .second] [(.ref fa)])) rfl (by rw [hml]; rfl) (Steps.refl _) (a := fa) (argsL := []) (rest := []) (lenOf pd_ocV rfl) rfl (by show 2 * 0 + _ ≤ _; exact Nat.le_of_eq rfl) (hb hby d2_1) (fun _ _ => ⟨rfl, e0, (by decide : 0 + 0 ≤ _), (by decide : 0 + 0 ≤ _)⟩)
  dsimp only [Pt.U, Pt.locs, Pt.cells, Pt.slots] at X4 l4 y4 z4 st4 hQ4
  subst l4 y4 z4
  obtain ⟨rfl, N4q, e4q⟩ := hQ4
  have N4 := Fr.app N0 N4q
  have s5 : ∀ t, Steps p.tables e below (T4.setTop (mkF m 6 #[.val (.ref fa), .val (.long fo), .second, .val (.long fn), .second] [(.long fo), (.ref fa)])) t → Steps p.tables e below (T4.setTop (mkF m 4 #[.val (.ref fa), .val (.long fo), .second, .val (.long fn), .second] [])) t := by
    intro t kt
    refine XS.aloadN X4.here hx rfl (hb hby d2_4) rfl rfl ?_
    show Steps p.tables e below (T4.setTop (mkF m 5 #[.val (.ref fa), .val (.long fo), .second, .val (.long fn), .second] [(.ref fa)])) t
    refine XS.lloadN X4.here hx rfl (hb hby d2_5) rfl ?_
    exact kt
  obtain ⟨T6, h6, X6, e6, W6, st6⟩ := putF X4 hx hZ hown (host := "") (Or.inl (hw _ (List.mem_of_getElem? (i := 14) rfl))) Via.refl e4q F1 Ea (Or.inr ⟨(hw _ (List.mem_of_getElem? (i := 15) rfl)), rfl, hnm⟩) (hw _ (List.mem_of_getElem? (i := 1) rfl)) (ty := .long) (by decide) rfl rfl (g := (mkF m 6 #[.val (.ref fa), .val (.long fo), .second, .val (.long fn), .second] [(.long fo), (.ref fa)])) rfl rfl (hb hby d2_6)
  have Zs6 : n0 ≤ h6.size := Nat.le_trans Z0 (Keep.of_wr W6).1
  have fE7 := Ea.wr W6
  have fF8 := F1.same W6
  have fF9 := F2.other W6 (Or.inr (slot_ne (Or.inr (hw _ (List.mem_of_getElem? (i := 17) rfl))) (Or.inr (hw _ (List.mem_of_getElem? (i := 15) rfl))) (by decide) (t := .long) (t' := .long) (by decide) (by decide)))
  have K6 : Keep h0 h6 [fa] := (Keep.refl h0 [fa]).wr W6 (Or.inl (List.mem_of_getElem? (i := 0) rfl))
  have N6 := Fr.snoc X6 N4 Ga
  have s10 : ∀ t, Steps p.tables e below (T6.setTop (mkF m 11 #[.val (.ref fa), .val (.long fo), .second, .val (.long fn), .second] [(.long fn), (.ref fa)])) t → Steps p.tables e below (T6.setTop (mkF m 9 #[.val (.ref fa), .val (.long fo), .second, .val (.long fn), .second] [])) t := by
    intro t kt
    refine XS.aloadN X6.here hx rfl (hb hby d2_9) rfl rfl ?_
    show Steps p.tables e below (T6.setTop (mkF m 10 #[.val (.ref fa), .val (.long fo), .second, .val (.long fn), .second] [(.ref fa)])) t
    refine XS.lloadN X6.here hx rfl (hb hby d2_10) rfl ?_
    exact kt
  obtain ⟨T11, h11, X11, e11, W11, st11⟩ := putF X6 hx hZ hown (host := "") (Or.inl (hw _ (List.mem_of_getElem? (i := 16) rfl))) Via.refl e6 fF9 fE7 (Or.inr ⟨(hw _ (List.mem_of_getElem? (i := 17) rfl)), rfl, hnm⟩) (hw _ (List.mem_of_getElem? (i := 1) rfl)) (ty := .long) (by decide) rfl rfl (g := (mkF m 11 #[.val (.ref fa), .val (.long fo), .second, .val (.long fn), .second] [(.long fn), (.ref fa)])) rfl rfl (hb hby d2_11)
  have Zs11 : n0 ≤ h11.size := Nat.le_trans Zs6 (Keep.of_wr W11).1
  have fE12 := fE7.wr W11
  have fF13 := fF8.other W11 (Or.inr (slot_ne (Or.inr (hw _ (List.mem_of_getElem? (i := 15) rfl))) (Or.inr (hw _ (List.mem_of_getElem? (i := 17) rfl))) (by decide) (t := .long) (t' := .long) (by decide) (by decide)))
  have fF14 := fF9.same W11
  have K11 : Keep h0 h11 [fa] := K6.wr W11 (Or.inl (List.mem_of_getElem? (i := 0) rfl))
  have N11 := Fr.snoc X11 N6 Ga
  obtain ⟨fs_, hr, hrun, hended, hW, hsame⟩ := X11.leave (v := none) (fun _ => rfl)
  refine ⟨_, _, pre0 _ (s3 _ (st4.trans (s5 _ (st6 _ (s10 _ (st11 _ (?_))))))), hrun, hended, _, _, rfl, ?_, ⟨_, rfl⟩, hW, hsame.mono (by decide) (by decide)⟩
  · show Steps p.tables e below (T11.setTop (mkF m 14 #[.val (.ref fa), .val (.long fo), .second, .val (.long fn), .second] [])) _
    exact X11.returnOut hx Bd.returns (hb hby d2_14) hr
  · show Q2 Z fa fo fn h0 n0 _ T11.heap _
    rw [e11]
    exact ⟨rfl, N11, K11, fE12, fF13, fF14⟩
def Q3 (Z : State) (oa : Addr) (oo : Int64) (on : Int64) (ot : Int64) (h0 : Heap) (n0 : Nat) (v : Option Value) (h : Heap) (L : List Loc) : Prop := v = some (.int (fcont oo on ot)) ∧ Fr n0 L ∧ h = h0
set_option maxRecDepth 65536 in
set_option maxHeartbeats 40000000 in
theorem rm3 (l : Launch) (Z : State) (a0 : Array Value) (hw : ∀ d ∈ tables_1, d.before a0 Z = true) (ws : List Jvm.Cond) (oa : Addr) (oo : Int64) (on : Int64) (ot : Int64) (h0 : Heap) (n0 : Nat) (Z0 : n0 ≤ h0.size) (F1 : Fld Z h0 oa "com/example/rangewell/rangewell/model/TimeRange" "oldest" "J" (.long oo)) (F2 : Fld Z h0 oa "com/example/rangewell/rangewell/model/TimeRange" "newest" "J" (.long on)) :
    MetFree l (⟨"com/example/rangewell/rangewell/model/TimeRange", "contains", "(J)Z"⟩ : MethodName) (head1 (Jvm.Cond.code (⟨"com/example/rangewell/rangewell/model/TimeRange", "contains", "(J)Z"⟩ : MethodName) prog_54_method_4_code 3 (some .boolean) :: ws) ({ frames := 0, cells := 0, slots := 0, locals := 0 } : Room)) (fun a U => a = #[(.ref oa), (.long ot)] ∧ Z.Warmed39 U.vm ∧ U.heap = h0) (fun _ _ _ _ _ => True) (fun _ U o U' => ∃ v L, o = .returned v ∧ Q3 Z oa oo on ot h0 n0 v U'.heap L ∧ FrameEnd U o U' L ({ frames := 0, cells := 0, slots := 0, locals := 0 } : Room).cells ({ frames := 0, cells := 0, slots := 0, locals := 0 } : Room).slots) := by
  refine MetFree.of_bodySF (plainFor_of_name pn_com_example_rangewell_rangewell_model_TimeRange) hisR ?_
  intro p e s m args0 below meth c s₁ Bd hml0 hP hK
  obtain ⟨rfl, hZ, hh⟩ := hP
  have hx := Bd.exec
  have hby := Bd.bytes
  have hml : c.maxLocals = 3 := hml0
  have hown : s.vm.findClass "com/example/rangewell/rangewell/model/TimeRange" = some m.cls := findClass_of_methodNamed Bd.named
  have hnm := (name_of_methodNamed Bd.named Bd.method).1
  have X0 : Stand p l e ({ frames := 0, cells := 0, slots := 0, locals := 0 } : Room) s m #[(.ref oa), (.long ot)] below meth c s₁ [] 0 0 := Stand.of_body Bd
  have e0 : s₁.heap = h0 := by rw [← hh, Bd.state]; rfl
  have N0 := Fr.nil n0
  have pre0 : ∀ t, Steps p.tables e below (s₁.setTop (mkF m 0 #[.val (.ref oa), .val (.long ot), .second] [])) t → Steps p.tables e below (s₁.setTop (entryFrame m #[(.ref oa), (.long ot)] 3)) t := fun t k => castTop (ef_3 m oa ot) k
  have s15 : ∀ t, Steps p.tables e below (s₁.setTop (mkF m 2 #[.val (.ref oa), .val (.long ot), .second] [(.ref oa), (.long ot)])) t → Steps p.tables e below (s₁.setTop (mkF m 0 #[.val (.ref oa), .val (.long ot), .second] [])) t := by
    intro t kt
    refine XS.lloadN X0.here hx rfl (hb hby d3_0) rfl ?_
    show Steps p.tables e below (s₁.setTop (mkF m 1 #[.val (.ref oa), .val (.long ot), .second] [(.long ot)])) t
    refine XS.aloadN X0.here hx rfl (hb hby d3_1) rfl rfl ?_
    exact kt
  obtain ⟨T16, X16, e16, st16⟩ := getF X0 hx hZ hown (host := "") (Or.inl (hw _ (List.mem_of_getElem? (i := 14) rfl))) Via.refl e0 F1 (g := (mkF m 2 #[.val (.ref oa), .val (.long ot), .second] [(.ref oa), (.long ot)])) rfl rfl (hb hby d3_2)
  have s17 : ∀ t, Steps p.tables e below (T16.setTop (mkF m 6 #[.val (.ref oa), .val (.long ot), .second] [(.int (lcmpW ot oo))])) t → Steps p.tables e below (T16.setTop (mkF m 5 #[.val (.ref oa), .val (.long ot), .second] [(.long oo), (.long ot)])) t := by
    intro t kt
    refine XS.lcmp X16.here hx rfl (hb hby d3_5) rfl ?_
    exact kt
  obtain ⟨T34, lc35, w33, X36, e37, N38, rfl, j39⟩ : ∃ (T34 : State) (lc35 : List Loc) (w33 : Int32), Stand p l e ({ frames := 0, cells := 0, slots := 0, locals := 0 } : Room) s m #[(.ref oa), (.long ot)] below meth c T34 lc35 0 0 ∧ T34.heap = h0 ∧ Fr n0 lc35 ∧ w33 = (if ot < oo then (0 : Int32) else (if on < ot then (0 : Int32) else (1 : Int32))) ∧ ∀ t, Steps p.tables e below (T34.setTop (mkF m 23 #[.val (.ref oa), .val (.long ot), .second] [(.int w33)])) t → Steps p.tables e below (T16.setTop (mkF m 6 #[.val (.ref oa), .val (.long ot), .second] [(.int (lcmpW ot oo))])) t := by
    by_cases c18 : ot < oo
    ·
      have s19 : ∀ t, Steps p.tables e below (T16.setTop (mkF m 23 #[.val (.ref oa), .val (.long ot), .second] [(.int (0 : Int32))])) t → Steps p.tables e below (T16.setTop (mkF m 6 #[.val (.ref oa), .val (.long ot), .second] [(.int (lcmpW ot oo))])) t := by
        intro t kt
        refine XS.ifYes X16.here hx rfl (pc0 := 6) (pc' := 22) rfl (hb hby d3_6) rfl ((if0 _ _).trans (tlt ((lw_lt _ _).mpr c18)).1) (by decide) (by decide) ?_
        show Steps p.tables e below (T16.setTop (mkF m 22 #[.val (.ref oa), .val (.long ot), .second] [])) t
        refine XS.iconst X16.here hx rfl (hb hby d3_22) ?_
        exact kt
      exact ⟨T16, _, (0 : Int32), X16, e16, N0, (if_pos c18).symm, fun t kt => s19 _ (kt)⟩
    ·
      have s20 : ∀ t, Steps p.tables e below (T16.setTop (mkF m 11 #[.val (.ref oa), .val (.long ot), .second] [(.ref oa), (.long ot)])) t → Steps p.tables e below (T16.setTop (mkF m 6 #[.val (.ref oa), .val (.long ot), .second] [(.int (lcmpW ot oo))])) t := by
        intro t kt
        refine XS.ifNo X16.here hx rfl (hb hby d3_6) rfl ((if0 _ _).trans (flt (mt (lw_lt _ _).mp c18)).1) ?_
        show Steps p.tables e below (T16.setTop (mkF m 9 #[.val (.ref oa), .val (.long ot), .second] [])) t
        refine XS.lloadN X16.here hx rfl (hb hby d3_9) rfl ?_
        show Steps p.tables e below (T16.setTop (mkF m 10 #[.val (.ref oa), .val (.long ot), .second] [(.long ot)])) t
        refine XS.aloadN X16.here hx rfl (hb hby d3_10) rfl rfl ?_
        exact kt
      obtain ⟨T21, X21, e21, st21⟩ := getF X16 hx hZ hown (host := "") (Or.inl (hw _ (List.mem_of_getElem? (i := 16) rfl))) Via.refl e16 F2 (g := (mkF m 11 #[.val (.ref oa), .val (.long ot), .second] [(.ref oa), (.long ot)])) rfl rfl (hb hby d3_11)
      have s22 : ∀ t, Steps p.tables e below (T21.setTop (mkF m 15 #[.val (.ref oa), .val (.long ot), .second] [(.int (lcmpW ot on))])) t → Steps p.tables e below (T21.setTop (mkF m 14 #[.val (.ref oa), .val (.long ot), .second] [(.long on), (.long ot)])) t := by
        intro t kt
        refine XS.lcmp X21.here hx rfl (hb hby d3_14) rfl ?_
        exact kt
      obtain ⟨w26, rfl, j32⟩ : ∃ (w26 : Int32), w26 = (if on < ot then (0 : Int32) else (1 : Int32)) ∧ ∀ t, Steps p.tables e below (T21.setTop (mkF m 23 #[.val (.ref oa), .val (.long ot), .second] [(.int w26)])) t → Steps p.tables e below (T21.setTop (mkF m 15 #[.val (.ref oa), .val (.long ot), .second] [(.int (lcmpW ot on))])) t := by
        by_cases c23 : on < ot
        ·
          have s24 : ∀ t, Steps p.tables e below (T21.setTop (mkF m 23 #[.val (.ref oa), .val (.long ot), .second] [(.int (0 : Int32))])) t → Steps p.tables e below (T21.setTop (mkF m 15 #[.val (.ref oa), .val (.long ot), .second] [(.int (lcmpW ot on))])) t := by
            intro t kt
            refine XS.ifYes X21.here hx rfl (pc0 := 15) (pc' := 22) rfl (hb hby d3_15) rfl ((if0 _ _).trans (tlt ((lw_gt _ _).mpr c23)).2.2.1) (by decide) (by decide) ?_
            show Steps p.tables e below (T21.setTop (mkF m 22 #[.val (.ref oa), .val (.long ot), .second] [])) t
            refine XS.iconst X21.here hx rfl (hb hby d3_22) ?_
            exact kt
          exact ⟨(0 : Int32), (if_pos c23).symm, fun t kt => s24 _ (kt)⟩
        ·
          have s25 : ∀ t, Steps p.tables e below (T21.setTop (mkF m 23 #[.val (.ref oa), .val (.long ot), .second] [(.int (1 : Int32))])) t → Steps p.tables e below (T21.setTop (mkF m 15 #[.val (.ref oa), .val (.long ot), .second] [(.int (lcmpW ot on))])) t := by
            intro t kt
            refine XS.ifNo X21.here hx rfl (hb hby d3_15) rfl ((if0 _ _).trans (flt (mt (lw_gt _ _).mp c23)).2.2.1) ?_
            show Steps p.tables e below (T21.setTop (mkF m 18 #[.val (.ref oa), .val (.long ot), .second] [])) t
            refine XS.iconst X21.here hx rfl (hb hby d3_18) ?_
            show Steps p.tables e below (T21.setTop (mkF m 19 #[.val (.ref oa), .val (.long ot), .second] [(.int (1 : Int32))])) t
            refine XS.goto X21.here hx rfl (pc0 := 19) (pc' := 23) rfl (hb hby d3_19) (by decide) (by decide) ?_
            exact kt
          exact ⟨(1 : Int32), (if_neg c23).symm, fun t kt => s25 _ (kt)⟩
      exact ⟨T21, _, (if on < ot then (0 : Int32) else (1 : Int32)), X21, e21, N0, (if_neg c18).symm, fun t kt => s20 _ (st21 _ (s22 _ (j32 _ (kt))))⟩
  obtain ⟨fs_, hr, hrun, hended, hW, hsame⟩ := X36.leave (v := some (.int (if ot < oo then (0 : Int32) else (if on < ot then (0 : Int32) else (1 : Int32))))) (fun h => by rw [Bd.returns] at h; cases h)
  refine ⟨_, _, pre0 _ (s15 _ (st16 _ (s17 _ (j39 _ (?_))))), hrun, hended, _, _, rfl, ?_, ⟨_, rfl⟩, hW, hsame.mono (by decide) (by decide)⟩
  · show Steps p.tables e below (T34.setTop (mkF m 23 #[.val (.ref oa), .val (.long ot), .second] [(.int (if ot < oo then (0 : Int32) else (if on < ot then (0 : Int32) else (1 : Int32))))])) _
    exact retN X36 hx (t := .boolean) Bd.returns (by simp) (hb hby d3_23) (fun f acts q1 q2 q3 => by rw [show nar .boolean (if ot < oo then (0 : Int32) else (if on < ot then (0 : Int32) else (1 : Int32))) = (if ot < oo then (0 : Int32) else (if on < ot then (0 : Int32) else (1 : Int32))) from by (repeat' split) <;> rfl]; exact hr f acts q1 q2 q3)
  · show Q3 Z oa oo on ot h0 n0 _ T34.heap _
    rw [e37]
    exact ⟨rfl, N38, rfl⟩
def Q4 (Z : State) (oa : Addr) (ov : Int64) (h0 : Heap) (n0 : Nat) (v : Option Value) (h : Heap) (L : List Loc) : Prop := v = some (.long ov) ∧ Fr n0 L ∧ h = h0
set_option maxRecDepth 65536 in
set_option maxHeartbeats 40000000 in
theorem rm4 (l : Launch) (Z : State) (a0 : Array Value) (hw : ∀ d ∈ tables_1, d.before a0 Z = true) (ws : List Jvm.Cond) (oa : Addr) (ov : Int64) (h0 : Heap) (n0 : Nat) (Z0 : n0 ≤ h0.size) (F1 : Fld Z h0 oa "com/example/rangewell/rangewell/model/TimeRange" "oldest" "J" (.long ov)) :
    MetFree l (⟨"com/example/rangewell/rangewell/model/TimeRange", "oldest", "()J"⟩ : MethodName) (head1 (Jvm.Cond.code (⟨"com/example/rangewell/rangewell/model/TimeRange", "oldest", "()J"⟩ : MethodName) prog_54_method_8_code 1 (some .long) :: ws) ({ frames := 0, cells := 0, slots := 0, locals := 0 } : Room)) (fun a U => a = #[(.ref oa)] ∧ Z.Warmed39 U.vm ∧ U.heap = h0) (fun _ _ _ _ _ => True) (fun _ U o U' => ∃ v L, o = .returned v ∧ Q4 Z oa ov h0 n0 v U'.heap L ∧ FrameEnd U o U' L ({ frames := 0, cells := 0, slots := 0, locals := 0 } : Room).cells ({ frames := 0, cells := 0, slots := 0, locals := 0 } : Room).slots) := by
  refine MetFree.of_bodySF (plainFor_of_name pn_com_example_rangewell_rangewell_model_TimeRange) hisR ?_
  intro p e s m args0 below meth c s₁ Bd hml0 hP hK
  obtain ⟨rfl, hZ, hh⟩ := hP
  have hx := Bd.exec
  have hby := Bd.bytes
  have hml : c.maxLocals = 1 := hml0
  have hown : s.vm.findClass "com/example/rangewell/rangewell/model/TimeRange" = some m.cls := findClass_of_methodNamed Bd.named
  have hnm := (name_of_methodNamed Bd.named Bd.method).1
  have X0 : Stand p l e ({ frames := 0, cells := 0, slots := 0, locals := 0 } : Room) s m #[(.ref oa)] below meth c s₁ [] 0 0 := Stand.of_body Bd
  have e0 : s₁.heap = h0 := by rw [← hh, Bd.state]; rfl
  have N0 := Fr.nil n0
  have pre0 : ∀ t, Steps p.tables e below (s₁.setTop (mkF m 0 #[.val (.ref oa)] [])) t → Steps p.tables e below (s₁.setTop (entryFrame m #[(.ref oa)] 1)) t := fun t k => castTop (ef_4 m oa) k
  have s40 : ∀ t, Steps p.tables e below (s₁.setTop (mkF m 1 #[.val (.ref oa)] [(.ref oa)])) t → Steps p.tables e below (s₁.setTop (mkF m 0 #[.val (.ref oa)] [])) t := by
    intro t kt
    refine XS.aloadN X0.here hx rfl (hb hby d4_0) rfl rfl ?_
    exact kt
  obtain ⟨T41, X41, e41, st41⟩ := getF X0 hx hZ hown (host := "") (Or.inl (hw _ (List.mem_of_getElem? (i := 14) rfl))) Via.refl e0 F1 (g := (mkF m 1 #[.val (.ref oa)] [(.ref oa)])) rfl rfl (hb hby d4_1)
  obtain ⟨fs_, hr, hrun, hended, hW, hsame⟩ := X41.leave (v := some (.long ov)) (fun h => by rw [Bd.returns] at h; cases h)
  refine ⟨_, _, pre0 _ (s40 _ (st41 _ (?_))), hrun, hended, _, _, rfl, ?_, ⟨_, rfl⟩, hW, hsame.mono (by decide) (by decide)⟩
  · show Steps p.tables e below (T41.setTop (mkF m 4 #[.val (.ref oa)] [(.long ov)])) _
    exact X41.lreturnOut hx Bd.returns (hb hby d4_4) hr
  · show Q4 Z oa ov h0 n0 _ T41.heap _
    rw [e41]
    exact ⟨rfl, N0, rfl⟩
def Q5 (Z : State) (oa : Addr) (ov : Int64) (h0 : Heap) (n0 : Nat) (v : Option Value) (h : Heap) (L : List Loc) : Prop := v = some (.long ov) ∧ Fr n0 L ∧ h = h0
set_option maxRecDepth 65536 in
set_option maxHeartbeats 40000000 in
theorem rm5 (l : Launch) (Z : State) (a0 : Array Value) (hw : ∀ d ∈ tables_1, d.before a0 Z = true) (ws : List Jvm.Cond) (oa : Addr) (ov : Int64) (h0 : Heap) (n0 : Nat) (Z0 : n0 ≤ h0.size) (F1 : Fld Z h0 oa "com/example/rangewell/rangewell/model/TimeRange" "newest" "J" (.long ov)) :
    MetFree l (⟨"com/example/rangewell/rangewell/model/TimeRange", "newest", "()J"⟩ : MethodName) (head1 (Jvm.Cond.code (⟨"com/example/rangewell/rangewell/model/TimeRange", "newest", "()J"⟩ : MethodName) prog_54_method_9_code 1 (some .long) :: ws) ({ frames := 0, cells := 0, slots := 0, locals := 0 } : Room)) (fun a U => a = #[(.ref oa)] ∧ Z.Warmed39 U.vm ∧ U.heap = h0) (fun _ _ _ _ _ => True) (fun _ U o U' => ∃ v L, o = .returned v ∧ Q5 Z oa ov h0 n0 v U'.heap L ∧ FrameEnd U o U' L ({ frames := 0, cells := 0, slots := 0, locals := 0 } : Room).cells ({ frames := 0, cells := 0, slots := 0, locals := 0 } : Room).slots) := by
  refine MetFree.of_bodySF (plainFor_of_name pn_com_example_rangewell_rangewell_model_TimeRange) hisR ?_
  intro p e s m args0 below meth c s₁ Bd hml0 hP hK
  obtain ⟨rfl, hZ, hh⟩ := hP
  have hx := Bd.exec
  have hby := Bd.bytes
  have hml : c.maxLocals = 1 := hml0
  have hown : s.vm.findClass "com/example/rangewell/rangewell/model/TimeRange" = some m.cls := findClass_of_methodNamed Bd.named
  have hnm := (name_of_methodNamed Bd.named Bd.method).1
  have X0 : Stand p l e ({ frames := 0, cells := 0, slots := 0, locals := 0 } : Room) s m #[(.ref oa)] below meth c s₁ [] 0 0 := Stand.of_body Bd
  have e0 : s₁.heap = h0 := by rw [← hh, Bd.state]; rfl
  have N0 := Fr.nil n0
  have pre0 : ∀ t, Steps p.tables e below (s₁.setTop (mkF m 0 #[.val (.ref oa)] [])) t → Steps p.tables e below (s₁.setTop (entryFrame m #[(.ref oa)] 1)) t := fun t k => castTop (ef_5 m oa) k
  have s42 : ∀ t, Steps p.tables e below (s₁.setTop (mkF m 1 #[.val (.ref oa)] [(.ref oa)])) t → Steps p.tables e below (s₁.setTop (mkF m 0 #[.val (.ref oa)] [])) t := by
    intro t kt
    refine XS.aloadN X0.here hx rfl (hb hby d5_0) rfl rfl ?_
    exact kt
  obtain ⟨T43, X43, e43, st43⟩ := getF X0 hx hZ hown (host := "") (Or.inl (hw _ (List.mem_of_getElem? (i := 16) rfl))) Via.refl e0 F1 (g := (mkF m 1 #[.val (.ref oa)] [(.ref oa)])) rfl rfl (hb hby d5_1)
  obtain ⟨fs_, hr, hrun, hended, hW, hsame⟩ := X43.leave (v := some (.long ov)) (fun h => by rw [Bd.returns] at h; cases h)
  refine ⟨_, _, pre0 _ (s42 _ (st43 _ (?_))), hrun, hended, _, _, rfl, ?_, ⟨_, rfl⟩, hW, hsame.mono (by decide) (by decide)⟩
  · show Steps p.tables e below (T43.setTop (mkF m 4 #[.val (.ref oa)] [(.long ov)])) _
    exact X43.lreturnOut hx Bd.returns (hb hby d5_4) hr
  · show Q5 Z oa ov h0 n0 _ T43.heap _
    rw [e43]
    exact ⟨rfl, N0, rfl⟩
def Q6 (Z : State) (u0 : Int64) (u1 : Int64) (h0 : Heap) (n0 : Nat) (v : Option Value) (h : Heap) (L : List Loc) : Prop := v = some (.long (fmax u0 u1)) ∧ Fr n0 L ∧ h = h0
set_option maxRecDepth 65536 in
set_option maxHeartbeats 40000000 in
theorem rm6 (l : Launch) (Z : State) (a0 : Array Value) (hw : ∀ d ∈ tables_1, d.before a0 Z = true) (ws : List Jvm.Cond) (u0 : Int64) (u1 : Int64) (h0 : Heap) (n0 : Nat) (Z0 : n0 ≤ h0.size)  :
    MetFree l (⟨"java/lang/Math", "max", "(JJ)J"⟩ : MethodName) (head1 (Jvm.Cond.code (⟨"java/lang/Math", "max", "(JJ)J"⟩ : MethodName) jdk_29_method_66_code 4 (some .long) :: ws) ({ frames := 0, cells := 0, slots := 0, locals := 0 } : Room)) (fun a U => a = #[(.long u0), (.long u1)] ∧ Z.Warmed39 U.vm ∧ U.heap = h0) (fun _ _ _ _ _ => True) (fun _ U o U' => ∃ v L, o = .returned v ∧ Q6 Z u0 u1 h0 n0 v U'.heap L ∧ FrameEnd U o U' L ({ frames := 0, cells := 0, slots := 0, locals := 0 } : Room).cells ({ frames := 0, cells := 0, slots := 0, locals := 0 } : Room).slots) := by
  refine MetFree.of_bodySF (Jvm.Free.JP.mathPlain rfl (by decide +kernel)) hisR ?_
  intro p e s m args0 below meth c s₁ Bd hml0 hP hK
  obtain ⟨rfl, hZ, hh⟩ := hP
  have hx := Bd.exec
  have hby := Bd.bytes
  have hml : c.maxLocals = 4 := hml0
  have hown : s.vm.findClass "java/lang/Math" = some m.cls := findClass_of_methodNamed Bd.named
  have hnm := (name_of_methodNamed Bd.named Bd.method).1
  have X0 : Stand p l e ({ frames := 0, cells := 0, slots := 0, locals := 0 } : Room) s m #[(.long u0), (.long u1)] below meth c s₁ [] 0 0 := Stand.of_body Bd
  have e0 : s₁.heap = h0 := by rw [← hh, Bd.state]; rfl
  have N0 := Fr.nil n0
  have pre0 : ∀ t, Steps p.tables e below (s₁.setTop (mkF m 0 #[.val (.long u0), .second, .val (.long u1), .second] [])) t → Steps p.tables e below (s₁.setTop (entryFrame m #[(.long u0), (.long u1)] 4)) t := fun t k => castTop (ef_6 m u0 u1) k
  have s44 : ∀ t, Steps p.tables e below (s₁.setTop (mkF m 3 #[.val (.long u0), .second, .val (.long u1), .second] [(.int (lcmpW u0 u1))])) t → Steps p.tables e below (s₁.setTop (mkF m 0 #[.val (.long u0), .second, .val (.long u1), .second] [])) t := by
    intro t kt
    refine XS.lloadN X0.here hx rfl (hb hby d6_0) rfl ?_
    show Steps p.tables e below (s₁.setTop (mkF m 1 #[.val (.long u0), .second, .val (.long u1), .second] [(.long u0)])) t
    refine XS.lloadN X0.here hx rfl (hb hby d6_1) rfl ?_
    show Steps p.tables e below (s₁.setTop (mkF m 2 #[.val (.long u0), .second, .val (.long u1), .second] [(.long u1), (.long u0)])) t
    refine XS.lcmp X0.here hx rfl (hb hby d6_2) rfl ?_
    exact kt
  obtain ⟨w48, rfl, j54⟩ : ∃ (w48 : Int64), w48 = (if u0 < u1 then u1 else u0) ∧ ∀ t, Steps p.tables e below (s₁.setTop (mkF m 11 #[.val (.long u0), .second, .val (.long u1), .second] [(.long w48)])) t → Steps p.tables e below (s₁.setTop (mkF m 3 #[.val (.long u0), .second, .val (.long u1), .second] [(.int (lcmpW u0 u1))])) t := by
    by_cases c45 : u0 < u1
    ·
      have s46 : ∀ t, Steps p.tables e below (s₁.setTop (mkF m 11 #[.val (.long u0), .second, .val (.long u1), .second] [(.long u1)])) t → Steps p.tables e below (s₁.setTop (mkF m 3 #[.val (.long u0), .second, .val (.long u1), .second] [(.int (lcmpW u0 u1))])) t := by
        intro t kt
        refine XS.ifYes X0.here hx rfl (pc0 := 3) (pc' := 10) rfl (hb hby d6_3) rfl ((if0 _ _).trans (tlt ((lw_lt _ _).mpr c45)).1) (by decide) (by decide) ?_
        show Steps p.tables e below (s₁.setTop (mkF m 10 #[.val (.long u0), .second, .val (.long u1), .second] [])) t
        refine XS.lloadN X0.here hx rfl (hb hby d6_10) rfl ?_
        exact kt
      exact ⟨u1, (if_pos c45).symm, fun t kt => s46 _ (kt)⟩
    ·
      have s47 : ∀ t, Steps p.tables e below (s₁.setTop (mkF m 11 #[.val (.long u0), .second, .val (.long u1), .second] [(.long u0)])) t → Steps p.tables e below (s₁.setTop (mkF m 3 #[.val (.long u0), .second, .val (.long u1), .second] [(.int (lcmpW u0 u1))])) t := by
        intro t kt
        refine XS.ifNo X0.here hx rfl (hb hby d6_3) rfl ((if0 _ _).trans (flt (mt (lw_lt _ _).mp c45)).1) ?_
        show Steps p.tables e below (s₁.setTop (mkF m 6 #[.val (.long u0), .second, .val (.long u1), .second] [])) t
        refine XS.lloadN X0.here hx rfl (hb hby d6_6) rfl ?_
        show Steps p.tables e below (s₁.setTop (mkF m 7 #[.val (.long u0), .second, .val (.long u1), .second] [(.long u0)])) t
        refine XS.goto X0.here hx rfl (pc0 := 7) (pc' := 11) rfl (hb hby d6_7) (by decide) (by decide) ?_
        exact kt
      exact ⟨u0, (if_neg c45).symm, fun t kt => s47 _ (kt)⟩
  obtain ⟨fs_, hr, hrun, hended, hW, hsame⟩ := X0.leave (v := some (.long (if u0 < u1 then u1 else u0))) (fun h => by rw [Bd.returns] at h; cases h)
  refine ⟨_, _, pre0 _ (s44 _ (j54 _ (?_))), hrun, hended, _, _, rfl, ?_, ⟨_, rfl⟩, hW, hsame.mono (by decide) (by decide)⟩
  · show Steps p.tables e below (s₁.setTop (mkF m 11 #[.val (.long u0), .second, .val (.long u1), .second] [(.long (if u0 < u1 then u1 else u0))])) _
    exact X0.lreturnOut hx Bd.returns (hb hby d6_11) hr
  · show Q6 Z u0 u1 h0 n0 _ s₁.heap _
    rw [e0]
    exact ⟨rfl, N0, rfl⟩
def Q7 (Z : State) (u0 : Int64) (u1 : Int64) (h0 : Heap) (n0 : Nat) (v : Option Value) (h : Heap) (L : List Loc) : Prop := v = some (.long (fmin u0 u1)) ∧ Fr n0 L ∧ h = h0
set_option maxRecDepth 65536 in
set_option maxHeartbeats 40000000 in
theorem rm7 (l : Launch) (Z : State) (a0 : Array Value) (hw : ∀ d ∈ tables_1, d.before a0 Z = true) (ws : List Jvm.Cond) (u0 : Int64) (u1 : Int64) (h0 : Heap) (n0 : Nat) (Z0 : n0 ≤ h0.size)  :
    MetFree l (⟨"java/lang/Math", "min", "(JJ)J"⟩ : MethodName) (head1 (Jvm.Cond.code (⟨"java/lang/Math", "min", "(JJ)J"⟩ : MethodName) jdk_29_method_70_code 4 (some .long) :: ws) ({ frames := 0, cells := 0, slots := 0, locals := 0 } : Room)) (fun a U => a = #[(.long u0), (.long u1)] ∧ Z.Warmed39 U.vm ∧ U.heap = h0) (fun _ _ _ _ _ => True) (fun _ U o U' => ∃ v L, o = .returned v ∧ Q7 Z u0 u1 h0 n0 v U'.heap L ∧ FrameEnd U o U' L ({ frames := 0, cells := 0, slots := 0, locals := 0 } : Room).cells ({ frames := 0, cells := 0, slots := 0, locals := 0 } : Room).slots) := by
  refine MetFree.of_bodySF (Jvm.Free.JP.mathPlain rfl (by decide +kernel)) hisR ?_
  intro p e s m args0 below meth c s₁ Bd hml0 hP hK
  obtain ⟨rfl, hZ, hh⟩ := hP
  have hx := Bd.exec
  have hby := Bd.bytes
  have hml : c.maxLocals = 4 := hml0
  have hown : s.vm.findClass "java/lang/Math" = some m.cls := findClass_of_methodNamed Bd.named
  have hnm := (name_of_methodNamed Bd.named Bd.method).1
  have X0 : Stand p l e ({ frames := 0, cells := 0, slots := 0, locals := 0 } : Room) s m #[(.long u0), (.long u1)] below meth c s₁ [] 0 0 := Stand.of_body Bd
  have e0 : s₁.heap = h0 := by rw [← hh, Bd.state]; rfl
  have N0 := Fr.nil n0
  have pre0 : ∀ t, Steps p.tables e below (s₁.setTop (mkF m 0 #[.val (.long u0), .second, .val (.long u1), .second] [])) t → Steps p.tables e below (s₁.setTop (entryFrame m #[(.long u0), (.long u1)] 4)) t := fun t k => castTop (ef_7 m u0 u1) k
  have s55 : ∀ t, Steps p.tables e below (s₁.setTop (mkF m 3 #[.val (.long u0), .second, .val (.long u1), .second] [(.int (lcmpW u0 u1))])) t → Steps p.tables e below (s₁.setTop (mkF m 0 #[.val (.long u0), .second, .val (.long u1), .second] [])) t := by
    intro t kt
    refine XS.lloadN X0.here hx rfl (hb hby d7_0) rfl ?_
    show Steps p.tables e below (s₁.setTop (mkF m 1 #[.val (.long u0), .second, .val (.long u1), .second] [(.long u0)])) t
    refine XS.lloadN X0.here hx rfl (hb hby d7_1) rfl ?_
    show Steps p.tables e below (s₁.setTop (mkF m 2 #[.val (.long u0), .second, .val (.long u1), .second] [(.long u1), (.long u0)])) t
    refine XS.lcmp X0.here hx rfl (hb hby d7_2) rfl ?_
    exact kt
  obtain ⟨w59, rfl, j65⟩ : ∃ (w59 : Int64), w59 = (if u1 < u0 then u1 else u0) ∧ ∀ t, Steps p.tables e below (s₁.setTop (mkF m 11 #[.val (.long u0), .second, .val (.long u1), .second] [(.long w59)])) t → Steps p.tables e below (s₁.setTop (mkF m 3 #[.val (.long u0), .second, .val (.long u1), .second] [(.int (lcmpW u0 u1))])) t := by
    by_cases c56 : u1 < u0
    ·
      have s57 : ∀ t, Steps p.tables e below (s₁.setTop (mkF m 11 #[.val (.long u0), .second, .val (.long u1), .second] [(.long u1)])) t → Steps p.tables e below (s₁.setTop (mkF m 3 #[.val (.long u0), .second, .val (.long u1), .second] [(.int (lcmpW u0 u1))])) t := by
        intro t kt
        refine XS.ifYes X0.here hx rfl (pc0 := 3) (pc' := 10) rfl (hb hby d7_3) rfl ((if0 _ _).trans (tlt ((lw_gt _ _).mpr c56)).2.2.1) (by decide) (by decide) ?_
        show Steps p.tables e below (s₁.setTop (mkF m 10 #[.val (.long u0), .second, .val (.long u1), .second] [])) t
        refine XS.lloadN X0.here hx rfl (hb hby d7_10) rfl ?_
        exact kt
      exact ⟨u1, (if_pos c56).symm, fun t kt => s57 _ (kt)⟩
    ·
      have s58 : ∀ t, Steps p.tables e below (s₁.setTop (mkF m 11 #[.val (.long u0), .second, .val (.long u1), .second] [(.long u0)])) t → Steps p.tables e below (s₁.setTop (mkF m 3 #[.val (.long u0), .second, .val (.long u1), .second] [(.int (lcmpW u0 u1))])) t := by
        intro t kt
        refine XS.ifNo X0.here hx rfl (hb hby d7_3) rfl ((if0 _ _).trans (flt (mt (lw_gt _ _).mp c56)).2.2.1) ?_
        show Steps p.tables e below (s₁.setTop (mkF m 6 #[.val (.long u0), .second, .val (.long u1), .second] [])) t
        refine XS.lloadN X0.here hx rfl (hb hby d7_6) rfl ?_
        show Steps p.tables e below (s₁.setTop (mkF m 7 #[.val (.long u0), .second, .val (.long u1), .second] [(.long u0)])) t
        refine XS.goto X0.here hx rfl (pc0 := 7) (pc' := 11) rfl (hb hby d7_7) (by decide) (by decide) ?_
        exact kt
      exact ⟨u0, (if_neg c56).symm, fun t kt => s58 _ (kt)⟩
  obtain ⟨fs_, hr, hrun, hended, hW, hsame⟩ := X0.leave (v := some (.long (if u1 < u0 then u1 else u0))) (fun h => by rw [Bd.returns] at h; cases h)
  refine ⟨_, _, pre0 _ (s55 _ (j65 _ (?_))), hrun, hended, _, _, rfl, ?_, ⟨_, rfl⟩, hW, hsame.mono (by decide) (by decide)⟩
  · show Steps p.tables e below (s₁.setTop (mkF m 11 #[.val (.long u0), .second, .val (.long u1), .second] [(.long (if u1 < u0 then u1 else u0))])) _
    exact X0.lreturnOut hx Bd.returns (hb hby d7_11) hr
  · show Q7 Z u0 u1 h0 n0 _ s₁.heap _
    rw [e0]
    exact ⟨rfl, N0, rfl⟩
theorem own_plain (o n t : Int64) (r : Int32) (h : r = (if n < o then (0 : Int32) else (if (fmin (fmax t o) n) = t then (1 : Int32) else (0 : Int32)))) : (fcont o n t) = r := by
  rw [h]
  show (if t < o then (0 : Int32) else (if n < t then (0 : Int32) else (1 : Int32))) = (if n < o then (0 : Int32) else (if (if n < (if t < o then o else t) then n else (if t < o then o else t)) = t then (1 : Int32) else (0 : Int32)))
  have ne : ∀ {x y : Int64}, x.toInt ≠ y.toInt → ¬ x = y := fun q e => q (congrArg Int64.toInt e)
  by_cases h1 : t < o
  · rw [if_pos h1, if_pos h1]
    have h1' := Int64.lt_iff_toInt_lt.mp h1
    by_cases h2 : n < o
    · rw [if_pos h2]
    · rw [if_neg h2, if_neg h2, if_neg (ne (by omega))]
  · rw [if_neg h1, if_neg h1]
    have h1' : ¬ t.toInt < o.toInt := mt Int64.lt_iff_toInt_lt.mpr h1
    by_cases h2 : n < t
    · rw [if_pos h2, if_pos h2]
      have h2' := Int64.lt_iff_toInt_lt.mp h2
      rw [if_neg (ne (by omega))]
      split <;> rfl
    · rw [if_neg h2, if_neg h2]
      have h2' : ¬ n.toInt < t.toInt := mt Int64.lt_iff_toInt_lt.mpr h2
      rw [if_neg (mt Int64.lt_iff_toInt_lt.mp (by omega)), if_pos rfl]

def Q0 (Z : State) (xa : Int64) (xb : Int64) (xc : Int64) (xs : Int32) (h0 : Heap) (n0 : Nat) (v : Option Value) (h : Heap) (L : List Loc) : Prop := v = some (.int 1) ∧ Fr n0 L
set_option maxRecDepth 65536 in
set_option maxHeartbeats 40000000 in
theorem rm0 (l : Launch) (Z : State) (a0 : Array Value) (hw : ∀ d ∈ tables_1, d.before a0 Z = true) (ws : List Jvm.Cond) (xa : Int64) (xb : Int64) (xc : Int64) (xs : Int32) (h0 : Heap) (n0 : Nat) (Z0 : n0 ≤ h0.size)  :
    MetFree l x (head1 (Jvm.Cond.code x code maxLocals ret :: ws) room_1) (fun a U => a = #[(.long xa), (.long xb), (.long xc), (.int xs)] ∧ Z.Warmed39 U.vm ∧ U.heap = h0) (fun _ _ _ _ _ => True) (fun _ U o U' => ∃ v L, o = .returned v ∧ Q0 Z xa xb xc xs h0 n0 v U'.heap L ∧ FrameEnd U o U' L room_1.cells room_1.slots) := by
  refine MetFree.of_bodySF (plainFor_of_name pn_com_example_rangewell_rangewell_model_TimeRangeContainsPinLaw) hisR ?_
  intro p e s m args0 below meth c s₁ Bd hml0 hP hK
  obtain ⟨rfl, hZ, hh⟩ := hP
  have hx := Bd.exec
  have hby := Bd.bytes
  have hml : c.maxLocals = 17 := hml0
  have hown : s.vm.findClass "com/example/rangewell/rangewell/model/TimeRangeContainsPinLaw" = some m.cls := findClass_of_methodNamed Bd.named
  have hnm := (name_of_methodNamed Bd.named Bd.method).1
  have X0 : Stand p l e room_1 s m #[(.long xa), (.long xb), (.long xc), (.int xs)] below meth c s₁ [] 0 0 := Stand.of_body Bd
  have e0 : s₁.heap = h0 := by rw [← hh, Bd.state]; rfl
  have N0 := Fr.nil n0
  have pre0 : ∀ t, Steps p.tables e below (s₁.setTop (mkF m 0 #[.val (.long xa), .second, .val (.long xb), .second, .val (.long xc), .second, .val (.int xs), .unset, .unset, .unset, .unset, .unset, .unset, .unset, .unset, .unset, .unset] [])) t → Steps p.tables e below (s₁.setTop (entryFrame m #[(.long xa), (.long xb), (.long xc), (.int xs)] maxLocals)) t := fun t k => castTop (ef_0 m xa xb xc xs) k
  have s66 : ∀ t, Steps p.tables e below (s₁.setTop (mkF m 11 #[.val (.long xa), .second, .val (.long xb), .second, .val (.long xc), .second, .val (.int xs), .val (.long xa), .second, .val (.long xb), .second, .unset, .unset, .unset, .unset, .unset, .unset] [(.int (xs &&& (8 : Int32)))])) t → Steps p.tables e below (s₁.setTop (mkF m 0 #[.val (.long xa), .second, .val (.long xb), .second, .val (.long xc), .second, .val (.int xs), .unset, .unset, .unset, .unset, .unset, .unset, .unset, .unset, .unset, .unset] [])) t := by
    intro t kt
    refine XS.lloadN X0.here hx rfl (hb hby at_0) rfl ?_
    show Steps p.tables e below (s₁.setTop (mkF m 1 #[.val (.long xa), .second, .val (.long xb), .second, .val (.long xc), .second, .val (.int xs), .unset, .unset, .unset, .unset, .unset, .unset, .unset, .unset, .unset, .unset] [(.long xa)])) t
    refine XS.lstore X0.here hx rfl (hb hby at_1) rfl (l' := #[.val (.long xa), .second, .val (.long xb), .second, .val (.long xc), .second, .val (.int xs), .val (.long xa), .second, .unset, .unset, .unset, .unset, .unset, .unset, .unset, .unset]) rfl ?_
    show Steps p.tables e below (s₁.setTop (mkF m 3 #[.val (.long xa), .second, .val (.long xb), .second, .val (.long xc), .second, .val (.int xs), .val (.long xa), .second, .unset, .unset, .unset, .unset, .unset, .unset, .unset, .unset] [])) t
    refine XS.lloadN X0.here hx rfl (hb hby at_3) rfl ?_
    show Steps p.tables e below (s₁.setTop (mkF m 4 #[.val (.long xa), .second, .val (.long xb), .second, .val (.long xc), .second, .val (.int xs), .val (.long xa), .second, .unset, .unset, .unset, .unset, .unset, .unset, .unset, .unset] [(.long xb)])) t
    refine XS.lstore X0.here hx rfl (hb hby at_4) rfl (l' := #[.val (.long xa), .second, .val (.long xb), .second, .val (.long xc), .second, .val (.int xs), .val (.long xa), .second, .val (.long xb), .second, .unset, .unset, .unset, .unset, .unset, .unset]) rfl ?_
    show Steps p.tables e below (s₁.setTop (mkF m 6 #[.val (.long xa), .second, .val (.long xb), .second, .val (.long xc), .second, .val (.int xs), .val (.long xa), .second, .val (.long xb), .second, .unset, .unset, .unset, .unset, .unset, .unset] [])) t
    refine XS.iload X0.here hx rfl (hb hby at_6) rfl ?_
    show Steps p.tables e below (s₁.setTop (mkF m 8 #[.val (.long xa), .second, .val (.long xb), .second, .val (.long xc), .second, .val (.int xs), .val (.long xa), .second, .val (.long xb), .second, .unset, .unset, .unset, .unset, .unset, .unset] [(.int xs)])) t
    refine XS.bipush X0.here hx rfl (hb hby at_8) ?_
    show Steps p.tables e below (s₁.setTop (mkF m 10 #[.val (.long xa), .second, .val (.long xb), .second, .val (.long xc), .second, .val (.int xs), .val (.long xa), .second, .val (.long xb), .second, .unset, .unset, .unset, .unset, .unset, .unset] [(.int (8 : Int32)), (.int xs)])) t
    refine XS.iand X0.here hx rfl (hb hby at_10) rfl ?_
    exact kt
  obtain ⟨T76, lc77, w74, w75, X78, e79, N80, hw74, hw75, j81⟩ : ∃ (T76 : State) (lc77 : List Loc) (w74 : Int64) (w75 : Int64), Stand p l e room_1 s m #[(.long xa), (.long xb), (.long xc), (.int xs)] below meth c T76 lc77 0 0 ∧ T76.heap = h0 ∧ Fr n0 lc77 ∧ w74 = (if (xs &&& (8 : Int32)) = (0 : Int32) then xa else (fmin xa xb)) ∧ w75 = (if (xs &&& (8 : Int32)) = (0 : Int32) then xb else (fmax xa xb)) ∧ ∀ t, Steps p.tables e below (T76.setTop (mkF m 28 #[.val (.long xa), .second, .val (.long xb), .second, .val (.long xc), .second, .val (.int xs), .val (.long w74), .second, .val (.long w75), .second, .unset, .unset, .unset, .unset, .unset, .unset] [])) t → Steps p.tables e below (s₁.setTop (mkF m 11 #[.val (.long xa), .second, .val (.long xb), .second, .val (.long xc), .second, .val (.int xs), .val (.long xa), .second, .val (.long xb), .second, .unset, .unset, .unset, .unset, .unset, .unset] [(.int (xs &&& (8 : Int32)))])) t := by
    by_cases c67 : (xs &&& (8 : Int32)) = (0 : Int32)
    ·
      have s68 : ∀ t, Steps p.tables e below (s₁.setTop (mkF m 28 #[.val (.long xa), .second, .val (.long xb), .second, .val (.long xc), .second, .val (.int xs), .val (.long xa), .second, .val (.long xb), .second, .unset, .unset, .unset, .unset, .unset, .unset] [])) t → Steps p.tables e below (s₁.setTop (mkF m 11 #[.val (.long xa), .second, .val (.long xb), .second, .val (.long xc), .second, .val (.int xs), .val (.long xa), .second, .val (.long xb), .second, .unset, .unset, .unset, .unset, .unset, .unset] [(.int (xs &&& (8 : Int32)))])) t := by
        intro t kt
        refine XS.ifYes X0.here hx rfl (pc0 := 11) (pc' := 28) rfl (hb hby at_11) rfl ((if0 _ _).trans (teq c67).1) (by decide) (by decide) ?_
        exact kt
      exact ⟨s₁, _, xa, xb, X0, e0, N0, (if_pos c67).symm, (if_pos c67).symm, fun t kt => s68 _ (kt)⟩
    ·
      have s69 : ∀ t, Steps p.tables e below (s₁.setTop (mkF m 16 #[.val (.long xa), .second, .val (.long xb), .second, .val (.long xc), .second, .val (.int xs), .val (.long xa), .second, .val (.long xb), .second, .unset, .unset, .unset, .unset, .unset, .unset] [(.long xb), (.long xa)])) t → Steps p.tables e below (s₁.setTop (mkF m 11 #[.val (.long xa), .second, .val (.long xb), .second, .val (.long xc), .second, .val (.int xs), .val (.long xa), .second, .val (.long xb), .second, .unset, .unset, .unset, .unset, .unset, .unset] [(.int (xs &&& (8 : Int32)))])) t := by
        intro t kt
        refine XS.ifNo X0.here hx rfl (hb hby at_11) rfl ((if0 _ _).trans (feq c67).1) ?_
        show Steps p.tables e below (s₁.setTop (mkF m 14 #[.val (.long xa), .second, .val (.long xb), .second, .val (.long xc), .second, .val (.int xs), .val (.long xa), .second, .val (.long xb), .second, .unset, .unset, .unset, .unset, .unset, .unset] [])) t
        refine XS.lloadN X0.here hx rfl (hb hby at_14) rfl ?_
        show Steps p.tables e below (s₁.setTop (mkF m 15 #[.val (.long xa), .second, .val (.long xb), .second, .val (.long xc), .second, .val (.int xs), .val (.long xa), .second, .val (.long xb), .second, .unset, .unset, .unset, .unset, .unset, .unset] [(.long xa)])) t
        refine XS.lloadN X0.here hx rfl (hb hby at_15) rfl ?_
        exact kt
      obtain ⟨_, _, ⟨T70, L70, k70, n70⟩, -, X70, ⟨Lc70, hQ70, l70, y70, z70⟩, st70⟩ := Jvm.LawKit.callS X0 hx (y := (⟨"java/lang/Math", "min", "(JJ)J"⟩ : MethodName)) hown (mvT hZ (hw _ (List.mem_of_getElem? (i := 37) rfl))) (mvT hZ (hw _ (List.mem_of_getElem? (i := 38) rfl))) (mvT hZ (hw _ (List.mem_of_getElem? (i := 35) rfl))) (mvT hZ (hw _ (List.mem_of_getElem? (i := 39) rfl))) (by decide) (backOf (W := 0) (rm7 l Z a0 hw [] xa xb h0 n0 Z0 ) hZ (hw _ (List.mem_of_getElem? (i := 39) rfl)) (hw _ (List.mem_of_getElem? (i := 35) rfl)) (by decide) (by decide)) (g := (mkF m 16 #[.val (.long xa), .second, .val (.long xb), .second, .val (.long xc), .second, .val (.int xs), .val (.long xa), .second, .val (.long xb), .second, .unset, .unset, .unset, .unset, .unset, .unset] [(.long xb), (.long xa)])) rfl (by rw [hml]; rfl) (argsL := [(.long xa), (.long xb)]) (rest := []) (lenOf pd_oJJcJ rfl) rfl (by show 2 * 0 + _ ≤ _; exact Nat.le_of_eq rfl) (hb hby at_16) (fun _ _ => ⟨rfl, e0, (by decide : 0 + 0 ≤ _), (by decide : 0 + 0 ≤ _)⟩)
      dsimp only [Pt.U, Pt.locs, Pt.cells, Pt.slots] at X70 l70 y70 z70 st70 hQ70
      subst l70 y70 z70
      obtain ⟨rfl, N70q, e70q⟩ := hQ70
      have N70 := Fr.app N0 N70q
      have s71 : ∀ t, Steps p.tables e below (T70.setTop (mkF m 23 #[.val (.long xa), .second, .val (.long xb), .second, .val (.long xc), .second, .val (.int xs), .val (.long (fmin xa xb)), .second, .val (.long xb), .second, .unset, .unset, .unset, .unset, .unset, .unset] [(.long xb), (.long xa)])) t → Steps p.tables e below (T70.setTop (mkF m 19 #[.val (.long xa), .second, .val (.long xb), .second, .val (.long xc), .second, .val (.int xs), .val (.long xa), .second, .val (.long xb), .second, .unset, .unset, .unset, .unset, .unset, .unset] [(.long (fmin xa xb))])) t := by
        intro t kt
        refine XS.lstore X70.here hx rfl (hb hby at_19) rfl (l' := #[.val (.long xa), .second, .val (.long xb), .second, .val (.long xc), .second, .val (.int xs), .val (.long (fmin xa xb)), .second, .val (.long xb), .second, .unset, .unset, .unset, .unset, .unset, .unset]) rfl ?_
        show Steps p.tables e below (T70.setTop (mkF m 21 #[.val (.long xa), .second, .val (.long xb), .second, .val (.long xc), .second, .val (.int xs), .val (.long (fmin xa xb)), .second, .val (.long xb), .second, .unset, .unset, .unset, .unset, .unset, .unset] [])) t
        refine XS.lloadN X70.here hx rfl (hb hby at_21) rfl ?_
        show Steps p.tables e below (T70.setTop (mkF m 22 #[.val (.long xa), .second, .val (.long xb), .second, .val (.long xc), .second, .val (.int xs), .val (.long (fmin xa xb)), .second, .val (.long xb), .second, .unset, .unset, .unset, .unset, .unset, .unset] [(.long xa)])) t
        refine XS.lloadN X70.here hx rfl (hb hby at_22) rfl ?_
        exact kt
      obtain ⟨_, _, ⟨T72, L72, k72, n72⟩, -, X72, ⟨Lc72, hQ72, l72, y72, z72⟩, st72⟩ := Jvm.LawKit.callS X70 hx (y := (⟨"java/lang/Math", "max", "(JJ)J"⟩ : MethodName)) hown (mvT hZ (hw _ (List.mem_of_getElem? (i := 33) rfl))) (mvT hZ (hw _ (List.mem_of_getElem? (i := 34) rfl))) (mvT hZ (hw _ (List.mem_of_getElem? (i := 35) rfl))) (mvT hZ (hw _ (List.mem_of_getElem? (i := 36) rfl))) (by decide) (backOf (W := 0) (rm6 l Z a0 hw [] xa xb h0 n0 Z0 ) hZ (hw _ (List.mem_of_getElem? (i := 36) rfl)) (hw _ (List.mem_of_getElem? (i := 35) rfl)) (by decide) (by decide)) (g := (mkF m 23 #[.val (.long xa), .second, .val (.long xb), .second, .val (.long xc), .second, .val (.int xs), .val (.long (fmin xa xb)), .second, .val (.long xb), .second, .unset, .unset, .unset, .unset, .unset, .unset] [(.long xb), (.long xa)])) rfl (by rw [hml]; rfl) (argsL := [(.long xa), (.long xb)]) (rest := []) (lenOf pd_oJJcJ rfl) rfl (by show 2 * 0 + _ ≤ _; exact Nat.le_of_eq rfl) (hb hby at_23) (fun _ _ => ⟨rfl, e70q, (by decide : 0 + 0 ≤ _), (by decide : 0 + 0 ≤ _)⟩)
      dsimp only [Pt.U, Pt.locs, Pt.cells, Pt.slots] at X72 l72 y72 z72 st72 hQ72
      subst l72 y72 z72
      obtain ⟨rfl, N72q, e72q⟩ := hQ72
      have N72 := Fr.app N70 N72q
      have s73 : ∀ t, Steps p.tables e below (T72.setTop (mkF m 28 #[.val (.long xa), .second, .val (.long xb), .second, .val (.long xc), .second, .val (.int xs), .val (.long (fmin xa xb)), .second, .val (.long (fmax xa xb)), .second, .unset, .unset, .unset, .unset, .unset, .unset] [])) t → Steps p.tables e below (T72.setTop (mkF m 26 #[.val (.long xa), .second, .val (.long xb), .second, .val (.long xc), .second, .val (.int xs), .val (.long (fmin xa xb)), .second, .val (.long xb), .second, .unset, .unset, .unset, .unset, .unset, .unset] [(.long (fmax xa xb))])) t := by
        intro t kt
        refine XS.lstore X72.here hx rfl (hb hby at_26) rfl (l' := #[.val (.long xa), .second, .val (.long xb), .second, .val (.long xc), .second, .val (.int xs), .val (.long (fmin xa xb)), .second, .val (.long (fmax xa xb)), .second, .unset, .unset, .unset, .unset, .unset, .unset]) rfl ?_
        exact kt
      exact ⟨T72, _, (fmin xa xb), (fmax xa xb), X72, e72q, N72, (if_neg c67).symm, (if_neg c67).symm, fun t kt => s69 _ (st70 _ (s71 _ (st72 _ (s73 _ (kt)))))⟩
  have s82 : ∀ t, Steps p.tables e below (T76.setTop (mkF m 38 #[.val (.long xa), .second, .val (.long xb), .second, .val (.long xc), .second, .val (.int xs), .val (.long w74), .second, .val (.long w75), .second, .val (.int (xs &&& (7 : Int32))), .unset, .unset, .unset, .unset, .unset] [(.int (1 : Int32)), (.int (xs &&& (7 : Int32)))])) t → Steps p.tables e below (T76.setTop (mkF m 28 #[.val (.long xa), .second, .val (.long xb), .second, .val (.long xc), .second, .val (.int xs), .val (.long w74), .second, .val (.long w75), .second, .unset, .unset, .unset, .unset, .unset, .unset] [])) t := by
    intro t kt
    refine XS.iload X78.here hx rfl (hb hby at_28) rfl ?_
    show Steps p.tables e below (T76.setTop (mkF m 30 #[.val (.long xa), .second, .val (.long xb), .second, .val (.long xc), .second, .val (.int xs), .val (.long w74), .second, .val (.long w75), .second, .unset, .unset, .unset, .unset, .unset, .unset] [(.int xs)])) t
    refine XS.bipush X78.here hx rfl (hb hby at_30) ?_
    show Steps p.tables e below (T76.setTop (mkF m 32 #[.val (.long xa), .second, .val (.long xb), .second, .val (.long xc), .second, .val (.int xs), .val (.long w74), .second, .val (.long w75), .second, .unset, .unset, .unset, .unset, .unset, .unset] [(.int (7 : Int32)), (.int xs)])) t
    refine XS.iand X78.here hx rfl (hb hby at_32) rfl ?_
    show Steps p.tables e below (T76.setTop (mkF m 33 #[.val (.long xa), .second, .val (.long xb), .second, .val (.long xc), .second, .val (.int xs), .val (.long w74), .second, .val (.long w75), .second, .unset, .unset, .unset, .unset, .unset, .unset] [(.int (xs &&& (7 : Int32)))])) t
    refine XS.istore X78.here hx rfl (hb hby at_33) rfl (l' := #[.val (.long xa), .second, .val (.long xb), .second, .val (.long xc), .second, .val (.int xs), .val (.long w74), .second, .val (.long w75), .second, .val (.int (xs &&& (7 : Int32))), .unset, .unset, .unset, .unset, .unset]) rfl ?_
    show Steps p.tables e below (T76.setTop (mkF m 35 #[.val (.long xa), .second, .val (.long xb), .second, .val (.long xc), .second, .val (.int xs), .val (.long w74), .second, .val (.long w75), .second, .val (.int (xs &&& (7 : Int32))), .unset, .unset, .unset, .unset, .unset] [])) t
    refine XS.iload X78.here hx rfl (hb hby at_35) rfl ?_
    show Steps p.tables e below (T76.setTop (mkF m 37 #[.val (.long xa), .second, .val (.long xb), .second, .val (.long xc), .second, .val (.int xs), .val (.long w74), .second, .val (.long w75), .second, .val (.int (xs &&& (7 : Int32))), .unset, .unset, .unset, .unset, .unset] [(.int (xs &&& (7 : Int32)))])) t
    refine XS.iconst X78.here hx rfl (hb hby at_37) ?_
    exact kt
  obtain ⟨w136, hw136, j142⟩ : ∃ (w136 : Int64), w136 = (if (xs &&& (7 : Int32)) = (1 : Int32) then w74 else (if (xs &&& (7 : Int32)) = (2 : Int32) then w75 else (if (xs &&& (7 : Int32)) = (3 : Int32) then (w74 - (1 : Int64)) else (if (xs &&& (7 : Int32)) = (4 : Int32) then (w75 + (1 : Int64)) else (if (xs &&& (7 : Int32)) = (5 : Int32) then (w74 + (1 : Int64)) else (if (xs &&& (7 : Int32)) = (6 : Int32) then (w75 - (1 : Int64)) else xc)))))) ∧ ∀ t, Steps p.tables e below (T76.setTop (mkF m 126 #[.val (.long xa), .second, .val (.long xb), .second, .val (.long xc), .second, .val (.int xs), .val (.long w74), .second, .val (.long w75), .second, .val (.int (xs &&& (7 : Int32))), .val (.long w136), .second, .unset, .unset, .unset] [])) t → Steps p.tables e below (T76.setTop (mkF m 38 #[.val (.long xa), .second, .val (.long xb), .second, .val (.long xc), .second, .val (.int xs), .val (.long w74), .second, .val (.long w75), .second, .val (.int (xs &&& (7 : Int32))), .unset, .unset, .unset, .unset, .unset] [(.int (1 : Int32)), (.int (xs &&& (7 : Int32)))])) t := by
    by_cases c83 : (xs &&& (7 : Int32)) = (1 : Int32)
    ·
      have s135 : ∀ t, Steps p.tables e below (T76.setTop (mkF m 126 #[.val (.long xa), .second, .val (.long xb), .second, .val (.long xc), .second, .val (.int xs), .val (.long w74), .second, .val (.long w75), .second, .val (.int (xs &&& (7 : Int32))), .val (.long w74), .second, .unset, .unset, .unset] [])) t → Steps p.tables e below (T76.setTop (mkF m 38 #[.val (.long xa), .second, .val (.long xb), .second, .val (.long xc), .second, .val (.int xs), .val (.long w74), .second, .val (.long w75), .second, .val (.int (xs &&& (7 : Int32))), .unset, .unset, .unset, .unset, .unset] [(.int (1 : Int32)), (.int (xs &&& (7 : Int32)))])) t := by
        intro t kt
        refine XS.icmpNo X78.here hx rfl (hb hby at_38) rfl (teq c83).2 ?_
        show Steps p.tables e below (T76.setTop (mkF m 41 #[.val (.long xa), .second, .val (.long xb), .second, .val (.long xc), .second, .val (.int xs), .val (.long w74), .second, .val (.long w75), .second, .val (.int (xs &&& (7 : Int32))), .unset, .unset, .unset, .unset, .unset] [])) t
        refine XS.lload X78.here hx rfl (hb hby at_41) rfl ?_
        show Steps p.tables e below (T76.setTop (mkF m 43 #[.val (.long xa), .second, .val (.long xb), .second, .val (.long xc), .second, .val (.int xs), .val (.long w74), .second, .val (.long w75), .second, .val (.int (xs &&& (7 : Int32))), .unset, .unset, .unset, .unset, .unset] [(.long w74)])) t
        refine XS.lstore X78.here hx rfl (hb hby at_43) rfl (l' := #[.val (.long xa), .second, .val (.long xb), .second, .val (.long xc), .second, .val (.int xs), .val (.long w74), .second, .val (.long w75), .second, .val (.int (xs &&& (7 : Int32))), .val (.long w74), .second, .unset, .unset, .unset]) rfl ?_
        show Steps p.tables e below (T76.setTop (mkF m 45 #[.val (.long xa), .second, .val (.long xb), .second, .val (.long xc), .second, .val (.int xs), .val (.long w74), .second, .val (.long w75), .second, .val (.int (xs &&& (7 : Int32))), .val (.long w74), .second, .unset, .unset, .unset] [])) t
        refine XS.goto X78.here hx rfl (pc0 := 45) (pc' := 126) rfl (hb hby at_45) (by decide) (by decide) ?_
        exact kt
      exact ⟨w74, (if_pos c83).symm, fun t kt => s135 _ (kt)⟩
    ·
      have s84 : ∀ t, Steps p.tables e below (T76.setTop (mkF m 51 #[.val (.long xa), .second, .val (.long xb), .second, .val (.long xc), .second, .val (.int xs), .val (.long w74), .second, .val (.long w75), .second, .val (.int (xs &&& (7 : Int32))), .unset, .unset, .unset, .unset, .unset] [(.int (2 : Int32)), (.int (xs &&& (7 : Int32)))])) t → Steps p.tables e below (T76.setTop (mkF m 38 #[.val (.long xa), .second, .val (.long xb), .second, .val (.long xc), .second, .val (.int xs), .val (.long w74), .second, .val (.long w75), .second, .val (.int (xs &&& (7 : Int32))), .unset, .unset, .unset, .unset, .unset] [(.int (1 : Int32)), (.int (xs &&& (7 : Int32)))])) t := by
        intro t kt
        refine XS.icmpYes X78.here hx rfl (pc0 := 38) (pc' := 48) rfl (hb hby at_38) rfl (feq c83).2 (by decide) (by decide) ?_
        show Steps p.tables e below (T76.setTop (mkF m 48 #[.val (.long xa), .second, .val (.long xb), .second, .val (.long xc), .second, .val (.int xs), .val (.long w74), .second, .val (.long w75), .second, .val (.int (xs &&& (7 : Int32))), .unset, .unset, .unset, .unset, .unset] [])) t
        refine XS.iload X78.here hx rfl (hb hby at_48) rfl ?_
        show Steps p.tables e below (T76.setTop (mkF m 50 #[.val (.long xa), .second, .val (.long xb), .second, .val (.long xc), .second, .val (.int xs), .val (.long w74), .second, .val (.long w75), .second, .val (.int (xs &&& (7 : Int32))), .unset, .unset, .unset, .unset, .unset] [(.int (xs &&& (7 : Int32)))])) t
        refine XS.iconst X78.here hx rfl (hb hby at_50) ?_
        exact kt
      obtain ⟨w128, rfl, j134⟩ : ∃ (w128 : Int64), w128 = (if (xs &&& (7 : Int32)) = (2 : Int32) then w75 else (if (xs &&& (7 : Int32)) = (3 : Int32) then (w74 - (1 : Int64)) else (if (xs &&& (7 : Int32)) = (4 : Int32) then (w75 + (1 : Int64)) else (if (xs &&& (7 : Int32)) = (5 : Int32) then (w74 + (1 : Int64)) else (if (xs &&& (7 : Int32)) = (6 : Int32) then (w75 - (1 : Int64)) else xc))))) ∧ ∀ t, Steps p.tables e below (T76.setTop (mkF m 126 #[.val (.long xa), .second, .val (.long xb), .second, .val (.long xc), .second, .val (.int xs), .val (.long w74), .second, .val (.long w75), .second, .val (.int (xs &&& (7 : Int32))), .val (.long w128), .second, .unset, .unset, .unset] [])) t → Steps p.tables e below (T76.setTop (mkF m 51 #[.val (.long xa), .second, .val (.long xb), .second, .val (.long xc), .second, .val (.int xs), .val (.long w74), .second, .val (.long w75), .second, .val (.int (xs &&& (7 : Int32))), .unset, .unset, .unset, .unset, .unset] [(.int (2 : Int32)), (.int (xs &&& (7 : Int32)))])) t := by
        by_cases c85 : (xs &&& (7 : Int32)) = (2 : Int32)
        ·
          have s127 : ∀ t, Steps p.tables e below (T76.setTop (mkF m 126 #[.val (.long xa), .second, .val (.long xb), .second, .val (.long xc), .second, .val (.int xs), .val (.long w74), .second, .val (.long w75), .second, .val (.int (xs &&& (7 : Int32))), .val (.long w75), .second, .unset, .unset, .unset] [])) t → Steps p.tables e below (T76.setTop (mkF m 51 #[.val (.long xa), .second, .val (.long xb), .second, .val (.long xc), .second, .val (.int xs), .val (.long w74), .second, .val (.long w75), .second, .val (.int (xs &&& (7 : Int32))), .unset, .unset, .unset, .unset, .unset] [(.int (2 : Int32)), (.int (xs &&& (7 : Int32)))])) t := by
            intro t kt
            refine XS.icmpNo X78.here hx rfl (hb hby at_51) rfl (teq c85).2 ?_
            show Steps p.tables e below (T76.setTop (mkF m 54 #[.val (.long xa), .second, .val (.long xb), .second, .val (.long xc), .second, .val (.int xs), .val (.long w74), .second, .val (.long w75), .second, .val (.int (xs &&& (7 : Int32))), .unset, .unset, .unset, .unset, .unset] [])) t
            refine XS.lload X78.here hx rfl (hb hby at_54) rfl ?_
            show Steps p.tables e below (T76.setTop (mkF m 56 #[.val (.long xa), .second, .val (.long xb), .second, .val (.long xc), .second, .val (.int xs), .val (.long w74), .second, .val (.long w75), .second, .val (.int (xs &&& (7 : Int32))), .unset, .unset, .unset, .unset, .unset] [(.long w75)])) t
            refine XS.lstore X78.here hx rfl (hb hby at_56) rfl (l' := #[.val (.long xa), .second, .val (.long xb), .second, .val (.long xc), .second, .val (.int xs), .val (.long w74), .second, .val (.long w75), .second, .val (.int (xs &&& (7 : Int32))), .val (.long w75), .second, .unset, .unset, .unset]) rfl ?_
            show Steps p.tables e below (T76.setTop (mkF m 58 #[.val (.long xa), .second, .val (.long xb), .second, .val (.long xc), .second, .val (.int xs), .val (.long w74), .second, .val (.long w75), .second, .val (.int (xs &&& (7 : Int32))), .val (.long w75), .second, .unset, .unset, .unset] [])) t
            refine XS.goto X78.here hx rfl (pc0 := 58) (pc' := 126) rfl (hb hby at_58) (by decide) (by decide) ?_
            exact kt
          exact ⟨w75, (if_pos c85).symm, fun t kt => s127 _ (kt)⟩
        ·
          have s86 : ∀ t, Steps p.tables e below (T76.setTop (mkF m 64 #[.val (.long xa), .second, .val (.long xb), .second, .val (.long xc), .second, .val (.int xs), .val (.long w74), .second, .val (.long w75), .second, .val (.int (xs &&& (7 : Int32))), .unset, .unset, .unset, .unset, .unset] [(.int (3 : Int32)), (.int (xs &&& (7 : Int32)))])) t → Steps p.tables e below (T76.setTop (mkF m 51 #[.val (.long xa), .second, .val (.long xb), .second, .val (.long xc), .second, .val (.int xs), .val (.long w74), .second, .val (.long w75), .second, .val (.int (xs &&& (7 : Int32))), .unset, .unset, .unset, .unset, .unset] [(.int (2 : Int32)), (.int (xs &&& (7 : Int32)))])) t := by
            intro t kt
            refine XS.icmpYes X78.here hx rfl (pc0 := 51) (pc' := 61) rfl (hb hby at_51) rfl (feq c85).2 (by decide) (by decide) ?_
            show Steps p.tables e below (T76.setTop (mkF m 61 #[.val (.long xa), .second, .val (.long xb), .second, .val (.long xc), .second, .val (.int xs), .val (.long w74), .second, .val (.long w75), .second, .val (.int (xs &&& (7 : Int32))), .unset, .unset, .unset, .unset, .unset] [])) t
            refine XS.iload X78.here hx rfl (hb hby at_61) rfl ?_
            show Steps p.tables e below (T76.setTop (mkF m 63 #[.val (.long xa), .second, .val (.long xb), .second, .val (.long xc), .second, .val (.int xs), .val (.long w74), .second, .val (.long w75), .second, .val (.int (xs &&& (7 : Int32))), .unset, .unset, .unset, .unset, .unset] [(.int (xs &&& (7 : Int32)))])) t
            refine XS.iconst X78.here hx rfl (hb hby at_63) ?_
            exact kt
          obtain ⟨w120, rfl, j126⟩ : ∃ (w120 : Int64), w120 = (if (xs &&& (7 : Int32)) = (3 : Int32) then (w74 - (1 : Int64)) else (if (xs &&& (7 : Int32)) = (4 : Int32) then (w75 + (1 : Int64)) else (if (xs &&& (7 : Int32)) = (5 : Int32) then (w74 + (1 : Int64)) else (if (xs &&& (7 : Int32)) = (6 : Int32) then (w75 - (1 : Int64)) else xc)))) ∧ ∀ t, Steps p.tables e below (T76.setTop (mkF m 126 #[.val (.long xa), .second, .val (.long xb), .second, .val (.long xc), .second, .val (.int xs), .val (.long w74), .second, .val (.long w75), .second, .val (.int (xs &&& (7 : Int32))), .val (.long w120), .second, .unset, .unset, .unset] [])) t → Steps p.tables e below (T76.setTop (mkF m 64 #[.val (.long xa), .second, .val (.long xb), .second, .val (.long xc), .second, .val (.int xs), .val (.long w74), .second, .val (.long w75), .second, .val (.int (xs &&& (7 : Int32))), .unset, .unset, .unset, .unset, .unset] [(.int (3 : Int32)), (.int (xs &&& (7 : Int32)))])) t := by
            by_cases c87 : (xs &&& (7 : Int32)) = (3 : Int32)
            ·
              have s119 : ∀ t, Steps p.tables e below (T76.setTop (mkF m 126 #[.val (.long xa), .second, .val (.long xb), .second, .val (.long xc), .second, .val (.int xs), .val (.long w74), .second, .val (.long w75), .second, .val (.int (xs &&& (7 : Int32))), .val (.long (w74 - (1 : Int64))), .second, .unset, .unset, .unset] [])) t → Steps p.tables e below (T76.setTop (mkF m 64 #[.val (.long xa), .second, .val (.long xb), .second, .val (.long xc), .second, .val (.int xs), .val (.long w74), .second, .val (.long w75), .second, .val (.int (xs &&& (7 : Int32))), .unset, .unset, .unset, .unset, .unset] [(.int (3 : Int32)), (.int (xs &&& (7 : Int32)))])) t := by
                intro t kt
                refine XS.icmpNo X78.here hx rfl (hb hby at_64) rfl (teq c87).2 ?_
                show Steps p.tables e below (T76.setTop (mkF m 67 #[.val (.long xa), .second, .val (.long xb), .second, .val (.long xc), .second, .val (.int xs), .val (.long w74), .second, .val (.long w75), .second, .val (.int (xs &&& (7 : Int32))), .unset, .unset, .unset, .unset, .unset] [])) t
                refine XS.lload X78.here hx rfl (hb hby at_67) rfl ?_
                show Steps p.tables e below (T76.setTop (mkF m 69 #[.val (.long xa), .second, .val (.long xb), .second, .val (.long xc), .second, .val (.int xs), .val (.long w74), .second, .val (.long w75), .second, .val (.int (xs &&& (7 : Int32))), .unset, .unset, .unset, .unset, .unset] [(.long w74)])) t
                refine XS.lconst X78.here hx rfl (hb hby at_69) ?_
                show Steps p.tables e below (T76.setTop (mkF m 70 #[.val (.long xa), .second, .val (.long xb), .second, .val (.long xc), .second, .val (.int xs), .val (.long w74), .second, .val (.long w75), .second, .val (.int (xs &&& (7 : Int32))), .unset, .unset, .unset, .unset, .unset] [(.long (1 : Int64)), (.long w74)])) t
                refine XS.lsub X78.here hx rfl (hb hby at_70) rfl ?_
                show Steps p.tables e below (T76.setTop (mkF m 71 #[.val (.long xa), .second, .val (.long xb), .second, .val (.long xc), .second, .val (.int xs), .val (.long w74), .second, .val (.long w75), .second, .val (.int (xs &&& (7 : Int32))), .unset, .unset, .unset, .unset, .unset] [(.long (w74 - (1 : Int64)))])) t
                refine XS.lstore X78.here hx rfl (hb hby at_71) rfl (l' := #[.val (.long xa), .second, .val (.long xb), .second, .val (.long xc), .second, .val (.int xs), .val (.long w74), .second, .val (.long w75), .second, .val (.int (xs &&& (7 : Int32))), .val (.long (w74 - (1 : Int64))), .second, .unset, .unset, .unset]) rfl ?_
                show Steps p.tables e below (T76.setTop (mkF m 73 #[.val (.long xa), .second, .val (.long xb), .second, .val (.long xc), .second, .val (.int xs), .val (.long w74), .second, .val (.long w75), .second, .val (.int (xs &&& (7 : Int32))), .val (.long (w74 - (1 : Int64))), .second, .unset, .unset, .unset] [])) t
                refine XS.goto X78.here hx rfl (pc0 := 73) (pc' := 126) rfl (hb hby at_73) (by decide) (by decide) ?_
                exact kt
              exact ⟨(w74 - (1 : Int64)), (if_pos c87).symm, fun t kt => s119 _ (kt)⟩
            ·
              have s88 : ∀ t, Steps p.tables e below (T76.setTop (mkF m 79 #[.val (.long xa), .second, .val (.long xb), .second, .val (.long xc), .second, .val (.int xs), .val (.long w74), .second, .val (.long w75), .second, .val (.int (xs &&& (7 : Int32))), .unset, .unset, .unset, .unset, .unset] [(.int (4 : Int32)), (.int (xs &&& (7 : Int32)))])) t → Steps p.tables e below (T76.setTop (mkF m 64 #[.val (.long xa), .second, .val (.long xb), .second, .val (.long xc), .second, .val (.int xs), .val (.long w74), .second, .val (.long w75), .second, .val (.int (xs &&& (7 : Int32))), .unset, .unset, .unset, .unset, .unset] [(.int (3 : Int32)), (.int (xs &&& (7 : Int32)))])) t := by
                intro t kt
                refine XS.icmpYes X78.here hx rfl (pc0 := 64) (pc' := 76) rfl (hb hby at_64) rfl (feq c87).2 (by decide) (by decide) ?_
                show Steps p.tables e below (T76.setTop (mkF m 76 #[.val (.long xa), .second, .val (.long xb), .second, .val (.long xc), .second, .val (.int xs), .val (.long w74), .second, .val (.long w75), .second, .val (.int (xs &&& (7 : Int32))), .unset, .unset, .unset, .unset, .unset] [])) t
                refine XS.iload X78.here hx rfl (hb hby at_76) rfl ?_
                show Steps p.tables e below (T76.setTop (mkF m 78 #[.val (.long xa), .second, .val (.long xb), .second, .val (.long xc), .second, .val (.int xs), .val (.long w74), .second, .val (.long w75), .second, .val (.int (xs &&& (7 : Int32))), .unset, .unset, .unset, .unset, .unset] [(.int (xs &&& (7 : Int32)))])) t
                refine XS.iconst X78.here hx rfl (hb hby at_78) ?_
                exact kt
              obtain ⟨w112, rfl, j118⟩ : ∃ (w112 : Int64), w112 = (if (xs &&& (7 : Int32)) = (4 : Int32) then (w75 + (1 : Int64)) else (if (xs &&& (7 : Int32)) = (5 : Int32) then (w74 + (1 : Int64)) else (if (xs &&& (7 : Int32)) = (6 : Int32) then (w75 - (1 : Int64)) else xc))) ∧ ∀ t, Steps p.tables e below (T76.setTop (mkF m 126 #[.val (.long xa), .second, .val (.long xb), .second, .val (.long xc), .second, .val (.int xs), .val (.long w74), .second, .val (.long w75), .second, .val (.int (xs &&& (7 : Int32))), .val (.long w112), .second, .unset, .unset, .unset] [])) t → Steps p.tables e below (T76.setTop (mkF m 79 #[.val (.long xa), .second, .val (.long xb), .second, .val (.long xc), .second, .val (.int xs), .val (.long w74), .second, .val (.long w75), .second, .val (.int (xs &&& (7 : Int32))), .unset, .unset, .unset, .unset, .unset] [(.int (4 : Int32)), (.int (xs &&& (7 : Int32)))])) t := by
                by_cases c89 : (xs &&& (7 : Int32)) = (4 : Int32)
                ·
                  have s111 : ∀ t, Steps p.tables e below (T76.setTop (mkF m 126 #[.val (.long xa), .second, .val (.long xb), .second, .val (.long xc), .second, .val (.int xs), .val (.long w74), .second, .val (.long w75), .second, .val (.int (xs &&& (7 : Int32))), .val (.long (w75 + (1 : Int64))), .second, .unset, .unset, .unset] [])) t → Steps p.tables e below (T76.setTop (mkF m 79 #[.val (.long xa), .second, .val (.long xb), .second, .val (.long xc), .second, .val (.int xs), .val (.long w74), .second, .val (.long w75), .second, .val (.int (xs &&& (7 : Int32))), .unset, .unset, .unset, .unset, .unset] [(.int (4 : Int32)), (.int (xs &&& (7 : Int32)))])) t := by
                    intro t kt
                    refine XS.icmpNo X78.here hx rfl (hb hby at_79) rfl (teq c89).2 ?_
                    show Steps p.tables e below (T76.setTop (mkF m 82 #[.val (.long xa), .second, .val (.long xb), .second, .val (.long xc), .second, .val (.int xs), .val (.long w74), .second, .val (.long w75), .second, .val (.int (xs &&& (7 : Int32))), .unset, .unset, .unset, .unset, .unset] [])) t
                    refine XS.lload X78.here hx rfl (hb hby at_82) rfl ?_
                    show Steps p.tables e below (T76.setTop (mkF m 84 #[.val (.long xa), .second, .val (.long xb), .second, .val (.long xc), .second, .val (.int xs), .val (.long w74), .second, .val (.long w75), .second, .val (.int (xs &&& (7 : Int32))), .unset, .unset, .unset, .unset, .unset] [(.long w75)])) t
                    refine XS.lconst X78.here hx rfl (hb hby at_84) ?_
                    show Steps p.tables e below (T76.setTop (mkF m 85 #[.val (.long xa), .second, .val (.long xb), .second, .val (.long xc), .second, .val (.int xs), .val (.long w74), .second, .val (.long w75), .second, .val (.int (xs &&& (7 : Int32))), .unset, .unset, .unset, .unset, .unset] [(.long (1 : Int64)), (.long w75)])) t
                    refine XS.ladd X78.here hx rfl (hb hby at_85) rfl ?_
                    show Steps p.tables e below (T76.setTop (mkF m 86 #[.val (.long xa), .second, .val (.long xb), .second, .val (.long xc), .second, .val (.int xs), .val (.long w74), .second, .val (.long w75), .second, .val (.int (xs &&& (7 : Int32))), .unset, .unset, .unset, .unset, .unset] [(.long (w75 + (1 : Int64)))])) t
                    refine XS.lstore X78.here hx rfl (hb hby at_86) rfl (l' := #[.val (.long xa), .second, .val (.long xb), .second, .val (.long xc), .second, .val (.int xs), .val (.long w74), .second, .val (.long w75), .second, .val (.int (xs &&& (7 : Int32))), .val (.long (w75 + (1 : Int64))), .second, .unset, .unset, .unset]) rfl ?_
                    show Steps p.tables e below (T76.setTop (mkF m 88 #[.val (.long xa), .second, .val (.long xb), .second, .val (.long xc), .second, .val (.int xs), .val (.long w74), .second, .val (.long w75), .second, .val (.int (xs &&& (7 : Int32))), .val (.long (w75 + (1 : Int64))), .second, .unset, .unset, .unset] [])) t
                    refine XS.goto X78.here hx rfl (pc0 := 88) (pc' := 126) rfl (hb hby at_88) (by decide) (by decide) ?_
                    exact kt
                  exact ⟨(w75 + (1 : Int64)), (if_pos c89).symm, fun t kt => s111 _ (kt)⟩
                ·
                  have s90 : ∀ t, Steps p.tables e below (T76.setTop (mkF m 94 #[.val (.long xa), .second, .val (.long xb), .second, .val (.long xc), .second, .val (.int xs), .val (.long w74), .second, .val (.long w75), .second, .val (.int (xs &&& (7 : Int32))), .unset, .unset, .unset, .unset, .unset] [(.int (5 : Int32)), (.int (xs &&& (7 : Int32)))])) t → Steps p.tables e below (T76.setTop (mkF m 79 #[.val (.long xa), .second, .val (.long xb), .second, .val (.long xc), .second, .val (.int xs), .val (.long w74), .second, .val (.long w75), .second, .val (.int (xs &&& (7 : Int32))), .unset, .unset, .unset, .unset, .unset] [(.int (4 : Int32)), (.int (xs &&& (7 : Int32)))])) t := by
                    intro t kt
                    refine XS.icmpYes X78.here hx rfl (pc0 := 79) (pc' := 91) rfl (hb hby at_79) rfl (feq c89).2 (by decide) (by decide) ?_
                    show Steps p.tables e below (T76.setTop (mkF m 91 #[.val (.long xa), .second, .val (.long xb), .second, .val (.long xc), .second, .val (.int xs), .val (.long w74), .second, .val (.long w75), .second, .val (.int (xs &&& (7 : Int32))), .unset, .unset, .unset, .unset, .unset] [])) t
                    refine XS.iload X78.here hx rfl (hb hby at_91) rfl ?_
                    show Steps p.tables e below (T76.setTop (mkF m 93 #[.val (.long xa), .second, .val (.long xb), .second, .val (.long xc), .second, .val (.int xs), .val (.long w74), .second, .val (.long w75), .second, .val (.int (xs &&& (7 : Int32))), .unset, .unset, .unset, .unset, .unset] [(.int (xs &&& (7 : Int32)))])) t
                    refine XS.iconst X78.here hx rfl (hb hby at_93) ?_
                    exact kt
                  obtain ⟨w104, rfl, j110⟩ : ∃ (w104 : Int64), w104 = (if (xs &&& (7 : Int32)) = (5 : Int32) then (w74 + (1 : Int64)) else (if (xs &&& (7 : Int32)) = (6 : Int32) then (w75 - (1 : Int64)) else xc)) ∧ ∀ t, Steps p.tables e below (T76.setTop (mkF m 126 #[.val (.long xa), .second, .val (.long xb), .second, .val (.long xc), .second, .val (.int xs), .val (.long w74), .second, .val (.long w75), .second, .val (.int (xs &&& (7 : Int32))), .val (.long w104), .second, .unset, .unset, .unset] [])) t → Steps p.tables e below (T76.setTop (mkF m 94 #[.val (.long xa), .second, .val (.long xb), .second, .val (.long xc), .second, .val (.int xs), .val (.long w74), .second, .val (.long w75), .second, .val (.int (xs &&& (7 : Int32))), .unset, .unset, .unset, .unset, .unset] [(.int (5 : Int32)), (.int (xs &&& (7 : Int32)))])) t := by
                    by_cases c91 : (xs &&& (7 : Int32)) = (5 : Int32)
                    ·
                      have s103 : ∀ t, Steps p.tables e below (T76.setTop (mkF m 126 #[.val (.long xa), .second, .val (.long xb), .second, .val (.long xc), .second, .val (.int xs), .val (.long w74), .second, .val (.long w75), .second, .val (.int (xs &&& (7 : Int32))), .val (.long (w74 + (1 : Int64))), .second, .unset, .unset, .unset] [])) t → Steps p.tables e below (T76.setTop (mkF m 94 #[.val (.long xa), .second, .val (.long xb), .second, .val (.long xc), .second, .val (.int xs), .val (.long w74), .second, .val (.long w75), .second, .val (.int (xs &&& (7 : Int32))), .unset, .unset, .unset, .unset, .unset] [(.int (5 : Int32)), (.int (xs &&& (7 : Int32)))])) t := by
                        intro t kt
                        refine XS.icmpNo X78.here hx rfl (hb hby at_94) rfl (teq c91).2 ?_
                        show Steps p.tables e below (T76.setTop (mkF m 97 #[.val (.long xa), .second, .val (.long xb), .second, .val (.long xc), .second, .val (.int xs), .val (.long w74), .second, .val (.long w75), .second, .val (.int (xs &&& (7 : Int32))), .unset, .unset, .unset, .unset, .unset] [])) t
                        refine XS.lload X78.here hx rfl (hb hby at_97) rfl ?_
                        show Steps p.tables e below (T76.setTop (mkF m 99 #[.val (.long xa), .second, .val (.long xb), .second, .val (.long xc), .second, .val (.int xs), .val (.long w74), .second, .val (.long w75), .second, .val (.int (xs &&& (7 : Int32))), .unset, .unset, .unset, .unset, .unset] [(.long w74)])) t
                        refine XS.lconst X78.here hx rfl (hb hby at_99) ?_
                        show Steps p.tables e below (T76.setTop (mkF m 100 #[.val (.long xa), .second, .val (.long xb), .second, .val (.long xc), .second, .val (.int xs), .val (.long w74), .second, .val (.long w75), .second, .val (.int (xs &&& (7 : Int32))), .unset, .unset, .unset, .unset, .unset] [(.long (1 : Int64)), (.long w74)])) t
                        refine XS.ladd X78.here hx rfl (hb hby at_100) rfl ?_
                        show Steps p.tables e below (T76.setTop (mkF m 101 #[.val (.long xa), .second, .val (.long xb), .second, .val (.long xc), .second, .val (.int xs), .val (.long w74), .second, .val (.long w75), .second, .val (.int (xs &&& (7 : Int32))), .unset, .unset, .unset, .unset, .unset] [(.long (w74 + (1 : Int64)))])) t
                        refine XS.lstore X78.here hx rfl (hb hby at_101) rfl (l' := #[.val (.long xa), .second, .val (.long xb), .second, .val (.long xc), .second, .val (.int xs), .val (.long w74), .second, .val (.long w75), .second, .val (.int (xs &&& (7 : Int32))), .val (.long (w74 + (1 : Int64))), .second, .unset, .unset, .unset]) rfl ?_
                        show Steps p.tables e below (T76.setTop (mkF m 103 #[.val (.long xa), .second, .val (.long xb), .second, .val (.long xc), .second, .val (.int xs), .val (.long w74), .second, .val (.long w75), .second, .val (.int (xs &&& (7 : Int32))), .val (.long (w74 + (1 : Int64))), .second, .unset, .unset, .unset] [])) t
                        refine XS.goto X78.here hx rfl (pc0 := 103) (pc' := 126) rfl (hb hby at_103) (by decide) (by decide) ?_
                        exact kt
                      exact ⟨(w74 + (1 : Int64)), (if_pos c91).symm, fun t kt => s103 _ (kt)⟩
                    ·
                      have s92 : ∀ t, Steps p.tables e below (T76.setTop (mkF m 110 #[.val (.long xa), .second, .val (.long xb), .second, .val (.long xc), .second, .val (.int xs), .val (.long w74), .second, .val (.long w75), .second, .val (.int (xs &&& (7 : Int32))), .unset, .unset, .unset, .unset, .unset] [(.int (6 : Int32)), (.int (xs &&& (7 : Int32)))])) t → Steps p.tables e below (T76.setTop (mkF m 94 #[.val (.long xa), .second, .val (.long xb), .second, .val (.long xc), .second, .val (.int xs), .val (.long w74), .second, .val (.long w75), .second, .val (.int (xs &&& (7 : Int32))), .unset, .unset, .unset, .unset, .unset] [(.int (5 : Int32)), (.int (xs &&& (7 : Int32)))])) t := by
                        intro t kt
                        refine XS.icmpYes X78.here hx rfl (pc0 := 94) (pc' := 106) rfl (hb hby at_94) rfl (feq c91).2 (by decide) (by decide) ?_
                        show Steps p.tables e below (T76.setTop (mkF m 106 #[.val (.long xa), .second, .val (.long xb), .second, .val (.long xc), .second, .val (.int xs), .val (.long w74), .second, .val (.long w75), .second, .val (.int (xs &&& (7 : Int32))), .unset, .unset, .unset, .unset, .unset] [])) t
                        refine XS.iload X78.here hx rfl (hb hby at_106) rfl ?_
                        show Steps p.tables e below (T76.setTop (mkF m 108 #[.val (.long xa), .second, .val (.long xb), .second, .val (.long xc), .second, .val (.int xs), .val (.long w74), .second, .val (.long w75), .second, .val (.int (xs &&& (7 : Int32))), .unset, .unset, .unset, .unset, .unset] [(.int (xs &&& (7 : Int32)))])) t
                        refine XS.bipush X78.here hx rfl (hb hby at_108) ?_
                        exact kt
                      obtain ⟨w96, rfl, j102⟩ : ∃ (w96 : Int64), w96 = (if (xs &&& (7 : Int32)) = (6 : Int32) then (w75 - (1 : Int64)) else xc) ∧ ∀ t, Steps p.tables e below (T76.setTop (mkF m 126 #[.val (.long xa), .second, .val (.long xb), .second, .val (.long xc), .second, .val (.int xs), .val (.long w74), .second, .val (.long w75), .second, .val (.int (xs &&& (7 : Int32))), .val (.long w96), .second, .unset, .unset, .unset] [])) t → Steps p.tables e below (T76.setTop (mkF m 110 #[.val (.long xa), .second, .val (.long xb), .second, .val (.long xc), .second, .val (.int xs), .val (.long w74), .second, .val (.long w75), .second, .val (.int (xs &&& (7 : Int32))), .unset, .unset, .unset, .unset, .unset] [(.int (6 : Int32)), (.int (xs &&& (7 : Int32)))])) t := by
                        by_cases c93 : (xs &&& (7 : Int32)) = (6 : Int32)
                        ·
                          have s95 : ∀ t, Steps p.tables e below (T76.setTop (mkF m 126 #[.val (.long xa), .second, .val (.long xb), .second, .val (.long xc), .second, .val (.int xs), .val (.long w74), .second, .val (.long w75), .second, .val (.int (xs &&& (7 : Int32))), .val (.long (w75 - (1 : Int64))), .second, .unset, .unset, .unset] [])) t → Steps p.tables e below (T76.setTop (mkF m 110 #[.val (.long xa), .second, .val (.long xb), .second, .val (.long xc), .second, .val (.int xs), .val (.long w74), .second, .val (.long w75), .second, .val (.int (xs &&& (7 : Int32))), .unset, .unset, .unset, .unset, .unset] [(.int (6 : Int32)), (.int (xs &&& (7 : Int32)))])) t := by
                            intro t kt
                            refine XS.icmpNo X78.here hx rfl (hb hby at_110) rfl (teq c93).2 ?_
                            show Steps p.tables e below (T76.setTop (mkF m 113 #[.val (.long xa), .second, .val (.long xb), .second, .val (.long xc), .second, .val (.int xs), .val (.long w74), .second, .val (.long w75), .second, .val (.int (xs &&& (7 : Int32))), .unset, .unset, .unset, .unset, .unset] [])) t
                            refine XS.lload X78.here hx rfl (hb hby at_113) rfl ?_
                            show Steps p.tables e below (T76.setTop (mkF m 115 #[.val (.long xa), .second, .val (.long xb), .second, .val (.long xc), .second, .val (.int xs), .val (.long w74), .second, .val (.long w75), .second, .val (.int (xs &&& (7 : Int32))), .unset, .unset, .unset, .unset, .unset] [(.long w75)])) t
                            refine XS.lconst X78.here hx rfl (hb hby at_115) ?_
                            show Steps p.tables e below (T76.setTop (mkF m 116 #[.val (.long xa), .second, .val (.long xb), .second, .val (.long xc), .second, .val (.int xs), .val (.long w74), .second, .val (.long w75), .second, .val (.int (xs &&& (7 : Int32))), .unset, .unset, .unset, .unset, .unset] [(.long (1 : Int64)), (.long w75)])) t
                            refine XS.lsub X78.here hx rfl (hb hby at_116) rfl ?_
                            show Steps p.tables e below (T76.setTop (mkF m 117 #[.val (.long xa), .second, .val (.long xb), .second, .val (.long xc), .second, .val (.int xs), .val (.long w74), .second, .val (.long w75), .second, .val (.int (xs &&& (7 : Int32))), .unset, .unset, .unset, .unset, .unset] [(.long (w75 - (1 : Int64)))])) t
                            refine XS.lstore X78.here hx rfl (hb hby at_117) rfl (l' := #[.val (.long xa), .second, .val (.long xb), .second, .val (.long xc), .second, .val (.int xs), .val (.long w74), .second, .val (.long w75), .second, .val (.int (xs &&& (7 : Int32))), .val (.long (w75 - (1 : Int64))), .second, .unset, .unset, .unset]) rfl ?_
                            show Steps p.tables e below (T76.setTop (mkF m 119 #[.val (.long xa), .second, .val (.long xb), .second, .val (.long xc), .second, .val (.int xs), .val (.long w74), .second, .val (.long w75), .second, .val (.int (xs &&& (7 : Int32))), .val (.long (w75 - (1 : Int64))), .second, .unset, .unset, .unset] [])) t
                            refine XS.goto X78.here hx rfl (pc0 := 119) (pc' := 126) rfl (hb hby at_119) (by decide) (by decide) ?_
                            exact kt
                          exact ⟨(w75 - (1 : Int64)), (if_pos c93).symm, fun t kt => s95 _ (kt)⟩
                        ·
                          have s94 : ∀ t, Steps p.tables e below (T76.setTop (mkF m 126 #[.val (.long xa), .second, .val (.long xb), .second, .val (.long xc), .second, .val (.int xs), .val (.long w74), .second, .val (.long w75), .second, .val (.int (xs &&& (7 : Int32))), .val (.long xc), .second, .unset, .unset, .unset] [])) t → Steps p.tables e below (T76.setTop (mkF m 110 #[.val (.long xa), .second, .val (.long xb), .second, .val (.long xc), .second, .val (.int xs), .val (.long w74), .second, .val (.long w75), .second, .val (.int (xs &&& (7 : Int32))), .unset, .unset, .unset, .unset, .unset] [(.int (6 : Int32)), (.int (xs &&& (7 : Int32)))])) t := by
                            intro t kt
                            refine XS.icmpYes X78.here hx rfl (pc0 := 110) (pc' := 122) rfl (hb hby at_110) rfl (feq c93).2 (by decide) (by decide) ?_
                            show Steps p.tables e below (T76.setTop (mkF m 122 #[.val (.long xa), .second, .val (.long xb), .second, .val (.long xc), .second, .val (.int xs), .val (.long w74), .second, .val (.long w75), .second, .val (.int (xs &&& (7 : Int32))), .unset, .unset, .unset, .unset, .unset] [])) t
                            refine XS.lload X78.here hx rfl (hb hby at_122) rfl ?_
                            show Steps p.tables e below (T76.setTop (mkF m 124 #[.val (.long xa), .second, .val (.long xb), .second, .val (.long xc), .second, .val (.int xs), .val (.long w74), .second, .val (.long w75), .second, .val (.int (xs &&& (7 : Int32))), .unset, .unset, .unset, .unset, .unset] [(.long xc)])) t
                            refine XS.lstore X78.here hx rfl (hb hby at_124) rfl (l' := #[.val (.long xa), .second, .val (.long xb), .second, .val (.long xc), .second, .val (.int xs), .val (.long w74), .second, .val (.long w75), .second, .val (.int (xs &&& (7 : Int32))), .val (.long xc), .second, .unset, .unset, .unset]) rfl ?_
                            exact kt
                          exact ⟨xc, (if_neg c93).symm, fun t kt => s94 _ (kt)⟩
                      exact ⟨(if (xs &&& (7 : Int32)) = (6 : Int32) then (w75 - (1 : Int64)) else xc), (if_neg c91).symm, fun t kt => s92 _ (j102 _ (kt))⟩
                  exact ⟨(if (xs &&& (7 : Int32)) = (5 : Int32) then (w74 + (1 : Int64)) else (if (xs &&& (7 : Int32)) = (6 : Int32) then (w75 - (1 : Int64)) else xc)), (if_neg c89).symm, fun t kt => s90 _ (j110 _ (kt))⟩
              exact ⟨(if (xs &&& (7 : Int32)) = (4 : Int32) then (w75 + (1 : Int64)) else (if (xs &&& (7 : Int32)) = (5 : Int32) then (w74 + (1 : Int64)) else (if (xs &&& (7 : Int32)) = (6 : Int32) then (w75 - (1 : Int64)) else xc))), (if_neg c87).symm, fun t kt => s88 _ (j118 _ (kt))⟩
          exact ⟨(if (xs &&& (7 : Int32)) = (3 : Int32) then (w74 - (1 : Int64)) else (if (xs &&& (7 : Int32)) = (4 : Int32) then (w75 + (1 : Int64)) else (if (xs &&& (7 : Int32)) = (5 : Int32) then (w74 + (1 : Int64)) else (if (xs &&& (7 : Int32)) = (6 : Int32) then (w75 - (1 : Int64)) else xc)))), (if_neg c85).symm, fun t kt => s86 _ (j126 _ (kt))⟩
      exact ⟨(if (xs &&& (7 : Int32)) = (2 : Int32) then w75 else (if (xs &&& (7 : Int32)) = (3 : Int32) then (w74 - (1 : Int64)) else (if (xs &&& (7 : Int32)) = (4 : Int32) then (w75 + (1 : Int64)) else (if (xs &&& (7 : Int32)) = (5 : Int32) then (w74 + (1 : Int64)) else (if (xs &&& (7 : Int32)) = (6 : Int32) then (w75 - (1 : Int64)) else xc))))), (if_neg c83).symm, fun t kt => s84 _ (j134 _ (kt))⟩
  obtain ⟨T143, h143, X143, e143, E143, A143, D143, -, st143⟩ := newO X78 hx hZ hown (hw _ (List.mem_of_getElem? (i := 0) rfl)) (hw _ (List.mem_of_getElem? (i := 1) rfl)) (hw _ (List.mem_of_getElem? (i := 2) rfl)) e79 (g := (mkF m 126 #[.val (.long xa), .second, .val (.long xb), .second, .val (.long xc), .second, .val (.int xs), .val (.long w74), .second, .val (.long w75), .second, .val (.int (xs &&& (7 : Int32))), .val (.long w136), .second, .unset, .unset, .unset] [])) rfl (hb hby at_126) (by decide) (by decide)
  obtain ⟨b143, g143⟩ : ∃ z, z = h0.size := ⟨_, rfl⟩
  rw [← g143] at A143 D143 st143
  have gn143 : n0 ≤ b143 := Nat.le_trans Z0 (Nat.le_of_eq g143.symm)
  have Zs143 : n0 ≤ h143.size := Nat.le_trans Z0 E143.1
  have fF144 : Fld Z h143 b143 "com/example/rangewell/rangewell/model/TimeRange" "oldest" "J" (.long (0 : Int64)) := D143 (Or.inr (hw _ (List.mem_of_getElem? (i := 15) rfl))) (ty := .long) (by decide)
  have fF145 : Fld Z h143 b143 "com/example/rangewell/rangewell/model/TimeRange" "newest" "J" (.long (0 : Int64)) := D143 (Or.inr (hw _ (List.mem_of_getElem? (i := 17) rfl))) (ty := .long) (by decide)
  have s146 : ∀ t, Steps p.tables e below (T143.setTop (mkF m 134 #[.val (.long xa), .second, .val (.long xb), .second, .val (.long xc), .second, .val (.int xs), .val (.long w74), .second, .val (.long w75), .second, .val (.int (xs &&& (7 : Int32))), .val (.long w136), .second, .unset, .unset, .unset] [(.long w75), (.long w74), (.ref b143), (.ref b143)])) t → Steps p.tables e below (T143.setTop (mkF m 129 #[.val (.long xa), .second, .val (.long xb), .second, .val (.long xc), .second, .val (.int xs), .val (.long w74), .second, .val (.long w75), .second, .val (.int (xs &&& (7 : Int32))), .val (.long w136), .second, .unset, .unset, .unset] [(.ref b143)])) t := by
    intro t kt
    refine XS.dup X143.here hx rfl (hb hby at_129) rfl rfl ?_
    show Steps p.tables e below (T143.setTop (mkF m 130 #[.val (.long xa), .second, .val (.long xb), .second, .val (.long xc), .second, .val (.int xs), .val (.long w74), .second, .val (.long w75), .second, .val (.int (xs &&& (7 : Int32))), .val (.long w136), .second, .unset, .unset, .unset] [(.ref b143), (.ref b143)])) t
    refine XS.lload X143.here hx rfl (hb hby at_130) rfl ?_
    show Steps p.tables e below (T143.setTop (mkF m 132 #[.val (.long xa), .second, .val (.long xb), .second, .val (.long xc), .second, .val (.int xs), .val (.long w74), .second, .val (.long w75), .second, .val (.int (xs &&& (7 : Int32))), .val (.long w136), .second, .unset, .unset, .unset] [(.long w74), (.ref b143), (.ref b143)])) t
    refine XS.lload X143.here hx rfl (hb hby at_132) rfl ?_
    exact kt
  obtain ⟨_, _, ⟨T147, L147, k147, n147⟩, -, X147, ⟨Lc147, hQ147, l147, y147, z147⟩, st147⟩ := X143.specialBack hx (y := (⟨"com/example/rangewell/rangewell/model/TimeRange", "<init>", "(JJ)V"⟩ : MethodName)) rfl hown (mvT hZ (hw _ (List.mem_of_getElem? (i := 3) rfl))) (mvT hZ (hw _ (List.mem_of_getElem? (i := 4) rfl))) (mvT hZ (hw _ (List.mem_of_getElem? (i := 5) rfl))) (by decide) (backOf (W := 1) (rm2 l Z a0 hw [] b143 w74 w75 h143 n0 Zs143 A143 fF144 fF145 gn143) hZ (hw _ (List.mem_of_getElem? (i := 5) rfl)) (hw _ (List.mem_of_getElem? (i := 2) rfl)) (by decide) (by decide)) (g := (mkF m 134 #[.val (.long xa), .second, .val (.long xb), .second, .val (.long xc), .second, .val (.int xs), .val (.long w74), .second, .val (.long w75), .second, .val (.int (xs &&& (7 : Int32))), .val (.long w136), .second, .unset, .unset, .unset] [(.long w75), (.long w74), (.ref b143), (.ref b143)])) rfl (by rw [hml]; rfl) (Steps.refl _) (a := b143) (argsL := [(.long w74), (.long w75)]) (rest := [(.ref b143)]) (lenOf pd_oJJcV rfl) rfl (by show 2 * 0 + _ ≤ _; exact Nat.le_of_eq rfl) (hb hby at_134) (fun _ _ => ⟨rfl, e143, (by decide : 1 + 0 ≤ _), (by decide : 2 + 0 ≤ _)⟩)
  dsimp only [Pt.U, Pt.locs, Pt.cells, Pt.slots] at X147 l147 y147 z147 st147 hQ147
  subst l147 y147 z147
  obtain ⟨rfl, N147q, Kc147, fE148, fF149, fF150⟩ := hQ147
  have N147 := Fr.app N80 N147q
  have Zs147 : n0 ≤ T147.heap.size := Nat.le_trans Zs143 Kc147.1
  have s151 : ∀ t, Steps p.tables e below (T147.setTop (mkF m 143 #[.val (.long xa), .second, .val (.long xb), .second, .val (.long xc), .second, .val (.int xs), .val (.long w74), .second, .val (.long w75), .second, .val (.int (xs &&& (7 : Int32))), .val (.long w136), .second, .val (.ref b143), .unset, .unset] [(.long w136), (.ref b143)])) t → Steps p.tables e below (T147.setTop (mkF m 137 #[.val (.long xa), .second, .val (.long xb), .second, .val (.long xc), .second, .val (.int xs), .val (.long w74), .second, .val (.long w75), .second, .val (.int (xs &&& (7 : Int32))), .val (.long w136), .second, .unset, .unset, .unset] [(.ref b143)])) t := by
    intro t kt
    refine XS.astore X147.here hx rfl (hb hby at_137) rfl rfl (l' := #[.val (.long xa), .second, .val (.long xb), .second, .val (.long xc), .second, .val (.int xs), .val (.long w74), .second, .val (.long w75), .second, .val (.int (xs &&& (7 : Int32))), .val (.long w136), .second, .val (.ref b143), .unset, .unset]) rfl ?_
    show Steps p.tables e below (T147.setTop (mkF m 139 #[.val (.long xa), .second, .val (.long xb), .second, .val (.long xc), .second, .val (.int xs), .val (.long w74), .second, .val (.long w75), .second, .val (.int (xs &&& (7 : Int32))), .val (.long w136), .second, .val (.ref b143), .unset, .unset] [])) t
    refine XS.aload X147.here hx rfl (hb hby at_139) rfl rfl ?_
    show Steps p.tables e below (T147.setTop (mkF m 141 #[.val (.long xa), .second, .val (.long xb), .second, .val (.long xc), .second, .val (.int xs), .val (.long w74), .second, .val (.long w75), .second, .val (.int (xs &&& (7 : Int32))), .val (.long w136), .second, .val (.ref b143), .unset, .unset] [(.ref b143)])) t
    refine XS.lload X147.here hx rfl (hb hby at_141) rfl ?_
    exact kt
  obtain ⟨cq152, kq152, qa152, qb152, qc152⟩ := isOf hZ rfl fE148
  obtain ⟨_, _, ⟨T152, L152, k152, n152⟩, -, X152, ⟨Lc152, hQ152, l152, y152, z152⟩, st152⟩ := X147.virtualBack hx (y := (⟨"com/example/rangewell/rangewell/model/TimeRange", "contains", "(J)Z"⟩ : MethodName)) (z := (⟨"com/example/rangewell/rangewell/model/TimeRange", "contains", "(J)Z"⟩ : MethodName)) hown (mvT hZ (hw _ (List.mem_of_getElem? (i := 18) rfl))) (mvT hZ (hw _ (List.mem_of_getElem? (i := 19) rfl))) (notFace_of_selects (args := #[]) (mvT hZ (hw _ (List.mem_of_getElem? (i := 21) rfl)))) (mvT hZ (hw _ (List.mem_of_getElem? (i := 21) rfl))) (mvT hZ (hw _ (List.mem_of_getElem? (i := 20) rfl))) (by decide) (backOf (W := 0) (rm3 l Z a0 hw [] b143 w74 w75 w136 T147.heap n0 Zs147 fF149 fF150) hZ (hw _ (List.mem_of_getElem? (i := 22) rfl)) (hw _ (List.mem_of_getElem? (i := 2) rfl)) (by decide) (by decide)) qa152 qc152 (g := (mkF m 143 #[.val (.long xa), .second, .val (.long xb), .second, .val (.long xc), .second, .val (.int xs), .val (.long w74), .second, .val (.long w75), .second, .val (.int (xs &&& (7 : Int32))), .val (.long w136), .second, .val (.ref b143), .unset, .unset] [(.long w136), (.ref b143)])) rfl (by rw [hml]; rfl) (Steps.refl _) (argsL := [(.long w136)]) (rest := []) (lenOf pd_oJcZ rfl) rfl (by show 2 * 0 + _ ≤ _; exact Nat.le_of_eq rfl) (hb hby at_143) (fun _ _ => ⟨rfl, rfl, (by decide : 1 + 0 ≤ _), (by decide : 2 + 0 ≤ _)⟩)
  dsimp only [Pt.U, Pt.locs, Pt.cells, Pt.slots] at X152 l152 y152 z152 st152 hQ152
  subst l152 y152 z152
  obtain ⟨rfl, N152q, e152q⟩ := hQ152
  have N152 := Fr.app N147 N152q
  have s153 : ∀ t, Steps p.tables e below (T152.setTop (mkF m 153 #[.val (.long xa), .second, .val (.long xb), .second, .val (.long xc), .second, .val (.int xs), .val (.long w74), .second, .val (.long w75), .second, .val (.int (xs &&& (7 : Int32))), .val (.long w136), .second, .val (.ref b143), .val (.int (fcont w74 w75 w136)), .unset] [(.int (lcmpW w74 w75))])) t → Steps p.tables e below (T152.setTop (mkF m 146 #[.val (.long xa), .second, .val (.long xb), .second, .val (.long xc), .second, .val (.int xs), .val (.long w74), .second, .val (.long w75), .second, .val (.int (xs &&& (7 : Int32))), .val (.long w136), .second, .val (.ref b143), .unset, .unset] [(.int (fcont w74 w75 w136))])) t := by
    intro t kt
    refine XS.istore X152.here hx rfl (hb hby at_146) rfl (l' := #[.val (.long xa), .second, .val (.long xb), .second, .val (.long xc), .second, .val (.int xs), .val (.long w74), .second, .val (.long w75), .second, .val (.int (xs &&& (7 : Int32))), .val (.long w136), .second, .val (.ref b143), .val (.int (fcont w74 w75 w136)), .unset]) rfl ?_
    show Steps p.tables e below (T152.setTop (mkF m 148 #[.val (.long xa), .second, .val (.long xb), .second, .val (.long xc), .second, .val (.int xs), .val (.long w74), .second, .val (.long w75), .second, .val (.int (xs &&& (7 : Int32))), .val (.long w136), .second, .val (.ref b143), .val (.int (fcont w74 w75 w136)), .unset] [])) t
    refine XS.lload X152.here hx rfl (hb hby at_148) rfl ?_
    show Steps p.tables e below (T152.setTop (mkF m 150 #[.val (.long xa), .second, .val (.long xb), .second, .val (.long xc), .second, .val (.int xs), .val (.long w74), .second, .val (.long w75), .second, .val (.int (xs &&& (7 : Int32))), .val (.long w136), .second, .val (.ref b143), .val (.int (fcont w74 w75 w136)), .unset] [(.long w74)])) t
    refine XS.lload X152.here hx rfl (hb hby at_150) rfl ?_
    show Steps p.tables e below (T152.setTop (mkF m 152 #[.val (.long xa), .second, .val (.long xb), .second, .val (.long xc), .second, .val (.int xs), .val (.long w74), .second, .val (.long w75), .second, .val (.int (xs &&& (7 : Int32))), .val (.long w136), .second, .val (.ref b143), .val (.int (fcont w74 w75 w136)), .unset] [(.long w75), (.long w74)])) t
    refine XS.lcmp X152.here hx rfl (hb hby at_152) rfl ?_
    exact kt
  obtain ⟨T172, lc173, w171, X174, e175, N176, hw171, j177⟩ : ∃ (T172 : State) (lc173 : List Loc) (w171 : Int32), Stand p l e room_1 s m #[(.long xa), (.long xb), (.long xc), (.int xs)] below meth c T172 lc173 1 2 ∧ T172.heap = T147.heap ∧ Fr n0 lc173 ∧ w171 = (if w75 < w74 then (0 : Int32) else (if (fmin (fmax w136 w74) w75) = w136 then (1 : Int32) else (0 : Int32))) ∧ ∀ t, Steps p.tables e below (T172.setTop (mkF m 179 #[.val (.long xa), .second, .val (.long xb), .second, .val (.long xc), .second, .val (.int xs), .val (.long w74), .second, .val (.long w75), .second, .val (.int (xs &&& (7 : Int32))), .val (.long w136), .second, .val (.ref b143), .val (.int (fcont w74 w75 w136)), .unset] [(.int w171)])) t → Steps p.tables e below (T152.setTop (mkF m 153 #[.val (.long xa), .second, .val (.long xb), .second, .val (.long xc), .second, .val (.int xs), .val (.long w74), .second, .val (.long w75), .second, .val (.int (xs &&& (7 : Int32))), .val (.long w136), .second, .val (.ref b143), .val (.int (fcont w74 w75 w136)), .unset] [(.int (lcmpW w74 w75))])) t := by
    by_cases c154 : w75 < w74
    ·
      have s155 : ∀ t, Steps p.tables e below (T152.setTop (mkF m 179 #[.val (.long xa), .second, .val (.long xb), .second, .val (.long xc), .second, .val (.int xs), .val (.long w74), .second, .val (.long w75), .second, .val (.int (xs &&& (7 : Int32))), .val (.long w136), .second, .val (.ref b143), .val (.int (fcont w74 w75 w136)), .unset] [(.int (0 : Int32))])) t → Steps p.tables e below (T152.setTop (mkF m 153 #[.val (.long xa), .second, .val (.long xb), .second, .val (.long xc), .second, .val (.int xs), .val (.long w74), .second, .val (.long w75), .second, .val (.int (xs &&& (7 : Int32))), .val (.long w136), .second, .val (.ref b143), .val (.int (fcont w74 w75 w136)), .unset] [(.int (lcmpW w74 w75))])) t := by
        intro t kt
        refine XS.ifYes X152.here hx rfl (pc0 := 153) (pc' := 178) rfl (hb hby at_153) rfl ((if0 _ _).trans (tlt ((lw_gt _ _).mpr c154)).2.2.1) (by decide) (by decide) ?_
        show Steps p.tables e below (T152.setTop (mkF m 178 #[.val (.long xa), .second, .val (.long xb), .second, .val (.long xc), .second, .val (.int xs), .val (.long w74), .second, .val (.long w75), .second, .val (.int (xs &&& (7 : Int32))), .val (.long w136), .second, .val (.ref b143), .val (.int (fcont w74 w75 w136)), .unset] [])) t
        refine XS.iconst X152.here hx rfl (hb hby at_178) ?_
        exact kt
      exact ⟨T152, _, (0 : Int32), X152, e152q, N152, (if_pos c154).symm, fun t kt => s155 _ (kt)⟩
    ·
      have s156 : ∀ t, Steps p.tables e below (T152.setTop (mkF m 160 #[.val (.long xa), .second, .val (.long xb), .second, .val (.long xc), .second, .val (.int xs), .val (.long w74), .second, .val (.long w75), .second, .val (.int (xs &&& (7 : Int32))), .val (.long w136), .second, .val (.ref b143), .val (.int (fcont w74 w75 w136)), .unset] [(.long w74), (.long w136)])) t → Steps p.tables e below (T152.setTop (mkF m 153 #[.val (.long xa), .second, .val (.long xb), .second, .val (.long xc), .second, .val (.int xs), .val (.long w74), .second, .val (.long w75), .second, .val (.int (xs &&& (7 : Int32))), .val (.long w136), .second, .val (.ref b143), .val (.int (fcont w74 w75 w136)), .unset] [(.int (lcmpW w74 w75))])) t := by
        intro t kt
        refine XS.ifNo X152.here hx rfl (hb hby at_153) rfl ((if0 _ _).trans (flt (mt (lw_gt _ _).mp c154)).2.2.1) ?_
        show Steps p.tables e below (T152.setTop (mkF m 156 #[.val (.long xa), .second, .val (.long xb), .second, .val (.long xc), .second, .val (.int xs), .val (.long w74), .second, .val (.long w75), .second, .val (.int (xs &&& (7 : Int32))), .val (.long w136), .second, .val (.ref b143), .val (.int (fcont w74 w75 w136)), .unset] [])) t
        refine XS.lload X152.here hx rfl (hb hby at_156) rfl ?_
        show Steps p.tables e below (T152.setTop (mkF m 158 #[.val (.long xa), .second, .val (.long xb), .second, .val (.long xc), .second, .val (.int xs), .val (.long w74), .second, .val (.long w75), .second, .val (.int (xs &&& (7 : Int32))), .val (.long w136), .second, .val (.ref b143), .val (.int (fcont w74 w75 w136)), .unset] [(.long w136)])) t
        refine XS.lload X152.here hx rfl (hb hby at_158) rfl ?_
        exact kt
      obtain ⟨_, _, ⟨T157, L157, k157, n157⟩, -, X157, ⟨Lc157, hQ157, l157, y157, z157⟩, st157⟩ := Jvm.LawKit.callS X152 hx (y := (⟨"java/lang/Math", "max", "(JJ)J"⟩ : MethodName)) hown (mvT hZ (hw _ (List.mem_of_getElem? (i := 33) rfl))) (mvT hZ (hw _ (List.mem_of_getElem? (i := 34) rfl))) (mvT hZ (hw _ (List.mem_of_getElem? (i := 35) rfl))) (mvT hZ (hw _ (List.mem_of_getElem? (i := 36) rfl))) (by decide) (backOf (W := 0) (rm6 l Z a0 hw [] w136 w74 T147.heap n0 Zs147 ) hZ (hw _ (List.mem_of_getElem? (i := 36) rfl)) (hw _ (List.mem_of_getElem? (i := 35) rfl)) (by decide) (by decide)) (g := (mkF m 160 #[.val (.long xa), .second, .val (.long xb), .second, .val (.long xc), .second, .val (.int xs), .val (.long w74), .second, .val (.long w75), .second, .val (.int (xs &&& (7 : Int32))), .val (.long w136), .second, .val (.ref b143), .val (.int (fcont w74 w75 w136)), .unset] [(.long w74), (.long w136)])) rfl (by rw [hml]; rfl) (argsL := [(.long w136), (.long w74)]) (rest := []) (lenOf pd_oJJcJ rfl) rfl (by show 2 * 0 + _ ≤ _; exact Nat.le_of_eq rfl) (hb hby at_160) (fun _ _ => ⟨rfl, e152q, (by decide : 1 + 0 ≤ _), (by decide : 2 + 0 ≤ _)⟩)
      dsimp only [Pt.U, Pt.locs, Pt.cells, Pt.slots] at X157 l157 y157 z157 st157 hQ157
      subst l157 y157 z157
      obtain ⟨rfl, N157q, e157q⟩ := hQ157
      have N157 := Fr.app N152 N157q
      have s158 : ∀ t, Steps p.tables e below (T157.setTop (mkF m 165 #[.val (.long xa), .second, .val (.long xb), .second, .val (.long xc), .second, .val (.int xs), .val (.long w74), .second, .val (.long w75), .second, .val (.int (xs &&& (7 : Int32))), .val (.long w136), .second, .val (.ref b143), .val (.int (fcont w74 w75 w136)), .unset] [(.long w75), (.long (fmax w136 w74))])) t → Steps p.tables e below (T157.setTop (mkF m 163 #[.val (.long xa), .second, .val (.long xb), .second, .val (.long xc), .second, .val (.int xs), .val (.long w74), .second, .val (.long w75), .second, .val (.int (xs &&& (7 : Int32))), .val (.long w136), .second, .val (.ref b143), .val (.int (fcont w74 w75 w136)), .unset] [(.long (fmax w136 w74))])) t := by
        intro t kt
        refine XS.lload X157.here hx rfl (hb hby at_163) rfl ?_
        exact kt
      obtain ⟨_, _, ⟨T159, L159, k159, n159⟩, -, X159, ⟨Lc159, hQ159, l159, y159, z159⟩, st159⟩ := Jvm.LawKit.callS X157 hx (y := (⟨"java/lang/Math", "min", "(JJ)J"⟩ : MethodName)) hown (mvT hZ (hw _ (List.mem_of_getElem? (i := 37) rfl))) (mvT hZ (hw _ (List.mem_of_getElem? (i := 38) rfl))) (mvT hZ (hw _ (List.mem_of_getElem? (i := 35) rfl))) (mvT hZ (hw _ (List.mem_of_getElem? (i := 39) rfl))) (by decide) (backOf (W := 0) (rm7 l Z a0 hw [] (fmax w136 w74) w75 T147.heap n0 Zs147 ) hZ (hw _ (List.mem_of_getElem? (i := 39) rfl)) (hw _ (List.mem_of_getElem? (i := 35) rfl)) (by decide) (by decide)) (g := (mkF m 165 #[.val (.long xa), .second, .val (.long xb), .second, .val (.long xc), .second, .val (.int xs), .val (.long w74), .second, .val (.long w75), .second, .val (.int (xs &&& (7 : Int32))), .val (.long w136), .second, .val (.ref b143), .val (.int (fcont w74 w75 w136)), .unset] [(.long w75), (.long (fmax w136 w74))])) rfl (by rw [hml]; rfl) (argsL := [(.long (fmax w136 w74)), (.long w75)]) (rest := []) (lenOf pd_oJJcJ rfl) rfl (by show 2 * 0 + _ ≤ _; exact Nat.le_of_eq rfl) (hb hby at_165) (fun _ _ => ⟨rfl, e157q, (by decide : 1 + 0 ≤ _), (by decide : 2 + 0 ≤ _)⟩)
      dsimp only [Pt.U, Pt.locs, Pt.cells, Pt.slots] at X159 l159 y159 z159 st159 hQ159
      subst l159 y159 z159
      obtain ⟨rfl, N159q, e159q⟩ := hQ159
      have N159 := Fr.app N157 N159q
      have s160 : ∀ t, Steps p.tables e below (T159.setTop (mkF m 171 #[.val (.long xa), .second, .val (.long xb), .second, .val (.long xc), .second, .val (.int xs), .val (.long w74), .second, .val (.long w75), .second, .val (.int (xs &&& (7 : Int32))), .val (.long w136), .second, .val (.ref b143), .val (.int (fcont w74 w75 w136)), .unset] [(.int (lcmpW (fmin (fmax w136 w74) w75) w136))])) t → Steps p.tables e below (T159.setTop (mkF m 168 #[.val (.long xa), .second, .val (.long xb), .second, .val (.long xc), .second, .val (.int xs), .val (.long w74), .second, .val (.long w75), .second, .val (.int (xs &&& (7 : Int32))), .val (.long w136), .second, .val (.ref b143), .val (.int (fcont w74 w75 w136)), .unset] [(.long (fmin (fmax w136 w74) w75))])) t := by
        intro t kt
        refine XS.lload X159.here hx rfl (hb hby at_168) rfl ?_
        show Steps p.tables e below (T159.setTop (mkF m 170 #[.val (.long xa), .second, .val (.long xb), .second, .val (.long xc), .second, .val (.int xs), .val (.long w74), .second, .val (.long w75), .second, .val (.int (xs &&& (7 : Int32))), .val (.long w136), .second, .val (.ref b143), .val (.int (fcont w74 w75 w136)), .unset] [(.long w136), (.long (fmin (fmax w136 w74) w75))])) t
        refine XS.lcmp X159.here hx rfl (hb hby at_170) rfl ?_
        exact kt
      obtain ⟨w164, rfl, j170⟩ : ∃ (w164 : Int32), w164 = (if (fmin (fmax w136 w74) w75) = w136 then (1 : Int32) else (0 : Int32)) ∧ ∀ t, Steps p.tables e below (T159.setTop (mkF m 179 #[.val (.long xa), .second, .val (.long xb), .second, .val (.long xc), .second, .val (.int xs), .val (.long w74), .second, .val (.long w75), .second, .val (.int (xs &&& (7 : Int32))), .val (.long w136), .second, .val (.ref b143), .val (.int (fcont w74 w75 w136)), .unset] [(.int w164)])) t → Steps p.tables e below (T159.setTop (mkF m 171 #[.val (.long xa), .second, .val (.long xb), .second, .val (.long xc), .second, .val (.int xs), .val (.long w74), .second, .val (.long w75), .second, .val (.int (xs &&& (7 : Int32))), .val (.long w136), .second, .val (.ref b143), .val (.int (fcont w74 w75 w136)), .unset] [(.int (lcmpW (fmin (fmax w136 w74) w75) w136))])) t := by
        by_cases c161 : (fmin (fmax w136 w74) w75) = w136
        ·
          have s163 : ∀ t, Steps p.tables e below (T159.setTop (mkF m 179 #[.val (.long xa), .second, .val (.long xb), .second, .val (.long xc), .second, .val (.int xs), .val (.long w74), .second, .val (.long w75), .second, .val (.int (xs &&& (7 : Int32))), .val (.long w136), .second, .val (.ref b143), .val (.int (fcont w74 w75 w136)), .unset] [(.int (1 : Int32))])) t → Steps p.tables e below (T159.setTop (mkF m 171 #[.val (.long xa), .second, .val (.long xb), .second, .val (.long xc), .second, .val (.int xs), .val (.long w74), .second, .val (.long w75), .second, .val (.int (xs &&& (7 : Int32))), .val (.long w136), .second, .val (.ref b143), .val (.int (fcont w74 w75 w136)), .unset] [(.int (lcmpW (fmin (fmax w136 w74) w75) w136))])) t := by
            intro t kt
            refine XS.ifNo X159.here hx rfl (hb hby at_171) rfl ((if0 _ _).trans (teq ((lw_eq _ _).mpr c161)).2) ?_
            show Steps p.tables e below (T159.setTop (mkF m 174 #[.val (.long xa), .second, .val (.long xb), .second, .val (.long xc), .second, .val (.int xs), .val (.long w74), .second, .val (.long w75), .second, .val (.int (xs &&& (7 : Int32))), .val (.long w136), .second, .val (.ref b143), .val (.int (fcont w74 w75 w136)), .unset] [])) t
            refine XS.iconst X159.here hx rfl (hb hby at_174) ?_
            show Steps p.tables e below (T159.setTop (mkF m 175 #[.val (.long xa), .second, .val (.long xb), .second, .val (.long xc), .second, .val (.int xs), .val (.long w74), .second, .val (.long w75), .second, .val (.int (xs &&& (7 : Int32))), .val (.long w136), .second, .val (.ref b143), .val (.int (fcont w74 w75 w136)), .unset] [(.int (1 : Int32))])) t
            refine XS.goto X159.here hx rfl (pc0 := 175) (pc' := 179) rfl (hb hby at_175) (by decide) (by decide) ?_
            exact kt
          exact ⟨(1 : Int32), (if_pos c161).symm, fun t kt => s163 _ (kt)⟩
        ·
          have s162 : ∀ t, Steps p.tables e below (T159.setTop (mkF m 179 #[.val (.long xa), .second, .val (.long xb), .second, .val (.long xc), .second, .val (.int xs), .val (.long w74), .second, .val (.long w75), .second, .val (.int (xs &&& (7 : Int32))), .val (.long w136), .second, .val (.ref b143), .val (.int (fcont w74 w75 w136)), .unset] [(.int (0 : Int32))])) t → Steps p.tables e below (T159.setTop (mkF m 171 #[.val (.long xa), .second, .val (.long xb), .second, .val (.long xc), .second, .val (.int xs), .val (.long w74), .second, .val (.long w75), .second, .val (.int (xs &&& (7 : Int32))), .val (.long w136), .second, .val (.ref b143), .val (.int (fcont w74 w75 w136)), .unset] [(.int (lcmpW (fmin (fmax w136 w74) w75) w136))])) t := by
            intro t kt
            refine XS.ifYes X159.here hx rfl (pc0 := 171) (pc' := 178) rfl (hb hby at_171) rfl ((if0 _ _).trans (feq (mt (lw_eq _ _).mp c161)).2) (by decide) (by decide) ?_
            show Steps p.tables e below (T159.setTop (mkF m 178 #[.val (.long xa), .second, .val (.long xb), .second, .val (.long xc), .second, .val (.int xs), .val (.long w74), .second, .val (.long w75), .second, .val (.int (xs &&& (7 : Int32))), .val (.long w136), .second, .val (.ref b143), .val (.int (fcont w74 w75 w136)), .unset] [])) t
            refine XS.iconst X159.here hx rfl (hb hby at_178) ?_
            exact kt
          exact ⟨(0 : Int32), (if_neg c161).symm, fun t kt => s162 _ (kt)⟩
      exact ⟨T159, _, (if (fmin (fmax w136 w74) w75) = w136 then (1 : Int32) else (0 : Int32)), X159, e159q, N159, (if_neg c154).symm, fun t kt => s156 _ (st157 _ (s158 _ (st159 _ (s160 _ (j170 _ (kt))))))⟩
  have s178 : ∀ t, Steps p.tables e below (T172.setTop (mkF m 185 #[.val (.long xa), .second, .val (.long xb), .second, .val (.long xc), .second, .val (.int xs), .val (.long w74), .second, .val (.long w75), .second, .val (.int (xs &&& (7 : Int32))), .val (.long w136), .second, .val (.ref b143), .val (.int (fcont w74 w75 w136)), .val (.int w171)] [(.int w171), (.int (fcont w74 w75 w136))])) t → Steps p.tables e below (T172.setTop (mkF m 179 #[.val (.long xa), .second, .val (.long xb), .second, .val (.long xc), .second, .val (.int xs), .val (.long w74), .second, .val (.long w75), .second, .val (.int (xs &&& (7 : Int32))), .val (.long w136), .second, .val (.ref b143), .val (.int (fcont w74 w75 w136)), .unset] [(.int w171)])) t := by
    intro t kt
    refine XS.istore X174.here hx rfl (hb hby at_179) rfl (l' := #[.val (.long xa), .second, .val (.long xb), .second, .val (.long xc), .second, .val (.int xs), .val (.long w74), .second, .val (.long w75), .second, .val (.int (xs &&& (7 : Int32))), .val (.long w136), .second, .val (.ref b143), .val (.int (fcont w74 w75 w136)), .val (.int w171)]) rfl ?_
    show Steps p.tables e below (T172.setTop (mkF m 181 #[.val (.long xa), .second, .val (.long xb), .second, .val (.long xc), .second, .val (.int xs), .val (.long w74), .second, .val (.long w75), .second, .val (.int (xs &&& (7 : Int32))), .val (.long w136), .second, .val (.ref b143), .val (.int (fcont w74 w75 w136)), .val (.int w171)] [])) t
    refine XS.iload X174.here hx rfl (hb hby at_181) rfl ?_
    show Steps p.tables e below (T172.setTop (mkF m 183 #[.val (.long xa), .second, .val (.long xb), .second, .val (.long xc), .second, .val (.int xs), .val (.long w74), .second, .val (.long w75), .second, .val (.int (xs &&& (7 : Int32))), .val (.long w136), .second, .val (.ref b143), .val (.int (fcont w74 w75 w136)), .val (.int w171)] [(.int (fcont w74 w75 w136))])) t
    refine XS.iload X174.here hx rfl (hb hby at_183) rfl ?_
    exact kt
  have hfin : (fcont w74 w75 w136) = w171 := own_plain _ _ _ _ hw171
  have s179 : ∀ t, Steps p.tables e below (T172.setTop (mkF m 190 #[.val (.long xa), .second, .val (.long xb), .second, .val (.long xc), .second, .val (.int xs), .val (.long w74), .second, .val (.long w75), .second, .val (.int (xs &&& (7 : Int32))), .val (.long w136), .second, .val (.ref b143), .val (.int (fcont w74 w75 w136)), .val (.int w171)] [(.ref b143)])) t → Steps p.tables e below (T172.setTop (mkF m 185 #[.val (.long xa), .second, .val (.long xb), .second, .val (.long xc), .second, .val (.int xs), .val (.long w74), .second, .val (.long w75), .second, .val (.int (xs &&& (7 : Int32))), .val (.long w136), .second, .val (.ref b143), .val (.int (fcont w74 w75 w136)), .val (.int w171)] [(.int w171), (.int (fcont w74 w75 w136))])) t := by
    intro t kt
    refine XS.icmpNo X174.here hx rfl (hb hby at_185) rfl (teq hfin).2 ?_
    show Steps p.tables e below (T172.setTop (mkF m 188 #[.val (.long xa), .second, .val (.long xb), .second, .val (.long xc), .second, .val (.int xs), .val (.long w74), .second, .val (.long w75), .second, .val (.int (xs &&& (7 : Int32))), .val (.long w136), .second, .val (.ref b143), .val (.int (fcont w74 w75 w136)), .val (.int w171)] [])) t
    refine XS.aload X174.here hx rfl (hb hby at_188) rfl rfl ?_
    exact kt
  obtain ⟨cq180, kq180, qa180, qb180, qc180⟩ := isOf hZ e175 fE148
  obtain ⟨_, _, ⟨T180, L180, k180, n180⟩, -, X180, ⟨Lc180, hQ180, l180, y180, z180⟩, st180⟩ := X174.virtualBack hx (y := (⟨"com/example/rangewell/rangewell/model/TimeRange", "oldest", "()J"⟩ : MethodName)) (z := (⟨"com/example/rangewell/rangewell/model/TimeRange", "oldest", "()J"⟩ : MethodName)) hown (mvT hZ (hw _ (List.mem_of_getElem? (i := 23) rfl))) (mvT hZ (hw _ (List.mem_of_getElem? (i := 24) rfl))) (notFace_of_selects (args := #[]) (mvT hZ (hw _ (List.mem_of_getElem? (i := 26) rfl)))) (mvT hZ (hw _ (List.mem_of_getElem? (i := 26) rfl))) (mvT hZ (hw _ (List.mem_of_getElem? (i := 25) rfl))) (by decide) (backOf (W := 0) (rm4 l Z a0 hw [] b143 w74 T147.heap n0 Zs147 fF149) hZ (hw _ (List.mem_of_getElem? (i := 27) rfl)) (hw _ (List.mem_of_getElem? (i := 2) rfl)) (by decide) (by decide)) qa180 qc180 (g := (mkF m 190 #[.val (.long xa), .second, .val (.long xb), .second, .val (.long xc), .second, .val (.int xs), .val (.long w74), .second, .val (.long w75), .second, .val (.int (xs &&& (7 : Int32))), .val (.long w136), .second, .val (.ref b143), .val (.int (fcont w74 w75 w136)), .val (.int w171)] [(.ref b143)])) rfl (by rw [hml]; rfl) (Steps.refl _) (argsL := []) (rest := []) (lenOf pd_ocJ rfl) rfl (by show 2 * 0 + _ ≤ _; exact Nat.le_of_eq rfl) (hb hby at_190) (fun _ _ => ⟨rfl, e175, (by decide : 1 + 0 ≤ _), (by decide : 2 + 0 ≤ _)⟩)
  dsimp only [Pt.U, Pt.locs, Pt.cells, Pt.slots] at X180 l180 y180 z180 st180 hQ180
  subst l180 y180 z180
  obtain ⟨rfl, N180q, e180q⟩ := hQ180
  have N180 := Fr.app N176 N180q
  have s181 : ∀ t, Steps p.tables e below (T180.setTop (mkF m 201 #[.val (.long xa), .second, .val (.long xb), .second, .val (.long xc), .second, .val (.int xs), .val (.long w74), .second, .val (.long w75), .second, .val (.int (xs &&& (7 : Int32))), .val (.long w136), .second, .val (.ref b143), .val (.int (fcont w74 w75 w136)), .val (.int w171)] [(.ref b143)])) t → Steps p.tables e below (T180.setTop (mkF m 193 #[.val (.long xa), .second, .val (.long xb), .second, .val (.long xc), .second, .val (.int xs), .val (.long w74), .second, .val (.long w75), .second, .val (.int (xs &&& (7 : Int32))), .val (.long w136), .second, .val (.ref b143), .val (.int (fcont w74 w75 w136)), .val (.int w171)] [(.long w74)])) t := by
    intro t kt
    refine XS.lload X180.here hx rfl (hb hby at_193) rfl ?_
    show Steps p.tables e below (T180.setTop (mkF m 195 #[.val (.long xa), .second, .val (.long xb), .second, .val (.long xc), .second, .val (.int xs), .val (.long w74), .second, .val (.long w75), .second, .val (.int (xs &&& (7 : Int32))), .val (.long w136), .second, .val (.ref b143), .val (.int (fcont w74 w75 w136)), .val (.int w171)] [(.long w74), (.long w74)])) t
    refine XS.lcmp X180.here hx rfl (hb hby at_195) rfl ?_
    show Steps p.tables e below (T180.setTop (mkF m 196 #[.val (.long xa), .second, .val (.long xb), .second, .val (.long xc), .second, .val (.int xs), .val (.long w74), .second, .val (.long w75), .second, .val (.int (xs &&& (7 : Int32))), .val (.long w136), .second, .val (.ref b143), .val (.int (fcont w74 w75 w136)), .val (.int w171)] [(.int (lcmpW w74 w74))])) t
    refine XS.ifNo X180.here hx rfl (hb hby at_196) rfl ((if0 _ _).trans (teq ((lw_eq _ _).mpr rfl)).2) ?_
    show Steps p.tables e below (T180.setTop (mkF m 199 #[.val (.long xa), .second, .val (.long xb), .second, .val (.long xc), .second, .val (.int xs), .val (.long w74), .second, .val (.long w75), .second, .val (.int (xs &&& (7 : Int32))), .val (.long w136), .second, .val (.ref b143), .val (.int (fcont w74 w75 w136)), .val (.int w171)] [])) t
    refine XS.aload X180.here hx rfl (hb hby at_199) rfl rfl ?_
    exact kt
  obtain ⟨cq182, kq182, qa182, qb182, qc182⟩ := isOf hZ e180q fE148
  obtain ⟨_, _, ⟨T182, L182, k182, n182⟩, -, X182, ⟨Lc182, hQ182, l182, y182, z182⟩, st182⟩ := X180.virtualBack hx (y := (⟨"com/example/rangewell/rangewell/model/TimeRange", "newest", "()J"⟩ : MethodName)) (z := (⟨"com/example/rangewell/rangewell/model/TimeRange", "newest", "()J"⟩ : MethodName)) hown (mvT hZ (hw _ (List.mem_of_getElem? (i := 28) rfl))) (mvT hZ (hw _ (List.mem_of_getElem? (i := 29) rfl))) (notFace_of_selects (args := #[]) (mvT hZ (hw _ (List.mem_of_getElem? (i := 31) rfl)))) (mvT hZ (hw _ (List.mem_of_getElem? (i := 31) rfl))) (mvT hZ (hw _ (List.mem_of_getElem? (i := 30) rfl))) (by decide) (backOf (W := 0) (rm5 l Z a0 hw [] b143 w75 T147.heap n0 Zs147 fF150) hZ (hw _ (List.mem_of_getElem? (i := 32) rfl)) (hw _ (List.mem_of_getElem? (i := 2) rfl)) (by decide) (by decide)) qa182 qc182 (g := (mkF m 201 #[.val (.long xa), .second, .val (.long xb), .second, .val (.long xc), .second, .val (.int xs), .val (.long w74), .second, .val (.long w75), .second, .val (.int (xs &&& (7 : Int32))), .val (.long w136), .second, .val (.ref b143), .val (.int (fcont w74 w75 w136)), .val (.int w171)] [(.ref b143)])) rfl (by rw [hml]; rfl) (Steps.refl _) (argsL := []) (rest := []) (lenOf pd_ocJ rfl) rfl (by show 2 * 0 + _ ≤ _; exact Nat.le_of_eq rfl) (hb hby at_201) (fun _ _ => ⟨rfl, e180q, (by decide : 1 + 0 ≤ _), (by decide : 2 + 0 ≤ _)⟩)
  dsimp only [Pt.U, Pt.locs, Pt.cells, Pt.slots] at X182 l182 y182 z182 st182 hQ182
  subst l182 y182 z182
  obtain ⟨rfl, N182q, e182q⟩ := hQ182
  have N182 := Fr.app N180 N182q
  have s183 : ∀ t, Steps p.tables e below (T182.setTop (mkF m 215 #[.val (.long xa), .second, .val (.long xb), .second, .val (.long xc), .second, .val (.int xs), .val (.long w74), .second, .val (.long w75), .second, .val (.int (xs &&& (7 : Int32))), .val (.long w136), .second, .val (.ref b143), .val (.int (fcont w74 w75 w136)), .val (.int w171)] [(.int (1 : Int32))])) t → Steps p.tables e below (T182.setTop (mkF m 204 #[.val (.long xa), .second, .val (.long xb), .second, .val (.long xc), .second, .val (.int xs), .val (.long w74), .second, .val (.long w75), .second, .val (.int (xs &&& (7 : Int32))), .val (.long w136), .second, .val (.ref b143), .val (.int (fcont w74 w75 w136)), .val (.int w171)] [(.long w75)])) t := by
    intro t kt
    refine XS.lload X182.here hx rfl (hb hby at_204) rfl ?_
    show Steps p.tables e below (T182.setTop (mkF m 206 #[.val (.long xa), .second, .val (.long xb), .second, .val (.long xc), .second, .val (.int xs), .val (.long w74), .second, .val (.long w75), .second, .val (.int (xs &&& (7 : Int32))), .val (.long w136), .second, .val (.ref b143), .val (.int (fcont w74 w75 w136)), .val (.int w171)] [(.long w75), (.long w75)])) t
    refine XS.lcmp X182.here hx rfl (hb hby at_206) rfl ?_
    show Steps p.tables e below (T182.setTop (mkF m 207 #[.val (.long xa), .second, .val (.long xb), .second, .val (.long xc), .second, .val (.int xs), .val (.long w74), .second, .val (.long w75), .second, .val (.int (xs &&& (7 : Int32))), .val (.long w136), .second, .val (.ref b143), .val (.int (fcont w74 w75 w136)), .val (.int w171)] [(.int (lcmpW w75 w75))])) t
    refine XS.ifNo X182.here hx rfl (hb hby at_207) rfl ((if0 _ _).trans (teq ((lw_eq _ _).mpr rfl)).2) ?_
    show Steps p.tables e below (T182.setTop (mkF m 210 #[.val (.long xa), .second, .val (.long xb), .second, .val (.long xc), .second, .val (.int xs), .val (.long w74), .second, .val (.long w75), .second, .val (.int (xs &&& (7 : Int32))), .val (.long w136), .second, .val (.ref b143), .val (.int (fcont w74 w75 w136)), .val (.int w171)] [])) t
    refine XS.iconst X182.here hx rfl (hb hby at_210) ?_
    show Steps p.tables e below (T182.setTop (mkF m 211 #[.val (.long xa), .second, .val (.long xb), .second, .val (.long xc), .second, .val (.int xs), .val (.long w74), .second, .val (.long w75), .second, .val (.int (xs &&& (7 : Int32))), .val (.long w136), .second, .val (.ref b143), .val (.int (fcont w74 w75 w136)), .val (.int w171)] [(.int (1 : Int32))])) t
    refine XS.goto X182.here hx rfl (pc0 := 211) (pc' := 215) rfl (hb hby at_211) (by decide) (by decide) ?_
    exact kt
  obtain ⟨fs_, hr, hrun, hended, hW, hsame⟩ := X182.leave (v := some (.int (1 : Int32))) (fun h => by rw [Bd.returns] at h; cases h)
  refine ⟨_, _, pre0 _ (s66 _ (j81 _ (s82 _ (j142 _ (st143 _ (s146 _ (st147.trans (s151 _ (st152.trans (s153 _ (j177 _ (s178 _ (s179 _ (st180.trans (s181 _ (st182.trans (s183 _ (?_)))))))))))))))))), hrun, hended, _, _, rfl, ?_, ⟨_, rfl⟩, hW, hsame.mono (by decide) (by decide)⟩
  · show Steps p.tables e below (T182.setTop (mkF m 215 #[.val (.long xa), .second, .val (.long xb), .second, .val (.long xc), .second, .val (.int xs), .val (.long w74), .second, .val (.long w75), .second, .val (.int (xs &&& (7 : Int32))), .val (.long w136), .second, .val (.ref b143), .val (.int (fcont w74 w75 w136)), .val (.int w171)] [(.int (1 : Int32))])) _
    exact retN X182 hx (t := .boolean) Bd.returns (by simp) (hb hby at_215) hr
  · show Q0 Z xa xb xc xs h0 n0 _ T182.heap _
    rw [e182q]
    exact ⟨rfl, N182⟩
set_option maxRecDepth 65536 in
set_option maxHeartbeats 40000000 in
theorem comes_1 {Post : Tables → Env → Array Value → State → Outcome → State → Prop} (hpost : ∀ tb e args s v u, (limb_1_1.after args s (.returned v) u = true ∧ limb_1_2.after args s (.returned v) u = true ∧ True) → FrameEnd s (.returned v) u (Jvm.fieldLocs frame_1_writes args s ++ Jvm.arrayLocs frame_1_arrays args s ++ Jvm.staticLocs frame_1_statics s) 16 128 → Post tb e args s (.returned v) u) :
    ArmFor flags0 classFile x code maxLocals ret World_1 tables_1 room_1 Calls_1 rest_1 Pre_1 Post := by
  intro l hfl _ _ p e ha hc hk s m args below hf hA hF happ hP
  obtain ⟨hcalls, hrest, hpre⟩ := hP
  obtain ⟨-, -, -, hnamed, -, -, -, hat⟩ := (Spec.applies_iff hf).mp happ
  obtain ⟨hg, hn⟩ := and_e (Cond.before_iff.mp (show (Jvm.Cond.and given_1 narrow_1).before args s = true from hpre))
  obtain ⟨ha0, hb0⟩ := and_e hg
  obtain ⟨ha1, hb1⟩ := and_e hb0
  obtain ⟨ha2, hb2⟩ := and_e hb1
  obtain ⟨ha3, hb3⟩ := and_e hb2
  obtain ⟨w0, w1, w2, w3, rfl⟩ : ∃ w0 w1 w2 w3 : Value, args = #[w0, w1, w2, w3] := by
    have hs : args.size = 4 := by simpa [Cond.value, given_1] using ha0
    obtain ⟨L⟩ := args
    match L, hs with
    | [w0, w1, w2, w3], _ => exact ⟨w0, w1, w2, w3, rfl⟩
  have hw := fun d (hd : d ∈ tables_1) => atoms_spec (ws := Jvm.Cond.code x code maxLocals ret :: tables_1) hat d (List.mem_cons_of_mem _ hd)
  obtain ⟨i0, ei0⟩ := isL_v ha1
  obtain rfl : w0 = (.long i0) := Option.some.inj ei0
  obtain ⟨i1, ei1⟩ := isL_v ha2
  obtain rfl : w1 = (.long i1) := Option.some.inj ei1
  obtain ⟨i2, ei2⟩ := isL_v ha3
  obtain rfl : w2 = (.long i2) := Option.some.inj ei2
  obtain ⟨i3, ei3⟩ := is_v hb3
  obtain rfl : w3 = (.int i3) := Option.some.inj ei3
  obtain ⟨n, o, h1, h2, h3, _, L, rfl, ⟨rfl, N⟩, hq⟩ := rm0 l s _ hw tables_1 i0 i1 i2 i3 s.heap s.heap.size (Nat.le_refl _)  p e ha hc hk s m _ below hf ((Spec.applies_iff_loose hf).mp happ).1 ⟨rfl, State.Warmed39.refl s, rfl⟩ trivial
  refine ⟨n, _, h1, h2, h3, hpost _ _ _ _ _ _ ⟨Cond.after_iff.mpr rfl, Cond.after_iff.mpr (eq_i res_at (Term.int_eval (1)) rfl), trivial⟩ ⟨hq.1, hq.2.1, (hq.2.2.sift fun y hy => Or.inr (N y hy)).mono (by decide) (by decide)⟩⟩
theorem main_1_1 : Claimed_1_1 := comes_1 fun _ _ _ _ _ _ h hF => ⟨h.1, hF⟩
theorem main_1_2 : Claimed_1_2 := comes_1 fun _ _ _ _ _ _ h hF => ⟨h.2.1, hF⟩
end Jvm.Pilot.@@N@@
namespace Jvm.Pilot.@@N@@
open Jvm Jvm.ClassFile Sem Op Lib Jvm.Free Jvm.Stand Jvm.Pilot.@@N@@.Jvm.D
/-! MADE BY PROGRAM (witnessworld.py) out of the Statement's table words and the real class files: 11 classes; the members and pool entries that the words name. The judged class is class 1, her method 1. -/
namespace start1
open Jvm.ClassFile
def u (s : String) : CpInfo := .utf8 (stringToUtf16 s)
/-- a pool by its gaps: so many unusable entries, then the entry; so many at the end -/
def gap : Nat → List CpInfo → List CpInfo
  | 0, r => r
  | n + 1, r => .unusable :: gap n r
def poolList (es : List (Nat × CpInfo)) (last : Nat) : List CpInfo := es.foldr (fun e r => gap e.1 (e.2 :: r)) (gap last [])
def pool (es : List (Nat × CpInfo)) (last : Nat) : Array CpInfo := ⟨poolList es last⟩
def fileOf (pool : Array CpInfo) (this : Nat) (attrs : Array Attribute := #[]) (ms : Array MethodInfo := #[]) (fl : Nat := 33) (sup : Nat := 0) (ifs : Array Nat := #[]) (fds : Array FieldInfo := #[]) : ClassFile where
  minorVersion := 0
  majorVersion := 65
  constantPool := pool
  accessFlags := fl
  thisClass := this
  superClass := sup
  interfaces := ifs
  fields := fds
  methods := ms
  attributes := attrs
def plain (name : String) (sup : Option ClassId) : Class where
  name := name
  kind := .ordinary
  loader := none
  accessFlags := 33
  super := sup
  interfaces := #[]
  cf := none
  fields := #[]
  methods := #[]
  instanceTypes := #[]
  staticTypes := #[]
  resolved := #[]
  callSites := []
  init := .initialized
  statics := none
  mirror := none

def pool0 : Array CpInfo := pool [(5, u "<init>"), (0, u "()V"), (1, .class_ 10), (1, u "java/lang/Object")] 113

def k0c0 : Code := { maxStack := 0, maxLocals := 1, code := object_method_1_code, exceptionTable := #[], attributes := #[] }
def k0m0 : Method := { name := "<init>", desc := "()V", sig := { parameters := [], returnType := none }, accessFlags := 1, code := some k0c0 }
/-- java/lang/Object -/
def k0 : Class := { plain "java/lang/Object" none with
  accessFlags := 33
  interfaces := #[]
  cf := some (fileOf pool0 8 #[] #[{ accessFlags := 1, nameIndex := 5, descriptorIndex := 6, attributes := #[] }] 33 0 #[] #[])
  fields := #[]
  methods := #[k0m0]
  instanceTypes := #[]
  staticTypes := #[]
  resolved := Array.replicate 124 none
  statics := none }

def pool1 : Array CpInfo := pool [(2, .class_ 4), (1, u "java/lang/Object"), (0, u "<init>"), (0, u "()V"), (0, .methodref 8 9), (0, .class_ 10), (0, .nameAndType 11 12), (0, u "java/lang/Math"), (0, u "min"), (0, u "(JJ)J"), (0, .methodref 8 14), (0, .nameAndType 15 12), (0, u "max"), (0, .class_ 17), (0, u "com/example/rangewell/rangewell/model/TimeRange"), (0, .methodref 16 19), (0, .nameAndType 5 20), (0, u "(JJ)V"), (0, .methodref 16 22), (0, .nameAndType 23 24), (0, u "contains"), (0, u "(J)Z"), (0, .methodref 16 26), (0, .nameAndType 27 28), (0, u "oldest"), (0, u "()J"), (0, .methodref 16 30), (0, .nameAndType 31 28), (0, u "newest"), (0, .class_ 33), (0, u "com/example/rangewell/rangewell/model/TimeRangeContainsPinLaw"), (2, u "law"), (0, u "(JJJI)Z")] 3

def k1m0 : Method := { name := "<init>", desc := "()V", sig := { parameters := [], returnType := none }, accessFlags := 1, code := none }
def k1c1 : Code := { maxStack := 6, maxLocals := 17, code := code, exceptionTable := #[], attributes := #[] }
def k1m1 : Method := { name := "law", desc := "(JJJI)Z", sig := { parameters := [.long, .long, .long, .int], returnType := some .boolean }, accessFlags := 9, code := some k1c1 }
/-- com/example/rangewell/rangewell/model/TimeRangeContainsPinLaw -/
def k1 : Class := { plain "com/example/rangewell/rangewell/model/TimeRangeContainsPinLaw" (some 0) with
  accessFlags := 49
  interfaces := #[]
  cf := some (fileOf pool1 32 #[] #[{ accessFlags := 1, nameIndex := 5, descriptorIndex := 6, attributes := #[] }, { accessFlags := 9, nameIndex := 36, descriptorIndex := 37, attributes := #[] }] 49 2 #[] #[])
  fields := #[]
  methods := #[k1m0, k1m1]
  instanceTypes := #[]
  staticTypes := #[]
  resolved := Array.replicate 41 none
  statics := none }

def pool2 : Array CpInfo := pool [(1, .methodref 2 3), (0, .class_ 4), (0, .nameAndType 5 6), (0, u "java/lang/Object"), (0, u "<init>"), (0, u "()V"), (0, .class_ 8), (0, u "java/lang/Record")] 13

def k2c0 : Code := { maxStack := 1, maxLocals := 1, code := jdk_30_method_1_code, exceptionTable := #[], attributes := #[] }
def k2m0 : Method := { name := "<init>", desc := "()V", sig := { parameters := [], returnType := none }, accessFlags := 4, code := some k2c0 }
/-- java/lang/Record -/
def k2 : Class := { plain "java/lang/Record" (some 0) with
  accessFlags := 1057
  interfaces := #[]
  cf := some (fileOf pool2 7 #[] #[{ accessFlags := 4, nameIndex := 5, descriptorIndex := 6, attributes := #[] }] 1057 2 #[] #[])
  fields := #[]
  methods := #[k2m0]
  instanceTypes := #[]
  staticTypes := #[]
  resolved := Array.replicate 22 none
  statics := none }

def pool3 : Array CpInfo := pool [(1, .methodref 2 3), (0, .class_ 4), (0, .nameAndType 5 6), (0, u "java/lang/Record"), (0, u "<init>"), (0, u "()V"), (0, .fieldref 8 9), (0, .class_ 10), (0, .nameAndType 11 12), (0, u "com/example/rangewell/rangewell/model/TimeRange"), (0, u "oldest"), (0, u "J"), (0, .fieldref 8 14), (0, .nameAndType 15 12), (0, u "newest"), (2, u "(JJ)V"), (29, u "ALL"), (0, u "Lcom/example/rangewell/rangewell/model/TimeRange;"), (8, u "contains"), (0, u "(J)Z"), (3, u "()J")] 30

def k3c0 : Code := { maxStack := 3, maxLocals := 5, code := prog_54_method_1_code, exceptionTable := #[], attributes := #[] }
def k3m0 : Method := { name := "<init>", desc := "(JJ)V", sig := { parameters := [.long, .long], returnType := none }, accessFlags := 1, code := some k3c0 }
def k3c1 : Code := { maxStack := 4, maxLocals := 3, code := prog_54_method_4_code, exceptionTable := #[], attributes := #[] }
def k3m1 : Method := { name := "contains", desc := "(J)Z", sig := { parameters := [.long], returnType := some .boolean }, accessFlags := 1, code := some k3c1 }
def k3c2 : Code := { maxStack := 2, maxLocals := 1, code := prog_54_method_8_code, exceptionTable := #[], attributes := #[] }
def k3m2 : Method := { name := "oldest", desc := "()J", sig := { parameters := [], returnType := some .long }, accessFlags := 1, code := some k3c2 }
def k3c3 : Code := { maxStack := 2, maxLocals := 1, code := prog_54_method_9_code, exceptionTable := #[], attributes := #[] }
def k3m3 : Method := { name := "newest", desc := "()J", sig := { parameters := [], returnType := some .long }, accessFlags := 1, code := some k3c3 }
/-- com/example/rangewell/rangewell/model/TimeRange -/
def k3 : Class := { plain "com/example/rangewell/rangewell/model/TimeRange" (some 2) with
  accessFlags := 49
  interfaces := #[]
  cf := some (fileOf pool3 8 #[] #[{ accessFlags := 1, nameIndex := 5, descriptorIndex := 18, attributes := #[] }, { accessFlags := 1, nameIndex := 58, descriptorIndex := 59, attributes := #[] }, { accessFlags := 1, nameIndex := 11, descriptorIndex := 63, attributes := #[] }, { accessFlags := 1, nameIndex := 15, descriptorIndex := 63, attributes := #[] }] 49 2 #[] #[{ accessFlags := 18, nameIndex := 11, descriptorIndex := 12, attributes := #[] }, { accessFlags := 18, nameIndex := 15, descriptorIndex := 12, attributes := #[] }, { accessFlags := 25, nameIndex := 48, descriptorIndex := 49, attributes := #[] }])
  fields := #[{ name := "oldest", type := .long, accessFlags := 18, slot := 0, constantValue := 0 }, { name := "newest", type := .long, accessFlags := 18, slot := 1, constantValue := 0 }, { name := "ALL", type := (.object "com/example/rangewell/rangewell/model/TimeRange"), accessFlags := 25, slot := 0, constantValue := 0 }]
  methods := #[k3m0, k3m1, k3m2, k3m3]
  instanceTypes := #[.long, .long]
  staticTypes := #[(.object "com/example/rangewell/rangewell/model/TimeRange")]
  resolved := Array.replicate 94 none
  statics := none }

def pool4 : Array CpInfo := pool [(1, .class_ 2), (0, u "java/lang/Math"), (1, .class_ 6), (1, u "java/lang/Object"), (0, u "<init>"), (0, u "()V"), (89, .class_ 100), (1, u "java/lang/Math$RandomNumberGeneratorHolder"), (20, u "(JJ)J"), (50, u "negativeZeroFloatBits"), (0, u "J"), (2, u "negativeZeroDoubleBits"), (21, u "max"), (2, u "min"), (43, u "$assertionsDisabled"), (0, u "Z"), (91, u "twoToTheDoubleScaleDown"), (0, u "D"), (4, u "twoToTheDoubleScaleUp"), (9, u "E"), (3, u "PI"), (2, u "TAU"), (2, u "DEGREES_TO_RADIANS"), (0, u "RADIANS_TO_DEGREES")] 94

def k4m0 : Method := { name := "<init>", desc := "()V", sig := { parameters := [], returnType := none }, accessFlags := 2, code := none }
def k4c1 : Code := { maxStack := 4, maxLocals := 4, code := jdk_29_method_66_code, exceptionTable := #[], attributes := #[] }
def k4m1 : Method := { name := "max", desc := "(JJ)J", sig := { parameters := [.long, .long], returnType := some .long }, accessFlags := 9, code := some k4c1 }
def k4c2 : Code := { maxStack := 4, maxLocals := 4, code := jdk_29_method_70_code, exceptionTable := #[], attributes := #[] }
def k4m2 : Method := { name := "min", desc := "(JJ)J", sig := { parameters := [.long, .long], returnType := some .long }, accessFlags := 9, code := some k4c2 }
/-- java/lang/Math -/
def k4 : Class := { plain "java/lang/Math" (some 0) with
  accessFlags := 49
  interfaces := #[]
  cf := some (fileOf pool4 1 #[.nestMembers #[98]] #[{ accessFlags := 2, nameIndex := 7, descriptorIndex := 8, attributes := #[] }, { accessFlags := 9, nameIndex := 198, descriptorIndex := 121, attributes := #[] }, { accessFlags := 9, nameIndex := 201, descriptorIndex := 121, attributes := #[] }] 49 4 #[] #[{ accessFlags := 25, nameIndex := 354, descriptorIndex := 339, attributes := #[] }, { accessFlags := 25, nameIndex := 358, descriptorIndex := 339, attributes := #[] }, { accessFlags := 25, nameIndex := 361, descriptorIndex := 339, attributes := #[] }, { accessFlags := 26, nameIndex := 364, descriptorIndex := 339, attributes := #[] }, { accessFlags := 26, nameIndex := 365, descriptorIndex := 339, attributes := #[] }, { accessFlags := 26, nameIndex := 172, descriptorIndex := 173, attributes := #[] }, { accessFlags := 26, nameIndex := 176, descriptorIndex := 173, attributes := #[] }, { accessFlags := 8, nameIndex := 344, descriptorIndex := 339, attributes := #[] }, { accessFlags := 8, nameIndex := 338, descriptorIndex := 339, attributes := #[] }, { accessFlags := 4120, nameIndex := 245, descriptorIndex := 246, attributes := #[] }])
  fields := #[{ name := "E", type := .double, accessFlags := 25, slot := 0, constantValue := 0 }, { name := "PI", type := .double, accessFlags := 25, slot := 1, constantValue := 0 }, { name := "TAU", type := .double, accessFlags := 25, slot := 2, constantValue := 0 }, { name := "DEGREES_TO_RADIANS", type := .double, accessFlags := 26, slot := 3, constantValue := 0 }, { name := "RADIANS_TO_DEGREES", type := .double, accessFlags := 26, slot := 4, constantValue := 0 }, { name := "negativeZeroFloatBits", type := .long, accessFlags := 26, slot := 5, constantValue := 0 }, { name := "negativeZeroDoubleBits", type := .long, accessFlags := 26, slot := 6, constantValue := 0 }, { name := "twoToTheDoubleScaleUp", type := .double, accessFlags := 8, slot := 7, constantValue := 0 }, { name := "twoToTheDoubleScaleDown", type := .double, accessFlags := 8, slot := 8, constantValue := 0 }, { name := "$assertionsDisabled", type := .boolean, accessFlags := 4120, slot := 9, constantValue := 0 }]
  methods := #[k4m0, k4m1, k4m2]
  instanceTypes := #[]
  staticTypes := #[.double, .double, .double, .double, .double, .long, .long, .double, .double, .boolean]
  resolved := Array.replicate 460 none
  statics := none }

def pool5 : Array CpInfo := pool [(1, u "java/lang/Cloneable"), (0, .class_ 1), (0, u "java/lang/Object"), (0, .class_ 3)] 3

/-- java/lang/Cloneable -/
def k5 : Class := { plain "java/lang/Cloneable" (some 0) with
  accessFlags := 1537
  interfaces := #[]
  cf := some (fileOf pool5 2 #[] #[] 1537 4 #[] #[])
  fields := #[]
  methods := #[]
  instanceTypes := #[]
  staticTypes := #[]
  resolved := Array.replicate 8 none
  statics := none }

def pool6 : Array CpInfo := pool [(1, u "java/io/Serializable"), (0, .class_ 1), (0, u "java/lang/Object"), (0, .class_ 3)] 3

/-- java/io/Serializable -/
def k6 : Class := { plain "java/io/Serializable" (some 0) with
  accessFlags := 1537
  interfaces := #[]
  cf := some (fileOf pool6 2 #[] #[] 1537 4 #[] #[])
  fields := #[]
  methods := #[]
  instanceTypes := #[]
  staticTypes := #[]
  resolved := Array.replicate 8 none
  statics := none }

/-- the primitive byte -/
def k7 : Class := { plain "byte" none with kind := .primitive 'B', accessFlags := 0x411 }
/-- [B -/
def k8 : Class := { plain "[B" (some 0) with kind := .array 7 .byte, interfaces := #[5, 6], accessFlags := 1041 }

/-- the primitive int -/
def k9 : Class := { plain "int" none with kind := .primitive 'I', accessFlags := 0x411 }
/-- [I -/
def k10 : Class := { plain "[I" (some 0) with kind := .array 9 .int, interfaces := #[5, 6], accessFlags := 1041 }

def heap : Heap := #[]
def classes : Array Class := #[k0, k1, k2, k3, k4, k5, k6, k7, k8, k9, k10]
def interned : List (Array UInt16 × Addr) := []
def slotsUsed : Nat := 0
def theMethod : MethodId := ⟨1, 1⟩
def args0 : Array Value := #[.long 5, .long 6, .long 7, .int 7]
def aboutOver (below : List Frame) : State where
  vm := { classes := classes, interned := interned.toArray }
  heap := heap
  slotsUsed := slotsUsed
  threads := #[{ frames := .invoking theMethod args0 :: below }]
def below0 : List Frame := [.native { method := ⟨0, 0⟩, args := #[] }]
def about1 : State := aboutOver below0
def p0 : Program := .bare "" "" ""
def e0 : Env := launch0.env 0 0 0
theorem w_frames : about1.frames = Frame.invoking theMethod args0 :: below0 := rfl
set_option maxRecDepth 65536 in
theorem w_args : argsFit about1.vm theMethod args0 = true := by decide +kernel
set_option maxRecDepth 65536 in
theorem w_heap : heapFits about1 = true := by decide +kernel
set_option maxRecDepth 65536 in
theorem w_runnable : about1.curStatus? = some .runnable := by decide +kernel
set_option maxRecDepth 65536 in
theorem w_alone : about1.alone = true := by decide +kernel
set_option maxRecDepth 65536 in
theorem w_named : about1.methodNamed? x = some theMethod := by decide +kernel
set_option maxRecDepth 65536 in
theorem w_hears : about1.hears theMethod below0 = true := by decide +kernel
set_option maxRecDepth 65536 in
theorem w_ripe : about1.ripe theMethod args0 below0 = true := by decide +kernel
theorem w_running : about1.status = .running := rfl
set_option maxRecDepth 65536 in
theorem w_room : about1.hasRoom e0.platform room_1 = true :=
  launch0.hasRoom_least _ room_1 (by decide +kernel) (by decide +kernel) (by decide +kernel) (by decide +kernel) (by decide +kernel) (by decide +kernel)
theorem allAtoms_all (ts : List Jvm.Cond) (a : Array Jvm.Value) (st : Jvm.State) : (allAtoms ts).before a st = ts.all (fun c => c.before a st) := by
  induction ts with
  | nil => rfl
  | cons c t ih =>
    show (Jvm.Cond.and c (allAtoms t)).before a st = _
    rw [Jvm.Cond.before_and, ih, List.all_cons]
def words1 : List Jvm.Cond := Jvm.Cond.code x code maxLocals ret :: tables_1
/-- a 'code' word, met by the world's own term for the bytes: nothing is compared byte by byte -/
theorem code_word {y : MethodName} {bytes : ByteArray} {mx : Nat} {rt : Option FieldType} {a : Array Value} {s : State} {m : MethodId} {meth : Method} {c : Code} (h1 : s.methodNamed? y = some m) (h2 : s.vm.method? m = some meth) (h3 : meth.code = some c) (h4 : c.code = bytes)
    (h5 : (c.maxLocals == mx && c.exceptionTable.isEmpty && decide (c.maxStack ≤ mostOperands) && decide (meth.sig.returnType = rt) && !meth.locks && decide (parseMethodDescriptor y.desc = some meth.sig)) = true) : (Jvm.Cond.code y bytes mx rt).before a s = true := by
  simp only [Bool.and_eq_true, beq_iff_eq, Bool.not_eq_true', decide_eq_true_eq] at h5
  obtain ⟨⟨⟨⟨⟨g1, g2⟩, g3⟩, g4⟩, g5⟩, g6⟩ := h5
  simp [Cond.before, Cond.holds, Cond.value, h1, h2, h3, h4, g1, g2, g3, g4, g5, g6]
def isCode : Jvm.Cond → Bool
  | .code _ _ _ _ => true
  | _ => false
theorem all_split {L : List Jvm.Cond} {P : Jvm.Cond → Bool} (h1 : L.all (fun c => isCode c || P c) = true) (h2 : ∀ c ∈ L.filter isCode, P c = true) : L.all P = true := by
  refine List.all_eq_true.mpr fun c hc => ?_
  have h := List.all_eq_true.mp h1 c hc
  rcases Bool.eq_false_or_eq_true (isCode c) with hi | hi
  · exact h2 c (List.mem_filter.mpr ⟨hc, hi⟩)
  · simpa [hi] using h
set_option maxRecDepth 65536 in
theorem w_c0 : (Jvm.Cond.code x code maxLocals ret).before args0 about1 = true := code_word (m := ⟨1, 1⟩) (meth := k1m1) (c := k1c1) (by decide +kernel) rfl rfl rfl (by decide +kernel)
set_option maxRecDepth 65536 in
theorem w_c1 : (Jvm.Cond.code ({ cls := "com/example/rangewell/rangewell/model/TimeRange", name := "<init>", desc := "(JJ)V" } : Jvm.MethodName) prog_54_method_1_code (5 : Nat) (Option.none : Option Jvm.ClassFile.FieldType)).before args0 about1 = true := code_word (m := ⟨3, 0⟩) (meth := k3m0) (c := k3c0) (by decide +kernel) rfl rfl rfl (by decide +kernel)
set_option maxRecDepth 65536 in
theorem w_c2 : (Jvm.Cond.code ({ cls := "java/lang/Record", name := "<init>", desc := "()V" } : Jvm.MethodName) jdk_30_method_1_code (1 : Nat) (Option.none : Option Jvm.ClassFile.FieldType)).before args0 about1 = true := code_word (m := ⟨2, 0⟩) (meth := k2m0) (c := k2c0) (by decide +kernel) rfl rfl rfl (by decide +kernel)
set_option maxRecDepth 65536 in
theorem w_c3 : (Jvm.Cond.code ({ cls := "java/lang/Object", name := "<init>", desc := "()V" } : Jvm.MethodName) object_method_1_code (1 : Nat) (Option.none : Option Jvm.ClassFile.FieldType)).before args0 about1 = true := code_word (m := ⟨0, 0⟩) (meth := k0m0) (c := k0c0) (by decide +kernel) rfl rfl rfl (by decide +kernel)
set_option maxRecDepth 65536 in
theorem w_c4 : (Jvm.Cond.code ({ cls := "com/example/rangewell/rangewell/model/TimeRange", name := "contains", desc := "(J)Z" } : Jvm.MethodName) prog_54_method_4_code (3 : Nat) (Option.some Jvm.ClassFile.FieldType.boolean)).before args0 about1 = true := code_word (m := ⟨3, 1⟩) (meth := k3m1) (c := k3c1) (by decide +kernel) rfl rfl rfl (by decide +kernel)
set_option maxRecDepth 65536 in
theorem w_c5 : (Jvm.Cond.code ({ cls := "com/example/rangewell/rangewell/model/TimeRange", name := "oldest", desc := "()J" } : Jvm.MethodName) prog_54_method_8_code (1 : Nat) (Option.some Jvm.ClassFile.FieldType.long)).before args0 about1 = true := code_word (m := ⟨3, 2⟩) (meth := k3m2) (c := k3c2) (by decide +kernel) rfl rfl rfl (by decide +kernel)
set_option maxRecDepth 65536 in
theorem w_c6 : (Jvm.Cond.code ({ cls := "com/example/rangewell/rangewell/model/TimeRange", name := "newest", desc := "()J" } : Jvm.MethodName) prog_54_method_9_code (1 : Nat) (Option.some Jvm.ClassFile.FieldType.long)).before args0 about1 = true := code_word (m := ⟨3, 3⟩) (meth := k3m3) (c := k3c3) (by decide +kernel) rfl rfl rfl (by decide +kernel)
set_option maxRecDepth 65536 in
theorem w_c7 : (Jvm.Cond.code ({ cls := "java/lang/Math", name := "max", desc := "(JJ)J" } : Jvm.MethodName) jdk_29_method_66_code (4 : Nat) (Option.some Jvm.ClassFile.FieldType.long)).before args0 about1 = true := code_word (m := ⟨4, 1⟩) (meth := k4m1) (c := k4c1) (by decide +kernel) rfl rfl rfl (by decide +kernel)
set_option maxRecDepth 65536 in
theorem w_c8 : (Jvm.Cond.code ({ cls := "java/lang/Math", name := "min", desc := "(JJ)J" } : Jvm.MethodName) jdk_29_method_70_code (4 : Nat) (Option.some Jvm.ClassFile.FieldType.long)).before args0 about1 = true := code_word (m := ⟨4, 2⟩) (meth := k4m2) (c := k4c2) (by decide +kernel) rfl rfl rfl (by decide +kernel)
def codes1 : List Jvm.Cond := [Jvm.Cond.code x code maxLocals ret, Jvm.Cond.code ({ cls := "com/example/rangewell/rangewell/model/TimeRange", name := "<init>", desc := "(JJ)V" } : Jvm.MethodName) prog_54_method_1_code (5 : Nat) (Option.none : Option Jvm.ClassFile.FieldType), Jvm.Cond.code ({ cls := "java/lang/Record", name := "<init>", desc := "()V" } : Jvm.MethodName) jdk_30_method_1_code (1 : Nat) (Option.none : Option Jvm.ClassFile.FieldType), Jvm.Cond.code ({ cls := "java/lang/Object", name := "<init>", desc := "()V" } : Jvm.MethodName) object_method_1_code (1 : Nat) (Option.none : Option Jvm.ClassFile.FieldType), Jvm.Cond.code ({ cls := "com/example/rangewell/rangewell/model/TimeRange", name := "contains", desc := "(J)Z" } : Jvm.MethodName) prog_54_method_4_code (3 : Nat) (Option.some Jvm.ClassFile.FieldType.boolean), Jvm.Cond.code ({ cls := "com/example/rangewell/rangewell/model/TimeRange", name := "oldest", desc := "()J" } : Jvm.MethodName) prog_54_method_8_code (1 : Nat) (Option.some Jvm.ClassFile.FieldType.long), Jvm.Cond.code ({ cls := "com/example/rangewell/rangewell/model/TimeRange", name := "newest", desc := "()J" } : Jvm.MethodName) prog_54_method_9_code (1 : Nat) (Option.some Jvm.ClassFile.FieldType.long), Jvm.Cond.code ({ cls := "java/lang/Math", name := "max", desc := "(JJ)J" } : Jvm.MethodName) jdk_29_method_66_code (4 : Nat) (Option.some Jvm.ClassFile.FieldType.long), Jvm.Cond.code ({ cls := "java/lang/Math", name := "min", desc := "(JJ)J" } : Jvm.MethodName) jdk_29_method_70_code (4 : Nat) (Option.some Jvm.ClassFile.FieldType.long)]
set_option maxRecDepth 65536 in
theorem codes_eq : words1.filter isCode = codes1 := rfl
theorem w_codes : ∀ c ∈ words1.filter isCode, c.before args0 about1 = true := by
  rw [codes_eq]
  intro c hc
  simp only [codes1, List.mem_cons, List.not_mem_nil, or_false] at hc
  rcases hc with rfl | rfl | rfl | rfl | rfl | rfl | rfl | rfl | rfl
  · exact w_c0
  · exact w_c1
  · exact w_c2
  · exact w_c3
  · exact w_c4
  · exact w_c5
  · exact w_c6
  · exact w_c7
  · exact w_c8
set_option maxRecDepth 65536 in
theorem w_t1 : (words1.take 24).all (fun c => isCode c || c.before args0 about1) = true := by decide +kernel
set_option maxRecDepth 65536 in
theorem w_t2 : (words1.drop 24).all (fun c => isCode c || c.before args0 about1) = true := by decide +kernel
theorem w_tables : (allAtoms (Jvm.Cond.code x code maxLocals ret :: tables_1)).before args0 about1 = true := by
  rw [allAtoms_all]
  show words1.all (fun c => c.before args0 about1) = true
  refine all_split ?_ w_codes
  rw [← List.take_append_drop 24 words1, List.all_append, w_t1, w_t2]
  rfl
set_option maxRecDepth 65536 in
theorem w_case : (Jvm.Cond.and given_1 narrow_1).before args0 about1 = true := by decide +kernel
theorem w_applies : (headSpec (Jvm.Cond.code x code maxLocals ret :: tables_1) room_1).applies x e0.platform about1 = true :=
  (Spec.applies_iff w_frames).mpr ⟨w_running, w_runnable, w_alone, w_named, w_hears, w_ripe, w_room, w_tables⟩
theorem atStart : AtStart classFile x code maxLocals ret World_1 tables_1 room_1 Calls_1 rest_1 Pre_1 launch0 p0 e0 about1 theMethod args0 below0 :=
  ⟨lists_1, trivial, launch0.admits_env _ _ _, launch0.least_env, fairChoices_fair.cas, fairChoices_fair.clock, w_frames, w_args, w_heap, w_applies, trivial, trivial, w_case⟩
end start1
theorem witness_1 : WitnessClaimed_1 := ⟨start1.p0, start1.e0, start1.about1, start1.theMethod, start1.args0, start1.below0, start1.atStart⟩
end Jvm.Pilot.@@N@@
