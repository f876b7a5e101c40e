import JvmDerived
import JvmDerived.Pilot.@@N@@Statement
import JvmDerived.Pilot.@@N@@Code
set_option linter.unusedVariables false
set_option linter.unusedSimpArgs false

namespace Jvm.RoadKit
open Sem ClassFile Op Lib Jvm.Stand Jvm.Free Jvm.LawKit
section New
variable {p : Program} {l : Launch} {e : Env} {R : Room} {s : State} {m : MethodId} {args : Array Value} {below : List Frame} {meth : Method} {c : Code} {T : State} {locs : List Loc} {cells slots : Nat}
theorem retI (X : Stand p l e R s m args below meth c T locs cells slots) (hx : p.tables.exec = Jvm.exec) {pc : Nat} {Ls : Array Slot} {z : Int32} {rest : List Value} (hret : meth.sig.returnType = some .int) (hd : decode c.code pc = .ok (.ireturn, 1)) {fs : List Frame}
    (hl : ∀ (f : JFrame) (acts : List Action), f.method = m → f.locked = none → f.entered = [] → (doReturn e (T.setTop f) acts (some (.int z))).1 = T.setFrames fs) : Steps p.tables e below (T.setTop (mkF m pc Ls (.int z :: rest))) (T.setFrames fs) := by
  have hm' : T.vm.method? m = some meth := X.method'
  have hn : narrow .int (.int z) = .int z := rfl
  show Steps p.tables e below (T.setTop { method := m, pc := pc, locals := Ls, stack := _ :: rest, locked := none }) _
  jvm_step X.here [X.here.top, hx, hd, hm', hret, hn]
  first | (intro acts; rw [hl _ acts rfl rfl rfl]) | rw [hl _ _ rfl rfl rfl]
  exact Steps.refl _
end New
end Jvm.RoadKit
namespace Jvm.OwnKit
open Sem ClassFile Op Lib Jvm.Stand Jvm.Free Jvm.LawKit Jvm.RoadKit
section OwnLayer
variable {p : Program} {l : Launch} {e : Env} {R : Room} {s : State} {m : MethodId} {args : Array Value} {below : List Frame} {meth : Method} {c : Code} {T : State} {locs : List Loc} {cells slots : Nat} {Z : State} {h h' : Heap} {a b : Addr} {ty : FieldType} {n sl : Nat} {f : Nat → Value} {v : Value} {ws : List Addr}
/-- an array of n places, place j holding f j -/
def Ar (Z : State) (h : Heap) (a : Addr) (ty : FieldType) (n : Nat) (f : Nat → Value) : Prop := ∃ c : Cell, Arr Z h a c ty ∧ c.slots.size = n ∧ n < 2147483648 ∧ ∀ j, j < n → c.slots[j]? = some (f j)
theorem Ar.lt (F : Ar Z h a ty n f) : a < h.size := by obtain ⟨c, A, -⟩ := F; exact A.lt
theorem Ar.ext (F : Ar Z h a ty n f) (E : Ext h h') : Ar Z h' a ty n f := by obtain ⟨c, A, r⟩ := F; exact ⟨c, A.ext E, r⟩
theorem Ar.other (F : Ar Z h b ty n f) (W : Wr h h' a sl v) (q : b ≠ a) : Ar Z h' b ty n f := by obtain ⟨c, A, r⟩ := F; exact ⟨c, A.other W q, r⟩
theorem Ar.keep (F : Ar Z h a ty n f) (K : Keep h h' ws) (q : a ∉ ws) : Ar Z h' a ty n f := by obtain ⟨c, A, r⟩ := F; exact ⟨c, ⟨K.2.1 a c A.1 q, A.2⟩, r⟩
theorem Ar.as (F : Ar Z h a ty n f) {g : Nat → Value} (e : ∀ j, j < n → f j = g j) : Ar Z h a ty n g := by
  obtain ⟨c, A, r1, r2, r3⟩ := F; exact ⟨c, A, r1, r2, fun j hj => by rw [r3 j hj, e j hj]⟩
theorem nat_clamp (j : Int32) : j.toNatClampNeg = j.toInt.toNat := rfl
theorem Ar.new {k : ClassId} {z : Int32} {N : Nat} (A : Arr Z h a (newA k ty z) ty) (q : ¬ z < 0) (hN : z.toInt.toNat = N) : Ar Z h a ty N (fun _ => defaultValue ty) := by
  have hs : (newA k ty z).slots.size = N := by rw [sz_new, nat_clamp, hN]
  refine ⟨_, A, hs, ?_, fun j hj => ?_⟩
  · have := z.toInt_lt; omega
  · show (Array.replicate z.toNatClampNeg (defaultValue ty))[j]? = _
    rw [Array.getElem?_replicate, if_pos (by rw [nat_clamp, hN]; exact hj)]
theorem ar_in {c : Cell} {j : Int32} (hs : c.slots.size = n) (h0 : 0 ≤ j.toInt) (h1 : j.toInt < n) : ¬ (j < 0 ∨ c.slots.size ≤ j.toNatClampNeg) := by
  rw [hs, nat_clamp, Int32.lt_iff_toInt_lt]
  show ¬ (j.toInt < 0 ∨ n ≤ j.toInt.toNat)
  omega
theorem Ar.set {c : Cell} {j : Int32} (A : Arr Z h a c ty) (hs : c.slots.size = n) (hn : n < 2147483648) (H : ∀ j, j < n → c.slots[j]? = some (f j)) (h0 : 0 ≤ j.toInt) (h1 : j.toInt < n) (W : Wr h h' a j.toNatClampNeg v) : Ar Z h' a ty n (fun i => if i = j.toInt.toNat then v else f i) := by
  refine ⟨_, A.same W, by rw [sz_set, hs], hn, fun i hi => ?_⟩
  show (c.slots.setIfInBounds j.toNatClampNeg v)[i]? = _
  rw [Array.getElem?_setIfInBounds, nat_clamp]
  show _ = some (if i = j.toInt.toNat then v else f i)
  by_cases q : i = j.toInt.toNat
  · rw [if_pos q.symm, if_pos (by omega), if_pos q]
  · rw [if_neg (fun z => q z.symm), if_neg q, H i hi]
theorem arv_ar {k : ClassId} {z : Int32} {vs : List Value} {d : Value} (F : Arv Z h a k ty z vs d) : Ar Z h a ty z.toInt.toNat (fun i => vs.getD i d) := by
  obtain ⟨c, A, -, r2, r3, H, -⟩ := F
  have hz := z.toInt_lt
  exact ⟨c, A, r2, by omega, fun j hj => H j (by rw [r2, nat_clamp]; exact hj)⟩
theorem ldAI (X : Stand p l e R s m args below meth c T locs cells slots) (hx : p.tables.exec = Jvm.exec) (hZ : Z.Warmed39 s.vm) (eT : T.heap = h) (F : Ar Z h a .int n f) {j : Int32} (h0 : 0 ≤ j.toInt) (h1 : j.toInt < n) {w : Value} (hv : f j.toInt.toNat = w)
    {g : JFrame} (hg : g.method = m) {rest : List Value} (hs : g.stack = .int j :: .ref a :: rest) (hd : decode c.code g.pc = .ok (.iaload, 1)) :
    ∀ target, Steps p.tables e below (T.setTop { g with pc := g.pc + 1, stack := w :: rest }) target → Steps p.tables e below (T.setTop g) target := by
  obtain ⟨cl, A, r1, r2, r3⟩ := F
  exact fun target k => X.iaload hx (by rw [eT]; exact A.1) (State.isArrayOf_alike hZ.alike A.2.1) A.2.2 (ar_in r1 h0 h1) (by rw [nat_clamp, r3 _ (by omega), hv]) hg hs hd target k
theorem ldAL (X : Stand p l e R s m args below meth c T locs cells slots) (hx : p.tables.exec = Jvm.exec) (hZ : Z.Warmed39 s.vm) (eT : T.heap = h) (F : Ar Z h a .long n f) {j : Int32} (h0 : 0 ≤ j.toInt) (h1 : j.toInt < n) {w : Value} (hv : f j.toInt.toNat = w)
    {g : JFrame} (hg : g.method = m) {rest : List Value} (hs : g.stack = .int j :: .ref a :: rest) (hd : decode c.code g.pc = .ok (.laload, 1)) :
    ∀ target, Steps p.tables e below (T.setTop { g with pc := g.pc + 1, stack := w :: rest }) target → Steps p.tables e below (T.setTop g) target := by
  obtain ⟨cl, A, r1, r2, r3⟩ := F
  exact fun target k => X.laload hx (by rw [eT]; exact A.1) (State.isArrayOf_alike hZ.alike A.2.1) A.2.2 (ar_in r1 h0 h1) (by rw [nat_clamp, r3 _ (by omega), hv]) hg hs hd target k
theorem ldAB (X : Stand p l e R s m args below meth c T locs cells slots) (hx : p.tables.exec = Jvm.exec) (hZ : Z.Warmed39 s.vm) (eT : T.heap = h) (F : Ar Z h a .byte n f) {j : Int32} (h0 : 0 ≤ j.toInt) (h1 : j.toInt < n) {w : Value} (hv : f j.toInt.toNat = w)
    {g : JFrame} (hg : g.method = m) {rest : List Value} (hs : g.stack = .int j :: .ref a :: rest) (hd : decode c.code g.pc = .ok (.baload, 1)) :
    ∀ target, Steps p.tables e below (T.setTop { g with pc := g.pc + 1, stack := w :: rest }) target → Steps p.tables e below (T.setTop g) target := by
  obtain ⟨cl, A, r1, r2, r3⟩ := F
  exact fun target k => X.baloadBytes hx (by rw [eT]; exact A.1) (State.isArrayOf_alike hZ.alike A.2.1) A.2.2 (ar_in r1 h0 h1) (by rw [nat_clamp, r3 _ (by omega), hv]) hg hs hd target k
theorem ldAZ (X : Stand p l e R s m args below meth c T locs cells slots) (hx : p.tables.exec = Jvm.exec) (hZ : Z.Warmed39 s.vm) (eT : T.heap = h) (F : Ar Z h a .boolean n f) {j : Int32} (h0 : 0 ≤ j.toInt) (h1 : j.toInt < n) {w : Value} (hv : f j.toInt.toNat = w)
    {g : JFrame} (hg : g.method = m) {rest : List Value} (hs : g.stack = .int j :: .ref a :: rest) (hd : decode c.code g.pc = .ok (.baload, 1)) :
    ∀ target, Steps p.tables e below (T.setTop { g with pc := g.pc + 1, stack := w :: rest }) target → Steps p.tables e below (T.setTop g) target := by
  obtain ⟨cl, A, r1, r2, r3⟩ := F
  exact fun target k => X.baloadBooleans hx (by rw [eT]; exact A.1) (State.isArrayOf_alike hZ.alike A.2.1) A.2.2 (ar_in r1 h0 h1) (by rw [nat_clamp, r3 _ (by omega), hv]) hg hs hd target k
theorem alen (X : Stand p l e R s m args below meth c T locs cells slots) (hx : p.tables.exec = Jvm.exec) (hZ : Z.Warmed39 s.vm) (eT : T.heap = h) (F : Ar Z h a ty n f) {z : Int32} (hz : z.toInt = n)
    {g : JFrame} (hg : g.method = m) {rest : List Value} (hs : g.stack = .ref a :: rest) (hd : decode c.code g.pc = .ok (.arraylength, 1)) :
    ∀ target, Steps p.tables e below (T.setTop { g with pc := g.pc + 1, stack := .int z :: rest }) target → Steps p.tables e below (T.setTop g) target := by
  obtain ⟨cl, A, r1, r2, r3⟩ := F
  have q : cl.slots.size.toInt32 = z := by
    rw [r1]
    apply Int32.toInt_inj.mp
    rw [hz]
    show (Int32.ofNat n).toInt = n
    exact Int32.toInt_ofNat_small (by omega)
  exact fun target k => X.arraylength hx (by rw [eT]; exact A.1) (State.isArrayOf_alike hZ.alike A.2.1) hg hs hd target (by rw [q]; exact k)
theorem stAI (X : Stand p l e R s m args below meth c T locs cells slots) (hx : p.tables.exec = Jvm.exec) (hZ : Z.Warmed39 s.vm) (eT : T.heap = h) (F : Ar Z h a .int n f) {j x : Int32} (h0 : 0 ≤ j.toInt) (h1 : j.toInt < n)
    {g : JFrame} (hg : g.method = m) {rest : List Value} (hs : g.stack = .int x :: .int j :: .ref a :: rest) (hd : decode c.code g.pc = .ok (.iastore, 1)) :
    ∃ T' h', Stand p l e R s m args below meth c T' (locs ++ [⟨a, j.toNatClampNeg⟩]) cells slots ∧ T'.heap = h' ∧ Wr h h' a j.toNatClampNeg (.int x) ∧ Ar Z h' a .int n (fun i => if i = j.toInt.toNat then .int x else f i) ∧ ∀ target, Steps p.tables e below (T'.setTop { g with pc := g.pc + 1, stack := rest }) target → Steps p.tables e below (T.setTop g) target := by
  obtain ⟨cl, A, r1, r2, r3⟩ := F
  obtain ⟨T', h', X', e', W, st⟩ := stI X hx hZ eT A (ar_in r1 h0 h1) hg hs hd
  exact ⟨T', h', X', e', W, Ar.set A r1 r2 r3 h0 h1 W, st⟩
theorem stAL (X : Stand p l e R s m args below meth c T locs cells slots) (hx : p.tables.exec = Jvm.exec) (hZ : Z.Warmed39 s.vm) (eT : T.heap = h) (F : Ar Z h a .long n f) {j : Int32} {x : Int64} (h0 : 0 ≤ j.toInt) (h1 : j.toInt < n)
    {g : JFrame} (hg : g.method = m) {rest : List Value} (hs : g.stack = .long x :: .int j :: .ref a :: rest) (hd : decode c.code g.pc = .ok (.lastore, 1)) :
    ∃ T' h', Stand p l e R s m args below meth c T' (locs ++ [⟨a, j.toNatClampNeg⟩]) cells slots ∧ T'.heap = h' ∧ Wr h h' a j.toNatClampNeg (.long x) ∧ Ar Z h' a .long n (fun i => if i = j.toInt.toNat then .long x else f i) ∧ ∀ target, Steps p.tables e below (T'.setTop { g with pc := g.pc + 1, stack := rest }) target → Steps p.tables e below (T.setTop g) target := by
  obtain ⟨cl, A, r1, r2, r3⟩ := F
  obtain ⟨T', h', X', e', W, st⟩ := stJ X hx hZ eT A (ar_in r1 h0 h1) hg hs hd
  exact ⟨T', h', X', e', W, Ar.set A r1 r2 r3 h0 h1 W, st⟩
theorem stAB (X : Stand p l e R s m args below meth c T locs cells slots) (hx : p.tables.exec = Jvm.exec) (hZ : Z.Warmed39 s.vm) (eT : T.heap = h) (F : Ar Z h a .byte n f) {j x : Int32} (h0 : 0 ≤ j.toInt) (h1 : j.toInt < n)
    {g : JFrame} (hg : g.method = m) {rest : List Value} (hs : g.stack = .int x :: .int j :: .ref a :: rest) (hd : decode c.code g.pc = .ok (.bastore, 1)) :
    ∃ T' h', Stand p l e R s m args below meth c T' (locs ++ [⟨a, j.toNatClampNeg⟩]) cells slots ∧ T'.heap = h' ∧ Wr h h' a j.toNatClampNeg (.int (nar .byte x)) ∧ Ar Z h' a .byte n (fun i => if i = j.toInt.toNat then .int (nar .byte x) else f i) ∧ ∀ target, Steps p.tables e below (T'.setTop { g with pc := g.pc + 1, stack := rest }) target → Steps p.tables e below (T.setTop g) target := by
  obtain ⟨cl, A, r1, r2, r3⟩ := F
  obtain ⟨T', h', X', e', W, st⟩ := stB X hx hZ eT A (ar_in r1 h0 h1) hg hs hd
  exact ⟨T', h', X', e', W, Ar.set A r1 r2 r3 h0 h1 W, st⟩
theorem stAZ (X : Stand p l e R s m args below meth c T locs cells slots) (hx : p.tables.exec = Jvm.exec) (hZ : Z.Warmed39 s.vm) (eT : T.heap = h) (F : Ar Z h a .boolean n f) {j x : Int32} (h0 : 0 ≤ j.toInt) (h1 : j.toInt < n)
    {g : JFrame} (hg : g.method = m) {rest : List Value} (hs : g.stack = .int x :: .int j :: .ref a :: rest) (hd : decode c.code g.pc = .ok (.bastore, 1)) :
    ∃ T' h', Stand p l e R s m args below meth c T' (locs ++ [⟨a, j.toNatClampNeg⟩]) cells slots ∧ T'.heap = h' ∧ Wr h h' a j.toNatClampNeg (.int (nar .boolean x)) ∧ Ar Z h' a .boolean n (fun i => if i = j.toInt.toNat then .int (nar .boolean x) else f i) ∧ ∀ target, Steps p.tables e below (T'.setTop { g with pc := g.pc + 1, stack := rest }) target → Steps p.tables e below (T.setTop g) target := by
  obtain ⟨cl, A, r1, r2, r3⟩ := F
  obtain ⟨T', h', X', e', W, st⟩ := stZ X hx hZ eT A (ar_in r1 h0 h1) hg hs hd
  exact ⟨T', h', X', e', W, Ar.set A r1 r2 r3 h0 h1 W, st⟩
end OwnLayer
end Jvm.OwnKit
namespace Jvm.Pilot.@@N@@
open Jvm Jvm.ClassFile Sem Op Lib Jvm.Free Jvm.Stand Jvm.LawKit Jvm.RoadKit Bundle Jvm.OwnKit Jvm.Pilot.@@N@@.Jvm.D

theorem ef_1 (m : MethodId) (x0 : Addr) : entryFrame m #[(.ref x0)] 1 = mkF m 0 #[.val (.ref x0)] [] := by first | (simp [entryFrame, mkF, argsToLocals, Value.category]; done) | rfl
theorem pn_com_example_witness_witness_logic_IntStack : plainName "com/example/witness/witness/logic/IntStack" = true := by first | (simp [plainName, overriddenIn]; done) | decide +kernel
theorem d1_0 : decode prog_91_method_1_code 0 = .ok (.aload_n 0, 1) := by decide +kernel
theorem d1_1 : decode prog_91_method_1_code 1 = .ok (.invokespecial 1, 3) := by decide +kernel
theorem d1_4 : decode prog_91_method_1_code 4 = .ok (.aload_n 0, 1) := by decide +kernel
theorem d1_5 : decode prog_91_method_1_code 5 = .ok (.bipush 16, 2) := by decide +kernel
theorem d1_7 : decode prog_91_method_1_code 7 = .ok (.newarray .int, 2) := by decide +kernel
theorem d1_9 : decode prog_91_method_1_code 9 = .ok (.putfield 7, 3) := by decide +kernel
theorem d1_12 : decode prog_91_method_1_code 12 = .ok (.return_, 1) := by decide +kernel
theorem ef_2 (m : MethodId) (x0 : Addr) (x1 : Int32) : entryFrame m #[(.ref x0), (.int x1)] 2 = mkF m 0 #[.val (.ref x0), .val (.int x1)] [] := by first | (simp [entryFrame, mkF, argsToLocals, Value.category]; done) | rfl
theorem d2_0 : decode prog_91_method_2_code 0 = .ok (.aload_n 0, 1) := by decide +kernel
theorem d2_1 : decode prog_91_method_2_code 1 = .ok (.getfield 13, 3) := by decide +kernel
theorem d2_4 : decode prog_91_method_2_code 4 = .ok (.aload_n 0, 1) := by decide +kernel
theorem d2_5 : decode prog_91_method_2_code 5 = .ok (.getfield 7, 3) := by decide +kernel
theorem d2_8 : decode prog_91_method_2_code 8 = .ok (.arraylength, 1) := by decide +kernel
theorem d2_9 : decode prog_91_method_2_code 9 = .ok (.if_icmp .ne 20, 3) := by decide +kernel
theorem d2_29 : decode prog_91_method_2_code 29 = .ok (.aload_n 0, 1) := by decide +kernel
theorem d2_30 : decode prog_91_method_2_code 30 = .ok (.getfield 7, 3) := by decide +kernel
theorem d2_33 : decode prog_91_method_2_code 33 = .ok (.aload_n 0, 1) := by decide +kernel
theorem d2_34 : decode prog_91_method_2_code 34 = .ok (.dup, 1) := by decide +kernel
theorem d2_35 : decode prog_91_method_2_code 35 = .ok (.getfield 13, 3) := by decide +kernel
theorem d2_38 : decode prog_91_method_2_code 38 = .ok (.dup_x1, 1) := by decide +kernel
theorem d2_39 : decode prog_91_method_2_code 39 = .ok (.iconst 1, 1) := by decide +kernel
theorem d2_40 : decode prog_91_method_2_code 40 = .ok (.iadd, 1) := by decide +kernel
theorem d2_41 : decode prog_91_method_2_code 41 = .ok (.putfield 13, 3) := by decide +kernel
theorem d2_44 : decode prog_91_method_2_code 44 = .ok (.iload_n 1, 1) := by decide +kernel
theorem d2_45 : decode prog_91_method_2_code 45 = .ok (.iastore, 1) := by decide +kernel
theorem d2_46 : decode prog_91_method_2_code 46 = .ok (.return_, 1) := by decide +kernel
theorem ef_3 (m : MethodId) (x0 : Addr) : entryFrame m #[(.ref x0)] 1 = mkF m 0 #[.val (.ref x0)] [] := by first | (simp [entryFrame, mkF, argsToLocals, Value.category]; done) | rfl
theorem d3_0 : decode prog_91_method_3_code 0 = .ok (.aload_n 0, 1) := by decide +kernel
theorem d3_1 : decode prog_91_method_3_code 1 = .ok (.getfield 7, 3) := by decide +kernel
theorem d3_4 : decode prog_91_method_3_code 4 = .ok (.aload_n 0, 1) := by decide +kernel
theorem d3_5 : decode prog_91_method_3_code 5 = .ok (.dup, 1) := by decide +kernel
theorem d3_6 : decode prog_91_method_3_code 6 = .ok (.getfield 13, 3) := by decide +kernel
theorem d3_9 : decode prog_91_method_3_code 9 = .ok (.iconst 1, 1) := by decide +kernel
theorem d3_10 : decode prog_91_method_3_code 10 = .ok (.isub, 1) := by decide +kernel
theorem d3_11 : decode prog_91_method_3_code 11 = .ok (.dup_x1, 1) := by decide +kernel
theorem d3_12 : decode prog_91_method_3_code 12 = .ok (.putfield 13, 3) := by decide +kernel
theorem d3_15 : decode prog_91_method_3_code 15 = .ok (.iaload, 1) := by decide +kernel
theorem d3_16 : decode prog_91_method_3_code 16 = .ok (.ireturn, 1) := by decide +kernel
theorem ef_4 (m : MethodId) (x0 : Addr) : entryFrame m #[(.ref x0)] 1 = mkF m 0 #[.val (.ref x0)] [] := by first | (simp [entryFrame, mkF, argsToLocals, Value.category]; done) | rfl
theorem d4_0 : decode prog_91_method_6_code 0 = .ok (.aload_n 0, 1) := by decide +kernel
theorem d4_1 : decode prog_91_method_6_code 1 = .ok (.getfield 13, 3) := by decide +kernel
theorem d4_4 : decode prog_91_method_6_code 4 = .ok (.ireturn, 1) := by decide +kernel
theorem ef_0 (m : MethodId) (x0 : Int32) (x1 : Int32) (x2 : Int32) (x3 : Int32) : entryFrame m #[(.int x0), (.int x1), (.int x2), (.int x3)] maxLocals = mkF m 0 #[.val (.int x0), .val (.int x1), .val (.int x2), .val (.int x3), .unset, .unset, .unset, .unset, .unset, .unset] [] := by first | (simp [entryFrame, mkF, argsToLocals, Value.category, maxLocals]; done) | rfl
theorem pn_com_example_witness_witness_logic_IntStackPopPinLaw : plainName "com/example/witness/witness/logic/IntStackPopPinLaw" = true := by first | (simp [plainName, overriddenIn]; done) | decide +kernel
theorem pd_ocV : parseMethodDescriptor "()V" = some ⟨[], none⟩ := by decide +kernel
theorem pd_oIcV : parseMethodDescriptor "(I)V" = some ⟨[.int], none⟩ := by decide +kernel
theorem pd_ocI : parseMethodDescriptor "()I" = some ⟨[], some .int⟩ := by decide +kernel

def Q1 (Z : State) (fa : Addr) (h0 : Heap) (n0 : Nat) (v : Option Value) (h : Heap) (L : List Loc) : Prop := v = none ∧ Fr n0 L ∧ Keep h0 h [fa] ∧ Exa Z h fa "com/example/witness/witness/logic/IntStack" ∧ ∃ b : Addr, n0 ≤ b ∧ h0.size ≤ b ∧ Fld Z h fa "com/example/witness/witness/logic/IntStack" "items" "[I" (.ref b) ∧ Fld Z h fa "com/example/witness/witness/logic/IntStack" "size" "I" (.int (0 : Int32)) ∧ Ar Z h b .int 16 (fun _ => .int 0)
set_option maxRecDepth 65536 in
set_option maxHeartbeats 40000000 in
theorem rm1 (l : Launch) (Z : State) (a0 : Array Value) (hw : ∀ d ∈ tables_1, d.before a0 Z = true) (ws : List Jvm.Cond) (fa : Addr) (h0 : Heap) (n0 : Nat) (Z0 : n0 ≤ h0.size) (Ea : Exa Z h0 fa "com/example/witness/witness/logic/IntStack") (F1 : Fld Z h0 fa "com/example/witness/witness/logic/IntStack" "items" "[I" .null) (F2 : Fld Z h0 fa "com/example/witness/witness/logic/IntStack" "size" "I" (.int (0 : Int32))) (Ga : n0 ≤ fa) :
    MetFree l (⟨"com/example/witness/witness/logic/IntStack", "<init>", "()V"⟩ : MethodName) (head1 (Jvm.Cond.code (⟨"com/example/witness/witness/logic/IntStack", "<init>", "()V"⟩ : MethodName) prog_91_method_1_code 1 none :: ws) ({ frames := 1, cells := 1, slots := 16, locals := 12 } : Room)) (fun a U => a = #[(.ref fa)] ∧ Z.Warmed39 U.vm ∧ U.heap = h0) (fun _ _ _ _ _ => True) (fun _ U o U' => ∃ v L, o = .returned v ∧ Q1 Z fa h0 n0 v U'.heap L ∧ FrameEnd U o U' L ({ frames := 1, cells := 1, slots := 16, locals := 12 } : Room).cells ({ frames := 1, cells := 1, slots := 16, locals := 12 } : Room).slots) := by
  refine MetFree.of_bodySF (plainFor_of_name pn_com_example_witness_witness_logic_IntStack) hisR ?_
  intro p e s m args0 below meth c s₁ Bd hml0 hP hK
  obtain ⟨rfl, hZ, hh⟩ := hP
  have hx := Bd.exec
  have hby := Bd.bytes
  have hml : c.maxLocals = 1 := hml0
  have hown : s.vm.findClass "com/example/witness/witness/logic/IntStack" = some m.cls := findClass_of_methodNamed Bd.named
  have hnm := (name_of_methodNamed Bd.named Bd.method).1
  have X0 : Stand p l e ({ frames := 1, cells := 1, slots := 16, locals := 12 } : Room) s m #[(.ref fa)] below meth c s₁ [] 0 0 := Stand.of_body Bd
  have e0 : s₁.heap = h0 := by rw [← hh, Bd.state]; rfl
  have N0 := Fr.nil n0
  have pre0 : ∀ t, Steps p.tables e below (s₁.setTop (mkF m 0 #[.val (.ref fa)] [])) t → Steps p.tables e below (s₁.setTop (entryFrame m #[(.ref fa)] 1)) t := fun t k => castTop (ef_1 m fa) k
  have s1 : ∀ t, Steps p.tables e below (s₁.setTop (mkF m 1 #[.val (.ref fa)] [(.ref fa)])) t → Steps p.tables e below (s₁.setTop (mkF m 0 #[.val (.ref fa)] [])) t := by
    intro t kt
    refine XS.aloadN X0.here hx rfl (hb hby d1_0) rfl rfl ?_
    exact kt
  obtain ⟨T2, X2, e2, st2⟩ := initO X0 hx hZ hown (hw _ (List.mem_of_getElem? (i := 6) rfl)) (hw _ (List.mem_of_getElem? (i := 7) rfl)) (hw _ (List.mem_of_getElem? (i := 8) rfl)) e0 (g := (mkF m 1 #[.val (.ref fa)] [(.ref fa)])) rfl (by rw [hml]; rfl) rfl (hb hby d1_1) (by decide) (W := 0) (by show 2 * 0 + _ ≤ _; exact Nat.le_of_eq rfl) (by decide)
  have s3 : ∀ t, Steps p.tables e below (T2.setTop (mkF m 7 #[.val (.ref fa)] [(.int (16 : Int32)), (.ref fa)])) t → Steps p.tables e below (T2.setTop (mkF m 4 #[.val (.ref fa)] [])) t := by
    intro t kt
    refine XS.aloadN X2.here hx rfl (hb hby d1_4) rfl rfl ?_
    show Steps p.tables e below (T2.setTop (mkF m 5 #[.val (.ref fa)] [(.ref fa)])) t
    refine XS.bipush X2.here hx rfl (hb hby d1_5) ?_
    exact kt
  obtain ⟨T4, h4, k4, X4, e4, E4, A4, st4⟩ := newP X2 hx hZ (hw _ (List.mem_of_getElem? (i := 9) rfl)) e2 (g := (mkF m 7 #[.val (.ref fa)] [(.int (16 : Int32)), (.ref fa)])) rfl (hb hby d1_7) rfl (by decide) (cap := 16) (by decide) (by decide) (by decide) (by decide)
  obtain ⟨b4, g4⟩ : ∃ z, z = h0.size := ⟨_, rfl⟩
  rw [← g4] at A4 st4
  have ne5 : fa ≠ b4 := Nat.ne_of_lt (Nat.lt_of_lt_of_le Ea.lt (Nat.le_of_eq g4.symm))
  have gn4 : n0 ≤ b4 := Nat.le_trans Z0 (Nat.le_of_eq g4.symm)
  have sz4 : h0.size ≤ b4 := Nat.le_trans (Keep.refl h0 [fa]).1 (Nat.le_of_eq g4.symm)
  have Zs4 : n0 ≤ h4.size := Nat.le_trans Z0 E4.1
  have fE6 := Ea.ext E4
  have fF7 := F1.ext E4
  have fF8 := F2.ext E4
  have K4 : Keep h0 h4 [fa] := (Keep.refl h0 [fa]).ext E4
  have fV9 : OwnKit.Ar Z h4 b4 .int 16 (fun _ => defaultValue .int) := OwnKit.Ar.new A4 (by decide) (by decide)
  obtain ⟨T10, h10, X10, e10, W10, st10⟩ := putF X4 hx hZ hown (host := "") (Or.inl (hw _ (List.mem_of_getElem? (i := 10) rfl))) Via.refl e4 fF7 fE6 (Or.inl (hw _ (List.mem_of_getElem? (i := 11) rfl))) (hw _ (List.mem_of_getElem? (i := 1) rfl)) (ty := (.array .int)) (by decide) rfl rfl (g := (mkF m 9 #[.val (.ref fa)] [(.ref b4), (.ref fa)])) rfl rfl (hb hby d1_9)
  have Zs10 : n0 ≤ h10.size := Nat.le_trans Zs4 (Keep.of_wr W10).1
  have fE11 := fE6.wr W10
  have fF12 := fF7.same W10
  have fF13 := fF8.other W10 (Or.inr (slot_ne (Or.inl (hw _ (List.mem_of_getElem? (i := 18) rfl))) (Or.inl (hw _ (List.mem_of_getElem? (i := 11) rfl))) (by decide) (t := .int) (t' := (.array .int)) (by decide) (by decide)))
  have fV14 := fV9.other W10 (Ne.symm ne5)
  have K10 : Keep h0 h10 [fa] := K4.wr W10 (Or.inl (List.mem_of_getElem? (i := 0) rfl))
  have N10 := Fr.snoc X10 N0 Ga
  obtain ⟨fs_, hr, hrun, hended, hW, hsame⟩ := X10.leave (v := none) (fun _ => rfl)
  refine ⟨_, _, pre0 _ (s1 _ (st2 _ (s3 _ (st4 _ (st10 _ (?_)))))), hrun, hended, _, _, rfl, ?_, ⟨_, rfl⟩, hW, hsame.mono (by decide) (by decide)⟩
  · show Steps p.tables e below (T10.setTop (mkF m 12 #[.val (.ref fa)] [])) _
    exact X10.returnOut hx Bd.returns (hb hby d1_12) hr
  · show Q1 Z fa h0 n0 _ T10.heap _
    rw [e10]
    exact ⟨rfl, N10, K10, fE11, ⟨b4, gn4, sz4, fF12, fF13, fV14⟩⟩
def Q2 (Z : State) (fa fb : Addr) (fn : Int32) (ff : Nat → Value) (fx : Int32) (h0 : Heap) (n0 : Nat) (v : Option Value) (h : Heap) (L : List Loc) : Prop := v = none ∧ Fr n0 L ∧ Keep h0 h [fa, fb] ∧ Exa Z h fa "com/example/witness/witness/logic/IntStack" ∧ Fld Z h fa "com/example/witness/witness/logic/IntStack" "items" "[I" (.ref fb) ∧ Fld Z h fa "com/example/witness/witness/logic/IntStack" "size" "I" (.int (fn + (1 : Int32))) ∧ Ar Z h fb .int 16 (fun i => if i = fn.toInt.toNat then .int fx else ff i)
set_option maxRecDepth 65536 in
set_option maxHeartbeats 40000000 in
theorem rm2 (l : Launch) (Z : State) (a0 : Array Value) (hw : ∀ d ∈ tables_1, d.before a0 Z = true) (ws : List Jvm.Cond) (fa fb : Addr) (fn : Int32) (ff : Nat → Value) (fx : Int32) (h0 : Heap) (n0 : Nat) (Z0 : n0 ≤ h0.size) (Ea : Exa Z h0 fa "com/example/witness/witness/logic/IntStack") (F1 : Fld Z h0 fa "com/example/witness/witness/logic/IntStack" "items" "[I" (.ref fb)) (F2 : Fld Z h0 fa "com/example/witness/witness/logic/IntStack" "size" "I" (.int fn)) (V1 : Ar Z h0 fb .int 16 ff) (ne : fa ≠ fb) (Ga : n0 ≤ fa) (Gb : n0 ≤ fb) (hn0 : 0 ≤ fn.toInt) (hn1 : fn.toInt < 16) (hn2 : ¬ (fn = (16 : Int32))) :
    MetFree l (⟨"com/example/witness/witness/logic/IntStack", "push", "(I)V"⟩ : MethodName) (head1 (Jvm.Cond.code (⟨"com/example/witness/witness/logic/IntStack", "push", "(I)V"⟩ : MethodName) prog_91_method_2_code 2 none :: ws) ({ frames := 0, cells := 0, slots := 0, locals := 0 } : Room)) (fun a U => a = #[(.ref fa), (.int fx)] ∧ Z.Warmed39 U.vm ∧ U.heap = h0) (fun _ _ _ _ _ => True) (fun _ U o U' => ∃ v L, o = .returned v ∧ Q2 Z fa fb fn ff fx h0 n0 v U'.heap L ∧ FrameEnd U o U' L ({ frames := 0, cells := 0, slots := 0, locals := 0 } : Room).cells ({ frames := 0, cells := 0, slots := 0, locals := 0 } : Room).slots) := by
  refine MetFree.of_bodySF (plainFor_of_name pn_com_example_witness_witness_logic_IntStack) hisR ?_
  intro p e s m args0 below meth c s₁ Bd hml0 hP hK
  obtain ⟨rfl, hZ, hh⟩ := hP
  have hx := Bd.exec
  have hby := Bd.bytes
  have hml : c.maxLocals = 2 := hml0
  have hown : s.vm.findClass "com/example/witness/witness/logic/IntStack" = some m.cls := findClass_of_methodNamed Bd.named
  have hnm := (name_of_methodNamed Bd.named Bd.method).1
  have X0 : Stand p l e ({ frames := 0, cells := 0, slots := 0, locals := 0 } : Room) s m #[(.ref fa), (.int fx)] below meth c s₁ [] 0 0 := Stand.of_body Bd
  have e0 : s₁.heap = h0 := by rw [← hh, Bd.state]; rfl
  have N0 := Fr.nil n0
  have pre0 : ∀ t, Steps p.tables e below (s₁.setTop (mkF m 0 #[.val (.ref fa), .val (.int fx)] [])) t → Steps p.tables e below (s₁.setTop (entryFrame m #[(.ref fa), (.int fx)] 2)) t := fun t k => castTop (ef_2 m fa fx) k
  have s15 : ∀ t, Steps p.tables e below (s₁.setTop (mkF m 1 #[.val (.ref fa), .val (.int fx)] [(.ref fa)])) t → Steps p.tables e below (s₁.setTop (mkF m 0 #[.val (.ref fa), .val (.int fx)] [])) t := by
    intro t kt
    refine XS.aloadN X0.here hx rfl (hb hby d2_0) rfl rfl ?_
    exact kt
  obtain ⟨T16, X16, e16, st16⟩ := getF X0 hx hZ hown (host := "") (Or.inl (hw _ (List.mem_of_getElem? (i := 17) rfl))) Via.refl e0 F2 (g := (mkF m 1 #[.val (.ref fa), .val (.int fx)] [(.ref fa)])) rfl rfl (hb hby d2_1)
  have s17 : ∀ t, Steps p.tables e below (T16.setTop (mkF m 5 #[.val (.ref fa), .val (.int fx)] [(.ref fa), (.int fn)])) t → Steps p.tables e below (T16.setTop (mkF m 4 #[.val (.ref fa), .val (.int fx)] [(.int fn)])) t := by
    intro t kt
    refine XS.aloadN X16.here hx rfl (hb hby d2_4) rfl rfl ?_
    exact kt
  obtain ⟨T18, X18, e18, st18⟩ := getF X16 hx hZ hown (host := "") (Or.inl (hw _ (List.mem_of_getElem? (i := 10) rfl))) Via.refl e16 F1 (g := (mkF m 5 #[.val (.ref fa), .val (.int fx)] [(.ref fa), (.int fn)])) rfl rfl (hb hby d2_5)
  have s19 : ∀ t, Steps p.tables e below (T18.setTop (mkF m 30 #[.val (.ref fa), .val (.int fx)] [(.ref fa)])) t → Steps p.tables e below (T18.setTop (mkF m 8 #[.val (.ref fa), .val (.int fx)] [(.ref fb), (.int fn)])) t := by
    intro t kt
    refine OwnKit.alen X18 hx hZ e18 V1 (z := (16 : Int32)) (by decide) (g := (mkF m 8 #[.val (.ref fa), .val (.int fx)] [(.ref fb), (.int fn)])) rfl rfl (hb hby d2_8) _ ?_
    show Steps p.tables e below (T18.setTop (mkF m 9 #[.val (.ref fa), .val (.int fx)] [(.int (16 : Int32)), (.int fn)])) t
    refine XS.icmpYes X18.here hx rfl (pc0 := 9) (pc' := 29) rfl (hb hby d2_9) rfl (feq hn2).2 (by decide) (by decide) ?_
    show Steps p.tables e below (T18.setTop (mkF m 29 #[.val (.ref fa), .val (.int fx)] [])) t
    refine XS.aloadN X18.here hx rfl (hb hby d2_29) rfl rfl ?_
    exact kt
  obtain ⟨T20, X20, e20, st20⟩ := getF X18 hx hZ hown (host := "") (Or.inl (hw _ (List.mem_of_getElem? (i := 10) rfl))) Via.refl e18 F1 (g := (mkF m 30 #[.val (.ref fa), .val (.int fx)] [(.ref fa)])) rfl rfl (hb hby d2_30)
  have s21 : ∀ t, Steps p.tables e below (T20.setTop (mkF m 35 #[.val (.ref fa), .val (.int fx)] [(.ref fa), (.ref fa), (.ref fb)])) t → Steps p.tables e below (T20.setTop (mkF m 33 #[.val (.ref fa), .val (.int fx)] [(.ref fb)])) t := by
    intro t kt
    refine XS.aloadN X20.here hx rfl (hb hby d2_33) rfl rfl ?_
    show Steps p.tables e below (T20.setTop (mkF m 34 #[.val (.ref fa), .val (.int fx)] [(.ref fa), (.ref fb)])) t
    refine XS.dup X20.here hx rfl (hb hby d2_34) rfl rfl ?_
    exact kt
  obtain ⟨T22, X22, e22, st22⟩ := getF X20 hx hZ hown (host := "") (Or.inl (hw _ (List.mem_of_getElem? (i := 17) rfl))) Via.refl e20 F2 (g := (mkF m 35 #[.val (.ref fa), .val (.int fx)] [(.ref fa), (.ref fa), (.ref fb)])) rfl rfl (hb hby d2_35)
  have s23 : ∀ t, Steps p.tables e below (T22.setTop (mkF m 41 #[.val (.ref fa), .val (.int fx)] [(.int (fn + (1 : Int32))), (.ref fa), (.int fn), (.ref fb)])) t → Steps p.tables e below (T22.setTop (mkF m 38 #[.val (.ref fa), .val (.int fx)] [(.int fn), (.ref fa), (.ref fb)])) t := by
    intro t kt
    refine XS.dupX1 X22.here hx rfl (hb hby d2_38) rfl rfl rfl ?_
    show Steps p.tables e below (T22.setTop (mkF m 39 #[.val (.ref fa), .val (.int fx)] [(.int fn), (.ref fa), (.int fn), (.ref fb)])) t
    refine XS.iconst X22.here hx rfl (hb hby d2_39) ?_
    show Steps p.tables e below (T22.setTop (mkF m 40 #[.val (.ref fa), .val (.int fx)] [(.int (1 : Int32)), (.int fn), (.ref fa), (.int fn), (.ref fb)])) t
    refine XS.iadd X22.here hx rfl (hb hby d2_40) rfl ?_
    exact kt
  obtain ⟨T24, h24, X24, e24, W24, st24⟩ := putF X22 hx hZ hown (host := "") (Or.inl (hw _ (List.mem_of_getElem? (i := 17) rfl))) Via.refl e22 F2 Ea (Or.inl (hw _ (List.mem_of_getElem? (i := 18) rfl))) (hw _ (List.mem_of_getElem? (i := 1) rfl)) (ty := .int) (by decide) rfl rfl (g := (mkF m 41 #[.val (.ref fa), .val (.int fx)] [(.int (fn + (1 : Int32))), (.ref fa), (.int fn), (.ref fb)])) rfl rfl (hb hby d2_41)
  have Zs24 : n0 ≤ h24.size := Nat.le_trans Z0 (Keep.of_wr W24).1
  have fE25 := Ea.wr W24
  have fF26 := F1.other W24 (Or.inr (slot_ne (Or.inl (hw _ (List.mem_of_getElem? (i := 11) rfl))) (Or.inl (hw _ (List.mem_of_getElem? (i := 18) rfl))) (by decide) (t := (.array .int)) (t' := .int) (by decide) (by decide)))
  have fF27 := F2.same W24
  have fV28 := V1.other W24 (Ne.symm ne)
  have K24 : Keep h0 h24 [fa, fb] := (Keep.refl h0 [fa, fb]).wr W24 (Or.inl (List.mem_of_getElem? (i := 0) rfl))
  have N24 := Fr.snoc X24 N0 Ga
  have s29 : ∀ t, Steps p.tables e below (T24.setTop (mkF m 45 #[.val (.ref fa), .val (.int fx)] [(.int fx), (.int fn), (.ref fb)])) t → Steps p.tables e below (T24.setTop (mkF m 44 #[.val (.ref fa), .val (.int fx)] [(.int fn), (.ref fb)])) t := by
    intro t kt
    refine XS.iloadN X24.here hx rfl (hb hby d2_44) rfl ?_
    exact kt
  obtain ⟨T30, h30, X30, e30, W30, V30, st30⟩ := OwnKit.stAI X24 hx hZ e24 fV28 (j := fn) hn0 hn1 (g := (mkF m 45 #[.val (.ref fa), .val (.int fx)] [(.int fx), (.int fn), (.ref fb)])) rfl rfl (hb hby d2_45)
  have Zs30 : n0 ≤ h30.size := Nat.le_trans Zs24 (Keep.of_wr W30).1
  have fE31 := fE25.wr W30
  have fF32 := fF26.other W30 (Or.inl ne)
  have fF33 := fF27.other W30 (Or.inl ne)
  have fV34 := V30
  have K30 : Keep h0 h30 [fa, fb] := K24.wr W30 (Or.inl (List.mem_of_getElem? (i := 1) rfl))
  have N30 := Fr.snoc X30 N24 Gb
  obtain ⟨fs_, hr, hrun, hended, hW, hsame⟩ := X30.leave (v := none) (fun _ => rfl)
  refine ⟨_, _, pre0 _ (s15 _ (st16 _ (s17 _ (st18 _ (s19 _ (st20 _ (s21 _ (st22 _ (s23 _ (st24 _ (s29 _ (st30 _ (?_))))))))))))), hrun, hended, _, _, rfl, ?_, ⟨_, rfl⟩, hW, hsame.mono (by decide) (by decide)⟩
  · show Steps p.tables e below (T30.setTop (mkF m 46 #[.val (.ref fa), .val (.int fx)] [])) _
    exact X30.returnOut hx Bd.returns (hb hby d2_46) hr
  · show Q2 Z fa fb fn ff fx h0 n0 _ T30.heap _
    rw [e30]
    exact ⟨rfl, N30, K30, fE31, fF32, fF33, fV34⟩
def Q3 (Z : State) (fa fb : Addr) (fn : Int32) (ff : Nat → Value) (fx : Int32) (h0 : Heap) (n0 : Nat) (v : Option Value) (h : Heap) (L : List Loc) : Prop := v = some (.int fx) ∧ Fr n0 L ∧ Keep h0 h [fa] ∧ Exa Z h fa "com/example/witness/witness/logic/IntStack" ∧ Fld Z h fa "com/example/witness/witness/logic/IntStack" "items" "[I" (.ref fb) ∧ Fld Z h fa "com/example/witness/witness/logic/IntStack" "size" "I" (.int (fn - (1 : Int32)))
set_option maxRecDepth 65536 in
set_option maxHeartbeats 40000000 in
theorem rm3 (l : Launch) (Z : State) (a0 : Array Value) (hw : ∀ d ∈ tables_1, d.before a0 Z = true) (ws : List Jvm.Cond) (fa fb : Addr) (fn : Int32) (ff : Nat → Value) (fx : Int32) (h0 : Heap) (n0 : Nat) (Z0 : n0 ≤ h0.size) (Ea : Exa Z h0 fa "com/example/witness/witness/logic/IntStack") (F1 : Fld Z h0 fa "com/example/witness/witness/logic/IntStack" "items" "[I" (.ref fb)) (F2 : Fld Z h0 fa "com/example/witness/witness/logic/IntStack" "size" "I" (.int fn)) (V1 : Ar Z h0 fb .int 16 ff) (ne : fa ≠ fb) (Ga : n0 ≤ fa) (Gb : n0 ≤ fb) (hn0 : 0 ≤ (fn - (1 : Int32)).toInt) (hn1 : (fn - (1 : Int32)).toInt < 16) (hv : ff (fn - (1 : Int32)).toInt.toNat = .int fx) :
    MetFree l (⟨"com/example/witness/witness/logic/IntStack", "pop", "()I"⟩ : MethodName) (head1 (Jvm.Cond.code (⟨"com/example/witness/witness/logic/IntStack", "pop", "()I"⟩ : MethodName) prog_91_method_3_code 1 (some .int) :: ws) ({ frames := 0, cells := 0, slots := 0, locals := 0 } : Room)) (fun a U => a = #[(.ref fa)] ∧ Z.Warmed39 U.vm ∧ U.heap = h0) (fun _ _ _ _ _ => True) (fun _ U o U' => ∃ v L, o = .returned v ∧ Q3 Z fa fb fn ff fx h0 n0 v U'.heap L ∧ FrameEnd U o U' L ({ frames := 0, cells := 0, slots := 0, locals := 0 } : Room).cells ({ frames := 0, cells := 0, slots := 0, locals := 0 } : Room).slots) := by
  refine MetFree.of_bodySF (plainFor_of_name pn_com_example_witness_witness_logic_IntStack) hisR ?_
  intro p e s m args0 below meth c s₁ Bd hml0 hP hK
  obtain ⟨rfl, hZ, hh⟩ := hP
  have hx := Bd.exec
  have hby := Bd.bytes
  have hml : c.maxLocals = 1 := hml0
  have hown : s.vm.findClass "com/example/witness/witness/logic/IntStack" = some m.cls := findClass_of_methodNamed Bd.named
  have hnm := (name_of_methodNamed Bd.named Bd.method).1
  have X0 : Stand p l e ({ frames := 0, cells := 0, slots := 0, locals := 0 } : Room) s m #[(.ref fa)] below meth c s₁ [] 0 0 := Stand.of_body Bd
  have e0 : s₁.heap = h0 := by rw [← hh, Bd.state]; rfl
  have N0 := Fr.nil n0
  have pre0 : ∀ t, Steps p.tables e below (s₁.setTop (mkF m 0 #[.val (.ref fa)] [])) t → Steps p.tables e below (s₁.setTop (entryFrame m #[(.ref fa)] 1)) t := fun t k => castTop (ef_3 m fa) k
  have s35 : ∀ t, Steps p.tables e below (s₁.setTop (mkF m 1 #[.val (.ref fa)] [(.ref fa)])) t → Steps p.tables e below (s₁.setTop (mkF m 0 #[.val (.ref fa)] [])) t := by
    intro t kt
    refine XS.aloadN X0.here hx rfl (hb hby d3_0) rfl rfl ?_
    exact kt
  obtain ⟨T36, X36, e36, st36⟩ := getF X0 hx hZ hown (host := "") (Or.inl (hw _ (List.mem_of_getElem? (i := 10) rfl))) Via.refl e0 F1 (g := (mkF m 1 #[.val (.ref fa)] [(.ref fa)])) rfl rfl (hb hby d3_1)
  have s37 : ∀ t, Steps p.tables e below (T36.setTop (mkF m 6 #[.val (.ref fa)] [(.ref fa), (.ref fa), (.ref fb)])) t → Steps p.tables e below (T36.setTop (mkF m 4 #[.val (.ref fa)] [(.ref fb)])) t := by
    intro t kt
    refine XS.aloadN X36.here hx rfl (hb hby d3_4) rfl rfl ?_
    show Steps p.tables e below (T36.setTop (mkF m 5 #[.val (.ref fa)] [(.ref fa), (.ref fb)])) t
    refine XS.dup X36.here hx rfl (hb hby d3_5) rfl rfl ?_
    exact kt
  obtain ⟨T38, X38, e38, st38⟩ := getF X36 hx hZ hown (host := "") (Or.inl (hw _ (List.mem_of_getElem? (i := 17) rfl))) Via.refl e36 F2 (g := (mkF m 6 #[.val (.ref fa)] [(.ref fa), (.ref fa), (.ref fb)])) rfl rfl (hb hby d3_6)
  have s39 : ∀ t, Steps p.tables e below (T38.setTop (mkF m 12 #[.val (.ref fa)] [(.int (fn - (1 : Int32))), (.ref fa), (.int (fn - (1 : Int32))), (.ref fb)])) t → Steps p.tables e below (T38.setTop (mkF m 9 #[.val (.ref fa)] [(.int fn), (.ref fa), (.ref fb)])) t := by
    intro t kt
    refine XS.iconst X38.here hx rfl (hb hby d3_9) ?_
    show Steps p.tables e below (T38.setTop (mkF m 10 #[.val (.ref fa)] [(.int (1 : Int32)), (.int fn), (.ref fa), (.ref fb)])) t
    refine XS.isub X38.here hx rfl (hb hby d3_10) rfl ?_
    show Steps p.tables e below (T38.setTop (mkF m 11 #[.val (.ref fa)] [(.int (fn - (1 : Int32))), (.ref fa), (.ref fb)])) t
    refine XS.dupX1 X38.here hx rfl (hb hby d3_11) rfl rfl rfl ?_
    exact kt
  obtain ⟨T40, h40, X40, e40, W40, st40⟩ := putF X38 hx hZ hown (host := "") (Or.inl (hw _ (List.mem_of_getElem? (i := 17) rfl))) Via.refl e38 F2 Ea (Or.inl (hw _ (List.mem_of_getElem? (i := 18) rfl))) (hw _ (List.mem_of_getElem? (i := 1) rfl)) (ty := .int) (by decide) rfl rfl (g := (mkF m 12 #[.val (.ref fa)] [(.int (fn - (1 : Int32))), (.ref fa), (.int (fn - (1 : Int32))), (.ref fb)])) rfl rfl (hb hby d3_12)
  have Zs40 : n0 ≤ h40.size := Nat.le_trans Z0 (Keep.of_wr W40).1
  have fE41 := Ea.wr W40
  have fF42 := F1.other W40 (Or.inr (slot_ne (Or.inl (hw _ (List.mem_of_getElem? (i := 11) rfl))) (Or.inl (hw _ (List.mem_of_getElem? (i := 18) rfl))) (by decide) (t := (.array .int)) (t' := .int) (by decide) (by decide)))
  have fF43 := F2.same W40
  have fV44 := V1.other W40 (Ne.symm ne)
  have K40 : Keep h0 h40 [fa] := (Keep.refl h0 [fa]).wr W40 (Or.inl (List.mem_of_getElem? (i := 0) rfl))
  have N40 := Fr.snoc X40 N0 Ga
  have s45 : ∀ t, Steps p.tables e below (T40.setTop (mkF m 16 #[.val (.ref fa)] [(.int fx)])) t → Steps p.tables e below (T40.setTop (mkF m 15 #[.val (.ref fa)] [(.int (fn - (1 : Int32))), (.ref fb)])) t := by
    intro t kt
    refine OwnKit.ldAI X40 hx hZ e40 fV44 (j := (fn - (1 : Int32))) hn0 hn1 (w := (.int fx)) hv (g := (mkF m 15 #[.val (.ref fa)] [(.int (fn - (1 : Int32))), (.ref fb)])) rfl rfl (hb hby d3_15) _ ?_
    exact kt
  obtain ⟨fs_, hr, hrun, hended, hW, hsame⟩ := X40.leave (v := some (.int fx)) (fun h => by rw [Bd.returns] at h; cases h)
  refine ⟨_, _, pre0 _ (s35 _ (st36 _ (s37 _ (st38 _ (s39 _ (st40 _ (s45 _ (?_)))))))), hrun, hended, _, _, rfl, ?_, ⟨_, rfl⟩, hW, hsame.mono (by decide) (by decide)⟩
  · show Steps p.tables e below (T40.setTop (mkF m 16 #[.val (.ref fa)] [(.int fx)])) _
    exact retI X40 hx Bd.returns (hb hby d3_16) hr
  · show Q3 Z fa fb fn ff fx h0 n0 _ T40.heap _
    rw [e40]
    exact ⟨rfl, N40, K40, fE41, fF42, fF43⟩
def Q4 (Z : State) (fa : Addr) (fn : Int32) (h0 : Heap) (n0 : Nat) (v : Option Value) (h : Heap) (L : List Loc) : Prop := v = some (.int fn) ∧ Fr n0 L ∧ h = h0
set_option maxRecDepth 65536 in
set_option maxHeartbeats 40000000 in
theorem rm4 (l : Launch) (Z : State) (a0 : Array Value) (hw : ∀ d ∈ tables_1, d.before a0 Z = true) (ws : List Jvm.Cond) (fa : Addr) (fn : Int32) (h0 : Heap) (n0 : Nat) (Z0 : n0 ≤ h0.size) (F1 : Fld Z h0 fa "com/example/witness/witness/logic/IntStack" "size" "I" (.int fn)) :
    MetFree l (⟨"com/example/witness/witness/logic/IntStack", "size", "()I"⟩ : MethodName) (head1 (Jvm.Cond.code (⟨"com/example/witness/witness/logic/IntStack", "size", "()I"⟩ : MethodName) prog_91_method_6_code 1 (some .int) :: ws) ({ frames := 0, cells := 0, slots := 0, locals := 0 } : Room)) (fun a U => a = #[(.ref fa)] ∧ Z.Warmed39 U.vm ∧ U.heap = h0) (fun _ _ _ _ _ => True) (fun _ U o U' => ∃ v L, o = .returned v ∧ Q4 Z fa fn h0 n0 v U'.heap L ∧ FrameEnd U o U' L ({ frames := 0, cells := 0, slots := 0, locals := 0 } : Room).cells ({ frames := 0, cells := 0, slots := 0, locals := 0 } : Room).slots) := by
  refine MetFree.of_bodySF (plainFor_of_name pn_com_example_witness_witness_logic_IntStack) hisR ?_
  intro p e s m args0 below meth c s₁ Bd hml0 hP hK
  obtain ⟨rfl, hZ, hh⟩ := hP
  have hx := Bd.exec
  have hby := Bd.bytes
  have hml : c.maxLocals = 1 := hml0
  have hown : s.vm.findClass "com/example/witness/witness/logic/IntStack" = some m.cls := findClass_of_methodNamed Bd.named
  have hnm := (name_of_methodNamed Bd.named Bd.method).1
  have X0 : Stand p l e ({ frames := 0, cells := 0, slots := 0, locals := 0 } : Room) s m #[(.ref fa)] below meth c s₁ [] 0 0 := Stand.of_body Bd
  have e0 : s₁.heap = h0 := by rw [← hh, Bd.state]; rfl
  have N0 := Fr.nil n0
  have pre0 : ∀ t, Steps p.tables e below (s₁.setTop (mkF m 0 #[.val (.ref fa)] [])) t → Steps p.tables e below (s₁.setTop (entryFrame m #[(.ref fa)] 1)) t := fun t k => castTop (ef_4 m fa) k
  have s46 : ∀ t, Steps p.tables e below (s₁.setTop (mkF m 1 #[.val (.ref fa)] [(.ref fa)])) t → Steps p.tables e below (s₁.setTop (mkF m 0 #[.val (.ref fa)] [])) t := by
    intro t kt
    refine XS.aloadN X0.here hx rfl (hb hby d4_0) rfl rfl ?_
    exact kt
  obtain ⟨T47, X47, e47, st47⟩ := getF X0 hx hZ hown (host := "") (Or.inl (hw _ (List.mem_of_getElem? (i := 17) rfl))) Via.refl e0 F1 (g := (mkF m 1 #[.val (.ref fa)] [(.ref fa)])) rfl rfl (hb hby d4_1)
  obtain ⟨fs_, hr, hrun, hended, hW, hsame⟩ := X47.leave (v := some (.int fn)) (fun h => by rw [Bd.returns] at h; cases h)
  refine ⟨_, _, pre0 _ (s46 _ (st47 _ (?_))), hrun, hended, _, _, rfl, ?_, ⟨_, rfl⟩, hW, hsame.mono (by decide) (by decide)⟩
  · show Steps p.tables e below (T47.setTop (mkF m 4 #[.val (.ref fa)] [(.int fn)])) _
    exact retI X47 hx Bd.returns (hb hby d4_4) hr
  · show Q4 Z fa fn h0 n0 _ T47.heap _
    rw [e47]
    exact ⟨rfl, N0, rfl⟩

def Q0 (Z : State) (xa xb xc xd : Int32) (h0 : Heap) (n0 : Nat) (v : Option Value) (h : Heap) (L : List Loc) : Prop := v = some (.int 1) ∧ Fr n0 L
set_option maxRecDepth 65536 in
set_option maxHeartbeats 40000000 in
theorem rm0 (l : Launch) (Z : State) (a0 : Array Value) (hw : ∀ d ∈ tables_1, d.before a0 Z = true) (ws : List Jvm.Cond) (xa xb xc xd : Int32) (h0 : Heap) (n0 : Nat) (Z0 : n0 ≤ h0.size)  :
    MetFree l x (head1 (Jvm.Cond.code x code maxLocals ret :: ws) room_1) (fun a U => a = #[(.int xa), (.int xb), (.int xc), (.int xd)] ∧ Z.Warmed39 U.vm ∧ U.heap = h0) (fun _ _ _ _ _ => True) (fun _ U o U' => ∃ v L, o = .returned v ∧ Q0 Z xa xb xc xd h0 n0 v U'.heap L ∧ FrameEnd U o U' L room_1.cells room_1.slots) := by
  refine MetFree.of_bodySF (plainFor_of_name pn_com_example_witness_witness_logic_IntStackPopPinLaw) hisR ?_
  intro p e s m args0 below meth c s₁ Bd hml0 hP hK
  obtain ⟨rfl, hZ, hh⟩ := hP
  have hx := Bd.exec
  have hby := Bd.bytes
  have hml : c.maxLocals = 10 := hml0
  have hown : s.vm.findClass "com/example/witness/witness/logic/IntStackPopPinLaw" = some m.cls := findClass_of_methodNamed Bd.named
  have hnm := (name_of_methodNamed Bd.named Bd.method).1
  have X0 : Stand p l e room_1 s m #[(.int xa), (.int xb), (.int xc), (.int xd)] below meth c s₁ [] 0 0 := Stand.of_body Bd
  have e0 : s₁.heap = h0 := by rw [← hh, Bd.state]; rfl
  have N0 := Fr.nil n0
  have pre0 : ∀ t, Steps p.tables e below (s₁.setTop (mkF m 0 #[.val (.int xa), .val (.int xb), .val (.int xc), .val (.int xd), .unset, .unset, .unset, .unset, .unset, .unset] [])) t → Steps p.tables e below (s₁.setTop (entryFrame m #[(.int xa), (.int xb), (.int xc), (.int xd)] maxLocals)) t := fun t k => castTop (ef_0 m xa xb xc xd) k
  obtain ⟨T48, h48, X48, e48, E48, A48, D48, -, st48⟩ := newO X0 hx hZ hown (hw _ (List.mem_of_getElem? (i := 0) rfl)) (hw _ (List.mem_of_getElem? (i := 1) rfl)) (hw _ (List.mem_of_getElem? (i := 2) rfl)) e0 (g := (mkF m 0 #[.val (.int xa), .val (.int xb), .val (.int xc), .val (.int xd), .unset, .unset, .unset, .unset, .unset, .unset] [])) rfl (hb hby at_0) (by decide) (by decide)
  obtain ⟨b48, g48⟩ : ∃ z, z = h0.size := ⟨_, rfl⟩
  rw [← g48] at A48 D48 st48
  have gn48 : n0 ≤ b48 := Nat.le_trans Z0 (Nat.le_of_eq g48.symm)
  have Zs48 : n0 ≤ h48.size := Nat.le_trans Z0 E48.1
  have fF49 : Fld Z h48 b48 "com/example/witness/witness/logic/IntStack" "items" "[I" .null := D48 (Or.inl (hw _ (List.mem_of_getElem? (i := 11) rfl))) (ty := (.array .int)) (by decide)
  have fF50 : Fld Z h48 b48 "com/example/witness/witness/logic/IntStack" "size" "I" (.int (0 : Int32)) := D48 (Or.inl (hw _ (List.mem_of_getElem? (i := 18) rfl))) (ty := .int) (by decide)
  have s51 : ∀ t, Steps p.tables e below (T48.setTop (mkF m 4 #[.val (.int xa), .val (.int xb), .val (.int xc), .val (.int xd), .unset, .unset, .unset, .unset, .unset, .unset] [(.ref b48), (.ref b48)])) t → Steps p.tables e below (T48.setTop (mkF m 3 #[.val (.int xa), .val (.int xb), .val (.int xc), .val (.int xd), .unset, .unset, .unset, .unset, .unset, .unset] [(.ref b48)])) t := by
    intro t kt
    refine XS.dup X48.here hx rfl (hb hby at_3) rfl rfl ?_
    exact kt
  obtain ⟨_, _, ⟨T52, L52, k52, n52⟩, -, X52, ⟨Lc52, hQ52, l52, y52, z52⟩, st52⟩ := X48.specialBack hx (y := (⟨"com/example/witness/witness/logic/IntStack", "<init>", "()V"⟩ : MethodName)) rfl hown (mvT hZ (hw _ (List.mem_of_getElem? (i := 3) rfl))) (mvT hZ (hw _ (List.mem_of_getElem? (i := 4) rfl))) (mvT hZ (hw _ (List.mem_of_getElem? (i := 5) rfl))) (by decide) (backOf (W := 1) (rm1 l Z a0 hw [] b48 h48 n0 Zs48 A48 fF49 fF50 gn48) hZ (hw _ (List.mem_of_getElem? (i := 5) rfl)) (hw _ (List.mem_of_getElem? (i := 2) rfl)) (by decide) (by decide)) (g := (mkF m 4 #[.val (.int xa), .val (.int xb), .val (.int xc), .val (.int xd), .unset, .unset, .unset, .unset, .unset, .unset] [(.ref b48), (.ref b48)])) rfl (by rw [hml]; rfl) (Steps.refl _) (a := b48) (argsL := []) (rest := [(.ref b48)]) (lenOf pd_ocV rfl) rfl (by show 2 * 0 + _ ≤ _; exact Nat.le_of_eq rfl) (hb hby at_4) (fun _ _ => ⟨rfl, e48, (by decide : 1 + 1 ≤ _), (by decide : 2 + 16 ≤ _)⟩)
  dsimp only [Pt.U, Pt.locs, Pt.cells, Pt.slots] at X52 l52 y52 z52 st52 hQ52
  subst l52 y52 z52
  obtain ⟨rfl, N52q, Kc52, E52_, b52, G52, S52, FI52, FS52, V52⟩ := hQ52
  have N52 := Fr.app N0 N52q
  have ne52 : b48 ≠ b52 := Nat.ne_of_lt (Nat.lt_of_lt_of_le A48.lt S52)
  have Zs52 : n0 ≤ T52.heap.size := Nat.le_trans Zs48 Kc52.1
  have s53 : ∀ t, Steps p.tables e below (T52.setTop (mkF m 12 #[.val (.int xa), .val (.int xb), .val (.int xc), .val (.int xd), .val (.ref b48), .unset, .unset, .unset, .unset, .unset] [(.int xa), (.ref b48)])) t → Steps p.tables e below (T52.setTop (mkF m 7 #[.val (.int xa), .val (.int xb), .val (.int xc), .val (.int xd), .unset, .unset, .unset, .unset, .unset, .unset] [(.ref b48)])) t := by
    intro t kt
    refine XS.astore X52.here hx rfl (hb hby at_7) rfl rfl (l' := #[.val (.int xa), .val (.int xb), .val (.int xc), .val (.int xd), .val (.ref b48), .unset, .unset, .unset, .unset, .unset]) rfl ?_
    show Steps p.tables e below (T52.setTop (mkF m 9 #[.val (.int xa), .val (.int xb), .val (.int xc), .val (.int xd), .val (.ref b48), .unset, .unset, .unset, .unset, .unset] [])) t
    refine XS.aload X52.here hx rfl (hb hby at_9) rfl rfl ?_
    show Steps p.tables e below (T52.setTop (mkF m 11 #[.val (.int xa), .val (.int xb), .val (.int xc), .val (.int xd), .val (.ref b48), .unset, .unset, .unset, .unset, .unset] [(.ref b48)])) t
    refine XS.iloadN X52.here hx rfl (hb hby at_11) rfl ?_
    exact kt
  obtain ⟨cq54, kq54, qa54, qb54, qc54⟩ := isOf hZ rfl E52_
  obtain ⟨_, _, ⟨T54, L54, k54, n54⟩, -, X54, ⟨Lc54, hQ54, l54, y54, z54⟩, st54⟩ := X52.virtualBack hx (y := (⟨"com/example/witness/witness/logic/IntStack", "push", "(I)V"⟩ : MethodName)) (z := (⟨"com/example/witness/witness/logic/IntStack", "push", "(I)V"⟩ : MethodName)) hown (mvT hZ (hw _ (List.mem_of_getElem? (i := 12) rfl))) (mvT hZ (hw _ (List.mem_of_getElem? (i := 13) rfl))) (notFace_of_selects (args := #[]) (mvT hZ (hw _ (List.mem_of_getElem? (i := 15) rfl)))) (mvT hZ (hw _ (List.mem_of_getElem? (i := 15) rfl))) (mvT hZ (hw _ (List.mem_of_getElem? (i := 14) rfl))) (by decide) (backOf (W := 0) (rm2 l Z a0 hw [] b48 b52 (0 : Int32) (fun _ => .int 0) xa T52.heap n0 Zs52 E52_ FI52 FS52 V52 ne52 gn48 G52 (by decide) (by decide) (by decide)) hZ (hw _ (List.mem_of_getElem? (i := 16) rfl)) (hw _ (List.mem_of_getElem? (i := 2) rfl)) (by decide) (by decide)) qa54 qc54 (g := (mkF m 12 #[.val (.int xa), .val (.int xb), .val (.int xc), .val (.int xd), .val (.ref b48), .unset, .unset, .unset, .unset, .unset] [(.int xa), (.ref b48)])) rfl (by rw [hml]; rfl) (Steps.refl _) (argsL := [(.int xa)]) (rest := []) (lenOf pd_oIcV rfl) rfl (by show 2 * 0 + _ ≤ _; exact Nat.le_of_eq rfl) (hb hby at_12) (fun _ _ => ⟨rfl, rfl, (by decide : 2 + 0 ≤ _), (by decide : 18 + 0 ≤ _)⟩)
  dsimp only [Pt.U, Pt.locs, Pt.cells, Pt.slots] at X54 l54 y54 z54 st54 hQ54
  subst l54 y54 z54
  obtain ⟨rfl, N54q, Kc54, fE55, fF56, fF57, fV58⟩ := hQ54
  have N54 := Fr.app N52 N54q
  have Zs54 : n0 ≤ T54.heap.size := Nat.le_trans Zs52 Kc54.1
  have s59 : ∀ t, Steps p.tables e below (T54.setTop (mkF m 18 #[.val (.int xa), .val (.int xb), .val (.int xc), .val (.int xd), .val (.ref b48), .unset, .unset, .unset, .unset, .unset] [(.int xb), (.ref b48)])) t → Steps p.tables e below (T54.setTop (mkF m 15 #[.val (.int xa), .val (.int xb), .val (.int xc), .val (.int xd), .val (.ref b48), .unset, .unset, .unset, .unset, .unset] [])) t := by
    intro t kt
    refine XS.aload X54.here hx rfl (hb hby at_15) rfl rfl ?_
    show Steps p.tables e below (T54.setTop (mkF m 17 #[.val (.int xa), .val (.int xb), .val (.int xc), .val (.int xd), .val (.ref b48), .unset, .unset, .unset, .unset, .unset] [(.ref b48)])) t
    refine XS.iloadN X54.here hx rfl (hb hby at_17) rfl ?_
    exact kt
  obtain ⟨cq60, kq60, qa60, qb60, qc60⟩ := isOf hZ rfl fE55
  obtain ⟨_, _, ⟨T60, L60, k60, n60⟩, -, X60, ⟨Lc60, hQ60, l60, y60, z60⟩, st60⟩ := X54.virtualBack hx (y := (⟨"com/example/witness/witness/logic/IntStack", "push", "(I)V"⟩ : MethodName)) (z := (⟨"com/example/witness/witness/logic/IntStack", "push", "(I)V"⟩ : MethodName)) hown (mvT hZ (hw _ (List.mem_of_getElem? (i := 12) rfl))) (mvT hZ (hw _ (List.mem_of_getElem? (i := 13) rfl))) (notFace_of_selects (args := #[]) (mvT hZ (hw _ (List.mem_of_getElem? (i := 15) rfl)))) (mvT hZ (hw _ (List.mem_of_getElem? (i := 15) rfl))) (mvT hZ (hw _ (List.mem_of_getElem? (i := 14) rfl))) (by decide) (backOf (W := 0) (rm2 l Z a0 hw [] b48 b52 ((0 : Int32) + (1 : Int32)) (fun i => if i = ((0 : Int32)).toInt.toNat then .int xa else (fun _ => .int 0) i) xb T54.heap n0 Zs54 fE55 fF56 fF57 fV58 ne52 gn48 G52 (by decide) (by decide) (by decide)) hZ (hw _ (List.mem_of_getElem? (i := 16) rfl)) (hw _ (List.mem_of_getElem? (i := 2) rfl)) (by decide) (by decide)) qa60 qc60 (g := (mkF m 18 #[.val (.int xa), .val (.int xb), .val (.int xc), .val (.int xd), .val (.ref b48), .unset, .unset, .unset, .unset, .unset] [(.int xb), (.ref b48)])) rfl (by rw [hml]; rfl) (Steps.refl _) (argsL := [(.int xb)]) (rest := []) (lenOf pd_oIcV rfl) rfl (by show 2 * 0 + _ ≤ _; exact Nat.le_of_eq rfl) (hb hby at_18) (fun _ _ => ⟨rfl, rfl, (by decide : 2 + 0 ≤ _), (by decide : 18 + 0 ≤ _)⟩)
  dsimp only [Pt.U, Pt.locs, Pt.cells, Pt.slots] at X60 l60 y60 z60 st60 hQ60
  subst l60 y60 z60
  obtain ⟨rfl, N60q, Kc60, fE61, fF62, fF63, fV64⟩ := hQ60
  have N60 := Fr.app N54 N60q
  have Zs60 : n0 ≤ T60.heap.size := Nat.le_trans Zs54 Kc60.1
  have s65 : ∀ t, Steps p.tables e below (T60.setTop (mkF m 24 #[.val (.int xa), .val (.int xb), .val (.int xc), .val (.int xd), .val (.ref b48), .unset, .unset, .unset, .unset, .unset] [(.int xc), (.ref b48)])) t → Steps p.tables e below (T60.setTop (mkF m 21 #[.val (.int xa), .val (.int xb), .val (.int xc), .val (.int xd), .val (.ref b48), .unset, .unset, .unset, .unset, .unset] [])) t := by
    intro t kt
    refine XS.aload X60.here hx rfl (hb hby at_21) rfl rfl ?_
    show Steps p.tables e below (T60.setTop (mkF m 23 #[.val (.int xa), .val (.int xb), .val (.int xc), .val (.int xd), .val (.ref b48), .unset, .unset, .unset, .unset, .unset] [(.ref b48)])) t
    refine XS.iloadN X60.here hx rfl (hb hby at_23) rfl ?_
    exact kt
  obtain ⟨cq66, kq66, qa66, qb66, qc66⟩ := isOf hZ rfl fE61
  obtain ⟨_, _, ⟨T66, L66, k66, n66⟩, -, X66, ⟨Lc66, hQ66, l66, y66, z66⟩, st66⟩ := X60.virtualBack hx (y := (⟨"com/example/witness/witness/logic/IntStack", "push", "(I)V"⟩ : MethodName)) (z := (⟨"com/example/witness/witness/logic/IntStack", "push", "(I)V"⟩ : MethodName)) hown (mvT hZ (hw _ (List.mem_of_getElem? (i := 12) rfl))) (mvT hZ (hw _ (List.mem_of_getElem? (i := 13) rfl))) (notFace_of_selects (args := #[]) (mvT hZ (hw _ (List.mem_of_getElem? (i := 15) rfl)))) (mvT hZ (hw _ (List.mem_of_getElem? (i := 15) rfl))) (mvT hZ (hw _ (List.mem_of_getElem? (i := 14) rfl))) (by decide) (backOf (W := 0) (rm2 l Z a0 hw [] b48 b52 (((0 : Int32) + (1 : Int32)) + (1 : Int32)) (fun i => if i = (((0 : Int32) + (1 : Int32))).toInt.toNat then .int xb else (fun i => if i = ((0 : Int32)).toInt.toNat then .int xa else (fun _ => .int 0) i) i) xc T60.heap n0 Zs60 fE61 fF62 fF63 fV64 ne52 gn48 G52 (by decide) (by decide) (by decide)) hZ (hw _ (List.mem_of_getElem? (i := 16) rfl)) (hw _ (List.mem_of_getElem? (i := 2) rfl)) (by decide) (by decide)) qa66 qc66 (g := (mkF m 24 #[.val (.int xa), .val (.int xb), .val (.int xc), .val (.int xd), .val (.ref b48), .unset, .unset, .unset, .unset, .unset] [(.int xc), (.ref b48)])) rfl (by rw [hml]; rfl) (Steps.refl _) (argsL := [(.int xc)]) (rest := []) (lenOf pd_oIcV rfl) rfl (by show 2 * 0 + _ ≤ _; exact Nat.le_of_eq rfl) (hb hby at_24) (fun _ _ => ⟨rfl, rfl, (by decide : 2 + 0 ≤ _), (by decide : 18 + 0 ≤ _)⟩)
  dsimp only [Pt.U, Pt.locs, Pt.cells, Pt.slots] at X66 l66 y66 z66 st66 hQ66
  subst l66 y66 z66
  obtain ⟨rfl, N66q, Kc66, fE67, fF68, fF69, fV70⟩ := hQ66
  have N66 := Fr.app N60 N66q
  have Zs66 : n0 ≤ T66.heap.size := Nat.le_trans Zs60 Kc66.1
  have s71 : ∀ t, Steps p.tables e below (T66.setTop (mkF m 29 #[.val (.int xa), .val (.int xb), .val (.int xc), .val (.int xd), .val (.ref b48), .unset, .unset, .unset, .unset, .unset] [(.ref b48)])) t → Steps p.tables e below (T66.setTop (mkF m 27 #[.val (.int xa), .val (.int xb), .val (.int xc), .val (.int xd), .val (.ref b48), .unset, .unset, .unset, .unset, .unset] [])) t := by
    intro t kt
    refine XS.aload X66.here hx rfl (hb hby at_27) rfl rfl ?_
    exact kt
  obtain ⟨cq72, kq72, qa72, qb72, qc72⟩ := isOf hZ rfl fE67
  obtain ⟨_, _, ⟨T72, L72, k72, n72⟩, -, X72, ⟨Lc72, hQ72, l72, y72, z72⟩, st72⟩ := X66.virtualBack hx (y := (⟨"com/example/witness/witness/logic/IntStack", "pop", "()I"⟩ : MethodName)) (z := (⟨"com/example/witness/witness/logic/IntStack", "pop", "()I"⟩ : MethodName)) hown (mvT hZ (hw _ (List.mem_of_getElem? (i := 19) rfl))) (mvT hZ (hw _ (List.mem_of_getElem? (i := 20) rfl))) (notFace_of_selects (args := #[]) (mvT hZ (hw _ (List.mem_of_getElem? (i := 22) rfl)))) (mvT hZ (hw _ (List.mem_of_getElem? (i := 22) rfl))) (mvT hZ (hw _ (List.mem_of_getElem? (i := 21) rfl))) (by decide) (backOf (W := 0) (rm3 l Z a0 hw [] b48 b52 ((((0 : Int32) + (1 : Int32)) + (1 : Int32)) + (1 : Int32)) (fun i => if i = ((((0 : Int32) + (1 : Int32)) + (1 : Int32))).toInt.toNat then .int xc else (fun i => if i = (((0 : Int32) + (1 : Int32))).toInt.toNat then .int xb else (fun i => if i = ((0 : Int32)).toInt.toNat then .int xa else (fun _ => .int 0) i) i) i) xc T66.heap n0 Zs66 fE67 fF68 fF69 fV70 ne52 gn48 G52 (by decide) (by decide) rfl) hZ (hw _ (List.mem_of_getElem? (i := 23) rfl)) (hw _ (List.mem_of_getElem? (i := 2) rfl)) (by decide) (by decide)) qa72 qc72 (g := (mkF m 29 #[.val (.int xa), .val (.int xb), .val (.int xc), .val (.int xd), .val (.ref b48), .unset, .unset, .unset, .unset, .unset] [(.ref b48)])) rfl (by rw [hml]; rfl) (Steps.refl _) (argsL := []) (rest := []) (lenOf pd_ocI rfl) rfl (by show 2 * 0 + _ ≤ _; exact Nat.le_of_eq rfl) (hb hby at_29) (fun _ _ => ⟨rfl, rfl, (by decide : 2 + 0 ≤ _), (by decide : 18 + 0 ≤ _)⟩)
  dsimp only [Pt.U, Pt.locs, Pt.cells, Pt.slots] at X72 l72 y72 z72 st72 hQ72
  subst l72 y72 z72
  obtain ⟨rfl, N72q, Kc72, fE73, fF74, fF75⟩ := hQ72
  have N72 := Fr.app N66 N72q
  have Zs72 : n0 ≤ T72.heap.size := Nat.le_trans Zs66 Kc72.1
  have fV76 := fV70.keep Kc72 (ninS (Ne.symm ne52) nin0)
  have s77 : ∀ t, Steps p.tables e below (T72.setTop (mkF m 36 #[.val (.int xa), .val (.int xb), .val (.int xc), .val (.int xd), .val (.ref b48), .val (.int xc), .unset, .unset, .unset, .unset] [(.ref b48)])) t → Steps p.tables e below (T72.setTop (mkF m 32 #[.val (.int xa), .val (.int xb), .val (.int xc), .val (.int xd), .val (.ref b48), .unset, .unset, .unset, .unset, .unset] [(.int xc)])) t := by
    intro t kt
    refine XS.istore X72.here hx rfl (hb hby at_32) rfl (l' := #[.val (.int xa), .val (.int xb), .val (.int xc), .val (.int xd), .val (.ref b48), .val (.int xc), .unset, .unset, .unset, .unset]) rfl ?_
    show Steps p.tables e below (T72.setTop (mkF m 34 #[.val (.int xa), .val (.int xb), .val (.int xc), .val (.int xd), .val (.ref b48), .val (.int xc), .unset, .unset, .unset, .unset] [])) t
    refine XS.aload X72.here hx rfl (hb hby at_34) rfl rfl ?_
    exact kt
  obtain ⟨cq78, kq78, qa78, qb78, qc78⟩ := isOf hZ rfl fE73
  obtain ⟨_, _, ⟨T78, L78, k78, n78⟩, -, X78, ⟨Lc78, hQ78, l78, y78, z78⟩, st78⟩ := X72.virtualBack hx (y := (⟨"com/example/witness/witness/logic/IntStack", "pop", "()I"⟩ : MethodName)) (z := (⟨"com/example/witness/witness/logic/IntStack", "pop", "()I"⟩ : MethodName)) hown (mvT hZ (hw _ (List.mem_of_getElem? (i := 19) rfl))) (mvT hZ (hw _ (List.mem_of_getElem? (i := 20) rfl))) (notFace_of_selects (args := #[]) (mvT hZ (hw _ (List.mem_of_getElem? (i := 22) rfl)))) (mvT hZ (hw _ (List.mem_of_getElem? (i := 22) rfl))) (mvT hZ (hw _ (List.mem_of_getElem? (i := 21) rfl))) (by decide) (backOf (W := 0) (rm3 l Z a0 hw [] b48 b52 (((((0 : Int32) + (1 : Int32)) + (1 : Int32)) + (1 : Int32)) - (1 : Int32)) (fun i => if i = ((((0 : Int32) + (1 : Int32)) + (1 : Int32))).toInt.toNat then .int xc else (fun i => if i = (((0 : Int32) + (1 : Int32))).toInt.toNat then .int xb else (fun i => if i = ((0 : Int32)).toInt.toNat then .int xa else (fun _ => .int 0) i) i) i) xb T72.heap n0 Zs72 fE73 fF74 fF75 fV76 ne52 gn48 G52 (by decide) (by decide) rfl) hZ (hw _ (List.mem_of_getElem? (i := 23) rfl)) (hw _ (List.mem_of_getElem? (i := 2) rfl)) (by decide) (by decide)) qa78 qc78 (g := (mkF m 36 #[.val (.int xa), .val (.int xb), .val (.int xc), .val (.int xd), .val (.ref b48), .val (.int xc), .unset, .unset, .unset, .unset] [(.ref b48)])) rfl (by rw [hml]; rfl) (Steps.refl _) (argsL := []) (rest := []) (lenOf pd_ocI rfl) rfl (by show 2 * 0 + _ ≤ _; exact Nat.le_of_eq rfl) (hb hby at_36) (fun _ _ => ⟨rfl, rfl, (by decide : 2 + 0 ≤ _), (by decide : 18 + 0 ≤ _)⟩)
  dsimp only [Pt.U, Pt.locs, Pt.cells, Pt.slots] at X78 l78 y78 z78 st78 hQ78
  subst l78 y78 z78
  obtain ⟨rfl, N78q, Kc78, fE79, fF80, fF81⟩ := hQ78
  have N78 := Fr.app N72 N78q
  have Zs78 : n0 ≤ T78.heap.size := Nat.le_trans Zs72 Kc78.1
  have fV82 := fV76.keep Kc78 (ninS (Ne.symm ne52) nin0)
  have s83 : ∀ t, Steps p.tables e below (T78.setTop (mkF m 44 #[.val (.int xa), .val (.int xb), .val (.int xc), .val (.int xd), .val (.ref b48), .val (.int xc), .val (.int xb), .unset, .unset, .unset] [(.int xd), (.ref b48)])) t → Steps p.tables e below (T78.setTop (mkF m 39 #[.val (.int xa), .val (.int xb), .val (.int xc), .val (.int xd), .val (.ref b48), .val (.int xc), .unset, .unset, .unset, .unset] [(.int xb)])) t := by
    intro t kt
    refine XS.istore X78.here hx rfl (hb hby at_39) rfl (l' := #[.val (.int xa), .val (.int xb), .val (.int xc), .val (.int xd), .val (.ref b48), .val (.int xc), .val (.int xb), .unset, .unset, .unset]) rfl ?_
    show Steps p.tables e below (T78.setTop (mkF m 41 #[.val (.int xa), .val (.int xb), .val (.int xc), .val (.int xd), .val (.ref b48), .val (.int xc), .val (.int xb), .unset, .unset, .unset] [])) t
    refine XS.aload X78.here hx rfl (hb hby at_41) rfl rfl ?_
    show Steps p.tables e below (T78.setTop (mkF m 43 #[.val (.int xa), .val (.int xb), .val (.int xc), .val (.int xd), .val (.ref b48), .val (.int xc), .val (.int xb), .unset, .unset, .unset] [(.ref b48)])) t
    refine XS.iloadN X78.here hx rfl (hb hby at_43) rfl ?_
    exact kt
  obtain ⟨cq84, kq84, qa84, qb84, qc84⟩ := isOf hZ rfl fE79
  obtain ⟨_, _, ⟨T84, L84, k84, n84⟩, -, X84, ⟨Lc84, hQ84, l84, y84, z84⟩, st84⟩ := X78.virtualBack hx (y := (⟨"com/example/witness/witness/logic/IntStack", "push", "(I)V"⟩ : MethodName)) (z := (⟨"com/example/witness/witness/logic/IntStack", "push", "(I)V"⟩ : MethodName)) hown (mvT hZ (hw _ (List.mem_of_getElem? (i := 12) rfl))) (mvT hZ (hw _ (List.mem_of_getElem? (i := 13) rfl))) (notFace_of_selects (args := #[]) (mvT hZ (hw _ (List.mem_of_getElem? (i := 15) rfl)))) (mvT hZ (hw _ (List.mem_of_getElem? (i := 15) rfl))) (mvT hZ (hw _ (List.mem_of_getElem? (i := 14) rfl))) (by decide) (backOf (W := 0) (rm2 l Z a0 hw [] b48 b52 ((((((0 : Int32) + (1 : Int32)) + (1 : Int32)) + (1 : Int32)) - (1 : Int32)) - (1 : Int32)) (fun i => if i = ((((0 : Int32) + (1 : Int32)) + (1 : Int32))).toInt.toNat then .int xc else (fun i => if i = (((0 : Int32) + (1 : Int32))).toInt.toNat then .int xb else (fun i => if i = ((0 : Int32)).toInt.toNat then .int xa else (fun _ => .int 0) i) i) i) xd T78.heap n0 Zs78 fE79 fF80 fF81 fV82 ne52 gn48 G52 (by decide) (by decide) (by decide)) hZ (hw _ (List.mem_of_getElem? (i := 16) rfl)) (hw _ (List.mem_of_getElem? (i := 2) rfl)) (by decide) (by decide)) qa84 qc84 (g := (mkF m 44 #[.val (.int xa), .val (.int xb), .val (.int xc), .val (.int xd), .val (.ref b48), .val (.int xc), .val (.int xb), .unset, .unset, .unset] [(.int xd), (.ref b48)])) rfl (by rw [hml]; rfl) (Steps.refl _) (argsL := [(.int xd)]) (rest := []) (lenOf pd_oIcV rfl) rfl (by show 2 * 0 + _ ≤ _; exact Nat.le_of_eq rfl) (hb hby at_44) (fun _ _ => ⟨rfl, rfl, (by decide : 2 + 0 ≤ _), (by decide : 18 + 0 ≤ _)⟩)
  dsimp only [Pt.U, Pt.locs, Pt.cells, Pt.slots] at X84 l84 y84 z84 st84 hQ84
  subst l84 y84 z84
  obtain ⟨rfl, N84q, Kc84, fE85, fF86, fF87, fV88⟩ := hQ84
  have N84 := Fr.app N78 N84q
  have Zs84 : n0 ≤ T84.heap.size := Nat.le_trans Zs78 Kc84.1
  have s89 : ∀ t, Steps p.tables e below (T84.setTop (mkF m 49 #[.val (.int xa), .val (.int xb), .val (.int xc), .val (.int xd), .val (.ref b48), .val (.int xc), .val (.int xb), .unset, .unset, .unset] [(.ref b48)])) t → Steps p.tables e below (T84.setTop (mkF m 47 #[.val (.int xa), .val (.int xb), .val (.int xc), .val (.int xd), .val (.ref b48), .val (.int xc), .val (.int xb), .unset, .unset, .unset] [])) t := by
    intro t kt
    refine XS.aload X84.here hx rfl (hb hby at_47) rfl rfl ?_
    exact kt
  obtain ⟨cq90, kq90, qa90, qb90, qc90⟩ := isOf hZ rfl fE85
  obtain ⟨_, _, ⟨T90, L90, k90, n90⟩, -, X90, ⟨Lc90, hQ90, l90, y90, z90⟩, st90⟩ := X84.virtualBack hx (y := (⟨"com/example/witness/witness/logic/IntStack", "pop", "()I"⟩ : MethodName)) (z := (⟨"com/example/witness/witness/logic/IntStack", "pop", "()I"⟩ : MethodName)) hown (mvT hZ (hw _ (List.mem_of_getElem? (i := 19) rfl))) (mvT hZ (hw _ (List.mem_of_getElem? (i := 20) rfl))) (notFace_of_selects (args := #[]) (mvT hZ (hw _ (List.mem_of_getElem? (i := 22) rfl)))) (mvT hZ (hw _ (List.mem_of_getElem? (i := 22) rfl))) (mvT hZ (hw _ (List.mem_of_getElem? (i := 21) rfl))) (by decide) (backOf (W := 0) (rm3 l Z a0 hw [] b48 b52 (((((((0 : Int32) + (1 : Int32)) + (1 : Int32)) + (1 : Int32)) - (1 : Int32)) - (1 : Int32)) + (1 : Int32)) (fun i => if i = (((((((0 : Int32) + (1 : Int32)) + (1 : Int32)) + (1 : Int32)) - (1 : Int32)) - (1 : Int32))).toInt.toNat then .int xd else (fun i => if i = ((((0 : Int32) + (1 : Int32)) + (1 : Int32))).toInt.toNat then .int xc else (fun i => if i = (((0 : Int32) + (1 : Int32))).toInt.toNat then .int xb else (fun i => if i = ((0 : Int32)).toInt.toNat then .int xa else (fun _ => .int 0) i) i) i) i) xd T84.heap n0 Zs84 fE85 fF86 fF87 fV88 ne52 gn48 G52 (by decide) (by decide) rfl) hZ (hw _ (List.mem_of_getElem? (i := 23) rfl)) (hw _ (List.mem_of_getElem? (i := 2) rfl)) (by decide) (by decide)) qa90 qc90 (g := (mkF m 49 #[.val (.int xa), .val (.int xb), .val (.int xc), .val (.int xd), .val (.ref b48), .val (.int xc), .val (.int xb), .unset, .unset, .unset] [(.ref b48)])) rfl (by rw [hml]; rfl) (Steps.refl _) (argsL := []) (rest := []) (lenOf pd_ocI rfl) rfl (by show 2 * 0 + _ ≤ _; exact Nat.le_of_eq rfl) (hb hby at_49) (fun _ _ => ⟨rfl, rfl, (by decide : 2 + 0 ≤ _), (by decide : 18 + 0 ≤ _)⟩)
  dsimp only [Pt.U, Pt.locs, Pt.cells, Pt.slots] at X90 l90 y90 z90 st90 hQ90
  subst l90 y90 z90
  obtain ⟨rfl, N90q, Kc90, fE91, fF92, fF93⟩ := hQ90
  have N90 := Fr.app N84 N90q
  have Zs90 : n0 ≤ T90.heap.size := Nat.le_trans Zs84 Kc90.1
  have fV94 := fV88.keep Kc90 (ninS (Ne.symm ne52) nin0)
  have s95 : ∀ t, Steps p.tables e below (T90.setTop (mkF m 56 #[.val (.int xa), .val (.int xb), .val (.int xc), .val (.int xd), .val (.ref b48), .val (.int xc), .val (.int xb), .val (.int xd), .unset, .unset] [(.ref b48)])) t → Steps p.tables e below (T90.setTop (mkF m 52 #[.val (.int xa), .val (.int xb), .val (.int xc), .val (.int xd), .val (.ref b48), .val (.int xc), .val (.int xb), .unset, .unset, .unset] [(.int xd)])) t := by
    intro t kt
    refine XS.istore X90.here hx rfl (hb hby at_52) rfl (l' := #[.val (.int xa), .val (.int xb), .val (.int xc), .val (.int xd), .val (.ref b48), .val (.int xc), .val (.int xb), .val (.int xd), .unset, .unset]) rfl ?_
    show Steps p.tables e below (T90.setTop (mkF m 54 #[.val (.int xa), .val (.int xb), .val (.int xc), .val (.int xd), .val (.ref b48), .val (.int xc), .val (.int xb), .val (.int xd), .unset, .unset] [])) t
    refine XS.aload X90.here hx rfl (hb hby at_54) rfl rfl ?_
    exact kt
  obtain ⟨cq96, kq96, qa96, qb96, qc96⟩ := isOf hZ rfl fE91
  obtain ⟨_, _, ⟨T96, L96, k96, n96⟩, -, X96, ⟨Lc96, hQ96, l96, y96, z96⟩, st96⟩ := X90.virtualBack hx (y := (⟨"com/example/witness/witness/logic/IntStack", "pop", "()I"⟩ : MethodName)) (z := (⟨"com/example/witness/witness/logic/IntStack", "pop", "()I"⟩ : MethodName)) hown (mvT hZ (hw _ (List.mem_of_getElem? (i := 19) rfl))) (mvT hZ (hw _ (List.mem_of_getElem? (i := 20) rfl))) (notFace_of_selects (args := #[]) (mvT hZ (hw _ (List.mem_of_getElem? (i := 22) rfl)))) (mvT hZ (hw _ (List.mem_of_getElem? (i := 22) rfl))) (mvT hZ (hw _ (List.mem_of_getElem? (i := 21) rfl))) (by decide) (backOf (W := 0) (rm3 l Z a0 hw [] b48 b52 ((((((((0 : Int32) + (1 : Int32)) + (1 : Int32)) + (1 : Int32)) - (1 : Int32)) - (1 : Int32)) + (1 : Int32)) - (1 : Int32)) (fun i => if i = (((((((0 : Int32) + (1 : Int32)) + (1 : Int32)) + (1 : Int32)) - (1 : Int32)) - (1 : Int32))).toInt.toNat then .int xd else (fun i => if i = ((((0 : Int32) + (1 : Int32)) + (1 : Int32))).toInt.toNat then .int xc else (fun i => if i = (((0 : Int32) + (1 : Int32))).toInt.toNat then .int xb else (fun i => if i = ((0 : Int32)).toInt.toNat then .int xa else (fun _ => .int 0) i) i) i) i) xa T90.heap n0 Zs90 fE91 fF92 fF93 fV94 ne52 gn48 G52 (by decide) (by decide) rfl) hZ (hw _ (List.mem_of_getElem? (i := 23) rfl)) (hw _ (List.mem_of_getElem? (i := 2) rfl)) (by decide) (by decide)) qa96 qc96 (g := (mkF m 56 #[.val (.int xa), .val (.int xb), .val (.int xc), .val (.int xd), .val (.ref b48), .val (.int xc), .val (.int xb), .val (.int xd), .unset, .unset] [(.ref b48)])) rfl (by rw [hml]; rfl) (Steps.refl _) (argsL := []) (rest := []) (lenOf pd_ocI rfl) rfl (by show 2 * 0 + _ ≤ _; exact Nat.le_of_eq rfl) (hb hby at_56) (fun _ _ => ⟨rfl, rfl, (by decide : 2 + 0 ≤ _), (by decide : 18 + 0 ≤ _)⟩)
  dsimp only [Pt.U, Pt.locs, Pt.cells, Pt.slots] at X96 l96 y96 z96 st96 hQ96
  subst l96 y96 z96
  obtain ⟨rfl, N96q, Kc96, fE97, fF98, fF99⟩ := hQ96
  have N96 := Fr.app N90 N96q
  have Zs96 : n0 ≤ T96.heap.size := Nat.le_trans Zs90 Kc96.1
  have fV100 := fV94.keep Kc96 (ninS (Ne.symm ne52) nin0)
  have s101 : ∀ t, Steps p.tables e below (T96.setTop (mkF m 63 #[.val (.int xa), .val (.int xb), .val (.int xc), .val (.int xd), .val (.ref b48), .val (.int xc), .val (.int xb), .val (.int xd), .val (.int xa), .unset] [(.ref b48)])) t → Steps p.tables e below (T96.setTop (mkF m 59 #[.val (.int xa), .val (.int xb), .val (.int xc), .val (.int xd), .val (.ref b48), .val (.int xc), .val (.int xb), .val (.int xd), .unset, .unset] [(.int xa)])) t := by
    intro t kt
    refine XS.istore X96.here hx rfl (hb hby at_59) rfl (l' := #[.val (.int xa), .val (.int xb), .val (.int xc), .val (.int xd), .val (.ref b48), .val (.int xc), .val (.int xb), .val (.int xd), .val (.int xa), .unset]) rfl ?_
    show Steps p.tables e below (T96.setTop (mkF m 61 #[.val (.int xa), .val (.int xb), .val (.int xc), .val (.int xd), .val (.ref b48), .val (.int xc), .val (.int xb), .val (.int xd), .val (.int xa), .unset] [])) t
    refine XS.aload X96.here hx rfl (hb hby at_61) rfl rfl ?_
    exact kt
  obtain ⟨cq102, kq102, qa102, qb102, qc102⟩ := isOf hZ rfl fE97
  obtain ⟨_, _, ⟨T102, L102, k102, n102⟩, -, X102, ⟨Lc102, hQ102, l102, y102, z102⟩, st102⟩ := X96.virtualBack hx (y := (⟨"com/example/witness/witness/logic/IntStack", "size", "()I"⟩ : MethodName)) (z := (⟨"com/example/witness/witness/logic/IntStack", "size", "()I"⟩ : MethodName)) hown (mvT hZ (hw _ (List.mem_of_getElem? (i := 24) rfl))) (mvT hZ (hw _ (List.mem_of_getElem? (i := 25) rfl))) (notFace_of_selects (args := #[]) (mvT hZ (hw _ (List.mem_of_getElem? (i := 27) rfl)))) (mvT hZ (hw _ (List.mem_of_getElem? (i := 27) rfl))) (mvT hZ (hw _ (List.mem_of_getElem? (i := 26) rfl))) (by decide) (backOf (W := 0) (rm4 l Z a0 hw [] b48 (((((((((0 : Int32) + (1 : Int32)) + (1 : Int32)) + (1 : Int32)) - (1 : Int32)) - (1 : Int32)) + (1 : Int32)) - (1 : Int32)) - (1 : Int32)) T96.heap n0 Zs96 fF99) hZ (hw _ (List.mem_of_getElem? (i := 28) rfl)) (hw _ (List.mem_of_getElem? (i := 2) rfl)) (by decide) (by decide)) qa102 qc102 (g := (mkF m 63 #[.val (.int xa), .val (.int xb), .val (.int xc), .val (.int xd), .val (.ref b48), .val (.int xc), .val (.int xb), .val (.int xd), .val (.int xa), .unset] [(.ref b48)])) rfl (by rw [hml]; rfl) (Steps.refl _) (argsL := []) (rest := []) (lenOf pd_ocI rfl) rfl (by show 2 * 0 + _ ≤ _; exact Nat.le_of_eq rfl) (hb hby at_63) (fun _ _ => ⟨rfl, rfl, (by decide : 2 + 0 ≤ _), (by decide : 18 + 0 ≤ _)⟩)
  dsimp only [Pt.U, Pt.locs, Pt.cells, Pt.slots] at X102 l102 y102 z102 st102 hQ102
  subst l102 y102 z102
  obtain ⟨rfl, N102q, e102q⟩ := hQ102
  have N102 := Fr.app N96 N102q
  have s103 : ∀ t, Steps p.tables e below (T102.setTop (mkF m 102 #[.val (.int xa), .val (.int xb), .val (.int xc), .val (.int xd), .val (.ref b48), .val (.int xc), .val (.int xb), .val (.int xd), .val (.int xa), .val (.int (((((((((0 : Int32) + (1 : Int32)) + (1 : Int32)) + (1 : Int32)) - (1 : Int32)) - (1 : Int32)) + (1 : Int32)) - (1 : Int32)) - (1 : Int32)))] [(.int (1 : Int32))])) t → Steps p.tables e below (T102.setTop (mkF m 66 #[.val (.int xa), .val (.int xb), .val (.int xc), .val (.int xd), .val (.ref b48), .val (.int xc), .val (.int xb), .val (.int xd), .val (.int xa), .unset] [(.int (((((((((0 : Int32) + (1 : Int32)) + (1 : Int32)) + (1 : Int32)) - (1 : Int32)) - (1 : Int32)) + (1 : Int32)) - (1 : Int32)) - (1 : Int32)))])) t := by
    intro t kt
    refine XS.istore X102.here hx rfl (hb hby at_66) rfl (l' := #[.val (.int xa), .val (.int xb), .val (.int xc), .val (.int xd), .val (.ref b48), .val (.int xc), .val (.int xb), .val (.int xd), .val (.int xa), .val (.int (((((((((0 : Int32) + (1 : Int32)) + (1 : Int32)) + (1 : Int32)) - (1 : Int32)) - (1 : Int32)) + (1 : Int32)) - (1 : Int32)) - (1 : Int32)))]) rfl ?_
    show Steps p.tables e below (T102.setTop (mkF m 68 #[.val (.int xa), .val (.int xb), .val (.int xc), .val (.int xd), .val (.ref b48), .val (.int xc), .val (.int xb), .val (.int xd), .val (.int xa), .val (.int (((((((((0 : Int32) + (1 : Int32)) + (1 : Int32)) + (1 : Int32)) - (1 : Int32)) - (1 : Int32)) + (1 : Int32)) - (1 : Int32)) - (1 : Int32)))] [])) t
    refine XS.iload X102.here hx rfl (hb hby at_68) rfl ?_
    show Steps p.tables e below (T102.setTop (mkF m 70 #[.val (.int xa), .val (.int xb), .val (.int xc), .val (.int xd), .val (.ref b48), .val (.int xc), .val (.int xb), .val (.int xd), .val (.int xa), .val (.int (((((((((0 : Int32) + (1 : Int32)) + (1 : Int32)) + (1 : Int32)) - (1 : Int32)) - (1 : Int32)) + (1 : Int32)) - (1 : Int32)) - (1 : Int32)))] [(.int xc)])) t
    refine XS.iloadN X102.here hx rfl (hb hby at_70) rfl ?_
    show Steps p.tables e below (T102.setTop (mkF m 71 #[.val (.int xa), .val (.int xb), .val (.int xc), .val (.int xd), .val (.ref b48), .val (.int xc), .val (.int xb), .val (.int xd), .val (.int xa), .val (.int (((((((((0 : Int32) + (1 : Int32)) + (1 : Int32)) + (1 : Int32)) - (1 : Int32)) - (1 : Int32)) + (1 : Int32)) - (1 : Int32)) - (1 : Int32)))] [(.int xc), (.int xc)])) t
    refine XS.icmpNo X102.here hx rfl (hb hby at_71) rfl (teq rfl).2 ?_
    show Steps p.tables e below (T102.setTop (mkF m 74 #[.val (.int xa), .val (.int xb), .val (.int xc), .val (.int xd), .val (.ref b48), .val (.int xc), .val (.int xb), .val (.int xd), .val (.int xa), .val (.int (((((((((0 : Int32) + (1 : Int32)) + (1 : Int32)) + (1 : Int32)) - (1 : Int32)) - (1 : Int32)) + (1 : Int32)) - (1 : Int32)) - (1 : Int32)))] [])) t
    refine XS.iload X102.here hx rfl (hb hby at_74) rfl ?_
    show Steps p.tables e below (T102.setTop (mkF m 76 #[.val (.int xa), .val (.int xb), .val (.int xc), .val (.int xd), .val (.ref b48), .val (.int xc), .val (.int xb), .val (.int xd), .val (.int xa), .val (.int (((((((((0 : Int32) + (1 : Int32)) + (1 : Int32)) + (1 : Int32)) - (1 : Int32)) - (1 : Int32)) + (1 : Int32)) - (1 : Int32)) - (1 : Int32)))] [(.int xb)])) t
    refine XS.iloadN X102.here hx rfl (hb hby at_76) rfl ?_
    show Steps p.tables e below (T102.setTop (mkF m 77 #[.val (.int xa), .val (.int xb), .val (.int xc), .val (.int xd), .val (.ref b48), .val (.int xc), .val (.int xb), .val (.int xd), .val (.int xa), .val (.int (((((((((0 : Int32) + (1 : Int32)) + (1 : Int32)) + (1 : Int32)) - (1 : Int32)) - (1 : Int32)) + (1 : Int32)) - (1 : Int32)) - (1 : Int32)))] [(.int xb), (.int xb)])) t
    refine XS.icmpNo X102.here hx rfl (hb hby at_77) rfl (teq rfl).2 ?_
    show Steps p.tables e below (T102.setTop (mkF m 80 #[.val (.int xa), .val (.int xb), .val (.int xc), .val (.int xd), .val (.ref b48), .val (.int xc), .val (.int xb), .val (.int xd), .val (.int xa), .val (.int (((((((((0 : Int32) + (1 : Int32)) + (1 : Int32)) + (1 : Int32)) - (1 : Int32)) - (1 : Int32)) + (1 : Int32)) - (1 : Int32)) - (1 : Int32)))] [])) t
    refine XS.iload X102.here hx rfl (hb hby at_80) rfl ?_
    show Steps p.tables e below (T102.setTop (mkF m 82 #[.val (.int xa), .val (.int xb), .val (.int xc), .val (.int xd), .val (.ref b48), .val (.int xc), .val (.int xb), .val (.int xd), .val (.int xa), .val (.int (((((((((0 : Int32) + (1 : Int32)) + (1 : Int32)) + (1 : Int32)) - (1 : Int32)) - (1 : Int32)) + (1 : Int32)) - (1 : Int32)) - (1 : Int32)))] [(.int xd)])) t
    refine XS.iloadN X102.here hx rfl (hb hby at_82) rfl ?_
    show Steps p.tables e below (T102.setTop (mkF m 83 #[.val (.int xa), .val (.int xb), .val (.int xc), .val (.int xd), .val (.ref b48), .val (.int xc), .val (.int xb), .val (.int xd), .val (.int xa), .val (.int (((((((((0 : Int32) + (1 : Int32)) + (1 : Int32)) + (1 : Int32)) - (1 : Int32)) - (1 : Int32)) + (1 : Int32)) - (1 : Int32)) - (1 : Int32)))] [(.int xd), (.int xd)])) t
    refine XS.icmpNo X102.here hx rfl (hb hby at_83) rfl (teq rfl).2 ?_
    show Steps p.tables e below (T102.setTop (mkF m 86 #[.val (.int xa), .val (.int xb), .val (.int xc), .val (.int xd), .val (.ref b48), .val (.int xc), .val (.int xb), .val (.int xd), .val (.int xa), .val (.int (((((((((0 : Int32) + (1 : Int32)) + (1 : Int32)) + (1 : Int32)) - (1 : Int32)) - (1 : Int32)) + (1 : Int32)) - (1 : Int32)) - (1 : Int32)))] [])) t
    refine XS.iload X102.here hx rfl (hb hby at_86) rfl ?_
    show Steps p.tables e below (T102.setTop (mkF m 88 #[.val (.int xa), .val (.int xb), .val (.int xc), .val (.int xd), .val (.ref b48), .val (.int xc), .val (.int xb), .val (.int xd), .val (.int xa), .val (.int (((((((((0 : Int32) + (1 : Int32)) + (1 : Int32)) + (1 : Int32)) - (1 : Int32)) - (1 : Int32)) + (1 : Int32)) - (1 : Int32)) - (1 : Int32)))] [(.int xa)])) t
    refine XS.iloadN X102.here hx rfl (hb hby at_88) rfl ?_
    show Steps p.tables e below (T102.setTop (mkF m 89 #[.val (.int xa), .val (.int xb), .val (.int xc), .val (.int xd), .val (.ref b48), .val (.int xc), .val (.int xb), .val (.int xd), .val (.int xa), .val (.int (((((((((0 : Int32) + (1 : Int32)) + (1 : Int32)) + (1 : Int32)) - (1 : Int32)) - (1 : Int32)) + (1 : Int32)) - (1 : Int32)) - (1 : Int32)))] [(.int xa), (.int xa)])) t
    refine XS.icmpNo X102.here hx rfl (hb hby at_89) rfl (teq rfl).2 ?_
    show Steps p.tables e below (T102.setTop (mkF m 92 #[.val (.int xa), .val (.int xb), .val (.int xc), .val (.int xd), .val (.ref b48), .val (.int xc), .val (.int xb), .val (.int xd), .val (.int xa), .val (.int (((((((((0 : Int32) + (1 : Int32)) + (1 : Int32)) + (1 : Int32)) - (1 : Int32)) - (1 : Int32)) + (1 : Int32)) - (1 : Int32)) - (1 : Int32)))] [])) t
    refine XS.iload X102.here hx rfl (hb hby at_92) rfl ?_
    show Steps p.tables e below (T102.setTop (mkF m 94 #[.val (.int xa), .val (.int xb), .val (.int xc), .val (.int xd), .val (.ref b48), .val (.int xc), .val (.int xb), .val (.int xd), .val (.int xa), .val (.int (((((((((0 : Int32) + (1 : Int32)) + (1 : Int32)) + (1 : Int32)) - (1 : Int32)) - (1 : Int32)) + (1 : Int32)) - (1 : Int32)) - (1 : Int32)))] [(.int (((((((((0 : Int32) + (1 : Int32)) + (1 : Int32)) + (1 : Int32)) - (1 : Int32)) - (1 : Int32)) + (1 : Int32)) - (1 : Int32)) - (1 : Int32)))])) t
    refine XS.ifNo X102.here hx rfl (hb hby at_94) rfl ((if0 _ _).trans (teq (by decide)).2) ?_
    show Steps p.tables e below (T102.setTop (mkF m 97 #[.val (.int xa), .val (.int xb), .val (.int xc), .val (.int xd), .val (.ref b48), .val (.int xc), .val (.int xb), .val (.int xd), .val (.int xa), .val (.int (((((((((0 : Int32) + (1 : Int32)) + (1 : Int32)) + (1 : Int32)) - (1 : Int32)) - (1 : Int32)) + (1 : Int32)) - (1 : Int32)) - (1 : Int32)))] [])) t
    refine XS.iconst X102.here hx rfl (hb hby at_97) ?_
    show Steps p.tables e below (T102.setTop (mkF m 98 #[.val (.int xa), .val (.int xb), .val (.int xc), .val (.int xd), .val (.ref b48), .val (.int xc), .val (.int xb), .val (.int xd), .val (.int xa), .val (.int (((((((((0 : Int32) + (1 : Int32)) + (1 : Int32)) + (1 : Int32)) - (1 : Int32)) - (1 : Int32)) + (1 : Int32)) - (1 : Int32)) - (1 : Int32)))] [(.int (1 : Int32))])) t
    refine XS.goto X102.here hx rfl (pc0 := 98) (pc' := 102) rfl (hb hby at_98) (by decide) (by decide) ?_
    exact kt
  obtain ⟨fs_, hr, hrun, hended, hW, hsame⟩ := X102.leave (v := some (.int (1 : Int32))) (fun h => by rw [Bd.returns] at h; cases h)
  refine ⟨_, _, pre0 _ (st48 _ (s51 _ (st52.trans (s53 _ (st54.trans (s59 _ (st60.trans (s65 _ (st66.trans (s71 _ (st72.trans (s77 _ (st78.trans (s83 _ (st84.trans (s89 _ (st90.trans (s95 _ (st96.trans (s101 _ (st102.trans (s103 _ (?_))))))))))))))))))))))), hrun, hended, _, _, rfl, ?_, ⟨_, rfl⟩, hW, hsame.mono (by decide) (by decide)⟩
  · show Steps p.tables e below (T102.setTop (mkF m 102 #[.val (.int xa), .val (.int xb), .val (.int xc), .val (.int xd), .val (.ref b48), .val (.int xc), .val (.int xb), .val (.int xd), .val (.int xa), .val (.int (((((((((0 : Int32) + (1 : Int32)) + (1 : Int32)) + (1 : Int32)) - (1 : Int32)) - (1 : Int32)) + (1 : Int32)) - (1 : Int32)) - (1 : Int32)))] [(.int (1 : Int32))])) _
    exact retN X102 hx (t := .boolean) Bd.returns (by simp) (hb hby at_102) hr
  · show Q0 Z xa xb xc xd h0 n0 _ T102.heap _
    rw [e102q]
    exact ⟨rfl, N102⟩
set_option maxRecDepth 65536 in
set_option maxHeartbeats 40000000 in
theorem comes_1 {Post : Tables → Env → Array Value → State → Outcome → State → Prop} (hpost : ∀ tb e args s v u, (limb_1_1.after args s (.returned v) u = true ∧ limb_1_2.after args s (.returned v) u = true ∧ True) → FrameEnd s (.returned v) u (Jvm.fieldLocs frame_1_writes args s ++ Jvm.arrayLocs frame_1_arrays args s ++ Jvm.staticLocs frame_1_statics s) 16 128 → Post tb e args s (.returned v) u) :
    ArmFor flags0 classFile x code maxLocals ret World_1 tables_1 room_1 Calls_1 rest_1 Pre_1 Post := by
  intro l hfl _ _ p e ha hc hk s m args below hf hA hF happ hP
  obtain ⟨hcalls, hrest, hpre⟩ := hP
  obtain ⟨-, -, -, hnamed, -, -, -, hat⟩ := (Spec.applies_iff hf).mp happ
  obtain ⟨hg, hn⟩ := and_e (Cond.before_iff.mp (show (Jvm.Cond.and given_1 narrow_1).before args s = true from hpre))
  obtain ⟨ha0, hb0⟩ := and_e hg
  obtain ⟨ha1, hb1⟩ := and_e hb0
  obtain ⟨ha2, hb2⟩ := and_e hb1
  obtain ⟨ha3, hb3⟩ := and_e hb2
  obtain ⟨w0, w1, w2, w3, rfl⟩ : ∃ w0 w1 w2 w3 : Value, args = #[w0, w1, w2, w3] := by
    have hs : args.size = 4 := by simpa [Cond.value, given_1] using ha0
    obtain ⟨L⟩ := args
    match L, hs with
    | [w0, w1, w2, w3], _ => exact ⟨w0, w1, w2, w3, rfl⟩
  have hw := fun d (hd : d ∈ tables_1) => atoms_spec (ws := Jvm.Cond.code x code maxLocals ret :: tables_1) hat d (List.mem_cons_of_mem _ hd)
  obtain ⟨i0, ei0⟩ := is_v ha1
  obtain rfl : w0 = (.int i0) := Option.some.inj ei0
  obtain ⟨i1, ei1⟩ := is_v ha2
  obtain rfl : w1 = (.int i1) := Option.some.inj ei1
  obtain ⟨i2, ei2⟩ := is_v ha3
  obtain rfl : w2 = (.int i2) := Option.some.inj ei2
  obtain ⟨i3, ei3⟩ := is_v hb3
  obtain rfl : w3 = (.int i3) := Option.some.inj ei3
  obtain ⟨n, o, h1, h2, h3, _, L, rfl, ⟨rfl, N⟩, hq⟩ := rm0 l s _ hw tables_1 i0 i1 i2 i3 s.heap s.heap.size (Nat.le_refl _)  p e ha hc hk s m _ below hf ((Spec.applies_iff_loose hf).mp happ).1 ⟨rfl, State.Warmed39.refl s, rfl⟩ trivial
  refine ⟨n, _, h1, h2, h3, hpost _ _ _ _ _ _ ⟨Cond.after_iff.mpr rfl, Cond.after_iff.mpr (eq_i res_at (Term.int_eval (1)) rfl), trivial⟩ ⟨hq.1, hq.2.1, (hq.2.2.sift fun y hy => Or.inr (N y hy)).mono (by decide) (by decide)⟩⟩
theorem main_1_1 : Claimed_1_1 := comes_1 fun _ _ _ _ _ _ h hF => ⟨h.1, hF⟩
theorem main_1_2 : Claimed_1_2 := comes_1 fun _ _ _ _ _ _ h hF => ⟨h.2.1, hF⟩
end Jvm.Pilot.@@N@@
namespace Jvm.Pilot.@@N@@
open Jvm Jvm.ClassFile Sem Op Lib Jvm.Free Jvm.Stand Jvm.Pilot.@@N@@.Jvm.D
/-! MADE BY PROGRAM (witnessworld.py) out of the Statement's table words and the real class files: 9 classes; the members and pool entries that the words name. The judged class is class 1, her method 1. -/
namespace start1
open Jvm.ClassFile
def u (s : String) : CpInfo := .utf8 (stringToUtf16 s)
/-- a pool by its gaps: so many unusable entries, then the entry; so many at the end -/
def gap : Nat → List CpInfo → List CpInfo
  | 0, r => r
  | n + 1, r => .unusable :: gap n r
def poolList (es : List (Nat × CpInfo)) (last : Nat) : List CpInfo := es.foldr (fun e r => gap e.1 (e.2 :: r)) (gap last [])
def pool (es : List (Nat × CpInfo)) (last : Nat) : Array CpInfo := ⟨poolList es last⟩
def fileOf (pool : Array CpInfo) (this : Nat) (attrs : Array Attribute := #[]) (ms : Array MethodInfo := #[]) (fl : Nat := 33) (sup : Nat := 0) (ifs : Array Nat := #[]) (fds : Array FieldInfo := #[]) : ClassFile where
  minorVersion := 0
  majorVersion := 65
  constantPool := pool
  accessFlags := fl
  thisClass := this
  superClass := sup
  interfaces := ifs
  fields := fds
  methods := ms
  attributes := attrs
def plain (name : String) (sup : Option ClassId) : Class where
  name := name
  kind := .ordinary
  loader := none
  accessFlags := 33
  super := sup
  interfaces := #[]
  cf := none
  fields := #[]
  methods := #[]
  instanceTypes := #[]
  staticTypes := #[]
  resolved := #[]
  callSites := []
  init := .initialized
  statics := none
  mirror := none

def pool0 : Array CpInfo := pool [(5, u "<init>"), (0, u "()V"), (1, .class_ 10), (1, u "java/lang/Object")] 113

def k0c0 : Code := { maxStack := 0, maxLocals := 1, code := object_method_1_code, exceptionTable := #[], attributes := #[] }
def k0m0 : Method := { name := "<init>", desc := "()V", sig := { parameters := [], returnType := none }, accessFlags := 1, code := some k0c0 }
/-- java/lang/Object -/
def k0 : Class := { plain "java/lang/Object" none with
  accessFlags := 33
  interfaces := #[]
  cf := some (fileOf pool0 8 #[] #[{ accessFlags := 1, nameIndex := 5, descriptorIndex := 6, attributes := #[] }] 33 0 #[] #[])
  fields := #[]
  methods := #[k0m0]
  instanceTypes := #[]
  staticTypes := #[]
  resolved := Array.replicate 124 none
  statics := none }

def pool1 : Array CpInfo := pool [(2, .class_ 4), (0, .nameAndType 5 6), (0, u "java/lang/Object"), (0, u "<init>"), (0, u "()V"), (0, .class_ 8), (0, u "com/example/witness/witness/logic/IntStack"), (0, .methodref 7 3), (0, .methodref 7 11), (0, .nameAndType 12 13), (0, u "push"), (0, u "(I)V"), (0, .methodref 7 15), (0, .nameAndType 16 17), (0, u "pop"), (0, u "()I"), (0, .methodref 7 19), (0, .nameAndType 20 17), (0, u "size"), (0, .class_ 22), (0, u "com/example/witness/witness/logic/IntStackPopPinLaw"), (2, u "law"), (0, u "(IIII)Z")] 3

def k1m0 : Method := { name := "<init>", desc := "()V", sig := { parameters := [], returnType := none }, accessFlags := 1, code := none }
def k1c1 : Code := { maxStack := 2, maxLocals := 10, code := code, exceptionTable := #[], attributes := #[] }
def k1m1 : Method := { name := "law", desc := "(IIII)Z", sig := { parameters := [.int, .int, .int, .int], returnType := some .boolean }, accessFlags := 9, code := some k1c1 }
/-- com/example/witness/witness/logic/IntStackPopPinLaw -/
def k1 : Class := { plain "com/example/witness/witness/logic/IntStackPopPinLaw" (some 0) with
  accessFlags := 49
  interfaces := #[]
  cf := some (fileOf pool1 21 #[] #[{ accessFlags := 1, nameIndex := 5, descriptorIndex := 6, attributes := #[] }, { accessFlags := 9, nameIndex := 25, descriptorIndex := 26, attributes := #[] }] 49 2 #[] #[])
  fields := #[]
  methods := #[k1m0, k1m1]
  instanceTypes := #[]
  staticTypes := #[]
  resolved := Array.replicate 30 none
  statics := none }

def pool2 : Array CpInfo := pool [(1, .methodref 2 3), (0, .class_ 4), (0, .nameAndType 5 6), (0, u "java/lang/Object"), (0, u "<init>"), (0, u "()V"), (0, .fieldref 8 9), (0, .class_ 10), (0, .nameAndType 11 12), (0, u "com/example/witness/witness/logic/IntStack"), (0, u "items"), (0, u "[I"), (0, .fieldref 8 14), (0, .nameAndType 15 16), (0, u "size"), (0, u "I"), (8, u "push"), (0, u "(I)V"), (1, u "pop"), (0, u "()I")] 6

def k2c0 : Code := { maxStack := 2, maxLocals := 1, code := prog_91_method_1_code, exceptionTable := #[], attributes := #[] }
def k2m0 : Method := { name := "<init>", desc := "()V", sig := { parameters := [], returnType := none }, accessFlags := 0, code := some k2c0 }
def k2c1 : Code := { maxStack := 5, maxLocals := 2, code := prog_91_method_2_code, exceptionTable := #[], attributes := #[] }
def k2m1 : Method := { name := "push", desc := "(I)V", sig := { parameters := [.int], returnType := none }, accessFlags := 0, code := some k2c1 }
def k2c2 : Code := { maxStack := 4, maxLocals := 1, code := prog_91_method_3_code, exceptionTable := #[], attributes := #[] }
def k2m2 : Method := { name := "pop", desc := "()I", sig := { parameters := [], returnType := some .int }, accessFlags := 0, code := some k2c2 }
def k2c3 : Code := { maxStack := 1, maxLocals := 1, code := prog_91_method_6_code, exceptionTable := #[], attributes := #[] }
def k2m3 : Method := { name := "size", desc := "()I", sig := { parameters := [], returnType := some .int }, accessFlags := 0, code := some k2c3 }
/-- com/example/witness/witness/logic/IntStack -/
def k2 : Class := { plain "com/example/witness/witness/logic/IntStack" (some 0) with
  accessFlags := 32
  interfaces := #[]
  cf := some (fileOf pool2 8 #[] #[{ accessFlags := 0, nameIndex := 5, descriptorIndex := 6, attributes := #[] }, { accessFlags := 0, nameIndex := 25, descriptorIndex := 26, attributes := #[] }, { accessFlags := 0, nameIndex := 28, descriptorIndex := 29, attributes := #[] }, { accessFlags := 0, nameIndex := 15, descriptorIndex := 29, attributes := #[] }] 32 2 #[] #[{ accessFlags := 2, nameIndex := 11, descriptorIndex := 12, attributes := #[] }, { accessFlags := 2, nameIndex := 15, descriptorIndex := 16, attributes := #[] }])
  fields := #[{ name := "items", type := (.array .int), accessFlags := 2, slot := 0, constantValue := 0 }, { name := "size", type := .int, accessFlags := 2, slot := 1, constantValue := 0 }]
  methods := #[k2m0, k2m1, k2m2, k2m3]
  instanceTypes := #[(.array .int), .int]
  staticTypes := #[]
  resolved := Array.replicate 36 none
  statics := none }

def pool3 : Array CpInfo := pool [(1, u "java/lang/Cloneable"), (0, .class_ 1), (0, u "java/lang/Object"), (0, .class_ 3)] 3

/-- java/lang/Cloneable -/
def k3 : Class := { plain "java/lang/Cloneable" (some 0) with
  accessFlags := 1537
  interfaces := #[]
  cf := some (fileOf pool3 2 #[] #[] 1537 4 #[] #[])
  fields := #[]
  methods := #[]
  instanceTypes := #[]
  staticTypes := #[]
  resolved := Array.replicate 8 none
  statics := none }

def pool4 : Array CpInfo := pool [(1, u "java/io/Serializable"), (0, .class_ 1), (0, u "java/lang/Object"), (0, .class_ 3)] 3

/-- java/io/Serializable -/
def k4 : Class := { plain "java/io/Serializable" (some 0) with
  accessFlags := 1537
  interfaces := #[]
  cf := some (fileOf pool4 2 #[] #[] 1537 4 #[] #[])
  fields := #[]
  methods := #[]
  instanceTypes := #[]
  staticTypes := #[]
  resolved := Array.replicate 8 none
  statics := none }

/-- the primitive byte -/
def k5 : Class := { plain "byte" none with kind := .primitive 'B', accessFlags := 0x411 }
/-- [B -/
def k6 : Class := { plain "[B" (some 0) with kind := .array 5 .byte, interfaces := #[3, 4], accessFlags := 1041 }

/-- the primitive int -/
def k7 : Class := { plain "int" none with kind := .primitive 'I', accessFlags := 0x411 }
/-- [I -/
def k8 : Class := { plain "[I" (some 0) with kind := .array 7 .int, interfaces := #[3, 4], accessFlags := 1041 }

def heap : Heap := #[]
def classes : Array Class := #[k0, k1, k2, k3, k4, k5, k6, k7, k8]
def interned : List (Array UInt16 × Addr) := []
def slotsUsed : Nat := 0
def theMethod : MethodId := ⟨1, 1⟩
def args0 : Array Value := #[.int 5, .int 6, .int 7, .int 8]
def aboutOver (below : List Frame) : State where
  vm := { classes := classes, interned := interned.toArray }
  heap := heap
  slotsUsed := slotsUsed
  threads := #[{ frames := .invoking theMethod args0 :: below }]
def below0 : List Frame := [.native { method := ⟨0, 0⟩, args := #[] }]
def about1 : State := aboutOver below0
def p0 : Program := .bare "" "" ""
def e0 : Env := launch0.env 0 0 0
theorem w_frames : about1.frames = Frame.invoking theMethod args0 :: below0 := rfl
set_option maxRecDepth 65536 in
theorem w_args : argsFit about1.vm theMethod args0 = true := by decide +kernel
set_option maxRecDepth 65536 in
theorem w_heap : heapFits about1 = true := by decide +kernel
set_option maxRecDepth 65536 in
theorem w_runnable : about1.curStatus? = some .runnable := by decide +kernel
set_option maxRecDepth 65536 in
theorem w_alone : about1.alone = true := by decide +kernel
set_option maxRecDepth 65536 in
theorem w_named : about1.methodNamed? x = some theMethod := by decide +kernel
set_option maxRecDepth 65536 in
theorem w_hears : about1.hears theMethod below0 = true := by decide +kernel
set_option maxRecDepth 65536 in
theorem w_ripe : about1.ripe theMethod args0 below0 = true := by decide +kernel
theorem w_running : about1.status = .running := rfl
set_option maxRecDepth 65536 in
theorem w_room : about1.hasRoom e0.platform room_1 = true :=
  launch0.hasRoom_least _ room_1 (by decide +kernel) (by decide +kernel) (by decide +kernel) (by decide +kernel) (by decide +kernel) (by decide +kernel)
theorem allAtoms_all (ts : List Jvm.Cond) (a : Array Jvm.Value) (st : Jvm.State) : (allAtoms ts).before a st = ts.all (fun c => c.before a st) := by
  induction ts with
  | nil => rfl
  | cons c t ih =>
    show (Jvm.Cond.and c (allAtoms t)).before a st = _
    rw [Jvm.Cond.before_and, ih, List.all_cons]
def words1 : List Jvm.Cond := Jvm.Cond.code x code maxLocals ret :: tables_1
/-- a 'code' word, met by the world's own term for the bytes: nothing is compared byte by byte -/
theorem code_word {y : MethodName} {bytes : ByteArray} {mx : Nat} {rt : Option FieldType} {a : Array Value} {s : State} {m : MethodId} {meth : Method} {c : Code} (h1 : s.methodNamed? y = some m) (h2 : s.vm.method? m = some meth) (h3 : meth.code = some c) (h4 : c.code = bytes)
    (h5 : (c.maxLocals == mx && c.exceptionTable.isEmpty && decide (c.maxStack ≤ mostOperands) && decide (meth.sig.returnType = rt) && !meth.locks && decide (parseMethodDescriptor y.desc = some meth.sig)) = true) : (Jvm.Cond.code y bytes mx rt).before a s = true := by
  simp only [Bool.and_eq_true, beq_iff_eq, Bool.not_eq_true', decide_eq_true_eq] at h5
  obtain ⟨⟨⟨⟨⟨g1, g2⟩, g3⟩, g4⟩, g5⟩, g6⟩ := h5
  simp [Cond.before, Cond.holds, Cond.value, h1, h2, h3, h4, g1, g2, g3, g4, g5, g6]
def isCode : Jvm.Cond → Bool
  | .code _ _ _ _ => true
  | _ => false
theorem all_split {L : List Jvm.Cond} {P : Jvm.Cond → Bool} (h1 : L.all (fun c => isCode c || P c) = true) (h2 : ∀ c ∈ L.filter isCode, P c = true) : L.all P = true := by
  refine List.all_eq_true.mpr fun c hc => ?_
  have h := List.all_eq_true.mp h1 c hc
  rcases Bool.eq_false_or_eq_true (isCode c) with hi | hi
  · exact h2 c (List.mem_filter.mpr ⟨hc, hi⟩)
  · simpa [hi] using h
set_option maxRecDepth 65536 in
theorem w_c0 : (Jvm.Cond.code x code maxLocals ret).before args0 about1 = true := code_word (m := ⟨1, 1⟩) (meth := k1m1) (c := k1c1) (by decide +kernel) rfl rfl rfl (by decide +kernel)
set_option maxRecDepth 65536 in
theorem w_c1 : (Jvm.Cond.code ({ cls := "com/example/witness/witness/logic/IntStack", name := "<init>", desc := "()V" } : Jvm.MethodName) prog_91_method_1_code (1 : Nat) (Option.none : Option Jvm.ClassFile.FieldType)).before args0 about1 = true := code_word (m := ⟨2, 0⟩) (meth := k2m0) (c := k2c0) (by decide +kernel) rfl rfl rfl (by decide +kernel)
set_option maxRecDepth 65536 in
theorem w_c2 : (Jvm.Cond.code ({ cls := "java/lang/Object", name := "<init>", desc := "()V" } : Jvm.MethodName) object_method_1_code (1 : Nat) (Option.none : Option Jvm.ClassFile.FieldType)).before args0 about1 = true := code_word (m := ⟨0, 0⟩) (meth := k0m0) (c := k0c0) (by decide +kernel) rfl rfl rfl (by decide +kernel)
set_option maxRecDepth 65536 in
theorem w_c3 : (Jvm.Cond.code ({ cls := "com/example/witness/witness/logic/IntStack", name := "push", desc := "(I)V" } : Jvm.MethodName) prog_91_method_2_code (2 : Nat) (Option.none : Option Jvm.ClassFile.FieldType)).before args0 about1 = true := code_word (m := ⟨2, 1⟩) (meth := k2m1) (c := k2c1) (by decide +kernel) rfl rfl rfl (by decide +kernel)
set_option maxRecDepth 65536 in
theorem w_c4 : (Jvm.Cond.code ({ cls := "com/example/witness/witness/logic/IntStack", name := "pop", desc := "()I" } : Jvm.MethodName) prog_91_method_3_code (1 : Nat) (Option.some Jvm.ClassFile.FieldType.int)).before args0 about1 = true := code_word (m := ⟨2, 2⟩) (meth := k2m2) (c := k2c2) (by decide +kernel) rfl rfl rfl (by decide +kernel)
set_option maxRecDepth 65536 in
theorem w_c5 : (Jvm.Cond.code ({ cls := "com/example/witness/witness/logic/IntStack", name := "size", desc := "()I" } : Jvm.MethodName) prog_91_method_6_code (1 : Nat) (Option.some Jvm.ClassFile.FieldType.int)).before args0 about1 = true := code_word (m := ⟨2, 3⟩) (meth := k2m3) (c := k2c3) (by decide +kernel) rfl rfl rfl (by decide +kernel)
def codes1 : List Jvm.Cond := [Jvm.Cond.code x code maxLocals ret, Jvm.Cond.code ({ cls := "com/example/witness/witness/logic/IntStack", name := "<init>", desc := "()V" } : Jvm.MethodName) prog_91_method_1_code (1 : Nat) (Option.none : Option Jvm.ClassFile.FieldType), Jvm.Cond.code ({ cls := "java/lang/Object", name := "<init>", desc := "()V" } : Jvm.MethodName) object_method_1_code (1 : Nat) (Option.none : Option Jvm.ClassFile.FieldType), Jvm.Cond.code ({ cls := "com/example/witness/witness/logic/IntStack", name := "push", desc := "(I)V" } : Jvm.MethodName) prog_91_method_2_code (2 : Nat) (Option.none : Option Jvm.ClassFile.FieldType), Jvm.Cond.code ({ cls := "com/example/witness/witness/logic/IntStack", name := "pop", desc := "()I" } : Jvm.MethodName) prog_91_method_3_code (1 : Nat) (Option.some Jvm.ClassFile.FieldType.int), Jvm.Cond.code ({ cls := "com/example/witness/witness/logic/IntStack", name := "size", desc := "()I" } : Jvm.MethodName) prog_91_method_6_code (1 : Nat) (Option.some Jvm.ClassFile.FieldType.int)]
set_option maxRecDepth 65536 in
theorem codes_eq : words1.filter isCode = codes1 := rfl
theorem w_codes : ∀ c ∈ words1.filter isCode, c.before args0 about1 = true := by
  rw [codes_eq]
  intro c hc
  simp only [codes1, List.mem_cons, List.not_mem_nil, or_false] at hc
  rcases hc with rfl | rfl | rfl | rfl | rfl | rfl
  · exact w_c0
  · exact w_c1
  · exact w_c2
  · exact w_c3
  · exact w_c4
  · exact w_c5
set_option maxRecDepth 65536 in
theorem w_t1 : (words1.take 24).all (fun c => isCode c || c.before args0 about1) = true := by decide +kernel
set_option maxRecDepth 65536 in
theorem w_t2 : (words1.drop 24).all (fun c => isCode c || c.before args0 about1) = true := by decide +kernel
theorem w_tables : (allAtoms (Jvm.Cond.code x code maxLocals ret :: tables_1)).before args0 about1 = true := by
  rw [allAtoms_all]
  show words1.all (fun c => c.before args0 about1) = true
  refine all_split ?_ w_codes
  rw [← List.take_append_drop 24 words1, List.all_append, w_t1, w_t2]
  rfl
set_option maxRecDepth 65536 in
theorem w_case : (Jvm.Cond.and given_1 narrow_1).before args0 about1 = true := by decide +kernel
theorem w_applies : (headSpec (Jvm.Cond.code x code maxLocals ret :: tables_1) room_1).applies x e0.platform about1 = true :=
  (Spec.applies_iff w_frames).mpr ⟨w_running, w_runnable, w_alone, w_named, w_hears, w_ripe, w_room, w_tables⟩
theorem atStart : AtStart classFile x code maxLocals ret World_1 tables_1 room_1 Calls_1 rest_1 Pre_1 launch0 p0 e0 about1 theMethod args0 below0 :=
  ⟨lists_1, trivial, launch0.admits_env _ _ _, launch0.least_env, fairChoices_fair.cas, fairChoices_fair.clock, w_frames, w_args, w_heap, w_applies, trivial, trivial, w_case⟩
end start1
theorem witness_1 : WitnessClaimed_1 := ⟨start1.p0, start1.e0, start1.about1, start1.theMethod, start1.args0, start1.below0, start1.atStart⟩
end Jvm.Pilot.@@N@@
