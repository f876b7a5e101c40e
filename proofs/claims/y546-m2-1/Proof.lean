import JvmDerived
import JvmDerived.Pilot.@@N@@Statement
import JvmDerived.Pilot.@@N@@Code
set_option linter.unusedVariables false
set_option linter.unusedSimpArgs false

namespace Jvm.RoadKit
open Sem ClassFile Op Lib Jvm.Stand Jvm.Free Jvm.LawKit
section New
variable {p : Program} {l : Launch} {e : Env} {R : Room} {s : State} {m : MethodId} {args : Array Value} {below : List Frame} {meth : Method} {c : Code} {T : State} {locs : List Loc} {cells slots : Nat}
theorem retI (X : Stand p l e R s m args below meth c T locs cells slots) (hx : p.tables.exec = Jvm.exec) {pc : Nat} {Ls : Array Slot} {z : Int32} {rest : List Value} (hret : meth.sig.returnType = some .int) (hd : decode c.code pc = .ok (.ireturn, 1)) {fs : List Frame}
    (hl : ∀ (f : JFrame) (acts : List Action), f.method = m → f.locked = none → f.entered = [] → (doReturn e (T.setTop f) acts (some (.int z))).1 = T.setFrames fs) : Steps p.tables e below (T.setTop (mkF m pc Ls (.int z :: rest))) (T.setFrames fs) := by
  have hm' : T.vm.method? m = some meth := X.method'
  have hn : narrow .int (.int z) = .int z := rfl
  show Steps p.tables e below (T.setTop { method := m, pc := pc, locals := Ls, stack := _ :: rest, locked := none }) _
  jvm_step X.here [X.here.top, hx, hd, hm', hret, hn]
  first | (intro acts; rw [hl _ acts rfl rfl rfl]) | rw [hl _ _ rfl rfl rfl]
  exact Steps.refl _
end New
end Jvm.RoadKit
namespace Jvm.OwnKit
open Sem ClassFile Op Lib Jvm.Stand Jvm.Free Jvm.LawKit Jvm.RoadKit
section OwnLayer
variable {p : Program} {l : Launch} {e : Env} {R : Room} {s : State} {m : MethodId} {args : Array Value} {below : List Frame} {meth : Method} {c : Code} {T : State} {locs : List Loc} {cells slots : Nat} {Z : State} {h h' : Heap} {a b : Addr} {ty : FieldType} {n sl : Nat} {f : Nat → Value} {v : Value} {ws : List Addr}
/-- an array of n places, place j holding f j -/
def Ar (Z : State) (h : Heap) (a : Addr) (ty : FieldType) (n : Nat) (f : Nat → Value) : Prop := ∃ c : Cell, Arr Z h a c ty ∧ c.slots.size = n ∧ n < 2147483648 ∧ ∀ j, j < n → c.slots[j]? = some (f j)
theorem Ar.lt (F : Ar Z h a ty n f) : a < h.size := by obtain ⟨c, A, -⟩ := F; exact A.lt
theorem Ar.ext (F : Ar Z h a ty n f) (E : Ext h h') : Ar Z h' a ty n f := by obtain ⟨c, A, r⟩ := F; exact ⟨c, A.ext E, r⟩
theorem Ar.other (F : Ar Z h b ty n f) (W : Wr h h' a sl v) (q : b ≠ a) : Ar Z h' b ty n f := by obtain ⟨c, A, r⟩ := F; exact ⟨c, A.other W q, r⟩
theorem Ar.keep (F : Ar Z h a ty n f) (K : Keep h h' ws) (q : a ∉ ws) : Ar Z h' a ty n f := by obtain ⟨c, A, r⟩ := F; exact ⟨c, ⟨K.2.1 a c A.1 q, A.2⟩, r⟩
theorem Ar.as (F : Ar Z h a ty n f) {g : Nat → Value} (e : ∀ j, j < n → f j = g j) : Ar Z h a ty n g := by
  obtain ⟨c, A, r1, r2, r3⟩ := F; exact ⟨c, A, r1, r2, fun j hj => by rw [r3 j hj, e j hj]⟩
theorem nat_clamp (j : Int32) : j.toNatClampNeg = j.toInt.toNat := rfl
theorem Ar.new {k : ClassId} {z : Int32} {N : Nat} (A : Arr Z h a (newA k ty z) ty) (q : ¬ z < 0) (hN : z.toInt.toNat = N) : Ar Z h a ty N (fun _ => defaultValue ty) := by
  have hs : (newA k ty z).slots.size = N := by rw [sz_new, nat_clamp, hN]
  refine ⟨_, A, hs, ?_, fun j hj => ?_⟩
  · have := z.toInt_lt; omega
  · show (Array.replicate z.toNatClampNeg (defaultValue ty))[j]? = _
    rw [Array.getElem?_replicate, if_pos (by rw [nat_clamp, hN]; exact hj)]
theorem ar_in {c : Cell} {j : Int32} (hs : c.slots.size = n) (h0 : 0 ≤ j.toInt) (h1 : j.toInt < n) : ¬ (j < 0 ∨ c.slots.size ≤ j.toNatClampNeg) := by
  rw [hs, nat_clamp, Int32.lt_iff_toInt_lt]
  show ¬ (j.toInt < 0 ∨ n ≤ j.toInt.toNat)
  omega
theorem Ar.set {c : Cell} {j : Int32} (A : Arr Z h a c ty) (hs : c.slots.size = n) (hn : n < 2147483648) (H : ∀ j, j < n → c.slots[j]? = some (f j)) (h0 : 0 ≤ j.toInt) (h1 : j.toInt < n) (W : Wr h h' a j.toNatClampNeg v) : Ar Z h' a ty n (fun i => if i = j.toInt.toNat then v else f i) := by
  refine ⟨_, A.same W, by rw [sz_set, hs], hn, fun i hi => ?_⟩
  show (c.slots.setIfInBounds j.toNatClampNeg v)[i]? = _
  rw [Array.getElem?_setIfInBounds, nat_clamp]
  show _ = some (if i = j.toInt.toNat then v else f i)
  by_cases q : i = j.toInt.toNat
  · rw [if_pos q.symm, if_pos (by omega), if_pos q]
  · rw [if_neg (fun z => q z.symm), if_neg q, H i hi]
theorem arv_ar {k : ClassId} {z : Int32} {vs : List Value} {d : Value} (F : Arv Z h a k ty z vs d) : Ar Z h a ty z.toInt.toNat (fun i => vs.getD i d) := by
  obtain ⟨c, A, -, r2, r3, H, -⟩ := F
  have hz := z.toInt_lt
  exact ⟨c, A, r2, by omega, fun j hj => H j (by rw [r2, nat_clamp]; exact hj)⟩
theorem ldAI (X : Stand p l e R s m args below meth c T locs cells slots) (hx : p.tables.exec = Jvm.exec) (hZ : Z.Warmed39 s.vm) (eT : T.heap = h) (F : Ar Z h a .int n f) {j : Int32} (h0 : 0 ≤ j.toInt) (h1 : j.toInt < n) {w : Value} (hv : f j.toInt.toNat = w)
    {g : JFrame} (hg : g.method = m) {rest : List Value} (hs : g.stack = .int j :: .ref a :: rest) (hd : decode c.code g.pc = .ok (.iaload, 1)) :
    ∀ target, Steps p.tables e below (T.setTop { g with pc := g.pc + 1, stack := w :: rest }) target → Steps p.tables e below (T.setTop g) target := by
  obtain ⟨cl, A, r1, r2, r3⟩ := F
  exact fun target k => X.iaload hx (by rw [eT]; exact A.1) (State.isArrayOf_alike hZ.alike A.2.1) A.2.2 (ar_in r1 h0 h1) (by rw [nat_clamp, r3 _ (by omega), hv]) hg hs hd target k
theorem ldAL (X : Stand p l e R s m args below meth c T locs cells slots) (hx : p.tables.exec = Jvm.exec) (hZ : Z.Warmed39 s.vm) (eT : T.heap = h) (F : Ar Z h a .long n f) {j : Int32} (h0 : 0 ≤ j.toInt) (h1 : j.toInt < n) {w : Value} (hv : f j.toInt.toNat = w)
    {g : JFrame} (hg : g.method = m) {rest : List Value} (hs : g.stack = .int j :: .ref a :: rest) (hd : decode c.code g.pc = .ok (.laload, 1)) :
    ∀ target, Steps p.tables e below (T.setTop { g with pc := g.pc + 1, stack := w :: rest }) target → Steps p.tables e below (T.setTop g) target := by
  obtain ⟨cl, A, r1, r2, r3⟩ := F
  exact fun target k => X.laload hx (by rw [eT]; exact A.1) (State.isArrayOf_alike hZ.alike A.2.1) A.2.2 (ar_in r1 h0 h1) (by rw [nat_clamp, r3 _ (by omega), hv]) hg hs hd target k
theorem ldAB (X : Stand p l e R s m args below meth c T locs cells slots) (hx : p.tables.exec = Jvm.exec) (hZ : Z.Warmed39 s.vm) (eT : T.heap = h) (F : Ar Z h a .byte n f) {j : Int32} (h0 : 0 ≤ j.toInt) (h1 : j.toInt < n) {w : Value} (hv : f j.toInt.toNat = w)
    {g : JFrame} (hg : g.method = m) {rest : List Value} (hs : g.stack = .int j :: .ref a :: rest) (hd : decode c.code g.pc = .ok (.baload, 1)) :
    ∀ target, Steps p.tables e below (T.setTop { g with pc := g.pc + 1, stack := w :: rest }) target → Steps p.tables e below (T.setTop g) target := by
  obtain ⟨cl, A, r1, r2, r3⟩ := F
  exact fun target k => X.baloadBytes hx (by rw [eT]; exact A.1) (State.isArrayOf_alike hZ.alike A.2.1) A.2.2 (ar_in r1 h0 h1) (by rw [nat_clamp, r3 _ (by omega), hv]) hg hs hd target k
theorem ldAZ (X : Stand p l e R s m args below meth c T locs cells slots) (hx : p.tables.exec = Jvm.exec) (hZ : Z.Warmed39 s.vm) (eT : T.heap = h) (F : Ar Z h a .boolean n f) {j : Int32} (h0 : 0 ≤ j.toInt) (h1 : j.toInt < n) {w : Value} (hv : f j.toInt.toNat = w)
    {g : JFrame} (hg : g.method = m) {rest : List Value} (hs : g.stack = .int j :: .ref a :: rest) (hd : decode c.code g.pc = .ok (.baload, 1)) :
    ∀ target, Steps p.tables e below (T.setTop { g with pc := g.pc + 1, stack := w :: rest }) target → Steps p.tables e below (T.setTop g) target := by
  obtain ⟨cl, A, r1, r2, r3⟩ := F
  exact fun target k => X.baloadBooleans hx (by rw [eT]; exact A.1) (State.isArrayOf_alike hZ.alike A.2.1) A.2.2 (ar_in r1 h0 h1) (by rw [nat_clamp, r3 _ (by omega), hv]) hg hs hd target k
theorem alen (X : Stand p l e R s m args below meth c T locs cells slots) (hx : p.tables.exec = Jvm.exec) (hZ : Z.Warmed39 s.vm) (eT : T.heap = h) (F : Ar Z h a ty n f) {z : Int32} (hz : z.toInt = n)
    {g : JFrame} (hg : g.method = m) {rest : List Value} (hs : g.stack = .ref a :: rest) (hd : decode c.code g.pc = .ok (.arraylength, 1)) :
    ∀ target, Steps p.tables e below (T.setTop { g with pc := g.pc + 1, stack := .int z :: rest }) target → Steps p.tables e below (T.setTop g) target := by
  obtain ⟨cl, A, r1, r2, r3⟩ := F
  have q : cl.slots.size.toInt32 = z := by
    rw [r1]
    apply Int32.toInt_inj.mp
    rw [hz]
    show (Int32.ofNat n).toInt = n
    exact Int32.toInt_ofNat_small (by omega)
  exact fun target k => X.arraylength hx (by rw [eT]; exact A.1) (State.isArrayOf_alike hZ.alike A.2.1) hg hs hd target (by rw [q]; exact k)
theorem stAI (X : Stand p l e R s m args below meth c T locs cells slots) (hx : p.tables.exec = Jvm.exec) (hZ : Z.Warmed39 s.vm) (eT : T.heap = h) (F : Ar Z h a .int n f) {j x : Int32} (h0 : 0 ≤ j.toInt) (h1 : j.toInt < n)
    {g : JFrame} (hg : g.method = m) {rest : List Value} (hs : g.stack = .int x :: .int j :: .ref a :: rest) (hd : decode c.code g.pc = .ok (.iastore, 1)) :
    ∃ T' h', Stand p l e R s m args below meth c T' (locs ++ [⟨a, j.toNatClampNeg⟩]) cells slots ∧ T'.heap = h' ∧ Wr h h' a j.toNatClampNeg (.int x) ∧ Ar Z h' a .int n (fun i => if i = j.toInt.toNat then .int x else f i) ∧ ∀ target, Steps p.tables e below (T'.setTop { g with pc := g.pc + 1, stack := rest }) target → Steps p.tables e below (T.setTop g) target := by
  obtain ⟨cl, A, r1, r2, r3⟩ := F
  obtain ⟨T', h', X', e', W, st⟩ := stI X hx hZ eT A (ar_in r1 h0 h1) hg hs hd
  exact ⟨T', h', X', e', W, Ar.set A r1 r2 r3 h0 h1 W, st⟩
theorem stAL (X : Stand p l e R s m args below meth c T locs cells slots) (hx : p.tables.exec = Jvm.exec) (hZ : Z.Warmed39 s.vm) (eT : T.heap = h) (F : Ar Z h a .long n f) {j : Int32} {x : Int64} (h0 : 0 ≤ j.toInt) (h1 : j.toInt < n)
    {g : JFrame} (hg : g.method = m) {rest : List Value} (hs : g.stack = .long x :: .int j :: .ref a :: rest) (hd : decode c.code g.pc = .ok (.lastore, 1)) :
    ∃ T' h', Stand p l e R s m args below meth c T' (locs ++ [⟨a, j.toNatClampNeg⟩]) cells slots ∧ T'.heap = h' ∧ Wr h h' a j.toNatClampNeg (.long x) ∧ Ar Z h' a .long n (fun i => if i = j.toInt.toNat then .long x else f i) ∧ ∀ target, Steps p.tables e below (T'.setTop { g with pc := g.pc + 1, stack := rest }) target → Steps p.tables e below (T.setTop g) target := by
  obtain ⟨cl, A, r1, r2, r3⟩ := F
  obtain ⟨T', h', X', e', W, st⟩ := stJ X hx hZ eT A (ar_in r1 h0 h1) hg hs hd
  exact ⟨T', h', X', e', W, Ar.set A r1 r2 r3 h0 h1 W, st⟩
theorem stAB (X : Stand p l e R s m args below meth c T locs cells slots) (hx : p.tables.exec = Jvm.exec) (hZ : Z.Warmed39 s.vm) (eT : T.heap = h) (F : Ar Z h a .byte n f) {j x : Int32} (h0 : 0 ≤ j.toInt) (h1 : j.toInt < n)
    {g : JFrame} (hg : g.method = m) {rest : List Value} (hs : g.stack = .int x :: .int j :: .ref a :: rest) (hd : decode c.code g.pc = .ok (.bastore, 1)) :
    ∃ T' h', Stand p l e R s m args below meth c T' (locs ++ [⟨a, j.toNatClampNeg⟩]) cells slots ∧ T'.heap = h' ∧ Wr h h' a j.toNatClampNeg (.int (nar .byte x)) ∧ Ar Z h' a .byte n (fun i => if i = j.toInt.toNat then .int (nar .byte x) else f i) ∧ ∀ target, Steps p.tables e below (T'.setTop { g with pc := g.pc + 1, stack := rest }) target → Steps p.tables e below (T.setTop g) target := by
  obtain ⟨cl, A, r1, r2, r3⟩ := F
  obtain ⟨T', h', X', e', W, st⟩ := stB X hx hZ eT A (ar_in r1 h0 h1) hg hs hd
  exact ⟨T', h', X', e', W, Ar.set A r1 r2 r3 h0 h1 W, st⟩
theorem stAZ (X : Stand p l e R s m args below meth c T locs cells slots) (hx : p.tables.exec = Jvm.exec) (hZ : Z.Warmed39 s.vm) (eT : T.heap = h) (F : Ar Z h a .boolean n f) {j x : Int32} (h0 : 0 ≤ j.toInt) (h1 : j.toInt < n)
    {g : JFrame} (hg : g.method = m) {rest : List Value} (hs : g.stack = .int x :: .int j :: .ref a :: rest) (hd : decode c.code g.pc = .ok (.bastore, 1)) :
    ∃ T' h', Stand p l e R s m args below meth c T' (locs ++ [⟨a, j.toNatClampNeg⟩]) cells slots ∧ T'.heap = h' ∧ Wr h h' a j.toNatClampNeg (.int (nar .boolean x)) ∧ Ar Z h' a .boolean n (fun i => if i = j.toInt.toNat then .int (nar .boolean x) else f i) ∧ ∀ target, Steps p.tables e below (T'.setTop { g with pc := g.pc + 1, stack := rest }) target → Steps p.tables e below (T.setTop g) target := by
  obtain ⟨cl, A, r1, r2, r3⟩ := F
  obtain ⟨T', h', X', e', W, st⟩ := stZ X hx hZ eT A (ar_in r1 h0 h1) hg hs hd
  exact ⟨T', h', X', e', W, Ar.set A r1 r2 r3 h0 h1 W, st⟩
end OwnLayer
end Jvm.OwnKit
namespace Jvm.OwnKit
open Sem ClassFile Op Lib Jvm.Stand Jvm.Free Jvm.LawKit Jvm.RoadKit
section OwnLayer2
variable {p : Program} {l : Launch} {e : Env} {R : Room} {s : State} {m : MethodId} {args : Array Value} {below : List Frame} {meth : Method} {c : Code} {T : State} {locs : List Loc} {cells slots : Nat} {Z : State} {a0 : Array Value} {h h' : Heap} {a b : Addr} {C : String} {n sl : Nat} {f : Nat → Value} {v : Value} {ws : List Addr}
/-- an array over the class C, n places, place j holding f j -/
def Ao (Z : State) (h : Heap) (a : Addr) (C : String) (n : Nat) (f : Nat → Value) : Prop := ∃ c : Cell, Arr Z h a c (.object C) ∧ Ovr Z c.cls C ∧ c.slots.size = n ∧ n < 2147483648 ∧ ∀ j, j < n → c.slots[j]? = some (f j)
theorem Ao.lt (F : Ao Z h a C n f) : a < h.size := by obtain ⟨c, A, -⟩ := F; exact A.lt
theorem Ao.ext (F : Ao Z h a C n f) (E : Ext h h') : Ao Z h' a C n f := by obtain ⟨c, A, r⟩ := F; exact ⟨c, A.ext E, r⟩
theorem Ao.other (F : Ao Z h b C n f) (W : Wr h h' a sl v) (q : b ≠ a) : Ao Z h' b C n f := by obtain ⟨c, A, r⟩ := F; exact ⟨c, A.other W q, r⟩
theorem Ao.keep (F : Ao Z h a C n f) (K : Keep h h' ws) (q : a ∉ ws) : Ao Z h' a C n f := by obtain ⟨c, A, r⟩ := F; exact ⟨c, ⟨K.2.1 a c A.1 q, A.2⟩, r⟩
theorem Ao.as (F : Ao Z h a C n f) {g : Nat → Value} (e : ∀ j, j < n → f j = g j) : Ao Z h a C n g := by
  obtain ⟨c, A, r0, r1, r2, r3⟩ := F; exact ⟨c, A, r0, r1, r2, fun j hj => by rw [r3 j hj, e j hj]⟩
theorem Ao.new {k : ClassId} {z : Int32} {N : Nat} (A : Arr Z h a (newA k (.object C) z) (.object C)) (O : Ovr Z k C) (q : ¬ z < 0) (hN : z.toInt.toNat = N) : Ao Z h a C N (fun _ => .null) := by
  have hs : (newA k (.object C) z).slots.size = N := by rw [sz_new, nat_clamp, hN]
  refine ⟨_, A, O, hs, ?_, fun j hj => ?_⟩
  · have := z.toInt_lt; omega
  · show (Array.replicate z.toNatClampNeg (defaultValue (.object C)))[j]? = _
    rw [Array.getElem?_replicate, if_pos (by rw [nat_clamp, hN]; exact hj)]; rfl
theorem Ao.set {c : Cell} {j : Int32} (A : Arr Z h a c (.object C)) (O : Ovr Z c.cls C) (hs : c.slots.size = n) (hn : n < 2147483648) (H : ∀ j, j < n → c.slots[j]? = some (f j)) (h0 : 0 ≤ j.toInt) (h1 : j.toInt < n) (W : Wr h h' a j.toNatClampNeg v) : Ao Z h' a C n (fun i => if i = j.toInt.toNat then v else f i) := by
  refine ⟨_, A.same W, O, by rw [sz_set, hs], hn, fun i hi => ?_⟩
  show (c.slots.setIfInBounds j.toNatClampNeg v)[i]? = _
  rw [Array.getElem?_setIfInBounds, nat_clamp]
  show _ = some (if i = j.toInt.toNat then v else f i)
  by_cases q : i = j.toInt.toNat
  · rw [if_pos q.symm, if_pos (by omega), if_pos q]
  · rw [if_neg (fun z => q z.symm), if_neg q, H i hi]
theorem ldAO (X : Stand p l e R s m args below meth c T locs cells slots) (hx : p.tables.exec = Jvm.exec) (hZ : Z.Warmed39 s.vm) (eT : T.heap = h) (F : Ao Z h a C n f) {j : Int32} (h0 : 0 ≤ j.toInt) (h1 : j.toInt < n) {w : Value} (hv : f j.toInt.toNat = w)
    {g : JFrame} (hg : g.method = m) {rest : List Value} (hs : g.stack = .int j :: .ref a :: rest) (hd : decode c.code g.pc = .ok (.aaload, 1)) :
    ∀ target, Steps p.tables e below (T.setTop { g with pc := g.pc + 1, stack := w :: rest }) target → Steps p.tables e below (T.setTop g) target := by
  obtain ⟨cl, A, r0, r1, r2, r3⟩ := F
  exact fun target k => X.aaload hx (by rw [eT]; exact A.1) (State.isArrayOf_alike hZ.alike A.2.1) rfl A.2.2 (ar_in r1 h0 h1) (by rw [nat_clamp, r3 _ (by omega), hv]) hg hs hd target k
theorem alenO (X : Stand p l e R s m args below meth c T locs cells slots) (hx : p.tables.exec = Jvm.exec) (hZ : Z.Warmed39 s.vm) (eT : T.heap = h) (F : Ao Z h a C n f) {z : Int32} (hz : z.toInt = n)
    {g : JFrame} (hg : g.method = m) {rest : List Value} (hs : g.stack = .ref a :: rest) (hd : decode c.code g.pc = .ok (.arraylength, 1)) :
    ∀ target, Steps p.tables e below (T.setTop { g with pc := g.pc + 1, stack := .int z :: rest }) target → Steps p.tables e below (T.setTop g) target := by
  obtain ⟨cl, A, r0, r1, r2, r3⟩ := F
  exact alen X hx hZ eT ⟨cl, A, r1, r2, r3⟩ hz hg hs hd
theorem stAO (X : Stand p l e R s m args below meth c T locs cells slots) (hx : p.tables.exec = Jvm.exec) (hZ : Z.Warmed39 s.vm) (eT : T.heap = h) (F : Ao Z h a C n f) {j : Int32} {w : Value} (h0 : 0 ≤ j.toInt) (h1 : j.toInt < n) (hw : w = .null ∨ ∃ y, w = .ref y ∧ Ins Z h y C true)
    {g : JFrame} (hg : g.method = m) {rest : List Value} (hs : g.stack = w :: .int j :: .ref a :: rest) (hd : decode c.code g.pc = .ok (.aastore, 1)) :
    ∃ T' h', Stand p l e R s m args below meth c T' (locs ++ [⟨a, j.toNatClampNeg⟩]) cells slots ∧ T'.heap = h' ∧ Wr h h' a j.toNatClampNeg w ∧ Ao Z h' a C n (fun i => if i = j.toInt.toNat then w else f i) ∧ ∀ target, Steps p.tables e below (T'.setTop { g with pc := g.pc + 1, stack := rest }) target → Steps p.tables e below (T.setTop g) target := by
  obtain ⟨cl, A, r0, r1, r2, r3⟩ := F
  have S : Sto Z h a w := by
    rcases hw with rfl | ⟨y, rfl, I⟩
    · exact Or.inl rfl
    · exact Sto.of A r0 I
  obtain ⟨T', h', X', e', W, st⟩ := stR X hx hZ eT A (ar_in r1 h0 h1) rfl S hg hs hd
  exact ⟨T', h', X', e', W, Ao.set A r0 r1 r2 r3 h0 h1 W, st⟩
theorem ne_ao {D : String} {k : Nat} (F : Exa Z h a D) (wi : (Cond.instantiable D k).before a0 Z = true) (G : Ao Z h b C n f) : a ≠ b := by
  obtain ⟨c, A, -⟩ := G; exact ne_arr F wi A
/-- getfield by an entry that stands resolved in the tables at the start -/
theorem getFR (X : Stand p l e R s m args below meth c T locs cells slots) (hx : p.tables.exec = Jvm.exec) (hZ : Z.Warmed39 s.vm) {own O nm d : String} {index : Nat} (hown : s.vm.findClass own = some m.cls) (w : (Cond.fieldRef own index O nm d).before a0 Z = true)
    (eT : T.heap = h) {w' : Value} (F : Fld Z h a O nm d w') {g : JFrame} (hg : g.method = m) {rest : List Value} (hs : g.stack = .ref a :: rest) (hd : decode c.code g.pc = .ok (.getfield index, 3)) :
    ∀ target, Steps p.tables e below (T.setTop { g with pc := g.pc + 3, stack := w' :: rest }) target → Steps p.tables e below (T.setTop g) target := by
  obtain ⟨cell, cf, k, i, fl, h1, h2, h3, h4, -, -, h7⟩ := F
  have hT : Z.Warmed39 T.vm := wtrans (U := T) hZ X.warmed
  have q := Cond.fieldRef_warmed39 (args := a0) hT w
  have hownT : (Z.setVm T.vm).vm.findClass own = some m.cls := by
    show T.vm.findClass own = some m.cls
    rw [X.warmed.alike.findClass]; exact hown
  obtain ⟨cf', k', i', f', hi, hr⟩ := Cond.fieldRef_spec hownT q
  obtain ⟨k2, hi2, -⟩ := State.fieldFound?_setVm (s := Z) hT.alike h2
  cases hi.symm.trans hi2
  intro target hrest
  subst hg
  jvm_step X.here [hx, hd, getfield.wp_ready (e := e) (s := T) (f := g) X.here.top hr h3 hs (show T.heap[a]? = some cell by rw [eT]; exact h1) h4 h7]
  exact hrest
end OwnLayer2
end Jvm.OwnKit
namespace Jvm.Pilot.@@N@@
open Jvm Jvm.ClassFile Sem Op Lib Jvm.Free Jvm.Stand Jvm.LawKit Jvm.RoadKit Bundle Jvm.OwnKit Jvm.Pilot.@@N@@.Jvm.D
def fopen (fv : Int32) : Int32 := (if (0 : Int32) < fv then (1 : Int32) else (0 : Int32))
def fdec (u0 : Int32) (u1 : Int32) : Int32 := (if (u0 + (-1 : Int32)) < (0 : Int32) then (u1 - (1 : Int32)) else (u0 + (-1 : Int32)))
def finc (u0 : Int32) (u1 : Int32) : Int32 := (if (u0 + (1 : Int32)) < u1 then (u0 + (1 : Int32)) else (0 : Int32))
theorem ef_1 (m : MethodId) (x0 : Addr) : entryFrame m #[(.ref x0)] 1 = mkF m 0 #[.val (.ref x0)] [] := by first | (simp [entryFrame, mkF, argsToLocals, Value.category]; done) | rfl
theorem pn_java_util_AbstractCollection : plainName "java/util/AbstractCollection" = true := by first | (simp [plainName, overriddenIn]; done) | decide +kernel
theorem d1_0 : decode jdk_22_method_1_code 0 = .ok (.aload_n 0, 1) := by decide +kernel
theorem d1_1 : decode jdk_22_method_1_code 1 = .ok (.invokespecial 1, 3) := by decide +kernel
theorem d1_4 : decode jdk_22_method_1_code 4 = .ok (.return_, 1) := by decide +kernel
theorem ef_2 (m : MethodId) (x0 : Addr) : entryFrame m #[(.ref x0)] 1 = mkF m 0 #[.val (.ref x0)] [] := by first | (simp [entryFrame, mkF, argsToLocals, Value.category]; done) | rfl
theorem pn_java_util_ArrayDeque : plainName "java/util/ArrayDeque" = true := by first | (simp [plainName, overriddenIn]; done) | decide +kernel
theorem d2_0 : decode jdk_21_method_3_code 0 = .ok (.aload_n 0, 1) := by decide +kernel
theorem d2_1 : decode jdk_21_method_3_code 1 = .ok (.invokespecial 42, 3) := by decide +kernel
theorem pd_ocV : parseMethodDescriptor "()V" = some ⟨[], none⟩ := by decide +kernel
theorem d2_4 : decode jdk_21_method_3_code 4 = .ok (.aload_n 0, 1) := by decide +kernel
theorem d2_5 : decode jdk_21_method_3_code 5 = .ok (.bipush 17, 2) := by decide +kernel
theorem d2_7 : decode jdk_21_method_3_code 7 = .ok (.anewarray 47, 3) := by decide +kernel
theorem d2_10 : decode jdk_21_method_3_code 10 = .ok (.putfield 3, 3) := by decide +kernel
theorem d2_13 : decode jdk_21_method_3_code 13 = .ok (.return_, 1) := by decide +kernel
theorem ef_3 (m : MethodId) (x0 : Addr) : entryFrame m #[(.ref x0)] 1 = mkF m 0 #[.val (.ref x0)] [] := by first | (simp [entryFrame, mkF, argsToLocals, Value.category]; done) | rfl
theorem pn_com_example_tell_nothing_tellnothing_pepa_Expression : plainName "com/example/tell_nothing/tellnothing/pepa/Expression" = true := by first | (simp [plainName, overriddenIn]; done) | decide +kernel
theorem d3_0 : decode prog_33_method_1_code 0 = .ok (.aload_n 0, 1) := by decide +kernel
theorem d3_1 : decode prog_33_method_1_code 1 = .ok (.invokespecial 1, 3) := by decide +kernel
theorem d3_4 : decode prog_33_method_1_code 4 = .ok (.aload_n 0, 1) := by decide +kernel
theorem d3_5 : decode prog_33_method_1_code 5 = .ok (.new 7, 3) := by decide +kernel
theorem d3_8 : decode prog_33_method_1_code 8 = .ok (.dup, 1) := by decide +kernel
theorem d3_9 : decode prog_33_method_1_code 9 = .ok (.invokespecial 9, 3) := by decide +kernel
theorem d3_12 : decode prog_33_method_1_code 12 = .ok (.putfield 10, 3) := by decide +kernel
theorem d3_15 : decode prog_33_method_1_code 15 = .ok (.aload_n 0, 1) := by decide +kernel
theorem d3_16 : decode prog_33_method_1_code 16 = .ok (.new 7, 3) := by decide +kernel
theorem d3_19 : decode prog_33_method_1_code 19 = .ok (.dup, 1) := by decide +kernel
theorem d3_20 : decode prog_33_method_1_code 20 = .ok (.invokespecial 9, 3) := by decide +kernel
theorem d3_23 : decode prog_33_method_1_code 23 = .ok (.putfield 16, 3) := by decide +kernel
theorem d3_26 : decode prog_33_method_1_code 26 = .ok (.return_, 1) := by decide +kernel
theorem ef_4 (m : MethodId) (x0 : Addr) : entryFrame m #[(.ref x0)] 1 = mkF m 0 #[.val (.ref x0)] [] := by first | (simp [entryFrame, mkF, argsToLocals, Value.category]; done) | rfl
theorem d4_0 : decode prog_33_method_8_code 0 = .ok (.aload_n 0, 1) := by decide +kernel
theorem d4_1 : decode prog_33_method_8_code 1 = .ok (.getfield 70, 3) := by decide +kernel
theorem d4_4 : decode prog_33_method_8_code 4 = .ok (.ifCond .le 7, 3) := by decide +kernel
theorem d4_11 : decode prog_33_method_8_code 11 = .ok (.iconst 0, 1) := by decide +kernel
theorem d4_7 : decode prog_33_method_8_code 7 = .ok (.iconst 1, 1) := by decide +kernel
theorem d4_8 : decode prog_33_method_8_code 8 = .ok (.goto 4, 3) := by decide +kernel
theorem d4_12 : decode prog_33_method_8_code 12 = .ok (.ireturn, 1) := by decide +kernel
theorem ef_5 (m : MethodId) (x0 : Addr) (x2 : Int32) : entryFrame m #[(.ref x0), .null, (.int x2)] 3 = mkF m 0 #[.val (.ref x0), .val .null, .val (.int x2)] [] := by first | (simp [entryFrame, mkF, argsToLocals, Value.category]; done) | rfl
theorem pn_com_example_tell_nothing_tellnothing_pepa_Expression_Pending : plainName "com/example/tell_nothing/tellnothing/pepa/Expression$Pending" = true := by first | (simp [plainName, overriddenIn]; done) | decide +kernel
theorem d5_0 : decode prog_36_method_1_code 0 = .ok (.aload_n 0, 1) := by decide +kernel
theorem d5_1 : decode prog_36_method_1_code 1 = .ok (.invokespecial 1, 3) := by decide +kernel
theorem d5_4 : decode prog_36_method_1_code 4 = .ok (.aload_n 0, 1) := by decide +kernel
theorem d5_5 : decode prog_36_method_1_code 5 = .ok (.aload_n 1, 1) := by decide +kernel
theorem d5_6 : decode prog_36_method_1_code 6 = .ok (.putfield 7, 3) := by decide +kernel
theorem d5_9 : decode prog_36_method_1_code 9 = .ok (.aload_n 0, 1) := by decide +kernel
theorem d5_10 : decode prog_36_method_1_code 10 = .ok (.iload_n 2, 1) := by decide +kernel
theorem d5_11 : decode prog_36_method_1_code 11 = .ok (.putfield 13, 3) := by decide +kernel
theorem d5_14 : decode prog_36_method_1_code 14 = .ok (.return_, 1) := by decide +kernel
theorem ef_6 (m : MethodId) (x0 : Int32) (x1 : Int32) : entryFrame m #[(.int x0), (.int x1)] 2 = mkF m 0 #[.val (.int x0), .val (.int x1)] [] := by first | (simp [entryFrame, mkF, argsToLocals, Value.category]; done) | rfl
theorem d6_0 : decode jdk_21_method_7_code 0 = .ok (.iinc 0 (-1), 3) := by decide +kernel
theorem d6_3 : decode jdk_21_method_7_code 3 = .ok (.iload_n 0, 1) := by decide +kernel
theorem d6_4 : decode jdk_21_method_7_code 4 = .ok (.ifCond .ge 7, 3) := by decide +kernel
theorem d6_7 : decode jdk_21_method_7_code 7 = .ok (.iload_n 1, 1) := by decide +kernel
theorem d6_8 : decode jdk_21_method_7_code 8 = .ok (.iconst 1, 1) := by decide +kernel
theorem d6_9 : decode jdk_21_method_7_code 9 = .ok (.isub, 1) := by decide +kernel
theorem d6_10 : decode jdk_21_method_7_code 10 = .ok (.istore_n 0, 1) := by decide +kernel
theorem d6_11 : decode jdk_21_method_7_code 11 = .ok (.iload_n 0, 1) := by decide +kernel
theorem d6_12 : decode jdk_21_method_7_code 12 = .ok (.ireturn, 1) := by decide +kernel
theorem ef_7 (m : MethodId) (x0 : Int32) (x1 : Int32) : entryFrame m #[(.int x0), (.int x1)] 2 = mkF m 0 #[.val (.int x0), .val (.int x1)] [] := by first | (simp [entryFrame, mkF, argsToLocals, Value.category]; done) | rfl
theorem d7_0 : decode jdk_21_method_6_code 0 = .ok (.iinc 0 1, 3) := by decide +kernel
theorem d7_3 : decode jdk_21_method_6_code 3 = .ok (.iload_n 0, 1) := by decide +kernel
theorem d7_4 : decode jdk_21_method_6_code 4 = .ok (.iload_n 1, 1) := by decide +kernel
theorem d7_5 : decode jdk_21_method_6_code 5 = .ok (.if_icmp .lt 5, 3) := by decide +kernel
theorem d7_8 : decode jdk_21_method_6_code 8 = .ok (.iconst 0, 1) := by decide +kernel
theorem d7_9 : decode jdk_21_method_6_code 9 = .ok (.istore_n 0, 1) := by decide +kernel
theorem d7_10 : decode jdk_21_method_6_code 10 = .ok (.iload_n 0, 1) := by decide +kernel
theorem d7_11 : decode jdk_21_method_6_code 11 = .ok (.ireturn, 1) := by decide +kernel
theorem ef_8 (m : MethodId) (x0 : Addr) (x1 : Addr) : entryFrame m #[(.ref x0), (.ref x1)] 3 = mkF m 0 #[.val (.ref x0), .val (.ref x1), .unset] [] := by first | (simp [entryFrame, mkF, argsToLocals, Value.category]; done) | rfl
theorem d8_0 : decode jdk_21_method_12_code 0 = .ok (.aload_n 1, 1) := by decide +kernel
theorem d8_1 : decode jdk_21_method_12_code 1 = .ok (.ifnonnull 11, 3) := by decide +kernel
theorem d8_12 : decode jdk_21_method_12_code 12 = .ok (.aload_n 0, 1) := by decide +kernel
theorem d8_13 : decode jdk_21_method_12_code 13 = .ok (.getfield 3, 3) := by decide +kernel
theorem d8_16 : decode jdk_21_method_12_code 16 = .ok (.astore_n 2, 1) := by decide +kernel
theorem d8_17 : decode jdk_21_method_12_code 17 = .ok (.aload_n 2, 1) := by decide +kernel
theorem d8_18 : decode jdk_21_method_12_code 18 = .ok (.aload_n 0, 1) := by decide +kernel
theorem d8_19 : decode jdk_21_method_12_code 19 = .ok (.aload_n 0, 1) := by decide +kernel
theorem d8_20 : decode jdk_21_method_12_code 20 = .ok (.getfield 24, 3) := by decide +kernel
theorem d8_23 : decode jdk_21_method_12_code 23 = .ok (.aload_n 2, 1) := by decide +kernel
theorem d8_24 : decode jdk_21_method_12_code 24 = .ok (.arraylength, 1) := by decide +kernel
theorem d8_25 : decode jdk_21_method_12_code 25 = .ok (.invokestatic 68, 3) := by decide +kernel
theorem pd_oIIcI : parseMethodDescriptor "(II)I" = some ⟨[.int, .int], some .int⟩ := by decide +kernel
theorem d8_28 : decode jdk_21_method_12_code 28 = .ok (.dup_x1, 1) := by decide +kernel
theorem d8_29 : decode jdk_21_method_12_code 29 = .ok (.putfield 24, 3) := by decide +kernel
theorem d8_32 : decode jdk_21_method_12_code 32 = .ok (.aload_n 1, 1) := by decide +kernel
theorem d8_33 : decode jdk_21_method_12_code 33 = .ok (.aastore, 1) := by decide +kernel
theorem d8_34 : decode jdk_21_method_12_code 34 = .ok (.aload_n 0, 1) := by decide +kernel
theorem d8_35 : decode jdk_21_method_12_code 35 = .ok (.getfield 24, 3) := by decide +kernel
theorem d8_38 : decode jdk_21_method_12_code 38 = .ok (.aload_n 0, 1) := by decide +kernel
theorem d8_39 : decode jdk_21_method_12_code 39 = .ok (.getfield 20, 3) := by decide +kernel
theorem d8_42 : decode jdk_21_method_12_code 42 = .ok (.if_icmp .ne 8, 3) := by decide +kernel
theorem d8_50 : decode jdk_21_method_12_code 50 = .ok (.return_, 1) := by decide +kernel
theorem ef_9 (m : MethodId) (x0 : Addr) (x1 : Addr) : entryFrame m #[(.ref x0), (.ref x1)] 2 = mkF m 0 #[.val (.ref x0), .val (.ref x1)] [] := by first | (simp [entryFrame, mkF, argsToLocals, Value.category]; done) | rfl
theorem d9_0 : decode jdk_21_method_34_code 0 = .ok (.aload_n 0, 1) := by decide +kernel
theorem d9_1 : decode jdk_21_method_34_code 1 = .ok (.aload_n 1, 1) := by decide +kernel
theorem d9_2 : decode jdk_21_method_34_code 2 = .ok (.invokevirtual 86, 3) := by decide +kernel
theorem pd_oLjava_lang_ObjectscV : parseMethodDescriptor "(Ljava/lang/Object;)V" = some ⟨[(.object "java/lang/Object")], none⟩ := by decide +kernel
theorem d9_5 : decode jdk_21_method_34_code 5 = .ok (.return_, 1) := by decide +kernel
theorem ef_10 (m : MethodId) (x0 : Addr) (x1 : Int32) : entryFrame m #[(.ref x0), (.int x1)] 2 = mkF m 0 #[.val (.ref x0), .val (.int x1)] [] := by first | (simp [entryFrame, mkF, argsToLocals, Value.category]; done) | rfl
theorem d10_0 : decode jdk_21_method_10_code 0 = .ok (.aload_n 0, 1) := by decide +kernel
theorem d10_1 : decode jdk_21_method_10_code 1 = .ok (.iload_n 1, 1) := by decide +kernel
theorem d10_2 : decode jdk_21_method_10_code 2 = .ok (.aaload, 1) := by decide +kernel
theorem d10_3 : decode jdk_21_method_10_code 3 = .ok (.areturn, 1) := by decide +kernel
theorem ef_11 (m : MethodId) (x0 : Addr) : entryFrame m #[(.ref x0)] 1 = mkF m 0 #[.val (.ref x0)] [] := by first | (simp [entryFrame, mkF, argsToLocals, Value.category]; done) | rfl
theorem d11_0 : decode jdk_21_method_24_code 0 = .ok (.aload_n 0, 1) := by decide +kernel
theorem d11_1 : decode jdk_21_method_24_code 1 = .ok (.getfield 3, 3) := by decide +kernel
theorem d11_4 : decode jdk_21_method_24_code 4 = .ok (.aload_n 0, 1) := by decide +kernel
theorem d11_5 : decode jdk_21_method_24_code 5 = .ok (.getfield 24, 3) := by decide +kernel
theorem d11_8 : decode jdk_21_method_24_code 8 = .ok (.invokestatic 103, 3) := by decide +kernel
theorem pd_oaLjava_lang_ObjectsIcLjava_lang_Objects : parseMethodDescriptor "([Ljava/lang/Object;I)Ljava/lang/Object;" = some ⟨[(.array (.object "java/lang/Object")), .int], some (.object "java/lang/Object")⟩ := by decide +kernel
theorem d11_11 : decode jdk_21_method_24_code 11 = .ok (.areturn, 1) := by decide +kernel
theorem ef_12 (m : MethodId) (x0 : Addr) : entryFrame m #[(.ref x0)] 1 = mkF m 0 #[.val (.ref x0)] [] := by first | (simp [entryFrame, mkF, argsToLocals, Value.category]; done) | rfl
theorem d12_0 : decode jdk_21_method_33_code 0 = .ok (.aload_n 0, 1) := by decide +kernel
theorem d12_1 : decode jdk_21_method_33_code 1 = .ok (.invokevirtual 124, 3) := by decide +kernel
theorem pd_ocLjava_lang_Objects : parseMethodDescriptor "()Ljava/lang/Object;" = some ⟨[], some (.object "java/lang/Object")⟩ := by decide +kernel
theorem d12_4 : decode jdk_21_method_33_code 4 = .ok (.areturn, 1) := by decide +kernel
theorem ef_13 (m : MethodId) (x0 : Addr) : entryFrame m #[(.ref x0)] 4 = mkF m 0 #[.val (.ref x0), .unset, .unset, .unset] [] := by first | (simp [entryFrame, mkF, argsToLocals, Value.category]; done) | rfl
theorem d13_0 : decode jdk_21_method_20_code 0 = .ok (.aload_n 0, 1) := by decide +kernel
theorem d13_1 : decode jdk_21_method_20_code 1 = .ok (.getfield 3, 3) := by decide +kernel
theorem d13_4 : decode jdk_21_method_20_code 4 = .ok (.dup, 1) := by decide +kernel
theorem d13_5 : decode jdk_21_method_20_code 5 = .ok (.astore_n 1, 1) := by decide +kernel
theorem d13_6 : decode jdk_21_method_20_code 6 = .ok (.aload_n 0, 1) := by decide +kernel
theorem d13_7 : decode jdk_21_method_20_code 7 = .ok (.getfield 24, 3) := by decide +kernel
theorem d13_10 : decode jdk_21_method_20_code 10 = .ok (.dup, 1) := by decide +kernel
theorem d13_11 : decode jdk_21_method_20_code 11 = .ok (.istore_n 2, 1) := by decide +kernel
theorem d13_12 : decode jdk_21_method_20_code 12 = .ok (.invokestatic 103, 3) := by decide +kernel
theorem d13_15 : decode jdk_21_method_20_code 15 = .ok (.astore_n 3, 1) := by decide +kernel
theorem d13_16 : decode jdk_21_method_20_code 16 = .ok (.aload_n 3, 1) := by decide +kernel
theorem d13_17 : decode jdk_21_method_20_code 17 = .ok (.ifnull 17, 3) := by decide +kernel
theorem d13_20 : decode jdk_21_method_20_code 20 = .ok (.aload_n 1, 1) := by decide +kernel
theorem d13_21 : decode jdk_21_method_20_code 21 = .ok (.iload_n 2, 1) := by decide +kernel
theorem d13_22 : decode jdk_21_method_20_code 22 = .ok (.aconst_null, 1) := by decide +kernel
theorem d13_23 : decode jdk_21_method_20_code 23 = .ok (.aastore, 1) := by decide +kernel
theorem d13_24 : decode jdk_21_method_20_code 24 = .ok (.aload_n 0, 1) := by decide +kernel
theorem d13_25 : decode jdk_21_method_20_code 25 = .ok (.iload_n 2, 1) := by decide +kernel
theorem d13_26 : decode jdk_21_method_20_code 26 = .ok (.aload_n 1, 1) := by decide +kernel
theorem d13_27 : decode jdk_21_method_20_code 27 = .ok (.arraylength, 1) := by decide +kernel
theorem d13_28 : decode jdk_21_method_20_code 28 = .ok (.invokestatic 74, 3) := by decide +kernel
theorem d13_31 : decode jdk_21_method_20_code 31 = .ok (.putfield 24, 3) := by decide +kernel
theorem d13_34 : decode jdk_21_method_20_code 34 = .ok (.aload_n 3, 1) := by decide +kernel
theorem d13_35 : decode jdk_21_method_20_code 35 = .ok (.areturn, 1) := by decide +kernel
theorem ef_14 (m : MethodId) (x0 : Addr) : entryFrame m #[(.ref x0)] 2 = mkF m 0 #[.val (.ref x0), .unset] [] := by first | (simp [entryFrame, mkF, argsToLocals, Value.category]; done) | rfl
theorem d14_0 : decode jdk_21_method_18_code 0 = .ok (.aload_n 0, 1) := by decide +kernel
theorem d14_1 : decode jdk_21_method_18_code 1 = .ok (.invokevirtual 93, 3) := by decide +kernel
theorem d14_4 : decode jdk_21_method_18_code 4 = .ok (.astore_n 1, 1) := by decide +kernel
theorem d14_5 : decode jdk_21_method_18_code 5 = .ok (.aload_n 1, 1) := by decide +kernel
theorem d14_6 : decode jdk_21_method_18_code 6 = .ok (.ifnonnull 11, 3) := by decide +kernel
theorem d14_17 : decode jdk_21_method_18_code 17 = .ok (.aload_n 1, 1) := by decide +kernel
theorem d14_18 : decode jdk_21_method_18_code 18 = .ok (.areturn, 1) := by decide +kernel
theorem ef_15 (m : MethodId) (x0 : Addr) : entryFrame m #[(.ref x0)] 1 = mkF m 0 #[.val (.ref x0)] [] := by first | (simp [entryFrame, mkF, argsToLocals, Value.category]; done) | rfl
theorem d15_0 : decode jdk_21_method_35_code 0 = .ok (.aload_n 0, 1) := by decide +kernel
theorem d15_1 : decode jdk_21_method_35_code 1 = .ok (.invokevirtual 118, 3) := by decide +kernel
theorem d15_4 : decode jdk_21_method_35_code 4 = .ok (.areturn, 1) := by decide +kernel
theorem ef_16 (m : MethodId) (x0 : Addr) : entryFrame m #[(.ref x0)] 1 = mkF m 0 #[.val (.ref x0)] [] := by first | (simp [entryFrame, mkF, argsToLocals, Value.category]; done) | rfl
theorem d16_0 : decode prog_33_method_6_code 0 = .ok (.aload_n 0, 1) := by decide +kernel
theorem d16_1 : decode prog_33_method_6_code 1 = .ok (.getfield 16, 3) := by decide +kernel
theorem d16_4 : decode prog_33_method_6_code 4 = .ok (.new 25, 3) := by decide +kernel
theorem d16_7 : decode prog_33_method_6_code 7 = .ok (.dup, 1) := by decide +kernel
theorem d16_8 : decode prog_33_method_6_code 8 = .ok (.aconst_null, 1) := by decide +kernel
theorem d16_9 : decode prog_33_method_6_code 9 = .ok (.iconst 0, 1) := by decide +kernel
theorem d16_10 : decode prog_33_method_6_code 10 = .ok (.invokespecial 27, 3) := by decide +kernel
theorem pd_oLcom_example_tell_nothing_tellnothing_pepa_ExpressiondOperatorsIcV : parseMethodDescriptor "(Lcom/example/tell_nothing/tellnothing/pepa/Expression$Operator;I)V" = some ⟨[(.object "com/example/tell_nothing/tellnothing/pepa/Expression$Operator"), .int], none⟩ := by decide +kernel
theorem d16_13 : decode prog_33_method_6_code 13 = .ok (.invokeinterface 19 2, 5) := by decide +kernel
theorem d16_18 : decode prog_33_method_6_code 18 = .ok (.aload_n 0, 1) := by decide +kernel
theorem d16_19 : decode prog_33_method_6_code 19 = .ok (.dup, 1) := by decide +kernel
theorem d16_20 : decode prog_33_method_6_code 20 = .ok (.getfield 70, 3) := by decide +kernel
theorem d16_23 : decode prog_33_method_6_code 23 = .ok (.iconst 1, 1) := by decide +kernel
theorem d16_24 : decode prog_33_method_6_code 24 = .ok (.iadd, 1) := by decide +kernel
theorem d16_25 : decode prog_33_method_6_code 25 = .ok (.putfield 70, 3) := by decide +kernel
theorem d16_28 : decode prog_33_method_6_code 28 = .ok (.return_, 1) := by decide +kernel
theorem ef_17 (m : MethodId) (x0 : Addr) : entryFrame m #[(.ref x0)] 1 = mkF m 0 #[.val (.ref x0)] [] := by first | (simp [entryFrame, mkF, argsToLocals, Value.category]; done) | rfl
theorem d17_0 : decode prog_33_method_7_code 0 = .ok (.aload_n 0, 1) := by decide +kernel
theorem d17_1 : decode prog_33_method_7_code 1 = .ok (.getfield 70, 3) := by decide +kernel
theorem d17_4 : decode prog_33_method_7_code 4 = .ok (.ifCond .ne 5, 3) := by decide +kernel
theorem d17_9 : decode prog_33_method_7_code 9 = .ok (.aload_n 0, 1) := by decide +kernel
theorem d17_10 : decode prog_33_method_7_code 10 = .ok (.getfield 16, 3) := by decide +kernel
theorem d17_13 : decode prog_33_method_7_code 13 = .ok (.invokeinterface 50 1, 5) := by decide +kernel
theorem d17_18 : decode prog_33_method_7_code 18 = .ok (.checkcast 25, 3) := by decide +kernel
theorem d17_21 : decode prog_33_method_7_code 21 = .ok (.getfield 53, 3) := by decide +kernel
theorem d17_24 : decode prog_33_method_7_code 24 = .ok (.ifnull 10, 3) := by decide +kernel
theorem d17_34 : decode prog_33_method_7_code 34 = .ok (.aload_n 0, 1) := by decide +kernel
theorem d17_35 : decode prog_33_method_7_code 35 = .ok (.getfield 16, 3) := by decide +kernel
theorem d17_38 : decode prog_33_method_7_code 38 = .ok (.invokeinterface 30 1, 5) := by decide +kernel
theorem d17_43 : decode prog_33_method_7_code 43 = .ok (.pop, 1) := by decide +kernel
theorem d17_44 : decode prog_33_method_7_code 44 = .ok (.aload_n 0, 1) := by decide +kernel
theorem d17_45 : decode prog_33_method_7_code 45 = .ok (.dup, 1) := by decide +kernel
theorem d17_46 : decode prog_33_method_7_code 46 = .ok (.getfield 70, 3) := by decide +kernel
theorem d17_49 : decode prog_33_method_7_code 49 = .ok (.iconst 1, 1) := by decide +kernel
theorem d17_50 : decode prog_33_method_7_code 50 = .ok (.isub, 1) := by decide +kernel
theorem d17_51 : decode prog_33_method_7_code 51 = .ok (.putfield 70, 3) := by decide +kernel
theorem d17_54 : decode prog_33_method_7_code 54 = .ok (.iconst 1, 1) := by decide +kernel
theorem d17_55 : decode prog_33_method_7_code 55 = .ok (.ireturn, 1) := by decide +kernel
theorem ef_18 (m : MethodId) (x0 : Addr) : entryFrame m #[(.ref x0)] 1 = mkF m 0 #[.val (.ref x0)] [] := by first | (simp [entryFrame, mkF, argsToLocals, Value.category]; done) | rfl
theorem d18_0 : decode prog_33_method_7_code 0 = .ok (.aload_n 0, 1) := by decide +kernel
theorem d18_1 : decode prog_33_method_7_code 1 = .ok (.getfield 70, 3) := by decide +kernel
theorem d18_4 : decode prog_33_method_7_code 4 = .ok (.ifCond .ne 5, 3) := by decide +kernel
theorem d18_7 : decode prog_33_method_7_code 7 = .ok (.iconst 0, 1) := by decide +kernel
theorem d18_8 : decode prog_33_method_7_code 8 = .ok (.ireturn, 1) := by decide +kernel
theorem ef_19 (m : MethodId) (x0 : Addr) (x1 : Int32) (x2 : Int32) : entryFrame m #[(.ref x0), (.int x1), (.int x2)] 5 = mkF m 0 #[.val (.ref x0), .val (.int x1), .val (.int x2), .unset, .unset] [] := by first | (simp [entryFrame, mkF, argsToLocals, Value.category]; done) | rfl
theorem pn_com_example_tell_nothing_tellnothing_pepa_ExpressionIsOpenPinLaw : plainName "com/example/tell_nothing/tellnothing/pepa/ExpressionIsOpenPinLaw" = true := by first | (simp [plainName, overriddenIn]; done) | decide +kernel
theorem d19_0 : decode method_2_code 0 = .ok (.iload_n 1, 1) := by decide +kernel
theorem d19_1 : decode method_2_code 1 = .ok (.ifCond .ge 5, 3) := by decide +kernel
theorem d19_6 : decode method_2_code 6 = .ok (.iload_n 2, 1) := by decide +kernel
theorem d19_7 : decode method_2_code 7 = .ok (.ifCond .eq 14, 3) := by decide +kernel
theorem d19_21 : decode method_2_code 21 = .ok (.aload_n 0, 1) := by decide +kernel
theorem d19_22 : decode method_2_code 22 = .ok (.invokevirtual 12, 3) := by decide +kernel
theorem pd_ocZ : parseMethodDescriptor "()Z" = some ⟨[], some .boolean⟩ := by decide +kernel
theorem d19_25 : decode method_2_code 25 = .ok (.istore 4, 2) := by decide +kernel
theorem d19_27 : decode method_2_code 27 = .ok (.iload 4, 2) := by decide +kernel
theorem d19_29 : decode method_2_code 29 = .ok (.iload_n 1, 1) := by decide +kernel
theorem d19_30 : decode method_2_code 30 = .ok (.ifCond .le 7, 3) := by decide +kernel
theorem d19_37 : decode method_2_code 37 = .ok (.iconst 0, 1) := by decide +kernel
theorem d19_38 : decode method_2_code 38 = .ok (.if_icmp .eq 5, 3) := by decide +kernel
theorem d19_43 : decode method_2_code 43 = .ok (.iload_n 1, 1) := by decide +kernel
theorem d19_44 : decode method_2_code 44 = .ok (.ifCond .le 9, 3) := by decide +kernel
theorem d19_53 : decode method_2_code 53 = .ok (.iconst 0, 1) := by decide +kernel
theorem d19_54 : decode method_2_code 54 = .ok (.istore_n 3, 1) := by decide +kernel
theorem d19_55 : decode method_2_code 55 = .ok (.aload_n 0, 1) := by decide +kernel
theorem d19_56 : decode method_2_code 56 = .ok (.invokevirtual 16, 3) := by decide +kernel
theorem d19_59 : decode method_2_code 59 = .ok (.iload_n 3, 1) := by decide +kernel
theorem d19_60 : decode method_2_code 60 = .ok (.ifCond .le 7, 3) := by decide +kernel
theorem d19_67 : decode method_2_code 67 = .ok (.iconst 0, 1) := by decide +kernel
theorem d19_63 : decode method_2_code 63 = .ok (.iconst 1, 1) := by decide +kernel
theorem d19_64 : decode method_2_code 64 = .ok (.goto 4, 3) := by decide +kernel
theorem d19_68 : decode method_2_code 68 = .ok (.if_icmp .eq 5, 3) := by decide +kernel
theorem d19_73 : decode method_2_code 73 = .ok (.iload_n 3, 1) := by decide +kernel
theorem d19_74 : decode method_2_code 74 = .ok (.ireturn, 1) := by decide +kernel
theorem d19_33 : decode method_2_code 33 = .ok (.iconst 1, 1) := by decide +kernel
theorem d19_34 : decode method_2_code 34 = .ok (.goto 4, 3) := by decide +kernel
theorem d19_47 : decode method_2_code 47 = .ok (.iload_n 1, 1) := by decide +kernel
theorem d19_48 : decode method_2_code 48 = .ok (.iconst 1, 1) := by decide +kernel
theorem d19_49 : decode method_2_code 49 = .ok (.isub, 1) := by decide +kernel
theorem d19_50 : decode method_2_code 50 = .ok (.goto 4, 3) := by decide +kernel
theorem d19_10 : decode method_2_code 10 = .ok (.aload_n 0, 1) := by decide +kernel
theorem d19_11 : decode method_2_code 11 = .ok (.invokevirtual 7, 3) := by decide +kernel
theorem d19_14 : decode method_2_code 14 = .ok (.iload_n 1, 1) := by decide +kernel
theorem d19_15 : decode method_2_code 15 = .ok (.iconst 1, 1) := by decide +kernel
theorem d19_16 : decode method_2_code 16 = .ok (.iadd, 1) := by decide +kernel
theorem d19_17 : decode method_2_code 17 = .ok (.istore_n 3, 1) := by decide +kernel
theorem d19_18 : decode method_2_code 18 = .ok (.goto 37, 3) := by decide +kernel
theorem ef_0 (m : MethodId) (x0 : Int32) : entryFrame m #[(.int x0)] maxLocals = mkF m 0 #[.val (.int x0), .unset, .unset] [] := by first | (simp [entryFrame, mkF, argsToLocals, Value.category, maxLocals]; done) | rfl
theorem pd_oLcom_example_tell_nothing_tellnothing_pepa_ExpressionsIIcI : parseMethodDescriptor "(Lcom/example/tell_nothing/tellnothing/pepa/Expression;II)I" = some ⟨[(.object "com/example/tell_nothing/tellnothing/pepa/Expression"), .int, .int], some .int⟩ := by decide +kernel
def own_i (k : Nat) : Int32 := ([0, 1, 2, 3, 4] : List Int32).getD k 0
def own_hd (k : Nat) : Int32 := ([0, 16, 15, 14, 13] : List Int32).getD k 0
def own_nx (k : Nat) (b : Int32) : Nat := if b = (0 : Int32) then k - 1 else k + 1
def Pend (Z : State) (h : Heap) (f : Nat → Value) (k : Nat) : Prop := ∀ i, 1 ≤ i → i ≤ k → ∃ p : Addr, f (17 - i) = .ref p ∧ Exa Z h p "com/example/tell_nothing/tellnothing/pepa/Expression$Pending" ∧ Fld Z h p "com/example/tell_nothing/tellnothing/pepa/Expression$Pending" "operator" "Lcom/example/tell_nothing/tellnothing/pepa/Expression$Operator;" .null
theorem Pend.keep {Z : State} {a0 : Array Value} {h h' : Heap} {f : Nat → Value} {k k1 : Nat} {e d b : Addr} {g : Nat → Value} (P : Pend Z h f k) (K : Keep h h' [e, d, b]) (Ee : Exa Z h e "com/example/tell_nothing/tellnothing/pepa/Expression") (Ed : Exa Z h d "java/util/ArrayDeque") (V : Ao Z h b "java/lang/Object" 17 g) (wi : (Jvm.Cond.instantiable "com/example/tell_nothing/tellnothing/pepa/Expression$Pending" k1).before a0 Z = true) : Pend Z h' f k := fun i h1 h2 => by
  obtain ⟨p, q1, q2, q3⟩ := P i h1 h2
  exact ⟨p, q1, q2.keep K, q3.keep K (ninS (ne_exa q2 Ee (by decide)) (ninS (ne_exa q2 Ed (by decide)) (ninS (ne_ao q2 wi V) nin0)))⟩
theorem own_k (k : Nat) (h : k ≤ 3) : k = 0 ∨ k = 1 ∨ k = 2 ∨ k = 3 := by omega
theorem own_up (k : Nat) (h : k ≤ 3) : own_i k + (1 : Int32) = own_i (k + 1) ∧ fdec (own_hd k) (17 : Int32) = own_hd (k + 1) ∧ (own_hd (k + 1)).toInt.toNat = 17 - (k + 1) := by
  rcases own_k k h with rfl | rfl | rfl | rfl <;> decide +kernel
theorem own_q (k : Nat) (h : k ≤ 3) : 0 ≤ (fdec (own_hd k) (17 : Int32)).toInt ∧ (fdec (own_hd k) (17 : Int32)).toInt < 17 ∧ ¬ (fdec (own_hd k) (17 : Int32) = (0 : Int32)) ∧ ¬ (own_i k < (0 : Int32)) := by
  rcases own_k k h with rfl | rfl | rfl | rfl <;> decide +kernel
theorem own_dn (k : Nat) (h : k ≤ 3) (h0 : ¬ k = 0) : own_i k - (1 : Int32) = own_i (k - 1) ∧ finc (own_hd k) (17 : Int32) = own_hd (k - 1) ∧ (own_hd k).toInt.toNat = 17 - k ∧ 0 ≤ (own_hd k).toInt ∧ (own_hd k).toInt < 17 ∧ ¬ (own_i k = (0 : Int32)) ∧ (0 : Int32) < own_i k := by
  rcases own_k k h with rfl | rfl | rfl | rfl
  · exact absurd rfl h0
  all_goals decide +kernel
theorem Pend.up {Z : State} {h : Heap} {f : Nat → Value} {k : Nat} {p : Addr} (P : Pend Z h f k) (hk : k ≤ 3) (E : Exa Z h p "com/example/tell_nothing/tellnothing/pepa/Expression$Pending") (F : Fld Z h p "com/example/tell_nothing/tellnothing/pepa/Expression$Pending" "operator" "Lcom/example/tell_nothing/tellnothing/pepa/Expression$Operator;" .null) : Pend Z h (fun i => if i = 17 - (k + 1) then .ref p else f i) (k + 1) := fun i h1 h2 => by
  by_cases q : i = k + 1
  · exact ⟨p, if_pos (by omega), E, F⟩
  · obtain ⟨p', q1, q2, q3⟩ := P i h1 (by omega)
    exact ⟨p', (if_neg (by omega)).trans q1, q2, q3⟩
theorem Pend.dn {Z : State} {h : Heap} {f : Nat → Value} {k : Nat} (P : Pend Z h f k) (hk : k ≤ 3) : Pend Z h (fun i => if i = 17 - k then .null else f i) (k - 1) := fun i h1 h2 => by
  obtain ⟨p', q1, q2, q3⟩ := P i h1 (by omega)
  exact ⟨p', (if_neg (by omega)).trans q1, q2, q3⟩
theorem own_nx_le {k n : Nat} (b : Int32) (h : k ≤ n) : own_nx k b ≤ n + 1 := by unfold own_nx; split <;> omega
theorem own_nn (k : Nat) (h : k ≤ 4) : ¬ (own_i k < (0 : Int32)) := by
  have c : k = 0 ∨ k = 1 ∨ k = 2 ∨ k = 3 ∨ k = 4 := by omega
  rcases c with rfl | rfl | rfl | rfl | rfl <;> decide
def Q1 (Z : State) (ra : Addr) (h0 : Heap) (n0 : Nat) (v : Option Value) (h : Heap) (L : List Loc) : Prop := v = none ∧ Fr n0 L ∧ h = h0
set_option maxRecDepth 65536 in
set_option maxHeartbeats 40000000 in
theorem rm1 (l : Launch) (Z : State) (a0 : Array Value) (hw : ∀ d ∈ tables_1, d.before a0 Z = true) (ws : List Jvm.Cond) (ra : Addr) (h0 : Heap) (n0 : Nat) (Z0 : n0 ≤ h0.size)  :
    MetFree l (⟨"java/util/AbstractCollection", "<init>", "()V"⟩ : MethodName) (head1 (Jvm.Cond.code (⟨"java/util/AbstractCollection", "<init>", "()V"⟩ : MethodName) jdk_22_method_1_code 1 none :: ws) ({ frames := 1, cells := 0, slots := 0, locals := 12 } : Room)) (fun a U => a = #[(.ref ra)] ∧ Z.Warmed39 U.vm ∧ U.heap = h0) (fun _ _ _ _ _ => True) (fun _ U o U' => ∃ v L, o = .returned v ∧ Q1 Z ra h0 n0 v U'.heap L ∧ FrameEnd U o U' L ({ frames := 1, cells := 0, slots := 0, locals := 12 } : Room).cells ({ frames := 1, cells := 0, slots := 0, locals := 12 } : Room).slots) := by
  refine MetFree.of_bodySF (plainFor_of_name pn_java_util_AbstractCollection) hisR ?_
  intro p e s m args0 below meth c s₁ Bd hml0 hP hK
  obtain ⟨rfl, hZ, hh⟩ := hP
  have hx := Bd.exec
  have hby := Bd.bytes
  have hml : c.maxLocals = 1 := hml0
  have hown : s.vm.findClass "java/util/AbstractCollection" = some m.cls := findClass_of_methodNamed Bd.named
  have hnm := (name_of_methodNamed Bd.named Bd.method).1
  have X0 : Stand p l e ({ frames := 1, cells := 0, slots := 0, locals := 12 } : Room) s m #[(.ref ra)] below meth c s₁ [] 0 0 := Stand.of_body Bd
  have e0 : s₁.heap = h0 := by rw [← hh, Bd.state]; rfl
  have N0 := Fr.nil n0
  have pre0 : ∀ t, Steps p.tables e below (s₁.setTop (mkF m 0 #[.val (.ref ra)] [])) t → Steps p.tables e below (s₁.setTop (entryFrame m #[(.ref ra)] 1)) t := fun t kk_ => castTop (ef_1 m ra) kk_
  have s1 : ∀ t, Steps p.tables e below (s₁.setTop (mkF m 1 #[.val (.ref ra)] [(.ref ra)])) t → Steps p.tables e below (s₁.setTop (mkF m 0 #[.val (.ref ra)] [])) t := by
    intro t kt
    refine XS.aloadN X0.here hx rfl (hb hby d1_0) rfl rfl ?_
    exact kt
  obtain ⟨T2, X2, e2, st2⟩ := initO X0 hx hZ hown (hw _ (List.mem_of_getElem? (i := 21) rfl)) (hw _ (List.mem_of_getElem? (i := 7) rfl)) (hw _ (List.mem_of_getElem? (i := 8) rfl)) e0 (g := (mkF m 1 #[.val (.ref ra)] [(.ref ra)])) rfl (by rw [hml]; rfl) rfl (hb hby d1_1) (by decide) (W := 0) (by show 2 * 0 + _ ≤ _; exact Nat.le_of_eq rfl) (by decide)
  obtain ⟨fs_, hr, hrun, hended, hW, hsame⟩ := X2.leave (hlocks := BodyLoose.notSynchronized Bd) (v := none) (fun _ => rfl)
  refine ⟨_, _, pre0 _ (s1 _ (st2 _ (?_))), hrun, hended, _, _, rfl, ?_, ⟨_, rfl⟩, hW, hsame.mono (by decide) (by decide)⟩
  · show Steps p.tables e below (T2.setTop (mkF m 4 #[.val (.ref ra)] [])) _
    exact X2.returnOut hx Bd.returns (hb hby d1_4) hr
  · show Q1 Z ra h0 n0 _ T2.heap _
    rw [e2]
    exact ⟨rfl, N0, rfl⟩
def Q2 (Z : State) (fa : Addr) (h0 : Heap) (n0 : Nat) (v : Option Value) (h : Heap) (L : List Loc) : Prop := v = none ∧ Fr n0 L ∧ Keep h0 h [fa] ∧ Exa Z h fa "java/util/ArrayDeque" ∧ ∃ b : Addr, n0 ≤ b ∧ h0.size ≤ b ∧ Fld Z h fa "java/util/ArrayDeque" "elements" "[Ljava/lang/Object;" (.ref b) ∧ Fld Z h fa "java/util/ArrayDeque" "head" "I" (.int (0 : Int32)) ∧ Fld Z h fa "java/util/ArrayDeque" "tail" "I" (.int (0 : Int32)) ∧ Ao Z h b "java/lang/Object" 17 (fun _ => .null)
set_option maxRecDepth 65536 in
set_option maxHeartbeats 40000000 in
theorem rm2 (l : Launch) (Z : State) (a0 : Array Value) (hw : ∀ d ∈ tables_1, d.before a0 Z = true) (ws : List Jvm.Cond) (fa : Addr) (h0 : Heap) (n0 : Nat) (Z0 : n0 ≤ h0.size) (Ea : Exa Z h0 fa "java/util/ArrayDeque") (F1 : Fld Z h0 fa "java/util/ArrayDeque" "elements" "[Ljava/lang/Object;" .null) (F2 : Fld Z h0 fa "java/util/ArrayDeque" "head" "I" (.int (0 : Int32))) (F3 : Fld Z h0 fa "java/util/ArrayDeque" "tail" "I" (.int (0 : Int32))) (Ga : n0 ≤ fa) :
    MetFree l (⟨"java/util/ArrayDeque", "<init>", "()V"⟩ : MethodName) (head1 (Jvm.Cond.code (⟨"java/util/ArrayDeque", "<init>", "()V"⟩ : MethodName) jdk_21_method_3_code 1 none :: ws) ({ frames := 2, cells := 1, slots := 17, locals := 24 } : Room)) (fun a U => a = #[(.ref fa)] ∧ Z.Warmed39 U.vm ∧ U.heap = h0) (fun _ _ _ _ _ => True) (fun _ U o U' => ∃ v L, o = .returned v ∧ Q2 Z fa h0 n0 v U'.heap L ∧ FrameEnd U o U' L ({ frames := 2, cells := 1, slots := 17, locals := 24 } : Room).cells ({ frames := 2, cells := 1, slots := 17, locals := 24 } : Room).slots) := by
  refine MetFree.of_bodySF (plainFor_of_name pn_java_util_ArrayDeque) hisR ?_
  intro p e s m args0 below meth c s₁ Bd hml0 hP hK
  obtain ⟨rfl, hZ, hh⟩ := hP
  have hx := Bd.exec
  have hby := Bd.bytes
  have hml : c.maxLocals = 1 := hml0
  have hown : s.vm.findClass "java/util/ArrayDeque" = some m.cls := findClass_of_methodNamed Bd.named
  have hnm := (name_of_methodNamed Bd.named Bd.method).1
  have X0 : Stand p l e ({ frames := 2, cells := 1, slots := 17, locals := 24 } : Room) s m #[(.ref fa)] below meth c s₁ [] 0 0 := Stand.of_body Bd
  have e0 : s₁.heap = h0 := by rw [← hh, Bd.state]; rfl
  have N0 := Fr.nil n0
  have pre0 : ∀ t, Steps p.tables e below (s₁.setTop (mkF m 0 #[.val (.ref fa)] [])) t → Steps p.tables e below (s₁.setTop (entryFrame m #[(.ref fa)] 1)) t := fun t kk_ => castTop (ef_2 m fa) kk_
  have s3 : ∀ t, Steps p.tables e below (s₁.setTop (mkF m 1 #[.val (.ref fa)] [(.ref fa)])) t → Steps p.tables e below (s₁.setTop (mkF m 0 #[.val (.ref fa)] [])) t := by
    intro t kt
    refine XS.aloadN X0.here hx rfl (hb hby d2_0) rfl rfl ?_
    exact kt
  obtain ⟨_, _, ⟨T4, L4, k4, n4⟩, -, X4, ⟨Lc4, hQ4, l4, y4, z4⟩, st4⟩ := X0.specialBack hx (y := (⟨"java/util/AbstractCollection", "<init>", "()V"⟩ : MethodName)) rfl hown (mvT hZ (hw _ (List.mem_of_getElem? (i := 15) rfl))) (mvT hZ (hw _ (List.mem_of_getElem? (i := 16) rfl))) (mvT hZ (hw _ (List.mem_of_getElem? (i := 20) rfl))) (by decide) (backOf (W := 0) (rm1 l Z a0 hw [] fa h0 n0 Z0 ) hZ (hw _ (List.mem_of_getElem? (i := 20) rfl)) (hw _ (List.mem_of_getElem? (i := 19) rfl)) (by decide) (by decide)) (g := (mkF m 1 #[.val (.ref fa)] [(.ref fa)])) rfl (by rw [hml]; rfl) (Steps.refl _) (a := fa) (argsL := []) (rest := []) (lenOf pd_ocV rfl) rfl (by show 2 * 0 + _ ≤ _; exact Nat.le_of_eq rfl) (hb hby d2_1) (fun _ _ => ⟨rfl, e0, (by decide : 0 + 0 ≤ _), (by decide : 0 + 0 ≤ _)⟩)
  dsimp only [Pt.U, Pt.locs, Pt.cells, Pt.slots] at X4 l4 y4 z4 st4 hQ4
  subst l4 y4 z4
  obtain ⟨rfl, N4q, e4q⟩ := hQ4
  have N4 := Fr.app N0 N4q
  have s5 : ∀ t, Steps p.tables e below (T4.setTop (mkF m 7 #[.val (.ref fa)] [(.int (17 : Int32)), (.ref fa)])) t → Steps p.tables e below (T4.setTop (mkF m 4 #[.val (.ref fa)] [])) t := by
    intro t kt
    refine XS.aloadN X4.here hx rfl (hb hby d2_4) rfl rfl ?_
    show Steps p.tables e below (T4.setTop (mkF m 5 #[.val (.ref fa)] [(.ref fa)])) t
    refine XS.bipush X4.here hx rfl (hb hby d2_5) ?_
    exact kt
  obtain ⟨T6, h6, k6, X6, e6, E6, A6, O6, st6⟩ := newR X4 hx hZ hown (hw _ (List.mem_of_getElem? (i := 22) rfl)) (hw _ (List.mem_of_getElem? (i := 23) rfl)) e4q (g := (mkF m 7 #[.val (.ref fa)] [(.int (17 : Int32)), (.ref fa)])) rfl (hb hby d2_7) rfl (by decide) (cap := 17) (by decide) (by decide) (by decide) (by decide)
  obtain ⟨b6, g6⟩ : ∃ z, z = h0.size := ⟨_, rfl⟩
  rw [← g6] at A6 st6
  have ne7 : fa ≠ b6 := Nat.ne_of_lt (Nat.lt_of_lt_of_le Ea.lt (Nat.le_of_eq g6.symm))
  have gn6 : n0 ≤ b6 := Nat.le_trans Z0 (Nat.le_of_eq g6.symm)
  have sz6 : h0.size ≤ b6 := Nat.le_trans (Keep.refl h0 [fa]).1 (Nat.le_of_eq g6.symm)
  have Zs6 : n0 ≤ h6.size := Nat.le_trans Z0 E6.1
  have fE8 := Ea.ext E6
  have fF9 := F1.ext E6
  have fF10 := F2.ext E6
  have fF11 := F3.ext E6
  have K6 : Keep h0 h6 [fa] := (Keep.refl h0 [fa]).ext E6
  have fV12 : OwnKit.Ao Z h6 b6 "java/lang/Object" 17 (fun _ => .null) := OwnKit.Ao.new A6 O6 (by decide) (by decide)
  obtain ⟨T13, h13, X13, e13, W13, st13⟩ := putF X6 hx hZ hown (host := "") (Or.inl (hw _ (List.mem_of_getElem? (i := 24) rfl))) Via.refl e6 fF9 fE8 (Or.inl (hw _ (List.mem_of_getElem? (i := 25) rfl))) (hw _ (List.mem_of_getElem? (i := 10) rfl)) (ty := (.array (.object "java/lang/Object"))) (by decide) rfl rfl (g := (mkF m 10 #[.val (.ref fa)] [(.ref b6), (.ref fa)])) rfl rfl (hb hby d2_10)
  have Zs13 : n0 ≤ h13.size := Nat.le_trans Zs6 (Keep.of_wr W13).1
  have fE14 := fE8.wr W13
  have fF15 := fF9.same W13
  have fF16 := fF10.other W13 (Or.inr (slot_ne (Or.inl (hw _ (List.mem_of_getElem? (i := 77) rfl))) (Or.inl (hw _ (List.mem_of_getElem? (i := 25) rfl))) (by decide) (t := .int) (t' := (.array (.object "java/lang/Object"))) (by decide) (by decide)))
  have fF17 := fF11.other W13 (Or.inr (slot_ne (Or.inl (hw _ (List.mem_of_getElem? (i := 83) rfl))) (Or.inl (hw _ (List.mem_of_getElem? (i := 25) rfl))) (by decide) (t := .int) (t' := (.array (.object "java/lang/Object"))) (by decide) (by decide)))
  have fV18 := fV12.other W13 (Ne.symm ne7)
  have K13 : Keep h0 h13 [fa] := K6.wr W13 (Or.inl (List.mem_of_getElem? (i := 0) rfl))
  have N13 := Fr.snoc X13 N4 Ga
  obtain ⟨fs_, hr, hrun, hended, hW, hsame⟩ := X13.leave (hlocks := BodyLoose.notSynchronized Bd) (v := none) (fun _ => rfl)
  refine ⟨_, _, pre0 _ (s3 _ (st4.trans (s5 _ (st6 _ (st13 _ (?_)))))), hrun, hended, _, _, rfl, ?_, ⟨_, rfl⟩, hW, hsame.mono (by decide) (by decide)⟩
  · show Steps p.tables e below (T13.setTop (mkF m 13 #[.val (.ref fa)] [])) _
    exact X13.returnOut hx Bd.returns (hb hby d2_13) hr
  · show Q2 Z fa h0 n0 _ T13.heap _
    rw [e13]
    exact ⟨rfl, N13, K13, fE14, ⟨b6, gn6, sz6, fF15, fF16, fF17, fV18⟩⟩
def Q3 (Z : State) (fa : Addr) (h0 : Heap) (n0 : Nat) (v : Option Value) (h : Heap) (L : List Loc) : Prop := v = none ∧ Fr n0 L ∧ Keep h0 h [fa] ∧ Exa Z h fa "com/example/tell_nothing/tellnothing/pepa/Expression" ∧ Fld Z h fa "com/example/tell_nothing/tellnothing/pepa/Expression" "openParentheses" "I" (.int (0 : Int32)) ∧ ∃ d b : Addr, n0 ≤ d ∧ n0 ≤ b ∧ Fld Z h fa "com/example/tell_nothing/tellnothing/pepa/Expression" "pending" "Ljava/util/Deque;" (.ref d) ∧ Exa Z h d "java/util/ArrayDeque" ∧ Fld Z h d "java/util/ArrayDeque" "elements" "[Ljava/lang/Object;" (.ref b) ∧ Fld Z h d "java/util/ArrayDeque" "head" "I" (.int (0 : Int32)) ∧ Fld Z h d "java/util/ArrayDeque" "tail" "I" (.int (0 : Int32)) ∧ Ao Z h b "java/lang/Object" 17 (fun _ => .null)
set_option maxRecDepth 65536 in
set_option maxHeartbeats 40000000 in
theorem rm3 (l : Launch) (Z : State) (a0 : Array Value) (hw : ∀ d ∈ tables_1, d.before a0 Z = true) (ws : List Jvm.Cond) (fa : Addr) (h0 : Heap) (n0 : Nat) (Z0 : n0 ≤ h0.size) (Ea : Exa Z h0 fa "com/example/tell_nothing/tellnothing/pepa/Expression") (F1 : Fld Z h0 fa "com/example/tell_nothing/tellnothing/pepa/Expression" "operands" "Ljava/util/Deque;" .null) (F2 : Fld Z h0 fa "com/example/tell_nothing/tellnothing/pepa/Expression" "pending" "Ljava/util/Deque;" .null) (F3 : Fld Z h0 fa "com/example/tell_nothing/tellnothing/pepa/Expression" "openParentheses" "I" (.int (0 : Int32))) (Ga : n0 ≤ fa) :
    MetFree l (⟨"com/example/tell_nothing/tellnothing/pepa/Expression", "<init>", "()V"⟩ : MethodName) (head1 (Jvm.Cond.code (⟨"com/example/tell_nothing/tellnothing/pepa/Expression", "<init>", "()V"⟩ : MethodName) prog_33_method_1_code 1 none :: ws) ({ frames := 3, cells := 4, slots := 40, locals := 38 } : Room)) (fun a U => a = #[(.ref fa)] ∧ Z.Warmed39 U.vm ∧ U.heap = h0) (fun _ _ _ _ _ => True) (fun _ U o U' => ∃ v L, o = .returned v ∧ Q3 Z fa h0 n0 v U'.heap L ∧ FrameEnd U o U' L ({ frames := 3, cells := 4, slots := 40, locals := 38 } : Room).cells ({ frames := 3, cells := 4, slots := 40, locals := 38 } : Room).slots) := by
  refine MetFree.of_bodySF (plainFor_of_name pn_com_example_tell_nothing_tellnothing_pepa_Expression) hisR ?_
  intro p e s m args0 below meth c s₁ Bd hml0 hP hK
  obtain ⟨rfl, hZ, hh⟩ := hP
  have hx := Bd.exec
  have hby := Bd.bytes
  have hml : c.maxLocals = 1 := hml0
  have hown : s.vm.findClass "com/example/tell_nothing/tellnothing/pepa/Expression" = some m.cls := findClass_of_methodNamed Bd.named
  have hnm := (name_of_methodNamed Bd.named Bd.method).1
  have X0 : Stand p l e ({ frames := 3, cells := 4, slots := 40, locals := 38 } : Room) s m #[(.ref fa)] below meth c s₁ [] 0 0 := Stand.of_body Bd
  have e0 : s₁.heap = h0 := by rw [← hh, Bd.state]; rfl
  have N0 := Fr.nil n0
  have pre0 : ∀ t, Steps p.tables e below (s₁.setTop (mkF m 0 #[.val (.ref fa)] [])) t → Steps p.tables e below (s₁.setTop (entryFrame m #[(.ref fa)] 1)) t := fun t kk_ => castTop (ef_3 m fa) kk_
  have s19 : ∀ t, Steps p.tables e below (s₁.setTop (mkF m 1 #[.val (.ref fa)] [(.ref fa)])) t → Steps p.tables e below (s₁.setTop (mkF m 0 #[.val (.ref fa)] [])) t := by
    intro t kt
    refine XS.aloadN X0.here hx rfl (hb hby d3_0) rfl rfl ?_
    exact kt
  obtain ⟨T20, X20, e20, st20⟩ := initO X0 hx hZ hown (hw _ (List.mem_of_getElem? (i := 6) rfl)) (hw _ (List.mem_of_getElem? (i := 7) rfl)) (hw _ (List.mem_of_getElem? (i := 8) rfl)) e0 (g := (mkF m 1 #[.val (.ref fa)] [(.ref fa)])) rfl (by rw [hml]; rfl) rfl (hb hby d3_1) (by decide) (W := 0) (by show 2 * 0 + _ ≤ _; exact Nat.le_of_eq rfl) (by decide)
  have s21 : ∀ t, Steps p.tables e below (T20.setTop (mkF m 5 #[.val (.ref fa)] [(.ref fa)])) t → Steps p.tables e below (T20.setTop (mkF m 4 #[.val (.ref fa)] [])) t := by
    intro t kt
    refine XS.aloadN X20.here hx rfl (hb hby d3_4) rfl rfl ?_
    exact kt
  obtain ⟨T22, h22, X22, e22, E22, A22, D22, -, st22⟩ := newO X20 hx hZ hown (hw _ (List.mem_of_getElem? (i := 9) rfl)) (hw _ (List.mem_of_getElem? (i := 10) rfl)) (hw _ (List.mem_of_getElem? (i := 11) rfl)) e20 (g := (mkF m 5 #[.val (.ref fa)] [(.ref fa)])) rfl (hb hby d3_5) (by decide) (by decide)
  obtain ⟨b22, g22⟩ : ∃ z, z = h0.size := ⟨_, rfl⟩
  rw [← g22] at A22 D22 st22
  have ne23 : fa ≠ b22 := Nat.ne_of_lt (Nat.lt_of_lt_of_le Ea.lt (Nat.le_of_eq g22.symm))
  have gn22 : n0 ≤ b22 := Nat.le_trans Z0 (Nat.le_of_eq g22.symm)
  have sz22 : h0.size ≤ b22 := Nat.le_trans (Keep.refl h0 [fa]).1 (Nat.le_of_eq g22.symm)
  have Zs22 : n0 ≤ h22.size := Nat.le_trans Z0 E22.1
  have fE24 := Ea.ext E22
  have fF25 := F1.ext E22
  have fF26 := F2.ext E22
  have fF27 := F3.ext E22
  have K22 : Keep h0 h22 [fa] := (Keep.refl h0 [fa]).ext E22
  have fF28 : Fld Z h22 b22 "java/util/ArrayDeque" "elements" "[Ljava/lang/Object;" .null := D22 (Or.inl (hw _ (List.mem_of_getElem? (i := 25) rfl))) (ty := (.array (.object "java/lang/Object"))) (by decide)
  have fF29 : Fld Z h22 b22 "java/util/ArrayDeque" "head" "I" (.int (0 : Int32)) := D22 (Or.inl (hw _ (List.mem_of_getElem? (i := 77) rfl))) (ty := .int) (by decide)
  have fF30 : Fld Z h22 b22 "java/util/ArrayDeque" "tail" "I" (.int (0 : Int32)) := D22 (Or.inl (hw _ (List.mem_of_getElem? (i := 83) rfl))) (ty := .int) (by decide)
  have s31 : ∀ t, Steps p.tables e below (T22.setTop (mkF m 9 #[.val (.ref fa)] [(.ref b22), (.ref b22), (.ref fa)])) t → Steps p.tables e below (T22.setTop (mkF m 8 #[.val (.ref fa)] [(.ref b22), (.ref fa)])) t := by
    intro t kt
    refine XS.dup X22.here hx rfl (hb hby d3_8) rfl rfl ?_
    exact kt
  obtain ⟨_, _, ⟨T32, L32, k32, n32⟩, -, X32, ⟨Lc32, hQ32, l32, y32, z32⟩, st32⟩ := X22.specialBack hx (y := (⟨"java/util/ArrayDeque", "<init>", "()V"⟩ : MethodName)) rfl hown (mvT hZ (hw _ (List.mem_of_getElem? (i := 12) rfl))) (mvT hZ (hw _ (List.mem_of_getElem? (i := 13) rfl))) (mvT hZ (hw _ (List.mem_of_getElem? (i := 14) rfl))) (by decide) (backOf (W := 2) (rm2 l Z a0 hw [] b22 h22 n0 Zs22 A22 fF28 fF29 fF30 gn22) hZ (hw _ (List.mem_of_getElem? (i := 14) rfl)) (hw _ (List.mem_of_getElem? (i := 11) rfl)) (by decide) (by decide)) (g := (mkF m 9 #[.val (.ref fa)] [(.ref b22), (.ref b22), (.ref fa)])) rfl (by rw [hml]; rfl) (Steps.refl _) (a := b22) (argsL := []) (rest := [(.ref b22), (.ref fa)]) (lenOf pd_ocV rfl) rfl (by show 2 * 0 + _ ≤ _; exact Nat.le_of_eq rfl) (hb hby d3_9) (fun _ _ => ⟨rfl, e22, (by decide : 1 + 1 ≤ _), (by decide : 3 + 17 ≤ _)⟩)
  dsimp only [Pt.U, Pt.locs, Pt.cells, Pt.slots] at X32 l32 y32 z32 st32 hQ32
  subst l32 y32 z32
  obtain ⟨rfl, N32q, Kc32, E32_, b32, G32, S32, Fe32, Fh32, Ft32, V32⟩ := hQ32
  have N32 := Fr.app N0 N32q
  have ne33 : fa ≠ b32 := Nat.ne_of_lt (Nat.lt_of_lt_of_le fE24.lt S32)
  have ne34 : b22 ≠ b32 := Nat.ne_of_lt (Nat.lt_of_lt_of_le A22.lt S32)
  have sz32 : h0.size ≤ b32 := Nat.le_trans K22.1 S32
  have K32 : Keep h0 T32.heap [fa] := K22.trans Kc32 (allS (Or.inr sz22) all0)
  have Zs32 : n0 ≤ T32.heap.size := Nat.le_trans Zs22 Kc32.1
  have fE35 := fE24.keep Kc32
  have fF36 := fF25.keep Kc32 (ninS ne23 nin0)
  have fF37 := fF26.keep Kc32 (ninS ne23 nin0)
  have fF38 := fF27.keep Kc32 (ninS ne23 nin0)
  obtain ⟨T39, h39, X39, e39, W39, st39⟩ := putF X32 hx hZ hown (host := "") (Or.inl (hw _ (List.mem_of_getElem? (i := 26) rfl))) Via.refl rfl fF36 fE35 (Or.inr ⟨(hw _ (List.mem_of_getElem? (i := 27) rfl)), rfl, hnm⟩) (hw _ (List.mem_of_getElem? (i := 1) rfl)) (ty := (.object "java/util/Deque")) (by decide) rfl rfl (g := (mkF m 12 #[.val (.ref fa)] [(.ref b22), (.ref fa)])) rfl rfl (hb hby d3_12)
  have Zs39 : n0 ≤ h39.size := Nat.le_trans Zs32 (Keep.of_wr W39).1
  have fE40 := fE35.wr W39
  have fF41 := fF36.same W39
  have fF42 := fF37.other W39 (Or.inr (slot_ne (Or.inr (hw _ (List.mem_of_getElem? (i := 29) rfl))) (Or.inr (hw _ (List.mem_of_getElem? (i := 27) rfl))) (by decide) (t := (.object "java/util/Deque")) (t' := (.object "java/util/Deque")) (by decide) (by decide)))
  have fF43 := fF38.other W39 (Or.inr (slot_ne (Or.inl (hw _ (List.mem_of_getElem? (i := 36) rfl))) (Or.inr (hw _ (List.mem_of_getElem? (i := 27) rfl))) (by decide) (t := .int) (t' := (.object "java/util/Deque")) (by decide) (by decide)))
  have fE44 := E32_.wr W39
  have fF45 := Fe32.other W39 (Or.inl (Ne.symm ne23))
  have fF46 := Fh32.other W39 (Or.inl (Ne.symm ne23))
  have fF47 := Ft32.other W39 (Or.inl (Ne.symm ne23))
  have fV48 := V32.other W39 (Ne.symm ne33)
  have K39 : Keep h0 h39 [fa] := K32.wr W39 (Or.inl (List.mem_of_getElem? (i := 0) rfl))
  have N39 := Fr.snoc X39 N32 Ga
  have s49 : ∀ t, Steps p.tables e below (T39.setTop (mkF m 16 #[.val (.ref fa)] [(.ref fa)])) t → Steps p.tables e below (T39.setTop (mkF m 15 #[.val (.ref fa)] [])) t := by
    intro t kt
    refine XS.aloadN X39.here hx rfl (hb hby d3_15) rfl rfl ?_
    exact kt
  obtain ⟨T50, h50, X50, e50, E50, A50, D50, -, st50⟩ := newO X39 hx hZ hown (hw _ (List.mem_of_getElem? (i := 9) rfl)) (hw _ (List.mem_of_getElem? (i := 10) rfl)) (hw _ (List.mem_of_getElem? (i := 11) rfl)) e39 (g := (mkF m 16 #[.val (.ref fa)] [(.ref fa)])) rfl (hb hby d3_16) (by decide) (by decide)
  obtain ⟨b50, g50⟩ : ∃ z, z = h39.size := ⟨_, rfl⟩
  rw [← g50] at A50 D50 st50
  have ne51 : fa ≠ b50 := Nat.ne_of_lt (Nat.lt_of_lt_of_le fE40.lt (Nat.le_of_eq g50.symm))
  have gn50 : n0 ≤ b50 := Nat.le_trans Zs39 (Nat.le_of_eq g50.symm)
  have sz50 : h0.size ≤ b50 := Nat.le_trans K39.1 (Nat.le_of_eq g50.symm)
  have Zs50 : n0 ≤ h50.size := Nat.le_trans Zs39 E50.1
  have fE52 := fE40.ext E50
  have fF53 := fF41.ext E50
  have fF54 := fF42.ext E50
  have fF55 := fF43.ext E50
  have K50 : Keep h0 h50 [fa] := K39.ext E50
  have fF56 : Fld Z h50 b50 "java/util/ArrayDeque" "elements" "[Ljava/lang/Object;" .null := D50 (Or.inl (hw _ (List.mem_of_getElem? (i := 25) rfl))) (ty := (.array (.object "java/lang/Object"))) (by decide)
  have fF57 : Fld Z h50 b50 "java/util/ArrayDeque" "head" "I" (.int (0 : Int32)) := D50 (Or.inl (hw _ (List.mem_of_getElem? (i := 77) rfl))) (ty := .int) (by decide)
  have fF58 : Fld Z h50 b50 "java/util/ArrayDeque" "tail" "I" (.int (0 : Int32)) := D50 (Or.inl (hw _ (List.mem_of_getElem? (i := 83) rfl))) (ty := .int) (by decide)
  have s59 : ∀ t, Steps p.tables e below (T50.setTop (mkF m 20 #[.val (.ref fa)] [(.ref b50), (.ref b50), (.ref fa)])) t → Steps p.tables e below (T50.setTop (mkF m 19 #[.val (.ref fa)] [(.ref b50), (.ref fa)])) t := by
    intro t kt
    refine XS.dup X50.here hx rfl (hb hby d3_19) rfl rfl ?_
    exact kt
  obtain ⟨_, _, ⟨T60, L60, k60, n60⟩, -, X60, ⟨Lc60, hQ60, l60, y60, z60⟩, st60⟩ := X50.specialBack hx (y := (⟨"java/util/ArrayDeque", "<init>", "()V"⟩ : MethodName)) rfl hown (mvT hZ (hw _ (List.mem_of_getElem? (i := 12) rfl))) (mvT hZ (hw _ (List.mem_of_getElem? (i := 13) rfl))) (mvT hZ (hw _ (List.mem_of_getElem? (i := 14) rfl))) (by decide) (backOf (W := 2) (rm2 l Z a0 hw [] b50 h50 n0 Zs50 A50 fF56 fF57 fF58 gn50) hZ (hw _ (List.mem_of_getElem? (i := 14) rfl)) (hw _ (List.mem_of_getElem? (i := 11) rfl)) (by decide) (by decide)) (g := (mkF m 20 #[.val (.ref fa)] [(.ref b50), (.ref b50), (.ref fa)])) rfl (by rw [hml]; rfl) (Steps.refl _) (a := b50) (argsL := []) (rest := [(.ref b50), (.ref fa)]) (lenOf pd_ocV rfl) rfl (by show 2 * 0 + _ ≤ _; exact Nat.le_of_eq rfl) (hb hby d3_20) (fun _ _ => ⟨rfl, e50, (by decide : 3 + 1 ≤ _), (by decide : 23 + 17 ≤ _)⟩)
  dsimp only [Pt.U, Pt.locs, Pt.cells, Pt.slots] at X60 l60 y60 z60 st60 hQ60
  subst l60 y60 z60
  obtain ⟨rfl, N60q, Kc60, E60_, b60, G60, S60, Fe60, Fh60, Ft60, V60⟩ := hQ60
  have N60 := Fr.app N39 N60q
  have ne61 : fa ≠ b60 := Nat.ne_of_lt (Nat.lt_of_lt_of_le fE52.lt S60)
  have ne62 : b50 ≠ b60 := Nat.ne_of_lt (Nat.lt_of_lt_of_le A50.lt S60)
  have sz60 : h0.size ≤ b60 := Nat.le_trans K50.1 S60
  have K60 : Keep h0 T60.heap [fa] := K50.trans Kc60 (allS (Or.inr sz50) all0)
  have Zs60 : n0 ≤ T60.heap.size := Nat.le_trans Zs50 Kc60.1
  have fE63 := fE52.keep Kc60
  have fF64 := fF53.keep Kc60 (ninS ne51 nin0)
  have fF65 := fF54.keep Kc60 (ninS ne51 nin0)
  have fF66 := fF55.keep Kc60 (ninS ne51 nin0)
  obtain ⟨T67, h67, X67, e67, W67, st67⟩ := putF X60 hx hZ hown (host := "") (Or.inl (hw _ (List.mem_of_getElem? (i := 28) rfl))) Via.refl rfl fF65 fE63 (Or.inr ⟨(hw _ (List.mem_of_getElem? (i := 29) rfl)), rfl, hnm⟩) (hw _ (List.mem_of_getElem? (i := 1) rfl)) (ty := (.object "java/util/Deque")) (by decide) rfl rfl (g := (mkF m 23 #[.val (.ref fa)] [(.ref b50), (.ref fa)])) rfl rfl (hb hby d3_23)
  have Zs67 : n0 ≤ h67.size := Nat.le_trans Zs60 (Keep.of_wr W67).1
  have fE68 := fE63.wr W67
  have fF69 := fF64.other W67 (Or.inr (slot_ne (Or.inr (hw _ (List.mem_of_getElem? (i := 27) rfl))) (Or.inr (hw _ (List.mem_of_getElem? (i := 29) rfl))) (by decide) (t := (.object "java/util/Deque")) (t' := (.object "java/util/Deque")) (by decide) (by decide)))
  have fF70 := fF65.same W67
  have fF71 := fF66.other W67 (Or.inr (slot_ne (Or.inl (hw _ (List.mem_of_getElem? (i := 36) rfl))) (Or.inr (hw _ (List.mem_of_getElem? (i := 29) rfl))) (by decide) (t := .int) (t' := (.object "java/util/Deque")) (by decide) (by decide)))
  have fE72 := E60_.wr W67
  have fF73 := Fe60.other W67 (Or.inl (Ne.symm ne51))
  have fF74 := Fh60.other W67 (Or.inl (Ne.symm ne51))
  have fF75 := Ft60.other W67 (Or.inl (Ne.symm ne51))
  have fV76 := V60.other W67 (Ne.symm ne61)
  have K67 : Keep h0 h67 [fa] := K60.wr W67 (Or.inl (List.mem_of_getElem? (i := 0) rfl))
  have N67 := Fr.snoc X67 N60 Ga
  obtain ⟨fs_, hr, hrun, hended, hW, hsame⟩ := X67.leave (hlocks := BodyLoose.notSynchronized Bd) (v := none) (fun _ => rfl)
  refine ⟨_, _, pre0 _ (s19 _ (st20 _ (s21 _ (st22 _ (s31 _ (st32.trans (st39 _ (s49 _ (st50 _ (s59 _ (st60.trans (st67 _ (?_))))))))))))), hrun, hended, _, _, rfl, ?_, ⟨_, rfl⟩, hW, hsame.mono (by decide) (by decide)⟩
  · show Steps p.tables e below (T67.setTop (mkF m 26 #[.val (.ref fa)] [])) _
    exact X67.returnOut hx Bd.returns (hb hby d3_26) hr
  · show Q3 Z fa h0 n0 _ T67.heap _
    rw [e67]
    exact ⟨rfl, N67, K67, fE68, fF71, ⟨b50, b60, gn50, G60, fF70, fE72, fF73, fF74, fF75, fV76⟩⟩
def Q4 (Z : State) (fa : Addr) (fv : Int32) (h0 : Heap) (n0 : Nat) (v : Option Value) (h : Heap) (L : List Loc) : Prop := v = some (.int (fopen fv)) ∧ Fr n0 L ∧ h = h0
set_option maxRecDepth 65536 in
set_option maxHeartbeats 40000000 in
theorem rm4 (l : Launch) (Z : State) (a0 : Array Value) (hw : ∀ d ∈ tables_1, d.before a0 Z = true) (ws : List Jvm.Cond) (fa : Addr) (fv : Int32) (h0 : Heap) (n0 : Nat) (Z0 : n0 ≤ h0.size) (F1 : Fld Z h0 fa "com/example/tell_nothing/tellnothing/pepa/Expression" "openParentheses" "I" (.int fv)) :
    MetFree l (⟨"com/example/tell_nothing/tellnothing/pepa/Expression", "isOpen", "()Z"⟩ : MethodName) (head1 (Jvm.Cond.code (⟨"com/example/tell_nothing/tellnothing/pepa/Expression", "isOpen", "()Z"⟩ : MethodName) prog_33_method_8_code 1 (some .boolean) :: ws) ({ frames := 0, cells := 0, slots := 0, locals := 0 } : Room)) (fun a U => a = #[(.ref fa)] ∧ Z.Warmed39 U.vm ∧ U.heap = h0) (fun _ _ _ _ _ => True) (fun _ U o U' => ∃ v L, o = .returned v ∧ Q4 Z fa fv h0 n0 v U'.heap L ∧ FrameEnd U o U' L ({ frames := 0, cells := 0, slots := 0, locals := 0 } : Room).cells ({ frames := 0, cells := 0, slots := 0, locals := 0 } : Room).slots) := by
  refine MetFree.of_bodySF (plainFor_of_name pn_com_example_tell_nothing_tellnothing_pepa_Expression) hisR ?_
  intro p e s m args0 below meth c s₁ Bd hml0 hP hK
  obtain ⟨rfl, hZ, hh⟩ := hP
  have hx := Bd.exec
  have hby := Bd.bytes
  have hml : c.maxLocals = 1 := hml0
  have hown : s.vm.findClass "com/example/tell_nothing/tellnothing/pepa/Expression" = some m.cls := findClass_of_methodNamed Bd.named
  have hnm := (name_of_methodNamed Bd.named Bd.method).1
  have X0 : Stand p l e ({ frames := 0, cells := 0, slots := 0, locals := 0 } : Room) s m #[(.ref fa)] below meth c s₁ [] 0 0 := Stand.of_body Bd
  have e0 : s₁.heap = h0 := by rw [← hh, Bd.state]; rfl
  have N0 := Fr.nil n0
  have pre0 : ∀ t, Steps p.tables e below (s₁.setTop (mkF m 0 #[.val (.ref fa)] [])) t → Steps p.tables e below (s₁.setTop (entryFrame m #[(.ref fa)] 1)) t := fun t kk_ => castTop (ef_4 m fa) kk_
  have s77 : ∀ t, Steps p.tables e below (s₁.setTop (mkF m 1 #[.val (.ref fa)] [(.ref fa)])) t → Steps p.tables e below (s₁.setTop (mkF m 0 #[.val (.ref fa)] [])) t := by
    intro t kt
    refine XS.aloadN X0.here hx rfl (hb hby d4_0) rfl rfl ?_
    exact kt
  obtain ⟨T78, X78, e78, st78⟩ := getF X0 hx hZ hown (host := "") (Or.inl (hw _ (List.mem_of_getElem? (i := 35) rfl))) Via.refl e0 F1 (g := (mkF m 1 #[.val (.ref fa)] [(.ref fa)])) rfl rfl (hb hby d4_1)
  obtain ⟨w82, hw82, j88⟩ : ∃ (w82 : Int32), w82 = (if (0 : Int32) < fv then (1 : Int32) else (0 : Int32)) ∧ ∀ t, Steps p.tables e below (T78.setTop (mkF m 12 #[.val (.ref fa)] [(.int w82)])) t → Steps p.tables e below (T78.setTop (mkF m 4 #[.val (.ref fa)] [(.int fv)])) t := by
    by_cases c79 : (0 : Int32) < fv
    ·
      have s81 : ∀ t, Steps p.tables e below (T78.setTop (mkF m 12 #[.val (.ref fa)] [(.int (1 : Int32))])) t → Steps p.tables e below (T78.setTop (mkF m 4 #[.val (.ref fa)] [(.int fv)])) t := by
        intro t kt
        refine XS.ifNo X78.here hx rfl (hb hby d4_4) rfl ((if0 _ _).trans (tlt c79).2.2.2) ?_
        show Steps p.tables e below (T78.setTop (mkF m 7 #[.val (.ref fa)] [])) t
        refine XS.iconst X78.here hx rfl (hb hby d4_7) ?_
        show Steps p.tables e below (T78.setTop (mkF m 8 #[.val (.ref fa)] [(.int (1 : Int32))])) t
        refine XS.goto X78.here hx rfl (pc0 := 8) (pc' := 12) rfl (hb hby d4_8) (by decide) (by decide) ?_
        exact kt
      exact ⟨(1 : Int32), (if_pos c79).symm, fun t kt => s81 _ (kt)⟩
    ·
      have s80 : ∀ t, Steps p.tables e below (T78.setTop (mkF m 12 #[.val (.ref fa)] [(.int (0 : Int32))])) t → Steps p.tables e below (T78.setTop (mkF m 4 #[.val (.ref fa)] [(.int fv)])) t := by
        intro t kt
        refine XS.ifYes X78.here hx rfl (pc0 := 4) (pc' := 11) rfl (hb hby d4_4) rfl ((if0 _ _).trans (flt c79).2.2.2) (by decide) (by decide) ?_
        show Steps p.tables e below (T78.setTop (mkF m 11 #[.val (.ref fa)] [])) t
        refine XS.iconst X78.here hx rfl (hb hby d4_11) ?_
        exact kt
      exact ⟨(0 : Int32), (if_neg c79).symm, fun t kt => s80 _ (kt)⟩
  rw [hw82] at j88
  obtain ⟨fs_, hr, hrun, hended, hW, hsame⟩ := X78.leave (hlocks := BodyLoose.notSynchronized Bd) (v := some (.int (if (0 : Int32) < fv then (1 : Int32) else (0 : Int32)))) (fun h => by rw [Bd.returns] at h; cases h)
  refine ⟨_, _, pre0 _ (s77 _ (st78 _ (j88 _ (?_)))), hrun, hended, _, _, rfl, ?_, ⟨_, rfl⟩, hW, hsame.mono (by decide) (by decide)⟩
  · show Steps p.tables e below (T78.setTop (mkF m 12 #[.val (.ref fa)] [(.int (if (0 : Int32) < fv then (1 : Int32) else (0 : Int32)))])) _
    exact retN X78 hx (t := .boolean) Bd.returns (by simp) (hb hby d4_12) (fun f acts q1 q2 q3 => by rw [show nar .boolean (if (0 : Int32) < fv then (1 : Int32) else (0 : Int32)) = (if (0 : Int32) < fv then (1 : Int32) else (0 : Int32)) from by (repeat' split) <;> rfl]; exact hr f acts q1 q2 q3)
  · show Q4 Z fa fv h0 n0 _ T78.heap _
    rw [e78]
    exact ⟨rfl, N0, rfl⟩
def Q5 (Z : State) (fa : Addr) (fq : Int32) (h0 : Heap) (n0 : Nat) (v : Option Value) (h : Heap) (L : List Loc) : Prop := v = none ∧ Fr n0 L ∧ Keep h0 h [fa] ∧ Exa Z h fa "com/example/tell_nothing/tellnothing/pepa/Expression$Pending" ∧ Fld Z h fa "com/example/tell_nothing/tellnothing/pepa/Expression$Pending" "operator" "Lcom/example/tell_nothing/tellnothing/pepa/Expression$Operator;" .null
set_option maxRecDepth 65536 in
set_option maxHeartbeats 40000000 in
theorem rm5 (l : Launch) (Z : State) (a0 : Array Value) (hw : ∀ d ∈ tables_1, d.before a0 Z = true) (ws : List Jvm.Cond) (fa : Addr) (fq : Int32) (h0 : Heap) (n0 : Nat) (Z0 : n0 ≤ h0.size) (Ea : Exa Z h0 fa "com/example/tell_nothing/tellnothing/pepa/Expression$Pending") (F1 : Fld Z h0 fa "com/example/tell_nothing/tellnothing/pepa/Expression$Pending" "operator" "Lcom/example/tell_nothing/tellnothing/pepa/Expression$Operator;" .null) (F2 : Fld Z h0 fa "com/example/tell_nothing/tellnothing/pepa/Expression$Pending" "arity" "I" (.int (0 : Int32))) (Ga : n0 ≤ fa) :
    MetFree l (⟨"com/example/tell_nothing/tellnothing/pepa/Expression$Pending", "<init>", "(Lcom/example/tell_nothing/tellnothing/pepa/Expression$Operator;I)V"⟩ : MethodName) (head1 (Jvm.Cond.code (⟨"com/example/tell_nothing/tellnothing/pepa/Expression$Pending", "<init>", "(Lcom/example/tell_nothing/tellnothing/pepa/Expression$Operator;I)V"⟩ : MethodName) prog_36_method_1_code 3 none :: ws) ({ frames := 1, cells := 0, slots := 0, locals := 12 } : Room)) (fun a U => a = #[(.ref fa), .null, (.int fq)] ∧ Z.Warmed39 U.vm ∧ U.heap = h0) (fun _ _ _ _ _ => True) (fun _ U o U' => ∃ v L, o = .returned v ∧ Q5 Z fa fq h0 n0 v U'.heap L ∧ FrameEnd U o U' L ({ frames := 1, cells := 0, slots := 0, locals := 12 } : Room).cells ({ frames := 1, cells := 0, slots := 0, locals := 12 } : Room).slots) := by
  refine MetFree.of_bodySF (plainFor_of_name pn_com_example_tell_nothing_tellnothing_pepa_Expression_Pending) hisR ?_
  intro p e s m args0 below meth c s₁ Bd hml0 hP hK
  obtain ⟨rfl, hZ, hh⟩ := hP
  have hx := Bd.exec
  have hby := Bd.bytes
  have hml : c.maxLocals = 3 := hml0
  have hown : s.vm.findClass "com/example/tell_nothing/tellnothing/pepa/Expression$Pending" = some m.cls := findClass_of_methodNamed Bd.named
  have hnm := (name_of_methodNamed Bd.named Bd.method).1
  have X0 : Stand p l e ({ frames := 1, cells := 0, slots := 0, locals := 12 } : Room) s m #[(.ref fa), .null, (.int fq)] below meth c s₁ [] 0 0 := Stand.of_body Bd
  have e0 : s₁.heap = h0 := by rw [← hh, Bd.state]; rfl
  have N0 := Fr.nil n0
  have pre0 : ∀ t, Steps p.tables e below (s₁.setTop (mkF m 0 #[.val (.ref fa), .val .null, .val (.int fq)] [])) t → Steps p.tables e below (s₁.setTop (entryFrame m #[(.ref fa), .null, (.int fq)] 3)) t := fun t kk_ => castTop (ef_5 m fa fq) kk_
  have s89 : ∀ t, Steps p.tables e below (s₁.setTop (mkF m 1 #[.val (.ref fa), .val .null, .val (.int fq)] [(.ref fa)])) t → Steps p.tables e below (s₁.setTop (mkF m 0 #[.val (.ref fa), .val .null, .val (.int fq)] [])) t := by
    intro t kt
    refine XS.aloadN X0.here hx rfl (hb hby d5_0) rfl rfl ?_
    exact kt
  obtain ⟨T90, X90, e90, st90⟩ := initO X0 hx hZ hown (hw _ (List.mem_of_getElem? (i := 57) rfl)) (hw _ (List.mem_of_getElem? (i := 7) rfl)) (hw _ (List.mem_of_getElem? (i := 8) rfl)) e0 (g := (mkF m 1 #[.val (.ref fa), .val .null, .val (.int fq)] [(.ref fa)])) rfl (by rw [hml]; rfl) rfl (hb hby d5_1) (by decide) (W := 0) (by show 2 * 0 + _ ≤ _; exact Nat.le_of_eq rfl) (by decide)
  have s91 : ∀ t, Steps p.tables e below (T90.setTop (mkF m 6 #[.val (.ref fa), .val .null, .val (.int fq)] [.null, (.ref fa)])) t → Steps p.tables e below (T90.setTop (mkF m 4 #[.val (.ref fa), .val .null, .val (.int fq)] [])) t := by
    intro t kt
    refine XS.aloadN X90.here hx rfl (hb hby d5_4) rfl rfl ?_
    show Steps p.tables e below (T90.setTop (mkF m 5 #[.val (.ref fa), .val .null, .val (.int fq)] [(.ref fa)])) t
    refine XS.aloadN X90.here hx rfl (hb hby d5_5) rfl rfl ?_
    exact kt
  obtain ⟨T92, h92, X92, e92, W92, st92⟩ := putF X90 hx hZ hown (host := "") (Or.inl (hw _ (List.mem_of_getElem? (i := 58) rfl))) Via.refl e90 F1 Ea (Or.inr ⟨(hw _ (List.mem_of_getElem? (i := 59) rfl)), rfl, hnm⟩) (hw _ (List.mem_of_getElem? (i := 52) rfl)) (ty := (.object "com/example/tell_nothing/tellnothing/pepa/Expression$Operator")) (by decide) rfl rfl (g := (mkF m 6 #[.val (.ref fa), .val .null, .val (.int fq)] [.null, (.ref fa)])) rfl rfl (hb hby d5_6)
  have Zs92 : n0 ≤ h92.size := Nat.le_trans Z0 (Keep.of_wr W92).1
  have fE93 := Ea.wr W92
  have fF94 := F1.same W92
  have fF95 := F2.other W92 (Or.inr (slot_ne (Or.inr (hw _ (List.mem_of_getElem? (i := 61) rfl))) (Or.inr (hw _ (List.mem_of_getElem? (i := 59) rfl))) (by decide) (t := .int) (t' := (.object "com/example/tell_nothing/tellnothing/pepa/Expression$Operator")) (by decide) (by decide)))
  have K92 : Keep h0 h92 [fa] := (Keep.refl h0 [fa]).wr W92 (Or.inl (List.mem_of_getElem? (i := 0) rfl))
  have N92 := Fr.snoc X92 N0 Ga
  have s96 : ∀ t, Steps p.tables e below (T92.setTop (mkF m 11 #[.val (.ref fa), .val .null, .val (.int fq)] [(.int fq), (.ref fa)])) t → Steps p.tables e below (T92.setTop (mkF m 9 #[.val (.ref fa), .val .null, .val (.int fq)] [])) t := by
    intro t kt
    refine XS.aloadN X92.here hx rfl (hb hby d5_9) rfl rfl ?_
    show Steps p.tables e below (T92.setTop (mkF m 10 #[.val (.ref fa), .val .null, .val (.int fq)] [(.ref fa)])) t
    refine XS.iloadN X92.here hx rfl (hb hby d5_10) rfl ?_
    exact kt
  obtain ⟨T97, h97, X97, e97, W97, st97⟩ := putF X92 hx hZ hown (host := "") (Or.inl (hw _ (List.mem_of_getElem? (i := 60) rfl))) Via.refl e92 fF95 fE93 (Or.inr ⟨(hw _ (List.mem_of_getElem? (i := 61) rfl)), rfl, hnm⟩) (hw _ (List.mem_of_getElem? (i := 52) rfl)) (ty := .int) (by decide) rfl rfl (g := (mkF m 11 #[.val (.ref fa), .val .null, .val (.int fq)] [(.int fq), (.ref fa)])) rfl rfl (hb hby d5_11)
  have Zs97 : n0 ≤ h97.size := Nat.le_trans Zs92 (Keep.of_wr W97).1
  have fE98 := fE93.wr W97
  have fF99 := fF94.other W97 (Or.inr (slot_ne (Or.inr (hw _ (List.mem_of_getElem? (i := 59) rfl))) (Or.inr (hw _ (List.mem_of_getElem? (i := 61) rfl))) (by decide) (t := (.object "com/example/tell_nothing/tellnothing/pepa/Expression$Operator")) (t' := .int) (by decide) (by decide)))
  have fF100 := fF95.same W97
  have K97 : Keep h0 h97 [fa] := K92.wr W97 (Or.inl (List.mem_of_getElem? (i := 0) rfl))
  have N97 := Fr.snoc X97 N92 Ga
  obtain ⟨fs_, hr, hrun, hended, hW, hsame⟩ := X97.leave (hlocks := BodyLoose.notSynchronized Bd) (v := none) (fun _ => rfl)
  refine ⟨_, _, pre0 _ (s89 _ (st90 _ (s91 _ (st92 _ (s96 _ (st97 _ (?_))))))), hrun, hended, _, _, rfl, ?_, ⟨_, rfl⟩, hW, hsame.mono (by decide) (by decide)⟩
  · show Steps p.tables e below (T97.setTop (mkF m 14 #[.val (.ref fa), .val .null, .val (.int fq)] [])) _
    exact X97.returnOut hx Bd.returns (hb hby d5_14) hr
  · show Q5 Z fa fq h0 n0 _ T97.heap _
    rw [e97]
    exact ⟨rfl, N97, K97, fE98, fF99⟩
def Q6 (Z : State) (u0 : Int32) (u1 : Int32) (h0 : Heap) (n0 : Nat) (v : Option Value) (h : Heap) (L : List Loc) : Prop := v = some (.int (fdec u0 u1)) ∧ Fr n0 L ∧ h = h0
set_option maxRecDepth 65536 in
set_option maxHeartbeats 40000000 in
theorem rm6 (l : Launch) (Z : State) (a0 : Array Value) (hw : ∀ d ∈ tables_1, d.before a0 Z = true) (ws : List Jvm.Cond) (u0 : Int32) (u1 : Int32) (h0 : Heap) (n0 : Nat) (Z0 : n0 ≤ h0.size)  :
    MetFree l (⟨"java/util/ArrayDeque", "dec", "(II)I"⟩ : MethodName) (head1 (Jvm.Cond.code (⟨"java/util/ArrayDeque", "dec", "(II)I"⟩ : MethodName) jdk_21_method_7_code 2 (some .int) :: ws) ({ frames := 0, cells := 0, slots := 0, locals := 0 } : Room)) (fun a U => a = #[(.int u0), (.int u1)] ∧ Z.Warmed39 U.vm ∧ U.heap = h0) (fun _ _ _ _ _ => True) (fun _ U o U' => ∃ v L, o = .returned v ∧ Q6 Z u0 u1 h0 n0 v U'.heap L ∧ FrameEnd U o U' L ({ frames := 0, cells := 0, slots := 0, locals := 0 } : Room).cells ({ frames := 0, cells := 0, slots := 0, locals := 0 } : Room).slots) := by
  refine MetFree.of_bodySF (plainFor_of_name pn_java_util_ArrayDeque) hisR ?_
  intro p e s m args0 below meth c s₁ Bd hml0 hP hK
  obtain ⟨rfl, hZ, hh⟩ := hP
  have hx := Bd.exec
  have hby := Bd.bytes
  have hml : c.maxLocals = 2 := hml0
  have hown : s.vm.findClass "java/util/ArrayDeque" = some m.cls := findClass_of_methodNamed Bd.named
  have hnm := (name_of_methodNamed Bd.named Bd.method).1
  have X0 : Stand p l e ({ frames := 0, cells := 0, slots := 0, locals := 0 } : Room) s m #[(.int u0), (.int u1)] below meth c s₁ [] 0 0 := Stand.of_body Bd
  have e0 : s₁.heap = h0 := by rw [← hh, Bd.state]; rfl
  have N0 := Fr.nil n0
  have pre0 : ∀ t, Steps p.tables e below (s₁.setTop (mkF m 0 #[.val (.int u0), .val (.int u1)] [])) t → Steps p.tables e below (s₁.setTop (entryFrame m #[(.int u0), (.int u1)] 2)) t := fun t kk_ => castTop (ef_6 m u0 u1) kk_
  have s101 : ∀ t, Steps p.tables e below (s₁.setTop (mkF m 4 #[.val (.int (u0 + (-1 : Int32))), .val (.int u1)] [(.int (u0 + (-1 : Int32)))])) t → Steps p.tables e below (s₁.setTop (mkF m 0 #[.val (.int u0), .val (.int u1)] [])) t := by
    intro t kt
    refine XS.iinc X0.here hx rfl (hb hby d6_0) rfl (l' := #[.val (.int (u0 + (-1 : Int32))), .val (.int u1)]) rfl ?_
    show Steps p.tables e below (s₁.setTop (mkF m 3 #[.val (.int (u0 + (-1 : Int32))), .val (.int u1)] [])) t
    refine XS.iloadN X0.here hx rfl (hb hby d6_3) rfl ?_
    exact kt
  obtain ⟨w105, hw105, j111⟩ : ∃ (w105 : Int32), w105 = (if (u0 + (-1 : Int32)) < (0 : Int32) then (u1 - (1 : Int32)) else (u0 + (-1 : Int32))) ∧ ∀ t, Steps p.tables e below (s₁.setTop (mkF m 11 #[.val (.int w105), .val (.int u1)] [])) t → Steps p.tables e below (s₁.setTop (mkF m 4 #[.val (.int (u0 + (-1 : Int32))), .val (.int u1)] [(.int (u0 + (-1 : Int32)))])) t := by
    by_cases c102 : (u0 + (-1 : Int32)) < (0 : Int32)
    ·
      have s104 : ∀ t, Steps p.tables e below (s₁.setTop (mkF m 11 #[.val (.int (u1 - (1 : Int32))), .val (.int u1)] [])) t → Steps p.tables e below (s₁.setTop (mkF m 4 #[.val (.int (u0 + (-1 : Int32))), .val (.int u1)] [(.int (u0 + (-1 : Int32)))])) t := by
        intro t kt
        refine XS.ifNo X0.here hx rfl (hb hby d6_4) rfl ((if0 _ _).trans (tlt c102).2.1) ?_
        show Steps p.tables e below (s₁.setTop (mkF m 7 #[.val (.int (u0 + (-1 : Int32))), .val (.int u1)] [])) t
        refine XS.iloadN X0.here hx rfl (hb hby d6_7) rfl ?_
        show Steps p.tables e below (s₁.setTop (mkF m 8 #[.val (.int (u0 + (-1 : Int32))), .val (.int u1)] [(.int u1)])) t
        refine XS.iconst X0.here hx rfl (hb hby d6_8) ?_
        show Steps p.tables e below (s₁.setTop (mkF m 9 #[.val (.int (u0 + (-1 : Int32))), .val (.int u1)] [(.int (1 : Int32)), (.int u1)])) t
        refine XS.isub X0.here hx rfl (hb hby d6_9) rfl ?_
        show Steps p.tables e below (s₁.setTop (mkF m 10 #[.val (.int (u0 + (-1 : Int32))), .val (.int u1)] [(.int (u1 - (1 : Int32)))])) t
        refine XS.istoreN X0.here hx rfl (hb hby d6_10) rfl (l' := #[.val (.int (u1 - (1 : Int32))), .val (.int u1)]) rfl ?_
        exact kt
      exact ⟨(u1 - (1 : Int32)), (if_pos c102).symm, fun t kt => s104 _ (kt)⟩
    ·
      have s103 : ∀ t, Steps p.tables e below (s₁.setTop (mkF m 11 #[.val (.int (u0 + (-1 : Int32))), .val (.int u1)] [])) t → Steps p.tables e below (s₁.setTop (mkF m 4 #[.val (.int (u0 + (-1 : Int32))), .val (.int u1)] [(.int (u0 + (-1 : Int32)))])) t := by
        intro t kt
        refine XS.ifYes X0.here hx rfl (pc0 := 4) (pc' := 11) rfl (hb hby d6_4) rfl ((if0 _ _).trans (flt c102).2.1) (by decide) (by decide) ?_
        exact kt
      exact ⟨(u0 + (-1 : Int32)), (if_neg c102).symm, fun t kt => s103 _ (kt)⟩
  rw [hw105] at j111
  have s112 : ∀ t, Steps p.tables e below (s₁.setTop (mkF m 12 #[.val (.int (if (u0 + (-1 : Int32)) < (0 : Int32) then (u1 - (1 : Int32)) else (u0 + (-1 : Int32)))), .val (.int u1)] [(.int (if (u0 + (-1 : Int32)) < (0 : Int32) then (u1 - (1 : Int32)) else (u0 + (-1 : Int32))))])) t → Steps p.tables e below (s₁.setTop (mkF m 11 #[.val (.int (if (u0 + (-1 : Int32)) < (0 : Int32) then (u1 - (1 : Int32)) else (u0 + (-1 : Int32)))), .val (.int u1)] [])) t := by
    intro t kt
    refine XS.iloadN X0.here hx rfl (hb hby d6_11) rfl ?_
    exact kt
  obtain ⟨fs_, hr, hrun, hended, hW, hsame⟩ := X0.leave (hlocks := BodyLoose.notSynchronized Bd) (v := some (.int (if (u0 + (-1 : Int32)) < (0 : Int32) then (u1 - (1 : Int32)) else (u0 + (-1 : Int32))))) (fun h => by rw [Bd.returns] at h; cases h)
  refine ⟨_, _, pre0 _ (s101 _ (j111 _ (s112 _ (?_)))), hrun, hended, _, _, rfl, ?_, ⟨_, rfl⟩, hW, hsame.mono (by decide) (by decide)⟩
  · show Steps p.tables e below (s₁.setTop (mkF m 12 #[.val (.int (if (u0 + (-1 : Int32)) < (0 : Int32) then (u1 - (1 : Int32)) else (u0 + (-1 : Int32)))), .val (.int u1)] [(.int (if (u0 + (-1 : Int32)) < (0 : Int32) then (u1 - (1 : Int32)) else (u0 + (-1 : Int32))))])) _
    exact retI X0 hx Bd.returns (hb hby d6_12) hr
  · show Q6 Z u0 u1 h0 n0 _ s₁.heap _
    rw [e0]
    exact ⟨rfl, N0, rfl⟩
def Q7 (Z : State) (u0 : Int32) (u1 : Int32) (h0 : Heap) (n0 : Nat) (v : Option Value) (h : Heap) (L : List Loc) : Prop := v = some (.int (finc u0 u1)) ∧ Fr n0 L ∧ h = h0
set_option maxRecDepth 65536 in
set_option maxHeartbeats 40000000 in
theorem rm7 (l : Launch) (Z : State) (a0 : Array Value) (hw : ∀ d ∈ tables_1, d.before a0 Z = true) (ws : List Jvm.Cond) (u0 : Int32) (u1 : Int32) (h0 : Heap) (n0 : Nat) (Z0 : n0 ≤ h0.size)  :
    MetFree l (⟨"java/util/ArrayDeque", "inc", "(II)I"⟩ : MethodName) (head1 (Jvm.Cond.code (⟨"java/util/ArrayDeque", "inc", "(II)I"⟩ : MethodName) jdk_21_method_6_code 2 (some .int) :: ws) ({ frames := 0, cells := 0, slots := 0, locals := 0 } : Room)) (fun a U => a = #[(.int u0), (.int u1)] ∧ Z.Warmed39 U.vm ∧ U.heap = h0) (fun _ _ _ _ _ => True) (fun _ U o U' => ∃ v L, o = .returned v ∧ Q7 Z u0 u1 h0 n0 v U'.heap L ∧ FrameEnd U o U' L ({ frames := 0, cells := 0, slots := 0, locals := 0 } : Room).cells ({ frames := 0, cells := 0, slots := 0, locals := 0 } : Room).slots) := by
  refine MetFree.of_bodySF (plainFor_of_name pn_java_util_ArrayDeque) hisR ?_
  intro p e s m args0 below meth c s₁ Bd hml0 hP hK
  obtain ⟨rfl, hZ, hh⟩ := hP
  have hx := Bd.exec
  have hby := Bd.bytes
  have hml : c.maxLocals = 2 := hml0
  have hown : s.vm.findClass "java/util/ArrayDeque" = some m.cls := findClass_of_methodNamed Bd.named
  have hnm := (name_of_methodNamed Bd.named Bd.method).1
  have X0 : Stand p l e ({ frames := 0, cells := 0, slots := 0, locals := 0 } : Room) s m #[(.int u0), (.int u1)] below meth c s₁ [] 0 0 := Stand.of_body Bd
  have e0 : s₁.heap = h0 := by rw [← hh, Bd.state]; rfl
  have N0 := Fr.nil n0
  have pre0 : ∀ t, Steps p.tables e below (s₁.setTop (mkF m 0 #[.val (.int u0), .val (.int u1)] [])) t → Steps p.tables e below (s₁.setTop (entryFrame m #[(.int u0), (.int u1)] 2)) t := fun t kk_ => castTop (ef_7 m u0 u1) kk_
  have s113 : ∀ t, Steps p.tables e below (s₁.setTop (mkF m 5 #[.val (.int (u0 + (1 : Int32))), .val (.int u1)] [(.int u1), (.int (u0 + (1 : Int32)))])) t → Steps p.tables e below (s₁.setTop (mkF m 0 #[.val (.int u0), .val (.int u1)] [])) t := by
    intro t kt
    refine XS.iinc X0.here hx rfl (hb hby d7_0) rfl (l' := #[.val (.int (u0 + (1 : Int32))), .val (.int u1)]) rfl ?_
    show Steps p.tables e below (s₁.setTop (mkF m 3 #[.val (.int (u0 + (1 : Int32))), .val (.int u1)] [])) t
    refine XS.iloadN X0.here hx rfl (hb hby d7_3) rfl ?_
    show Steps p.tables e below (s₁.setTop (mkF m 4 #[.val (.int (u0 + (1 : Int32))), .val (.int u1)] [(.int (u0 + (1 : Int32)))])) t
    refine XS.iloadN X0.here hx rfl (hb hby d7_4) rfl ?_
    exact kt
  obtain ⟨w117, hw117, j123⟩ : ∃ (w117 : Int32), w117 = (if (u0 + (1 : Int32)) < u1 then (u0 + (1 : Int32)) else (0 : Int32)) ∧ ∀ t, Steps p.tables e below (s₁.setTop (mkF m 10 #[.val (.int w117), .val (.int u1)] [])) t → Steps p.tables e below (s₁.setTop (mkF m 5 #[.val (.int (u0 + (1 : Int32))), .val (.int u1)] [(.int u1), (.int (u0 + (1 : Int32)))])) t := by
    by_cases c114 : (u0 + (1 : Int32)) < u1
    ·
      have s115 : ∀ t, Steps p.tables e below (s₁.setTop (mkF m 10 #[.val (.int (u0 + (1 : Int32))), .val (.int u1)] [])) t → Steps p.tables e below (s₁.setTop (mkF m 5 #[.val (.int (u0 + (1 : Int32))), .val (.int u1)] [(.int u1), (.int (u0 + (1 : Int32)))])) t := by
        intro t kt
        refine XS.icmpYes X0.here hx rfl (pc0 := 5) (pc' := 10) rfl (hb hby d7_5) rfl (tlt c114).1 (by decide) (by decide) ?_
        exact kt
      exact ⟨(u0 + (1 : Int32)), (if_pos c114).symm, fun t kt => s115 _ (kt)⟩
    ·
      have s116 : ∀ t, Steps p.tables e below (s₁.setTop (mkF m 10 #[.val (.int (0 : Int32)), .val (.int u1)] [])) t → Steps p.tables e below (s₁.setTop (mkF m 5 #[.val (.int (u0 + (1 : Int32))), .val (.int u1)] [(.int u1), (.int (u0 + (1 : Int32)))])) t := by
        intro t kt
        refine XS.icmpNo X0.here hx rfl (hb hby d7_5) rfl (flt c114).1 ?_
        show Steps p.tables e below (s₁.setTop (mkF m 8 #[.val (.int (u0 + (1 : Int32))), .val (.int u1)] [])) t
        refine XS.iconst X0.here hx rfl (hb hby d7_8) ?_
        show Steps p.tables e below (s₁.setTop (mkF m 9 #[.val (.int (u0 + (1 : Int32))), .val (.int u1)] [(.int (0 : Int32))])) t
        refine XS.istoreN X0.here hx rfl (hb hby d7_9) rfl (l' := #[.val (.int (0 : Int32)), .val (.int u1)]) rfl ?_
        exact kt
      exact ⟨(0 : Int32), (if_neg c114).symm, fun t kt => s116 _ (kt)⟩
  rw [hw117] at j123
  have s124 : ∀ t, Steps p.tables e below (s₁.setTop (mkF m 11 #[.val (.int (if (u0 + (1 : Int32)) < u1 then (u0 + (1 : Int32)) else (0 : Int32))), .val (.int u1)] [(.int (if (u0 + (1 : Int32)) < u1 then (u0 + (1 : Int32)) else (0 : Int32)))])) t → Steps p.tables e below (s₁.setTop (mkF m 10 #[.val (.int (if (u0 + (1 : Int32)) < u1 then (u0 + (1 : Int32)) else (0 : Int32))), .val (.int u1)] [])) t := by
    intro t kt
    refine XS.iloadN X0.here hx rfl (hb hby d7_10) rfl ?_
    exact kt
  obtain ⟨fs_, hr, hrun, hended, hW, hsame⟩ := X0.leave (hlocks := BodyLoose.notSynchronized Bd) (v := some (.int (if (u0 + (1 : Int32)) < u1 then (u0 + (1 : Int32)) else (0 : Int32)))) (fun h => by rw [Bd.returns] at h; cases h)
  refine ⟨_, _, pre0 _ (s113 _ (j123 _ (s124 _ (?_)))), hrun, hended, _, _, rfl, ?_, ⟨_, rfl⟩, hW, hsame.mono (by decide) (by decide)⟩
  · show Steps p.tables e below (s₁.setTop (mkF m 11 #[.val (.int (if (u0 + (1 : Int32)) < u1 then (u0 + (1 : Int32)) else (0 : Int32))), .val (.int u1)] [(.int (if (u0 + (1 : Int32)) < u1 then (u0 + (1 : Int32)) else (0 : Int32)))])) _
    exact retI X0 hx Bd.returns (hb hby d7_11) hr
  · show Q7 Z u0 u1 h0 n0 _ s₁.heap _
    rw [e0]
    exact ⟨rfl, N0, rfl⟩
def Q8 (Z : State) (fd fb fx : Addr) (fh : Int32) (ff : Nat → Value) (h0 : Heap) (n0 : Nat) (v : Option Value) (h : Heap) (L : List Loc) : Prop := v = none ∧ Fr n0 L ∧ Keep h0 h [fd, fb] ∧ Exa Z h fd "java/util/ArrayDeque" ∧ Fld Z h fd "java/util/ArrayDeque" "elements" "[Ljava/lang/Object;" (.ref fb) ∧ Fld Z h fd "java/util/ArrayDeque" "head" "I" (.int (fdec fh (17 : Int32))) ∧ Fld Z h fd "java/util/ArrayDeque" "tail" "I" (.int (0 : Int32)) ∧ Ao Z h fb "java/lang/Object" 17 (fun i => if i = (fdec fh (17 : Int32)).toInt.toNat then .ref fx else ff i)
set_option maxRecDepth 65536 in
set_option maxHeartbeats 40000000 in
theorem rm8 (l : Launch) (Z : State) (a0 : Array Value) (hw : ∀ d ∈ tables_1, d.before a0 Z = true) (ws : List Jvm.Cond) (fd fb fx : Addr) (fh : Int32) (ff : Nat → Value) (h0 : Heap) (n0 : Nat) (Z0 : n0 ≤ h0.size) (Ed : Exa Z h0 fd "java/util/ArrayDeque") (F1 : Fld Z h0 fd "java/util/ArrayDeque" "elements" "[Ljava/lang/Object;" (.ref fb)) (F2 : Fld Z h0 fd "java/util/ArrayDeque" "head" "I" (.int fh)) (F3 : Fld Z h0 fd "java/util/ArrayDeque" "tail" "I" (.int (0 : Int32))) (Vb : Ao Z h0 fb "java/lang/Object" 17 ff) (Gd : n0 ≤ fd) (Gb : n0 ≤ fb) (Ix : Ins Z h0 fx "java/lang/Object" true) (q0 : 0 ≤ (fdec fh (17 : Int32)).toInt) (q1 : (fdec fh (17 : Int32)).toInt < 17) (q2 : ¬ ((fdec fh (17 : Int32)) = (0 : Int32)))  :
    MetFree l (⟨"java/util/ArrayDeque", "addFirst", "(Ljava/lang/Object;)V"⟩ : MethodName) (head1 (Jvm.Cond.code (⟨"java/util/ArrayDeque", "addFirst", "(Ljava/lang/Object;)V"⟩ : MethodName) jdk_21_method_12_code 3 none :: ws) ({ frames := 1, cells := 0, slots := 0, locals := 15 } : Room)) (fun a U => a = #[(.ref fd), (.ref fx)] ∧ Z.Warmed39 U.vm ∧ U.heap = h0) (fun _ _ _ _ _ => True) (fun _ U o U' => ∃ v L, o = .returned v ∧ Q8 Z fd fb fx fh ff h0 n0 v U'.heap L ∧ FrameEnd U o U' L ({ frames := 1, cells := 0, slots := 0, locals := 15 } : Room).cells ({ frames := 1, cells := 0, slots := 0, locals := 15 } : Room).slots) := by
  refine MetFree.of_bodySF (plainFor_of_name pn_java_util_ArrayDeque) hisR ?_
  intro p e s m args0 below meth c s₁ Bd hml0 hP hK
  obtain ⟨rfl, hZ, hh⟩ := hP
  have hx := Bd.exec
  have hby := Bd.bytes
  have hml : c.maxLocals = 3 := hml0
  have hown : s.vm.findClass "java/util/ArrayDeque" = some m.cls := findClass_of_methodNamed Bd.named
  have hnm := (name_of_methodNamed Bd.named Bd.method).1
  have X0 : Stand p l e ({ frames := 1, cells := 0, slots := 0, locals := 15 } : Room) s m #[(.ref fd), (.ref fx)] below meth c s₁ [] 0 0 := Stand.of_body Bd
  have e0 : s₁.heap = h0 := by rw [← hh, Bd.state]; rfl
  have N0 := Fr.nil n0
  have pre0 : ∀ t, Steps p.tables e below (s₁.setTop (mkF m 0 #[.val (.ref fd), .val (.ref fx), .unset] [])) t → Steps p.tables e below (s₁.setTop (entryFrame m #[(.ref fd), (.ref fx)] 3)) t := fun t kk_ => castTop (ef_8 m fd fx) kk_
  have neD : fd ≠ fb := ne_ao Ed (hw _ (List.mem_of_getElem? (i := 10) rfl)) Vb
  have s125 : ∀ t, Steps p.tables e below (s₁.setTop (mkF m 13 #[.val (.ref fd), .val (.ref fx), .unset] [(.ref fd)])) t → Steps p.tables e below (s₁.setTop (mkF m 0 #[.val (.ref fd), .val (.ref fx), .unset] [])) t := by
    intro t kt
    refine XS.aloadN X0.here hx rfl (hb hby d8_0) rfl rfl ?_
    show Steps p.tables e below (s₁.setTop (mkF m 1 #[.val (.ref fd), .val (.ref fx), .unset] [(.ref fx)])) t
    refine XS.ifnonnullYes X0.here hx rfl (pc0 := 1) (pc' := 12) rfl (hb hby d8_1) rfl (by decide) (by decide) ?_
    show Steps p.tables e below (s₁.setTop (mkF m 12 #[.val (.ref fd), .val (.ref fx), .unset] [])) t
    refine XS.aloadN X0.here hx rfl (hb hby d8_12) rfl rfl ?_
    exact kt
  obtain ⟨T126, X126, e126, st126⟩ := getF X0 hx hZ hown (host := "") (Or.inl (hw _ (List.mem_of_getElem? (i := 24) rfl))) Via.refl e0 F1 (g := (mkF m 13 #[.val (.ref fd), .val (.ref fx), .unset] [(.ref fd)])) rfl rfl (hb hby d8_13)
  have s127 : ∀ t, Steps p.tables e below (T126.setTop (mkF m 20 #[.val (.ref fd), .val (.ref fx), .val (.ref fb)] [(.ref fd), (.ref fd), (.ref fb)])) t → Steps p.tables e below (T126.setTop (mkF m 16 #[.val (.ref fd), .val (.ref fx), .unset] [(.ref fb)])) t := by
    intro t kt
    refine XS.astoreN X126.here hx rfl (hb hby d8_16) rfl rfl (l' := #[.val (.ref fd), .val (.ref fx), .val (.ref fb)]) rfl ?_
    show Steps p.tables e below (T126.setTop (mkF m 17 #[.val (.ref fd), .val (.ref fx), .val (.ref fb)] [])) t
    refine XS.aloadN X126.here hx rfl (hb hby d8_17) rfl rfl ?_
    show Steps p.tables e below (T126.setTop (mkF m 18 #[.val (.ref fd), .val (.ref fx), .val (.ref fb)] [(.ref fb)])) t
    refine XS.aloadN X126.here hx rfl (hb hby d8_18) rfl rfl ?_
    show Steps p.tables e below (T126.setTop (mkF m 19 #[.val (.ref fd), .val (.ref fx), .val (.ref fb)] [(.ref fd), (.ref fb)])) t
    refine XS.aloadN X126.here hx rfl (hb hby d8_19) rfl rfl ?_
    exact kt
  obtain ⟨T128, X128, e128, st128⟩ := getF X126 hx hZ hown (host := "") (Or.inl (hw _ (List.mem_of_getElem? (i := 76) rfl))) Via.refl e126 F2 (g := (mkF m 20 #[.val (.ref fd), .val (.ref fx), .val (.ref fb)] [(.ref fd), (.ref fd), (.ref fb)])) rfl rfl (hb hby d8_20)
  have s129 : ∀ t, Steps p.tables e below (T128.setTop (mkF m 25 #[.val (.ref fd), .val (.ref fx), .val (.ref fb)] [(.int (17 : Int32)), (.int fh), (.ref fd), (.ref fb)])) t → Steps p.tables e below (T128.setTop (mkF m 23 #[.val (.ref fd), .val (.ref fx), .val (.ref fb)] [(.int fh), (.ref fd), (.ref fb)])) t := by
    intro t kt
    refine XS.aloadN X128.here hx rfl (hb hby d8_23) rfl rfl ?_
    show Steps p.tables e below (T128.setTop (mkF m 24 #[.val (.ref fd), .val (.ref fx), .val (.ref fb)] [(.ref fb), (.int fh), (.ref fd), (.ref fb)])) t
    refine OwnKit.alenO X128 hx hZ e128 Vb (z := (17 : Int32)) (by decide) (g := (mkF m 24 #[.val (.ref fd), .val (.ref fx), .val (.ref fb)] [(.ref fb), (.int fh), (.ref fd), (.ref fb)])) rfl rfl (hb hby d8_24) _ ?_
    exact kt
  obtain ⟨_, _, ⟨T130, L130, k130, n130⟩, -, X130, ⟨Lc130, hQ130, l130, y130, z130⟩, st130⟩ := Jvm.LawKit.callS X128 hx (y := (⟨"java/util/ArrayDeque", "dec", "(II)I"⟩ : MethodName)) hown (mvT hZ (hw _ (List.mem_of_getElem? (i := 78) rfl))) (mvT hZ (hw _ (List.mem_of_getElem? (i := 79) rfl))) (mvT hZ (hw _ (List.mem_of_getElem? (i := 11) rfl))) (mvT hZ (hw _ (List.mem_of_getElem? (i := 80) rfl))) (by decide) (backOf (W := 2) (rm6 l Z a0 hw [] fh (17 : Int32) h0 n0 Z0 ) hZ (hw _ (List.mem_of_getElem? (i := 80) rfl)) (hw _ (List.mem_of_getElem? (i := 11) rfl)) (by decide) (by decide)) (g := (mkF m 25 #[.val (.ref fd), .val (.ref fx), .val (.ref fb)] [(.int (17 : Int32)), (.int fh), (.ref fd), (.ref fb)])) rfl (by rw [hml]; rfl) (argsL := [(.int fh), (.int (17 : Int32))]) (rest := [(.ref fd), (.ref fb)]) (lenOf pd_oIIcI rfl) rfl (by show 2 * 0 + _ ≤ _; exact Nat.le_of_eq rfl) (hb hby d8_25) (fun _ _ => ⟨rfl, e128, (by decide : 0 + 0 ≤ _), (by decide : 0 + 0 ≤ _)⟩)
  dsimp only [Pt.U, Pt.locs, Pt.cells, Pt.slots] at X130 l130 y130 z130 st130 hQ130
  subst l130 y130 z130
  obtain ⟨rfl, N130q, e130q⟩ := hQ130
  have N130 := Fr.app N0 N130q
  have s131 : ∀ t, Steps p.tables e below (T130.setTop (mkF m 29 #[.val (.ref fd), .val (.ref fx), .val (.ref fb)] [(.int (fdec fh (17 : Int32))), (.ref fd), (.int (fdec fh (17 : Int32))), (.ref fb)])) t → Steps p.tables e below (T130.setTop (mkF m 28 #[.val (.ref fd), .val (.ref fx), .val (.ref fb)] [(.int (fdec fh (17 : Int32))), (.ref fd), (.ref fb)])) t := by
    intro t kt
    refine XS.dupX1 X130.here hx rfl (hb hby d8_28) rfl rfl rfl ?_
    exact kt
  obtain ⟨T132, h132, X132, e132, W132, st132⟩ := putF X130 hx hZ hown (host := "") (Or.inl (hw _ (List.mem_of_getElem? (i := 76) rfl))) Via.refl e130q F2 Ed (Or.inl (hw _ (List.mem_of_getElem? (i := 77) rfl))) (hw _ (List.mem_of_getElem? (i := 10) rfl)) (ty := .int) (by decide) rfl rfl (g := (mkF m 29 #[.val (.ref fd), .val (.ref fx), .val (.ref fb)] [(.int (fdec fh (17 : Int32))), (.ref fd), (.int (fdec fh (17 : Int32))), (.ref fb)])) rfl rfl (hb hby d8_29)
  have Zs132 : n0 ≤ h132.size := Nat.le_trans Z0 (Keep.of_wr W132).1
  have fE133 := Ed.wr W132
  have fF134 := F1.other W132 (Or.inr (slot_ne (Or.inl (hw _ (List.mem_of_getElem? (i := 25) rfl))) (Or.inl (hw _ (List.mem_of_getElem? (i := 77) rfl))) (by decide) (t := (.array (.object "java/lang/Object"))) (t' := .int) (by decide) (by decide)))
  have fF135 := F2.same W132
  have fF136 := F3.other W132 (Or.inr (slot_ne (Or.inl (hw _ (List.mem_of_getElem? (i := 83) rfl))) (Or.inl (hw _ (List.mem_of_getElem? (i := 77) rfl))) (by decide) (t := .int) (t' := .int) (by decide) (by decide)))
  have fV137 := Vb.other W132 (Ne.symm neD)
  have K132 : Keep h0 h132 [fd, fb] := (Keep.refl h0 [fd, fb]).wr W132 (Or.inl (List.mem_of_getElem? (i := 0) rfl))
  have N132 := Fr.snoc X132 N130 Gd
  have s138 : ∀ t, Steps p.tables e below (T132.setTop (mkF m 33 #[.val (.ref fd), .val (.ref fx), .val (.ref fb)] [(.ref fx), (.int (fdec fh (17 : Int32))), (.ref fb)])) t → Steps p.tables e below (T132.setTop (mkF m 32 #[.val (.ref fd), .val (.ref fx), .val (.ref fb)] [(.int (fdec fh (17 : Int32))), (.ref fb)])) t := by
    intro t kt
    refine XS.aloadN X132.here hx rfl (hb hby d8_32) rfl rfl ?_
    exact kt
  obtain ⟨T139, h139, X139, e139, W139, V139, st139⟩ := OwnKit.stAO X132 hx hZ e132 fV137 (j := (fdec fh (17 : Int32))) q0 q1 (Or.inr ⟨_, rfl, Ix.wr W132⟩) (g := (mkF m 33 #[.val (.ref fd), .val (.ref fx), .val (.ref fb)] [(.ref fx), (.int (fdec fh (17 : Int32))), (.ref fb)])) rfl rfl (hb hby d8_33)
  have Zs139 : n0 ≤ h139.size := Nat.le_trans Zs132 (Keep.of_wr W139).1
  have fE140 := fE133.wr W139
  have fF141 := fF134.other W139 (Or.inl neD)
  have fF142 := fF135.other W139 (Or.inl neD)
  have fF143 := fF136.other W139 (Or.inl neD)
  have fV144 := V139
  have K139 : Keep h0 h139 [fd, fb] := K132.wr W139 (Or.inl (List.mem_of_getElem? (i := 1) rfl))
  have N139 := Fr.snoc X139 N132 Gb
  have s145 : ∀ t, Steps p.tables e below (T139.setTop (mkF m 35 #[.val (.ref fd), .val (.ref fx), .val (.ref fb)] [(.ref fd)])) t → Steps p.tables e below (T139.setTop (mkF m 34 #[.val (.ref fd), .val (.ref fx), .val (.ref fb)] [])) t := by
    intro t kt
    refine XS.aloadN X139.here hx rfl (hb hby d8_34) rfl rfl ?_
    exact kt
  obtain ⟨T146, X146, e146, st146⟩ := getF X139 hx hZ hown (host := "") (Or.inl (hw _ (List.mem_of_getElem? (i := 76) rfl))) Via.refl e139 fF142 (g := (mkF m 35 #[.val (.ref fd), .val (.ref fx), .val (.ref fb)] [(.ref fd)])) rfl rfl (hb hby d8_35)
  have s147 : ∀ t, Steps p.tables e below (T146.setTop (mkF m 39 #[.val (.ref fd), .val (.ref fx), .val (.ref fb)] [(.ref fd), (.int (fdec fh (17 : Int32)))])) t → Steps p.tables e below (T146.setTop (mkF m 38 #[.val (.ref fd), .val (.ref fx), .val (.ref fb)] [(.int (fdec fh (17 : Int32)))])) t := by
    intro t kt
    refine XS.aloadN X146.here hx rfl (hb hby d8_38) rfl rfl ?_
    exact kt
  obtain ⟨T148, X148, e148, st148⟩ := getF X146 hx hZ hown (host := "") (Or.inl (hw _ (List.mem_of_getElem? (i := 82) rfl))) Via.refl e146 fF143 (g := (mkF m 39 #[.val (.ref fd), .val (.ref fx), .val (.ref fb)] [(.ref fd), (.int (fdec fh (17 : Int32)))])) rfl rfl (hb hby d8_39)
  have s149 : ∀ t, Steps p.tables e below (T148.setTop (mkF m 50 #[.val (.ref fd), .val (.ref fx), .val (.ref fb)] [])) t → Steps p.tables e below (T148.setTop (mkF m 42 #[.val (.ref fd), .val (.ref fx), .val (.ref fb)] [(.int (0 : Int32)), (.int (fdec fh (17 : Int32)))])) t := by
    intro t kt
    refine XS.icmpYes X148.here hx rfl (pc0 := 42) (pc' := 50) rfl (hb hby d8_42) rfl (feq q2).2 (by decide) (by decide) ?_
    exact kt
  obtain ⟨fs_, hr, hrun, hended, hW, hsame⟩ := X148.leave (hlocks := BodyLoose.notSynchronized Bd) (v := none) (fun _ => rfl)
  refine ⟨_, _, pre0 _ (s125 _ (st126 _ (s127 _ (st128 _ (s129 _ (st130 _ (s131 _ (st132 _ (s138 _ (st139 _ (s145 _ (st146 _ (s147 _ (st148 _ (s149 _ (?_)))))))))))))))), hrun, hended, _, _, rfl, ?_, ⟨_, rfl⟩, hW, hsame.mono (by decide) (by decide)⟩
  · show Steps p.tables e below (T148.setTop (mkF m 50 #[.val (.ref fd), .val (.ref fx), .val (.ref fb)] [])) _
    exact X148.returnOut hx Bd.returns (hb hby d8_50) hr
  · show Q8 Z fd fb fx fh ff h0 n0 _ T148.heap _
    rw [e148]
    exact ⟨rfl, N139, K139, fE140, fF141, fF142, fF143, fV144⟩
def Q9 (Z : State) (fd fb fx : Addr) (fh : Int32) (ff : Nat → Value) (h0 : Heap) (n0 : Nat) (v : Option Value) (h : Heap) (L : List Loc) : Prop := v = none ∧ Fr n0 L ∧ Keep h0 h [fd, fb] ∧ Exa Z h fd "java/util/ArrayDeque" ∧ Fld Z h fd "java/util/ArrayDeque" "elements" "[Ljava/lang/Object;" (.ref fb) ∧ Fld Z h fd "java/util/ArrayDeque" "head" "I" (.int (fdec fh (17 : Int32))) ∧ Fld Z h fd "java/util/ArrayDeque" "tail" "I" (.int (0 : Int32)) ∧ Ao Z h fb "java/lang/Object" 17 (fun i => if i = (fdec fh (17 : Int32)).toInt.toNat then .ref fx else ff i)
set_option maxRecDepth 65536 in
set_option maxHeartbeats 40000000 in
theorem rm9 (l : Launch) (Z : State) (a0 : Array Value) (hw : ∀ d ∈ tables_1, d.before a0 Z = true) (ws : List Jvm.Cond) (fd fb fx : Addr) (fh : Int32) (ff : Nat → Value) (h0 : Heap) (n0 : Nat) (Z0 : n0 ≤ h0.size) (Ed : Exa Z h0 fd "java/util/ArrayDeque") (F1 : Fld Z h0 fd "java/util/ArrayDeque" "elements" "[Ljava/lang/Object;" (.ref fb)) (F2 : Fld Z h0 fd "java/util/ArrayDeque" "head" "I" (.int fh)) (F3 : Fld Z h0 fd "java/util/ArrayDeque" "tail" "I" (.int (0 : Int32))) (Vb : Ao Z h0 fb "java/lang/Object" 17 ff) (Gd : n0 ≤ fd) (Gb : n0 ≤ fb) (Ix : Ins Z h0 fx "java/lang/Object" true) (q0 : 0 ≤ (fdec fh (17 : Int32)).toInt) (q1 : (fdec fh (17 : Int32)).toInt < 17) (q2 : ¬ ((fdec fh (17 : Int32)) = (0 : Int32)))  :
    MetFree l (⟨"java/util/ArrayDeque", "push", "(Ljava/lang/Object;)V"⟩ : MethodName) (head1 (Jvm.Cond.code (⟨"java/util/ArrayDeque", "push", "(Ljava/lang/Object;)V"⟩ : MethodName) jdk_21_method_34_code 2 none :: ws) ({ frames := 2, cells := 0, slots := 0, locals := 29 } : Room)) (fun a U => a = #[(.ref fd), (.ref fx)] ∧ Z.Warmed39 U.vm ∧ U.heap = h0) (fun _ _ _ _ _ => True) (fun _ U o U' => ∃ v L, o = .returned v ∧ Q9 Z fd fb fx fh ff h0 n0 v U'.heap L ∧ FrameEnd U o U' L ({ frames := 2, cells := 0, slots := 0, locals := 29 } : Room).cells ({ frames := 2, cells := 0, slots := 0, locals := 29 } : Room).slots) := by
  refine MetFree.of_bodySF (plainFor_of_name pn_java_util_ArrayDeque) hisR ?_
  intro p e s m args0 below meth c s₁ Bd hml0 hP hK
  obtain ⟨rfl, hZ, hh⟩ := hP
  have hx := Bd.exec
  have hby := Bd.bytes
  have hml : c.maxLocals = 2 := hml0
  have hown : s.vm.findClass "java/util/ArrayDeque" = some m.cls := findClass_of_methodNamed Bd.named
  have hnm := (name_of_methodNamed Bd.named Bd.method).1
  have X0 : Stand p l e ({ frames := 2, cells := 0, slots := 0, locals := 29 } : Room) s m #[(.ref fd), (.ref fx)] below meth c s₁ [] 0 0 := Stand.of_body Bd
  have e0 : s₁.heap = h0 := by rw [← hh, Bd.state]; rfl
  have N0 := Fr.nil n0
  have pre0 : ∀ t, Steps p.tables e below (s₁.setTop (mkF m 0 #[.val (.ref fd), .val (.ref fx)] [])) t → Steps p.tables e below (s₁.setTop (entryFrame m #[(.ref fd), (.ref fx)] 2)) t := fun t kk_ => castTop (ef_9 m fd fx) kk_
  have neD : fd ≠ fb := ne_ao Ed (hw _ (List.mem_of_getElem? (i := 10) rfl)) Vb
  have s150 : ∀ t, Steps p.tables e below (s₁.setTop (mkF m 2 #[.val (.ref fd), .val (.ref fx)] [(.ref fx), (.ref fd)])) t → Steps p.tables e below (s₁.setTop (mkF m 0 #[.val (.ref fd), .val (.ref fx)] [])) t := by
    intro t kt
    refine XS.aloadN X0.here hx rfl (hb hby d9_0) rfl rfl ?_
    show Steps p.tables e below (s₁.setTop (mkF m 1 #[.val (.ref fd), .val (.ref fx)] [(.ref fd)])) t
    refine XS.aloadN X0.here hx rfl (hb hby d9_1) rfl rfl ?_
    exact kt
  obtain ⟨cq151, kq151, qa151, qb151, qc151⟩ := isOf hZ e0 Ed
  obtain ⟨_, _, ⟨T151, L151, k151, n151⟩, -, X151, ⟨Lc151, hQ151, l151, y151, z151⟩, st151⟩ := X0.virtualBack hx (y := (⟨"java/util/ArrayDeque", "addFirst", "(Ljava/lang/Object;)V"⟩ : MethodName)) (z := (⟨"java/util/ArrayDeque", "addFirst", "(Ljava/lang/Object;)V"⟩ : MethodName)) hown (mvT hZ (hw _ (List.mem_of_getElem? (i := 71) rfl))) (mvT hZ (hw _ (List.mem_of_getElem? (i := 72) rfl))) (notFace_of_selects (args := #[]) (mvT hZ (hw _ (List.mem_of_getElem? (i := 74) rfl)))) (mvT hZ (hw _ (List.mem_of_getElem? (i := 74) rfl))) (mvT hZ (hw _ (List.mem_of_getElem? (i := 73) rfl))) (by decide) (backOf (W := 0) (rm8 l Z a0 hw [] fd fb fx fh ff h0 n0 Z0 Ed F1 F2 F3 Vb Gd Gb Ix q0 q1 q2) hZ (hw _ (List.mem_of_getElem? (i := 75) rfl)) (hw _ (List.mem_of_getElem? (i := 11) rfl)) (by decide) (by decide)) qa151 qc151 (g := (mkF m 2 #[.val (.ref fd), .val (.ref fx)] [(.ref fx), (.ref fd)])) rfl (by rw [hml]; rfl) (Steps.refl _) (argsL := [(.ref fx)]) (rest := []) (lenOf pd_oLjava_lang_ObjectscV rfl) rfl (by show 2 * 0 + _ ≤ _; exact Nat.le_of_eq rfl) (hb hby d9_2) (fun _ _ => ⟨rfl, e0, (by decide : 0 + 0 ≤ _), (by decide : 0 + 0 ≤ _)⟩)
  dsimp only [Pt.U, Pt.locs, Pt.cells, Pt.slots] at X151 l151 y151 z151 st151 hQ151
  subst l151 y151 z151
  obtain ⟨rfl, N151q, Kc151, fE152, fF153, fF154, fF155, fV156⟩ := hQ151
  have N151 := Fr.app N0 N151q
  have Zs151 : n0 ≤ T151.heap.size := Nat.le_trans Z0 Kc151.1
  have K151 : Keep h0 T151.heap [fd, fb] := (Keep.refl h0 [fd, fb]).trans Kc151 (allS (Or.inl (List.mem_of_getElem? (i := 0) rfl)) (allS (Or.inl (List.mem_of_getElem? (i := 1) rfl)) all0))
  obtain ⟨fs_, hr, hrun, hended, hW, hsame⟩ := X151.leave (hlocks := BodyLoose.notSynchronized Bd) (v := none) (fun _ => rfl)
  refine ⟨_, _, pre0 _ (s150 _ (st151.trans (?_))), hrun, hended, _, _, rfl, ?_, ⟨_, rfl⟩, hW, hsame.mono (by decide) (by decide)⟩
  · show Steps p.tables e below (T151.setTop (mkF m 5 #[.val (.ref fd), .val (.ref fx)] [])) _
    exact X151.returnOut hx Bd.returns (hb hby d9_5) hr
  · show Q9 Z fd fb fx fh ff h0 n0 _ T151.heap _
    exact ⟨rfl, N151, K151, fE152, fF153, fF154, fF155, fV156⟩
def Q10 (Z : State) (fb : Addr) (fi : Int32) (ff : Nat → Value) (fx : Addr) (h0 : Heap) (n0 : Nat) (v : Option Value) (h : Heap) (L : List Loc) : Prop := v = some (.ref fx) ∧ Fr n0 L ∧ h = h0
set_option maxRecDepth 65536 in
set_option maxHeartbeats 40000000 in
theorem rm10 (l : Launch) (Z : State) (a0 : Array Value) (hw : ∀ d ∈ tables_1, d.before a0 Z = true) (ws : List Jvm.Cond) (fb : Addr) (fi : Int32) (ff : Nat → Value) (fx : Addr) (h0 : Heap) (n0 : Nat) (Z0 : n0 ≤ h0.size) (Vb : Ao Z h0 fb "java/lang/Object" 17 ff) (q0 : 0 ≤ fi.toInt) (q1 : fi.toInt < 17) (hv : ff fi.toInt.toNat = .ref fx) :
    MetFree l (⟨"java/util/ArrayDeque", "elementAt", "([Ljava/lang/Object;I)Ljava/lang/Object;"⟩ : MethodName) (head1 (Jvm.Cond.code (⟨"java/util/ArrayDeque", "elementAt", "([Ljava/lang/Object;I)Ljava/lang/Object;"⟩ : MethodName) jdk_21_method_10_code 2 (some (.object "java/lang/Object")) :: ws) ({ frames := 0, cells := 0, slots := 0, locals := 0 } : Room)) (fun a U => a = #[(.ref fb), (.int fi)] ∧ Z.Warmed39 U.vm ∧ U.heap = h0) (fun _ _ _ _ _ => True) (fun _ U o U' => ∃ v L, o = .returned v ∧ Q10 Z fb fi ff fx h0 n0 v U'.heap L ∧ FrameEnd U o U' L ({ frames := 0, cells := 0, slots := 0, locals := 0 } : Room).cells ({ frames := 0, cells := 0, slots := 0, locals := 0 } : Room).slots) := by
  refine MetFree.of_bodySF (plainFor_of_name pn_java_util_ArrayDeque) hisR ?_
  intro p e s m args0 below meth c s₁ Bd hml0 hP hK
  obtain ⟨rfl, hZ, hh⟩ := hP
  have hx := Bd.exec
  have hby := Bd.bytes
  have hml : c.maxLocals = 2 := hml0
  have hown : s.vm.findClass "java/util/ArrayDeque" = some m.cls := findClass_of_methodNamed Bd.named
  have hnm := (name_of_methodNamed Bd.named Bd.method).1
  have X0 : Stand p l e ({ frames := 0, cells := 0, slots := 0, locals := 0 } : Room) s m #[(.ref fb), (.int fi)] below meth c s₁ [] 0 0 := Stand.of_body Bd
  have e0 : s₁.heap = h0 := by rw [← hh, Bd.state]; rfl
  have N0 := Fr.nil n0
  have pre0 : ∀ t, Steps p.tables e below (s₁.setTop (mkF m 0 #[.val (.ref fb), .val (.int fi)] [])) t → Steps p.tables e below (s₁.setTop (entryFrame m #[(.ref fb), (.int fi)] 2)) t := fun t kk_ => castTop (ef_10 m fb fi) kk_
  have s157 : ∀ t, Steps p.tables e below (s₁.setTop (mkF m 3 #[.val (.ref fb), .val (.int fi)] [(.ref fx)])) t → Steps p.tables e below (s₁.setTop (mkF m 0 #[.val (.ref fb), .val (.int fi)] [])) t := by
    intro t kt
    refine XS.aloadN X0.here hx rfl (hb hby d10_0) rfl rfl ?_
    show Steps p.tables e below (s₁.setTop (mkF m 1 #[.val (.ref fb), .val (.int fi)] [(.ref fb)])) t
    refine XS.iloadN X0.here hx rfl (hb hby d10_1) rfl ?_
    show Steps p.tables e below (s₁.setTop (mkF m 2 #[.val (.ref fb), .val (.int fi)] [(.int fi), (.ref fb)])) t
    refine OwnKit.ldAO X0 hx hZ e0 Vb (j := fi) q0 q1 (w := (.ref fx)) hv (g := (mkF m 2 #[.val (.ref fb), .val (.int fi)] [(.int fi), (.ref fb)])) rfl rfl (hb hby d10_2) _ ?_
    exact kt
  obtain ⟨fs_, hr, hrun, hended, hW, hsame⟩ := X0.leave (hlocks := BodyLoose.notSynchronized Bd) (v := some (.ref fx)) (fun h => by rw [Bd.returns] at h; cases h)
  refine ⟨_, _, pre0 _ (s157 _ (?_)), hrun, hended, _, _, rfl, ?_, ⟨_, rfl⟩, hW, hsame.mono (by decide) (by decide)⟩
  · show Steps p.tables e below (s₁.setTop (mkF m 3 #[.val (.ref fb), .val (.int fi)] [(.ref fx)])) _
    exact retOut X0 hx Bd.returns rfl (Or.inr (Or.inr (Or.inr (Or.inr ⟨rfl, rfl, rfl⟩)))) (hb hby d10_3) hr
  · show Q10 Z fb fi ff fx h0 n0 _ s₁.heap _
    rw [e0]
    exact ⟨rfl, N0, rfl⟩
def Q11 (Z : State) (fd fb fx : Addr) (fh : Int32) (ff : Nat → Value) (h0 : Heap) (n0 : Nat) (v : Option Value) (h : Heap) (L : List Loc) : Prop := v = some (.ref fx) ∧ Fr n0 L ∧ h = h0
set_option maxRecDepth 65536 in
set_option maxHeartbeats 40000000 in
theorem rm11 (l : Launch) (Z : State) (a0 : Array Value) (hw : ∀ d ∈ tables_1, d.before a0 Z = true) (ws : List Jvm.Cond) (fd fb fx : Addr) (fh : Int32) (ff : Nat → Value) (h0 : Heap) (n0 : Nat) (Z0 : n0 ≤ h0.size) (Ed : Exa Z h0 fd "java/util/ArrayDeque") (F1 : Fld Z h0 fd "java/util/ArrayDeque" "elements" "[Ljava/lang/Object;" (.ref fb)) (F2 : Fld Z h0 fd "java/util/ArrayDeque" "head" "I" (.int fh)) (F3 : Fld Z h0 fd "java/util/ArrayDeque" "tail" "I" (.int (0 : Int32))) (Vb : Ao Z h0 fb "java/lang/Object" 17 ff) (Gd : n0 ≤ fd) (Gb : n0 ≤ fb) (q0 : 0 ≤ fh.toInt) (q1 : fh.toInt < 17) (hv : ff fh.toInt.toNat = .ref fx) :
    MetFree l (⟨"java/util/ArrayDeque", "peekFirst", "()Ljava/lang/Object;"⟩ : MethodName) (head1 (Jvm.Cond.code (⟨"java/util/ArrayDeque", "peekFirst", "()Ljava/lang/Object;"⟩ : MethodName) jdk_21_method_24_code 1 (some (.object "java/lang/Object")) :: ws) ({ frames := 1, cells := 0, slots := 0, locals := 13 } : Room)) (fun a U => a = #[(.ref fd)] ∧ Z.Warmed39 U.vm ∧ U.heap = h0) (fun _ _ _ _ _ => True) (fun _ U o U' => ∃ v L, o = .returned v ∧ Q11 Z fd fb fx fh ff h0 n0 v U'.heap L ∧ FrameEnd U o U' L ({ frames := 1, cells := 0, slots := 0, locals := 13 } : Room).cells ({ frames := 1, cells := 0, slots := 0, locals := 13 } : Room).slots) := by
  refine MetFree.of_bodySF (plainFor_of_name pn_java_util_ArrayDeque) hisR ?_
  intro p e s m args0 below meth c s₁ Bd hml0 hP hK
  obtain ⟨rfl, hZ, hh⟩ := hP
  have hx := Bd.exec
  have hby := Bd.bytes
  have hml : c.maxLocals = 1 := hml0
  have hown : s.vm.findClass "java/util/ArrayDeque" = some m.cls := findClass_of_methodNamed Bd.named
  have hnm := (name_of_methodNamed Bd.named Bd.method).1
  have X0 : Stand p l e ({ frames := 1, cells := 0, slots := 0, locals := 13 } : Room) s m #[(.ref fd)] below meth c s₁ [] 0 0 := Stand.of_body Bd
  have e0 : s₁.heap = h0 := by rw [← hh, Bd.state]; rfl
  have N0 := Fr.nil n0
  have pre0 : ∀ t, Steps p.tables e below (s₁.setTop (mkF m 0 #[.val (.ref fd)] [])) t → Steps p.tables e below (s₁.setTop (entryFrame m #[(.ref fd)] 1)) t := fun t kk_ => castTop (ef_11 m fd) kk_
  have s158 : ∀ t, Steps p.tables e below (s₁.setTop (mkF m 1 #[.val (.ref fd)] [(.ref fd)])) t → Steps p.tables e below (s₁.setTop (mkF m 0 #[.val (.ref fd)] [])) t := by
    intro t kt
    refine XS.aloadN X0.here hx rfl (hb hby d11_0) rfl rfl ?_
    exact kt
  obtain ⟨T159, X159, e159, st159⟩ := getF X0 hx hZ hown (host := "") (Or.inl (hw _ (List.mem_of_getElem? (i := 24) rfl))) Via.refl e0 F1 (g := (mkF m 1 #[.val (.ref fd)] [(.ref fd)])) rfl rfl (hb hby d11_1)
  have s160 : ∀ t, Steps p.tables e below (T159.setTop (mkF m 5 #[.val (.ref fd)] [(.ref fd), (.ref fb)])) t → Steps p.tables e below (T159.setTop (mkF m 4 #[.val (.ref fd)] [(.ref fb)])) t := by
    intro t kt
    refine XS.aloadN X159.here hx rfl (hb hby d11_4) rfl rfl ?_
    exact kt
  obtain ⟨T161, X161, e161, st161⟩ := getF X159 hx hZ hown (host := "") (Or.inl (hw _ (List.mem_of_getElem? (i := 76) rfl))) Via.refl e159 F2 (g := (mkF m 5 #[.val (.ref fd)] [(.ref fd), (.ref fb)])) rfl rfl (hb hby d11_5)
  obtain ⟨_, _, ⟨T162, L162, k162, n162⟩, -, X162, ⟨Lc162, hQ162, l162, y162, z162⟩, st162⟩ := Jvm.LawKit.callS X161 hx (y := (⟨"java/util/ArrayDeque", "elementAt", "([Ljava/lang/Object;I)Ljava/lang/Object;"⟩ : MethodName)) hown (mvT hZ (hw _ (List.mem_of_getElem? (i := 97) rfl))) (mvT hZ (hw _ (List.mem_of_getElem? (i := 98) rfl))) (mvT hZ (hw _ (List.mem_of_getElem? (i := 11) rfl))) (mvT hZ (hw _ (List.mem_of_getElem? (i := 99) rfl))) (by decide) (backOf (W := 0) (rm10 l Z a0 hw [] fb fh ff fx h0 n0 Z0 Vb q0 q1 hv) hZ (hw _ (List.mem_of_getElem? (i := 99) rfl)) (hw _ (List.mem_of_getElem? (i := 11) rfl)) (by decide) (by decide)) (g := (mkF m 8 #[.val (.ref fd)] [(.int fh), (.ref fb)])) rfl (by rw [hml]; rfl) (argsL := [(.ref fb), (.int fh)]) (rest := []) (lenOf pd_oaLjava_lang_ObjectsIcLjava_lang_Objects rfl) rfl (by show 2 * 0 + _ ≤ _; exact Nat.le_of_eq rfl) (hb hby d11_8) (fun _ _ => ⟨rfl, e161, (by decide : 0 + 0 ≤ _), (by decide : 0 + 0 ≤ _)⟩)
  dsimp only [Pt.U, Pt.locs, Pt.cells, Pt.slots] at X162 l162 y162 z162 st162 hQ162
  subst l162 y162 z162
  obtain ⟨rfl, N162q, e162q⟩ := hQ162
  have N162 := Fr.app N0 N162q
  obtain ⟨fs_, hr, hrun, hended, hW, hsame⟩ := X162.leave (hlocks := BodyLoose.notSynchronized Bd) (v := some (.ref fx)) (fun h => by rw [Bd.returns] at h; cases h)
  refine ⟨_, _, pre0 _ (s158 _ (st159 _ (s160 _ (st161 _ (st162 _ (?_)))))), hrun, hended, _, _, rfl, ?_, ⟨_, rfl⟩, hW, hsame.mono (by decide) (by decide)⟩
  · show Steps p.tables e below (T162.setTop (mkF m 11 #[.val (.ref fd)] [(.ref fx)])) _
    exact retOut X162 hx Bd.returns rfl (Or.inr (Or.inr (Or.inr (Or.inr ⟨rfl, rfl, rfl⟩)))) (hb hby d11_11) hr
  · show Q11 Z fd fb fx fh ff h0 n0 _ T162.heap _
    rw [e162q]
    exact ⟨rfl, N162, rfl⟩
def Q12 (Z : State) (fd fb fx : Addr) (fh : Int32) (ff : Nat → Value) (h0 : Heap) (n0 : Nat) (v : Option Value) (h : Heap) (L : List Loc) : Prop := v = some (.ref fx) ∧ Fr n0 L ∧ h = h0
set_option maxRecDepth 65536 in
set_option maxHeartbeats 40000000 in
theorem rm12 (l : Launch) (Z : State) (a0 : Array Value) (hw : ∀ d ∈ tables_1, d.before a0 Z = true) (ws : List Jvm.Cond) (fd fb fx : Addr) (fh : Int32) (ff : Nat → Value) (h0 : Heap) (n0 : Nat) (Z0 : n0 ≤ h0.size) (Ed : Exa Z h0 fd "java/util/ArrayDeque") (F1 : Fld Z h0 fd "java/util/ArrayDeque" "elements" "[Ljava/lang/Object;" (.ref fb)) (F2 : Fld Z h0 fd "java/util/ArrayDeque" "head" "I" (.int fh)) (F3 : Fld Z h0 fd "java/util/ArrayDeque" "tail" "I" (.int (0 : Int32))) (Vb : Ao Z h0 fb "java/lang/Object" 17 ff) (Gd : n0 ≤ fd) (Gb : n0 ≤ fb) (q0 : 0 ≤ fh.toInt) (q1 : fh.toInt < 17) (hv : ff fh.toInt.toNat = .ref fx) :
    MetFree l (⟨"java/util/ArrayDeque", "peek", "()Ljava/lang/Object;"⟩ : MethodName) (head1 (Jvm.Cond.code (⟨"java/util/ArrayDeque", "peek", "()Ljava/lang/Object;"⟩ : MethodName) jdk_21_method_33_code 1 (some (.object "java/lang/Object")) :: ws) ({ frames := 2, cells := 0, slots := 0, locals := 25 } : Room)) (fun a U => a = #[(.ref fd)] ∧ Z.Warmed39 U.vm ∧ U.heap = h0) (fun _ _ _ _ _ => True) (fun _ U o U' => ∃ v L, o = .returned v ∧ Q12 Z fd fb fx fh ff h0 n0 v U'.heap L ∧ FrameEnd U o U' L ({ frames := 2, cells := 0, slots := 0, locals := 25 } : Room).cells ({ frames := 2, cells := 0, slots := 0, locals := 25 } : Room).slots) := by
  refine MetFree.of_bodySF (plainFor_of_name pn_java_util_ArrayDeque) hisR ?_
  intro p e s m args0 below meth c s₁ Bd hml0 hP hK
  obtain ⟨rfl, hZ, hh⟩ := hP
  have hx := Bd.exec
  have hby := Bd.bytes
  have hml : c.maxLocals = 1 := hml0
  have hown : s.vm.findClass "java/util/ArrayDeque" = some m.cls := findClass_of_methodNamed Bd.named
  have hnm := (name_of_methodNamed Bd.named Bd.method).1
  have X0 : Stand p l e ({ frames := 2, cells := 0, slots := 0, locals := 25 } : Room) s m #[(.ref fd)] below meth c s₁ [] 0 0 := Stand.of_body Bd
  have e0 : s₁.heap = h0 := by rw [← hh, Bd.state]; rfl
  have N0 := Fr.nil n0
  have pre0 : ∀ t, Steps p.tables e below (s₁.setTop (mkF m 0 #[.val (.ref fd)] [])) t → Steps p.tables e below (s₁.setTop (entryFrame m #[(.ref fd)] 1)) t := fun t kk_ => castTop (ef_12 m fd) kk_
  have s163 : ∀ t, Steps p.tables e below (s₁.setTop (mkF m 1 #[.val (.ref fd)] [(.ref fd)])) t → Steps p.tables e below (s₁.setTop (mkF m 0 #[.val (.ref fd)] [])) t := by
    intro t kt
    refine XS.aloadN X0.here hx rfl (hb hby d12_0) rfl rfl ?_
    exact kt
  obtain ⟨cq164, kq164, qa164, qb164, qc164⟩ := isOf hZ e0 Ed
  obtain ⟨_, _, ⟨T164, L164, k164, n164⟩, -, X164, ⟨Lc164, hQ164, l164, y164, z164⟩, st164⟩ := X0.virtualBack hx (y := (⟨"java/util/ArrayDeque", "peekFirst", "()Ljava/lang/Object;"⟩ : MethodName)) (z := (⟨"java/util/ArrayDeque", "peekFirst", "()Ljava/lang/Object;"⟩ : MethodName)) hown (mvT hZ (hw _ (List.mem_of_getElem? (i := 92) rfl))) (mvT hZ (hw _ (List.mem_of_getElem? (i := 93) rfl))) (notFace_of_selects (args := #[]) (mvT hZ (hw _ (List.mem_of_getElem? (i := 95) rfl)))) (mvT hZ (hw _ (List.mem_of_getElem? (i := 95) rfl))) (mvT hZ (hw _ (List.mem_of_getElem? (i := 94) rfl))) (by decide) (backOf (W := 0) (rm11 l Z a0 hw [] fd fb fx fh ff h0 n0 Z0 Ed F1 F2 F3 Vb Gd Gb q0 q1 hv) hZ (hw _ (List.mem_of_getElem? (i := 96) rfl)) (hw _ (List.mem_of_getElem? (i := 11) rfl)) (by decide) (by decide)) qa164 qc164 (g := (mkF m 1 #[.val (.ref fd)] [(.ref fd)])) rfl (by rw [hml]; rfl) (Steps.refl _) (argsL := []) (rest := []) (lenOf pd_ocLjava_lang_Objects rfl) rfl (by show 2 * 0 + _ ≤ _; exact Nat.le_of_eq rfl) (hb hby d12_1) (fun _ _ => ⟨rfl, e0, (by decide : 0 + 0 ≤ _), (by decide : 0 + 0 ≤ _)⟩)
  dsimp only [Pt.U, Pt.locs, Pt.cells, Pt.slots] at X164 l164 y164 z164 st164 hQ164
  subst l164 y164 z164
  obtain ⟨rfl, N164q, e164q⟩ := hQ164
  have N164 := Fr.app N0 N164q
  obtain ⟨fs_, hr, hrun, hended, hW, hsame⟩ := X164.leave (hlocks := BodyLoose.notSynchronized Bd) (v := some (.ref fx)) (fun h => by rw [Bd.returns] at h; cases h)
  refine ⟨_, _, pre0 _ (s163 _ (st164.trans (?_))), hrun, hended, _, _, rfl, ?_, ⟨_, rfl⟩, hW, hsame.mono (by decide) (by decide)⟩
  · show Steps p.tables e below (T164.setTop (mkF m 4 #[.val (.ref fd)] [(.ref fx)])) _
    exact retOut X164 hx Bd.returns rfl (Or.inr (Or.inr (Or.inr (Or.inr ⟨rfl, rfl, rfl⟩)))) (hb hby d12_4) hr
  · show Q12 Z fd fb fx fh ff h0 n0 _ T164.heap _
    rw [e164q]
    exact ⟨rfl, N164, rfl⟩
def Q13 (Z : State) (fd fb fx : Addr) (fh : Int32) (ff : Nat → Value) (h0 : Heap) (n0 : Nat) (v : Option Value) (h : Heap) (L : List Loc) : Prop := v = some (.ref fx) ∧ Fr n0 L ∧ Keep h0 h [fd, fb] ∧ Exa Z h fd "java/util/ArrayDeque" ∧ Fld Z h fd "java/util/ArrayDeque" "elements" "[Ljava/lang/Object;" (.ref fb) ∧ Fld Z h fd "java/util/ArrayDeque" "head" "I" (.int (finc fh (17 : Int32))) ∧ Fld Z h fd "java/util/ArrayDeque" "tail" "I" (.int (0 : Int32)) ∧ Ao Z h fb "java/lang/Object" 17 (fun i => if i = fh.toInt.toNat then .null else ff i)
set_option maxRecDepth 65536 in
set_option maxHeartbeats 40000000 in
theorem rm13 (l : Launch) (Z : State) (a0 : Array Value) (hw : ∀ d ∈ tables_1, d.before a0 Z = true) (ws : List Jvm.Cond) (fd fb fx : Addr) (fh : Int32) (ff : Nat → Value) (h0 : Heap) (n0 : Nat) (Z0 : n0 ≤ h0.size) (Ed : Exa Z h0 fd "java/util/ArrayDeque") (F1 : Fld Z h0 fd "java/util/ArrayDeque" "elements" "[Ljava/lang/Object;" (.ref fb)) (F2 : Fld Z h0 fd "java/util/ArrayDeque" "head" "I" (.int fh)) (F3 : Fld Z h0 fd "java/util/ArrayDeque" "tail" "I" (.int (0 : Int32))) (Vb : Ao Z h0 fb "java/lang/Object" 17 ff) (Gd : n0 ≤ fd) (Gb : n0 ≤ fb) (q0 : 0 ≤ fh.toInt) (q1 : fh.toInt < 17) (hv : ff fh.toInt.toNat = .ref fx) :
    MetFree l (⟨"java/util/ArrayDeque", "pollFirst", "()Ljava/lang/Object;"⟩ : MethodName) (head1 (Jvm.Cond.code (⟨"java/util/ArrayDeque", "pollFirst", "()Ljava/lang/Object;"⟩ : MethodName) jdk_21_method_20_code 4 (some (.object "java/lang/Object")) :: ws) ({ frames := 1, cells := 0, slots := 0, locals := 14 } : Room)) (fun a U => a = #[(.ref fd)] ∧ Z.Warmed39 U.vm ∧ U.heap = h0) (fun _ _ _ _ _ => True) (fun _ U o U' => ∃ v L, o = .returned v ∧ Q13 Z fd fb fx fh ff h0 n0 v U'.heap L ∧ FrameEnd U o U' L ({ frames := 1, cells := 0, slots := 0, locals := 14 } : Room).cells ({ frames := 1, cells := 0, slots := 0, locals := 14 } : Room).slots) := by
  refine MetFree.of_bodySF (plainFor_of_name pn_java_util_ArrayDeque) hisR ?_
  intro p e s m args0 below meth c s₁ Bd hml0 hP hK
  obtain ⟨rfl, hZ, hh⟩ := hP
  have hx := Bd.exec
  have hby := Bd.bytes
  have hml : c.maxLocals = 4 := hml0
  have hown : s.vm.findClass "java/util/ArrayDeque" = some m.cls := findClass_of_methodNamed Bd.named
  have hnm := (name_of_methodNamed Bd.named Bd.method).1
  have X0 : Stand p l e ({ frames := 1, cells := 0, slots := 0, locals := 14 } : Room) s m #[(.ref fd)] below meth c s₁ [] 0 0 := Stand.of_body Bd
  have e0 : s₁.heap = h0 := by rw [← hh, Bd.state]; rfl
  have N0 := Fr.nil n0
  have pre0 : ∀ t, Steps p.tables e below (s₁.setTop (mkF m 0 #[.val (.ref fd), .unset, .unset, .unset] [])) t → Steps p.tables e below (s₁.setTop (entryFrame m #[(.ref fd)] 4)) t := fun t kk_ => castTop (ef_13 m fd) kk_
  have neD : fd ≠ fb := ne_ao Ed (hw _ (List.mem_of_getElem? (i := 10) rfl)) Vb
  have s165 : ∀ t, Steps p.tables e below (s₁.setTop (mkF m 1 #[.val (.ref fd), .unset, .unset, .unset] [(.ref fd)])) t → Steps p.tables e below (s₁.setTop (mkF m 0 #[.val (.ref fd), .unset, .unset, .unset] [])) t := by
    intro t kt
    refine XS.aloadN X0.here hx rfl (hb hby d13_0) rfl rfl ?_
    exact kt
  obtain ⟨T166, X166, e166, st166⟩ := getF X0 hx hZ hown (host := "") (Or.inl (hw _ (List.mem_of_getElem? (i := 24) rfl))) Via.refl e0 F1 (g := (mkF m 1 #[.val (.ref fd), .unset, .unset, .unset] [(.ref fd)])) rfl rfl (hb hby d13_1)
  have s167 : ∀ t, Steps p.tables e below (T166.setTop (mkF m 7 #[.val (.ref fd), .val (.ref fb), .unset, .unset] [(.ref fd), (.ref fb)])) t → Steps p.tables e below (T166.setTop (mkF m 4 #[.val (.ref fd), .unset, .unset, .unset] [(.ref fb)])) t := by
    intro t kt
    refine XS.dup X166.here hx rfl (hb hby d13_4) rfl rfl ?_
    show Steps p.tables e below (T166.setTop (mkF m 5 #[.val (.ref fd), .unset, .unset, .unset] [(.ref fb), (.ref fb)])) t
    refine XS.astoreN X166.here hx rfl (hb hby d13_5) rfl rfl (l' := #[.val (.ref fd), .val (.ref fb), .unset, .unset]) rfl ?_
    show Steps p.tables e below (T166.setTop (mkF m 6 #[.val (.ref fd), .val (.ref fb), .unset, .unset] [(.ref fb)])) t
    refine XS.aloadN X166.here hx rfl (hb hby d13_6) rfl rfl ?_
    exact kt
  obtain ⟨T168, X168, e168, st168⟩ := getF X166 hx hZ hown (host := "") (Or.inl (hw _ (List.mem_of_getElem? (i := 76) rfl))) Via.refl e166 F2 (g := (mkF m 7 #[.val (.ref fd), .val (.ref fb), .unset, .unset] [(.ref fd), (.ref fb)])) rfl rfl (hb hby d13_7)
  have s169 : ∀ t, Steps p.tables e below (T168.setTop (mkF m 12 #[.val (.ref fd), .val (.ref fb), .val (.int fh), .unset] [(.int fh), (.ref fb)])) t → Steps p.tables e below (T168.setTop (mkF m 10 #[.val (.ref fd), .val (.ref fb), .unset, .unset] [(.int fh), (.ref fb)])) t := by
    intro t kt
    refine XS.dup X168.here hx rfl (hb hby d13_10) rfl rfl ?_
    show Steps p.tables e below (T168.setTop (mkF m 11 #[.val (.ref fd), .val (.ref fb), .unset, .unset] [(.int fh), (.int fh), (.ref fb)])) t
    refine XS.istoreN X168.here hx rfl (hb hby d13_11) rfl (l' := #[.val (.ref fd), .val (.ref fb), .val (.int fh), .unset]) rfl ?_
    exact kt
  obtain ⟨_, _, ⟨T170, L170, k170, n170⟩, -, X170, ⟨Lc170, hQ170, l170, y170, z170⟩, st170⟩ := Jvm.LawKit.callS X168 hx (y := (⟨"java/util/ArrayDeque", "elementAt", "([Ljava/lang/Object;I)Ljava/lang/Object;"⟩ : MethodName)) hown (mvT hZ (hw _ (List.mem_of_getElem? (i := 97) rfl))) (mvT hZ (hw _ (List.mem_of_getElem? (i := 98) rfl))) (mvT hZ (hw _ (List.mem_of_getElem? (i := 11) rfl))) (mvT hZ (hw _ (List.mem_of_getElem? (i := 99) rfl))) (by decide) (backOf (W := 0) (rm10 l Z a0 hw [] fb fh ff fx h0 n0 Z0 Vb q0 q1 hv) hZ (hw _ (List.mem_of_getElem? (i := 99) rfl)) (hw _ (List.mem_of_getElem? (i := 11) rfl)) (by decide) (by decide)) (g := (mkF m 12 #[.val (.ref fd), .val (.ref fb), .val (.int fh), .unset] [(.int fh), (.ref fb)])) rfl (by rw [hml]; rfl) (argsL := [(.ref fb), (.int fh)]) (rest := []) (lenOf pd_oaLjava_lang_ObjectsIcLjava_lang_Objects rfl) rfl (by show 2 * 0 + _ ≤ _; exact Nat.le_of_eq rfl) (hb hby d13_12) (fun _ _ => ⟨rfl, e168, (by decide : 0 + 0 ≤ _), (by decide : 0 + 0 ≤ _)⟩)
  dsimp only [Pt.U, Pt.locs, Pt.cells, Pt.slots] at X170 l170 y170 z170 st170 hQ170
  subst l170 y170 z170
  obtain ⟨rfl, N170q, e170q⟩ := hQ170
  have N170 := Fr.app N0 N170q
  have s171 : ∀ t, Steps p.tables e below (T170.setTop (mkF m 23 #[.val (.ref fd), .val (.ref fb), .val (.int fh), .val (.ref fx)] [.null, (.int fh), (.ref fb)])) t → Steps p.tables e below (T170.setTop (mkF m 15 #[.val (.ref fd), .val (.ref fb), .val (.int fh), .unset] [(.ref fx)])) t := by
    intro t kt
    refine XS.astoreN X170.here hx rfl (hb hby d13_15) rfl rfl (l' := #[.val (.ref fd), .val (.ref fb), .val (.int fh), .val (.ref fx)]) rfl ?_
    show Steps p.tables e below (T170.setTop (mkF m 16 #[.val (.ref fd), .val (.ref fb), .val (.int fh), .val (.ref fx)] [])) t
    refine XS.aloadN X170.here hx rfl (hb hby d13_16) rfl rfl ?_
    show Steps p.tables e below (T170.setTop (mkF m 17 #[.val (.ref fd), .val (.ref fb), .val (.int fh), .val (.ref fx)] [(.ref fx)])) t
    refine XS.ifnullNo X170.here hx rfl (hb hby d13_17) rfl ?_
    show Steps p.tables e below (T170.setTop (mkF m 20 #[.val (.ref fd), .val (.ref fb), .val (.int fh), .val (.ref fx)] [])) t
    refine XS.aloadN X170.here hx rfl (hb hby d13_20) rfl rfl ?_
    show Steps p.tables e below (T170.setTop (mkF m 21 #[.val (.ref fd), .val (.ref fb), .val (.int fh), .val (.ref fx)] [(.ref fb)])) t
    refine XS.iloadN X170.here hx rfl (hb hby d13_21) rfl ?_
    show Steps p.tables e below (T170.setTop (mkF m 22 #[.val (.ref fd), .val (.ref fb), .val (.int fh), .val (.ref fx)] [(.int fh), (.ref fb)])) t
    refine XS.aconstNull X170.here hx rfl (hb hby d13_22) ?_
    exact kt
  obtain ⟨T172, h172, X172, e172, W172, V172, st172⟩ := OwnKit.stAO X170 hx hZ e170q Vb (j := fh) q0 q1 (Or.inl rfl) (g := (mkF m 23 #[.val (.ref fd), .val (.ref fb), .val (.int fh), .val (.ref fx)] [.null, (.int fh), (.ref fb)])) rfl rfl (hb hby d13_23)
  have Zs172 : n0 ≤ h172.size := Nat.le_trans Z0 (Keep.of_wr W172).1
  have fE173 := Ed.wr W172
  have fF174 := F1.other W172 (Or.inl neD)
  have fF175 := F2.other W172 (Or.inl neD)
  have fF176 := F3.other W172 (Or.inl neD)
  have fV177 := V172
  have K172 : Keep h0 h172 [fd, fb] := (Keep.refl h0 [fd, fb]).wr W172 (Or.inl (List.mem_of_getElem? (i := 1) rfl))
  have N172 := Fr.snoc X172 N170 Gb
  have s178 : ∀ t, Steps p.tables e below (T172.setTop (mkF m 28 #[.val (.ref fd), .val (.ref fb), .val (.int fh), .val (.ref fx)] [(.int (17 : Int32)), (.int fh), (.ref fd)])) t → Steps p.tables e below (T172.setTop (mkF m 24 #[.val (.ref fd), .val (.ref fb), .val (.int fh), .val (.ref fx)] [])) t := by
    intro t kt
    refine XS.aloadN X172.here hx rfl (hb hby d13_24) rfl rfl ?_
    show Steps p.tables e below (T172.setTop (mkF m 25 #[.val (.ref fd), .val (.ref fb), .val (.int fh), .val (.ref fx)] [(.ref fd)])) t
    refine XS.iloadN X172.here hx rfl (hb hby d13_25) rfl ?_
    show Steps p.tables e below (T172.setTop (mkF m 26 #[.val (.ref fd), .val (.ref fb), .val (.int fh), .val (.ref fx)] [(.int fh), (.ref fd)])) t
    refine XS.aloadN X172.here hx rfl (hb hby d13_26) rfl rfl ?_
    show Steps p.tables e below (T172.setTop (mkF m 27 #[.val (.ref fd), .val (.ref fb), .val (.int fh), .val (.ref fx)] [(.ref fb), (.int fh), (.ref fd)])) t
    refine OwnKit.alenO X172 hx hZ e172 fV177 (z := (17 : Int32)) (by decide) (g := (mkF m 27 #[.val (.ref fd), .val (.ref fb), .val (.int fh), .val (.ref fx)] [(.ref fb), (.int fh), (.ref fd)])) rfl rfl (hb hby d13_27) _ ?_
    exact kt
  obtain ⟨_, _, ⟨T179, L179, k179, n179⟩, -, X179, ⟨Lc179, hQ179, l179, y179, z179⟩, st179⟩ := Jvm.LawKit.callS X172 hx (y := (⟨"java/util/ArrayDeque", "inc", "(II)I"⟩ : MethodName)) hown (mvT hZ (hw _ (List.mem_of_getElem? (i := 120) rfl))) (mvT hZ (hw _ (List.mem_of_getElem? (i := 121) rfl))) (mvT hZ (hw _ (List.mem_of_getElem? (i := 11) rfl))) (mvT hZ (hw _ (List.mem_of_getElem? (i := 122) rfl))) (by decide) (backOf (W := 1) (rm7 l Z a0 hw [] fh (17 : Int32) h172 n0 Zs172 ) hZ (hw _ (List.mem_of_getElem? (i := 122) rfl)) (hw _ (List.mem_of_getElem? (i := 11) rfl)) (by decide) (by decide)) (g := (mkF m 28 #[.val (.ref fd), .val (.ref fb), .val (.int fh), .val (.ref fx)] [(.int (17 : Int32)), (.int fh), (.ref fd)])) rfl (by rw [hml]; rfl) (argsL := [(.int fh), (.int (17 : Int32))]) (rest := [(.ref fd)]) (lenOf pd_oIIcI rfl) rfl (by show 2 * 0 + _ ≤ _; exact Nat.le_of_eq rfl) (hb hby d13_28) (fun _ _ => ⟨rfl, e172, (by decide : 0 + 0 ≤ _), (by decide : 0 + 0 ≤ _)⟩)
  dsimp only [Pt.U, Pt.locs, Pt.cells, Pt.slots] at X179 l179 y179 z179 st179 hQ179
  subst l179 y179 z179
  obtain ⟨rfl, N179q, e179q⟩ := hQ179
  have N179 := Fr.app N172 N179q
  obtain ⟨T180, h180, X180, e180, W180, st180⟩ := putF X179 hx hZ hown (host := "") (Or.inl (hw _ (List.mem_of_getElem? (i := 76) rfl))) Via.refl e179q fF175 fE173 (Or.inl (hw _ (List.mem_of_getElem? (i := 77) rfl))) (hw _ (List.mem_of_getElem? (i := 10) rfl)) (ty := .int) (by decide) rfl rfl (g := (mkF m 31 #[.val (.ref fd), .val (.ref fb), .val (.int fh), .val (.ref fx)] [(.int (finc fh (17 : Int32))), (.ref fd)])) rfl rfl (hb hby d13_31)
  have Zs180 : n0 ≤ h180.size := Nat.le_trans Zs172 (Keep.of_wr W180).1
  have fE181 := fE173.wr W180
  have fF182 := fF174.other W180 (Or.inr (slot_ne (Or.inl (hw _ (List.mem_of_getElem? (i := 25) rfl))) (Or.inl (hw _ (List.mem_of_getElem? (i := 77) rfl))) (by decide) (t := (.array (.object "java/lang/Object"))) (t' := .int) (by decide) (by decide)))
  have fF183 := fF175.same W180
  have fF184 := fF176.other W180 (Or.inr (slot_ne (Or.inl (hw _ (List.mem_of_getElem? (i := 83) rfl))) (Or.inl (hw _ (List.mem_of_getElem? (i := 77) rfl))) (by decide) (t := .int) (t' := .int) (by decide) (by decide)))
  have fV185 := fV177.other W180 (Ne.symm neD)
  have K180 : Keep h0 h180 [fd, fb] := K172.wr W180 (Or.inl (List.mem_of_getElem? (i := 0) rfl))
  have N180 := Fr.snoc X180 N179 Gd
  have s186 : ∀ t, Steps p.tables e below (T180.setTop (mkF m 35 #[.val (.ref fd), .val (.ref fb), .val (.int fh), .val (.ref fx)] [(.ref fx)])) t → Steps p.tables e below (T180.setTop (mkF m 34 #[.val (.ref fd), .val (.ref fb), .val (.int fh), .val (.ref fx)] [])) t := by
    intro t kt
    refine XS.aloadN X180.here hx rfl (hb hby d13_34) rfl rfl ?_
    exact kt
  obtain ⟨fs_, hr, hrun, hended, hW, hsame⟩ := X180.leave (hlocks := BodyLoose.notSynchronized Bd) (v := some (.ref fx)) (fun h => by rw [Bd.returns] at h; cases h)
  refine ⟨_, _, pre0 _ (s165 _ (st166 _ (s167 _ (st168 _ (s169 _ (st170 _ (s171 _ (st172 _ (s178 _ (st179 _ (st180 _ (s186 _ (?_))))))))))))), hrun, hended, _, _, rfl, ?_, ⟨_, rfl⟩, hW, hsame.mono (by decide) (by decide)⟩
  · show Steps p.tables e below (T180.setTop (mkF m 35 #[.val (.ref fd), .val (.ref fb), .val (.int fh), .val (.ref fx)] [(.ref fx)])) _
    exact retOut X180 hx Bd.returns rfl (Or.inr (Or.inr (Or.inr (Or.inr ⟨rfl, rfl, rfl⟩)))) (hb hby d13_35) hr
  · show Q13 Z fd fb fx fh ff h0 n0 _ T180.heap _
    rw [e180]
    exact ⟨rfl, N180, K180, fE181, fF182, fF183, fF184, fV185⟩
def Q14 (Z : State) (fd fb fx : Addr) (fh : Int32) (ff : Nat → Value) (h0 : Heap) (n0 : Nat) (v : Option Value) (h : Heap) (L : List Loc) : Prop := v = some (.ref fx) ∧ Fr n0 L ∧ Keep h0 h [fd, fb] ∧ Exa Z h fd "java/util/ArrayDeque" ∧ Fld Z h fd "java/util/ArrayDeque" "elements" "[Ljava/lang/Object;" (.ref fb) ∧ Fld Z h fd "java/util/ArrayDeque" "head" "I" (.int (finc fh (17 : Int32))) ∧ Fld Z h fd "java/util/ArrayDeque" "tail" "I" (.int (0 : Int32)) ∧ Ao Z h fb "java/lang/Object" 17 (fun i => if i = fh.toInt.toNat then .null else ff i)
set_option maxRecDepth 65536 in
set_option maxHeartbeats 40000000 in
theorem rm14 (l : Launch) (Z : State) (a0 : Array Value) (hw : ∀ d ∈ tables_1, d.before a0 Z = true) (ws : List Jvm.Cond) (fd fb fx : Addr) (fh : Int32) (ff : Nat → Value) (h0 : Heap) (n0 : Nat) (Z0 : n0 ≤ h0.size) (Ed : Exa Z h0 fd "java/util/ArrayDeque") (F1 : Fld Z h0 fd "java/util/ArrayDeque" "elements" "[Ljava/lang/Object;" (.ref fb)) (F2 : Fld Z h0 fd "java/util/ArrayDeque" "head" "I" (.int fh)) (F3 : Fld Z h0 fd "java/util/ArrayDeque" "tail" "I" (.int (0 : Int32))) (Vb : Ao Z h0 fb "java/lang/Object" 17 ff) (Gd : n0 ≤ fd) (Gb : n0 ≤ fb) (q0 : 0 ≤ fh.toInt) (q1 : fh.toInt < 17) (hv : ff fh.toInt.toNat = .ref fx) :
    MetFree l (⟨"java/util/ArrayDeque", "removeFirst", "()Ljava/lang/Object;"⟩ : MethodName) (head1 (Jvm.Cond.code (⟨"java/util/ArrayDeque", "removeFirst", "()Ljava/lang/Object;"⟩ : MethodName) jdk_21_method_18_code 2 (some (.object "java/lang/Object")) :: ws) ({ frames := 2, cells := 0, slots := 0, locals := 29 } : Room)) (fun a U => a = #[(.ref fd)] ∧ Z.Warmed39 U.vm ∧ U.heap = h0) (fun _ _ _ _ _ => True) (fun _ U o U' => ∃ v L, o = .returned v ∧ Q14 Z fd fb fx fh ff h0 n0 v U'.heap L ∧ FrameEnd U o U' L ({ frames := 2, cells := 0, slots := 0, locals := 29 } : Room).cells ({ frames := 2, cells := 0, slots := 0, locals := 29 } : Room).slots) := by
  refine MetFree.of_bodySF (plainFor_of_name pn_java_util_ArrayDeque) hisR ?_
  intro p e s m args0 below meth c s₁ Bd hml0 hP hK
  obtain ⟨rfl, hZ, hh⟩ := hP
  have hx := Bd.exec
  have hby := Bd.bytes
  have hml : c.maxLocals = 2 := hml0
  have hown : s.vm.findClass "java/util/ArrayDeque" = some m.cls := findClass_of_methodNamed Bd.named
  have hnm := (name_of_methodNamed Bd.named Bd.method).1
  have X0 : Stand p l e ({ frames := 2, cells := 0, slots := 0, locals := 29 } : Room) s m #[(.ref fd)] below meth c s₁ [] 0 0 := Stand.of_body Bd
  have e0 : s₁.heap = h0 := by rw [← hh, Bd.state]; rfl
  have N0 := Fr.nil n0
  have pre0 : ∀ t, Steps p.tables e below (s₁.setTop (mkF m 0 #[.val (.ref fd), .unset] [])) t → Steps p.tables e below (s₁.setTop (entryFrame m #[(.ref fd)] 2)) t := fun t kk_ => castTop (ef_14 m fd) kk_
  have neD : fd ≠ fb := ne_ao Ed (hw _ (List.mem_of_getElem? (i := 10) rfl)) Vb
  have s187 : ∀ t, Steps p.tables e below (s₁.setTop (mkF m 1 #[.val (.ref fd), .unset] [(.ref fd)])) t → Steps p.tables e below (s₁.setTop (mkF m 0 #[.val (.ref fd), .unset] [])) t := by
    intro t kt
    refine XS.aloadN X0.here hx rfl (hb hby d14_0) rfl rfl ?_
    exact kt
  obtain ⟨cq188, kq188, qa188, qb188, qc188⟩ := isOf hZ e0 Ed
  obtain ⟨_, _, ⟨T188, L188, k188, n188⟩, -, X188, ⟨Lc188, hQ188, l188, y188, z188⟩, st188⟩ := X0.virtualBack hx (y := (⟨"java/util/ArrayDeque", "pollFirst", "()Ljava/lang/Object;"⟩ : MethodName)) (z := (⟨"java/util/ArrayDeque", "pollFirst", "()Ljava/lang/Object;"⟩ : MethodName)) hown (mvT hZ (hw _ (List.mem_of_getElem? (i := 115) rfl))) (mvT hZ (hw _ (List.mem_of_getElem? (i := 116) rfl))) (notFace_of_selects (args := #[]) (mvT hZ (hw _ (List.mem_of_getElem? (i := 118) rfl)))) (mvT hZ (hw _ (List.mem_of_getElem? (i := 118) rfl))) (mvT hZ (hw _ (List.mem_of_getElem? (i := 117) rfl))) (by decide) (backOf (W := 0) (rm13 l Z a0 hw [] fd fb fx fh ff h0 n0 Z0 Ed F1 F2 F3 Vb Gd Gb q0 q1 hv) hZ (hw _ (List.mem_of_getElem? (i := 119) rfl)) (hw _ (List.mem_of_getElem? (i := 11) rfl)) (by decide) (by decide)) qa188 qc188 (g := (mkF m 1 #[.val (.ref fd), .unset] [(.ref fd)])) rfl (by rw [hml]; rfl) (Steps.refl _) (argsL := []) (rest := []) (lenOf pd_ocLjava_lang_Objects rfl) rfl (by show 2 * 0 + _ ≤ _; exact Nat.le_of_eq rfl) (hb hby d14_1) (fun _ _ => ⟨rfl, e0, (by decide : 0 + 0 ≤ _), (by decide : 0 + 0 ≤ _)⟩)
  dsimp only [Pt.U, Pt.locs, Pt.cells, Pt.slots] at X188 l188 y188 z188 st188 hQ188
  subst l188 y188 z188
  obtain ⟨rfl, N188q, Kc188, fE189, fF190, fF191, fF192, fV193⟩ := hQ188
  have N188 := Fr.app N0 N188q
  have Zs188 : n0 ≤ T188.heap.size := Nat.le_trans Z0 Kc188.1
  have K188 : Keep h0 T188.heap [fd, fb] := (Keep.refl h0 [fd, fb]).trans Kc188 (allS (Or.inl (List.mem_of_getElem? (i := 0) rfl)) (allS (Or.inl (List.mem_of_getElem? (i := 1) rfl)) all0))
  have s194 : ∀ t, Steps p.tables e below (T188.setTop (mkF m 18 #[.val (.ref fd), .val (.ref fx)] [(.ref fx)])) t → Steps p.tables e below (T188.setTop (mkF m 4 #[.val (.ref fd), .unset] [(.ref fx)])) t := by
    intro t kt
    refine XS.astoreN X188.here hx rfl (hb hby d14_4) rfl rfl (l' := #[.val (.ref fd), .val (.ref fx)]) rfl ?_
    show Steps p.tables e below (T188.setTop (mkF m 5 #[.val (.ref fd), .val (.ref fx)] [])) t
    refine XS.aloadN X188.here hx rfl (hb hby d14_5) rfl rfl ?_
    show Steps p.tables e below (T188.setTop (mkF m 6 #[.val (.ref fd), .val (.ref fx)] [(.ref fx)])) t
    refine XS.ifnonnullYes X188.here hx rfl (pc0 := 6) (pc' := 17) rfl (hb hby d14_6) rfl (by decide) (by decide) ?_
    show Steps p.tables e below (T188.setTop (mkF m 17 #[.val (.ref fd), .val (.ref fx)] [])) t
    refine XS.aloadN X188.here hx rfl (hb hby d14_17) rfl rfl ?_
    exact kt
  obtain ⟨fs_, hr, hrun, hended, hW, hsame⟩ := X188.leave (hlocks := BodyLoose.notSynchronized Bd) (v := some (.ref fx)) (fun h => by rw [Bd.returns] at h; cases h)
  refine ⟨_, _, pre0 _ (s187 _ (st188.trans (s194 _ (?_)))), hrun, hended, _, _, rfl, ?_, ⟨_, rfl⟩, hW, hsame.mono (by decide) (by decide)⟩
  · show Steps p.tables e below (T188.setTop (mkF m 18 #[.val (.ref fd), .val (.ref fx)] [(.ref fx)])) _
    exact retOut X188 hx Bd.returns rfl (Or.inr (Or.inr (Or.inr (Or.inr ⟨rfl, rfl, rfl⟩)))) (hb hby d14_18) hr
  · show Q14 Z fd fb fx fh ff h0 n0 _ T188.heap _
    exact ⟨rfl, N188, K188, fE189, fF190, fF191, fF192, fV193⟩
def Q15 (Z : State) (fd fb fx : Addr) (fh : Int32) (ff : Nat → Value) (h0 : Heap) (n0 : Nat) (v : Option Value) (h : Heap) (L : List Loc) : Prop := v = some (.ref fx) ∧ Fr n0 L ∧ Keep h0 h [fd, fb] ∧ Exa Z h fd "java/util/ArrayDeque" ∧ Fld Z h fd "java/util/ArrayDeque" "elements" "[Ljava/lang/Object;" (.ref fb) ∧ Fld Z h fd "java/util/ArrayDeque" "head" "I" (.int (finc fh (17 : Int32))) ∧ Fld Z h fd "java/util/ArrayDeque" "tail" "I" (.int (0 : Int32)) ∧ Ao Z h fb "java/lang/Object" 17 (fun i => if i = fh.toInt.toNat then .null else ff i)
set_option maxRecDepth 65536 in
set_option maxHeartbeats 40000000 in
theorem rm15 (l : Launch) (Z : State) (a0 : Array Value) (hw : ∀ d ∈ tables_1, d.before a0 Z = true) (ws : List Jvm.Cond) (fd fb fx : Addr) (fh : Int32) (ff : Nat → Value) (h0 : Heap) (n0 : Nat) (Z0 : n0 ≤ h0.size) (Ed : Exa Z h0 fd "java/util/ArrayDeque") (F1 : Fld Z h0 fd "java/util/ArrayDeque" "elements" "[Ljava/lang/Object;" (.ref fb)) (F2 : Fld Z h0 fd "java/util/ArrayDeque" "head" "I" (.int fh)) (F3 : Fld Z h0 fd "java/util/ArrayDeque" "tail" "I" (.int (0 : Int32))) (Vb : Ao Z h0 fb "java/lang/Object" 17 ff) (Gd : n0 ≤ fd) (Gb : n0 ≤ fb) (q0 : 0 ≤ fh.toInt) (q1 : fh.toInt < 17) (hv : ff fh.toInt.toNat = .ref fx) :
    MetFree l (⟨"java/util/ArrayDeque", "pop", "()Ljava/lang/Object;"⟩ : MethodName) (head1 (Jvm.Cond.code (⟨"java/util/ArrayDeque", "pop", "()Ljava/lang/Object;"⟩ : MethodName) jdk_21_method_35_code 1 (some (.object "java/lang/Object")) :: ws) ({ frames := 3, cells := 0, slots := 0, locals := 42 } : Room)) (fun a U => a = #[(.ref fd)] ∧ Z.Warmed39 U.vm ∧ U.heap = h0) (fun _ _ _ _ _ => True) (fun _ U o U' => ∃ v L, o = .returned v ∧ Q15 Z fd fb fx fh ff h0 n0 v U'.heap L ∧ FrameEnd U o U' L ({ frames := 3, cells := 0, slots := 0, locals := 42 } : Room).cells ({ frames := 3, cells := 0, slots := 0, locals := 42 } : Room).slots) := by
  refine MetFree.of_bodySF (plainFor_of_name pn_java_util_ArrayDeque) hisR ?_
  intro p e s m args0 below meth c s₁ Bd hml0 hP hK
  obtain ⟨rfl, hZ, hh⟩ := hP
  have hx := Bd.exec
  have hby := Bd.bytes
  have hml : c.maxLocals = 1 := hml0
  have hown : s.vm.findClass "java/util/ArrayDeque" = some m.cls := findClass_of_methodNamed Bd.named
  have hnm := (name_of_methodNamed Bd.named Bd.method).1
  have X0 : Stand p l e ({ frames := 3, cells := 0, slots := 0, locals := 42 } : Room) s m #[(.ref fd)] below meth c s₁ [] 0 0 := Stand.of_body Bd
  have e0 : s₁.heap = h0 := by rw [← hh, Bd.state]; rfl
  have N0 := Fr.nil n0
  have pre0 : ∀ t, Steps p.tables e below (s₁.setTop (mkF m 0 #[.val (.ref fd)] [])) t → Steps p.tables e below (s₁.setTop (entryFrame m #[(.ref fd)] 1)) t := fun t kk_ => castTop (ef_15 m fd) kk_
  have neD : fd ≠ fb := ne_ao Ed (hw _ (List.mem_of_getElem? (i := 10) rfl)) Vb
  have s195 : ∀ t, Steps p.tables e below (s₁.setTop (mkF m 1 #[.val (.ref fd)] [(.ref fd)])) t → Steps p.tables e below (s₁.setTop (mkF m 0 #[.val (.ref fd)] [])) t := by
    intro t kt
    refine XS.aloadN X0.here hx rfl (hb hby d15_0) rfl rfl ?_
    exact kt
  obtain ⟨cq196, kq196, qa196, qb196, qc196⟩ := isOf hZ e0 Ed
  obtain ⟨_, _, ⟨T196, L196, k196, n196⟩, -, X196, ⟨Lc196, hQ196, l196, y196, z196⟩, st196⟩ := X0.virtualBack hx (y := (⟨"java/util/ArrayDeque", "removeFirst", "()Ljava/lang/Object;"⟩ : MethodName)) (z := (⟨"java/util/ArrayDeque", "removeFirst", "()Ljava/lang/Object;"⟩ : MethodName)) hown (mvT hZ (hw _ (List.mem_of_getElem? (i := 110) rfl))) (mvT hZ (hw _ (List.mem_of_getElem? (i := 111) rfl))) (notFace_of_selects (args := #[]) (mvT hZ (hw _ (List.mem_of_getElem? (i := 113) rfl)))) (mvT hZ (hw _ (List.mem_of_getElem? (i := 113) rfl))) (mvT hZ (hw _ (List.mem_of_getElem? (i := 112) rfl))) (by decide) (backOf (W := 0) (rm14 l Z a0 hw [] fd fb fx fh ff h0 n0 Z0 Ed F1 F2 F3 Vb Gd Gb q0 q1 hv) hZ (hw _ (List.mem_of_getElem? (i := 114) rfl)) (hw _ (List.mem_of_getElem? (i := 11) rfl)) (by decide) (by decide)) qa196 qc196 (g := (mkF m 1 #[.val (.ref fd)] [(.ref fd)])) rfl (by rw [hml]; rfl) (Steps.refl _) (argsL := []) (rest := []) (lenOf pd_ocLjava_lang_Objects rfl) rfl (by show 2 * 0 + _ ≤ _; exact Nat.le_of_eq rfl) (hb hby d15_1) (fun _ _ => ⟨rfl, e0, (by decide : 0 + 0 ≤ _), (by decide : 0 + 0 ≤ _)⟩)
  dsimp only [Pt.U, Pt.locs, Pt.cells, Pt.slots] at X196 l196 y196 z196 st196 hQ196
  subst l196 y196 z196
  obtain ⟨rfl, N196q, Kc196, fE197, fF198, fF199, fF200, fV201⟩ := hQ196
  have N196 := Fr.app N0 N196q
  have Zs196 : n0 ≤ T196.heap.size := Nat.le_trans Z0 Kc196.1
  have K196 : Keep h0 T196.heap [fd, fb] := (Keep.refl h0 [fd, fb]).trans Kc196 (allS (Or.inl (List.mem_of_getElem? (i := 0) rfl)) (allS (Or.inl (List.mem_of_getElem? (i := 1) rfl)) all0))
  obtain ⟨fs_, hr, hrun, hended, hW, hsame⟩ := X196.leave (hlocks := BodyLoose.notSynchronized Bd) (v := some (.ref fx)) (fun h => by rw [Bd.returns] at h; cases h)
  refine ⟨_, _, pre0 _ (s195 _ (st196.trans (?_))), hrun, hended, _, _, rfl, ?_, ⟨_, rfl⟩, hW, hsame.mono (by decide) (by decide)⟩
  · show Steps p.tables e below (T196.setTop (mkF m 4 #[.val (.ref fd)] [(.ref fx)])) _
    exact retOut X196 hx Bd.returns rfl (Or.inr (Or.inr (Or.inr (Or.inr ⟨rfl, rfl, rfl⟩)))) (hb hby d15_4) hr
  · show Q15 Z fd fb fx fh ff h0 n0 _ T196.heap _
    exact ⟨rfl, N196, K196, fE197, fF198, fF199, fF200, fV201⟩
def Q16 (Z : State) (fe fd fb : Addr) (fk fh : Int32) (ff : Nat → Value) (h0 : Heap) (n0 : Nat) (v : Option Value) (h : Heap) (L : List Loc) : Prop := v = none ∧ Fr n0 L ∧ Keep h0 h [fe, fd, fb] ∧ Exa Z h fe "com/example/tell_nothing/tellnothing/pepa/Expression" ∧ Fld Z h fe "com/example/tell_nothing/tellnothing/pepa/Expression" "pending" "Ljava/util/Deque;" (.ref fd) ∧ Fld Z h fe "com/example/tell_nothing/tellnothing/pepa/Expression" "openParentheses" "I" (.int (fk + (1 : Int32))) ∧ ∃ fx : Addr, Exa Z h fx "com/example/tell_nothing/tellnothing/pepa/Expression$Pending" ∧ Fld Z h fx "com/example/tell_nothing/tellnothing/pepa/Expression$Pending" "operator" "Lcom/example/tell_nothing/tellnothing/pepa/Expression$Operator;" .null ∧ Exa Z h fd "java/util/ArrayDeque" ∧ Fld Z h fd "java/util/ArrayDeque" "elements" "[Ljava/lang/Object;" (.ref fb) ∧ Fld Z h fd "java/util/ArrayDeque" "head" "I" (.int (fdec fh (17 : Int32))) ∧ Fld Z h fd "java/util/ArrayDeque" "tail" "I" (.int (0 : Int32)) ∧ Ao Z h fb "java/lang/Object" 17 (fun i => if i = (fdec fh (17 : Int32)).toInt.toNat then .ref fx else ff i)
set_option maxRecDepth 65536 in
set_option maxHeartbeats 40000000 in
theorem rm16 (l : Launch) (Z : State) (a0 : Array Value) (hw : ∀ d ∈ tables_1, d.before a0 Z = true) (ws : List Jvm.Cond) (fe fd fb : Addr) (fk fh : Int32) (ff : Nat → Value) (h0 : Heap) (n0 : Nat) (Z0 : n0 ≤ h0.size) (Ee : Exa Z h0 fe "com/example/tell_nothing/tellnothing/pepa/Expression") (F4 : Fld Z h0 fe "com/example/tell_nothing/tellnothing/pepa/Expression" "pending" "Ljava/util/Deque;" (.ref fd)) (F5 : Fld Z h0 fe "com/example/tell_nothing/tellnothing/pepa/Expression" "openParentheses" "I" (.int fk)) (Ge : n0 ≤ fe) (Ed : Exa Z h0 fd "java/util/ArrayDeque") (F1 : Fld Z h0 fd "java/util/ArrayDeque" "elements" "[Ljava/lang/Object;" (.ref fb)) (F2 : Fld Z h0 fd "java/util/ArrayDeque" "head" "I" (.int fh)) (F3 : Fld Z h0 fd "java/util/ArrayDeque" "tail" "I" (.int (0 : Int32))) (Vb : Ao Z h0 fb "java/lang/Object" 17 ff) (Gd : n0 ≤ fd) (Gb : n0 ≤ fb) (q0 : 0 ≤ (fdec fh (17 : Int32)).toInt) (q1 : (fdec fh (17 : Int32)).toInt < 17) (q2 : ¬ ((fdec fh (17 : Int32)) = (0 : Int32)))  :
    MetFree l (⟨"com/example/tell_nothing/tellnothing/pepa/Expression", "open", "()V"⟩ : MethodName) (head1 (Jvm.Cond.code (⟨"com/example/tell_nothing/tellnothing/pepa/Expression", "open", "()V"⟩ : MethodName) prog_33_method_6_code 1 none :: ws) ({ frames := 3, cells := 1, slots := 2, locals := 42 } : Room)) (fun a U => a = #[(.ref fe)] ∧ Z.Warmed39 U.vm ∧ U.heap = h0) (fun _ _ _ _ _ => True) (fun _ U o U' => ∃ v L, o = .returned v ∧ Q16 Z fe fd fb fk fh ff h0 n0 v U'.heap L ∧ FrameEnd U o U' L ({ frames := 3, cells := 1, slots := 2, locals := 42 } : Room).cells ({ frames := 3, cells := 1, slots := 2, locals := 42 } : Room).slots) := by
  refine MetFree.of_bodySF (plainFor_of_name pn_com_example_tell_nothing_tellnothing_pepa_Expression) hisR ?_
  intro p e s m args0 below meth c s₁ Bd hml0 hP hK
  obtain ⟨rfl, hZ, hh⟩ := hP
  have hx := Bd.exec
  have hby := Bd.bytes
  have hml : c.maxLocals = 1 := hml0
  have hown : s.vm.findClass "com/example/tell_nothing/tellnothing/pepa/Expression" = some m.cls := findClass_of_methodNamed Bd.named
  have hnm := (name_of_methodNamed Bd.named Bd.method).1
  have X0 : Stand p l e ({ frames := 3, cells := 1, slots := 2, locals := 42 } : Room) s m #[(.ref fe)] below meth c s₁ [] 0 0 := Stand.of_body Bd
  have e0 : s₁.heap = h0 := by rw [← hh, Bd.state]; rfl
  have N0 := Fr.nil n0
  have pre0 : ∀ t, Steps p.tables e below (s₁.setTop (mkF m 0 #[.val (.ref fe)] [])) t → Steps p.tables e below (s₁.setTop (entryFrame m #[(.ref fe)] 1)) t := fun t kk_ => castTop (ef_16 m fe) kk_
  have neD : fd ≠ fb := ne_ao Ed (hw _ (List.mem_of_getElem? (i := 10) rfl)) Vb
  have neE : fe ≠ fd := ne_exa Ee Ed (by decide)
  have neF : fe ≠ fb := ne_ao Ee (hw _ (List.mem_of_getElem? (i := 1) rfl)) Vb
  have s202 : ∀ t, Steps p.tables e below (s₁.setTop (mkF m 1 #[.val (.ref fe)] [(.ref fe)])) t → Steps p.tables e below (s₁.setTop (mkF m 0 #[.val (.ref fe)] [])) t := by
    intro t kt
    refine XS.aloadN X0.here hx rfl (hb hby d16_0) rfl rfl ?_
    exact kt
  obtain ⟨T203, X203, e203, st203⟩ := getF X0 hx hZ hown (host := "") (Or.inl (hw _ (List.mem_of_getElem? (i := 28) rfl))) Via.refl e0 F4 (g := (mkF m 1 #[.val (.ref fe)] [(.ref fe)])) rfl rfl (hb hby d16_1)
  obtain ⟨T204, h204, X204, e204, E204, A204, D204, -, st204⟩ := newO X203 hx hZ hown (hw _ (List.mem_of_getElem? (i := 51) rfl)) (hw _ (List.mem_of_getElem? (i := 52) rfl)) (hw _ (List.mem_of_getElem? (i := 53) rfl)) e203 (g := (mkF m 4 #[.val (.ref fe)] [(.ref fd)])) rfl (hb hby d16_4) (by decide) (by decide)
  obtain ⟨b204, g204⟩ : ∃ z, z = h0.size := ⟨_, rfl⟩
  rw [← g204] at A204 D204 st204
  have ne205 : fd ≠ b204 := Nat.ne_of_lt (Nat.lt_of_lt_of_le Ed.lt (Nat.le_of_eq g204.symm))
  have ne206 : fb ≠ b204 := Nat.ne_of_lt (Nat.lt_of_lt_of_le Vb.lt (Nat.le_of_eq g204.symm))
  have ne207 : fe ≠ b204 := Nat.ne_of_lt (Nat.lt_of_lt_of_le Ee.lt (Nat.le_of_eq g204.symm))
  have gn204 : n0 ≤ b204 := Nat.le_trans Z0 (Nat.le_of_eq g204.symm)
  have sz204 : h0.size ≤ b204 := Nat.le_trans (Keep.refl h0 [fe, fd, fb]).1 (Nat.le_of_eq g204.symm)
  have Zs204 : n0 ≤ h204.size := Nat.le_trans Z0 E204.1
  have fE208 := Ed.ext E204
  have fF209 := F1.ext E204
  have fF210 := F2.ext E204
  have fF211 := F3.ext E204
  have fV212 := Vb.ext E204
  have fE213 := Ee.ext E204
  have fF214 := F4.ext E204
  have fF215 := F5.ext E204
  have K204 : Keep h0 h204 [fe, fd, fb] := (Keep.refl h0 [fe, fd, fb]).ext E204
  have fF216 : Fld Z h204 b204 "com/example/tell_nothing/tellnothing/pepa/Expression$Pending" "operator" "Lcom/example/tell_nothing/tellnothing/pepa/Expression$Operator;" .null := D204 (Or.inr (hw _ (List.mem_of_getElem? (i := 59) rfl))) (ty := (.object "com/example/tell_nothing/tellnothing/pepa/Expression$Operator")) (by decide)
  have fF217 : Fld Z h204 b204 "com/example/tell_nothing/tellnothing/pepa/Expression$Pending" "arity" "I" (.int (0 : Int32)) := D204 (Or.inr (hw _ (List.mem_of_getElem? (i := 61) rfl))) (ty := .int) (by decide)
  have s218 : ∀ t, Steps p.tables e below (T204.setTop (mkF m 10 #[.val (.ref fe)] [(.int (0 : Int32)), .null, (.ref b204), (.ref b204), (.ref fd)])) t → Steps p.tables e below (T204.setTop (mkF m 7 #[.val (.ref fe)] [(.ref b204), (.ref fd)])) t := by
    intro t kt
    refine XS.dup X204.here hx rfl (hb hby d16_7) rfl rfl ?_
    show Steps p.tables e below (T204.setTop (mkF m 8 #[.val (.ref fe)] [(.ref b204), (.ref b204), (.ref fd)])) t
    refine XS.aconstNull X204.here hx rfl (hb hby d16_8) ?_
    show Steps p.tables e below (T204.setTop (mkF m 9 #[.val (.ref fe)] [.null, (.ref b204), (.ref b204), (.ref fd)])) t
    refine XS.iconst X204.here hx rfl (hb hby d16_9) ?_
    exact kt
  obtain ⟨_, _, ⟨T219, L219, k219, n219⟩, -, X219, ⟨Lc219, hQ219, l219, y219, z219⟩, st219⟩ := X204.specialBack hx (y := (⟨"com/example/tell_nothing/tellnothing/pepa/Expression$Pending", "<init>", "(Lcom/example/tell_nothing/tellnothing/pepa/Expression$Operator;I)V"⟩ : MethodName)) rfl hown (mvT hZ (hw _ (List.mem_of_getElem? (i := 54) rfl))) (mvT hZ (hw _ (List.mem_of_getElem? (i := 55) rfl))) (mvT hZ (hw _ (List.mem_of_getElem? (i := 56) rfl))) (by decide) (backOf (W := 2) (rm5 l Z a0 hw [] b204 (0 : Int32) h204 n0 Zs204 A204 fF216 fF217 gn204) hZ (hw _ (List.mem_of_getElem? (i := 56) rfl)) (hw _ (List.mem_of_getElem? (i := 53) rfl)) (by decide) (by decide)) (g := (mkF m 10 #[.val (.ref fe)] [(.int (0 : Int32)), .null, (.ref b204), (.ref b204), (.ref fd)])) rfl (by rw [hml]; rfl) (Steps.refl _) (a := b204) (argsL := [.null, (.int (0 : Int32))]) (rest := [(.ref b204), (.ref fd)]) (lenOf pd_oLcom_example_tell_nothing_tellnothing_pepa_ExpressiondOperatorsIcV rfl) rfl (by show 2 * 0 + _ ≤ _; exact Nat.le_of_eq rfl) (hb hby d16_10) (fun _ _ => ⟨rfl, e204, (by decide : 1 + 0 ≤ _), (by decide : 2 + 0 ≤ _)⟩)
  dsimp only [Pt.U, Pt.locs, Pt.cells, Pt.slots] at X219 l219 y219 z219 st219 hQ219
  subst l219 y219 z219
  obtain ⟨rfl, N219q, Kc219, fE220, fF221⟩ := hQ219
  have N219 := Fr.app N0 N219q
  have Zs219 : n0 ≤ T219.heap.size := Nat.le_trans Zs204 Kc219.1
  have fE222 := fE208.keep Kc219
  have fF223 := fF209.keep Kc219 (ninS ne205 nin0)
  have fF224 := fF210.keep Kc219 (ninS ne205 nin0)
  have fF225 := fF211.keep Kc219 (ninS ne205 nin0)
  have fV226 := fV212.keep Kc219 (ninS ne206 nin0)
  have fE227 := fE213.keep Kc219
  have fF228 := fF214.keep Kc219 (ninS ne207 nin0)
  have fF229 := fF215.keep Kc219 (ninS ne207 nin0)
  have K219 : Keep h0 T219.heap [fe, fd, fb] := K204.trans Kc219 (allS (Or.inr sz204) all0)
  obtain ⟨cq230, kq230, qa230, qb230, qc230⟩ := isOf hZ rfl fE222
  obtain ⟨_, _, ⟨T230, L230, k230, n230⟩, -, X230, ⟨Lc230, hQ230, l230, y230, z230⟩, st230⟩ := X219.interfaceBack hx (xi := (⟨"java/util/Deque", "push", "(Ljava/lang/Object;)V"⟩ : MethodName)) (y := (⟨"java/util/ArrayDeque", "push", "(Ljava/lang/Object;)V"⟩ : MethodName)) hown (mvT hZ (hw _ (List.mem_of_getElem? (i := 62) rfl))) (mvT hZ (hw _ (List.mem_of_getElem? (i := 63) rfl))) (mvT hZ (hw _ (List.mem_of_getElem? (i := 64) rfl))) (mvT hZ (hw _ (List.mem_of_getElem? (i := 65) rfl))) (mvT hZ (hw _ (List.mem_of_getElem? (i := 66) rfl))) (mvT hZ (hw _ (List.mem_of_getElem? (i := 67) rfl))) (mvT hZ (hw _ (List.mem_of_getElem? (i := 68) rfl))) (mvT hZ (hw _ (List.mem_of_getElem? (i := 69) rfl))) (by decide) (backOf (W := 0) (rm9 l Z a0 hw [] fd fb b204 fh ff T219.heap n0 Zs219 fE222 fF223 fF224 fF225 fV226 Gd Gb (Ins.of_exa fE220 (hw _ (List.mem_of_getElem? (i := 81) rfl))) q0 q1 q2) hZ (hw _ (List.mem_of_getElem? (i := 70) rfl)) (hw _ (List.mem_of_getElem? (i := 11) rfl)) (by decide) (by decide)) qa230 qb230 qc230 (g := (mkF m 13 #[.val (.ref fe)] [(.ref b204), (.ref fd)])) rfl (by rw [hml]; rfl) (Steps.refl _) (argsL := [(.ref b204)]) (rest := []) (lenOf pd_oLjava_lang_ObjectscV rfl) rfl (by show 2 * 0 + _ ≤ _; exact Nat.le_of_eq rfl) (hb hby d16_13) (fun _ _ => ⟨rfl, rfl, (by decide : 1 + 0 ≤ _), (by decide : 2 + 0 ≤ _)⟩)
  dsimp only [Pt.U, Pt.locs, Pt.cells, Pt.slots] at X230 l230 y230 z230 st230 hQ230
  subst l230 y230 z230
  obtain ⟨rfl, N230q, Kc230, fE231, fF232, fF233, fF234, fV235⟩ := hQ230
  have N230 := Fr.app N219 N230q
  have Zs230 : n0 ≤ T230.heap.size := Nat.le_trans Zs219 Kc230.1
  have fE236 := fE227.keep Kc230
  have fF237 := fF228.keep Kc230 (ninS neE (ninS neF nin0))
  have fF238 := fF229.keep Kc230 (ninS neE (ninS neF nin0))
  have fE239 := fE220.keep Kc230
  have fF240 := fF221.keep Kc230 (ninS (Ne.symm ne205) (ninS (Ne.symm ne206) nin0))
  have K230 : Keep h0 T230.heap [fe, fd, fb] := K219.trans Kc230 (allS (Or.inl (List.mem_of_getElem? (i := 1) rfl)) (allS (Or.inl (List.mem_of_getElem? (i := 2) rfl)) all0))
  have s241 : ∀ t, Steps p.tables e below (T230.setTop (mkF m 20 #[.val (.ref fe)] [(.ref fe), (.ref fe)])) t → Steps p.tables e below (T230.setTop (mkF m 18 #[.val (.ref fe)] [])) t := by
    intro t kt
    refine XS.aloadN X230.here hx rfl (hb hby d16_18) rfl rfl ?_
    show Steps p.tables e below (T230.setTop (mkF m 19 #[.val (.ref fe)] [(.ref fe)])) t
    refine XS.dup X230.here hx rfl (hb hby d16_19) rfl rfl ?_
    exact kt
  obtain ⟨T242, X242, e242, st242⟩ := getF X230 hx hZ hown (host := "") (Or.inl (hw _ (List.mem_of_getElem? (i := 35) rfl))) Via.refl rfl fF238 (g := (mkF m 20 #[.val (.ref fe)] [(.ref fe), (.ref fe)])) rfl rfl (hb hby d16_20)
  have s243 : ∀ t, Steps p.tables e below (T242.setTop (mkF m 25 #[.val (.ref fe)] [(.int (fk + (1 : Int32))), (.ref fe)])) t → Steps p.tables e below (T242.setTop (mkF m 23 #[.val (.ref fe)] [(.int fk), (.ref fe)])) t := by
    intro t kt
    refine XS.iconst X242.here hx rfl (hb hby d16_23) ?_
    show Steps p.tables e below (T242.setTop (mkF m 24 #[.val (.ref fe)] [(.int (1 : Int32)), (.int fk), (.ref fe)])) t
    refine XS.iadd X242.here hx rfl (hb hby d16_24) rfl ?_
    exact kt
  obtain ⟨T244, h244, X244, e244, W244, st244⟩ := putF X242 hx hZ hown (host := "") (Or.inl (hw _ (List.mem_of_getElem? (i := 35) rfl))) Via.refl e242 fF238 fE236 (Or.inl (hw _ (List.mem_of_getElem? (i := 36) rfl))) (hw _ (List.mem_of_getElem? (i := 1) rfl)) (ty := .int) (by decide) rfl rfl (g := (mkF m 25 #[.val (.ref fe)] [(.int (fk + (1 : Int32))), (.ref fe)])) rfl rfl (hb hby d16_25)
  have Zs244 : n0 ≤ h244.size := Nat.le_trans Zs230 (Keep.of_wr W244).1
  have fE245 := fE236.wr W244
  have fF246 := fF237.other W244 (Or.inr (slot_ne (Or.inr (hw _ (List.mem_of_getElem? (i := 29) rfl))) (Or.inl (hw _ (List.mem_of_getElem? (i := 36) rfl))) (by decide) (t := (.object "java/util/Deque")) (t' := .int) (by decide) (by decide)))
  have fF247 := fF238.same W244
  have fE248 := fE239.wr W244
  have fF249 := fF240.other W244 (Or.inl (Ne.symm ne207))
  have fE250 := fE231.wr W244
  have fF251 := fF232.other W244 (Or.inl (Ne.symm neE))
  have fF252 := fF233.other W244 (Or.inl (Ne.symm neE))
  have fF253 := fF234.other W244 (Or.inl (Ne.symm neE))
  have fV254 := fV235.other W244 (Ne.symm neF)
  have K244 : Keep h0 h244 [fe, fd, fb] := K230.wr W244 (Or.inl (List.mem_of_getElem? (i := 0) rfl))
  have N244 := Fr.snoc X244 N230 Ge
  obtain ⟨fs_, hr, hrun, hended, hW, hsame⟩ := X244.leave (hlocks := BodyLoose.notSynchronized Bd) (v := none) (fun _ => rfl)
  refine ⟨_, _, pre0 _ (s202 _ (st203 _ (st204 _ (s218 _ (st219.trans (st230.trans (s241 _ (st242 _ (s243 _ (st244 _ (?_))))))))))), hrun, hended, _, _, rfl, ?_, ⟨_, rfl⟩, hW, hsame.mono (by decide) (by decide)⟩
  · show Steps p.tables e below (T244.setTop (mkF m 28 #[.val (.ref fe)] [])) _
    exact X244.returnOut hx Bd.returns (hb hby d16_28) hr
  · show Q16 Z fe fd fb fk fh ff h0 n0 _ T244.heap _
    rw [e244]
    exact ⟨rfl, N244, K244, fE245, fF246, fF247, ⟨b204, fE248, fF249, fE250, fF251, fF252, fF253, fV254⟩⟩
def Q17 (Z : State) (fe fd fb : Addr) (fk fh : Int32) (ff : Nat → Value) (fx : Addr) (h0 : Heap) (n0 : Nat) (v : Option Value) (h : Heap) (L : List Loc) : Prop := v = some (.int 1) ∧ Fr n0 L ∧ Keep h0 h [fe, fd, fb] ∧ Exa Z h fe "com/example/tell_nothing/tellnothing/pepa/Expression" ∧ Fld Z h fe "com/example/tell_nothing/tellnothing/pepa/Expression" "pending" "Ljava/util/Deque;" (.ref fd) ∧ Fld Z h fe "com/example/tell_nothing/tellnothing/pepa/Expression" "openParentheses" "I" (.int (fk - (1 : Int32))) ∧ Exa Z h fd "java/util/ArrayDeque" ∧ Fld Z h fd "java/util/ArrayDeque" "elements" "[Ljava/lang/Object;" (.ref fb) ∧ Fld Z h fd "java/util/ArrayDeque" "head" "I" (.int (finc fh (17 : Int32))) ∧ Fld Z h fd "java/util/ArrayDeque" "tail" "I" (.int (0 : Int32)) ∧ Ao Z h fb "java/lang/Object" 17 (fun i => if i = fh.toInt.toNat then .null else ff i)
set_option maxRecDepth 65536 in
set_option maxHeartbeats 40000000 in
theorem rm17 (l : Launch) (Z : State) (a0 : Array Value) (hw : ∀ d ∈ tables_1, d.before a0 Z = true) (ws : List Jvm.Cond) (fe fd fb : Addr) (fk fh : Int32) (ff : Nat → Value) (fx : Addr) (h0 : Heap) (n0 : Nat) (Z0 : n0 ≤ h0.size) (Ee : Exa Z h0 fe "com/example/tell_nothing/tellnothing/pepa/Expression") (F4 : Fld Z h0 fe "com/example/tell_nothing/tellnothing/pepa/Expression" "pending" "Ljava/util/Deque;" (.ref fd)) (F5 : Fld Z h0 fe "com/example/tell_nothing/tellnothing/pepa/Expression" "openParentheses" "I" (.int fk)) (Ge : n0 ≤ fe) (Ed : Exa Z h0 fd "java/util/ArrayDeque") (F1 : Fld Z h0 fd "java/util/ArrayDeque" "elements" "[Ljava/lang/Object;" (.ref fb)) (F2 : Fld Z h0 fd "java/util/ArrayDeque" "head" "I" (.int fh)) (F3 : Fld Z h0 fd "java/util/ArrayDeque" "tail" "I" (.int (0 : Int32))) (Vb : Ao Z h0 fb "java/lang/Object" 17 ff) (Gd : n0 ≤ fd) (Gb : n0 ≤ fb) (q0 : 0 ≤ fh.toInt) (q1 : fh.toInt < 17) (hv : ff fh.toInt.toNat = .ref fx) (Ex : Exa Z h0 fx "com/example/tell_nothing/tellnothing/pepa/Expression$Pending") (F6 : Fld Z h0 fx "com/example/tell_nothing/tellnothing/pepa/Expression$Pending" "operator" "Lcom/example/tell_nothing/tellnothing/pepa/Expression$Operator;" .null) (hk0 : ¬ (fk = (0 : Int32))) :
    MetFree l (⟨"com/example/tell_nothing/tellnothing/pepa/Expression", "close", "()Z"⟩ : MethodName) (head1 (Jvm.Cond.code (⟨"com/example/tell_nothing/tellnothing/pepa/Expression", "close", "()Z"⟩ : MethodName) prog_33_method_7_code 1 (some .boolean) :: ws) ({ frames := 4, cells := 0, slots := 0, locals := 54 } : Room)) (fun a U => a = #[(.ref fe)] ∧ Z.Warmed39 U.vm ∧ U.heap = h0) (fun _ _ _ _ _ => True) (fun _ U o U' => ∃ v L, o = .returned v ∧ Q17 Z fe fd fb fk fh ff fx h0 n0 v U'.heap L ∧ FrameEnd U o U' L ({ frames := 4, cells := 0, slots := 0, locals := 54 } : Room).cells ({ frames := 4, cells := 0, slots := 0, locals := 54 } : Room).slots) := by
  refine MetFree.of_bodySF (plainFor_of_name pn_com_example_tell_nothing_tellnothing_pepa_Expression) hisR ?_
  intro p e s m args0 below meth c s₁ Bd hml0 hP hK
  obtain ⟨rfl, hZ, hh⟩ := hP
  have hx := Bd.exec
  have hby := Bd.bytes
  have hml : c.maxLocals = 1 := hml0
  have hown : s.vm.findClass "com/example/tell_nothing/tellnothing/pepa/Expression" = some m.cls := findClass_of_methodNamed Bd.named
  have hnm := (name_of_methodNamed Bd.named Bd.method).1
  have X0 : Stand p l e ({ frames := 4, cells := 0, slots := 0, locals := 54 } : Room) s m #[(.ref fe)] below meth c s₁ [] 0 0 := Stand.of_body Bd
  have e0 : s₁.heap = h0 := by rw [← hh, Bd.state]; rfl
  have N0 := Fr.nil n0
  have pre0 : ∀ t, Steps p.tables e below (s₁.setTop (mkF m 0 #[.val (.ref fe)] [])) t → Steps p.tables e below (s₁.setTop (entryFrame m #[(.ref fe)] 1)) t := fun t kk_ => castTop (ef_17 m fe) kk_
  have neD : fd ≠ fb := ne_ao Ed (hw _ (List.mem_of_getElem? (i := 10) rfl)) Vb
  have neE : fe ≠ fd := ne_exa Ee Ed (by decide)
  have neF : fe ≠ fb := ne_ao Ee (hw _ (List.mem_of_getElem? (i := 1) rfl)) Vb
  have s255 : ∀ t, Steps p.tables e below (s₁.setTop (mkF m 1 #[.val (.ref fe)] [(.ref fe)])) t → Steps p.tables e below (s₁.setTop (mkF m 0 #[.val (.ref fe)] [])) t := by
    intro t kt
    refine XS.aloadN X0.here hx rfl (hb hby d17_0) rfl rfl ?_
    exact kt
  obtain ⟨T256, X256, e256, st256⟩ := getF X0 hx hZ hown (host := "") (Or.inl (hw _ (List.mem_of_getElem? (i := 35) rfl))) Via.refl e0 F5 (g := (mkF m 1 #[.val (.ref fe)] [(.ref fe)])) rfl rfl (hb hby d17_1)
  have s257 : ∀ t, Steps p.tables e below (T256.setTop (mkF m 10 #[.val (.ref fe)] [(.ref fe)])) t → Steps p.tables e below (T256.setTop (mkF m 4 #[.val (.ref fe)] [(.int fk)])) t := by
    intro t kt
    refine XS.ifYes X256.here hx rfl (pc0 := 4) (pc' := 9) rfl (hb hby d17_4) rfl ((if0 _ _).trans (feq hk0).2) (by decide) (by decide) ?_
    show Steps p.tables e below (T256.setTop (mkF m 9 #[.val (.ref fe)] [])) t
    refine XS.aloadN X256.here hx rfl (hb hby d17_9) rfl rfl ?_
    exact kt
  obtain ⟨T258, X258, e258, st258⟩ := getF X256 hx hZ hown (host := "") (Or.inl (hw _ (List.mem_of_getElem? (i := 28) rfl))) Via.refl e256 F4 (g := (mkF m 10 #[.val (.ref fe)] [(.ref fe)])) rfl rfl (hb hby d17_10)
  obtain ⟨cq259, kq259, qa259, qb259, qc259⟩ := isOf hZ e258 Ed
  obtain ⟨_, _, ⟨T259, L259, k259, n259⟩, -, X259, ⟨Lc259, hQ259, l259, y259, z259⟩, st259⟩ := X258.interfaceBack hx (xi := (⟨"java/util/Deque", "peek", "()Ljava/lang/Object;"⟩ : MethodName)) (y := (⟨"java/util/ArrayDeque", "peek", "()Ljava/lang/Object;"⟩ : MethodName)) hown (mvT hZ (hw _ (List.mem_of_getElem? (i := 84) rfl))) (mvT hZ (hw _ (List.mem_of_getElem? (i := 85) rfl))) (mvT hZ (hw _ (List.mem_of_getElem? (i := 86) rfl))) (mvT hZ (hw _ (List.mem_of_getElem? (i := 87) rfl))) (mvT hZ (hw _ (List.mem_of_getElem? (i := 88) rfl))) (mvT hZ (hw _ (List.mem_of_getElem? (i := 89) rfl))) (mvT hZ (hw _ (List.mem_of_getElem? (i := 90) rfl))) (mvT hZ (hw _ (List.mem_of_getElem? (i := 69) rfl))) (by decide) (backOf (W := 0) (rm12 l Z a0 hw [] fd fb fx fh ff h0 n0 Z0 Ed F1 F2 F3 Vb Gd Gb q0 q1 hv) hZ (hw _ (List.mem_of_getElem? (i := 91) rfl)) (hw _ (List.mem_of_getElem? (i := 11) rfl)) (by decide) (by decide)) qa259 qb259 qc259 (g := (mkF m 13 #[.val (.ref fe)] [(.ref fd)])) rfl (by rw [hml]; rfl) (Steps.refl _) (argsL := []) (rest := []) (lenOf pd_ocLjava_lang_Objects rfl) rfl (by show 2 * 0 + _ ≤ _; exact Nat.le_of_eq rfl) (hb hby d17_13) (fun _ _ => ⟨rfl, e258, (by decide : 0 + 0 ≤ _), (by decide : 0 + 0 ≤ _)⟩)
  dsimp only [Pt.U, Pt.locs, Pt.cells, Pt.slots] at X259 l259 y259 z259 st259 hQ259
  subst l259 y259 z259
  obtain ⟨rfl, N259q, e259q⟩ := hQ259
  have N259 := Fr.app N0 N259q
  obtain ⟨T260, X260, e260, st260⟩ := castY X259 hx hZ hown (hw _ (List.mem_of_getElem? (i := 51) rfl)) e259q (Ins.self Ex) (g := (mkF m 18 #[.val (.ref fe)] [(.ref fx)])) rfl rfl (hb hby d17_18)
  have s261 : ∀ t, Steps p.tables e below (T260.setTop (mkF m 35 #[.val (.ref fe)] [(.ref fe)])) t → Steps p.tables e below (T260.setTop (mkF m 21 #[.val (.ref fe)] [(.ref fx)])) t := by
    intro t kt
    refine OwnKit.getFR X260 hx hZ hown (hw _ (List.mem_of_getElem? (i := 101) rfl)) e260 F6 (g := (mkF m 21 #[.val (.ref fe)] [(.ref fx)])) rfl rfl (hb hby d17_21) _ ?_
    show Steps p.tables e below (T260.setTop (mkF m 24 #[.val (.ref fe)] [.null])) t
    refine XS.ifnullYes X260.here hx rfl (pc0 := 24) (pc' := 34) rfl (hb hby d17_24) rfl (by decide) (by decide) ?_
    show Steps p.tables e below (T260.setTop (mkF m 34 #[.val (.ref fe)] [])) t
    refine XS.aloadN X260.here hx rfl (hb hby d17_34) rfl rfl ?_
    exact kt
  obtain ⟨T262, X262, e262, st262⟩ := getF X260 hx hZ hown (host := "") (Or.inl (hw _ (List.mem_of_getElem? (i := 28) rfl))) Via.refl e260 F4 (g := (mkF m 35 #[.val (.ref fe)] [(.ref fe)])) rfl rfl (hb hby d17_35)
  obtain ⟨cq263, kq263, qa263, qb263, qc263⟩ := isOf hZ e262 Ed
  obtain ⟨_, _, ⟨T263, L263, k263, n263⟩, -, X263, ⟨Lc263, hQ263, l263, y263, z263⟩, st263⟩ := X262.interfaceBack hx (xi := (⟨"java/util/Deque", "pop", "()Ljava/lang/Object;"⟩ : MethodName)) (y := (⟨"java/util/ArrayDeque", "pop", "()Ljava/lang/Object;"⟩ : MethodName)) hown (mvT hZ (hw _ (List.mem_of_getElem? (i := 102) rfl))) (mvT hZ (hw _ (List.mem_of_getElem? (i := 103) rfl))) (mvT hZ (hw _ (List.mem_of_getElem? (i := 104) rfl))) (mvT hZ (hw _ (List.mem_of_getElem? (i := 105) rfl))) (mvT hZ (hw _ (List.mem_of_getElem? (i := 106) rfl))) (mvT hZ (hw _ (List.mem_of_getElem? (i := 107) rfl))) (mvT hZ (hw _ (List.mem_of_getElem? (i := 108) rfl))) (mvT hZ (hw _ (List.mem_of_getElem? (i := 69) rfl))) (by decide) (backOf (W := 0) (rm15 l Z a0 hw [] fd fb fx fh ff h0 n0 Z0 Ed F1 F2 F3 Vb Gd Gb q0 q1 hv) hZ (hw _ (List.mem_of_getElem? (i := 109) rfl)) (hw _ (List.mem_of_getElem? (i := 11) rfl)) (by decide) (by decide)) qa263 qb263 qc263 (g := (mkF m 38 #[.val (.ref fe)] [(.ref fd)])) rfl (by rw [hml]; rfl) (Steps.refl _) (argsL := []) (rest := []) (lenOf pd_ocLjava_lang_Objects rfl) rfl (by show 2 * 0 + _ ≤ _; exact Nat.le_of_eq rfl) (hb hby d17_38) (fun _ _ => ⟨rfl, e262, (by decide : 0 + 0 ≤ _), (by decide : 0 + 0 ≤ _)⟩)
  dsimp only [Pt.U, Pt.locs, Pt.cells, Pt.slots] at X263 l263 y263 z263 st263 hQ263
  subst l263 y263 z263
  obtain ⟨rfl, N263q, Kc263, fE264, fF265, fF266, fF267, fV268⟩ := hQ263
  have N263 := Fr.app N259 N263q
  have Zs263 : n0 ≤ T263.heap.size := Nat.le_trans Z0 Kc263.1
  have fE269 := Ee.keep Kc263
  have fF270 := F4.keep Kc263 (ninS neE (ninS neF nin0))
  have fF271 := F5.keep Kc263 (ninS neE (ninS neF nin0))
  have K263 : Keep h0 T263.heap [fe, fd, fb] := (Keep.refl h0 [fe, fd, fb]).trans Kc263 (allS (Or.inl (List.mem_of_getElem? (i := 1) rfl)) (allS (Or.inl (List.mem_of_getElem? (i := 2) rfl)) all0))
  have s272 : ∀ t, Steps p.tables e below (T263.setTop (mkF m 46 #[.val (.ref fe)] [(.ref fe), (.ref fe)])) t → Steps p.tables e below (T263.setTop (mkF m 43 #[.val (.ref fe)] [(.ref fx)])) t := by
    intro t kt
    refine XS.pop X263.here hx rfl (hb hby d17_43) rfl rfl ?_
    show Steps p.tables e below (T263.setTop (mkF m 44 #[.val (.ref fe)] [])) t
    refine XS.aloadN X263.here hx rfl (hb hby d17_44) rfl rfl ?_
    show Steps p.tables e below (T263.setTop (mkF m 45 #[.val (.ref fe)] [(.ref fe)])) t
    refine XS.dup X263.here hx rfl (hb hby d17_45) rfl rfl ?_
    exact kt
  obtain ⟨T273, X273, e273, st273⟩ := getF X263 hx hZ hown (host := "") (Or.inl (hw _ (List.mem_of_getElem? (i := 35) rfl))) Via.refl rfl fF271 (g := (mkF m 46 #[.val (.ref fe)] [(.ref fe), (.ref fe)])) rfl rfl (hb hby d17_46)
  have s274 : ∀ t, Steps p.tables e below (T273.setTop (mkF m 51 #[.val (.ref fe)] [(.int (fk - (1 : Int32))), (.ref fe)])) t → Steps p.tables e below (T273.setTop (mkF m 49 #[.val (.ref fe)] [(.int fk), (.ref fe)])) t := by
    intro t kt
    refine XS.iconst X273.here hx rfl (hb hby d17_49) ?_
    show Steps p.tables e below (T273.setTop (mkF m 50 #[.val (.ref fe)] [(.int (1 : Int32)), (.int fk), (.ref fe)])) t
    refine XS.isub X273.here hx rfl (hb hby d17_50) rfl ?_
    exact kt
  obtain ⟨T275, h275, X275, e275, W275, st275⟩ := putF X273 hx hZ hown (host := "") (Or.inl (hw _ (List.mem_of_getElem? (i := 35) rfl))) Via.refl e273 fF271 fE269 (Or.inl (hw _ (List.mem_of_getElem? (i := 36) rfl))) (hw _ (List.mem_of_getElem? (i := 1) rfl)) (ty := .int) (by decide) rfl rfl (g := (mkF m 51 #[.val (.ref fe)] [(.int (fk - (1 : Int32))), (.ref fe)])) rfl rfl (hb hby d17_51)
  have Zs275 : n0 ≤ h275.size := Nat.le_trans Zs263 (Keep.of_wr W275).1
  have fE276 := fE269.wr W275
  have fF277 := fF270.other W275 (Or.inr (slot_ne (Or.inr (hw _ (List.mem_of_getElem? (i := 29) rfl))) (Or.inl (hw _ (List.mem_of_getElem? (i := 36) rfl))) (by decide) (t := (.object "java/util/Deque")) (t' := .int) (by decide) (by decide)))
  have fF278 := fF271.same W275
  have fE279 := fE264.wr W275
  have fF280 := fF265.other W275 (Or.inl (Ne.symm neE))
  have fF281 := fF266.other W275 (Or.inl (Ne.symm neE))
  have fF282 := fF267.other W275 (Or.inl (Ne.symm neE))
  have fV283 := fV268.other W275 (Ne.symm neF)
  have K275 : Keep h0 h275 [fe, fd, fb] := K263.wr W275 (Or.inl (List.mem_of_getElem? (i := 0) rfl))
  have N275 := Fr.snoc X275 N263 Ge
  have s284 : ∀ t, Steps p.tables e below (T275.setTop (mkF m 55 #[.val (.ref fe)] [(.int (1 : Int32))])) t → Steps p.tables e below (T275.setTop (mkF m 54 #[.val (.ref fe)] [])) t := by
    intro t kt
    refine XS.iconst X275.here hx rfl (hb hby d17_54) ?_
    exact kt
  obtain ⟨fs_, hr, hrun, hended, hW, hsame⟩ := X275.leave (hlocks := BodyLoose.notSynchronized Bd) (v := some (.int (1 : Int32))) (fun h => by rw [Bd.returns] at h; cases h)
  refine ⟨_, _, pre0 _ (s255 _ (st256 _ (s257 _ (st258 _ (st259.trans (st260 _ (s261 _ (st262 _ (st263.trans (s272 _ (st273 _ (s274 _ (st275 _ (s284 _ (?_))))))))))))))), hrun, hended, _, _, rfl, ?_, ⟨_, rfl⟩, hW, hsame.mono (by decide) (by decide)⟩
  · show Steps p.tables e below (T275.setTop (mkF m 55 #[.val (.ref fe)] [(.int (1 : Int32))])) _
    exact retN X275 hx (t := .boolean) Bd.returns (by simp) (hb hby d17_55) hr
  · show Q17 Z fe fd fb fk fh ff fx h0 n0 _ T275.heap _
    rw [e275]
    exact ⟨rfl, N275, K275, fE276, fF277, fF278, fE279, fF280, fF281, fF282, fV283⟩
def Q18 (Z : State) (fe : Addr) (h0 : Heap) (n0 : Nat) (v : Option Value) (h : Heap) (L : List Loc) : Prop := v = some (.int 0) ∧ Fr n0 L ∧ h = h0
set_option maxRecDepth 65536 in
set_option maxHeartbeats 40000000 in
theorem rm18 (l : Launch) (Z : State) (a0 : Array Value) (hw : ∀ d ∈ tables_1, d.before a0 Z = true) (ws : List Jvm.Cond) (fe : Addr) (h0 : Heap) (n0 : Nat) (Z0 : n0 ≤ h0.size) (F5 : Fld Z h0 fe "com/example/tell_nothing/tellnothing/pepa/Expression" "openParentheses" "I" (.int (0 : Int32))) :
    MetFree l (⟨"com/example/tell_nothing/tellnothing/pepa/Expression", "close", "()Z"⟩ : MethodName) (head1 (Jvm.Cond.code (⟨"com/example/tell_nothing/tellnothing/pepa/Expression", "close", "()Z"⟩ : MethodName) prog_33_method_7_code 1 (some .boolean) :: ws) ({ frames := 0, cells := 0, slots := 0, locals := 0 } : Room)) (fun a U => a = #[(.ref fe)] ∧ Z.Warmed39 U.vm ∧ U.heap = h0) (fun _ _ _ _ _ => True) (fun _ U o U' => ∃ v L, o = .returned v ∧ Q18 Z fe h0 n0 v U'.heap L ∧ FrameEnd U o U' L ({ frames := 0, cells := 0, slots := 0, locals := 0 } : Room).cells ({ frames := 0, cells := 0, slots := 0, locals := 0 } : Room).slots) := by
  refine MetFree.of_bodySF (plainFor_of_name pn_com_example_tell_nothing_tellnothing_pepa_Expression) hisR ?_
  intro p e s m args0 below meth c s₁ Bd hml0 hP hK
  obtain ⟨rfl, hZ, hh⟩ := hP
  have hx := Bd.exec
  have hby := Bd.bytes
  have hml : c.maxLocals = 1 := hml0
  have hown : s.vm.findClass "com/example/tell_nothing/tellnothing/pepa/Expression" = some m.cls := findClass_of_methodNamed Bd.named
  have hnm := (name_of_methodNamed Bd.named Bd.method).1
  have X0 : Stand p l e ({ frames := 0, cells := 0, slots := 0, locals := 0 } : Room) s m #[(.ref fe)] below meth c s₁ [] 0 0 := Stand.of_body Bd
  have e0 : s₁.heap = h0 := by rw [← hh, Bd.state]; rfl
  have N0 := Fr.nil n0
  have pre0 : ∀ t, Steps p.tables e below (s₁.setTop (mkF m 0 #[.val (.ref fe)] [])) t → Steps p.tables e below (s₁.setTop (entryFrame m #[(.ref fe)] 1)) t := fun t kk_ => castTop (ef_18 m fe) kk_
  have s285 : ∀ t, Steps p.tables e below (s₁.setTop (mkF m 1 #[.val (.ref fe)] [(.ref fe)])) t → Steps p.tables e below (s₁.setTop (mkF m 0 #[.val (.ref fe)] [])) t := by
    intro t kt
    refine XS.aloadN X0.here hx rfl (hb hby d18_0) rfl rfl ?_
    exact kt
  obtain ⟨T286, X286, e286, st286⟩ := getF X0 hx hZ hown (host := "") (Or.inl (hw _ (List.mem_of_getElem? (i := 35) rfl))) Via.refl e0 F5 (g := (mkF m 1 #[.val (.ref fe)] [(.ref fe)])) rfl rfl (hb hby d18_1)
  have s287 : ∀ t, Steps p.tables e below (T286.setTop (mkF m 8 #[.val (.ref fe)] [(.int (0 : Int32))])) t → Steps p.tables e below (T286.setTop (mkF m 4 #[.val (.ref fe)] [(.int (0 : Int32))])) t := by
    intro t kt
    refine XS.ifNo X286.here hx rfl (hb hby d18_4) rfl ((if0 _ _).trans (teq rfl).2) ?_
    show Steps p.tables e below (T286.setTop (mkF m 7 #[.val (.ref fe)] [])) t
    refine XS.iconst X286.here hx rfl (hb hby d18_7) ?_
    exact kt
  obtain ⟨fs_, hr, hrun, hended, hW, hsame⟩ := X286.leave (hlocks := BodyLoose.notSynchronized Bd) (v := some (.int (0 : Int32))) (fun h => by rw [Bd.returns] at h; cases h)
  refine ⟨_, _, pre0 _ (s285 _ (st286 _ (s287 _ (?_)))), hrun, hended, _, _, rfl, ?_, ⟨_, rfl⟩, hW, hsame.mono (by decide) (by decide)⟩
  · show Steps p.tables e below (T286.setTop (mkF m 8 #[.val (.ref fe)] [(.int (0 : Int32))])) _
    exact retN X286 hx (t := .boolean) Bd.returns (by simp) (hb hby d18_8) hr
  · show Q18 Z fe h0 n0 _ T286.heap _
    rw [e286]
    exact ⟨rfl, N0, rfl⟩
def Q19 (Z : State) (fe fd fb : Addr) (k : Nat) (ff : Nat → Value) (ft : Int32) (h0 : Heap) (n0 : Nat) (v : Option Value) (h : Heap) (L : List Loc) : Prop := v = some (.int (own_i (own_nx k ft))) ∧ Fr n0 L ∧ Keep h0 h [fe, fd, fb] ∧ Exa Z h fe "com/example/tell_nothing/tellnothing/pepa/Expression" ∧ Fld Z h fe "com/example/tell_nothing/tellnothing/pepa/Expression" "pending" "Ljava/util/Deque;" (.ref fd) ∧ Fld Z h fe "com/example/tell_nothing/tellnothing/pepa/Expression" "openParentheses" "I" (.int (own_i (own_nx k ft))) ∧ ∃ fg : Nat → Value, Exa Z h fd "java/util/ArrayDeque" ∧ Fld Z h fd "java/util/ArrayDeque" "elements" "[Ljava/lang/Object;" (.ref fb) ∧ Fld Z h fd "java/util/ArrayDeque" "head" "I" (.int (own_hd (own_nx k ft))) ∧ Fld Z h fd "java/util/ArrayDeque" "tail" "I" (.int (0 : Int32)) ∧ Ao Z h fb "java/lang/Object" 17 fg ∧ Pend Z h fg (own_nx k ft)
set_option maxRecDepth 65536 in
set_option maxHeartbeats 40000000 in
theorem rm19 (l : Launch) (Z : State) (a0 : Array Value) (hw : ∀ d ∈ tables_1, d.before a0 Z = true) (ws : List Jvm.Cond) (fe fd fb : Addr) (k : Nat) (ff : Nat → Value) (ft : Int32) (h0 : Heap) (n0 : Nat) (Z0 : n0 ≤ h0.size) (Ee : Exa Z h0 fe "com/example/tell_nothing/tellnothing/pepa/Expression") (F4 : Fld Z h0 fe "com/example/tell_nothing/tellnothing/pepa/Expression" "pending" "Ljava/util/Deque;" (.ref fd)) (F5 : Fld Z h0 fe "com/example/tell_nothing/tellnothing/pepa/Expression" "openParentheses" "I" (.int (own_i k))) (Ge : n0 ≤ fe) (Ed : Exa Z h0 fd "java/util/ArrayDeque") (F1 : Fld Z h0 fd "java/util/ArrayDeque" "elements" "[Ljava/lang/Object;" (.ref fb)) (F2 : Fld Z h0 fd "java/util/ArrayDeque" "head" "I" (.int (own_hd k))) (F3 : Fld Z h0 fd "java/util/ArrayDeque" "tail" "I" (.int (0 : Int32))) (Vb : Ao Z h0 fb "java/lang/Object" 17 ff) (Gd : n0 ≤ fd) (Gb : n0 ≤ fb) (P : Pend Z h0 ff k) (hk : k ≤ 3) :
    MetFree l (⟨"com/example/tell_nothing/tellnothing/pepa/ExpressionIsOpenPinLaw", "step", "(Lcom/example/tell_nothing/tellnothing/pepa/Expression;II)I"⟩ : MethodName) (head1 (Jvm.Cond.code (⟨"com/example/tell_nothing/tellnothing/pepa/ExpressionIsOpenPinLaw", "step", "(Lcom/example/tell_nothing/tellnothing/pepa/Expression;II)I"⟩ : MethodName) method_2_code 5 (some .int) :: ws) ({ frames := 5, cells := 1, slots := 2, locals := 66 } : Room)) (fun a U => a = #[(.ref fe), (.int (own_i k)), (.int ft)] ∧ Z.Warmed39 U.vm ∧ U.heap = h0) (fun _ _ _ _ _ => True) (fun _ U o U' => ∃ v L, o = .returned v ∧ Q19 Z fe fd fb k ff ft h0 n0 v U'.heap L ∧ FrameEnd U o U' L ({ frames := 5, cells := 1, slots := 2, locals := 66 } : Room).cells ({ frames := 5, cells := 1, slots := 2, locals := 66 } : Room).slots) := by
  refine MetFree.of_bodySF (plainFor_of_name pn_com_example_tell_nothing_tellnothing_pepa_ExpressionIsOpenPinLaw) hisR ?_
  intro p e s m args0 below meth c s₁ Bd hml0 hP hK
  obtain ⟨rfl, hZ, hh⟩ := hP
  have hx := Bd.exec
  have hby := Bd.bytes
  have hml : c.maxLocals = 5 := hml0
  have hown : s.vm.findClass "com/example/tell_nothing/tellnothing/pepa/ExpressionIsOpenPinLaw" = some m.cls := findClass_of_methodNamed Bd.named
  have hnm := (name_of_methodNamed Bd.named Bd.method).1
  have X0 : Stand p l e ({ frames := 5, cells := 1, slots := 2, locals := 66 } : Room) s m #[(.ref fe), (.int (own_i k)), (.int ft)] below meth c s₁ [] 0 0 := Stand.of_body Bd
  have e0 : s₁.heap = h0 := by rw [← hh, Bd.state]; rfl
  have N0 := Fr.nil n0
  have pre0 : ∀ t, Steps p.tables e below (s₁.setTop (mkF m 0 #[.val (.ref fe), .val (.int (own_i k)), .val (.int ft), .unset, .unset] [])) t → Steps p.tables e below (s₁.setTop (entryFrame m #[(.ref fe), (.int (own_i k)), (.int ft)] 5)) t := fun t kk_ => castTop (ef_19 m fe (own_i k) ft) kk_
  have neD : fd ≠ fb := ne_ao Ed (hw _ (List.mem_of_getElem? (i := 10) rfl)) Vb
  have neE : fe ≠ fd := ne_exa Ee Ed (by decide)
  have neF : fe ≠ fb := ne_ao Ee (hw _ (List.mem_of_getElem? (i := 1) rfl)) Vb
  obtain ⟨q0, q1, q2, qn⟩ := own_q k hk
  have s288 : ∀ t, Steps p.tables e below (s₁.setTop (mkF m 7 #[.val (.ref fe), .val (.int (own_i k)), .val (.int ft), .unset, .unset] [(.int ft)])) t → Steps p.tables e below (s₁.setTop (mkF m 0 #[.val (.ref fe), .val (.int (own_i k)), .val (.int ft), .unset, .unset] [])) t := by
    intro t kt
    refine XS.iloadN X0.here hx rfl (hb hby d19_0) rfl ?_
    show Steps p.tables e below (s₁.setTop (mkF m 1 #[.val (.ref fe), .val (.int (own_i k)), .val (.int ft), .unset, .unset] [(.int (own_i k))])) t
    refine XS.ifYes X0.here hx rfl (pc0 := 1) (pc' := 6) rfl (hb hby d19_1) rfl ((if0 _ _).trans (flt qn).2.1) (by decide) (by decide) ?_
    show Steps p.tables e below (s₁.setTop (mkF m 6 #[.val (.ref fe), .val (.int (own_i k)), .val (.int ft), .unset, .unset] [])) t
    refine XS.iloadN X0.here hx rfl (hb hby d19_6) rfl ?_
    exact kt
  by_cases c289 : ft = (0 : Int32)
  ·
    have s290 : ∀ t, Steps p.tables e below (s₁.setTop (mkF m 21 #[.val (.ref fe), .val (.int (own_i k)), .val (.int ft), .unset, .unset] [])) t → Steps p.tables e below (s₁.setTop (mkF m 7 #[.val (.ref fe), .val (.int (own_i k)), .val (.int ft), .unset, .unset] [(.int ft)])) t := by
      intro t kt
      refine XS.ifYes X0.here hx rfl (pc0 := 7) (pc' := 21) rfl (hb hby d19_7) rfl ((if0 _ _).trans (teq c289).1) (by decide) (by decide) ?_
      exact kt
    have un : (own_nx k ft) = k - 1 := if_pos c289
    by_cases hk0' : k = 0
    ·
      subst hk0'
      have s291 : ∀ t, Steps p.tables e below (s₁.setTop (mkF m 22 #[.val (.ref fe), .val (.int (own_i 0)), .val (.int ft), .unset, .unset] [(.ref fe)])) t → Steps p.tables e below (s₁.setTop (mkF m 21 #[.val (.ref fe), .val (.int (own_i 0)), .val (.int ft), .unset, .unset] [])) t := by
        intro t kt
        refine XS.aloadN X0.here hx rfl (hb hby d19_21) rfl rfl ?_
        exact kt
      obtain ⟨cq292, kq292, qa292, qb292, qc292⟩ := isOf hZ e0 Ee
      obtain ⟨_, _, ⟨T292, L292, k292, n292⟩, -, X292, ⟨Lc292, hQ292, l292, y292, z292⟩, st292⟩ := X0.virtualBack hx (y := (⟨"com/example/tell_nothing/tellnothing/pepa/Expression", "close", "()Z"⟩ : MethodName)) (z := (⟨"com/example/tell_nothing/tellnothing/pepa/Expression", "close", "()Z"⟩ : MethodName)) hown (mvT hZ (hw _ (List.mem_of_getElem? (i := 41) rfl))) (mvT hZ (hw _ (List.mem_of_getElem? (i := 42) rfl))) (notFace_of_selects (args := #[]) (mvT hZ (hw _ (List.mem_of_getElem? (i := 44) rfl)))) (mvT hZ (hw _ (List.mem_of_getElem? (i := 44) rfl))) (mvT hZ (hw _ (List.mem_of_getElem? (i := 43) rfl))) (by decide) (backOf (W := 0) (rm18 l Z a0 hw [] fe h0 n0 Z0 F5) hZ (hw _ (List.mem_of_getElem? (i := 45) rfl)) (hw _ (List.mem_of_getElem? (i := 2) rfl)) (by decide) (by decide)) qa292 qc292 (g := (mkF m 22 #[.val (.ref fe), .val (.int (own_i 0)), .val (.int ft), .unset, .unset] [(.ref fe)])) rfl (by rw [hml]; rfl) (Steps.refl _) (argsL := []) (rest := []) (lenOf pd_ocZ rfl) rfl (by show 2 * 0 + _ ≤ _; exact Nat.le_of_eq rfl) (hb hby d19_22) (fun _ _ => ⟨rfl, e0, (by decide : 0 + 0 ≤ _), (by decide : 0 + 0 ≤ _)⟩)
      dsimp only [Pt.U, Pt.locs, Pt.cells, Pt.slots] at X292 l292 y292 z292 st292 hQ292
      subst l292 y292 z292
      obtain ⟨rfl, N292q, e292q⟩ := hQ292
      have N292 := Fr.app N0 N292q
      have s293 : ∀ t, Steps p.tables e below (T292.setTop (mkF m 56 #[.val (.ref fe), .val (.int (own_i 0)), .val (.int ft), .val (.int (0 : Int32)), .val (.int (0 : Int32))] [(.ref fe)])) t → Steps p.tables e below (T292.setTop (mkF m 25 #[.val (.ref fe), .val (.int (own_i 0)), .val (.int ft), .unset, .unset] [(.int (0 : Int32))])) t := by
        intro t kt
        refine XS.istore X292.here hx rfl (hb hby d19_25) rfl (l' := #[.val (.ref fe), .val (.int (own_i 0)), .val (.int ft), .unset, .val (.int (0 : Int32))]) rfl ?_
        show Steps p.tables e below (T292.setTop (mkF m 27 #[.val (.ref fe), .val (.int (own_i 0)), .val (.int ft), .unset, .val (.int (0 : Int32))] [])) t
        refine XS.iload X292.here hx rfl (hb hby d19_27) rfl ?_
        show Steps p.tables e below (T292.setTop (mkF m 29 #[.val (.ref fe), .val (.int (own_i 0)), .val (.int ft), .unset, .val (.int (0 : Int32))] [(.int (0 : Int32))])) t
        refine XS.iloadN X292.here hx rfl (hb hby d19_29) rfl ?_
        show Steps p.tables e below (T292.setTop (mkF m 30 #[.val (.ref fe), .val (.int (own_i 0)), .val (.int ft), .unset, .val (.int (0 : Int32))] [(.int (own_i 0)), (.int (0 : Int32))])) t
        refine XS.ifYes X292.here hx rfl (pc0 := 30) (pc' := 37) rfl (hb hby d19_30) rfl ((if0 _ _).trans (flt (by decide)).2.2.2) (by decide) (by decide) ?_
        show Steps p.tables e below (T292.setTop (mkF m 37 #[.val (.ref fe), .val (.int (own_i 0)), .val (.int ft), .unset, .val (.int (0 : Int32))] [(.int (0 : Int32))])) t
        refine XS.iconst X292.here hx rfl (hb hby d19_37) ?_
        show Steps p.tables e below (T292.setTop (mkF m 38 #[.val (.ref fe), .val (.int (own_i 0)), .val (.int ft), .unset, .val (.int (0 : Int32))] [(.int (0 : Int32)), (.int (0 : Int32))])) t
        refine XS.icmpYes X292.here hx rfl (pc0 := 38) (pc' := 43) rfl (hb hby d19_38) rfl (teq rfl).1 (by decide) (by decide) ?_
        show Steps p.tables e below (T292.setTop (mkF m 43 #[.val (.ref fe), .val (.int (own_i 0)), .val (.int ft), .unset, .val (.int (0 : Int32))] [])) t
        refine XS.iloadN X292.here hx rfl (hb hby d19_43) rfl ?_
        show Steps p.tables e below (T292.setTop (mkF m 44 #[.val (.ref fe), .val (.int (own_i 0)), .val (.int ft), .unset, .val (.int (0 : Int32))] [(.int (own_i 0))])) t
        refine XS.ifYes X292.here hx rfl (pc0 := 44) (pc' := 53) rfl (hb hby d19_44) rfl ((if0 _ _).trans (flt (by decide)).2.2.2) (by decide) (by decide) ?_
        show Steps p.tables e below (T292.setTop (mkF m 53 #[.val (.ref fe), .val (.int (own_i 0)), .val (.int ft), .unset, .val (.int (0 : Int32))] [])) t
        refine XS.iconst X292.here hx rfl (hb hby d19_53) ?_
        show Steps p.tables e below (T292.setTop (mkF m 54 #[.val (.ref fe), .val (.int (own_i 0)), .val (.int ft), .unset, .val (.int (0 : Int32))] [(.int (0 : Int32))])) t
        refine XS.istoreN X292.here hx rfl (hb hby d19_54) rfl (l' := #[.val (.ref fe), .val (.int (own_i 0)), .val (.int ft), .val (.int (0 : Int32)), .val (.int (0 : Int32))]) rfl ?_
        show Steps p.tables e below (T292.setTop (mkF m 55 #[.val (.ref fe), .val (.int (own_i 0)), .val (.int ft), .val (.int (0 : Int32)), .val (.int (0 : Int32))] [])) t
        refine XS.aloadN X292.here hx rfl (hb hby d19_55) rfl rfl ?_
        exact kt
      obtain ⟨cq294, kq294, qa294, qb294, qc294⟩ := isOf hZ e292q Ee
      obtain ⟨_, _, ⟨T294, L294, k294, n294⟩, -, X294, ⟨Lc294, hQ294, l294, y294, z294⟩, st294⟩ := X292.virtualBack hx (y := (⟨"com/example/tell_nothing/tellnothing/pepa/Expression", "isOpen", "()Z"⟩ : MethodName)) (z := (⟨"com/example/tell_nothing/tellnothing/pepa/Expression", "isOpen", "()Z"⟩ : MethodName)) hown (mvT hZ (hw _ (List.mem_of_getElem? (i := 30) rfl))) (mvT hZ (hw _ (List.mem_of_getElem? (i := 31) rfl))) (notFace_of_selects (args := #[]) (mvT hZ (hw _ (List.mem_of_getElem? (i := 33) rfl)))) (mvT hZ (hw _ (List.mem_of_getElem? (i := 33) rfl))) (mvT hZ (hw _ (List.mem_of_getElem? (i := 32) rfl))) (by decide) (backOf (W := 0) (rm4 l Z a0 hw [] fe (own_i 0) h0 n0 Z0 F5) hZ (hw _ (List.mem_of_getElem? (i := 34) rfl)) (hw _ (List.mem_of_getElem? (i := 2) rfl)) (by decide) (by decide)) qa294 qc294 (g := (mkF m 56 #[.val (.ref fe), .val (.int (own_i 0)), .val (.int ft), .val (.int (0 : Int32)), .val (.int (0 : Int32))] [(.ref fe)])) rfl (by rw [hml]; rfl) (Steps.refl _) (argsL := []) (rest := []) (lenOf pd_ocZ rfl) rfl (by show 2 * 0 + _ ≤ _; exact Nat.le_of_eq rfl) (hb hby d19_56) (fun _ _ => ⟨rfl, e292q, (by decide : 0 + 0 ≤ _), (by decide : 0 + 0 ≤ _)⟩)
      dsimp only [Pt.U, Pt.locs, Pt.cells, Pt.slots] at X294 l294 y294 z294 st294 hQ294
      subst l294 y294 z294
      obtain ⟨rfl, N294q, e294q⟩ := hQ294
      have N294 := Fr.app N292 N294q
      have s295 : ∀ t, Steps p.tables e below (T294.setTop (mkF m 60 #[.val (.ref fe), .val (.int (own_i 0)), .val (.int ft), .val (.int (0 : Int32)), .val (.int (0 : Int32))] [(.int (0 : Int32)), (.int (fopen (own_i 0)))])) t → Steps p.tables e below (T294.setTop (mkF m 59 #[.val (.ref fe), .val (.int (own_i 0)), .val (.int ft), .val (.int (0 : Int32)), .val (.int (0 : Int32))] [(.int (fopen (own_i 0)))])) t := by
        intro t kt
        refine XS.iloadN X294.here hx rfl (hb hby d19_59) rfl ?_
        exact kt
      obtain ⟨w299, hw299, j305⟩ : ∃ (w299 : Int32), w299 = (if (0 : Int32) < (0 : Int32) then (1 : Int32) else (0 : Int32)) ∧ ∀ t, Steps p.tables e below (T294.setTop (mkF m 68 #[.val (.ref fe), .val (.int (own_i 0)), .val (.int ft), .val (.int (0 : Int32)), .val (.int (0 : Int32))] [(.int w299), (.int (fopen (own_i 0)))])) t → Steps p.tables e below (T294.setTop (mkF m 60 #[.val (.ref fe), .val (.int (own_i 0)), .val (.int ft), .val (.int (0 : Int32)), .val (.int (0 : Int32))] [(.int (0 : Int32)), (.int (fopen (own_i 0)))])) t := by
        by_cases c296 : (0 : Int32) < (0 : Int32)
        ·
          have s298 : ∀ t, Steps p.tables e below (T294.setTop (mkF m 68 #[.val (.ref fe), .val (.int (own_i 0)), .val (.int ft), .val (.int (0 : Int32)), .val (.int (0 : Int32))] [(.int (1 : Int32)), (.int (fopen (own_i 0)))])) t → Steps p.tables e below (T294.setTop (mkF m 60 #[.val (.ref fe), .val (.int (own_i 0)), .val (.int ft), .val (.int (0 : Int32)), .val (.int (0 : Int32))] [(.int (0 : Int32)), (.int (fopen (own_i 0)))])) t := by
            intro t kt
            refine XS.ifNo X294.here hx rfl (hb hby d19_60) rfl ((if0 _ _).trans (tlt c296).2.2.2) ?_
            show Steps p.tables e below (T294.setTop (mkF m 63 #[.val (.ref fe), .val (.int (own_i 0)), .val (.int ft), .val (.int (0 : Int32)), .val (.int (0 : Int32))] [(.int (fopen (own_i 0)))])) t
            refine XS.iconst X294.here hx rfl (hb hby d19_63) ?_
            show Steps p.tables e below (T294.setTop (mkF m 64 #[.val (.ref fe), .val (.int (own_i 0)), .val (.int ft), .val (.int (0 : Int32)), .val (.int (0 : Int32))] [(.int (1 : Int32)), (.int (fopen (own_i 0)))])) t
            refine XS.goto X294.here hx rfl (pc0 := 64) (pc' := 68) rfl (hb hby d19_64) (by decide) (by decide) ?_
            exact kt
          exact ⟨(1 : Int32), (if_pos c296).symm, fun t kt => s298 _ (kt)⟩
        ·
          have s297 : ∀ t, Steps p.tables e below (T294.setTop (mkF m 68 #[.val (.ref fe), .val (.int (own_i 0)), .val (.int ft), .val (.int (0 : Int32)), .val (.int (0 : Int32))] [(.int (0 : Int32)), (.int (fopen (own_i 0)))])) t → Steps p.tables e below (T294.setTop (mkF m 60 #[.val (.ref fe), .val (.int (own_i 0)), .val (.int ft), .val (.int (0 : Int32)), .val (.int (0 : Int32))] [(.int (0 : Int32)), (.int (fopen (own_i 0)))])) t := by
            intro t kt
            refine XS.ifYes X294.here hx rfl (pc0 := 60) (pc' := 67) rfl (hb hby d19_60) rfl ((if0 _ _).trans (flt c296).2.2.2) (by decide) (by decide) ?_
            show Steps p.tables e below (T294.setTop (mkF m 67 #[.val (.ref fe), .val (.int (own_i 0)), .val (.int ft), .val (.int (0 : Int32)), .val (.int (0 : Int32))] [(.int (fopen (own_i 0)))])) t
            refine XS.iconst X294.here hx rfl (hb hby d19_67) ?_
            exact kt
          exact ⟨(0 : Int32), (if_neg c296).symm, fun t kt => s297 _ (kt)⟩
      have hc68 : (fopen (own_i 0)) = w299 := by rw [hw299]; rfl
      have s306 : ∀ t, Steps p.tables e below (T294.setTop (mkF m 74 #[.val (.ref fe), .val (.int (own_i 0)), .val (.int ft), .val (.int (0 : Int32)), .val (.int (0 : Int32))] [(.int (0 : Int32))])) t → Steps p.tables e below (T294.setTop (mkF m 68 #[.val (.ref fe), .val (.int (own_i 0)), .val (.int ft), .val (.int (0 : Int32)), .val (.int (0 : Int32))] [(.int w299), (.int (fopen (own_i 0)))])) t := by
        intro t kt
        refine XS.icmpYes X294.here hx rfl (pc0 := 68) (pc' := 73) rfl (hb hby d19_68) rfl (teq hc68).1 (by decide) (by decide) ?_
        show Steps p.tables e below (T294.setTop (mkF m 73 #[.val (.ref fe), .val (.int (own_i 0)), .val (.int ft), .val (.int (0 : Int32)), .val (.int (0 : Int32))] [])) t
        refine XS.iloadN X294.here hx rfl (hb hby d19_73) rfl ?_
        exact kt
      have un : (own_nx 0 ft) = 0 := un
      obtain ⟨fs_, hr, hrun, hended, hW, hsame⟩ := X294.leave (hlocks := BodyLoose.notSynchronized Bd) (v := some (.int (0 : Int32))) (fun h => by rw [Bd.returns] at h; cases h)
      refine ⟨_, _, pre0 _ (s288 _ (s290 _ (s291 _ (st292.trans (s293 _ (st294.trans (s295 _ (j305 _ (s306 _ (?_)))))))))), hrun, hended, _, _, rfl, ?_, ⟨_, rfl⟩, hW, hsame.mono (by decide) (by decide)⟩
      · show Steps p.tables e below (T294.setTop (mkF m 74 #[.val (.ref fe), .val (.int (own_i 0)), .val (.int ft), .val (.int (0 : Int32)), .val (.int (0 : Int32))] [(.int (0 : Int32))])) _
        exact retI X294 hx Bd.returns (hb hby d19_74) hr
      · show Q19 Z fe fd fb 0 ff ft h0 n0 _ T294.heap _
        rw [e294q]
        show _ ∧ _ ∧ _ ∧ _ ∧ _ ∧ Fld Z h0 fe "com/example/tell_nothing/tellnothing/pepa/Expression" "openParentheses" "I" (.int (own_i (own_nx 0 ft))) ∧ ∃ fg : Nat → Value, _ ∧ _ ∧ Fld Z h0 fd "java/util/ArrayDeque" "head" "I" (.int (own_hd (own_nx 0 ft))) ∧ _ ∧ _ ∧ Pend Z _ fg (own_nx 0 ft)
        rw [un]
        exact ⟨rfl, N294, Keep.refl _ _, Ee, F4, F5, _, Ed, F1, F2, F3, Vb, P⟩
    ·
      obtain ⟨d1, d2, d3, q0, q1, hk0, dp⟩ := own_dn k hk hk0'
      obtain ⟨fx, hv, Ex, F6⟩ := P k (by omega) (Nat.le_refl k)
      rw [← d3] at hv
      have s307 : ∀ t, Steps p.tables e below (s₁.setTop (mkF m 22 #[.val (.ref fe), .val (.int (own_i k)), .val (.int ft), .unset, .unset] [(.ref fe)])) t → Steps p.tables e below (s₁.setTop (mkF m 21 #[.val (.ref fe), .val (.int (own_i k)), .val (.int ft), .unset, .unset] [])) t := by
        intro t kt
        refine XS.aloadN X0.here hx rfl (hb hby d19_21) rfl rfl ?_
        exact kt
      obtain ⟨cq308, kq308, qa308, qb308, qc308⟩ := isOf hZ e0 Ee
      obtain ⟨_, _, ⟨T308, L308, k308, n308⟩, -, X308, ⟨Lc308, hQ308, l308, y308, z308⟩, st308⟩ := X0.virtualBack hx (y := (⟨"com/example/tell_nothing/tellnothing/pepa/Expression", "close", "()Z"⟩ : MethodName)) (z := (⟨"com/example/tell_nothing/tellnothing/pepa/Expression", "close", "()Z"⟩ : MethodName)) hown (mvT hZ (hw _ (List.mem_of_getElem? (i := 41) rfl))) (mvT hZ (hw _ (List.mem_of_getElem? (i := 42) rfl))) (notFace_of_selects (args := #[]) (mvT hZ (hw _ (List.mem_of_getElem? (i := 44) rfl)))) (mvT hZ (hw _ (List.mem_of_getElem? (i := 44) rfl))) (mvT hZ (hw _ (List.mem_of_getElem? (i := 43) rfl))) (by decide) (backOf (W := 0) (rm17 l Z a0 hw [] fe fd fb (own_i k) (own_hd k) ff fx h0 n0 Z0 Ee F4 F5 Ge Ed F1 F2 F3 Vb Gd Gb q0 q1 hv Ex F6 hk0) hZ (hw _ (List.mem_of_getElem? (i := 45) rfl)) (hw _ (List.mem_of_getElem? (i := 2) rfl)) (by decide) (by decide)) qa308 qc308 (g := (mkF m 22 #[.val (.ref fe), .val (.int (own_i k)), .val (.int ft), .unset, .unset] [(.ref fe)])) rfl (by rw [hml]; rfl) (Steps.refl _) (argsL := []) (rest := []) (lenOf pd_ocZ rfl) rfl (by show 2 * 0 + _ ≤ _; exact Nat.le_of_eq rfl) (hb hby d19_22) (fun _ _ => ⟨rfl, e0, (by decide : 0 + 0 ≤ _), (by decide : 0 + 0 ≤ _)⟩)
      dsimp only [Pt.U, Pt.locs, Pt.cells, Pt.slots] at X308 l308 y308 z308 st308 hQ308
      subst l308 y308 z308
      obtain ⟨rfl, N308q, Kc308, fE309, fF310, fF311, fE312, fF313, fF314, fF315, fV316⟩ := hQ308
      have N308 := Fr.app N0 N308q
      have Zs308 : n0 ≤ T308.heap.size := Nat.le_trans Z0 Kc308.1
      have K308 : Keep h0 T308.heap [fe, fd, fb] := (Keep.refl h0 [fe, fd, fb]).trans Kc308 (allS (Or.inl (List.mem_of_getElem? (i := 0) rfl)) (allS (Or.inl (List.mem_of_getElem? (i := 1) rfl)) (allS (Or.inl (List.mem_of_getElem? (i := 2) rfl)) all0)))
      have s317 : ∀ t, Steps p.tables e below (T308.setTop (mkF m 56 #[.val (.ref fe), .val (.int (own_i k)), .val (.int ft), .val (.int ((own_i k) - (1 : Int32))), .val (.int (1 : Int32))] [(.ref fe)])) t → Steps p.tables e below (T308.setTop (mkF m 25 #[.val (.ref fe), .val (.int (own_i k)), .val (.int ft), .unset, .unset] [(.int (1 : Int32))])) t := by
        intro t kt
        refine XS.istore X308.here hx rfl (hb hby d19_25) rfl (l' := #[.val (.ref fe), .val (.int (own_i k)), .val (.int ft), .unset, .val (.int (1 : Int32))]) rfl ?_
        show Steps p.tables e below (T308.setTop (mkF m 27 #[.val (.ref fe), .val (.int (own_i k)), .val (.int ft), .unset, .val (.int (1 : Int32))] [])) t
        refine XS.iload X308.here hx rfl (hb hby d19_27) rfl ?_
        show Steps p.tables e below (T308.setTop (mkF m 29 #[.val (.ref fe), .val (.int (own_i k)), .val (.int ft), .unset, .val (.int (1 : Int32))] [(.int (1 : Int32))])) t
        refine XS.iloadN X308.here hx rfl (hb hby d19_29) rfl ?_
        show Steps p.tables e below (T308.setTop (mkF m 30 #[.val (.ref fe), .val (.int (own_i k)), .val (.int ft), .unset, .val (.int (1 : Int32))] [(.int (own_i k)), (.int (1 : Int32))])) t
        refine XS.ifNo X308.here hx rfl (hb hby d19_30) rfl ((if0 _ _).trans (tlt dp).2.2.2) ?_
        show Steps p.tables e below (T308.setTop (mkF m 33 #[.val (.ref fe), .val (.int (own_i k)), .val (.int ft), .unset, .val (.int (1 : Int32))] [(.int (1 : Int32))])) t
        refine XS.iconst X308.here hx rfl (hb hby d19_33) ?_
        show Steps p.tables e below (T308.setTop (mkF m 34 #[.val (.ref fe), .val (.int (own_i k)), .val (.int ft), .unset, .val (.int (1 : Int32))] [(.int (1 : Int32)), (.int (1 : Int32))])) t
        refine XS.goto X308.here hx rfl (pc0 := 34) (pc' := 38) rfl (hb hby d19_34) (by decide) (by decide) ?_
        show Steps p.tables e below (T308.setTop (mkF m 38 #[.val (.ref fe), .val (.int (own_i k)), .val (.int ft), .unset, .val (.int (1 : Int32))] [(.int (1 : Int32)), (.int (1 : Int32))])) t
        refine XS.icmpYes X308.here hx rfl (pc0 := 38) (pc' := 43) rfl (hb hby d19_38) rfl (teq rfl).1 (by decide) (by decide) ?_
        show Steps p.tables e below (T308.setTop (mkF m 43 #[.val (.ref fe), .val (.int (own_i k)), .val (.int ft), .unset, .val (.int (1 : Int32))] [])) t
        refine XS.iloadN X308.here hx rfl (hb hby d19_43) rfl ?_
        show Steps p.tables e below (T308.setTop (mkF m 44 #[.val (.ref fe), .val (.int (own_i k)), .val (.int ft), .unset, .val (.int (1 : Int32))] [(.int (own_i k))])) t
        refine XS.ifNo X308.here hx rfl (hb hby d19_44) rfl ((if0 _ _).trans (tlt dp).2.2.2) ?_
        show Steps p.tables e below (T308.setTop (mkF m 47 #[.val (.ref fe), .val (.int (own_i k)), .val (.int ft), .unset, .val (.int (1 : Int32))] [])) t
        refine XS.iloadN X308.here hx rfl (hb hby d19_47) rfl ?_
        show Steps p.tables e below (T308.setTop (mkF m 48 #[.val (.ref fe), .val (.int (own_i k)), .val (.int ft), .unset, .val (.int (1 : Int32))] [(.int (own_i k))])) t
        refine XS.iconst X308.here hx rfl (hb hby d19_48) ?_
        show Steps p.tables e below (T308.setTop (mkF m 49 #[.val (.ref fe), .val (.int (own_i k)), .val (.int ft), .unset, .val (.int (1 : Int32))] [(.int (1 : Int32)), (.int (own_i k))])) t
        refine XS.isub X308.here hx rfl (hb hby d19_49) rfl ?_
        show Steps p.tables e below (T308.setTop (mkF m 50 #[.val (.ref fe), .val (.int (own_i k)), .val (.int ft), .unset, .val (.int (1 : Int32))] [(.int ((own_i k) - (1 : Int32)))])) t
        refine XS.goto X308.here hx rfl (pc0 := 50) (pc' := 54) rfl (hb hby d19_50) (by decide) (by decide) ?_
        show Steps p.tables e below (T308.setTop (mkF m 54 #[.val (.ref fe), .val (.int (own_i k)), .val (.int ft), .unset, .val (.int (1 : Int32))] [(.int ((own_i k) - (1 : Int32)))])) t
        refine XS.istoreN X308.here hx rfl (hb hby d19_54) rfl (l' := #[.val (.ref fe), .val (.int (own_i k)), .val (.int ft), .val (.int ((own_i k) - (1 : Int32))), .val (.int (1 : Int32))]) rfl ?_
        show Steps p.tables e below (T308.setTop (mkF m 55 #[.val (.ref fe), .val (.int (own_i k)), .val (.int ft), .val (.int ((own_i k) - (1 : Int32))), .val (.int (1 : Int32))] [])) t
        refine XS.aloadN X308.here hx rfl (hb hby d19_55) rfl rfl ?_
        exact kt
      obtain ⟨cq318, kq318, qa318, qb318, qc318⟩ := isOf hZ rfl fE309
      obtain ⟨_, _, ⟨T318, L318, k318, n318⟩, -, X318, ⟨Lc318, hQ318, l318, y318, z318⟩, st318⟩ := X308.virtualBack hx (y := (⟨"com/example/tell_nothing/tellnothing/pepa/Expression", "isOpen", "()Z"⟩ : MethodName)) (z := (⟨"com/example/tell_nothing/tellnothing/pepa/Expression", "isOpen", "()Z"⟩ : MethodName)) hown (mvT hZ (hw _ (List.mem_of_getElem? (i := 30) rfl))) (mvT hZ (hw _ (List.mem_of_getElem? (i := 31) rfl))) (notFace_of_selects (args := #[]) (mvT hZ (hw _ (List.mem_of_getElem? (i := 33) rfl)))) (mvT hZ (hw _ (List.mem_of_getElem? (i := 33) rfl))) (mvT hZ (hw _ (List.mem_of_getElem? (i := 32) rfl))) (by decide) (backOf (W := 0) (rm4 l Z a0 hw [] fe ((own_i k) - (1 : Int32)) T308.heap n0 Zs308 fF311) hZ (hw _ (List.mem_of_getElem? (i := 34) rfl)) (hw _ (List.mem_of_getElem? (i := 2) rfl)) (by decide) (by decide)) qa318 qc318 (g := (mkF m 56 #[.val (.ref fe), .val (.int (own_i k)), .val (.int ft), .val (.int ((own_i k) - (1 : Int32))), .val (.int (1 : Int32))] [(.ref fe)])) rfl (by rw [hml]; rfl) (Steps.refl _) (argsL := []) (rest := []) (lenOf pd_ocZ rfl) rfl (by show 2 * 0 + _ ≤ _; exact Nat.le_of_eq rfl) (hb hby d19_56) (fun _ _ => ⟨rfl, rfl, (by decide : 0 + 0 ≤ _), (by decide : 0 + 0 ≤ _)⟩)
      dsimp only [Pt.U, Pt.locs, Pt.cells, Pt.slots] at X318 l318 y318 z318 st318 hQ318
      subst l318 y318 z318
      obtain ⟨rfl, N318q, e318q⟩ := hQ318
      have N318 := Fr.app N308 N318q
      have s319 : ∀ t, Steps p.tables e below (T318.setTop (mkF m 60 #[.val (.ref fe), .val (.int (own_i k)), .val (.int ft), .val (.int ((own_i k) - (1 : Int32))), .val (.int (1 : Int32))] [(.int ((own_i k) - (1 : Int32))), (.int (fopen ((own_i k) - (1 : Int32))))])) t → Steps p.tables e below (T318.setTop (mkF m 59 #[.val (.ref fe), .val (.int (own_i k)), .val (.int ft), .val (.int ((own_i k) - (1 : Int32))), .val (.int (1 : Int32))] [(.int (fopen ((own_i k) - (1 : Int32))))])) t := by
        intro t kt
        refine XS.iloadN X318.here hx rfl (hb hby d19_59) rfl ?_
        exact kt
      obtain ⟨w323, hw323, j329⟩ : ∃ (w323 : Int32), w323 = (if (0 : Int32) < ((own_i k) - (1 : Int32)) then (1 : Int32) else (0 : Int32)) ∧ ∀ t, Steps p.tables e below (T318.setTop (mkF m 68 #[.val (.ref fe), .val (.int (own_i k)), .val (.int ft), .val (.int ((own_i k) - (1 : Int32))), .val (.int (1 : Int32))] [(.int w323), (.int (fopen ((own_i k) - (1 : Int32))))])) t → Steps p.tables e below (T318.setTop (mkF m 60 #[.val (.ref fe), .val (.int (own_i k)), .val (.int ft), .val (.int ((own_i k) - (1 : Int32))), .val (.int (1 : Int32))] [(.int ((own_i k) - (1 : Int32))), (.int (fopen ((own_i k) - (1 : Int32))))])) t := by
        by_cases c320 : (0 : Int32) < ((own_i k) - (1 : Int32))
        ·
          have s322 : ∀ t, Steps p.tables e below (T318.setTop (mkF m 68 #[.val (.ref fe), .val (.int (own_i k)), .val (.int ft), .val (.int ((own_i k) - (1 : Int32))), .val (.int (1 : Int32))] [(.int (1 : Int32)), (.int (fopen ((own_i k) - (1 : Int32))))])) t → Steps p.tables e below (T318.setTop (mkF m 60 #[.val (.ref fe), .val (.int (own_i k)), .val (.int ft), .val (.int ((own_i k) - (1 : Int32))), .val (.int (1 : Int32))] [(.int ((own_i k) - (1 : Int32))), (.int (fopen ((own_i k) - (1 : Int32))))])) t := by
            intro t kt
            refine XS.ifNo X318.here hx rfl (hb hby d19_60) rfl ((if0 _ _).trans (tlt c320).2.2.2) ?_
            show Steps p.tables e below (T318.setTop (mkF m 63 #[.val (.ref fe), .val (.int (own_i k)), .val (.int ft), .val (.int ((own_i k) - (1 : Int32))), .val (.int (1 : Int32))] [(.int (fopen ((own_i k) - (1 : Int32))))])) t
            refine XS.iconst X318.here hx rfl (hb hby d19_63) ?_
            show Steps p.tables e below (T318.setTop (mkF m 64 #[.val (.ref fe), .val (.int (own_i k)), .val (.int ft), .val (.int ((own_i k) - (1 : Int32))), .val (.int (1 : Int32))] [(.int (1 : Int32)), (.int (fopen ((own_i k) - (1 : Int32))))])) t
            refine XS.goto X318.here hx rfl (pc0 := 64) (pc' := 68) rfl (hb hby d19_64) (by decide) (by decide) ?_
            exact kt
          exact ⟨(1 : Int32), (if_pos c320).symm, fun t kt => s322 _ (kt)⟩
        ·
          have s321 : ∀ t, Steps p.tables e below (T318.setTop (mkF m 68 #[.val (.ref fe), .val (.int (own_i k)), .val (.int ft), .val (.int ((own_i k) - (1 : Int32))), .val (.int (1 : Int32))] [(.int (0 : Int32)), (.int (fopen ((own_i k) - (1 : Int32))))])) t → Steps p.tables e below (T318.setTop (mkF m 60 #[.val (.ref fe), .val (.int (own_i k)), .val (.int ft), .val (.int ((own_i k) - (1 : Int32))), .val (.int (1 : Int32))] [(.int ((own_i k) - (1 : Int32))), (.int (fopen ((own_i k) - (1 : Int32))))])) t := by
            intro t kt
            refine XS.ifYes X318.here hx rfl (pc0 := 60) (pc' := 67) rfl (hb hby d19_60) rfl ((if0 _ _).trans (flt c320).2.2.2) (by decide) (by decide) ?_
            show Steps p.tables e below (T318.setTop (mkF m 67 #[.val (.ref fe), .val (.int (own_i k)), .val (.int ft), .val (.int ((own_i k) - (1 : Int32))), .val (.int (1 : Int32))] [(.int (fopen ((own_i k) - (1 : Int32))))])) t
            refine XS.iconst X318.here hx rfl (hb hby d19_67) ?_
            exact kt
          exact ⟨(0 : Int32), (if_neg c320).symm, fun t kt => s321 _ (kt)⟩
      have hc68 : (fopen ((own_i k) - (1 : Int32))) = w323 := by rw [hw323]; rfl
      have s330 : ∀ t, Steps p.tables e below (T318.setTop (mkF m 74 #[.val (.ref fe), .val (.int (own_i k)), .val (.int ft), .val (.int ((own_i k) - (1 : Int32))), .val (.int (1 : Int32))] [(.int ((own_i k) - (1 : Int32)))])) t → Steps p.tables e below (T318.setTop (mkF m 68 #[.val (.ref fe), .val (.int (own_i k)), .val (.int ft), .val (.int ((own_i k) - (1 : Int32))), .val (.int (1 : Int32))] [(.int w323), (.int (fopen ((own_i k) - (1 : Int32))))])) t := by
        intro t kt
        refine XS.icmpYes X318.here hx rfl (pc0 := 68) (pc' := 73) rfl (hb hby d19_68) rfl (teq hc68).1 (by decide) (by decide) ?_
        show Steps p.tables e below (T318.setTop (mkF m 73 #[.val (.ref fe), .val (.int (own_i k)), .val (.int ft), .val (.int ((own_i k) - (1 : Int32))), .val (.int (1 : Int32))] [])) t
        refine XS.iloadN X318.here hx rfl (hb hby d19_73) rfl ?_
        exact kt
      have P1 := (P.keep (k1 := 2) Kc308 Ee Ed Vb (hw _ (List.mem_of_getElem? (i := 52) rfl))).dn hk
      have g1 := fF311
      have g2 := fF314
      have g3 := fV316
      rw [d1] at g1
      rw [d2] at g2
      rw [d3] at g3
      obtain ⟨fs_, hr, hrun, hended, hW, hsame⟩ := X318.leave (hlocks := BodyLoose.notSynchronized Bd) (v := some (.int ((own_i k) - (1 : Int32)))) (fun h => by rw [Bd.returns] at h; cases h)
      refine ⟨_, _, pre0 _ (s288 _ (s290 _ (s307 _ (st308.trans (s317 _ (st318.trans (s319 _ (j329 _ (s330 _ (?_)))))))))), hrun, hended, _, _, rfl, ?_, ⟨_, rfl⟩, hW, hsame.mono (by decide) (by decide)⟩
      · show Steps p.tables e below (T318.setTop (mkF m 74 #[.val (.ref fe), .val (.int (own_i k)), .val (.int ft), .val (.int ((own_i k) - (1 : Int32))), .val (.int (1 : Int32))] [(.int ((own_i k) - (1 : Int32)))])) _
        exact retI X318 hx Bd.returns (hb hby d19_74) hr
      · show Q19 Z fe fd fb k ff ft h0 n0 _ T318.heap _
        rw [e318q]
        show _ ∧ _ ∧ _ ∧ _ ∧ _ ∧ Fld Z T308.heap fe "com/example/tell_nothing/tellnothing/pepa/Expression" "openParentheses" "I" (.int (own_i (own_nx k ft))) ∧ ∃ fg : Nat → Value, _ ∧ _ ∧ Fld Z T308.heap fd "java/util/ArrayDeque" "head" "I" (.int (own_hd (own_nx k ft))) ∧ _ ∧ _ ∧ Pend Z _ fg (own_nx k ft)
        rw [un]
        exact ⟨by rw [d1], N318, K308, fE309, fF310, g1, _, fE312, fF313, g2, fF315, g3, P1⟩
  ·
    have s331 : ∀ t, Steps p.tables e below (s₁.setTop (mkF m 11 #[.val (.ref fe), .val (.int (own_i k)), .val (.int ft), .unset, .unset] [(.ref fe)])) t → Steps p.tables e below (s₁.setTop (mkF m 7 #[.val (.ref fe), .val (.int (own_i k)), .val (.int ft), .unset, .unset] [(.int ft)])) t := by
      intro t kt
      refine XS.ifNo X0.here hx rfl (hb hby d19_7) rfl ((if0 _ _).trans (feq c289).1) ?_
      show Steps p.tables e below (s₁.setTop (mkF m 10 #[.val (.ref fe), .val (.int (own_i k)), .val (.int ft), .unset, .unset] [])) t
      refine XS.aloadN X0.here hx rfl (hb hby d19_10) rfl rfl ?_
      exact kt
    obtain ⟨cq332, kq332, qa332, qb332, qc332⟩ := isOf hZ e0 Ee
    obtain ⟨_, _, ⟨T332, L332, k332, n332⟩, -, X332, ⟨Lc332, hQ332, l332, y332, z332⟩, st332⟩ := X0.virtualBack hx (y := (⟨"com/example/tell_nothing/tellnothing/pepa/Expression", "open", "()V"⟩ : MethodName)) (z := (⟨"com/example/tell_nothing/tellnothing/pepa/Expression", "open", "()V"⟩ : MethodName)) hown (mvT hZ (hw _ (List.mem_of_getElem? (i := 46) rfl))) (mvT hZ (hw _ (List.mem_of_getElem? (i := 47) rfl))) (notFace_of_selects (args := #[]) (mvT hZ (hw _ (List.mem_of_getElem? (i := 49) rfl)))) (mvT hZ (hw _ (List.mem_of_getElem? (i := 49) rfl))) (mvT hZ (hw _ (List.mem_of_getElem? (i := 48) rfl))) (by decide) (backOf (W := 0) (rm16 l Z a0 hw [] fe fd fb (own_i k) (own_hd k) ff h0 n0 Z0 Ee F4 F5 Ge Ed F1 F2 F3 Vb Gd Gb q0 q1 q2) hZ (hw _ (List.mem_of_getElem? (i := 50) rfl)) (hw _ (List.mem_of_getElem? (i := 2) rfl)) (by decide) (by decide)) qa332 qc332 (g := (mkF m 11 #[.val (.ref fe), .val (.int (own_i k)), .val (.int ft), .unset, .unset] [(.ref fe)])) rfl (by rw [hml]; rfl) (Steps.refl _) (argsL := []) (rest := []) (lenOf pd_ocV rfl) rfl (by show 2 * 0 + _ ≤ _; exact Nat.le_of_eq rfl) (hb hby d19_11) (fun _ _ => ⟨rfl, e0, (by decide : 0 + 1 ≤ _), (by decide : 0 + 2 ≤ _)⟩)
    dsimp only [Pt.U, Pt.locs, Pt.cells, Pt.slots] at X332 l332 y332 z332 st332 hQ332
    subst l332 y332 z332
    obtain ⟨rfl, N332q, Kc332, Ee332, Fp332, Fo332, fx332, Ex332, Fx332, Ed332, Fe332, Fh332, Ft332, V332⟩ := hQ332
    have N332 := Fr.app N0 N332q
    have K332 : Keep h0 T332.heap [fe, fd, fb] := (Keep.refl h0 [fe, fd, fb]).trans Kc332 (allS (Or.inl (List.mem_of_getElem? (i := 0) rfl)) (allS (Or.inl (List.mem_of_getElem? (i := 1) rfl)) (allS (Or.inl (List.mem_of_getElem? (i := 2) rfl)) all0)))
    have Zs332 : n0 ≤ T332.heap.size := Nat.le_trans Z0 Kc332.1
    have s333 : ∀ t, Steps p.tables e below (T332.setTop (mkF m 56 #[.val (.ref fe), .val (.int (own_i k)), .val (.int ft), .val (.int ((own_i k) + (1 : Int32))), .unset] [(.ref fe)])) t → Steps p.tables e below (T332.setTop (mkF m 14 #[.val (.ref fe), .val (.int (own_i k)), .val (.int ft), .unset, .unset] [])) t := by
      intro t kt
      refine XS.iloadN X332.here hx rfl (hb hby d19_14) rfl ?_
      show Steps p.tables e below (T332.setTop (mkF m 15 #[.val (.ref fe), .val (.int (own_i k)), .val (.int ft), .unset, .unset] [(.int (own_i k))])) t
      refine XS.iconst X332.here hx rfl (hb hby d19_15) ?_
      show Steps p.tables e below (T332.setTop (mkF m 16 #[.val (.ref fe), .val (.int (own_i k)), .val (.int ft), .unset, .unset] [(.int (1 : Int32)), (.int (own_i k))])) t
      refine XS.iadd X332.here hx rfl (hb hby d19_16) rfl ?_
      show Steps p.tables e below (T332.setTop (mkF m 17 #[.val (.ref fe), .val (.int (own_i k)), .val (.int ft), .unset, .unset] [(.int ((own_i k) + (1 : Int32)))])) t
      refine XS.istoreN X332.here hx rfl (hb hby d19_17) rfl (l' := #[.val (.ref fe), .val (.int (own_i k)), .val (.int ft), .val (.int ((own_i k) + (1 : Int32))), .unset]) rfl ?_
      show Steps p.tables e below (T332.setTop (mkF m 18 #[.val (.ref fe), .val (.int (own_i k)), .val (.int ft), .val (.int ((own_i k) + (1 : Int32))), .unset] [])) t
      refine XS.goto X332.here hx rfl (pc0 := 18) (pc' := 55) rfl (hb hby d19_18) (by decide) (by decide) ?_
      show Steps p.tables e below (T332.setTop (mkF m 55 #[.val (.ref fe), .val (.int (own_i k)), .val (.int ft), .val (.int ((own_i k) + (1 : Int32))), .unset] [])) t
      refine XS.aloadN X332.here hx rfl (hb hby d19_55) rfl rfl ?_
      exact kt
    obtain ⟨cq334, kq334, qa334, qb334, qc334⟩ := isOf hZ rfl Ee332
    obtain ⟨_, _, ⟨T334, L334, k334, n334⟩, -, X334, ⟨Lc334, hQ334, l334, y334, z334⟩, st334⟩ := X332.virtualBack hx (y := (⟨"com/example/tell_nothing/tellnothing/pepa/Expression", "isOpen", "()Z"⟩ : MethodName)) (z := (⟨"com/example/tell_nothing/tellnothing/pepa/Expression", "isOpen", "()Z"⟩ : MethodName)) hown (mvT hZ (hw _ (List.mem_of_getElem? (i := 30) rfl))) (mvT hZ (hw _ (List.mem_of_getElem? (i := 31) rfl))) (notFace_of_selects (args := #[]) (mvT hZ (hw _ (List.mem_of_getElem? (i := 33) rfl)))) (mvT hZ (hw _ (List.mem_of_getElem? (i := 33) rfl))) (mvT hZ (hw _ (List.mem_of_getElem? (i := 32) rfl))) (by decide) (backOf (W := 0) (rm4 l Z a0 hw [] fe ((own_i k) + (1 : Int32)) T332.heap n0 Zs332 Fo332) hZ (hw _ (List.mem_of_getElem? (i := 34) rfl)) (hw _ (List.mem_of_getElem? (i := 2) rfl)) (by decide) (by decide)) qa334 qc334 (g := (mkF m 56 #[.val (.ref fe), .val (.int (own_i k)), .val (.int ft), .val (.int ((own_i k) + (1 : Int32))), .unset] [(.ref fe)])) rfl (by rw [hml]; rfl) (Steps.refl _) (argsL := []) (rest := []) (lenOf pd_ocZ rfl) rfl (by show 2 * 0 + _ ≤ _; exact Nat.le_of_eq rfl) (hb hby d19_56) (fun _ _ => ⟨rfl, rfl, (by decide : 1 + 0 ≤ _), (by decide : 2 + 0 ≤ _)⟩)
    dsimp only [Pt.U, Pt.locs, Pt.cells, Pt.slots] at X334 l334 y334 z334 st334 hQ334
    subst l334 y334 z334
    obtain ⟨rfl, N334q, e334q⟩ := hQ334
    have N334 := Fr.app N332 N334q
    have s335 : ∀ t, Steps p.tables e below (T334.setTop (mkF m 60 #[.val (.ref fe), .val (.int (own_i k)), .val (.int ft), .val (.int ((own_i k) + (1 : Int32))), .unset] [(.int ((own_i k) + (1 : Int32))), (.int (fopen ((own_i k) + (1 : Int32))))])) t → Steps p.tables e below (T334.setTop (mkF m 59 #[.val (.ref fe), .val (.int (own_i k)), .val (.int ft), .val (.int ((own_i k) + (1 : Int32))), .unset] [(.int (fopen ((own_i k) + (1 : Int32))))])) t := by
      intro t kt
      refine XS.iloadN X334.here hx rfl (hb hby d19_59) rfl ?_
      exact kt
    obtain ⟨w339, hw339, j345⟩ : ∃ (w339 : Int32), w339 = (if (0 : Int32) < ((own_i k) + (1 : Int32)) then (1 : Int32) else (0 : Int32)) ∧ ∀ t, Steps p.tables e below (T334.setTop (mkF m 68 #[.val (.ref fe), .val (.int (own_i k)), .val (.int ft), .val (.int ((own_i k) + (1 : Int32))), .unset] [(.int w339), (.int (fopen ((own_i k) + (1 : Int32))))])) t → Steps p.tables e below (T334.setTop (mkF m 60 #[.val (.ref fe), .val (.int (own_i k)), .val (.int ft), .val (.int ((own_i k) + (1 : Int32))), .unset] [(.int ((own_i k) + (1 : Int32))), (.int (fopen ((own_i k) + (1 : Int32))))])) t := by
      by_cases c336 : (0 : Int32) < ((own_i k) + (1 : Int32))
      ·
        have s338 : ∀ t, Steps p.tables e below (T334.setTop (mkF m 68 #[.val (.ref fe), .val (.int (own_i k)), .val (.int ft), .val (.int ((own_i k) + (1 : Int32))), .unset] [(.int (1 : Int32)), (.int (fopen ((own_i k) + (1 : Int32))))])) t → Steps p.tables e below (T334.setTop (mkF m 60 #[.val (.ref fe), .val (.int (own_i k)), .val (.int ft), .val (.int ((own_i k) + (1 : Int32))), .unset] [(.int ((own_i k) + (1 : Int32))), (.int (fopen ((own_i k) + (1 : Int32))))])) t := by
          intro t kt
          refine XS.ifNo X334.here hx rfl (hb hby d19_60) rfl ((if0 _ _).trans (tlt c336).2.2.2) ?_
          show Steps p.tables e below (T334.setTop (mkF m 63 #[.val (.ref fe), .val (.int (own_i k)), .val (.int ft), .val (.int ((own_i k) + (1 : Int32))), .unset] [(.int (fopen ((own_i k) + (1 : Int32))))])) t
          refine XS.iconst X334.here hx rfl (hb hby d19_63) ?_
          show Steps p.tables e below (T334.setTop (mkF m 64 #[.val (.ref fe), .val (.int (own_i k)), .val (.int ft), .val (.int ((own_i k) + (1 : Int32))), .unset] [(.int (1 : Int32)), (.int (fopen ((own_i k) + (1 : Int32))))])) t
          refine XS.goto X334.here hx rfl (pc0 := 64) (pc' := 68) rfl (hb hby d19_64) (by decide) (by decide) ?_
          exact kt
        exact ⟨(1 : Int32), (if_pos c336).symm, fun t kt => s338 _ (kt)⟩
      ·
        have s337 : ∀ t, Steps p.tables e below (T334.setTop (mkF m 68 #[.val (.ref fe), .val (.int (own_i k)), .val (.int ft), .val (.int ((own_i k) + (1 : Int32))), .unset] [(.int (0 : Int32)), (.int (fopen ((own_i k) + (1 : Int32))))])) t → Steps p.tables e below (T334.setTop (mkF m 60 #[.val (.ref fe), .val (.int (own_i k)), .val (.int ft), .val (.int ((own_i k) + (1 : Int32))), .unset] [(.int ((own_i k) + (1 : Int32))), (.int (fopen ((own_i k) + (1 : Int32))))])) t := by
          intro t kt
          refine XS.ifYes X334.here hx rfl (pc0 := 60) (pc' := 67) rfl (hb hby d19_60) rfl ((if0 _ _).trans (flt c336).2.2.2) (by decide) (by decide) ?_
          show Steps p.tables e below (T334.setTop (mkF m 67 #[.val (.ref fe), .val (.int (own_i k)), .val (.int ft), .val (.int ((own_i k) + (1 : Int32))), .unset] [(.int (fopen ((own_i k) + (1 : Int32))))])) t
          refine XS.iconst X334.here hx rfl (hb hby d19_67) ?_
          exact kt
        exact ⟨(0 : Int32), (if_neg c336).symm, fun t kt => s337 _ (kt)⟩
    have hc68 : (fopen ((own_i k) + (1 : Int32))) = w339 := by rw [hw339]; rfl
    have s346 : ∀ t, Steps p.tables e below (T334.setTop (mkF m 74 #[.val (.ref fe), .val (.int (own_i k)), .val (.int ft), .val (.int ((own_i k) + (1 : Int32))), .unset] [(.int ((own_i k) + (1 : Int32)))])) t → Steps p.tables e below (T334.setTop (mkF m 68 #[.val (.ref fe), .val (.int (own_i k)), .val (.int ft), .val (.int ((own_i k) + (1 : Int32))), .unset] [(.int w339), (.int (fopen ((own_i k) + (1 : Int32))))])) t := by
      intro t kt
      refine XS.icmpYes X334.here hx rfl (pc0 := 68) (pc' := 73) rfl (hb hby d19_68) rfl (teq hc68).1 (by decide) (by decide) ?_
      show Steps p.tables e below (T334.setTop (mkF m 73 #[.val (.ref fe), .val (.int (own_i k)), .val (.int ft), .val (.int ((own_i k) + (1 : Int32))), .unset] [])) t
      refine XS.iloadN X334.here hx rfl (hb hby d19_73) rfl ?_
      exact kt
    obtain ⟨u1, u2, u3⟩ := own_up k hk
    have un : (own_nx k ft) = k + 1 := if_neg c289
    have P1 := (P.keep (k1 := 2) Kc332 Ee Ed Vb (hw _ (List.mem_of_getElem? (i := 52) rfl))).up hk Ex332 Fx332
    have g1 := Fo332
    have g2 := Fh332
    have g3 := V332
    rw [u1] at g1
    rw [u2] at g2 g3
    rw [u3] at g3
    obtain ⟨fs_, hr, hrun, hended, hW, hsame⟩ := X334.leave (hlocks := BodyLoose.notSynchronized Bd) (v := some (.int ((own_i k) + (1 : Int32)))) (fun h => by rw [Bd.returns] at h; cases h)
    refine ⟨_, _, pre0 _ (s288 _ (s331 _ (st332.trans (s333 _ (st334.trans (s335 _ (j345 _ (s346 _ (?_))))))))), hrun, hended, _, _, rfl, ?_, ⟨_, rfl⟩, hW, hsame.mono (by decide) (by decide)⟩
    · show Steps p.tables e below (T334.setTop (mkF m 74 #[.val (.ref fe), .val (.int (own_i k)), .val (.int ft), .val (.int ((own_i k) + (1 : Int32))), .unset] [(.int ((own_i k) + (1 : Int32)))])) _
      exact retI X334 hx Bd.returns (hb hby d19_74) hr
    · show Q19 Z fe fd fb k ff ft h0 n0 _ T334.heap _
      rw [e334q]
      show _ ∧ _ ∧ _ ∧ _ ∧ _ ∧ Fld Z T332.heap fe "com/example/tell_nothing/tellnothing/pepa/Expression" "openParentheses" "I" (.int (own_i (own_nx k ft))) ∧ ∃ fg : Nat → Value, _ ∧ _ ∧ Fld Z T332.heap fd "java/util/ArrayDeque" "head" "I" (.int (own_hd (own_nx k ft))) ∧ _ ∧ _ ∧ Pend Z _ fg (own_nx k ft)
      rw [un]
      exact ⟨by rw [u1], N334, K332, Ee332, Fp332, g1, _, Ed332, Fe332, g2, Ft332, g3, P1⟩

def Q0 (Z : State) (xo : Int32) (h0 : Heap) (n0 : Nat) (v : Option Value) (h : Heap) (L : List Loc) : Prop := v = some (.int 1) ∧ Fr n0 L
set_option maxRecDepth 65536 in
set_option maxHeartbeats 40000000 in
theorem rm0 (l : Launch) (Z : State) (a0 : Array Value) (hw : ∀ d ∈ tables_1, d.before a0 Z = true) (ws : List Jvm.Cond) (xo : Int32) (h0 : Heap) (n0 : Nat) (Z0 : n0 ≤ h0.size)  :
    MetFree l x (head1 (Jvm.Cond.code x code maxLocals ret :: ws) room_1) (fun a U => a = #[(.int xo)] ∧ Z.Warmed39 U.vm ∧ U.heap = h0) (fun _ _ _ _ _ => True) (fun _ U o U' => ∃ v L, o = .returned v ∧ Q0 Z xo h0 n0 v U'.heap L ∧ FrameEnd U o U' L room_1.cells room_1.slots) := by
  refine MetFree.of_bodySF (plainFor_of_name pn_com_example_tell_nothing_tellnothing_pepa_ExpressionIsOpenPinLaw) hisR ?_
  intro p e s m args0 below meth c s₁ Bd hml0 hP hK
  obtain ⟨rfl, hZ, hh⟩ := hP
  have hx := Bd.exec
  have hby := Bd.bytes
  have hml : c.maxLocals = 3 := hml0
  have hown : s.vm.findClass "com/example/tell_nothing/tellnothing/pepa/ExpressionIsOpenPinLaw" = some m.cls := findClass_of_methodNamed Bd.named
  have hnm := (name_of_methodNamed Bd.named Bd.method).1
  have X0 : Stand p l e room_1 s m #[(.int xo)] below meth c s₁ [] 0 0 := Stand.of_body Bd
  have e0 : s₁.heap = h0 := by rw [← hh, Bd.state]; rfl
  have N0 := Fr.nil n0
  have pre0 : ∀ t, Steps p.tables e below (s₁.setTop (mkF m 0 #[.val (.int xo), .unset, .unset] [])) t → Steps p.tables e below (s₁.setTop (entryFrame m #[(.int xo)] maxLocals)) t := fun t kk_ => castTop (ef_0 m xo) kk_
  obtain ⟨T347, h347, X347, e347, E347, A347, D347, -, st347⟩ := newO X0 hx hZ hown (hw _ (List.mem_of_getElem? (i := 0) rfl)) (hw _ (List.mem_of_getElem? (i := 1) rfl)) (hw _ (List.mem_of_getElem? (i := 2) rfl)) e0 (g := (mkF m 0 #[.val (.int xo), .unset, .unset] [])) rfl (hb hby at_0) (by decide) (by decide)
  obtain ⟨b347, g347⟩ : ∃ z, z = h0.size := ⟨_, rfl⟩
  rw [← g347] at A347 D347 st347
  have gn347 : n0 ≤ b347 := Nat.le_trans Z0 (Nat.le_of_eq g347.symm)
  have Zs347 : n0 ≤ h347.size := Nat.le_trans Z0 E347.1
  have fF348 : Fld Z h347 b347 "com/example/tell_nothing/tellnothing/pepa/Expression" "operands" "Ljava/util/Deque;" .null := D347 (Or.inr (hw _ (List.mem_of_getElem? (i := 27) rfl))) (ty := (.object "java/util/Deque")) (by decide)
  have fF349 : Fld Z h347 b347 "com/example/tell_nothing/tellnothing/pepa/Expression" "pending" "Ljava/util/Deque;" .null := D347 (Or.inr (hw _ (List.mem_of_getElem? (i := 29) rfl))) (ty := (.object "java/util/Deque")) (by decide)
  have fF350 : Fld Z h347 b347 "com/example/tell_nothing/tellnothing/pepa/Expression" "openParentheses" "I" (.int (0 : Int32)) := D347 (Or.inl (hw _ (List.mem_of_getElem? (i := 36) rfl))) (ty := .int) (by decide)
  have s351 : ∀ t, Steps p.tables e below (T347.setTop (mkF m 4 #[.val (.int xo), .unset, .unset] [(.ref b347), (.ref b347)])) t → Steps p.tables e below (T347.setTop (mkF m 3 #[.val (.int xo), .unset, .unset] [(.ref b347)])) t := by
    intro t kt
    refine XS.dup X347.here hx rfl (hb hby at_3) rfl rfl ?_
    exact kt
  obtain ⟨_, _, ⟨T352, L352, k352, n352⟩, -, X352, ⟨Lc352, hQ352, l352, y352, z352⟩, st352⟩ := X347.specialBack hx (y := (⟨"com/example/tell_nothing/tellnothing/pepa/Expression", "<init>", "()V"⟩ : MethodName)) rfl hown (mvT hZ (hw _ (List.mem_of_getElem? (i := 3) rfl))) (mvT hZ (hw _ (List.mem_of_getElem? (i := 4) rfl))) (mvT hZ (hw _ (List.mem_of_getElem? (i := 5) rfl))) (by decide) (backOf (W := 1) (rm3 l Z a0 hw [] b347 h347 n0 Zs347 A347 fF348 fF349 fF350 gn347) hZ (hw _ (List.mem_of_getElem? (i := 5) rfl)) (hw _ (List.mem_of_getElem? (i := 2) rfl)) (by decide) (by decide)) (g := (mkF m 4 #[.val (.int xo), .unset, .unset] [(.ref b347), (.ref b347)])) rfl (by rw [hml]; rfl) (Steps.refl _) (a := b347) (argsL := []) (rest := [(.ref b347)]) (lenOf pd_ocV rfl) rfl (by show 2 * 0 + _ ≤ _; exact Nat.le_of_eq rfl) (hb hby at_4) (fun _ _ => ⟨rfl, e347, (by decide : 1 + 4 ≤ _), (by decide : 3 + 40 ≤ _)⟩)
  dsimp only [Pt.U, Pt.locs, Pt.cells, Pt.slots] at X352 l352 y352 z352 st352 hQ352
  subst l352 y352 z352
  obtain ⟨rfl, N352q, Kc352, E352_, Fo352, d352, b352, Gd352, Gb352, Fp352, Ed352, Fe352, Fh352, Ft352, V352⟩ := hQ352
  have N352 := Fr.app N0 N352q
  have Zs352 : n0 ≤ T352.heap.size := Nat.le_trans Zs347 Kc352.1
  have s353 : ∀ t, Steps p.tables e below (T352.setTop (mkF m 9 #[.val (.int xo), .val (.ref b347), .unset] [(.ref b347)])) t → Steps p.tables e below (T352.setTop (mkF m 7 #[.val (.int xo), .unset, .unset] [(.ref b347)])) t := by
    intro t kt
    refine XS.astoreN X352.here hx rfl (hb hby at_7) rfl rfl (l' := #[.val (.int xo), .val (.ref b347), .unset]) rfl ?_
    show Steps p.tables e below (T352.setTop (mkF m 8 #[.val (.int xo), .val (.ref b347), .unset] [])) t
    refine XS.aloadN X352.here hx rfl (hb hby at_8) rfl rfl ?_
    exact kt
  obtain ⟨cq354, kq354, qa354, qb354, qc354⟩ := isOf hZ rfl E352_
  obtain ⟨_, _, ⟨T354, L354, k354, n354⟩, -, X354, ⟨Lc354, hQ354, l354, y354, z354⟩, st354⟩ := X352.virtualBack hx (y := (⟨"com/example/tell_nothing/tellnothing/pepa/Expression", "isOpen", "()Z"⟩ : MethodName)) (z := (⟨"com/example/tell_nothing/tellnothing/pepa/Expression", "isOpen", "()Z"⟩ : MethodName)) hown (mvT hZ (hw _ (List.mem_of_getElem? (i := 30) rfl))) (mvT hZ (hw _ (List.mem_of_getElem? (i := 31) rfl))) (notFace_of_selects (args := #[]) (mvT hZ (hw _ (List.mem_of_getElem? (i := 33) rfl)))) (mvT hZ (hw _ (List.mem_of_getElem? (i := 33) rfl))) (mvT hZ (hw _ (List.mem_of_getElem? (i := 32) rfl))) (by decide) (backOf (W := 0) (rm4 l Z a0 hw [] b347 (0 : Int32) T352.heap n0 Zs352 Fo352) hZ (hw _ (List.mem_of_getElem? (i := 34) rfl)) (hw _ (List.mem_of_getElem? (i := 2) rfl)) (by decide) (by decide)) qa354 qc354 (g := (mkF m 9 #[.val (.int xo), .val (.ref b347), .unset] [(.ref b347)])) rfl (by rw [hml]; rfl) (Steps.refl _) (argsL := []) (rest := []) (lenOf pd_ocZ rfl) rfl (by show 2 * 0 + _ ≤ _; exact Nat.le_of_eq rfl) (hb hby at_9) (fun _ _ => ⟨rfl, rfl, (by decide : 5 + 0 ≤ _), (by decide : 43 + 0 ≤ _)⟩)
  dsimp only [Pt.U, Pt.locs, Pt.cells, Pt.slots] at X354 l354 y354 z354 st354 hQ354
  subst l354 y354 z354
  obtain ⟨rfl, N354q, e354q⟩ := hQ354
  have N354 := Fr.app N352 N354q
  have s355 : ∀ t, Steps p.tables e below (T354.setTop (mkF m 22 #[.val (.int xo), .val (.ref b347), .unset] [(.int (xo &&& (1 : Int32))), (.int (0 : Int32)), (.ref b347)])) t → Steps p.tables e below (T354.setTop (mkF m 12 #[.val (.int xo), .val (.ref b347), .unset] [(.int (fopen (0 : Int32)))])) t := by
    intro t kt
    refine XS.ifYes X354.here hx rfl (pc0 := 12) (pc' := 17) rfl (hb hby at_12) rfl ((if0 _ _).trans (teq (by decide +kernel)).1) (by decide) (by decide) ?_
    show Steps p.tables e below (T354.setTop (mkF m 17 #[.val (.int xo), .val (.ref b347), .unset] [])) t
    refine XS.aloadN X354.here hx rfl (hb hby at_17) rfl rfl ?_
    show Steps p.tables e below (T354.setTop (mkF m 18 #[.val (.int xo), .val (.ref b347), .unset] [(.ref b347)])) t
    refine XS.iconst X354.here hx rfl (hb hby at_18) ?_
    show Steps p.tables e below (T354.setTop (mkF m 19 #[.val (.int xo), .val (.ref b347), .unset] [(.int (0 : Int32)), (.ref b347)])) t
    refine XS.iloadN X354.here hx rfl (hb hby at_19) rfl ?_
    show Steps p.tables e below (T354.setTop (mkF m 20 #[.val (.int xo), .val (.ref b347), .unset] [(.int xo), (.int (0 : Int32)), (.ref b347)])) t
    refine XS.iconst X354.here hx rfl (hb hby at_20) ?_
    show Steps p.tables e below (T354.setTop (mkF m 21 #[.val (.int xo), .val (.ref b347), .unset] [(.int (1 : Int32)), (.int xo), (.int (0 : Int32)), (.ref b347)])) t
    refine XS.iand X354.here hx rfl (hb hby at_21) rfl ?_
    exact kt
  obtain ⟨_, _, ⟨T356, L356, k356, n356⟩, -, X356, ⟨Lc356, hQ356, l356, y356, z356⟩, st356⟩ := Jvm.LawKit.callS X354 hx (y := (⟨"com/example/tell_nothing/tellnothing/pepa/ExpressionIsOpenPinLaw", "step", "(Lcom/example/tell_nothing/tellnothing/pepa/Expression;II)I"⟩ : MethodName)) hown (mvT hZ (hw _ (List.mem_of_getElem? (i := 37) rfl))) (mvT hZ (hw _ (List.mem_of_getElem? (i := 38) rfl))) (mvT hZ (hw _ (List.mem_of_getElem? (i := 39) rfl))) (mvT hZ (hw _ (List.mem_of_getElem? (i := 40) rfl))) (by decide) (backOf (W := 0) (rm19 l Z a0 hw [] b347 d352 b352 0 (fun _ => .null) (xo &&& (1 : Int32)) T352.heap n0 Zs352 E352_ Fp352 Fo352 gn347 Ed352 Fe352 Fh352 Ft352 V352 Gd352 Gb352 (fun i h1 h2 => absurd h2 (by omega)) (Nat.le_trans (Nat.le_refl 0) (by decide))) hZ (hw _ (List.mem_of_getElem? (i := 40) rfl)) (hw _ (List.mem_of_getElem? (i := 39) rfl)) (by decide) (by decide)) (g := (mkF m 22 #[.val (.int xo), .val (.ref b347), .unset] [(.int (xo &&& (1 : Int32))), (.int (0 : Int32)), (.ref b347)])) rfl (by rw [hml]; rfl) (argsL := [(.ref b347), (.int (0 : Int32)), (.int (xo &&& (1 : Int32)))]) (rest := []) (lenOf pd_oLcom_example_tell_nothing_tellnothing_pepa_ExpressionsIIcI rfl) rfl (by show 2 * 0 + _ ≤ _; exact Nat.le_of_eq rfl) (hb hby at_22) (fun _ _ => ⟨rfl, e354q, (by decide : 5 + 1 ≤ _), (by decide : 43 + 2 ≤ _)⟩)
  dsimp only [Pt.U, Pt.locs, Pt.cells, Pt.slots] at X356 l356 y356 z356 st356 hQ356
  subst l356 y356 z356
  obtain ⟨rfl, N356q, Kc356, Ee356, Fp356, Fo356, fg356, Ed356, Fe356, Fh356, Ft356, V356, P356⟩ := hQ356
  have N356 := Fr.app N354 N356q
  have Zs356 : n0 ≤ T356.heap.size := Nat.le_trans Zs352 Kc356.1
  have hk356 : (own_nx 0 (xo &&& (1 : Int32))) ≤ 1 := own_nx_le _ (Nat.le_refl 0)
  have s357 : ∀ t, Steps p.tables e below (T356.setTop (mkF m 31 #[.val (.int xo), .val (.ref b347), .val (.int (own_i (own_nx 0 (xo &&& (1 : Int32)))))] [(.int (xo &&& (2 : Int32))), (.int (own_i (own_nx 0 (xo &&& (1 : Int32))))), (.ref b347)])) t → Steps p.tables e below (T356.setTop (mkF m 25 #[.val (.int xo), .val (.ref b347), .unset] [(.int (own_i (own_nx 0 (xo &&& (1 : Int32)))))])) t := by
    intro t kt
    refine XS.istoreN X356.here hx rfl (hb hby at_25) rfl (l' := #[.val (.int xo), .val (.ref b347), .val (.int (own_i (own_nx 0 (xo &&& (1 : Int32)))))]) rfl ?_
    show Steps p.tables e below (T356.setTop (mkF m 26 #[.val (.int xo), .val (.ref b347), .val (.int (own_i (own_nx 0 (xo &&& (1 : Int32)))))] [])) t
    refine XS.aloadN X356.here hx rfl (hb hby at_26) rfl rfl ?_
    show Steps p.tables e below (T356.setTop (mkF m 27 #[.val (.int xo), .val (.ref b347), .val (.int (own_i (own_nx 0 (xo &&& (1 : Int32)))))] [(.ref b347)])) t
    refine XS.iloadN X356.here hx rfl (hb hby at_27) rfl ?_
    show Steps p.tables e below (T356.setTop (mkF m 28 #[.val (.int xo), .val (.ref b347), .val (.int (own_i (own_nx 0 (xo &&& (1 : Int32)))))] [(.int (own_i (own_nx 0 (xo &&& (1 : Int32))))), (.ref b347)])) t
    refine XS.iloadN X356.here hx rfl (hb hby at_28) rfl ?_
    show Steps p.tables e below (T356.setTop (mkF m 29 #[.val (.int xo), .val (.ref b347), .val (.int (own_i (own_nx 0 (xo &&& (1 : Int32)))))] [(.int xo), (.int (own_i (own_nx 0 (xo &&& (1 : Int32))))), (.ref b347)])) t
    refine XS.iconst X356.here hx rfl (hb hby at_29) ?_
    show Steps p.tables e below (T356.setTop (mkF m 30 #[.val (.int xo), .val (.ref b347), .val (.int (own_i (own_nx 0 (xo &&& (1 : Int32)))))] [(.int (2 : Int32)), (.int xo), (.int (own_i (own_nx 0 (xo &&& (1 : Int32))))), (.ref b347)])) t
    refine XS.iand X356.here hx rfl (hb hby at_30) rfl ?_
    exact kt
  obtain ⟨_, _, ⟨T358, L358, k358, n358⟩, -, X358, ⟨Lc358, hQ358, l358, y358, z358⟩, st358⟩ := Jvm.LawKit.callS X356 hx (y := (⟨"com/example/tell_nothing/tellnothing/pepa/ExpressionIsOpenPinLaw", "step", "(Lcom/example/tell_nothing/tellnothing/pepa/Expression;II)I"⟩ : MethodName)) hown (mvT hZ (hw _ (List.mem_of_getElem? (i := 37) rfl))) (mvT hZ (hw _ (List.mem_of_getElem? (i := 38) rfl))) (mvT hZ (hw _ (List.mem_of_getElem? (i := 39) rfl))) (mvT hZ (hw _ (List.mem_of_getElem? (i := 40) rfl))) (by decide) (backOf (W := 0) (rm19 l Z a0 hw [] b347 d352 b352 (own_nx 0 (xo &&& (1 : Int32))) fg356 (xo &&& (2 : Int32)) T356.heap n0 Zs356 Ee356 Fp356 Fo356 gn347 Ed356 Fe356 Fh356 Ft356 V356 Gd352 Gb352 P356 (Nat.le_trans hk356 (by decide))) hZ (hw _ (List.mem_of_getElem? (i := 40) rfl)) (hw _ (List.mem_of_getElem? (i := 39) rfl)) (by decide) (by decide)) (g := (mkF m 31 #[.val (.int xo), .val (.ref b347), .val (.int (own_i (own_nx 0 (xo &&& (1 : Int32)))))] [(.int (xo &&& (2 : Int32))), (.int (own_i (own_nx 0 (xo &&& (1 : Int32))))), (.ref b347)])) rfl (by rw [hml]; rfl) (argsL := [(.ref b347), (.int (own_i (own_nx 0 (xo &&& (1 : Int32))))), (.int (xo &&& (2 : Int32)))]) (rest := []) (lenOf pd_oLcom_example_tell_nothing_tellnothing_pepa_ExpressionsIIcI rfl) rfl (by show 2 * 0 + _ ≤ _; exact Nat.le_of_eq rfl) (hb hby at_31) (fun _ _ => ⟨rfl, rfl, (by decide : 6 + 1 ≤ _), (by decide : 45 + 2 ≤ _)⟩)
  dsimp only [Pt.U, Pt.locs, Pt.cells, Pt.slots] at X358 l358 y358 z358 st358 hQ358
  subst l358 y358 z358
  obtain ⟨rfl, N358q, Kc358, Ee358, Fp358, Fo358, fg358, Ed358, Fe358, Fh358, Ft358, V358, P358⟩ := hQ358
  have N358 := Fr.app N356 N358q
  have Zs358 : n0 ≤ T358.heap.size := Nat.le_trans Zs356 Kc358.1
  have hk358 : (own_nx (own_nx 0 (xo &&& (1 : Int32))) (xo &&& (2 : Int32))) ≤ 2 := own_nx_le _ hk356
  have s359 : ∀ t, Steps p.tables e below (T358.setTop (mkF m 40 #[.val (.int xo), .val (.ref b347), .val (.int (own_i (own_nx (own_nx 0 (xo &&& (1 : Int32))) (xo &&& (2 : Int32)))))] [(.int (xo &&& (4 : Int32))), (.int (own_i (own_nx (own_nx 0 (xo &&& (1 : Int32))) (xo &&& (2 : Int32))))), (.ref b347)])) t → Steps p.tables e below (T358.setTop (mkF m 34 #[.val (.int xo), .val (.ref b347), .val (.int (own_i (own_nx 0 (xo &&& (1 : Int32)))))] [(.int (own_i (own_nx (own_nx 0 (xo &&& (1 : Int32))) (xo &&& (2 : Int32)))))])) t := by
    intro t kt
    refine XS.istoreN X358.here hx rfl (hb hby at_34) rfl (l' := #[.val (.int xo), .val (.ref b347), .val (.int (own_i (own_nx (own_nx 0 (xo &&& (1 : Int32))) (xo &&& (2 : Int32)))))]) rfl ?_
    show Steps p.tables e below (T358.setTop (mkF m 35 #[.val (.int xo), .val (.ref b347), .val (.int (own_i (own_nx (own_nx 0 (xo &&& (1 : Int32))) (xo &&& (2 : Int32)))))] [])) t
    refine XS.aloadN X358.here hx rfl (hb hby at_35) rfl rfl ?_
    show Steps p.tables e below (T358.setTop (mkF m 36 #[.val (.int xo), .val (.ref b347), .val (.int (own_i (own_nx (own_nx 0 (xo &&& (1 : Int32))) (xo &&& (2 : Int32)))))] [(.ref b347)])) t
    refine XS.iloadN X358.here hx rfl (hb hby at_36) rfl ?_
    show Steps p.tables e below (T358.setTop (mkF m 37 #[.val (.int xo), .val (.ref b347), .val (.int (own_i (own_nx (own_nx 0 (xo &&& (1 : Int32))) (xo &&& (2 : Int32)))))] [(.int (own_i (own_nx (own_nx 0 (xo &&& (1 : Int32))) (xo &&& (2 : Int32))))), (.ref b347)])) t
    refine XS.iloadN X358.here hx rfl (hb hby at_37) rfl ?_
    show Steps p.tables e below (T358.setTop (mkF m 38 #[.val (.int xo), .val (.ref b347), .val (.int (own_i (own_nx (own_nx 0 (xo &&& (1 : Int32))) (xo &&& (2 : Int32)))))] [(.int xo), (.int (own_i (own_nx (own_nx 0 (xo &&& (1 : Int32))) (xo &&& (2 : Int32))))), (.ref b347)])) t
    refine XS.iconst X358.here hx rfl (hb hby at_38) ?_
    show Steps p.tables e below (T358.setTop (mkF m 39 #[.val (.int xo), .val (.ref b347), .val (.int (own_i (own_nx (own_nx 0 (xo &&& (1 : Int32))) (xo &&& (2 : Int32)))))] [(.int (4 : Int32)), (.int xo), (.int (own_i (own_nx (own_nx 0 (xo &&& (1 : Int32))) (xo &&& (2 : Int32))))), (.ref b347)])) t
    refine XS.iand X358.here hx rfl (hb hby at_39) rfl ?_
    exact kt
  obtain ⟨_, _, ⟨T360, L360, k360, n360⟩, -, X360, ⟨Lc360, hQ360, l360, y360, z360⟩, st360⟩ := Jvm.LawKit.callS X358 hx (y := (⟨"com/example/tell_nothing/tellnothing/pepa/ExpressionIsOpenPinLaw", "step", "(Lcom/example/tell_nothing/tellnothing/pepa/Expression;II)I"⟩ : MethodName)) hown (mvT hZ (hw _ (List.mem_of_getElem? (i := 37) rfl))) (mvT hZ (hw _ (List.mem_of_getElem? (i := 38) rfl))) (mvT hZ (hw _ (List.mem_of_getElem? (i := 39) rfl))) (mvT hZ (hw _ (List.mem_of_getElem? (i := 40) rfl))) (by decide) (backOf (W := 0) (rm19 l Z a0 hw [] b347 d352 b352 (own_nx (own_nx 0 (xo &&& (1 : Int32))) (xo &&& (2 : Int32))) fg358 (xo &&& (4 : Int32)) T358.heap n0 Zs358 Ee358 Fp358 Fo358 gn347 Ed358 Fe358 Fh358 Ft358 V358 Gd352 Gb352 P358 (Nat.le_trans hk358 (by decide))) hZ (hw _ (List.mem_of_getElem? (i := 40) rfl)) (hw _ (List.mem_of_getElem? (i := 39) rfl)) (by decide) (by decide)) (g := (mkF m 40 #[.val (.int xo), .val (.ref b347), .val (.int (own_i (own_nx (own_nx 0 (xo &&& (1 : Int32))) (xo &&& (2 : Int32)))))] [(.int (xo &&& (4 : Int32))), (.int (own_i (own_nx (own_nx 0 (xo &&& (1 : Int32))) (xo &&& (2 : Int32))))), (.ref b347)])) rfl (by rw [hml]; rfl) (argsL := [(.ref b347), (.int (own_i (own_nx (own_nx 0 (xo &&& (1 : Int32))) (xo &&& (2 : Int32))))), (.int (xo &&& (4 : Int32)))]) (rest := []) (lenOf pd_oLcom_example_tell_nothing_tellnothing_pepa_ExpressionsIIcI rfl) rfl (by show 2 * 0 + _ ≤ _; exact Nat.le_of_eq rfl) (hb hby at_40) (fun _ _ => ⟨rfl, rfl, (by decide : 7 + 1 ≤ _), (by decide : 47 + 2 ≤ _)⟩)
  dsimp only [Pt.U, Pt.locs, Pt.cells, Pt.slots] at X360 l360 y360 z360 st360 hQ360
  subst l360 y360 z360
  obtain ⟨rfl, N360q, Kc360, Ee360, Fp360, Fo360, fg360, Ed360, Fe360, Fh360, Ft360, V360, P360⟩ := hQ360
  have N360 := Fr.app N358 N360q
  have Zs360 : n0 ≤ T360.heap.size := Nat.le_trans Zs358 Kc360.1
  have hk360 : (own_nx (own_nx (own_nx 0 (xo &&& (1 : Int32))) (xo &&& (2 : Int32))) (xo &&& (4 : Int32))) ≤ 3 := own_nx_le _ hk358
  have s361 : ∀ t, Steps p.tables e below (T360.setTop (mkF m 50 #[.val (.int xo), .val (.ref b347), .val (.int (own_i (own_nx (own_nx (own_nx 0 (xo &&& (1 : Int32))) (xo &&& (2 : Int32))) (xo &&& (4 : Int32)))))] [(.int (xo &&& (8 : Int32))), (.int (own_i (own_nx (own_nx (own_nx 0 (xo &&& (1 : Int32))) (xo &&& (2 : Int32))) (xo &&& (4 : Int32))))), (.ref b347)])) t → Steps p.tables e below (T360.setTop (mkF m 43 #[.val (.int xo), .val (.ref b347), .val (.int (own_i (own_nx (own_nx 0 (xo &&& (1 : Int32))) (xo &&& (2 : Int32)))))] [(.int (own_i (own_nx (own_nx (own_nx 0 (xo &&& (1 : Int32))) (xo &&& (2 : Int32))) (xo &&& (4 : Int32)))))])) t := by
    intro t kt
    refine XS.istoreN X360.here hx rfl (hb hby at_43) rfl (l' := #[.val (.int xo), .val (.ref b347), .val (.int (own_i (own_nx (own_nx (own_nx 0 (xo &&& (1 : Int32))) (xo &&& (2 : Int32))) (xo &&& (4 : Int32)))))]) rfl ?_
    show Steps p.tables e below (T360.setTop (mkF m 44 #[.val (.int xo), .val (.ref b347), .val (.int (own_i (own_nx (own_nx (own_nx 0 (xo &&& (1 : Int32))) (xo &&& (2 : Int32))) (xo &&& (4 : Int32)))))] [])) t
    refine XS.aloadN X360.here hx rfl (hb hby at_44) rfl rfl ?_
    show Steps p.tables e below (T360.setTop (mkF m 45 #[.val (.int xo), .val (.ref b347), .val (.int (own_i (own_nx (own_nx (own_nx 0 (xo &&& (1 : Int32))) (xo &&& (2 : Int32))) (xo &&& (4 : Int32)))))] [(.ref b347)])) t
    refine XS.iloadN X360.here hx rfl (hb hby at_45) rfl ?_
    show Steps p.tables e below (T360.setTop (mkF m 46 #[.val (.int xo), .val (.ref b347), .val (.int (own_i (own_nx (own_nx (own_nx 0 (xo &&& (1 : Int32))) (xo &&& (2 : Int32))) (xo &&& (4 : Int32)))))] [(.int (own_i (own_nx (own_nx (own_nx 0 (xo &&& (1 : Int32))) (xo &&& (2 : Int32))) (xo &&& (4 : Int32))))), (.ref b347)])) t
    refine XS.iloadN X360.here hx rfl (hb hby at_46) rfl ?_
    show Steps p.tables e below (T360.setTop (mkF m 47 #[.val (.int xo), .val (.ref b347), .val (.int (own_i (own_nx (own_nx (own_nx 0 (xo &&& (1 : Int32))) (xo &&& (2 : Int32))) (xo &&& (4 : Int32)))))] [(.int xo), (.int (own_i (own_nx (own_nx (own_nx 0 (xo &&& (1 : Int32))) (xo &&& (2 : Int32))) (xo &&& (4 : Int32))))), (.ref b347)])) t
    refine XS.bipush X360.here hx rfl (hb hby at_47) ?_
    show Steps p.tables e below (T360.setTop (mkF m 49 #[.val (.int xo), .val (.ref b347), .val (.int (own_i (own_nx (own_nx (own_nx 0 (xo &&& (1 : Int32))) (xo &&& (2 : Int32))) (xo &&& (4 : Int32)))))] [(.int (8 : Int32)), (.int xo), (.int (own_i (own_nx (own_nx (own_nx 0 (xo &&& (1 : Int32))) (xo &&& (2 : Int32))) (xo &&& (4 : Int32))))), (.ref b347)])) t
    refine XS.iand X360.here hx rfl (hb hby at_49) rfl ?_
    exact kt
  obtain ⟨_, _, ⟨T362, L362, k362, n362⟩, -, X362, ⟨Lc362, hQ362, l362, y362, z362⟩, st362⟩ := Jvm.LawKit.callS X360 hx (y := (⟨"com/example/tell_nothing/tellnothing/pepa/ExpressionIsOpenPinLaw", "step", "(Lcom/example/tell_nothing/tellnothing/pepa/Expression;II)I"⟩ : MethodName)) hown (mvT hZ (hw _ (List.mem_of_getElem? (i := 37) rfl))) (mvT hZ (hw _ (List.mem_of_getElem? (i := 38) rfl))) (mvT hZ (hw _ (List.mem_of_getElem? (i := 39) rfl))) (mvT hZ (hw _ (List.mem_of_getElem? (i := 40) rfl))) (by decide) (backOf (W := 0) (rm19 l Z a0 hw [] b347 d352 b352 (own_nx (own_nx (own_nx 0 (xo &&& (1 : Int32))) (xo &&& (2 : Int32))) (xo &&& (4 : Int32))) fg360 (xo &&& (8 : Int32)) T360.heap n0 Zs360 Ee360 Fp360 Fo360 gn347 Ed360 Fe360 Fh360 Ft360 V360 Gd352 Gb352 P360 (Nat.le_trans hk360 (by decide))) hZ (hw _ (List.mem_of_getElem? (i := 40) rfl)) (hw _ (List.mem_of_getElem? (i := 39) rfl)) (by decide) (by decide)) (g := (mkF m 50 #[.val (.int xo), .val (.ref b347), .val (.int (own_i (own_nx (own_nx (own_nx 0 (xo &&& (1 : Int32))) (xo &&& (2 : Int32))) (xo &&& (4 : Int32)))))] [(.int (xo &&& (8 : Int32))), (.int (own_i (own_nx (own_nx (own_nx 0 (xo &&& (1 : Int32))) (xo &&& (2 : Int32))) (xo &&& (4 : Int32))))), (.ref b347)])) rfl (by rw [hml]; rfl) (argsL := [(.ref b347), (.int (own_i (own_nx (own_nx (own_nx 0 (xo &&& (1 : Int32))) (xo &&& (2 : Int32))) (xo &&& (4 : Int32))))), (.int (xo &&& (8 : Int32)))]) (rest := []) (lenOf pd_oLcom_example_tell_nothing_tellnothing_pepa_ExpressionsIIcI rfl) rfl (by show 2 * 0 + _ ≤ _; exact Nat.le_of_eq rfl) (hb hby at_50) (fun _ _ => ⟨rfl, rfl, (by decide : 8 + 1 ≤ _), (by decide : 49 + 2 ≤ _)⟩)
  dsimp only [Pt.U, Pt.locs, Pt.cells, Pt.slots] at X362 l362 y362 z362 st362 hQ362
  subst l362 y362 z362
  obtain ⟨rfl, N362q, Kc362, Ee362, Fp362, Fo362, fg362, Ed362, Fe362, Fh362, Ft362, V362, P362⟩ := hQ362
  have N362 := Fr.app N360 N362q
  have Zs362 : n0 ≤ T362.heap.size := Nat.le_trans Zs360 Kc362.1
  have hk362 : (own_nx (own_nx (own_nx (own_nx 0 (xo &&& (1 : Int32))) (xo &&& (2 : Int32))) (xo &&& (4 : Int32))) (xo &&& (8 : Int32))) ≤ 4 := own_nx_le _ hk360
  have s363 : ∀ t, Steps p.tables e below (T362.setTop (mkF m 55 #[.val (.int xo), .val (.ref b347), .val (.int (own_i (own_nx (own_nx (own_nx (own_nx 0 (xo &&& (1 : Int32))) (xo &&& (2 : Int32))) (xo &&& (4 : Int32))) (xo &&& (8 : Int32)))))] [(.int (own_i (own_nx (own_nx (own_nx (own_nx 0 (xo &&& (1 : Int32))) (xo &&& (2 : Int32))) (xo &&& (4 : Int32))) (xo &&& (8 : Int32)))))])) t → Steps p.tables e below (T362.setTop (mkF m 53 #[.val (.int xo), .val (.ref b347), .val (.int (own_i (own_nx (own_nx (own_nx 0 (xo &&& (1 : Int32))) (xo &&& (2 : Int32))) (xo &&& (4 : Int32)))))] [(.int (own_i (own_nx (own_nx (own_nx (own_nx 0 (xo &&& (1 : Int32))) (xo &&& (2 : Int32))) (xo &&& (4 : Int32))) (xo &&& (8 : Int32)))))])) t := by
    intro t kt
    refine XS.istoreN X362.here hx rfl (hb hby at_53) rfl (l' := #[.val (.int xo), .val (.ref b347), .val (.int (own_i (own_nx (own_nx (own_nx (own_nx 0 (xo &&& (1 : Int32))) (xo &&& (2 : Int32))) (xo &&& (4 : Int32))) (xo &&& (8 : Int32)))))]) rfl ?_
    show Steps p.tables e below (T362.setTop (mkF m 54 #[.val (.int xo), .val (.ref b347), .val (.int (own_i (own_nx (own_nx (own_nx (own_nx 0 (xo &&& (1 : Int32))) (xo &&& (2 : Int32))) (xo &&& (4 : Int32))) (xo &&& (8 : Int32)))))] [])) t
    refine XS.iloadN X362.here hx rfl (hb hby at_54) rfl ?_
    exact kt
  have hfin : ¬ ((own_i (own_nx (own_nx (own_nx (own_nx 0 (xo &&& (1 : Int32))) (xo &&& (2 : Int32))) (xo &&& (4 : Int32))) (xo &&& (8 : Int32)))) < (0 : Int32)) := own_nn _ hk362
  have s364 : ∀ t, Steps p.tables e below (T362.setTop (mkF m 63 #[.val (.int xo), .val (.ref b347), .val (.int (own_i (own_nx (own_nx (own_nx (own_nx 0 (xo &&& (1 : Int32))) (xo &&& (2 : Int32))) (xo &&& (4 : Int32))) (xo &&& (8 : Int32)))))] [(.int (1 : Int32))])) t → Steps p.tables e below (T362.setTop (mkF m 55 #[.val (.int xo), .val (.ref b347), .val (.int (own_i (own_nx (own_nx (own_nx (own_nx 0 (xo &&& (1 : Int32))) (xo &&& (2 : Int32))) (xo &&& (4 : Int32))) (xo &&& (8 : Int32)))))] [(.int (own_i (own_nx (own_nx (own_nx (own_nx 0 (xo &&& (1 : Int32))) (xo &&& (2 : Int32))) (xo &&& (4 : Int32))) (xo &&& (8 : Int32)))))])) t := by
    intro t kt
    refine XS.ifNo X362.here hx rfl (hb hby at_55) rfl ((if0 _ _).trans (flt hfin).1) ?_
    show Steps p.tables e below (T362.setTop (mkF m 58 #[.val (.int xo), .val (.ref b347), .val (.int (own_i (own_nx (own_nx (own_nx (own_nx 0 (xo &&& (1 : Int32))) (xo &&& (2 : Int32))) (xo &&& (4 : Int32))) (xo &&& (8 : Int32)))))] [])) t
    refine XS.iconst X362.here hx rfl (hb hby at_58) ?_
    show Steps p.tables e below (T362.setTop (mkF m 59 #[.val (.int xo), .val (.ref b347), .val (.int (own_i (own_nx (own_nx (own_nx (own_nx 0 (xo &&& (1 : Int32))) (xo &&& (2 : Int32))) (xo &&& (4 : Int32))) (xo &&& (8 : Int32)))))] [(.int (1 : Int32))])) t
    refine XS.goto X362.here hx rfl (pc0 := 59) (pc' := 63) rfl (hb hby at_59) (by decide) (by decide) ?_
    exact kt
  obtain ⟨fs_, hr, hrun, hended, hW, hsame⟩ := X362.leave (hlocks := BodyLoose.notSynchronized Bd) (v := some (.int (1 : Int32))) (fun h => by rw [Bd.returns] at h; cases h)
  refine ⟨_, _, pre0 _ (st347 _ (s351 _ (st352.trans (s353 _ (st354.trans (s355 _ (st356 _ (s357 _ (st358 _ (s359 _ (st360 _ (s361 _ (st362 _ (s363 _ (s364 _ (?_)))))))))))))))), hrun, hended, _, _, rfl, ?_, ⟨_, rfl⟩, hW, hsame.mono (by decide) (by decide)⟩
  · show Steps p.tables e below (T362.setTop (mkF m 63 #[.val (.int xo), .val (.ref b347), .val (.int (own_i (own_nx (own_nx (own_nx (own_nx 0 (xo &&& (1 : Int32))) (xo &&& (2 : Int32))) (xo &&& (4 : Int32))) (xo &&& (8 : Int32)))))] [(.int (1 : Int32))])) _
    exact retN X362 hx (t := .boolean) Bd.returns (by simp) (hb hby at_63) hr
  · show Q0 Z xo h0 n0 _ T362.heap _
    exact ⟨rfl, N362⟩
set_option maxRecDepth 65536 in
set_option maxHeartbeats 40000000 in
theorem comes_1 {Post : Tables → Env → Array Value → State → Outcome → State → Prop} (hpost : ∀ tb e args s v u, (limb_1_1.after args s (.returned v) u = true ∧ limb_1_2.after args s (.returned v) u = true ∧ True) → FrameEnd s (.returned v) u (Jvm.fieldLocs frame_1_writes args s ++ Jvm.arrayLocs frame_1_arrays args s ++ Jvm.staticLocs frame_1_statics s) 32 192 → Post tb e args s (.returned v) u) :
    ArmFor flags0 classFile x code maxLocals ret World_1 tables_1 room_1 Calls_1 rest_1 Pre_1 Post := by
  intro l hfl _ _ p e ha hc hk s m args below hf hA hF happ hP
  obtain ⟨hcalls, hrest, hpre⟩ := hP
  obtain ⟨-, -, -, hnamed, -, -, -, hat⟩ := (Spec.applies_iff hf).mp happ
  obtain ⟨hg, hn⟩ := and_e (Cond.before_iff.mp (show (Jvm.Cond.and given_1 narrow_1).before args s = true from hpre))
  obtain ⟨ha0, hb0⟩ := and_e hg
  obtain ⟨w0, rfl⟩ : ∃ w0 : Value, args = #[w0] := by
    have hs : args.size = 1 := by simpa [Cond.value, given_1] using ha0
    obtain ⟨L⟩ := args
    match L, hs with
    | [w0], _ => exact ⟨w0, rfl⟩
  have hw := fun d (hd : d ∈ tables_1) => atoms_spec (ws := Jvm.Cond.code x code maxLocals ret :: tables_1) hat d (List.mem_cons_of_mem _ hd)
  obtain ⟨i0, ei0⟩ := is_v hb0
  obtain rfl : w0 = (.int i0) := Option.some.inj ei0
  obtain ⟨n, o, h1, h2, h3, _, L, rfl, ⟨rfl, N⟩, hq⟩ := rm0 l s _ hw tables_1 i0 s.heap s.heap.size (Nat.le_refl _)  p e ha hc hk s m _ below hf ((Spec.applies_iff_loose hf).mp happ).1 ⟨rfl, State.Warmed39.refl s, rfl⟩ trivial
  refine ⟨n, _, h1, h2, h3, hpost _ _ _ _ _ _ ⟨Cond.after_iff.mpr rfl, Cond.after_iff.mpr (eq_i res_at (Term.int_eval (1)) rfl), trivial⟩ ⟨hq.1, hq.2.1, (hq.2.2.sift fun y hy => Or.inr (N y hy)).mono (by decide) (by decide)⟩⟩
theorem main_1_1 : Claimed_1_1 := comes_1 fun _ _ _ _ _ _ h hF => ⟨h.1, hF⟩
theorem main_1_2 : Claimed_1_2 := comes_1 fun _ _ _ _ _ _ h hF => ⟨h.2.1, hF⟩
end Jvm.Pilot.@@N@@
namespace Jvm.Pilot.@@N@@
open Jvm Jvm.ClassFile Sem Op Lib Jvm.Free Jvm.Stand Jvm.Pilot.@@N@@.Jvm.D
/-! MADE BY PROGRAM (witnessworld.py) out of the Statement's table words and the real class files: 18 classes; the members and pool entries that the words name. The judged class is class 1, her method 2. -/
namespace start1
open Jvm.ClassFile
def u (s : String) : CpInfo := .utf8 (stringToUtf16 s)
/-- a pool by its gaps: so many unusable entries, then the entry; so many at the end -/
def gap : Nat → List CpInfo → List CpInfo
  | 0, r => r
  | n + 1, r => .unusable :: gap n r
def poolList (es : List (Nat × CpInfo)) (last : Nat) : List CpInfo := es.foldr (fun e r => gap e.1 (e.2 :: r)) (gap last [])
def pool (es : List (Nat × CpInfo)) (last : Nat) : Array CpInfo := ⟨poolList es last⟩
def fileOf (pool : Array CpInfo) (this : Nat) (attrs : Array Attribute := #[]) (ms : Array MethodInfo := #[]) (fl : Nat := 33) (sup : Nat := 0) (ifs : Array Nat := #[]) (fds : Array FieldInfo := #[]) : ClassFile where
  minorVersion := 0
  majorVersion := 65
  constantPool := pool
  accessFlags := fl
  thisClass := this
  superClass := sup
  interfaces := ifs
  fields := fds
  methods := ms
  attributes := attrs
def plain (name : String) (sup : Option ClassId) : Class where
  name := name
  kind := .ordinary
  loader := none
  accessFlags := 33
  super := sup
  interfaces := #[]
  cf := none
  fields := #[]
  methods := #[]
  instanceTypes := #[]
  staticTypes := #[]
  resolved := #[]
  callSites := []
  init := .initialized
  statics := none
  mirror := none

def pool0 : Array CpInfo := pool [(5, u "<init>"), (0, u "()V"), (1, .class_ 10), (1, u "java/lang/Object")] 113

def k0c0 : Code := { maxStack := 0, maxLocals := 1, code := object_method_1_code, exceptionTable := #[], attributes := #[] }
def k0m0 : Method := { name := "<init>", desc := "()V", sig := { parameters := [], returnType := none }, accessFlags := 1, code := some k0c0 }
/-- java/lang/Object -/
def k0 : Class := { plain "java/lang/Object" none with
  accessFlags := 33
  interfaces := #[]
  cf := some (fileOf pool0 8 #[] #[{ accessFlags := 1, nameIndex := 5, descriptorIndex := 6, attributes := #[] }] 33 0 #[] #[])
  fields := #[]
  methods := #[k0m0]
  instanceTypes := #[]
  staticTypes := #[]
  resolved := Array.replicate 124 none
  statics := none }

def pool1 : Array CpInfo := pool [(2, .class_ 4), (0, .nameAndType 5 6), (0, u "java/lang/Object"), (0, u "<init>"), (0, u "()V"), (0, .methodref 8 9), (0, .class_ 10), (0, .nameAndType 11 6), (0, u "com/example/tell_nothing/tellnothing/pepa/Expression"), (0, u "open"), (0, .methodref 8 13), (0, .nameAndType 14 15), (0, u "close"), (0, u "()Z"), (0, .methodref 8 17), (0, .nameAndType 18 15), (0, u "isOpen"), (0, .methodref 8 3), (0, .methodref 21 22), (0, .class_ 23), (0, .nameAndType 24 25), (0, u "com/example/tell_nothing/tellnothing/pepa/ExpressionIsOpenPinLaw"), (0, u "step"), (0, u "(Lcom/example/tell_nothing/tellnothing/pepa/Expression;II)I"), (8, u "law"), (0, u "(I)Z")] 2

def k1m0 : Method := { name := "<init>", desc := "()V", sig := { parameters := [], returnType := none }, accessFlags := 2, code := none }
def k1c1 : Code := { maxStack := 2, maxLocals := 5, code := method_2_code, exceptionTable := #[], attributes := #[] }
def k1m1 : Method := { name := "step", desc := "(Lcom/example/tell_nothing/tellnothing/pepa/Expression;II)I", sig := { parameters := [(.object "com/example/tell_nothing/tellnothing/pepa/Expression"), .int, .int], returnType := some .int }, accessFlags := 10, code := some k1c1 }
def k1c2 : Code := { maxStack := 4, maxLocals := 3, code := code, exceptionTable := #[], attributes := #[] }
def k1m2 : Method := { name := "law", desc := "(I)Z", sig := { parameters := [.int], returnType := some .boolean }, accessFlags := 9, code := some k1c2 }
/-- com/example/tell_nothing/tellnothing/pepa/ExpressionIsOpenPinLaw -/
def k1 : Class := { plain "com/example/tell_nothing/tellnothing/pepa/ExpressionIsOpenPinLaw" (some 0) with
  accessFlags := 49
  interfaces := #[]
  cf := some (fileOf pool1 21 #[] #[{ accessFlags := 2, nameIndex := 5, descriptorIndex := 6, attributes := #[] }, { accessFlags := 10, nameIndex := 24, descriptorIndex := 25, attributes := #[] }, { accessFlags := 9, nameIndex := 34, descriptorIndex := 35, attributes := #[] }] 49 2 #[] #[])
  fields := #[]
  methods := #[k1m0, k1m1, k1m2]
  instanceTypes := #[]
  staticTypes := #[]
  resolved := Array.replicate 38 none
  statics := none }

def pool2 : Array CpInfo := pool [(1, .methodref 2 3), (0, .class_ 4), (0, .nameAndType 5 6), (0, u "java/lang/Object"), (0, u "<init>"), (0, u "()V"), (0, .class_ 8), (0, u "java/util/ArrayDeque"), (0, .methodref 7 3), (0, .fieldref 11 12), (0, .class_ 13), (0, .nameAndType 14 15), (0, u "com/example/tell_nothing/tellnothing/pepa/Expression"), (0, u "operands"), (0, u "Ljava/util/Deque;"), (0, .fieldref 11 17), (0, .nameAndType 18 15), (0, u "pending"), (0, .interfaceMethodref 20 21), (0, .class_ 22), (0, .nameAndType 23 24), (0, u "java/util/Deque"), (0, u "push"), (0, u "(Ljava/lang/Object;)V"), (0, .class_ 26), (0, u "com/example/tell_nothing/tellnothing/pepa/Expression$Pending"), (0, .methodref 25 28), (0, .nameAndType 5 29), (0, u "(Lcom/example/tell_nothing/tellnothing/pepa/Expression$Operator;I)V"), (0, .interfaceMethodref 20 31), (0, .nameAndType 32 33), (0, u "pop"), (0, u "()Ljava/lang/Object;"), (7, .class_ 43), (1, u "com/example/tell_nothing/tellnothing/pepa/Expression$Application"), (5, u "()Z"), (0, .interfaceMethodref 20 51), (0, .nameAndType 52 33), (0, u "peek"), (0, .fieldref 25 54), (0, .nameAndType 55 56), (0, u "operator"), (0, u "Lcom/example/tell_nothing/tellnothing/pepa/Expression$Operator;"), (1, .class_ 60), (1, u "com/example/tell_nothing/tellnothing/pepa/Expression$Operator"), (1, u "I"), (7, .fieldref 11 71), (0, .nameAndType 72 62), (0, u "openParentheses"), (2, u "isOpen"), (47, u "open"), (0, u "close")] 10

def k2c0 : Code := { maxStack := 3, maxLocals := 1, code := prog_33_method_1_code, exceptionTable := #[], attributes := #[] }
def k2m0 : Method := { name := "<init>", desc := "()V", sig := { parameters := [], returnType := none }, accessFlags := 0, code := some k2c0 }
def k2c1 : Code := { maxStack := 5, maxLocals := 1, code := prog_33_method_6_code, exceptionTable := #[], attributes := #[] }
def k2m1 : Method := { name := "open", desc := "()V", sig := { parameters := [], returnType := none }, accessFlags := 0, code := some k2c1 }
def k2c2 : Code := { maxStack := 3, maxLocals := 1, code := prog_33_method_7_code, exceptionTable := #[], attributes := #[] }
def k2m2 : Method := { name := "close", desc := "()Z", sig := { parameters := [], returnType := some .boolean }, accessFlags := 0, code := some k2c2 }
def k2c3 : Code := { maxStack := 1, maxLocals := 1, code := prog_33_method_8_code, exceptionTable := #[], attributes := #[] }
def k2m3 : Method := { name := "isOpen", desc := "()Z", sig := { parameters := [], returnType := some .boolean }, accessFlags := 0, code := some k2c3 }
/-- com/example/tell_nothing/tellnothing/pepa/Expression -/
def k2 : Class := { plain "com/example/tell_nothing/tellnothing/pepa/Expression" (some 0) with
  accessFlags := 48
  interfaces := #[]
  cf := some (fileOf pool2 11 #[.nestMembers #[25, 58, 41]] #[{ accessFlags := 0, nameIndex := 5, descriptorIndex := 6, attributes := #[] }, { accessFlags := 0, nameIndex := 123, descriptorIndex := 6, attributes := #[] }, { accessFlags := 0, nameIndex := 124, descriptorIndex := 49, attributes := #[] }, { accessFlags := 0, nameIndex := 75, descriptorIndex := 49, attributes := #[] }] 48 2 #[] #[{ accessFlags := 18, nameIndex := 14, descriptorIndex := 15, attributes := #[] }, { accessFlags := 18, nameIndex := 18, descriptorIndex := 15, attributes := #[] }, { accessFlags := 2, nameIndex := 72, descriptorIndex := 62, attributes := #[] }])
  fields := #[{ name := "operands", type := (.object "java/util/Deque"), accessFlags := 18, slot := 0, constantValue := 0 }, { name := "pending", type := (.object "java/util/Deque"), accessFlags := 18, slot := 1, constantValue := 0 }, { name := "openParentheses", type := .int, accessFlags := 2, slot := 2, constantValue := 0 }]
  methods := #[k2m0, k2m1, k2m2, k2m3]
  instanceTypes := #[(.object "java/util/Deque"), (.object "java/util/Deque"), .int]
  staticTypes := #[]
  resolved := (Array.replicate 135 none).setIfInBounds 53 (some (.field 12 0))
  statics := none }

def pool3 : Array CpInfo := pool [(8, .class_ 10), (1, u "java/lang/Iterable"), (24, .class_ 36), (0, u "java/lang/Object")] 25

/-- java/lang/Iterable -/
def k3 : Class := { plain "java/lang/Iterable" (some 0) with
  accessFlags := 1537
  interfaces := #[]
  cf := some (fileOf pool3 8 #[] #[] 1537 35 #[] #[])
  fields := #[]
  methods := #[]
  instanceTypes := #[]
  staticTypes := #[]
  resolved := Array.replicate 62 none
  statics := none }

def pool4 : Array CpInfo := pool [(10, .class_ 12), (1, u "java/util/Collection"), (47, .class_ 61), (0, u "java/lang/Object"), (0, .class_ 63), (0, u "java/lang/Iterable")] 51

/-- java/util/Collection -/
def k4 : Class := { plain "java/util/Collection" (some 0) with
  accessFlags := 1537
  interfaces := #[3]
  cf := some (fileOf pool4 10 #[] #[] 1537 60 #[62] #[])
  fields := #[]
  methods := #[]
  instanceTypes := #[]
  staticTypes := #[]
  resolved := Array.replicate 115 none
  statics := none }

def pool5 : Array CpInfo := pool [(1, .methodref 2 3), (0, .class_ 4), (0, .nameAndType 5 6), (0, u "java/lang/Object"), (0, u "<init>"), (0, u "()V"), (1, .class_ 10), (1, u "java/util/AbstractCollection"), (66, .class_ 78), (0, u "java/util/Collection")] 81

def k5c0 : Code := { maxStack := 1, maxLocals := 1, code := jdk_22_method_1_code, exceptionTable := #[], attributes := #[] }
def k5m0 : Method := { name := "<init>", desc := "()V", sig := { parameters := [], returnType := none }, accessFlags := 4, code := some k5c0 }
/-- java/util/AbstractCollection -/
def k5 : Class := { plain "java/util/AbstractCollection" (some 0) with
  accessFlags := 1057
  interfaces := #[4]
  cf := some (fileOf pool5 8 #[] #[{ accessFlags := 4, nameIndex := 5, descriptorIndex := 6, attributes := #[] }] 1057 2 #[77] #[])
  fields := #[]
  methods := #[k5m0]
  instanceTypes := #[]
  staticTypes := #[]
  resolved := Array.replicate 160 none
  statics := none }

def pool6 : Array CpInfo := pool [(1, .class_ 2), (0, u "java/util/Queue"), (0, .class_ 4), (0, u "java/lang/Object"), (0, .class_ 6), (0, u "java/util/Collection")] 14

/-- java/util/Queue -/
def k6 : Class := { plain "java/util/Queue" (some 0) with
  accessFlags := 1537
  interfaces := #[4]
  cf := some (fileOf pool6 1 #[] #[] 1537 3 #[5] #[])
  fields := #[]
  methods := #[]
  instanceTypes := #[]
  staticTypes := #[]
  resolved := Array.replicate 21 none
  statics := none }

def pool7 : Array CpInfo := pool [(8, .class_ 10), (1, u "java/util/SequencedCollection"), (15, .class_ 27), (0, u "java/lang/Object"), (0, .class_ 29), (0, u "java/util/Collection")] 27

/-- java/util/SequencedCollection -/
def k7 : Class := { plain "java/util/SequencedCollection" (some 0) with
  accessFlags := 1537
  interfaces := #[4]
  cf := some (fileOf pool7 8 #[] #[] 1537 26 #[28] #[])
  fields := #[]
  methods := #[]
  instanceTypes := #[]
  staticTypes := #[]
  resolved := Array.replicate 57 none
  statics := none }

def pool8 : Array CpInfo := pool [(8, .class_ 10), (1, u "java/util/Deque"), (2, .class_ 14), (0, u "java/lang/Object"), (0, .class_ 16), (0, u "java/util/Queue"), (0, .class_ 18), (0, u "java/util/SequencedCollection"), (1, u "(Ljava/lang/Object;)V"), (8, u "()Ljava/lang/Object;"), (15, u "peek"), (3, u "push"), (0, u "pop")] 19

def k8m0 : Method := { name := "peek", desc := "()Ljava/lang/Object;", sig := { parameters := [], returnType := some (.object "java/lang/Object") }, accessFlags := 1025, code := none }
def k8m1 : Method := { name := "push", desc := "(Ljava/lang/Object;)V", sig := { parameters := [(.object "java/lang/Object")], returnType := none }, accessFlags := 1025, code := none }
def k8m2 : Method := { name := "pop", desc := "()Ljava/lang/Object;", sig := { parameters := [], returnType := some (.object "java/lang/Object") }, accessFlags := 1025, code := none }
/-- java/util/Deque -/
def k8 : Class := { plain "java/util/Deque" (some 0) with
  accessFlags := 1537
  interfaces := #[6, 7]
  cf := some (fileOf pool8 8 #[] #[{ accessFlags := 1025, nameIndex := 45, descriptorIndex := 29, attributes := #[] }, { accessFlags := 1025, nameIndex := 49, descriptorIndex := 20, attributes := #[] }, { accessFlags := 1025, nameIndex := 50, descriptorIndex := 29, attributes := #[] }] 1537 13 #[15, 17] #[])
  fields := #[]
  methods := #[k8m0, k8m1, k8m2]
  instanceTypes := #[]
  staticTypes := #[]
  resolved := Array.replicate 70 none
  statics := none }

def pool9 : Array CpInfo := pool [(1, .class_ 2), (0, u "java/lang/Cloneable"), (0, .class_ 4), (0, u "java/lang/Object")] 2

/-- java/lang/Cloneable -/
def k9 : Class := { plain "java/lang/Cloneable" (some 0) with
  accessFlags := 1537
  interfaces := #[]
  cf := some (fileOf pool9 1 #[] #[] 1537 3 #[] #[])
  fields := #[]
  methods := #[]
  instanceTypes := #[]
  staticTypes := #[]
  resolved := Array.replicate 7 none
  statics := none }

def pool10 : Array CpInfo := pool [(1, .class_ 2), (0, u "java/io/Serializable"), (0, .class_ 4), (0, u "java/lang/Object")] 2

/-- java/io/Serializable -/
def k10 : Class := { plain "java/io/Serializable" (some 0) with
  accessFlags := 1537
  interfaces := #[]
  cf := some (fileOf pool10 1 #[] #[] 1537 3 #[] #[])
  fields := #[]
  methods := #[]
  instanceTypes := #[]
  staticTypes := #[]
  resolved := Array.replicate 7 none
  statics := none }

def pool11 : Array CpInfo := pool [(3, .fieldref 4 5), (0, .class_ 6), (0, .nameAndType 7 8), (0, u "java/util/ArrayDeque"), (0, u "elements"), (0, u "[Ljava/lang/Object;"), (4, u "(II)I"), (6, .fieldref 4 21), (0, .nameAndType 22 23), (0, u "tail"), (0, u "I"), (0, .fieldref 4 25), (0, .nameAndType 26 23), (0, u "head"), (12, u "<init>"), (2, .methodref 43 44), (0, .class_ 45), (0, .nameAndType 39 46), (0, u "java/util/AbstractCollection"), (0, u "()V"), (0, .class_ 48), (0, u "java/lang/Object"), (19, .methodref 4 69), (0, .nameAndType 70 13), (0, u "dec"), (3, .methodref 4 75), (0, .nameAndType 76 13), (0, u "inc"), (9, .methodref 4 87), (0, .nameAndType 88 89), (0, u "addFirst"), (0, u "(Ljava/lang/Object;)V"), (3, .methodref 4 94), (0, .nameAndType 95 96), (0, u "pollFirst"), (0, u "()Ljava/lang/Object;"), (6, .methodref 4 104), (0, .nameAndType 105 106), (0, u "elementAt"), (0, u "([Ljava/lang/Object;I)Ljava/lang/Object;"), (11, .methodref 4 119), (0, .nameAndType 120 96), (0, u "removeFirst"), (3, .methodref 4 125), (0, .nameAndType 126 96), (0, u "peekFirst"), (4, .class_ 132), (0, u "java/util/ArrayDeque$DeqIterator"), (3, .class_ 137), (0, u "java/util/ArrayDeque$DescendingIterator"), (1, .class_ 140), (0, u "java/util/ArrayDeque$DeqSpliterator"), (137, .class_ 279), (0, u "java/util/Deque"), (0, .class_ 281), (0, u "java/lang/Cloneable"), (0, .class_ 283), (0, u "java/io/Serializable"), (0, u "MAX_ARRAY_SIZE"), (1, u "serialVersionUID"), (0, u "J"), (53, u "peek"), (0, u "push"), (0, u "pop")] 94

def k11c0 : Code := { maxStack := 2, maxLocals := 1, code := jdk_21_method_3_code, exceptionTable := #[], attributes := #[] }
def k11m0 : Method := { name := "<init>", desc := "()V", sig := { parameters := [], returnType := none }, accessFlags := 1, code := some k11c0 }
def k11c1 : Code := { maxStack := 2, maxLocals := 2, code := jdk_21_method_6_code, exceptionTable := #[], attributes := #[] }
def k11m1 : Method := { name := "inc", desc := "(II)I", sig := { parameters := [.int, .int], returnType := some .int }, accessFlags := 24, code := some k11c1 }
def k11c2 : Code := { maxStack := 2, maxLocals := 2, code := jdk_21_method_7_code, exceptionTable := #[], attributes := #[] }
def k11m2 : Method := { name := "dec", desc := "(II)I", sig := { parameters := [.int, .int], returnType := some .int }, accessFlags := 24, code := some k11c2 }
def k11c3 : Code := { maxStack := 2, maxLocals := 2, code := jdk_21_method_10_code, exceptionTable := #[], attributes := #[] }
def k11m3 : Method := { name := "elementAt", desc := "([Ljava/lang/Object;I)Ljava/lang/Object;", sig := { parameters := [(.array (.object "java/lang/Object")), .int], returnType := some (.object "java/lang/Object") }, accessFlags := 24, code := some k11c3 }
def k11c4 : Code := { maxStack := 4, maxLocals := 3, code := jdk_21_method_12_code, exceptionTable := #[], attributes := #[] }
def k11m4 : Method := { name := "addFirst", desc := "(Ljava/lang/Object;)V", sig := { parameters := [(.object "java/lang/Object")], returnType := none }, accessFlags := 1, code := some k11c4 }
def k11c5 : Code := { maxStack := 2, maxLocals := 2, code := jdk_21_method_18_code, exceptionTable := #[], attributes := #[] }
def k11m5 : Method := { name := "removeFirst", desc := "()Ljava/lang/Object;", sig := { parameters := [], returnType := some (.object "java/lang/Object") }, accessFlags := 1, code := some k11c5 }
def k11c6 : Code := { maxStack := 3, maxLocals := 4, code := jdk_21_method_20_code, exceptionTable := #[], attributes := #[] }
def k11m6 : Method := { name := "pollFirst", desc := "()Ljava/lang/Object;", sig := { parameters := [], returnType := some (.object "java/lang/Object") }, accessFlags := 1, code := some k11c6 }
def k11c7 : Code := { maxStack := 2, maxLocals := 1, code := jdk_21_method_24_code, exceptionTable := #[], attributes := #[] }
def k11m7 : Method := { name := "peekFirst", desc := "()Ljava/lang/Object;", sig := { parameters := [], returnType := some (.object "java/lang/Object") }, accessFlags := 1, code := some k11c7 }
def k11c8 : Code := { maxStack := 1, maxLocals := 1, code := jdk_21_method_33_code, exceptionTable := #[], attributes := #[] }
def k11m8 : Method := { name := "peek", desc := "()Ljava/lang/Object;", sig := { parameters := [], returnType := some (.object "java/lang/Object") }, accessFlags := 1, code := some k11c8 }
def k11c9 : Code := { maxStack := 2, maxLocals := 2, code := jdk_21_method_34_code, exceptionTable := #[], attributes := #[] }
def k11m9 : Method := { name := "push", desc := "(Ljava/lang/Object;)V", sig := { parameters := [(.object "java/lang/Object")], returnType := none }, accessFlags := 1, code := some k11c9 }
def k11c10 : Code := { maxStack := 1, maxLocals := 1, code := jdk_21_method_35_code, exceptionTable := #[], attributes := #[] }
def k11m10 : Method := { name := "pop", desc := "()Ljava/lang/Object;", sig := { parameters := [], returnType := some (.object "java/lang/Object") }, accessFlags := 1, code := some k11c10 }
/-- java/util/ArrayDeque -/
def k11 : Class := { plain "java/util/ArrayDeque" (some 5) with
  accessFlags := 33
  interfaces := #[8, 9, 10]
  cf := some (fileOf pool11 4 #[.nestMembers #[139, 136, 131]] #[{ accessFlags := 1, nameIndex := 39, descriptorIndex := 46, attributes := #[] }, { accessFlags := 24, nameIndex := 76, descriptorIndex := 13, attributes := #[] }, { accessFlags := 24, nameIndex := 70, descriptorIndex := 13, attributes := #[] }, { accessFlags := 24, nameIndex := 105, descriptorIndex := 106, attributes := #[] }, { accessFlags := 1, nameIndex := 88, descriptorIndex := 89, attributes := #[] }, { accessFlags := 1, nameIndex := 120, descriptorIndex := 96, attributes := #[] }, { accessFlags := 1, nameIndex := 95, descriptorIndex := 96, attributes := #[] }, { accessFlags := 1, nameIndex := 126, descriptorIndex := 96, attributes := #[] }, { accessFlags := 1, nameIndex := 341, descriptorIndex := 96, attributes := #[] }, { accessFlags := 1, nameIndex := 342, descriptorIndex := 89, attributes := #[] }, { accessFlags := 1, nameIndex := 343, descriptorIndex := 96, attributes := #[] }] 33 43 #[278, 280, 282] #[{ accessFlags := 128, nameIndex := 7, descriptorIndex := 8, attributes := #[] }, { accessFlags := 128, nameIndex := 26, descriptorIndex := 23, attributes := #[] }, { accessFlags := 128, nameIndex := 22, descriptorIndex := 23, attributes := #[] }, { accessFlags := 26, nameIndex := 284, descriptorIndex := 23, attributes := #[] }, { accessFlags := 26, nameIndex := 286, descriptorIndex := 287, attributes := #[] }])
  fields := #[{ name := "elements", type := (.array (.object "java/lang/Object")), accessFlags := 128, slot := 0, constantValue := 0 }, { name := "head", type := .int, accessFlags := 128, slot := 1, constantValue := 0 }, { name := "tail", type := .int, accessFlags := 128, slot := 2, constantValue := 0 }, { name := "MAX_ARRAY_SIZE", type := .int, accessFlags := 26, slot := 0, constantValue := 0 }, { name := "serialVersionUID", type := .long, accessFlags := 26, slot := 1, constantValue := 0 }]
  methods := #[k11m0, k11m1, k11m2, k11m3, k11m4, k11m5, k11m6, k11m7, k11m8, k11m9, k11m10]
  instanceTypes := #[(.array (.object "java/lang/Object")), .int, .int]
  staticTypes := #[.int, .long]
  resolved := Array.replicate 438 none
  statics := none }

def pool12 : Array CpInfo := pool [(1, .methodref 2 3), (0, .class_ 4), (0, .nameAndType 5 6), (0, u "java/lang/Object"), (0, u "<init>"), (0, u "()V"), (0, .fieldref 8 9), (0, .class_ 10), (0, .nameAndType 11 12), (0, u "com/example/tell_nothing/tellnothing/pepa/Expression$Pending"), (0, u "operator"), (0, u "Lcom/example/tell_nothing/tellnothing/pepa/Expression$Operator;"), (0, .fieldref 8 14), (0, .nameAndType 15 16), (0, u "arity"), (0, u "I"), (2, u "(Lcom/example/tell_nothing/tellnothing/pepa/Expression$Operator;I)V"), (7, .class_ 28), (0, u "com/example/tell_nothing/tellnothing/pepa/Expression")] 5

def k12c0 : Code := { maxStack := 2, maxLocals := 3, code := prog_36_method_1_code, exceptionTable := #[], attributes := #[] }
def k12m0 : Method := { name := "<init>", desc := "(Lcom/example/tell_nothing/tellnothing/pepa/Expression$Operator;I)V", sig := { parameters := [(.object "com/example/tell_nothing/tellnothing/pepa/Expression$Operator"), .int], returnType := none }, accessFlags := 0, code := some k12c0 }
/-- com/example/tell_nothing/tellnothing/pepa/Expression$Pending -/
def k12 : Class := { plain "com/example/tell_nothing/tellnothing/pepa/Expression$Pending" (some 0) with
  accessFlags := 48
  interfaces := #[]
  cf := some (fileOf pool12 8 #[.nestHost 27] #[{ accessFlags := 0, nameIndex := 5, descriptorIndex := 19, attributes := #[] }] 48 2 #[] #[{ accessFlags := 18, nameIndex := 11, descriptorIndex := 12, attributes := #[] }, { accessFlags := 18, nameIndex := 15, descriptorIndex := 16, attributes := #[] }])
  fields := #[{ name := "operator", type := (.object "com/example/tell_nothing/tellnothing/pepa/Expression$Operator"), accessFlags := 18, slot := 0, constantValue := 0 }, { name := "arity", type := .int, accessFlags := 18, slot := 1, constantValue := 0 }]
  methods := #[k12m0]
  instanceTypes := #[(.object "com/example/tell_nothing/tellnothing/pepa/Expression$Operator"), .int]
  staticTypes := #[]
  resolved := Array.replicate 34 none
  statics := none }

/-- the primitive byte -/
def k13 : Class := { plain "byte" none with kind := .primitive 'B', accessFlags := 0x411 }
/-- [B -/
def k14 : Class := { plain "[B" (some 0) with kind := .array 13 .byte, interfaces := #[9, 10], accessFlags := 1041 }

/-- the primitive int -/
def k15 : Class := { plain "int" none with kind := .primitive 'I', accessFlags := 0x411 }
/-- [I -/
def k16 : Class := { plain "[I" (some 0) with kind := .array 15 .int, interfaces := #[9, 10], accessFlags := 1041 }

/-- [Ljava/lang/Object; -/
def k17 : Class := { plain "[Ljava/lang/Object;" (some 0) with kind := .array 0 (.object "java/lang/Object"), interfaces := #[9, 10], accessFlags := 1041 }

def heap : Heap := #[]
def classes : Array Class := #[k0, k1, k2, k3, k4, k5, k6, k7, k8, k9, k10, k11, k12, k13, k14, k15, k16, k17]
def interned : List (Array UInt16 × Addr) := []
def slotsUsed : Nat := 0
def theMethod : MethodId := ⟨1, 2⟩
def args0 : Array Value := #[.int 5]
def aboutOver (below : List Frame) : State where
  vm := { classes := classes, interned := interned.toArray }
  heap := heap
  slotsUsed := slotsUsed
  threads := #[{ frames := .invoking theMethod args0 :: below }]
def below0 : List Frame := [.native { method := ⟨0, 0⟩, args := #[] }]
def about1 : State := aboutOver below0
def p0 : Program := .bare "" "" ""
def e0 : Env := launch0.env 0 0 0
theorem w_frames : about1.frames = Frame.invoking theMethod args0 :: below0 := rfl
set_option maxRecDepth 65536 in
theorem w_args : argsFit about1.vm theMethod args0 = true := by decide +kernel
set_option maxRecDepth 65536 in
theorem w_heap : heapFits about1 = true := by decide +kernel
set_option maxRecDepth 65536 in
theorem w_runnable : about1.curStatus? = some .runnable := by decide +kernel
set_option maxRecDepth 65536 in
theorem w_alone : about1.alone = true := by decide +kernel
set_option maxRecDepth 65536 in
theorem w_named : about1.methodNamed? x = some theMethod := by decide +kernel
set_option maxRecDepth 65536 in
theorem w_hears : about1.hears theMethod below0 = true := by decide +kernel
set_option maxRecDepth 65536 in
theorem w_ripe : about1.ripe theMethod args0 below0 = true := by decide +kernel
theorem w_running : about1.status = .running := rfl
set_option maxRecDepth 65536 in
theorem w_room : about1.hasRoom e0.platform room_1 = true :=
  launch0.hasRoom_least _ room_1 (by decide +kernel) (by decide +kernel) (by decide +kernel) (by decide +kernel) (by decide +kernel) (by decide +kernel)
theorem allAtoms_all (ts : List Jvm.Cond) (a : Array Jvm.Value) (st : Jvm.State) : (allAtoms ts).before a st = ts.all (fun c => c.before a st) := by
  induction ts with
  | nil => rfl
  | cons c t ih =>
    show (Jvm.Cond.and c (allAtoms t)).before a st = _
    rw [Jvm.Cond.before_and, ih, List.all_cons]
def words1 : List Jvm.Cond := Jvm.Cond.code x code maxLocals ret :: tables_1
/-- a 'code' word, met by the world's own term for the bytes: nothing is compared byte by byte -/
theorem code_word {y : MethodName} {bytes : ByteArray} {mx : Nat} {rt : Option FieldType} {a : Array Value} {s : State} {m : MethodId} {meth : Method} {c : Code} (h1 : s.methodNamed? y = some m) (h2 : s.vm.method? m = some meth) (h3 : meth.code = some c) (h4 : c.code = bytes)
    (h5 : (c.maxLocals == mx && c.exceptionTable.isEmpty && decide (c.maxStack ≤ mostOperands) && decide (meth.sig.returnType = rt) && !meth.locks && decide (parseMethodDescriptor y.desc = some meth.sig)) = true) : (Jvm.Cond.code y bytes mx rt).before a s = true := by
  simp only [Bool.and_eq_true, beq_iff_eq, Bool.not_eq_true', decide_eq_true_eq] at h5
  obtain ⟨⟨⟨⟨⟨g1, g2⟩, g3⟩, g4⟩, g5⟩, g6⟩ := h5
  simp [Cond.before, Cond.holds, Cond.value, h1, h2, h3, h4, g1, g2, g3, g4, g5, g6]
def isCode : Jvm.Cond → Bool
  | .code _ _ _ _ => true
  | _ => false
theorem all_split {L : List Jvm.Cond} {P : Jvm.Cond → Bool} (h1 : L.all (fun c => isCode c || P c) = true) (h2 : ∀ c ∈ L.filter isCode, P c = true) : L.all P = true := by
  refine List.all_eq_true.mpr fun c hc => ?_
  have h := List.all_eq_true.mp h1 c hc
  rcases Bool.eq_false_or_eq_true (isCode c) with hi | hi
  · exact h2 c (List.mem_filter.mpr ⟨hc, hi⟩)
  · simpa [hi] using h
set_option maxRecDepth 65536 in
theorem w_c0 : (Jvm.Cond.code x code maxLocals ret).before args0 about1 = true := code_word (m := ⟨1, 2⟩) (meth := k1m2) (c := k1c2) (by decide +kernel) rfl rfl rfl (by decide +kernel)
set_option maxRecDepth 65536 in
theorem w_c1 : (Jvm.Cond.code ({ cls := "com/example/tell_nothing/tellnothing/pepa/Expression", name := "<init>", desc := "()V" } : Jvm.MethodName) prog_33_method_1_code (1 : Nat) (Option.none : Option Jvm.ClassFile.FieldType)).before args0 about1 = true := code_word (m := ⟨2, 0⟩) (meth := k2m0) (c := k2c0) (by decide +kernel) rfl rfl rfl (by decide +kernel)
set_option maxRecDepth 65536 in
theorem w_c2 : (Jvm.Cond.code ({ cls := "java/lang/Object", name := "<init>", desc := "()V" } : Jvm.MethodName) object_method_1_code (1 : Nat) (Option.none : Option Jvm.ClassFile.FieldType)).before args0 about1 = true := code_word (m := ⟨0, 0⟩) (meth := k0m0) (c := k0c0) (by decide +kernel) rfl rfl rfl (by decide +kernel)
set_option maxRecDepth 65536 in
theorem w_c3 : (Jvm.Cond.code ({ cls := "java/util/ArrayDeque", name := "<init>", desc := "()V" } : Jvm.MethodName) jdk_21_method_3_code (1 : Nat) (Option.none : Option Jvm.ClassFile.FieldType)).before args0 about1 = true := code_word (m := ⟨11, 0⟩) (meth := k11m0) (c := k11c0) (by decide +kernel) rfl rfl rfl (by decide +kernel)
set_option maxRecDepth 65536 in
theorem w_c4 : (Jvm.Cond.code ({ cls := "java/util/AbstractCollection", name := "<init>", desc := "()V" } : Jvm.MethodName) jdk_22_method_1_code (1 : Nat) (Option.none : Option Jvm.ClassFile.FieldType)).before args0 about1 = true := code_word (m := ⟨5, 0⟩) (meth := k5m0) (c := k5c0) (by decide +kernel) rfl rfl rfl (by decide +kernel)
set_option maxRecDepth 65536 in
theorem w_c5 : (Jvm.Cond.code ({ cls := "com/example/tell_nothing/tellnothing/pepa/Expression", name := "isOpen", desc := "()Z" } : Jvm.MethodName) prog_33_method_8_code (1 : Nat) (Option.some Jvm.ClassFile.FieldType.boolean)).before args0 about1 = true := code_word (m := ⟨2, 3⟩) (meth := k2m3) (c := k2c3) (by decide +kernel) rfl rfl rfl (by decide +kernel)
set_option maxRecDepth 65536 in
theorem w_c6 : (Jvm.Cond.code ({ cls := "com/example/tell_nothing/tellnothing/pepa/ExpressionIsOpenPinLaw", name := "step", desc := "(Lcom/example/tell_nothing/tellnothing/pepa/Expression;II)I" } : Jvm.MethodName) method_2_code (5 : Nat) (Option.some Jvm.ClassFile.FieldType.int)).before args0 about1 = true := code_word (m := ⟨1, 1⟩) (meth := k1m1) (c := k1c1) (by decide +kernel) rfl rfl rfl (by decide +kernel)
set_option maxRecDepth 65536 in
theorem w_c7 : (Jvm.Cond.code ({ cls := "com/example/tell_nothing/tellnothing/pepa/Expression", name := "close", desc := "()Z" } : Jvm.MethodName) prog_33_method_7_code (1 : Nat) (Option.some Jvm.ClassFile.FieldType.boolean)).before args0 about1 = true := code_word (m := ⟨2, 2⟩) (meth := k2m2) (c := k2c2) (by decide +kernel) rfl rfl rfl (by decide +kernel)
set_option maxRecDepth 65536 in
theorem w_c8 : (Jvm.Cond.code ({ cls := "com/example/tell_nothing/tellnothing/pepa/Expression", name := "open", desc := "()V" } : Jvm.MethodName) prog_33_method_6_code (1 : Nat) (Option.none : Option Jvm.ClassFile.FieldType)).before args0 about1 = true := code_word (m := ⟨2, 1⟩) (meth := k2m1) (c := k2c1) (by decide +kernel) rfl rfl rfl (by decide +kernel)
set_option maxRecDepth 65536 in
theorem w_c9 : (Jvm.Cond.code ({ cls := "com/example/tell_nothing/tellnothing/pepa/Expression$Pending", name := "<init>", desc := "(Lcom/example/tell_nothing/tellnothing/pepa/Expression$Operator;I)V" } : Jvm.MethodName) prog_36_method_1_code (3 : Nat) (Option.none : Option Jvm.ClassFile.FieldType)).before args0 about1 = true := code_word (m := ⟨12, 0⟩) (meth := k12m0) (c := k12c0) (by decide +kernel) rfl rfl rfl (by decide +kernel)
set_option maxRecDepth 65536 in
theorem w_c10 : (Jvm.Cond.code ({ cls := "java/util/ArrayDeque", name := "push", desc := "(Ljava/lang/Object;)V" } : Jvm.MethodName) jdk_21_method_34_code (2 : Nat) (Option.none : Option Jvm.ClassFile.FieldType)).before args0 about1 = true := code_word (m := ⟨11, 9⟩) (meth := k11m9) (c := k11c9) (by decide +kernel) rfl rfl rfl (by decide +kernel)
set_option maxRecDepth 65536 in
theorem w_c11 : (Jvm.Cond.code ({ cls := "java/util/ArrayDeque", name := "addFirst", desc := "(Ljava/lang/Object;)V" } : Jvm.MethodName) jdk_21_method_12_code (3 : Nat) (Option.none : Option Jvm.ClassFile.FieldType)).before args0 about1 = true := code_word (m := ⟨11, 4⟩) (meth := k11m4) (c := k11c4) (by decide +kernel) rfl rfl rfl (by decide +kernel)
set_option maxRecDepth 65536 in
theorem w_c12 : (Jvm.Cond.code ({ cls := "java/util/ArrayDeque", name := "dec", desc := "(II)I" } : Jvm.MethodName) jdk_21_method_7_code (2 : Nat) (Option.some Jvm.ClassFile.FieldType.int)).before args0 about1 = true := code_word (m := ⟨11, 2⟩) (meth := k11m2) (c := k11c2) (by decide +kernel) rfl rfl rfl (by decide +kernel)
set_option maxRecDepth 65536 in
theorem w_c13 : (Jvm.Cond.code ({ cls := "java/util/ArrayDeque", name := "peek", desc := "()Ljava/lang/Object;" } : Jvm.MethodName) jdk_21_method_33_code (1 : Nat) (Option.some (Jvm.ClassFile.FieldType.object "java/lang/Object"))).before args0 about1 = true := code_word (m := ⟨11, 8⟩) (meth := k11m8) (c := k11c8) (by decide +kernel) rfl rfl rfl (by decide +kernel)
set_option maxRecDepth 65536 in
theorem w_c14 : (Jvm.Cond.code ({ cls := "java/util/ArrayDeque", name := "peekFirst", desc := "()Ljava/lang/Object;" } : Jvm.MethodName) jdk_21_method_24_code (1 : Nat) (Option.some (Jvm.ClassFile.FieldType.object "java/lang/Object"))).before args0 about1 = true := code_word (m := ⟨11, 7⟩) (meth := k11m7) (c := k11c7) (by decide +kernel) rfl rfl rfl (by decide +kernel)
set_option maxRecDepth 65536 in
theorem w_c15 : (Jvm.Cond.code ({ cls := "java/util/ArrayDeque", name := "elementAt", desc := "([Ljava/lang/Object;I)Ljava/lang/Object;" } : Jvm.MethodName) jdk_21_method_10_code (2 : Nat) (Option.some (Jvm.ClassFile.FieldType.object "java/lang/Object"))).before args0 about1 = true := code_word (m := ⟨11, 3⟩) (meth := k11m3) (c := k11c3) (by decide +kernel) rfl rfl rfl (by decide +kernel)
set_option maxRecDepth 65536 in
theorem w_c16 : (Jvm.Cond.code ({ cls := "java/util/ArrayDeque", name := "pop", desc := "()Ljava/lang/Object;" } : Jvm.MethodName) jdk_21_method_35_code (1 : Nat) (Option.some (Jvm.ClassFile.FieldType.object "java/lang/Object"))).before args0 about1 = true := code_word (m := ⟨11, 10⟩) (meth := k11m10) (c := k11c10) (by decide +kernel) rfl rfl rfl (by decide +kernel)
set_option maxRecDepth 65536 in
theorem w_c17 : (Jvm.Cond.code ({ cls := "java/util/ArrayDeque", name := "removeFirst", desc := "()Ljava/lang/Object;" } : Jvm.MethodName) jdk_21_method_18_code (2 : Nat) (Option.some (Jvm.ClassFile.FieldType.object "java/lang/Object"))).before args0 about1 = true := code_word (m := ⟨11, 5⟩) (meth := k11m5) (c := k11c5) (by decide +kernel) rfl rfl rfl (by decide +kernel)
set_option maxRecDepth 65536 in
theorem w_c18 : (Jvm.Cond.code ({ cls := "java/util/ArrayDeque", name := "pollFirst", desc := "()Ljava/lang/Object;" } : Jvm.MethodName) jdk_21_method_20_code (4 : Nat) (Option.some (Jvm.ClassFile.FieldType.object "java/lang/Object"))).before args0 about1 = true := code_word (m := ⟨11, 6⟩) (meth := k11m6) (c := k11c6) (by decide +kernel) rfl rfl rfl (by decide +kernel)
set_option maxRecDepth 65536 in
theorem w_c19 : (Jvm.Cond.code ({ cls := "java/util/ArrayDeque", name := "inc", desc := "(II)I" } : Jvm.MethodName) jdk_21_method_6_code (2 : Nat) (Option.some Jvm.ClassFile.FieldType.int)).before args0 about1 = true := code_word (m := ⟨11, 1⟩) (meth := k11m1) (c := k11c1) (by decide +kernel) rfl rfl rfl (by decide +kernel)
def codes1 : List Jvm.Cond := [Jvm.Cond.code x code maxLocals ret, Jvm.Cond.code ({ cls := "com/example/tell_nothing/tellnothing/pepa/Expression", name := "<init>", desc := "()V" } : Jvm.MethodName) prog_33_method_1_code (1 : Nat) (Option.none : Option Jvm.ClassFile.FieldType), Jvm.Cond.code ({ cls := "java/lang/Object", name := "<init>", desc := "()V" } : Jvm.MethodName) object_method_1_code (1 : Nat) (Option.none : Option Jvm.ClassFile.FieldType), Jvm.Cond.code ({ cls := "java/util/ArrayDeque", name := "<init>", desc := "()V" } : Jvm.MethodName) jdk_21_method_3_code (1 : Nat) (Option.none : Option Jvm.ClassFile.FieldType), Jvm.Cond.code ({ cls := "java/util/AbstractCollection", name := "<init>", desc := "()V" } : Jvm.MethodName) jdk_22_method_1_code (1 : Nat) (Option.none : Option Jvm.ClassFile.FieldType), Jvm.Cond.code ({ cls := "com/example/tell_nothing/tellnothing/pepa/Expression", name := "isOpen", desc := "()Z" } : Jvm.MethodName) prog_33_method_8_code (1 : Nat) (Option.some Jvm.ClassFile.FieldType.boolean), Jvm.Cond.code ({ cls := "com/example/tell_nothing/tellnothing/pepa/ExpressionIsOpenPinLaw", name := "step", desc := "(Lcom/example/tell_nothing/tellnothing/pepa/Expression;II)I" } : Jvm.MethodName) method_2_code (5 : Nat) (Option.some Jvm.ClassFile.FieldType.int), Jvm.Cond.code ({ cls := "com/example/tell_nothing/tellnothing/pepa/Expression", name := "close", desc := "()Z" } : Jvm.MethodName) prog_33_method_7_code (1 : Nat) (Option.some Jvm.ClassFile.FieldType.boolean), Jvm.Cond.code ({ cls := "com/example/tell_nothing/tellnothing/pepa/Expression", name := "open", desc := "()V" } : Jvm.MethodName) prog_33_method_6_code (1 : Nat) (Option.none : Option Jvm.ClassFile.FieldType), Jvm.Cond.code ({ cls := "com/example/tell_nothing/tellnothing/pepa/Expression$Pending", name := "<init>", desc := "(Lcom/example/tell_nothing/tellnothing/pepa/Expression$Operator;I)V" } : Jvm.MethodName) prog_36_method_1_code (3 : Nat) (Option.none : Option Jvm.ClassFile.FieldType), Jvm.Cond.code ({ cls := "java/util/ArrayDeque", name := "push", desc := "(Ljava/lang/Object;)V" } : Jvm.MethodName) jdk_21_method_34_code (2 : Nat) (Option.none : Option Jvm.ClassFile.FieldType), Jvm.Cond.code ({ cls := "java/util/ArrayDeque", name := "addFirst", desc := "(Ljava/lang/Object;)V" } : Jvm.MethodName) jdk_21_method_12_code (3 : Nat) (Option.none : Option Jvm.ClassFile.FieldType), Jvm.Cond.code ({ cls := "java/util/ArrayDeque", name := "dec", desc := "(II)I" } : Jvm.MethodName) jdk_21_method_7_code (2 : Nat) (Option.some Jvm.ClassFile.FieldType.int), Jvm.Cond.code ({ cls := "java/util/ArrayDeque", name := "peek", desc := "()Ljava/lang/Object;" } : Jvm.MethodName) jdk_21_method_33_code (1 : Nat) (Option.some (Jvm.ClassFile.FieldType.object "java/lang/Object")), Jvm.Cond.code ({ cls := "java/util/ArrayDeque", name := "peekFirst", desc := "()Ljava/lang/Object;" } : Jvm.MethodName) jdk_21_method_24_code (1 : Nat) (Option.some (Jvm.ClassFile.FieldType.object "java/lang/Object")), Jvm.Cond.code ({ cls := "java/util/ArrayDeque", name := "elementAt", desc := "([Ljava/lang/Object;I)Ljava/lang/Object;" } : Jvm.MethodName) jdk_21_method_10_code (2 : Nat) (Option.some (Jvm.ClassFile.FieldType.object "java/lang/Object")), Jvm.Cond.code ({ cls := "java/util/ArrayDeque", name := "pop", desc := "()Ljava/lang/Object;" } : Jvm.MethodName) jdk_21_method_35_code (1 : Nat) (Option.some (Jvm.ClassFile.FieldType.object "java/lang/Object")), Jvm.Cond.code ({ cls := "java/util/ArrayDeque", name := "removeFirst", desc := "()Ljava/lang/Object;" } : Jvm.MethodName) jdk_21_method_18_code (2 : Nat) (Option.some (Jvm.ClassFile.FieldType.object "java/lang/Object")), Jvm.Cond.code ({ cls := "java/util/ArrayDeque", name := "pollFirst", desc := "()Ljava/lang/Object;" } : Jvm.MethodName) jdk_21_method_20_code (4 : Nat) (Option.some (Jvm.ClassFile.FieldType.object "java/lang/Object")), Jvm.Cond.code ({ cls := "java/util/ArrayDeque", name := "inc", desc := "(II)I" } : Jvm.MethodName) jdk_21_method_6_code (2 : Nat) (Option.some Jvm.ClassFile.FieldType.int)]
set_option maxRecDepth 65536 in
theorem codes_eq : words1.filter isCode = codes1 := rfl
theorem w_codes : ∀ c ∈ words1.filter isCode, c.before args0 about1 = true := by
  rw [codes_eq]
  intro c hc
  simp only [codes1, List.mem_cons, List.not_mem_nil, or_false] at hc
  rcases hc with rfl | rfl | rfl | rfl | rfl | rfl | rfl | rfl | rfl | rfl | rfl | rfl | rfl | rfl | rfl | rfl | rfl | rfl | rfl | rfl
  · exact w_c0
  · exact w_c1
  · exact w_c2
  · exact w_c3
  · exact w_c4
  · exact w_c5
  · exact w_c6
  · exact w_c7
  · exact w_c8
  · exact w_c9
  · exact w_c10
  · exact w_c11
  · exact w_c12
  · exact w_c13
  · exact w_c14
  · exact w_c15
  · exact w_c16
  · exact w_c17
  · exact w_c18
  · exact w_c19
set_option maxRecDepth 65536 in
theorem w_t1 : (words1.take 24).all (fun c => isCode c || c.before args0 about1) = true := by decide +kernel
set_option maxRecDepth 65536 in
theorem w_t2 : ((words1.drop 24).take 24).all (fun c => isCode c || c.before args0 about1) = true := by decide +kernel
set_option maxRecDepth 65536 in
theorem w_t3 : (((words1.drop 24).drop 24).take 24).all (fun c => isCode c || c.before args0 about1) = true := by decide +kernel
set_option maxRecDepth 65536 in
theorem w_t4 : ((((words1.drop 24).drop 24).drop 24).take 24).all (fun c => isCode c || c.before args0 about1) = true := by decide +kernel
set_option maxRecDepth 65536 in
theorem w_t5 : (((((words1.drop 24).drop 24).drop 24).drop 24).take 24).all (fun c => isCode c || c.before args0 about1) = true := by decide +kernel
set_option maxRecDepth 65536 in
theorem w_t6 : (((((words1.drop 24).drop 24).drop 24).drop 24).drop 24).all (fun c => isCode c || c.before args0 about1) = true := by decide +kernel
theorem w_tables : (allAtoms (Jvm.Cond.code x code maxLocals ret :: tables_1)).before args0 about1 = true := by
  rw [allAtoms_all]
  show words1.all (fun c => c.before args0 about1) = true
  refine all_split ?_ w_codes
  rw [← List.take_append_drop 24 words1, List.all_append, w_t1, ← List.take_append_drop 24 (words1.drop 24), List.all_append, w_t2, ← List.take_append_drop 24 ((words1.drop 24).drop 24), List.all_append, w_t3, ← List.take_append_drop 24 (((words1.drop 24).drop 24).drop 24), List.all_append, w_t4, ← List.take_append_drop 24 ((((words1.drop 24).drop 24).drop 24).drop 24), List.all_append, w_t5, w_t6]
  rfl
set_option maxRecDepth 65536 in
theorem w_case : (Jvm.Cond.and given_1 narrow_1).before args0 about1 = true := by decide +kernel
theorem w_applies : (headSpec (Jvm.Cond.code x code maxLocals ret :: tables_1) room_1).applies x e0.platform about1 = true :=
  (Spec.applies_iff w_frames).mpr ⟨w_running, w_runnable, w_alone, w_named, w_hears, w_ripe, w_room, w_tables⟩
theorem atStart : AtStart classFile x code maxLocals ret World_1 tables_1 room_1 Calls_1 rest_1 Pre_1 launch0 p0 e0 about1 theMethod args0 below0 :=
  ⟨lists_1, trivial, launch0.admits_env _ _ _, launch0.least_env, fairChoices_fair.cas, fairChoices_fair.clock, w_frames, w_args, w_heap, w_applies, trivial, trivial, w_case⟩
end start1
theorem witness_1 : WitnessClaimed_1 := ⟨start1.p0, start1.e0, start1.about1, start1.theMethod, start1.args0, start1.below0, start1.atStart⟩
end Jvm.Pilot.@@N@@
