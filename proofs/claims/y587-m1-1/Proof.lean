import JvmDerived
import JvmDerived.Pilot.@@N@@Statement
import JvmDerived.Pilot.@@N@@Code
set_option linter.unusedVariables false
set_option linter.unusedSimpArgs false
@@BLOCK:HandJ.lean.txt@@
@@BLOCK:SymMore.lean.txt@@
@@BLOCK:NumsL.lean.txt@@
namespace Jvm.RoadKit
open Sem ClassFile Op Lib Jvm.Stand Jvm.Free Jvm.LawKit
section New
variable {p : Program} {l : Launch} {e : Env} {R : Room} {s : State} {m : MethodId} {args : Array Value} {below : List Frame} {meth : Method} {c : Code} {T : State} {locs : List Loc} {cells slots : Nat}
theorem retI (X : Stand p l e R s m args below meth c T locs cells slots) (hx : p.tables.exec = Jvm.exec) {pc : Nat} {Ls : Array Slot} {z : Int32} {rest : List Value} (hret : meth.sig.returnType = some .int) (hd : decode c.code pc = .ok (.ireturn, 1)) {fs : List Frame}
    (hl : ∀ (f : JFrame) (acts : List Action), f.method = m → f.locked = none → f.entered = [] → (doReturn e (T.setTop f) acts (some (.int z))).1 = T.setFrames fs) : Steps p.tables e below (T.setTop (mkF m pc Ls (.int z :: rest))) (T.setFrames fs) := by
  have hm' : T.vm.method? m = some meth := X.method'
  have hn : narrow .int (.int z) = .int z := rfl
  show Steps p.tables e below (T.setTop { method := m, pc := pc, locals := Ls, stack := _ :: rest, locked := none }) _
  jvm_step X.here [X.here.top, hx, hd, hm', hret, hn]
  first | (intro acts; rw [hl _ acts rfl rfl rfl]) | rw [hl _ _ rfl rfl rfl]
  exact Steps.refl _
end New
end Jvm.RoadKit
namespace Jvm.OwnKit
open Sem ClassFile Op Lib Jvm.Stand Jvm.Free Jvm.LawKit Jvm.RoadKit
section OwnLayer
variable {p : Program} {l : Launch} {e : Env} {R : Room} {s : State} {m : MethodId} {args : Array Value} {below : List Frame} {meth : Method} {c : Code} {T : State} {locs : List Loc} {cells slots : Nat} {Z : State} {h h' : Heap} {a b : Addr} {ty : FieldType} {n sl : Nat} {f : Nat → Value} {v : Value} {ws : List Addr}
/-- an array of n places, place j holding f j -/
def Ar (Z : State) (h : Heap) (a : Addr) (ty : FieldType) (n : Nat) (f : Nat → Value) : Prop := ∃ c : Cell, Arr Z h a c ty ∧ c.slots.size = n ∧ n < 2147483648 ∧ ∀ j, j < n → c.slots[j]? = some (f j)
theorem Ar.lt (F : Ar Z h a ty n f) : a < h.size := by obtain ⟨c, A, -⟩ := F; exact A.lt
theorem Ar.ext (F : Ar Z h a ty n f) (E : Ext h h') : Ar Z h' a ty n f := by obtain ⟨c, A, r⟩ := F; exact ⟨c, A.ext E, r⟩
theorem Ar.other (F : Ar Z h b ty n f) (W : Wr h h' a sl v) (q : b ≠ a) : Ar Z h' b ty n f := by obtain ⟨c, A, r⟩ := F; exact ⟨c, A.other W q, r⟩
theorem Ar.keep (F : Ar Z h a ty n f) (K : Keep h h' ws) (q : a ∉ ws) : Ar Z h' a ty n f := by obtain ⟨c, A, r⟩ := F; exact ⟨c, ⟨K.2.1 a c A.1 q, A.2⟩, r⟩
theorem Ar.as (F : Ar Z h a ty n f) {g : Nat → Value} (e : ∀ j, j < n → f j = g j) : Ar Z h a ty n g := by
  obtain ⟨c, A, r1, r2, r3⟩ := F; exact ⟨c, A, r1, r2, fun j hj => by rw [r3 j hj, e j hj]⟩
theorem nat_clamp (j : Int32) : j.toNatClampNeg = j.toInt.toNat := rfl
theorem Ar.new {k : ClassId} {z : Int32} {N : Nat} (A : Arr Z h a (newA k ty z) ty) (q : ¬ z < 0) (hN : z.toInt.toNat = N) : Ar Z h a ty N (fun _ => defaultValue ty) := by
  have hs : (newA k ty z).slots.size = N := by rw [sz_new, nat_clamp, hN]
  refine ⟨_, A, hs, ?_, fun j hj => ?_⟩
  · have := z.toInt_lt; omega
  · show (Array.replicate z.toNatClampNeg (defaultValue ty))[j]? = _
    rw [Array.getElem?_replicate, if_pos (by rw [nat_clamp, hN]; exact hj)]
theorem ar_in {c : Cell} {j : Int32} (hs : c.slots.size = n) (h0 : 0 ≤ j.toInt) (h1 : j.toInt < n) : ¬ (j < 0 ∨ c.slots.size ≤ j.toNatClampNeg) := by
  rw [hs, nat_clamp, Int32.lt_iff_toInt_lt]
  show ¬ (j.toInt < 0 ∨ n ≤ j.toInt.toNat)
  omega
theorem Ar.set {c : Cell} {j : Int32} (A : Arr Z h a c ty) (hs : c.slots.size = n) (hn : n < 2147483648) (H : ∀ j, j < n → c.slots[j]? = some (f j)) (h0 : 0 ≤ j.toInt) (h1 : j.toInt < n) (W : Wr h h' a j.toNatClampNeg v) : Ar Z h' a ty n (fun i => if i = j.toInt.toNat then v else f i) := by
  refine ⟨_, A.same W, by rw [sz_set, hs], hn, fun i hi => ?_⟩
  show (c.slots.setIfInBounds j.toNatClampNeg v)[i]? = _
  rw [Array.getElem?_setIfInBounds, nat_clamp]
  show _ = some (if i = j.toInt.toNat then v else f i)
  by_cases q : i = j.toInt.toNat
  · rw [if_pos q.symm, if_pos (by omega), if_pos q]
  · rw [if_neg (fun z => q z.symm), if_neg q, H i hi]
theorem arv_ar {k : ClassId} {z : Int32} {vs : List Value} {d : Value} (F : Arv Z h a k ty z vs d) : Ar Z h a ty z.toInt.toNat (fun i => vs.getD i d) := by
  obtain ⟨c, A, -, r2, r3, H, -⟩ := F
  have hz := z.toInt_lt
  exact ⟨c, A, r2, by omega, fun j hj => H j (by rw [r2, nat_clamp]; exact hj)⟩
theorem ldAI (X : Stand p l e R s m args below meth c T locs cells slots) (hx : p.tables.exec = Jvm.exec) (hZ : Z.Warmed39 s.vm) (eT : T.heap = h) (F : Ar Z h a .int n f) {j : Int32} (h0 : 0 ≤ j.toInt) (h1 : j.toInt < n) {w : Value} (hv : f j.toInt.toNat = w)
    {g : JFrame} (hg : g.method = m) {rest : List Value} (hs : g.stack = .int j :: .ref a :: rest) (hd : decode c.code g.pc = .ok (.iaload, 1)) :
    ∀ target, Steps p.tables e below (T.setTop { g with pc := g.pc + 1, stack := w :: rest }) target → Steps p.tables e below (T.setTop g) target := by
  obtain ⟨cl, A, r1, r2, r3⟩ := F
  exact fun target k => X.iaload hx (by rw [eT]; exact A.1) (State.isArrayOf_alike hZ.alike A.2.1) A.2.2 (ar_in r1 h0 h1) (by rw [nat_clamp, r3 _ (by omega), hv]) hg hs hd target k
theorem ldAL (X : Stand p l e R s m args below meth c T locs cells slots) (hx : p.tables.exec = Jvm.exec) (hZ : Z.Warmed39 s.vm) (eT : T.heap = h) (F : Ar Z h a .long n f) {j : Int32} (h0 : 0 ≤ j.toInt) (h1 : j.toInt < n) {w : Value} (hv : f j.toInt.toNat = w)
    {g : JFrame} (hg : g.method = m) {rest : List Value} (hs : g.stack = .int j :: .ref a :: rest) (hd : decode c.code g.pc = .ok (.laload, 1)) :
    ∀ target, Steps p.tables e below (T.setTop { g with pc := g.pc + 1, stack := w :: rest }) target → Steps p.tables e below (T.setTop g) target := by
  obtain ⟨cl, A, r1, r2, r3⟩ := F
  exact fun target k => X.laload hx (by rw [eT]; exact A.1) (State.isArrayOf_alike hZ.alike A.2.1) A.2.2 (ar_in r1 h0 h1) (by rw [nat_clamp, r3 _ (by omega), hv]) hg hs hd target k
theorem ldAB (X : Stand p l e R s m args below meth c T locs cells slots) (hx : p.tables.exec = Jvm.exec) (hZ : Z.Warmed39 s.vm) (eT : T.heap = h) (F : Ar Z h a .byte n f) {j : Int32} (h0 : 0 ≤ j.toInt) (h1 : j.toInt < n) {w : Value} (hv : f j.toInt.toNat = w)
    {g : JFrame} (hg : g.method = m) {rest : List Value} (hs : g.stack = .int j :: .ref a :: rest) (hd : decode c.code g.pc = .ok (.baload, 1)) :
    ∀ target, Steps p.tables e below (T.setTop { g with pc := g.pc + 1, stack := w :: rest }) target → Steps p.tables e below (T.setTop g) target := by
  obtain ⟨cl, A, r1, r2, r3⟩ := F
  exact fun target k => X.baloadBytes hx (by rw [eT]; exact A.1) (State.isArrayOf_alike hZ.alike A.2.1) A.2.2 (ar_in r1 h0 h1) (by rw [nat_clamp, r3 _ (by omega), hv]) hg hs hd target k
theorem ldAZ (X : Stand p l e R s m args below meth c T locs cells slots) (hx : p.tables.exec = Jvm.exec) (hZ : Z.Warmed39 s.vm) (eT : T.heap = h) (F : Ar Z h a .boolean n f) {j : Int32} (h0 : 0 ≤ j.toInt) (h1 : j.toInt < n) {w : Value} (hv : f j.toInt.toNat = w)
    {g : JFrame} (hg : g.method = m) {rest : List Value} (hs : g.stack = .int j :: .ref a :: rest) (hd : decode c.code g.pc = .ok (.baload, 1)) :
    ∀ target, Steps p.tables e below (T.setTop { g with pc := g.pc + 1, stack := w :: rest }) target → Steps p.tables e below (T.setTop g) target := by
  obtain ⟨cl, A, r1, r2, r3⟩ := F
  exact fun target k => X.baloadBooleans hx (by rw [eT]; exact A.1) (State.isArrayOf_alike hZ.alike A.2.1) A.2.2 (ar_in r1 h0 h1) (by rw [nat_clamp, r3 _ (by omega), hv]) hg hs hd target k
theorem alen (X : Stand p l e R s m args below meth c T locs cells slots) (hx : p.tables.exec = Jvm.exec) (hZ : Z.Warmed39 s.vm) (eT : T.heap = h) (F : Ar Z h a ty n f) {z : Int32} (hz : z.toInt = n)
    {g : JFrame} (hg : g.method = m) {rest : List Value} (hs : g.stack = .ref a :: rest) (hd : decode c.code g.pc = .ok (.arraylength, 1)) :
    ∀ target, Steps p.tables e below (T.setTop { g with pc := g.pc + 1, stack := .int z :: rest }) target → Steps p.tables e below (T.setTop g) target := by
  obtain ⟨cl, A, r1, r2, r3⟩ := F
  have q : cl.slots.size.toInt32 = z := by
    rw [r1]
    apply Int32.toInt_inj.mp
    rw [hz]
    show (Int32.ofNat n).toInt = n
    exact Int32.toInt_ofNat_small (by omega)
  exact fun target k => X.arraylength hx (by rw [eT]; exact A.1) (State.isArrayOf_alike hZ.alike A.2.1) hg hs hd target (by rw [q]; exact k)
theorem stAI (X : Stand p l e R s m args below meth c T locs cells slots) (hx : p.tables.exec = Jvm.exec) (hZ : Z.Warmed39 s.vm) (eT : T.heap = h) (F : Ar Z h a .int n f) {j x : Int32} (h0 : 0 ≤ j.toInt) (h1 : j.toInt < n)
    {g : JFrame} (hg : g.method = m) {rest : List Value} (hs : g.stack = .int x :: .int j :: .ref a :: rest) (hd : decode c.code g.pc = .ok (.iastore, 1)) :
    ∃ T' h', Stand p l e R s m args below meth c T' (locs ++ [⟨a, j.toNatClampNeg⟩]) cells slots ∧ T'.heap = h' ∧ Wr h h' a j.toNatClampNeg (.int x) ∧ Ar Z h' a .int n (fun i => if i = j.toInt.toNat then .int x else f i) ∧ ∀ target, Steps p.tables e below (T'.setTop { g with pc := g.pc + 1, stack := rest }) target → Steps p.tables e below (T.setTop g) target := by
  obtain ⟨cl, A, r1, r2, r3⟩ := F
  obtain ⟨T', h', X', e', W, st⟩ := stI X hx hZ eT A (ar_in r1 h0 h1) hg hs hd
  exact ⟨T', h', X', e', W, Ar.set A r1 r2 r3 h0 h1 W, st⟩
theorem stAL (X : Stand p l e R s m args below meth c T locs cells slots) (hx : p.tables.exec = Jvm.exec) (hZ : Z.Warmed39 s.vm) (eT : T.heap = h) (F : Ar Z h a .long n f) {j : Int32} {x : Int64} (h0 : 0 ≤ j.toInt) (h1 : j.toInt < n)
    {g : JFrame} (hg : g.method = m) {rest : List Value} (hs : g.stack = .long x :: .int j :: .ref a :: rest) (hd : decode c.code g.pc = .ok (.lastore, 1)) :
    ∃ T' h', Stand p l e R s m args below meth c T' (locs ++ [⟨a, j.toNatClampNeg⟩]) cells slots ∧ T'.heap = h' ∧ Wr h h' a j.toNatClampNeg (.long x) ∧ Ar Z h' a .long n (fun i => if i = j.toInt.toNat then .long x else f i) ∧ ∀ target, Steps p.tables e below (T'.setTop { g with pc := g.pc + 1, stack := rest }) target → Steps p.tables e below (T.setTop g) target := by
  obtain ⟨cl, A, r1, r2, r3⟩ := F
  obtain ⟨T', h', X', e', W, st⟩ := stJ X hx hZ eT A (ar_in r1 h0 h1) hg hs hd
  exact ⟨T', h', X', e', W, Ar.set A r1 r2 r3 h0 h1 W, st⟩
theorem stAB (X : Stand p l e R s m args below meth c T locs cells slots) (hx : p.tables.exec = Jvm.exec) (hZ : Z.Warmed39 s.vm) (eT : T.heap = h) (F : Ar Z h a .byte n f) {j x : Int32} (h0 : 0 ≤ j.toInt) (h1 : j.toInt < n)
    {g : JFrame} (hg : g.method = m) {rest : List Value} (hs : g.stack = .int x :: .int j :: .ref a :: rest) (hd : decode c.code g.pc = .ok (.bastore, 1)) :
    ∃ T' h', Stand p l e R s m args below meth c T' (locs ++ [⟨a, j.toNatClampNeg⟩]) cells slots ∧ T'.heap = h' ∧ Wr h h' a j.toNatClampNeg (.int (nar .byte x)) ∧ Ar Z h' a .byte n (fun i => if i = j.toInt.toNat then .int (nar .byte x) else f i) ∧ ∀ target, Steps p.tables e below (T'.setTop { g with pc := g.pc + 1, stack := rest }) target → Steps p.tables e below (T.setTop g) target := by
  obtain ⟨cl, A, r1, r2, r3⟩ := F
  obtain ⟨T', h', X', e', W, st⟩ := stB X hx hZ eT A (ar_in r1 h0 h1) hg hs hd
  exact ⟨T', h', X', e', W, Ar.set A r1 r2 r3 h0 h1 W, st⟩
theorem stAZ (X : Stand p l e R s m args below meth c T locs cells slots) (hx : p.tables.exec = Jvm.exec) (hZ : Z.Warmed39 s.vm) (eT : T.heap = h) (F : Ar Z h a .boolean n f) {j x : Int32} (h0 : 0 ≤ j.toInt) (h1 : j.toInt < n)
    {g : JFrame} (hg : g.method = m) {rest : List Value} (hs : g.stack = .int x :: .int j :: .ref a :: rest) (hd : decode c.code g.pc = .ok (.bastore, 1)) :
    ∃ T' h', Stand p l e R s m args below meth c T' (locs ++ [⟨a, j.toNatClampNeg⟩]) cells slots ∧ T'.heap = h' ∧ Wr h h' a j.toNatClampNeg (.int (nar .boolean x)) ∧ Ar Z h' a .boolean n (fun i => if i = j.toInt.toNat then .int (nar .boolean x) else f i) ∧ ∀ target, Steps p.tables e below (T'.setTop { g with pc := g.pc + 1, stack := rest }) target → Steps p.tables e below (T.setTop g) target := by
  obtain ⟨cl, A, r1, r2, r3⟩ := F
  obtain ⟨T', h', X', e', W, st⟩ := stZ X hx hZ eT A (ar_in r1 h0 h1) hg hs hd
  exact ⟨T', h', X', e', W, Ar.set A r1 r2 r3 h0 h1 W, st⟩
end OwnLayer
end Jvm.OwnKit
namespace Jvm.OwnKit
open Sem ClassFile Op Lib Jvm.Stand Jvm.Free Jvm.LawKit Jvm.RoadKit
section OwnLayer3
variable {p : Program} {l : Launch} {e : Env} {R : Room} {s : State} {m : MethodId} {args : Array Value} {below : List Frame} {meth : Method} {c : Code} {T : State} {locs : List Loc} {cells slots : Nat} {Z : State} {a0 : Array Value} {h h' : Heap} {a b : Addr} {ty : FieldType} {n sl : Nat} {f : Nat → Value} {v : Value} {ws : List Addr}
theorem ofNat_int {n : Nat} (h : n < 2147483648) : (Int32.ofNat n).toInt = n := Int32.toInt_ofNat_small h
theorem getD_map {n : Nat} {f : Nat → Value} {d : Value} {i : Nat} (h : i < n) : ((List.range n).map f).getD i d = f i := by
  rw [List.getD_eq_getElem?_getD, List.getElem?_map, List.getElem?_range h]; rfl
theorem Ar.arv (F : Ar Z h a ty n f) (hf : ∀ i, i < n → fits ty (f i) = true) (d : Value) : ∃ k, Arv Z h a k ty (Int32.ofNat n) ((List.range n).map f) d := by
  obtain ⟨c, A, r1, r2, r3⟩ := F
  have hi := ofNat_int r2
  refine ⟨c.cls, c, A, rfl, ?_, ?_, fun k hk => ?_, fun k hk => ?_⟩
  · rw [nat_clamp, hi, r1]; rfl
  · rw [Int32.lt_iff_toInt_lt, hi]; show ¬ ((n : Int) < 0); omega
  · rw [r1] at hk; rw [r3 k hk, getD_map hk]
  · rw [r1] at hk; rw [getD_map hk]; exact hf k hk
/-- System.arraycopy of the whole of a into the head of b -/
theorem cpAr (X : Stand p l e R s m args below meth c T locs cells slots) (hx : p.tables.exec = Jvm.exec) (hZ : Z.Warmed39 s.vm) {own : String} {index : Nat} (hown : s.vm.findClass own = some m.cls)
    (w1 : (Cond.methodLink own index Jvm.Stand.acN).before a0 Z = true) (w2 : (Cond.native Jvm.Stand.acN).before a0 Z = true) (w3 : (Cond.static Jvm.Stand.acN).before a0 Z = true) (w4 : (Cond.initialized "java/lang/System").before a0 Z = true) (eT : T.heap = h)
    {M : Nat} {dv : Value} {nn : Int32} (F : Ar Z h a ty n f) (hf : ∀ i, i < n → fits ty (f i) = true) (G : Ar Z h b ty M (fun _ => dv)) (hd0 : fits ty dv = true) (hty : refKind ty = false) (hnn : nn.toInt = n) (hnM : n ≤ M) {n0 : Nat} (N : Fr n0 locs) (ge : n0 ≤ b)
    {g : JFrame} (hg : g.method = m) (hsize : g.locals.size = c.maxLocals) {rest : List Value} (hs : g.stack = .int nn :: .int 0 :: .ref b :: .int 0 :: .ref a :: rest) (hd : decode c.code g.pc = .ok (.invokestatic index, 3))
    (hfr : 1 ≤ R.frames) {W : Nat} (hW : 2 * g.monitorRoom + (rest.map fun v => v.category).sum ≤ W) (hlo : W + (nativeFrameWords "java/lang/System" "arraycopy" 5 + 11) ≤ R.locals) :
    ∃ T' h' L, Stand p l e R s m args below meth c T' L cells slots ∧ T'.heap = h' ∧ Fr n0 L ∧ Keep h h' [b] ∧ Ar Z h' b ty M (fun i => if i < n then f i else dv) ∧
      ∀ target, Steps p.tables e below (T'.setTop { g with pc := g.pc + 3, stack := rest }) target → Steps p.tables e below (T.setTop g) target := by
  have hM : M < 2147483648 := by obtain ⟨_, _, _, q, _⟩ := G; exact q
  have hn : n < 2147483648 := by omega
  obtain ⟨k1, A⟩ := F.arv hf dv
  obtain ⟨k2, B⟩ := G.arv (fun _ _ => hd0) dv
  have z0 : (0 : Int32).toNatClampNeg = 0 := rfl
  have zn : nn.toNatClampNeg = n := by rw [nat_clamp, hnn]; rfl
  have za : (Int32.ofNat n).toNatClampNeg = n := by rw [nat_clamp, ofNat_int hn]; rfl
  have zb : (Int32.ofNat M).toNatClampNeg = M := by rw [nat_clamp, ofNat_int hM]; rfl
  obtain ⟨T', h', L, X', e', N', K', V', st⟩ := cpA X hx hZ hown w1 w2 w3 w4 eT (sp := 0) (dp := 0) (nn := nn) A B (Or.inl ⟨rfl, hty⟩) (by decide) (by decide) (by rw [Int32.lt_iff_toInt_lt, hnn]; show ¬ ((n : Int) < 0); omega)
    (by rw [z0, zn, za]; omega) (by rw [z0, zn, zb]; omega) rfl (by rw [z0, zn]; simp; omega) N ge hg hsize hs hd hfr hW hlo
  refine ⟨T', h', L, X', e', N', K', ?_, st⟩
  have V2 := arv_ar V'
  rw [ofNat_int hM] at V2
  refine Ar.as (show Ar Z h' b ty M _ from V2) fun j hj => ?_
  rw [z0, zn]
  show (((List.range M).map fun _ => dv).take 0 ++ ((List.range n).map fun i => ((List.range n).map f).getD (0 + i) dv) ++ ((List.range M).map fun _ => dv).drop (0 + n)).getD j dv = if j < n then f j else dv
  rw [List.take_zero, List.nil_append, List.getD_eq_getElem?_getD]
  by_cases q : j < n
  · rw [if_pos q, List.getElem?_append_left (by simpa using q), List.getElem?_map, List.getElem?_range q]
    show ((List.range n).map f).getD (0 + j) dv = f j
    rw [Nat.zero_add, getD_map q]
  · rw [if_neg q, List.getElem?_append_right (by simpa using q), List.getElem?_drop, List.getElem?_map]
    cases hh : (List.range M)[0 + n + (j - ((List.range n).map fun i => ((List.range n).map f).getD (0 + i) dv).length)]? <;> rfl
theorem ne_ar {D : String} {k : Nat} (F : Exa Z h a D) (wi : (Cond.instantiable D k).before a0 Z = true) (G : Ar Z h b ty n f) : a ≠ b := by
  obtain ⟨c, A, -⟩ := G; exact ne_arr F wi A
end OwnLayer3
end Jvm.OwnKit
namespace Jvm.Pilot.@@N@@
open Jvm Jvm.ClassFile Sem Op Lib Jvm.Free Jvm.Stand Jvm.LawKit Jvm.RoadKit Bundle Jvm.OwnKit Jvm.Pilot.@@N@@.Jvm.D
def fmax (u0 : Int32) (u1 : Int32) : Int32 := (if u0 < u1 then u1 else u0)
def fmin (u0 : Int32) (u1 : Int32) : Int32 := (if u1 < u0 then u1 else u0)
theorem ef_31 (m : MethodId) (x0 : Int32) (x1 : Int32) : entryFrame m #[(.int x0), (.int x1)] 2 = mkF m 0 #[.val (.int x0), .val (.int x1)] [] := by first | (simp [entryFrame, mkF, argsToLocals, Value.category]; done) | rfl
theorem d31_0 : decode jdk_29_method_65_code 0 = .ok (.iload_n 0, 1) := by decide +kernel
theorem d31_1 : decode jdk_29_method_65_code 1 = .ok (.iload_n 1, 1) := by decide +kernel
theorem d31_2 : decode jdk_29_method_65_code 2 = .ok (.if_icmp .lt 7, 3) := by decide +kernel
theorem d31_9 : decode jdk_29_method_65_code 9 = .ok (.iload_n 1, 1) := by decide +kernel
theorem d31_5 : decode jdk_29_method_65_code 5 = .ok (.iload_n 0, 1) := by decide +kernel
theorem d31_6 : decode jdk_29_method_65_code 6 = .ok (.goto 4, 3) := by decide +kernel
theorem d31_10 : decode jdk_29_method_65_code 10 = .ok (.ireturn, 1) := by decide +kernel
theorem ef_32 (m : MethodId) (x0 : Int32) (x1 : Int32) : entryFrame m #[(.int x0), (.int x1)] 2 = mkF m 0 #[.val (.int x0), .val (.int x1)] [] := by first | (simp [entryFrame, mkF, argsToLocals, Value.category]; done) | rfl
theorem d32_0 : decode jdk_29_method_69_code 0 = .ok (.iload_n 0, 1) := by decide +kernel
theorem d32_1 : decode jdk_29_method_69_code 1 = .ok (.iload_n 1, 1) := by decide +kernel
theorem d32_2 : decode jdk_29_method_69_code 2 = .ok (.if_icmp .gt 7, 3) := by decide +kernel
theorem d32_9 : decode jdk_29_method_69_code 9 = .ok (.iload_n 1, 1) := by decide +kernel
theorem d32_5 : decode jdk_29_method_69_code 5 = .ok (.iload_n 0, 1) := by decide +kernel
theorem d32_6 : decode jdk_29_method_69_code 6 = .ok (.goto 4, 3) := by decide +kernel
theorem d32_10 : decode jdk_29_method_69_code 10 = .ok (.ireturn, 1) := by decide +kernel
theorem ef_4 (m : MethodId) (x0 : Addr) (x1 : Int32) : entryFrame m #[(.ref x0), (.int x1)] 3 = mkF m 0 #[.val (.ref x0), .val (.int x1), .unset] [] := by first | (simp [entryFrame, mkF, argsToLocals, Value.category]; done) | rfl
theorem pn_java_util_Arrays : plainName "java/util/Arrays" = true := by first | (simp [plainName, overriddenIn]; done) | decide +kernel
theorem d4_0 : decode jdk_65_method_123_code 0 = .ok (.iload_n 1, 1) := by decide +kernel
theorem d4_1 : decode jdk_65_method_123_code 1 = .ok (.aload_n 0, 1) := by decide +kernel
theorem d4_2 : decode jdk_65_method_123_code 2 = .ok (.arraylength, 1) := by decide +kernel
theorem d4_3 : decode jdk_65_method_123_code 3 = .ok (.if_icmp .ne 11, 3) := by decide +kernel
theorem d4_14 : decode jdk_65_method_123_code 14 = .ok (.iload_n 1, 1) := by decide +kernel
theorem d4_15 : decode jdk_65_method_123_code 15 = .ok (.newarray .int, 2) := by decide +kernel
theorem d4_17 : decode jdk_65_method_123_code 17 = .ok (.astore_n 2, 1) := by decide +kernel
theorem d4_18 : decode jdk_65_method_123_code 18 = .ok (.aload_n 0, 1) := by decide +kernel
theorem d4_19 : decode jdk_65_method_123_code 19 = .ok (.iconst 0, 1) := by decide +kernel
theorem d4_20 : decode jdk_65_method_123_code 20 = .ok (.aload_n 2, 1) := by decide +kernel
theorem d4_21 : decode jdk_65_method_123_code 21 = .ok (.iconst 0, 1) := by decide +kernel
theorem d4_22 : decode jdk_65_method_123_code 22 = .ok (.aload_n 0, 1) := by decide +kernel
theorem d4_23 : decode jdk_65_method_123_code 23 = .ok (.arraylength, 1) := by decide +kernel
theorem d4_24 : decode jdk_65_method_123_code 24 = .ok (.iload_n 1, 1) := by decide +kernel
theorem d4_25 : decode jdk_65_method_123_code 25 = .ok (.invokestatic 304, 3) := by decide +kernel
theorem pd_oIIcI : parseMethodDescriptor "(II)I" = some ⟨[.int, .int], some .int⟩ := by decide +kernel
theorem d4_28 : decode jdk_65_method_123_code 28 = .ok (.invokestatic 150, 3) := by decide +kernel
theorem d4_31 : decode jdk_65_method_123_code 31 = .ok (.aload_n 2, 1) := by decide +kernel
theorem d4_32 : decode jdk_65_method_123_code 32 = .ok (.areturn, 1) := by decide +kernel
theorem ef_5 (m : MethodId) (x0 : Addr) (x1 : Int32) : entryFrame m #[(.ref x0), (.int x1)] 3 = mkF m 0 #[.val (.ref x0), .val (.int x1), .unset] [] := by first | (simp [entryFrame, mkF, argsToLocals, Value.category]; done) | rfl
theorem d5_0 : decode jdk_65_method_128_code 0 = .ok (.iload_n 1, 1) := by decide +kernel
theorem d5_1 : decode jdk_65_method_128_code 1 = .ok (.aload_n 0, 1) := by decide +kernel
theorem d5_2 : decode jdk_65_method_128_code 2 = .ok (.arraylength, 1) := by decide +kernel
theorem d5_3 : decode jdk_65_method_128_code 3 = .ok (.if_icmp .ne 11, 3) := by decide +kernel
theorem d5_14 : decode jdk_65_method_128_code 14 = .ok (.iload_n 1, 1) := by decide +kernel
theorem d5_15 : decode jdk_65_method_128_code 15 = .ok (.newarray .boolean, 2) := by decide +kernel
theorem d5_17 : decode jdk_65_method_128_code 17 = .ok (.astore_n 2, 1) := by decide +kernel
theorem d5_18 : decode jdk_65_method_128_code 18 = .ok (.aload_n 0, 1) := by decide +kernel
theorem d5_19 : decode jdk_65_method_128_code 19 = .ok (.iconst 0, 1) := by decide +kernel
theorem d5_20 : decode jdk_65_method_128_code 20 = .ok (.aload_n 2, 1) := by decide +kernel
theorem d5_21 : decode jdk_65_method_128_code 21 = .ok (.iconst 0, 1) := by decide +kernel
theorem d5_22 : decode jdk_65_method_128_code 22 = .ok (.aload_n 0, 1) := by decide +kernel
theorem d5_23 : decode jdk_65_method_128_code 23 = .ok (.arraylength, 1) := by decide +kernel
theorem d5_24 : decode jdk_65_method_128_code 24 = .ok (.iload_n 1, 1) := by decide +kernel
theorem d5_25 : decode jdk_65_method_128_code 25 = .ok (.invokestatic 304, 3) := by decide +kernel
theorem d5_28 : decode jdk_65_method_128_code 28 = .ok (.invokestatic 150, 3) := by decide +kernel
theorem d5_31 : decode jdk_65_method_128_code 31 = .ok (.aload_n 2, 1) := by decide +kernel
theorem d5_32 : decode jdk_65_method_128_code 32 = .ok (.areturn, 1) := by decide +kernel
theorem ef_6 (m : MethodId) (x0 : Int32) (x1 : Int32) (x2 : Int32) : entryFrame m #[(.int x0), (.int x1), (.int x2)] 3 = mkF m 0 #[.val (.int x0), .val (.int x1), .val (.int x2)] [] := by first | (simp [entryFrame, mkF, argsToLocals, Value.category]; done) | rfl
theorem d6_0 : decode jdk_65_method_30_code 0 = .ok (.iload_n 1, 1) := by decide +kernel
theorem d6_1 : decode jdk_65_method_30_code 1 = .ok (.iload_n 2, 1) := by decide +kernel
theorem d6_2 : decode jdk_65_method_30_code 2 = .ok (.if_icmp .le 44, 3) := by decide +kernel
theorem d6_46 : decode jdk_65_method_30_code 46 = .ok (.iload_n 1, 1) := by decide +kernel
theorem d6_47 : decode jdk_65_method_30_code 47 = .ok (.ifCond .ge 12, 3) := by decide +kernel
theorem d6_59 : decode jdk_65_method_30_code 59 = .ok (.iload_n 2, 1) := by decide +kernel
theorem d6_60 : decode jdk_65_method_30_code 60 = .ok (.iload_n 0, 1) := by decide +kernel
theorem d6_61 : decode jdk_65_method_30_code 61 = .ok (.if_icmp .le 12, 3) := by decide +kernel
theorem d6_73 : decode jdk_65_method_30_code 73 = .ok (.return_, 1) := by decide +kernel
theorem ef_7 (m : MethodId) (x0 : Addr) (x1 : Int32) (x2 : Int32) (x3 : Int32) : entryFrame m #[(.ref x0), (.int x1), (.int x2), (.int x3)] 5 = mkF m 0 #[.val (.ref x0), .val (.int x1), .val (.int x2), .val (.int x3), .unset] [] := by first | (simp [entryFrame, mkF, argsToLocals, Value.category]; done) | rfl
theorem d7_0 : decode jdk_65_method_104_code 0 = .ok (.aload_n 0, 1) := by decide +kernel
theorem d7_1 : decode jdk_65_method_104_code 1 = .ok (.arraylength, 1) := by decide +kernel
theorem d7_2 : decode jdk_65_method_104_code 2 = .ok (.iload_n 1, 1) := by decide +kernel
theorem d7_3 : decode jdk_65_method_104_code 3 = .ok (.iload_n 2, 1) := by decide +kernel
theorem d7_4 : decode jdk_65_method_104_code 4 = .ok (.invokestatic 13, 3) := by decide +kernel
theorem pd_oIIIcV : parseMethodDescriptor "(III)V" = some ⟨[.int, .int, .int], none⟩ := by decide +kernel
theorem d7_7 : decode jdk_65_method_104_code 7 = .ok (.iload_n 1, 1) := by decide +kernel
theorem d7_8 : decode jdk_65_method_104_code 8 = .ok (.istore 4, 2) := by decide +kernel
theorem d7_10 : decode jdk_65_method_104_code 10 = .ok (.iload 4, 2) := by decide +kernel
theorem d7_12 : decode jdk_65_method_104_code 12 = .ok (.iload_n 2, 1) := by decide +kernel
theorem d7_13 : decode jdk_65_method_104_code 13 = .ok (.if_icmp .ge 14, 3) := by decide +kernel
theorem d7_16 : decode jdk_65_method_104_code 16 = .ok (.aload_n 0, 1) := by decide +kernel
theorem d7_17 : decode jdk_65_method_104_code 17 = .ok (.iload 4, 2) := by decide +kernel
theorem d7_19 : decode jdk_65_method_104_code 19 = .ok (.iload_n 3, 1) := by decide +kernel
theorem d7_20 : decode jdk_65_method_104_code 20 = .ok (.iastore, 1) := by decide +kernel
theorem d7_21 : decode jdk_65_method_104_code 21 = .ok (.iinc 4 1, 3) := by decide +kernel
theorem d7_24 : decode jdk_65_method_104_code 24 = .ok (.goto (-14), 3) := by decide +kernel
theorem d7_27 : decode jdk_65_method_104_code 27 = .ok (.return_, 1) := by decide +kernel
theorem ef_2 (m : MethodId) (x0 : Addr) : entryFrame m #[(.ref x0), .null] 2 = mkF m 0 #[.val (.ref x0), .val .null] [] := by first | (simp [entryFrame, mkF, argsToLocals, Value.category]; done) | rfl
theorem pn_com_example_witness_witness_logic_StepSearch : plainName "com/example/witness/witness/logic/StepSearch" = true := by first | (simp [plainName, overriddenIn]; done) | decide +kernel
theorem d2_0 : decode prog_124_method_2_code 0 = .ok (.aload_n 0, 1) := by decide +kernel
theorem d2_1 : decode prog_124_method_2_code 1 = .ok (.invokespecial 9, 3) := by decide +kernel
theorem d2_4 : decode prog_124_method_2_code 4 = .ok (.aload_n 0, 1) := by decide +kernel
theorem d2_5 : decode prog_124_method_2_code 5 = .ok (.iconst 0, 1) := by decide +kernel
theorem d2_6 : decode prog_124_method_2_code 6 = .ok (.newarray .int, 2) := by decide +kernel
theorem d2_8 : decode prog_124_method_2_code 8 = .ok (.putfield 14, 3) := by decide +kernel
theorem d2_11 : decode prog_124_method_2_code 11 = .ok (.aload_n 0, 1) := by decide +kernel
theorem d2_12 : decode prog_124_method_2_code 12 = .ok (.iconst 0, 1) := by decide +kernel
theorem d2_13 : decode prog_124_method_2_code 13 = .ok (.newarray .int, 2) := by decide +kernel
theorem d2_15 : decode prog_124_method_2_code 15 = .ok (.putfield 18, 3) := by decide +kernel
theorem d2_18 : decode prog_124_method_2_code 18 = .ok (.aload_n 0, 1) := by decide +kernel
theorem d2_19 : decode prog_124_method_2_code 19 = .ok (.iconst 0, 1) := by decide +kernel
theorem d2_20 : decode prog_124_method_2_code 20 = .ok (.newarray .int, 2) := by decide +kernel
theorem d2_22 : decode prog_124_method_2_code 22 = .ok (.putfield 21, 3) := by decide +kernel
theorem d2_25 : decode prog_124_method_2_code 25 = .ok (.aload_n 0, 1) := by decide +kernel
theorem d2_26 : decode prog_124_method_2_code 26 = .ok (.iconst 0, 1) := by decide +kernel
theorem d2_27 : decode prog_124_method_2_code 27 = .ok (.newarray .boolean, 2) := by decide +kernel
theorem d2_29 : decode prog_124_method_2_code 29 = .ok (.putfield 24, 3) := by decide +kernel
theorem d2_32 : decode prog_124_method_2_code 32 = .ok (.aload_n 0, 1) := by decide +kernel
theorem d2_33 : decode prog_124_method_2_code 33 = .ok (.bipush 16, 2) := by decide +kernel
theorem d2_35 : decode prog_124_method_2_code 35 = .ok (.newarray .int, 2) := by decide +kernel
theorem d2_37 : decode prog_124_method_2_code 37 = .ok (.putfield 28, 3) := by decide +kernel
theorem d2_40 : decode prog_124_method_2_code 40 = .ok (.aload_n 0, 1) := by decide +kernel
theorem d2_41 : decode prog_124_method_2_code 41 = .ok (.aload_n 1, 1) := by decide +kernel
theorem d2_42 : decode prog_124_method_2_code 42 = .ok (.putfield 31, 3) := by decide +kernel
theorem d2_45 : decode prog_124_method_2_code 45 = .ok (.return_, 1) := by decide +kernel
theorem ef_1 (m : MethodId) (x0 : Addr) : entryFrame m #[(.ref x0)] 1 = mkF m 0 #[.val (.ref x0)] [] := by first | (simp [entryFrame, mkF, argsToLocals, Value.category]; done) | rfl
theorem d1_0 : decode prog_124_method_1_code 0 = .ok (.aload_n 0, 1) := by decide +kernel
theorem d1_1 : decode prog_124_method_1_code 1 = .ok (.aconst_null, 1) := by decide +kernel
theorem d1_2 : decode prog_124_method_1_code 2 = .ok (.invokespecial 3, 3) := by decide +kernel
theorem pd_oLcom_example_witness_witness_logic_IntStackscV : parseMethodDescriptor "(Lcom/example/witness/witness/logic/IntStack;)V" = some ⟨[(.object "com/example/witness/witness/logic/IntStack")], none⟩ := by decide +kernel
theorem d1_5 : decode prog_124_method_1_code 5 = .ok (.return_, 1) := by decide +kernel
theorem ef_8 (m : MethodId) (x0 : Addr) (x1 : Int32) : entryFrame m #[(.ref x0), (.int x1)] 4 = mkF m 0 #[.val (.ref x0), .val (.int x1), .unset, .unset] [] := by first | (simp [entryFrame, mkF, argsToLocals, Value.category]; done) | rfl
theorem d8_0 : decode prog_124_method_9_code 0 = .ok (.iconst 2, 1) := by decide +kernel
theorem d8_1 : decode prog_124_method_9_code 1 = .ok (.aload_n 0, 1) := by decide +kernel
theorem d8_2 : decode prog_124_method_9_code 2 = .ok (.getfield 14, 3) := by decide +kernel
theorem d8_5 : decode prog_124_method_9_code 5 = .ok (.arraylength, 1) := by decide +kernel
theorem d8_6 : decode prog_124_method_9_code 6 = .ok (.imul, 1) := by decide +kernel
theorem d8_7 : decode prog_124_method_9_code 7 = .ok (.iload_n 1, 1) := by decide +kernel
theorem d8_8 : decode prog_124_method_9_code 8 = .ok (.iconst 1, 1) := by decide +kernel
theorem d8_9 : decode prog_124_method_9_code 9 = .ok (.iadd, 1) := by decide +kernel
theorem d8_10 : decode prog_124_method_9_code 10 = .ok (.invokestatic 68, 3) := by decide +kernel
theorem d8_13 : decode prog_124_method_9_code 13 = .ok (.istore_n 2, 1) := by decide +kernel
theorem d8_14 : decode prog_124_method_9_code 14 = .ok (.aload_n 0, 1) := by decide +kernel
theorem d8_15 : decode prog_124_method_9_code 15 = .ok (.getfield 14, 3) := by decide +kernel
theorem d8_18 : decode prog_124_method_9_code 18 = .ok (.arraylength, 1) := by decide +kernel
theorem d8_19 : decode prog_124_method_9_code 19 = .ok (.istore_n 3, 1) := by decide +kernel
theorem d8_20 : decode prog_124_method_9_code 20 = .ok (.aload_n 0, 1) := by decide +kernel
theorem d8_21 : decode prog_124_method_9_code 21 = .ok (.aload_n 0, 1) := by decide +kernel
theorem d8_22 : decode prog_124_method_9_code 22 = .ok (.getfield 14, 3) := by decide +kernel
theorem d8_25 : decode prog_124_method_9_code 25 = .ok (.iload_n 2, 1) := by decide +kernel
theorem d8_26 : decode prog_124_method_9_code 26 = .ok (.invokestatic 74, 3) := by decide +kernel
theorem pd_oaIIcaI : parseMethodDescriptor "([II)[I" = some ⟨[(.array .int), .int], some (.array .int)⟩ := by decide +kernel
theorem d8_29 : decode prog_124_method_9_code 29 = .ok (.putfield 14, 3) := by decide +kernel
theorem d8_32 : decode prog_124_method_9_code 32 = .ok (.aload_n 0, 1) := by decide +kernel
theorem d8_33 : decode prog_124_method_9_code 33 = .ok (.getfield 14, 3) := by decide +kernel
theorem d8_36 : decode prog_124_method_9_code 36 = .ok (.iload_n 3, 1) := by decide +kernel
theorem d8_37 : decode prog_124_method_9_code 37 = .ok (.iload_n 2, 1) := by decide +kernel
theorem d8_38 : decode prog_124_method_9_code 38 = .ok (.ldc 42, 2) := by decide +kernel
theorem d8_40 : decode prog_124_method_9_code 40 = .ok (.invokestatic 80, 3) := by decide +kernel
theorem pd_oaIIIIcV : parseMethodDescriptor "([IIII)V" = some ⟨[(.array .int), .int, .int, .int], none⟩ := by decide +kernel
theorem d8_43 : decode prog_124_method_9_code 43 = .ok (.aload_n 0, 1) := by decide +kernel
theorem d8_44 : decode prog_124_method_9_code 44 = .ok (.aload_n 0, 1) := by decide +kernel
theorem d8_45 : decode prog_124_method_9_code 45 = .ok (.getfield 18, 3) := by decide +kernel
theorem d8_48 : decode prog_124_method_9_code 48 = .ok (.iload_n 2, 1) := by decide +kernel
theorem d8_49 : decode prog_124_method_9_code 49 = .ok (.invokestatic 74, 3) := by decide +kernel
theorem d8_52 : decode prog_124_method_9_code 52 = .ok (.putfield 18, 3) := by decide +kernel
theorem d8_55 : decode prog_124_method_9_code 55 = .ok (.aload_n 0, 1) := by decide +kernel
theorem d8_56 : decode prog_124_method_9_code 56 = .ok (.aload_n 0, 1) := by decide +kernel
theorem d8_57 : decode prog_124_method_9_code 57 = .ok (.getfield 21, 3) := by decide +kernel
theorem d8_60 : decode prog_124_method_9_code 60 = .ok (.iload_n 2, 1) := by decide +kernel
theorem d8_61 : decode prog_124_method_9_code 61 = .ok (.invokestatic 74, 3) := by decide +kernel
theorem d8_64 : decode prog_124_method_9_code 64 = .ok (.putfield 21, 3) := by decide +kernel
theorem d8_67 : decode prog_124_method_9_code 67 = .ok (.aload_n 0, 1) := by decide +kernel
theorem d8_68 : decode prog_124_method_9_code 68 = .ok (.aload_n 0, 1) := by decide +kernel
theorem d8_69 : decode prog_124_method_9_code 69 = .ok (.getfield 24, 3) := by decide +kernel
theorem d8_72 : decode prog_124_method_9_code 72 = .ok (.iload_n 2, 1) := by decide +kernel
theorem d8_73 : decode prog_124_method_9_code 73 = .ok (.invokestatic 84, 3) := by decide +kernel
theorem pd_oaZIcaZ : parseMethodDescriptor "([ZI)[Z" = some ⟨[(.array .boolean), .int], some (.array .boolean)⟩ := by decide +kernel
theorem d8_76 : decode prog_124_method_9_code 76 = .ok (.putfield 24, 3) := by decide +kernel
theorem d8_79 : decode prog_124_method_9_code 79 = .ok (.return_, 1) := by decide +kernel
theorem ef_9a (m : MethodId) (x0 : Addr) (x1 : Int32) (x2 : Int32) (x3 : Int32) (x4 : Int32) (x5 : Int32) : entryFrame m #[(.ref x0), (.int x1), (.int x2), (.int x3), (.int x4), (.int x5)] 6 = mkF m 0 #[.val (.ref x0), .val (.int x1), .val (.int x2), .val (.int x3), .val (.int x4), .val (.int x5)] [] := by first | (simp [entryFrame, mkF, argsToLocals, Value.category]; done) | rfl
theorem d9a_0 : decode prog_124_method_4_code 0 = .ok (.iload_n 1, 1) := by decide +kernel
theorem d9a_1 : decode prog_124_method_4_code 1 = .ok (.aload_n 0, 1) := by decide +kernel
theorem d9a_2 : decode prog_124_method_4_code 2 = .ok (.getfield 14, 3) := by decide +kernel
theorem d9a_5 : decode prog_124_method_4_code 5 = .ok (.arraylength, 1) := by decide +kernel
theorem d9a_6 : decode prog_124_method_4_code 6 = .ok (.if_icmp .lt 8, 3) := by decide +kernel
theorem d9a_14 : decode prog_124_method_4_code 14 = .ok (.iload_n 2, 1) := by decide +kernel
theorem d9a_15 : decode prog_124_method_4_code 15 = .ok (.aload_n 0, 1) := by decide +kernel
theorem d9a_16 : decode prog_124_method_4_code 16 = .ok (.getfield 14, 3) := by decide +kernel
theorem d9a_19 : decode prog_124_method_4_code 19 = .ok (.iload_n 1, 1) := by decide +kernel
theorem d9a_20 : decode prog_124_method_4_code 20 = .ok (.iaload, 1) := by decide +kernel
theorem d9a_21 : decode prog_124_method_4_code 21 = .ok (.if_icmp .ge 136, 3) := by decide +kernel
theorem d9a_157 : decode prog_124_method_4_code 157 = .ok (.return_, 1) := by decide +kernel
theorem d9a_9 : decode prog_124_method_4_code 9 = .ok (.aload_n 0, 1) := by decide +kernel
theorem d9a_10 : decode prog_124_method_4_code 10 = .ok (.iload_n 1, 1) := by decide +kernel
theorem d9a_11 : decode prog_124_method_4_code 11 = .ok (.invokevirtual 38, 3) := by decide +kernel
theorem pd_oIcV : parseMethodDescriptor "(I)V" = some ⟨[.int], none⟩ := by decide +kernel
theorem ef_9b (m : MethodId) (x0 : Addr) (x1 : Int32) (x2 : Int32) (x3 : Int32) (x4 : Int32) (x5 : Int32) : entryFrame m #[(.ref x0), (.int x1), (.int x2), (.int x3), (.int x4), (.int x5)] 6 = mkF m 0 #[.val (.ref x0), .val (.int x1), .val (.int x2), .val (.int x3), .val (.int x4), .val (.int x5)] [] := by first | (simp [entryFrame, mkF, argsToLocals, Value.category]; done) | rfl
theorem d9b_0 : decode prog_124_method_4_code 0 = .ok (.iload_n 1, 1) := by decide +kernel
theorem d9b_1 : decode prog_124_method_4_code 1 = .ok (.aload_n 0, 1) := by decide +kernel
theorem d9b_2 : decode prog_124_method_4_code 2 = .ok (.getfield 14, 3) := by decide +kernel
theorem d9b_5 : decode prog_124_method_4_code 5 = .ok (.arraylength, 1) := by decide +kernel
theorem d9b_6 : decode prog_124_method_4_code 6 = .ok (.if_icmp .lt 8, 3) := by decide +kernel
theorem d9b_14 : decode prog_124_method_4_code 14 = .ok (.iload_n 2, 1) := by decide +kernel
theorem d9b_15 : decode prog_124_method_4_code 15 = .ok (.aload_n 0, 1) := by decide +kernel
theorem d9b_16 : decode prog_124_method_4_code 16 = .ok (.getfield 14, 3) := by decide +kernel
theorem d9b_19 : decode prog_124_method_4_code 19 = .ok (.iload_n 1, 1) := by decide +kernel
theorem d9b_20 : decode prog_124_method_4_code 20 = .ok (.iaload, 1) := by decide +kernel
theorem d9b_21 : decode prog_124_method_4_code 21 = .ok (.if_icmp .ge 136, 3) := by decide +kernel
theorem d9b_24 : decode prog_124_method_4_code 24 = .ok (.aload_n 0, 1) := by decide +kernel
theorem d9b_25 : decode prog_124_method_4_code 25 = .ok (.getfield 31, 3) := by decide +kernel
theorem d9b_28 : decode prog_124_method_4_code 28 = .ok (.ifnull 22, 3) := by decide +kernel
theorem d9b_50 : decode prog_124_method_4_code 50 = .ok (.aload_n 0, 1) := by decide +kernel
theorem d9b_51 : decode prog_124_method_4_code 51 = .ok (.getfield 14, 3) := by decide +kernel
theorem d9b_54 : decode prog_124_method_4_code 54 = .ok (.iload_n 1, 1) := by decide +kernel
theorem d9b_55 : decode prog_124_method_4_code 55 = .ok (.iload_n 2, 1) := by decide +kernel
theorem d9b_56 : decode prog_124_method_4_code 56 = .ok (.iastore, 1) := by decide +kernel
theorem d9b_57 : decode prog_124_method_4_code 57 = .ok (.aload_n 0, 1) := by decide +kernel
theorem d9b_58 : decode prog_124_method_4_code 58 = .ok (.getfield 18, 3) := by decide +kernel
theorem d9b_61 : decode prog_124_method_4_code 61 = .ok (.iload_n 1, 1) := by decide +kernel
theorem d9b_62 : decode prog_124_method_4_code 62 = .ok (.iload_n 3, 1) := by decide +kernel
theorem d9b_63 : decode prog_124_method_4_code 63 = .ok (.iastore, 1) := by decide +kernel
theorem d9b_64 : decode prog_124_method_4_code 64 = .ok (.aload_n 0, 1) := by decide +kernel
theorem d9b_65 : decode prog_124_method_4_code 65 = .ok (.getfield 21, 3) := by decide +kernel
theorem d9b_68 : decode prog_124_method_4_code 68 = .ok (.iload_n 1, 1) := by decide +kernel
theorem d9b_69 : decode prog_124_method_4_code 69 = .ok (.iload 4, 2) := by decide +kernel
theorem d9b_71 : decode prog_124_method_4_code 71 = .ok (.iastore, 1) := by decide +kernel
theorem d9b_72 : decode prog_124_method_4_code 72 = .ok (.aload_n 0, 1) := by decide +kernel
theorem d9b_73 : decode prog_124_method_4_code 73 = .ok (.getfield 46, 3) := by decide +kernel
theorem d9b_76 : decode prog_124_method_4_code 76 = .ok (.aload_n 0, 1) := by decide +kernel
theorem d9b_77 : decode prog_124_method_4_code 77 = .ok (.getfield 28, 3) := by decide +kernel
theorem d9b_80 : decode prog_124_method_4_code 80 = .ok (.arraylength, 1) := by decide +kernel
theorem d9b_81 : decode prog_124_method_4_code 81 = .ok (.if_icmp .ne 7, 3) := by decide +kernel
theorem d9b_88 : decode prog_124_method_4_code 88 = .ok (.iload 5, 2) := by decide +kernel
theorem d9b_90 : decode prog_124_method_4_code 90 = .ok (.ifCond .eq 34, 3) := by decide +kernel
theorem d9b_93 : decode prog_124_method_4_code 93 = .ok (.aload_n 0, 1) := by decide +kernel
theorem d9b_94 : decode prog_124_method_4_code 94 = .ok (.aload_n 0, 1) := by decide +kernel
theorem d9b_95 : decode prog_124_method_4_code 95 = .ok (.getfield 53, 3) := by decide +kernel
theorem d9b_98 : decode prog_124_method_4_code 98 = .ok (.iconst 1, 1) := by decide +kernel
theorem d9b_99 : decode prog_124_method_4_code 99 = .ok (.isub, 1) := by decide +kernel
theorem d9b_100 : decode prog_124_method_4_code 100 = .ok (.aload_n 0, 1) := by decide +kernel
theorem d9b_101 : decode prog_124_method_4_code 101 = .ok (.getfield 28, 3) := by decide +kernel
theorem d9b_104 : decode prog_124_method_4_code 104 = .ok (.arraylength, 1) := by decide +kernel
theorem d9b_105 : decode prog_124_method_4_code 105 = .ok (.iconst 1, 1) := by decide +kernel
theorem d9b_106 : decode prog_124_method_4_code 106 = .ok (.isub, 1) := by decide +kernel
theorem d9b_107 : decode prog_124_method_4_code 107 = .ok (.iand, 1) := by decide +kernel
theorem d9b_108 : decode prog_124_method_4_code 108 = .ok (.putfield 53, 3) := by decide +kernel
theorem d9b_111 : decode prog_124_method_4_code 111 = .ok (.aload_n 0, 1) := by decide +kernel
theorem d9b_112 : decode prog_124_method_4_code 112 = .ok (.getfield 28, 3) := by decide +kernel
theorem d9b_115 : decode prog_124_method_4_code 115 = .ok (.aload_n 0, 1) := by decide +kernel
theorem d9b_116 : decode prog_124_method_4_code 116 = .ok (.getfield 53, 3) := by decide +kernel
theorem d9b_119 : decode prog_124_method_4_code 119 = .ok (.iload_n 1, 1) := by decide +kernel
theorem d9b_120 : decode prog_124_method_4_code 120 = .ok (.iastore, 1) := by decide +kernel
theorem d9b_121 : decode prog_124_method_4_code 121 = .ok (.goto 26, 3) := by decide +kernel
theorem d9b_147 : decode prog_124_method_4_code 147 = .ok (.aload_n 0, 1) := by decide +kernel
theorem d9b_148 : decode prog_124_method_4_code 148 = .ok (.dup, 1) := by decide +kernel
theorem d9b_149 : decode prog_124_method_4_code 149 = .ok (.getfield 46, 3) := by decide +kernel
theorem d9b_152 : decode prog_124_method_4_code 152 = .ok (.iconst 1, 1) := by decide +kernel
theorem d9b_153 : decode prog_124_method_4_code 153 = .ok (.iadd, 1) := by decide +kernel
theorem d9b_154 : decode prog_124_method_4_code 154 = .ok (.putfield 46, 3) := by decide +kernel
theorem d9b_157 : decode prog_124_method_4_code 157 = .ok (.return_, 1) := by decide +kernel
theorem d9b_9 : decode prog_124_method_4_code 9 = .ok (.aload_n 0, 1) := by decide +kernel
theorem d9b_10 : decode prog_124_method_4_code 10 = .ok (.iload_n 1, 1) := by decide +kernel
theorem d9b_11 : decode prog_124_method_4_code 11 = .ok (.invokevirtual 38, 3) := by decide +kernel
theorem ef_9c (m : MethodId) (x0 : Addr) (x1 : Int32) (x2 : Int32) (x3 : Int32) (x4 : Int32) (x5 : Int32) : entryFrame m #[(.ref x0), (.int x1), (.int x2), (.int x3), (.int x4), (.int x5)] 6 = mkF m 0 #[.val (.ref x0), .val (.int x1), .val (.int x2), .val (.int x3), .val (.int x4), .val (.int x5)] [] := by first | (simp [entryFrame, mkF, argsToLocals, Value.category]; done) | rfl
theorem d9c_0 : decode prog_124_method_4_code 0 = .ok (.iload_n 1, 1) := by decide +kernel
theorem d9c_1 : decode prog_124_method_4_code 1 = .ok (.aload_n 0, 1) := by decide +kernel
theorem d9c_2 : decode prog_124_method_4_code 2 = .ok (.getfield 14, 3) := by decide +kernel
theorem d9c_5 : decode prog_124_method_4_code 5 = .ok (.arraylength, 1) := by decide +kernel
theorem d9c_6 : decode prog_124_method_4_code 6 = .ok (.if_icmp .lt 8, 3) := by decide +kernel
theorem d9c_14 : decode prog_124_method_4_code 14 = .ok (.iload_n 2, 1) := by decide +kernel
theorem d9c_15 : decode prog_124_method_4_code 15 = .ok (.aload_n 0, 1) := by decide +kernel
theorem d9c_16 : decode prog_124_method_4_code 16 = .ok (.getfield 14, 3) := by decide +kernel
theorem d9c_19 : decode prog_124_method_4_code 19 = .ok (.iload_n 1, 1) := by decide +kernel
theorem d9c_20 : decode prog_124_method_4_code 20 = .ok (.iaload, 1) := by decide +kernel
theorem d9c_21 : decode prog_124_method_4_code 21 = .ok (.if_icmp .ge 136, 3) := by decide +kernel
theorem d9c_24 : decode prog_124_method_4_code 24 = .ok (.aload_n 0, 1) := by decide +kernel
theorem d9c_25 : decode prog_124_method_4_code 25 = .ok (.getfield 31, 3) := by decide +kernel
theorem d9c_28 : decode prog_124_method_4_code 28 = .ok (.ifnull 22, 3) := by decide +kernel
theorem d9c_50 : decode prog_124_method_4_code 50 = .ok (.aload_n 0, 1) := by decide +kernel
theorem d9c_51 : decode prog_124_method_4_code 51 = .ok (.getfield 14, 3) := by decide +kernel
theorem d9c_54 : decode prog_124_method_4_code 54 = .ok (.iload_n 1, 1) := by decide +kernel
theorem d9c_55 : decode prog_124_method_4_code 55 = .ok (.iload_n 2, 1) := by decide +kernel
theorem d9c_56 : decode prog_124_method_4_code 56 = .ok (.iastore, 1) := by decide +kernel
theorem d9c_57 : decode prog_124_method_4_code 57 = .ok (.aload_n 0, 1) := by decide +kernel
theorem d9c_58 : decode prog_124_method_4_code 58 = .ok (.getfield 18, 3) := by decide +kernel
theorem d9c_61 : decode prog_124_method_4_code 61 = .ok (.iload_n 1, 1) := by decide +kernel
theorem d9c_62 : decode prog_124_method_4_code 62 = .ok (.iload_n 3, 1) := by decide +kernel
theorem d9c_63 : decode prog_124_method_4_code 63 = .ok (.iastore, 1) := by decide +kernel
theorem d9c_64 : decode prog_124_method_4_code 64 = .ok (.aload_n 0, 1) := by decide +kernel
theorem d9c_65 : decode prog_124_method_4_code 65 = .ok (.getfield 21, 3) := by decide +kernel
theorem d9c_68 : decode prog_124_method_4_code 68 = .ok (.iload_n 1, 1) := by decide +kernel
theorem d9c_69 : decode prog_124_method_4_code 69 = .ok (.iload 4, 2) := by decide +kernel
theorem d9c_71 : decode prog_124_method_4_code 71 = .ok (.iastore, 1) := by decide +kernel
theorem d9c_72 : decode prog_124_method_4_code 72 = .ok (.aload_n 0, 1) := by decide +kernel
theorem d9c_73 : decode prog_124_method_4_code 73 = .ok (.getfield 46, 3) := by decide +kernel
theorem d9c_76 : decode prog_124_method_4_code 76 = .ok (.aload_n 0, 1) := by decide +kernel
theorem d9c_77 : decode prog_124_method_4_code 77 = .ok (.getfield 28, 3) := by decide +kernel
theorem d9c_80 : decode prog_124_method_4_code 80 = .ok (.arraylength, 1) := by decide +kernel
theorem d9c_81 : decode prog_124_method_4_code 81 = .ok (.if_icmp .ne 7, 3) := by decide +kernel
theorem d9c_88 : decode prog_124_method_4_code 88 = .ok (.iload 5, 2) := by decide +kernel
theorem d9c_90 : decode prog_124_method_4_code 90 = .ok (.ifCond .eq 34, 3) := by decide +kernel
theorem d9c_124 : decode prog_124_method_4_code 124 = .ok (.aload_n 0, 1) := by decide +kernel
theorem d9c_125 : decode prog_124_method_4_code 125 = .ok (.getfield 28, 3) := by decide +kernel
theorem d9c_128 : decode prog_124_method_4_code 128 = .ok (.aload_n 0, 1) := by decide +kernel
theorem d9c_129 : decode prog_124_method_4_code 129 = .ok (.getfield 53, 3) := by decide +kernel
theorem d9c_132 : decode prog_124_method_4_code 132 = .ok (.aload_n 0, 1) := by decide +kernel
theorem d9c_133 : decode prog_124_method_4_code 133 = .ok (.getfield 46, 3) := by decide +kernel
theorem d9c_136 : decode prog_124_method_4_code 136 = .ok (.iadd, 1) := by decide +kernel
theorem d9c_137 : decode prog_124_method_4_code 137 = .ok (.aload_n 0, 1) := by decide +kernel
theorem d9c_138 : decode prog_124_method_4_code 138 = .ok (.getfield 28, 3) := by decide +kernel
theorem d9c_141 : decode prog_124_method_4_code 141 = .ok (.arraylength, 1) := by decide +kernel
theorem d9c_142 : decode prog_124_method_4_code 142 = .ok (.iconst 1, 1) := by decide +kernel
theorem d9c_143 : decode prog_124_method_4_code 143 = .ok (.isub, 1) := by decide +kernel
theorem d9c_144 : decode prog_124_method_4_code 144 = .ok (.iand, 1) := by decide +kernel
theorem d9c_145 : decode prog_124_method_4_code 145 = .ok (.iload_n 1, 1) := by decide +kernel
theorem d9c_146 : decode prog_124_method_4_code 146 = .ok (.iastore, 1) := by decide +kernel
theorem d9c_147 : decode prog_124_method_4_code 147 = .ok (.aload_n 0, 1) := by decide +kernel
theorem d9c_148 : decode prog_124_method_4_code 148 = .ok (.dup, 1) := by decide +kernel
theorem d9c_149 : decode prog_124_method_4_code 149 = .ok (.getfield 46, 3) := by decide +kernel
theorem d9c_152 : decode prog_124_method_4_code 152 = .ok (.iconst 1, 1) := by decide +kernel
theorem d9c_153 : decode prog_124_method_4_code 153 = .ok (.iadd, 1) := by decide +kernel
theorem d9c_154 : decode prog_124_method_4_code 154 = .ok (.putfield 46, 3) := by decide +kernel
theorem d9c_157 : decode prog_124_method_4_code 157 = .ok (.return_, 1) := by decide +kernel
theorem d9c_9 : decode prog_124_method_4_code 9 = .ok (.aload_n 0, 1) := by decide +kernel
theorem d9c_10 : decode prog_124_method_4_code 10 = .ok (.iload_n 1, 1) := by decide +kernel
theorem d9c_11 : decode prog_124_method_4_code 11 = .ok (.invokevirtual 38, 3) := by decide +kernel
theorem ef_10 (m : MethodId) (x0 : Addr) (x1 : Int32) (x2 : Addr) (x3 : Addr) (x4 : Addr) : entryFrame m #[(.ref x0), (.int x1), (.ref x2), (.ref x3), (.ref x4)] 9 = mkF m 0 #[.val (.ref x0), .val (.int x1), .val (.ref x2), .val (.ref x3), .val (.ref x4), .unset, .unset, .unset, .unset] [] := by first | (simp [entryFrame, mkF, argsToLocals, Value.category]; done) | rfl
theorem pn_com_example_witness_witness_logic_StepSearchTakePinLaw : plainName "com/example/witness/witness/logic/StepSearchTakePinLaw" = true := by first | (simp [plainName, overriddenIn]; done) | decide +kernel
theorem d10_0 : decode method_2_code 0 = .ok (.iload_n 1, 1) := by decide +kernel
theorem d10_1 : decode method_2_code 1 = .ok (.iconst 3, 1) := by decide +kernel
theorem d10_2 : decode method_2_code 2 = .ok (.iand, 1) := by decide +kernel
theorem d10_3 : decode method_2_code 3 = .ok (.istore 5, 2) := by decide +kernel
theorem d10_5 : decode method_2_code 5 = .ok (.bipush 9, 2) := by decide +kernel
theorem d10_7 : decode method_2_code 7 = .ok (.iload 5, 2) := by decide +kernel
theorem d10_9 : decode method_2_code 9 = .ok (.imul, 1) := by decide +kernel
theorem d10_10 : decode method_2_code 10 = .ok (.istore 6, 2) := by decide +kernel
theorem d10_12 : decode method_2_code 12 = .ok (.iload_n 1, 1) := by decide +kernel
theorem d10_13 : decode method_2_code 13 = .ok (.iconst 4, 1) := by decide +kernel
theorem d10_14 : decode method_2_code 14 = .ok (.iand, 1) := by decide +kernel
theorem d10_15 : decode method_2_code 15 = .ok (.ifCond .eq 7, 3) := by decide +kernel
theorem d10_22 : decode method_2_code 22 = .ok (.iconst 0, 1) := by decide +kernel
theorem d10_23 : decode method_2_code 23 = .ok (.istore 7, 2) := by decide +kernel
theorem d10_25 : decode method_2_code 25 = .ok (.iload_n 1, 1) := by decide +kernel
theorem d10_26 : decode method_2_code 26 = .ok (.iconst 3, 1) := by decide +kernel
theorem d10_27 : decode method_2_code 27 = .ok (.ishr, 1) := by decide +kernel
theorem d10_28 : decode method_2_code 28 = .ok (.iconst 3, 1) := by decide +kernel
theorem d10_29 : decode method_2_code 29 = .ok (.iand, 1) := by decide +kernel
theorem d10_30 : decode method_2_code 30 = .ok (.istore 8, 2) := by decide +kernel
theorem d10_32 : decode method_2_code 32 = .ok (.aload_n 0, 1) := by decide +kernel
theorem d10_33 : decode method_2_code 33 = .ok (.iload 6, 2) := by decide +kernel
theorem d10_35 : decode method_2_code 35 = .ok (.iload 8, 2) := by decide +kernel
theorem d10_37 : decode method_2_code 37 = .ok (.iconst (-1), 1) := by decide +kernel
theorem d10_38 : decode method_2_code 38 = .ok (.iconst (-1), 1) := by decide +kernel
theorem d10_39 : decode method_2_code 39 = .ok (.iload 7, 2) := by decide +kernel
theorem d10_41 : decode method_2_code 41 = .ok (.invokevirtual 7, 3) := by decide +kernel
theorem pd_oIIIIZcV : parseMethodDescriptor "(IIIIZ)V" = some ⟨[.int, .int, .int, .int, .boolean], none⟩ := by decide +kernel
theorem d10_44 : decode method_2_code 44 = .ok (.iload 8, 2) := by decide +kernel
theorem d10_46 : decode method_2_code 46 = .ok (.aload_n 2, 1) := by decide +kernel
theorem d10_47 : decode method_2_code 47 = .ok (.iload 5, 2) := by decide +kernel
theorem d10_49 : decode method_2_code 49 = .ok (.iaload, 1) := by decide +kernel
theorem d10_50 : decode method_2_code 50 = .ok (.if_icmp .ge 53, 3) := by decide +kernel
theorem d10_53 : decode method_2_code 53 = .ok (.aload_n 2, 1) := by decide +kernel
theorem d10_54 : decode method_2_code 54 = .ok (.iload 5, 2) := by decide +kernel
theorem d10_56 : decode method_2_code 56 = .ok (.iload 8, 2) := by decide +kernel
theorem d10_58 : decode method_2_code 58 = .ok (.iastore, 1) := by decide +kernel
theorem d10_59 : decode method_2_code 59 = .ok (.iload 7, 2) := by decide +kernel
theorem d10_61 : decode method_2_code 61 = .ok (.ifCond .eq 24, 3) := by decide +kernel
theorem d10_85 : decode method_2_code 85 = .ok (.aload_n 3, 1) := by decide +kernel
theorem d10_86 : decode method_2_code 86 = .ok (.aload 4, 2) := by decide +kernel
theorem d10_88 : decode method_2_code 88 = .ok (.iconst 1, 1) := by decide +kernel
theorem d10_89 : decode method_2_code 89 = .ok (.iaload, 1) := by decide +kernel
theorem d10_90 : decode method_2_code 90 = .ok (.iload 6, 2) := by decide +kernel
theorem d10_92 : decode method_2_code 92 = .ok (.iastore, 1) := by decide +kernel
theorem d10_93 : decode method_2_code 93 = .ok (.aload 4, 2) := by decide +kernel
theorem d10_95 : decode method_2_code 95 = .ok (.iconst 1, 1) := by decide +kernel
theorem d10_96 : decode method_2_code 96 = .ok (.aload 4, 2) := by decide +kernel
theorem d10_98 : decode method_2_code 98 = .ok (.iconst 1, 1) := by decide +kernel
theorem d10_99 : decode method_2_code 99 = .ok (.iaload, 1) := by decide +kernel
theorem d10_100 : decode method_2_code 100 = .ok (.iconst 1, 1) := by decide +kernel
theorem d10_101 : decode method_2_code 101 = .ok (.iadd, 1) := by decide +kernel
theorem d10_102 : decode method_2_code 102 = .ok (.iastore, 1) := by decide +kernel
theorem d10_103 : decode method_2_code 103 = .ok (.return_, 1) := by decide +kernel
theorem d10_18 : decode method_2_code 18 = .ok (.iconst 1, 1) := by decide +kernel
theorem d10_19 : decode method_2_code 19 = .ok (.goto 4, 3) := by decide +kernel
theorem d10_64 : decode method_2_code 64 = .ok (.aload 4, 2) := by decide +kernel
theorem d10_66 : decode method_2_code 66 = .ok (.iconst 0, 1) := by decide +kernel
theorem d10_67 : decode method_2_code 67 = .ok (.aload 4, 2) := by decide +kernel
theorem d10_69 : decode method_2_code 69 = .ok (.iconst 0, 1) := by decide +kernel
theorem d10_70 : decode method_2_code 70 = .ok (.iaload, 1) := by decide +kernel
theorem d10_71 : decode method_2_code 71 = .ok (.iconst 1, 1) := by decide +kernel
theorem d10_72 : decode method_2_code 72 = .ok (.isub, 1) := by decide +kernel
theorem d10_73 : decode method_2_code 73 = .ok (.iastore, 1) := by decide +kernel
theorem d10_74 : decode method_2_code 74 = .ok (.aload_n 3, 1) := by decide +kernel
theorem d10_75 : decode method_2_code 75 = .ok (.aload 4, 2) := by decide +kernel
theorem d10_77 : decode method_2_code 77 = .ok (.iconst 0, 1) := by decide +kernel
theorem d10_78 : decode method_2_code 78 = .ok (.iaload, 1) := by decide +kernel
theorem d10_79 : decode method_2_code 79 = .ok (.iload 6, 2) := by decide +kernel
theorem d10_81 : decode method_2_code 81 = .ok (.iastore, 1) := by decide +kernel
theorem d10_82 : decode method_2_code 82 = .ok (.goto 21, 3) := by decide +kernel
theorem ef_11 (m : MethodId) (x0 : Addr) (x1 : Addr) (x2 : Int32) : entryFrame m #[(.ref x0), (.ref x1), (.int x2)] 4 = mkF m 0 #[.val (.ref x0), .val (.ref x1), .val (.int x2), .unset] [] := by first | (simp [entryFrame, mkF, argsToLocals, Value.category]; done) | rfl
theorem d11_0 : decode method_3_code 0 = .ok (.aload_n 1, 1) := by decide +kernel
theorem d11_1 : decode method_3_code 1 = .ok (.iconst 0, 1) := by decide +kernel
theorem d11_2 : decode method_3_code 2 = .ok (.iaload, 1) := by decide +kernel
theorem d11_3 : decode method_3_code 3 = .ok (.iload_n 2, 1) := by decide +kernel
theorem d11_4 : decode method_3_code 4 = .ok (.iadd, 1) := by decide +kernel
theorem d11_5 : decode method_3_code 5 = .ok (.istore_n 3, 1) := by decide +kernel
theorem d11_6 : decode method_3_code 6 = .ok (.iload_n 3, 1) := by decide +kernel
theorem d11_7 : decode method_3_code 7 = .ok (.aload_n 1, 1) := by decide +kernel
theorem d11_8 : decode method_3_code 8 = .ok (.iconst 1, 1) := by decide +kernel
theorem d11_9 : decode method_3_code 9 = .ok (.iaload, 1) := by decide +kernel
theorem d11_10 : decode method_3_code 10 = .ok (.if_icmp .ge 7, 3) := by decide +kernel
theorem d11_13 : decode method_3_code 13 = .ok (.aload_n 0, 1) := by decide +kernel
theorem d11_14 : decode method_3_code 14 = .ok (.iload_n 3, 1) := by decide +kernel
theorem d11_15 : decode method_3_code 15 = .ok (.iaload, 1) := by decide +kernel
theorem d11_16 : decode method_3_code 16 = .ok (.ireturn, 1) := by decide +kernel
theorem d11_17 : decode method_3_code 17 = .ok (.iconst (-1), 1) := by decide +kernel
theorem d11_18 : decode method_3_code 18 = .ok (.ireturn, 1) := by decide +kernel
theorem ef_12 (m : MethodId) (x0 : Addr) (x1 : Int32) (x2 : Int32) : entryFrame m #[(.ref x0), (.int x1), (.int x2)] 3 = mkF m 0 #[.val (.ref x0), .val (.int x1), .val (.int x2)] [] := by first | (simp [entryFrame, mkF, argsToLocals, Value.category]; done) | rfl
theorem d12_0 : decode method_4_code 0 = .ok (.iload_n 2, 1) := by decide +kernel
theorem d12_1 : decode method_4_code 1 = .ok (.iconst (-1), 1) := by decide +kernel
theorem d12_2 : decode method_4_code 2 = .ok (.if_icmp .ne 5, 3) := by decide +kernel
theorem d12_5 : decode method_4_code 5 = .ok (.iload_n 1, 1) := by decide +kernel
theorem d12_6 : decode method_4_code 6 = .ok (.ireturn, 1) := by decide +kernel
theorem d12_7 : decode method_4_code 7 = .ok (.iload_n 2, 1) := by decide +kernel
theorem d12_8 : decode method_4_code 8 = .ok (.aload_n 0, 1) := by decide +kernel
theorem d12_9 : decode method_4_code 9 = .ok (.iconst 0, 1) := by decide +kernel
theorem d12_10 : decode method_4_code 10 = .ok (.iaload, 1) := by decide +kernel
theorem d12_11 : decode method_4_code 11 = .ok (.if_icmp .eq 17, 3) := by decide +kernel
theorem d12_28 : decode method_4_code 28 = .ok (.iload_n 1, 1) := by decide +kernel
theorem d12_29 : decode method_4_code 29 = .ok (.ireturn, 1) := by decide +kernel
theorem d12_14 : decode method_4_code 14 = .ok (.iload_n 2, 1) := by decide +kernel
theorem d12_15 : decode method_4_code 15 = .ok (.aload_n 0, 1) := by decide +kernel
theorem d12_16 : decode method_4_code 16 = .ok (.iconst 1, 1) := by decide +kernel
theorem d12_17 : decode method_4_code 17 = .ok (.iaload, 1) := by decide +kernel
theorem d12_18 : decode method_4_code 18 = .ok (.if_icmp .eq 10, 3) := by decide +kernel
theorem d12_21 : decode method_4_code 21 = .ok (.iload_n 2, 1) := by decide +kernel
theorem d12_22 : decode method_4_code 22 = .ok (.aload_n 0, 1) := by decide +kernel
theorem d12_23 : decode method_4_code 23 = .ok (.iconst 2, 1) := by decide +kernel
theorem d12_24 : decode method_4_code 24 = .ok (.iaload, 1) := by decide +kernel
theorem d12_25 : decode method_4_code 25 = .ok (.if_icmp .ne 5, 3) := by decide +kernel
theorem d12_30 : decode method_4_code 30 = .ok (.aload_n 0, 1) := by decide +kernel
theorem d12_31 : decode method_4_code 31 = .ok (.iload_n 1, 1) := by decide +kernel
theorem d12_32 : decode method_4_code 32 = .ok (.iload_n 2, 1) := by decide +kernel
theorem d12_33 : decode method_4_code 33 = .ok (.iastore, 1) := by decide +kernel
theorem d12_34 : decode method_4_code 34 = .ok (.iload_n 1, 1) := by decide +kernel
theorem d12_35 : decode method_4_code 35 = .ok (.iconst 1, 1) := by decide +kernel
theorem d12_36 : decode method_4_code 36 = .ok (.iadd, 1) := by decide +kernel
theorem d12_37 : decode method_4_code 37 = .ok (.ireturn, 1) := by decide +kernel
theorem ef_13 (m : MethodId) (x0 : Addr) : entryFrame m #[(.ref x0)] 3 = mkF m 0 #[.val (.ref x0), .unset, .unset] [] := by first | (simp [entryFrame, mkF, argsToLocals, Value.category]; done) | rfl
theorem d13_0 : decode prog_124_method_5_code 0 = .ok (.iconst (-1), 1) := by decide +kernel
theorem d13_1 : decode prog_124_method_5_code 1 = .ok (.istore_n 1, 1) := by decide +kernel
theorem d13_2 : decode prog_124_method_5_code 2 = .ok (.iload_n 1, 1) := by decide +kernel
theorem d13_3 : decode prog_124_method_5_code 3 = .ok (.iconst (-1), 1) := by decide +kernel
theorem d13_4 : decode prog_124_method_5_code 4 = .ok (.if_icmp .ne 69, 3) := by decide +kernel
theorem d13_7 : decode prog_124_method_5_code 7 = .ok (.aload_n 0, 1) := by decide +kernel
theorem d13_8 : decode prog_124_method_5_code 8 = .ok (.getfield 46, 3) := by decide +kernel
theorem d13_11 : decode prog_124_method_5_code 11 = .ok (.ifCond .le 62, 3) := by decide +kernel
theorem d13_14 : decode prog_124_method_5_code 14 = .ok (.aload_n 0, 1) := by decide +kernel
theorem d13_15 : decode prog_124_method_5_code 15 = .ok (.getfield 28, 3) := by decide +kernel
theorem d13_18 : decode prog_124_method_5_code 18 = .ok (.aload_n 0, 1) := by decide +kernel
theorem d13_19 : decode prog_124_method_5_code 19 = .ok (.getfield 53, 3) := by decide +kernel
theorem d13_22 : decode prog_124_method_5_code 22 = .ok (.iaload, 1) := by decide +kernel
theorem d13_23 : decode prog_124_method_5_code 23 = .ok (.istore_n 2, 1) := by decide +kernel
theorem d13_24 : decode prog_124_method_5_code 24 = .ok (.aload_n 0, 1) := by decide +kernel
theorem d13_25 : decode prog_124_method_5_code 25 = .ok (.aload_n 0, 1) := by decide +kernel
theorem d13_26 : decode prog_124_method_5_code 26 = .ok (.getfield 53, 3) := by decide +kernel
theorem d13_29 : decode prog_124_method_5_code 29 = .ok (.iconst 1, 1) := by decide +kernel
theorem d13_30 : decode prog_124_method_5_code 30 = .ok (.iadd, 1) := by decide +kernel
theorem d13_31 : decode prog_124_method_5_code 31 = .ok (.aload_n 0, 1) := by decide +kernel
theorem d13_32 : decode prog_124_method_5_code 32 = .ok (.getfield 28, 3) := by decide +kernel
theorem d13_35 : decode prog_124_method_5_code 35 = .ok (.arraylength, 1) := by decide +kernel
theorem d13_36 : decode prog_124_method_5_code 36 = .ok (.iconst 1, 1) := by decide +kernel
theorem d13_37 : decode prog_124_method_5_code 37 = .ok (.isub, 1) := by decide +kernel
theorem d13_38 : decode prog_124_method_5_code 38 = .ok (.iand, 1) := by decide +kernel
theorem d13_39 : decode prog_124_method_5_code 39 = .ok (.putfield 53, 3) := by decide +kernel
theorem d13_42 : decode prog_124_method_5_code 42 = .ok (.aload_n 0, 1) := by decide +kernel
theorem d13_43 : decode prog_124_method_5_code 43 = .ok (.dup, 1) := by decide +kernel
theorem d13_44 : decode prog_124_method_5_code 44 = .ok (.getfield 46, 3) := by decide +kernel
theorem d13_47 : decode prog_124_method_5_code 47 = .ok (.iconst 1, 1) := by decide +kernel
theorem d13_48 : decode prog_124_method_5_code 48 = .ok (.isub, 1) := by decide +kernel
theorem d13_49 : decode prog_124_method_5_code 49 = .ok (.putfield 46, 3) := by decide +kernel
theorem d13_52 : decode prog_124_method_5_code 52 = .ok (.aload_n 0, 1) := by decide +kernel
theorem d13_53 : decode prog_124_method_5_code 53 = .ok (.getfield 24, 3) := by decide +kernel
theorem d13_56 : decode prog_124_method_5_code 56 = .ok (.iload_n 2, 1) := by decide +kernel
theorem d13_57 : decode prog_124_method_5_code 57 = .ok (.baload, 1) := by decide +kernel
theorem d13_58 : decode prog_124_method_5_code 58 = .ok (.ifCond .ne 12, 3) := by decide +kernel
theorem d13_70 : decode prog_124_method_5_code 70 = .ok (.goto (-68), 3) := by decide +kernel
theorem d13_61 : decode prog_124_method_5_code 61 = .ok (.aload_n 0, 1) := by decide +kernel
theorem d13_62 : decode prog_124_method_5_code 62 = .ok (.getfield 24, 3) := by decide +kernel
theorem d13_65 : decode prog_124_method_5_code 65 = .ok (.iload_n 2, 1) := by decide +kernel
theorem d13_66 : decode prog_124_method_5_code 66 = .ok (.iconst 1, 1) := by decide +kernel
theorem d13_67 : decode prog_124_method_5_code 67 = .ok (.bastore, 1) := by decide +kernel
theorem d13_68 : decode prog_124_method_5_code 68 = .ok (.iload_n 2, 1) := by decide +kernel
theorem d13_69 : decode prog_124_method_5_code 69 = .ok (.istore_n 1, 1) := by decide +kernel
theorem d13_73 : decode prog_124_method_5_code 73 = .ok (.iload_n 1, 1) := by decide +kernel
theorem d13_74 : decode prog_124_method_5_code 74 = .ok (.ireturn, 1) := by decide +kernel
theorem ef_0 (m : MethodId) (x0 : Int32) (x1 : Int32) (x2 : Int32) : entryFrame m #[(.int x0), (.int x1), (.int x2)] maxLocals = mkF m 0 #[.val (.int x0), .val (.int x1), .val (.int x2), .unset, .unset, .unset, .unset, .unset, .unset, .unset, .unset, .unset, .unset] [] := by first | (simp [entryFrame, mkF, argsToLocals, Value.category, maxLocals]; done) | rfl
theorem pd_ocV : parseMethodDescriptor "()V" = some ⟨[], none⟩ := by decide +kernel
theorem pd_oLcom_example_witness_witness_logic_StepSearchsIaIaIaIcV : parseMethodDescriptor "(Lcom/example/witness/witness/logic/StepSearch;I[I[I[I)V" = some ⟨[(.object "com/example/witness/witness/logic/StepSearch"), .int, (.array .int), (.array .int), (.array .int)], none⟩ := by decide +kernel
theorem pd_oaIaIIcI : parseMethodDescriptor "([I[II)I" = some ⟨[(.array .int), (.array .int), .int], some .int⟩ := by decide +kernel
theorem pd_oaIIIcI : parseMethodDescriptor "([III)I" = some ⟨[(.array .int), .int, .int], some .int⟩ := by decide +kernel
theorem pd_ocI : parseMethodDescriptor "()I" = some ⟨[], some .int⟩ := by decide +kernel

theorem own_of {n : Nat} (h : n ≤ 54) : (Int32.ofNat n).toInt = n := OwnKit.ofNat_int (by omega)
theorem own_ne (n mA : Nat) (z : Int32) (hz : z.toInt = mA) (h : n < mA) (h54 : mA ≤ 54) : ¬ (z = Int32.ofNat n) := fun q => by
  have e := own_of (n := n) (by omega); rw [← q, hz] at e; omega
theorem own_min (n mA : Nat) (z : Int32) (hz : z.toInt = mA) (h : n < mA) (h54 : mA ≤ 54) : (fmin (Int32.ofNat n) z).toInt = n := by
  have e := own_of (n := n) (by omega)
  unfold fmin
  rw [if_neg (by rw [Int32.lt_iff_toInt_lt]; omega), e]
theorem own_cap (n N : Nat) (z : Int32) (hz : z.toInt = N) (hn : n ≤ N) (hN : N ≤ 27) : (fmax ((2 : Int32) * Int32.ofNat n) (z + (1 : Int32))).toInt = ((max (2 * n) (N + 1) : Nat) : Int) := by
  have e := own_of (n := n) (by omega)
  have k2 : (2 : Int32).toInt = 2 := by decide
  have k1 : (1 : Int32).toInt = 1 := by decide
  have a : ((2 : Int32) * Int32.ofNat n).toInt = 2 * n := by rw [Int32.toInt_mul, k2, e, Int.bmod_def]; omega
  have b : (z + (1 : Int32)).toInt = N + 1 := by rw [Int32.toInt_add, k1, hz, Int.bmod_def]; omega
  unfold fmax
  by_cases q : ((2 : Int32) * Int32.ofNat n) < (z + (1 : Int32))
  · rw [if_pos q]; rw [Int32.lt_iff_toInt_lt] at q; omega
  · rw [if_neg q]; rw [Int32.lt_iff_toInt_lt] at q; omega
theorem own_rc (n mA : Nat) (z1 z2 : Int32) (h1 : z1.toInt = n) (h2 : z2.toInt = mA) (hlt : n < mA) (h54 : mA ≤ 54) : (¬ z2 < z1) ∧ (¬ z1 < (0 : Int32)) ∧ (¬ Int32.ofNat mA < z2) := by
  have e := own_of h54
  refine ⟨?_, ?_, ?_⟩ <;> rw [Int32.lt_iff_toInt_lt]
  · omega
  · show ¬ (z1.toInt < (0 : Int)); omega
  · omega
theorem own_f0 (j z2 : Int32) (mA : Nat) (h2 : z2.toInt = mA) (q : j.toInt + ((0 : Nat) : Int) = mA) : (¬ j < z2) ∧ ∀ i, i < mA → ¬ j.toInt.toNat ≤ i := by
  refine ⟨by rw [Int32.lt_iff_toInt_lt]; omega, fun i hi => by omega⟩
theorem own_f1 (j z2 : Int32) (mA k : Nat) (h2 : z2.toInt = mA) (q0 : 0 ≤ j.toInt) (q : j.toInt + ((k + 1 : Nat) : Int) = mA) (h54 : mA ≤ 54) : (j < z2) ∧ j.toInt < mA ∧ (0 ≤ (j + (1 : Int32)).toInt ∧ (j + (1 : Int32)).toInt + k = mA) ∧ ∀ (i : Nat) (x y : Int32), (if (j + (1 : Int32)).toInt.toNat ≤ i then x else (if i = j.toInt.toNat then x else y)) = (if j.toInt.toNat ≤ i then x else y) := by
  have k1 : (1 : Int32).toInt = 1 := by decide
  have e : (j + (1 : Int32)).toInt = j.toInt + 1 := by rw [Int32.toInt_add, k1, Int.bmod_def]; omega
  refine ⟨by rw [Int32.lt_iff_toInt_lt]; omega, by omega, ⟨by omega, by omega⟩, fun i x y => ?_⟩
  rw [e]
  by_cases a : (j.toInt + 1).toNat ≤ i
  · rw [if_pos a, if_pos (by omega)]
  · rw [if_neg a]
    by_cases b : i = j.toInt.toNat
    · rw [if_pos b, if_pos (by omega)]
    · rw [if_neg b, if_neg (by omega)]
theorem own_fl (n i : Nat) (x y : Int32) : (if n ≤ i then x else (if i < n then y else 0)) = (if i < n then y else x) := by
  by_cases q : n ≤ i
  · rw [if_pos q, if_neg (by omega)]
  · rw [if_neg q, if_pos (by omega), if_pos (by omega)]
def own_ord (s c f t k q E : Nat) : Prop := s < c ∧ c < f ∧ f < t ∧ t < k ∧ s < q ∧ q < E ∧ (k < q ∨ E < c)
theorem own_apart {s c f t k q E : Nat} (O : own_ord s c f t k q E) : s ≠ c ∧ s ≠ f ∧ s ≠ t ∧ s ≠ k ∧ s ≠ q ∧ c ≠ f ∧ c ≠ t ∧ c ≠ k ∧ c ≠ q ∧ f ≠ t ∧ f ≠ k ∧ f ≠ q ∧ t ≠ k ∧ t ≠ q ∧ k ≠ q := by
  obtain ⟨_, _, _, _, _, _, _⟩ := O; omega
theorem own_ge {s c f t k q E n0 : Nat} (O : own_ord s c f t k q E) (g : n0 ≤ s) : n0 ≤ c ∧ n0 ≤ f ∧ n0 ≤ t ∧ n0 ≤ k ∧ n0 ≤ q := by
  obtain ⟨_, _, _, _, _, _, _⟩ := O; omega
theorem own_ord' {s c f t k q E c1 f1 t1 k1 z : Nat} (O : own_ord s c f t k q E) (hs : s < z) (hE : E < z) (h1 : z ≤ c1) (h2 : c1 < f1) (h3 : f1 < t1) (h4 : t1 < k1) : own_ord s c1 f1 t1 k1 q E := by
  obtain ⟨_, _, _, _, _, _, _⟩ := O; unfold own_ord; omega
theorem own_sz {z c1 f1 t1 k1 : Nat} (h1 : z ≤ c1) (h2 : c1 < f1) (h3 : f1 < t1) (h4 : t1 < k1) : z ≤ f1 ∧ z ≤ t1 ∧ z ≤ k1 := by omega
theorem own_ltn (n N : Nat) (z : Int32) (hz : z.toInt = N) (hn : n ≤ 54) : (z < Int32.ofNat n ↔ N < n) := by
  rw [Int32.lt_iff_toInt_lt, own_of hn, hz]; omega
def own_9 (k : Nat) : Int32 := Int32.ofNat (9 * k)
def own_h (q : Nat) : Int32 := Int32.ofNat (q % 16)
def own_inv (n : Nat) (fC fQ fD : Nat → Int32) (lo : Nat) (l : List Nat) (jj : Nat) : Prop := (∀ i, n ≤ i → fC i = (2147483647 : Int32)) ∧ n ≤ 54 ∧ (∀ i, i < l.length → fD (lo + i) = own_9 (l.getD i 0)) ∧ (∀ i, i < l.length → fQ ((lo + 13 + i) % 16) = own_9 (l.getD i 0)) ∧ (∀ k ∈ l, k < 4 ∧ 9 * k < n) ∧ l.length ≤ jj ∧ 3 ≤ lo + jj ∧ lo ≤ 3 ∧ lo + l.length ≤ 3 + jj
theorem own_same {n n1 lo jj : Nat} {fC fQ fD : Nat → Int32} {l : List Nat} (I : own_inv n fC fQ fD lo l jj) (hn : n ≤ n1) (h54 : n1 ≤ 54) : own_inv n1 fC fQ fD lo l (jj + 1) := by
  obtain ⟨a, b, c, d, e, f, g, h, i⟩ := I
  exact ⟨fun i hi => a i (by omega), h54, c, d, fun k hk => ⟨(e k hk).1, by have := (e k hk).2; omega⟩, by omega, by omega, h, by omega⟩
theorem own_front {n n1 lo jj kk : Nat} {fC fQ fD : Nat → Int32} {l : List Nat} {fc fn : Int32} (I : own_inv n fC fQ fD lo l jj) (hj : jj ≤ 2) (hk : kk < 4) (hn : n ≤ n1) (h9 : 9 * kk < n1) (h54 : n1 ≤ 54) (hf : fn = own_9 kk) :
    own_inv n1 (fun i => if i = 9 * kk then fc else fC i) (fun i => if i = (lo + 12) % 16 then fn else fQ i) (fun i => if i = lo - 1 then fn else fD i) (lo - 1) (kk :: l) (jj + 1) := by
  obtain ⟨a, b, c, d, e, f, g, h, i⟩ := I
  refine ⟨fun i hi => by show (if i = 9 * kk then fc else fC i) = _; rw [if_neg (by omega)]; exact a i (by omega), h54, fun i hi => ?_, fun i hi => ?_, fun k hk' => ?_, by simp; omega, by omega, by omega, by simp; omega⟩
  · show (if lo - 1 + i = lo - 1 then fn else fD (lo - 1 + i)) = _
    match i, hi with
    | 0, _ => rw [if_pos (Nat.add_zero _), hf]; rfl
    | i + 1, hi => rw [if_neg (by omega), show lo - 1 + (i + 1) = lo + i by omega]; exact c i (by simpa using hi)
  · show (if (lo - 1 + 13 + i) % 16 = (lo + 12) % 16 then fn else fQ ((lo - 1 + 13 + i) % 16)) = _
    have hl : i < l.length + 1 := by simpa using hi
    match i, hl with
    | 0, _ => rw [if_pos (by omega), hf]; rfl
    | i + 1, hl => rw [if_neg (by omega), show (lo - 1 + 13 + (i + 1)) % 16 = (lo + 13 + i) % 16 by omega]; exact d i (by omega)
  · rcases List.mem_cons.mp hk' with rfl | q
    · exact ⟨hk, h9⟩
    · exact ⟨(e k q).1, by have := (e k q).2; omega⟩
theorem own_back {n n1 lo jj kk : Nat} {fC fQ fD : Nat → Int32} {l : List Nat} {fc fn : Int32} (I : own_inv n fC fQ fD lo l jj) (hj : jj ≤ 2) (hk : kk < 4) (hn : n ≤ n1) (h9 : 9 * kk < n1) (h54 : n1 ≤ 54) (hf : fn = own_9 kk) :
    own_inv n1 (fun i => if i = 9 * kk then fc else fC i) (fun i => if i = (lo + 13 + l.length) % 16 then fn else fQ i) (fun i => if i = lo + l.length then fn else fD i) lo (l ++ [kk]) (jj + 1) := by
  obtain ⟨a, b, c, d, e, f, g, h, i⟩ := I
  have gd : ∀ i, i < l.length → (l ++ [kk]).getD i 0 = l.getD i 0 := fun i hi => by rw [List.getD_eq_getElem?_getD, List.getD_eq_getElem?_getD, List.getElem?_append_left hi]
  have ge : (l ++ [kk]).getD l.length 0 = kk := by rw [List.getD_eq_getElem?_getD, List.getElem?_append_right (Nat.le_refl _)]; simp
  refine ⟨fun i hi => by show (if i = 9 * kk then fc else fC i) = _; rw [if_neg (by omega)]; exact a i (by omega), h54, fun i hi => ?_, fun i hi => ?_, fun k hk' => ?_, by simp; omega, by omega, by omega, by simp; omega⟩
  · show (if lo + i = lo + l.length then fn else fD (lo + i)) = _
    have hl : i < l.length + 1 := by simpa using hi
    by_cases q : i = l.length
    · rw [if_pos (by omega), q, ge, hf]
    · rw [if_neg (by omega), gd i (by omega)]; exact c i (by omega)
  · show (if (lo + 13 + i) % 16 = (lo + 13 + l.length) % 16 then fn else fQ ((lo + 13 + i) % 16)) = _
    have hl : i < l.length + 1 := by simpa using hi
    by_cases q : i = l.length
    · rw [if_pos (by rw [q]), q, ge, hf]
    · rw [if_neg (by omega), gd i (by omega)]; exact d i (by omega)
  · rcases List.mem_append.mp hk' with q | q
    · exact ⟨(e k q).1, by have := (e k q).2; omega⟩
    · cases List.mem_singleton.mp q; exact ⟨hk, h9⟩
theorem own_27 {kk : Nat} (h : kk < 4) : 9 * kk ≤ 27 := by omega
theorem own_lo1 {lo jj : Nat} (a : 3 ≤ lo + jj) (b : jj ≤ 2) : 1 ≤ lo := by omega
theorem own_gb (kk i : Nat) (fc : Int32) (fC : Nat → Int32) : (if i = kk then Value.int fc else .int (fC (9 * i))) = .int (if 9 * i = 9 * kk then fc else fC (9 * i)) := by
  by_cases q : i = kk
  · rw [if_pos q, if_pos (by rw [q])]
  · rw [if_neg q, if_neg (by omega)]
theorem own_gf (lo : Nat) (l : List Nat) (kk : Nat) (h : 1 ≤ lo) (i : Nat) : (if i = 0 then Value.int (Int32.ofNat (lo - 1)) else (if i = 0 then .int (Int32.ofNat lo) else .int (Int32.ofNat (lo + l.length)))) = (if i = 0 then .int (Int32.ofNat (lo - 1)) else .int (Int32.ofNat (lo - 1 + (kk :: l).length))) := by
  have e : lo + l.length = lo - 1 + (kk :: l).length := by simp; omega
  by_cases q : i = 0
  · rw [if_pos q, if_pos q]
  · rw [if_neg q, if_neg q, if_neg q, e]
theorem own_gk (lo : Nat) (l : List Nat) (kk : Nat) (i : Nat) (hi : i < 2) : (if i = 1 then Value.int (Int32.ofNat (lo + (l.length + 1))) else (if i = 0 then .int (Int32.ofNat lo) else .int (Int32.ofNat (lo + l.length)))) = (if i = 0 then .int (Int32.ofNat lo) else .int (Int32.ofNat (lo + (l ++ [kk]).length))) := by
  have e : (l ++ [kk]).length = l.length + 1 := by simp
  rw [e]
  by_cases q : i = 0
  · rw [if_neg (by omega), if_pos q, if_pos q]
  · rw [if_pos (by omega), if_neg q]
theorem own_lc (lo n : Nat) (h1 : lo ≤ 3) (h2 : n ≤ 2) : (lo = 0 ∨ lo = 1 ∨ lo = 2 ∨ lo = 3) ∧ (n = 0 ∨ n = 1 ∨ n = 2) := by omega
theorem own_hb (lo : Nat) (h0 : 1 ≤ lo) (h1 : lo ≤ 3) : ((own_h (lo + 13) - (1 : Int32)) &&& ((16 : Int32) - (1 : Int32))) = own_h (lo - 1 + 13) ∧ (own_h (lo - 1 + 13)).toInt.toNat = (lo + 12) % 16 ∧ 0 ≤ (own_h (lo - 1 + 13)).toInt ∧ (own_h (lo - 1 + 13)).toInt < 16 ∧ Int32.ofNat lo - (1 : Int32) = Int32.ofNat (lo - 1) ∧ (Int32.ofNat (lo - 1)).toInt.toNat = lo - 1 ∧ 0 ≤ (Int32.ofNat (lo - 1)).toInt ∧ (Int32.ofNat (lo - 1)).toInt < 7 := by
  have c : lo = 1 ∨ lo = 2 ∨ lo = 3 := by omega
  rcases c with rfl | rfl | rfl <;> decide +kernel
theorem own_hc (lo n : Nat) (h1 : lo ≤ 3) (h2 : n ≤ 2) : ((own_h (lo + 13) + Int32.ofNat n) &&& ((16 : Int32) - (1 : Int32))).toInt.toNat = (lo + 13 + n) % 16 ∧ 0 ≤ ((own_h (lo + 13) + Int32.ofNat n) &&& ((16 : Int32) - (1 : Int32))).toInt ∧ ((own_h (lo + 13) + Int32.ofNat n) &&& ((16 : Int32) - (1 : Int32))).toInt < 16 ∧ ¬ (Int32.ofNat n = (16 : Int32)) ∧ Int32.ofNat n + (1 : Int32) = Int32.ofNat (n + 1) ∧ (Int32.ofNat (lo + n)).toInt.toNat = lo + n ∧ 0 ≤ (Int32.ofNat (lo + n)).toInt ∧ (Int32.ofNat (lo + n)).toInt < 7 ∧ Int32.ofNat (lo + n) + (1 : Int32) = Int32.ofNat (lo + (n + 1)) := by
  obtain ⟨a, b⟩ := own_lc lo n h1 h2
  rcases a with rfl | rfl | rfl | rfl <;> rcases b with rfl | rfl | rfl <;> decide +kernel
theorem own_kk (x : Int32) : ∃ kk : Nat, kk < 4 ∧ (x &&& (3 : Int32)).toInt = kk ∧ ((9 : Int32) * (x &&& (3 : Int32))) = own_9 kk ∧ (own_9 kk).toInt = ((9 * kk : Nat) : Int) := by
  have hk : (x &&& (3 : Int32)).toInt = x.toInt % 2 ^ 2 := Jvm.Kit.i32_mask x 3 (k := 2) (by decide) (by decide)
  have hb : 0 ≤ (x &&& (3 : Int32)).toInt ∧ (x &&& (3 : Int32)).toInt < 4 := by rw [hk]; omega
  generalize (x &&& (3 : Int32)) = z at *
  have c : z.toInt = 0 ∨ z.toInt = 1 ∨ z.toInt = 2 ∨ z.toInt = 3 := by omega
  rcases c with q | q | q | q
  · obtain rfl : z = 0 := Int32.toInt_inj.mp q; exact ⟨0, by decide +kernel⟩
  · obtain rfl : z = 1 := Int32.toInt_inj.mp q; exact ⟨1, by decide +kernel⟩
  · obtain rfl : z = 2 := Int32.toInt_inj.mp q; exact ⟨2, by decide +kernel⟩
  · obtain rfl : z = 3 := Int32.toInt_inj.mp q; exact ⟨3, by decide +kernel⟩
theorem own_lawne {s c f t k q E b d : Nat} (O : own_ord s c f t k q E) (h1 : q < b) (h2 : b < d) (h3 : d < E) : (b ≠ s ∧ b ≠ c ∧ b ≠ f ∧ b ≠ t ∧ b ≠ k ∧ b ≠ q) ∧ (d ≠ s ∧ d ≠ c ∧ d ≠ f ∧ d ≠ t ∧ d ≠ k ∧ d ≠ q) ∧ (E ≠ s ∧ E ≠ c ∧ E ≠ f ∧ E ≠ t ∧ E ≠ k ∧ E ≠ q) ∧ b ≠ d ∧ b ≠ E ∧ d ≠ E := by
  obtain ⟨_, _, _, _, _, _, _⟩ := O; omega
def own_av (l : List Nat) (ii : Nat) : Int32 := if ii < l.length then own_9 (l.getD ii 0) else (-1 : Int32)
def own_note (es : List Int32) (x : Int32) : List Int32 := if x = (-1 : Int32) then es else if x = es.getD 0 (-1) then es else if x = es.getD 1 (-1) then es else if x = es.getD 2 (-1) then es else es ++ [x]
def own_take : List Nat → List Nat → Int32 × List Nat × List Nat
  | vs, [] => (-1, [], vs)
  | vs, k :: r => if k ∈ vs then own_take vs r else (own_9 k, r, k :: vs)
def own_tk (vs : List Nat) (i : Nat) : Int32 := if i % 9 = 0 ∧ i / 9 ∈ vs then 1 else 0
theorem own_stl {a : Addr} {b x : Int32} {z2 : Slot} (hz : z2 = .unset ∨ ∃ q : Int32, z2 = .val (.int q)) : storeLocals #[.val (.ref a), .val (.int b), z2] 2 (.int x) = some #[.val (.ref a), .val (.int b), .val (.int x)] := by
  rcases hz with rfl | ⟨q, rfl⟩ <;> rfl
theorem own_lc3 (lo n ii : Nat) (h1 : lo ≤ 3) (h2 : n ≤ 3) (h3 : ii ≤ 2) : (lo = 0 ∨ lo = 1 ∨ lo = 2 ∨ lo = 3) ∧ (n = 0 ∨ n = 1 ∨ n = 2 ∨ n = 3) ∧ (ii = 0 ∨ ii = 1 ∨ ii = 2) := by omega
theorem own_ati (lo n ii : Nat) (fi : Int32) (h1 : lo ≤ 3) (h2 : n ≤ 3) (h3 : ii ≤ 2) (hf : fi = Int32.ofNat ii) : ((Int32.ofNat lo + fi) < Int32.ofNat (lo + n) ↔ ii < n) ∧ (Int32.ofNat lo + fi).toInt.toNat = lo + ii ∧ 0 ≤ (Int32.ofNat lo + fi).toInt ∧ (Int32.ofNat lo + fi).toInt < 7 := by
  subst hf
  obtain ⟨a, b, c⟩ := own_lc3 lo n ii h1 h2 h3
  rcases a with rfl | rfl | rfl | rfl <;> rcases b with rfl | rfl | rfl | rfl <;> rcases c with rfl | rfl | rfl <;> decide +kernel
theorem own_nl (es : List Int32) (h : es.length ≤ 2) : 0 ≤ (Int32.ofNat es.length).toInt ∧ (Int32.ofNat es.length).toInt < ((4 : Nat) : Int) ∧ (Int32.ofNat es.length).toInt.toNat = es.length := by
  have e := own_of (n := es.length) (by omega)
  rw [e]; omega
theorem own_nn (es : List Int32) (x : Int32) : Int32.ofNat es.length + (1 : Int32) = Int32.ofNat (es ++ [x]).length := by
  rw [List.length_append]; exact (Int32.ofNat_add _ _).symm
theorem own_ng (es : List Int32) (x : Int32) (i : Nat) : (if i = es.length then Value.int x else .int (es.getD i (-1))) = .int ((es ++ [x]).getD i (-1)) := by
  by_cases q : i = es.length
  · rw [if_pos q, q, List.getD_eq_getElem?_getD, List.getElem?_append_right (Nat.le_refl _)]; simp
  · rw [if_neg q]
    by_cases r : i < es.length
    · rw [List.getD_eq_getElem?_getD, List.getD_eq_getElem?_getD, List.getElem?_append_left r]
    · rw [List.getD_eq_getElem?_getD, List.getD_eq_getElem?_getD, List.getElem?_eq_none (by omega), List.getElem?_eq_none (by simp; omega)]
theorem own_note_len (es : List Int32) (x : Int32) : (own_note es x).length ≤ es.length + 1 := by
  unfold own_note; (repeat' split) <;> simp
theorem own_take_sub : ∀ (l vs : List Nat), (own_take vs l).2.1.length ≤ l.length ∧ ∀ k, k ∈ (own_take vs l).2.1 → k ∈ l
  | [], vs => ⟨Nat.le_refl _, fun _ h => h⟩
  | k :: r, vs => by
    unfold own_take
    by_cases q : k ∈ vs
    · rw [if_pos q]; exact ⟨Nat.le_succ_of_le (own_take_sub r vs).1, fun z hz => List.mem_cons_of_mem _ ((own_take_sub r vs).2 z hz)⟩
    · rw [if_neg q]; exact ⟨Nat.le_succ _, fun z hz => List.mem_cons_of_mem _ hz⟩
theorem own_hr (q : Nat) : 0 ≤ (own_h q).toInt ∧ (own_h q).toInt < ((16 : Nat) : Int) ∧ (own_h q).toInt.toNat = q % 16 ∧ ((own_h q + (1 : Int32)) &&& ((16 : Int32) - (1 : Int32))) = own_h (q + 1) := by
  have c : ∀ r, r < 16 → 0 ≤ (Int32.ofNat r).toInt ∧ (Int32.ofNat r).toInt < ((16 : Nat) : Int) ∧ (Int32.ofNat r).toInt.toNat = r ∧ ((Int32.ofNat r + (1 : Int32)) &&& ((16 : Int32) - (1 : Int32))) = Int32.ofNat ((r + 1) % 16) := by decide +kernel
  have d := c (q % 16) (Nat.mod_lt _ (by decide))
  unfold own_h
  refine ⟨d.1, d.2.1, d.2.2.1, ?_⟩
  rw [d.2.2.2, show (q % 16 + 1) % 16 = (q + 1) % 16 by omega]
theorem own_9r (k n : Nat) (h : 9 * k < n) (h54 : n ≤ 54) : 0 ≤ (own_9 k).toInt ∧ (own_9 k).toInt < (n : Int) ∧ (own_9 k).toInt.toNat = 9 * k ∧ ¬ (own_9 k = (-1 : Int32)) := by
  have e : (own_9 k).toInt = ((9 * k : Nat) : Int) := own_of (by omega)
  refine ⟨by rw [e]; omega, by rw [e]; omega, by rw [e]; omega, fun q => ?_⟩
  rw [q] at e
  have : (-1 : Int32).toInt = -1 := by decide
  omega
theorem own_tin {vs : List Nat} {k : Nat} (h : k ∈ vs) : ¬ (own_tk vs (9 * k) = (0 : Int32)) := by
  unfold own_tk; rw [if_pos ⟨by omega, by rw [Nat.mul_div_cancel_left k (by decide)]; exact h⟩]; decide
theorem own_tout {vs : List Nat} {k : Nat} (h : ¬ k ∈ vs) : own_tk vs (9 * k) = (0 : Int32) := by
  unfold own_tk; rw [if_neg]; rw [Nat.mul_div_cancel_left k (by decide)]; exact fun q => h q.2
theorem own_tset (vs : List Nat) (k i : Nat) : (if i = 9 * k then Value.int 1 else .int (own_tk vs i)) = .int (own_tk (k :: vs) i) := by
  unfold own_tk
  by_cases q : i = 9 * k
  · rw [if_pos q, if_pos ⟨by omega, List.mem_cons.mpr (Or.inl (by omega))⟩]
  · rw [if_neg q]
    by_cases r : i % 9 = 0 ∧ i / 9 ∈ vs
    · rw [if_pos r, if_pos ⟨r.1, List.mem_cons_of_mem _ r.2⟩]
    · rw [if_neg r, if_neg]
      rintro ⟨a, b⟩
      rcases List.mem_cons.mp b with c | c
      · omega
      · exact r ⟨a, c⟩
theorem own_q0 (k : Nat) (r : List Nat) (h : (k :: r).length ≤ 3) : (0 : Int32) < Int32.ofNat (k :: r).length ∧ Int32.ofNat (k :: r).length - (1 : Int32) = Int32.ofNat r.length := by
  have c : r.length = 0 ∨ r.length = 1 ∨ r.length = 2 := by simp at h; omega
  rw [List.length_cons]
  rcases c with q | q | q <;> rw [q] <;> decide +kernel
theorem own_tlq {fQ : Nat → Int32} {p0 k : Nat} {r : List Nat} (h : ∀ i, i < (k :: r).length → fQ ((p0 + i) % 16) = own_9 ((k :: r).getD i 0)) : fQ (p0 % 16) = own_9 k ∧ ∀ i, i < r.length → fQ ((p0 + 1 + i) % 16) = own_9 (r.getD i 0) :=
  ⟨h 0 (Nat.zero_lt_succ _), fun i hi => by have := h (i + 1) (Nat.succ_lt_succ hi); rw [show p0 + 1 + i = p0 + (i + 1) by omega]; exact this⟩
theorem own_4 {i : Nat} (h : i < 4) : i = 0 ∨ i = 1 ∨ i = 2 ∨ i = 3 := by omega
theorem own_2 {i : Nat} (h : i < 2) : i = 0 ∨ i = 1 := by omega
theorem own_h0 : (0 : Int32) = own_h (3 + 13) := by decide +kernel
theorem own_l0 : (0 : Int32) = Int32.ofNat ([] : List Nat).length := by decide +kernel
theorem own_tk0 (i : Nat) : Value.int 0 = .int (own_tk [] i) := by
  unfold own_tk; rw [if_neg]; rintro ⟨-, h⟩; cases h
theorem own_ord0 {s c f t k q E : Nat} (h1 : s < c) (h2 : c < f) (h3 : f < t) (h4 : t < k) (h5 : k < q) (h6 : q < E) : own_ord s c f t k q E := by
  unfold own_ord; omega
theorem own_inv0 : own_inv 0 (fun _ => (2147483647 : Int32)) (fun _ => (0 : Int32)) (fun _ => (0 : Int32)) 3 [] 0 :=
  ⟨fun _ _ => rfl, by decide, fun i h => absurd h (Nat.not_lt_zero i), fun i h => absurd h (Nat.not_lt_zero i), fun k h => (nomatch h), by decide, by decide, by decide, by decide⟩
def own_ok (l : List Nat) : Prop := (own_take [] l).1 = (own_note (own_note (own_note [] (own_av l 0)) (own_av l 1)) (own_av l 2)).getD 0 (-1) ∧ (own_take (own_take [] l).2.2 (own_take [] l).2.1).1 = (own_note (own_note (own_note [] (own_av l 0)) (own_av l 1)) (own_av l 2)).getD 1 (-1) ∧ (own_take (own_take (own_take [] l).2.2 (own_take [] l).2.1).2.2 (own_take (own_take [] l).2.2 (own_take [] l).2.1).2.1).1 = (own_note (own_note (own_note [] (own_av l 0)) (own_av l 1)) (own_av l 2)).getD 2 (-1) ∧ (own_take (own_take (own_take (own_take [] l).2.2 (own_take [] l).2.1).2.2 (own_take (own_take [] l).2.2 (own_take [] l).2.1).2.1).2.2 (own_take (own_take (own_take [] l).2.2 (own_take [] l).2.1).2.2 (own_take (own_take [] l).2.2 (own_take [] l).2.1).2.1).2.1).1 = (own_note (own_note (own_note [] (own_av l 0)) (own_av l 1)) (own_av l 2)).getD 3 (-1)
instance (l : List Nat) : Decidable (own_ok l) := by unfold own_ok; infer_instance
theorem own_okk : ∀ l : List Nat, l.length ≤ 3 → (∀ k, k ∈ l → k < 4) → own_ok l
  | [], _, _ => by decide +kernel
  | [a], _, h => by
    have z : ∀ a, a < 4 → own_ok [a] := by decide +kernel
    exact z a (h a (by simp))
  | [a, b], _, h => by
    have z : ∀ a, a < 4 → ∀ b, b < 4 → own_ok [a, b] := by decide +kernel
    exact z a (h a (by simp)) b (h b (by simp))
  | [a, b, c], _, h => by
    have z : ∀ a, a < 4 → ∀ b, b < 4 → ∀ c, c < 4 → own_ok [a, b, c] := by decide +kernel
    exact z a (h a (by simp)) b (h b (by simp)) c (h c (by simp))
  | a :: b :: c :: d :: r, h, _ => absurd h (by simp)
theorem own_fin (l : List Nat) (h : l.length ≤ 3) (hm : ∀ k, k ∈ l → k < 4) (r0 r1 r2 r3 : Int32 × List Nat × List Nat) (h0 : r0 = own_take [] l) (h1 : r1 = own_take r0.2.2 r0.2.1) (h2 : r2 = own_take r1.2.2 r1.2.1) (h3 : r3 = own_take r2.2.2 r2.2.1) : r0.1 = (own_note (own_note (own_note [] (own_av l 0)) (own_av l 1)) (own_av l 2)).getD 0 (-1) ∧ r1.1 = (own_note (own_note (own_note [] (own_av l 0)) (own_av l 1)) (own_av l 2)).getD 1 (-1) ∧ r2.1 = (own_note (own_note (own_note [] (own_av l 0)) (own_av l 1)) (own_av l 2)).getD 2 (-1) ∧ r3.1 = (own_note (own_note (own_note [] (own_av l 0)) (own_av l 1)) (own_av l 2)).getD 3 (-1) := by
  rw [h3, h2, h1, h0]
  exact own_okk l h hm
theorem own_tmore {l vs : List Nat} {n : Nat} {r : Int32 × List Nat × List Nat} (hr : r = own_take vs l) (hm : ∀ k, k ∈ l → 9 * k < n) (hl : l.length ≤ 3) : (∀ k, k ∈ r.2.1 → 9 * k < n) ∧ r.2.1.length ≤ 3 := by
  rw [hr]; exact ⟨fun k hk => hm k ((own_take_sub l vs).2 k hk), Nat.le_trans (own_take_sub l vs).1 hl⟩
def Q31 (Z : State) (u0 : Int32) (u1 : Int32) (h0 : Heap) (n0 : Nat) (v : Option Value) (h : Heap) (L : List Loc) : Prop := v = some (.int (fmax u0 u1)) ∧ Fr n0 L ∧ h = h0
set_option maxRecDepth 65536 in
set_option maxHeartbeats 40000000 in
theorem rm31 (l : Launch) (Z : State) (a0 : Array Value) (hw : ∀ d ∈ tables_1, d.before a0 Z = true) (ws : List Jvm.Cond) (u0 : Int32) (u1 : Int32) (h0 : Heap) (n0 : Nat) (Z0 : n0 ≤ h0.size)  :
    MetFree l (⟨"java/lang/Math", "max", "(II)I"⟩ : MethodName) (head1 (Jvm.Cond.code (⟨"java/lang/Math", "max", "(II)I"⟩ : MethodName) jdk_29_method_65_code 2 (some .int) :: ws) ({ frames := 0, cells := 0, slots := 0, locals := 0 } : Room)) (fun a U => a = #[(.int u0), (.int u1)] ∧ Z.Warmed39 U.vm ∧ U.heap = h0) (fun _ _ _ _ _ => True) (fun _ U o U' => ∃ v L, o = .returned v ∧ Q31 Z u0 u1 h0 n0 v U'.heap L ∧ FrameEnd U o U' L ({ frames := 0, cells := 0, slots := 0, locals := 0 } : Room).cells ({ frames := 0, cells := 0, slots := 0, locals := 0 } : Room).slots) := by
  refine MetFree.of_bodySF (Jvm.Free.JP.mathPlain rfl (by decide +kernel)) hisR ?_
  intro p e s m args0 below meth c s₁ Bd hml0 hP hK
  obtain ⟨rfl, hZ, hh⟩ := hP
  have hx := Bd.exec
  have hby := Bd.bytes
  have hml : c.maxLocals = 2 := hml0
  have hown : s.vm.findClass "java/lang/Math" = some m.cls := findClass_of_methodNamed Bd.named
  have hnm := (name_of_methodNamed Bd.named Bd.method).1
  have X0 : Stand p l e ({ frames := 0, cells := 0, slots := 0, locals := 0 } : Room) s m #[(.int u0), (.int u1)] below meth c s₁ [] 0 0 := Stand.of_body Bd
  have e0 : s₁.heap = h0 := by rw [← hh, Bd.state]; rfl
  have N0 := Fr.nil n0
  have pre0 : ∀ t, Steps p.tables e below (s₁.setTop (mkF m 0 #[.val (.int u0), .val (.int u1)] [])) t → Steps p.tables e below (s₁.setTop (entryFrame m #[(.int u0), (.int u1)] 2)) t := fun t kk_ => castTop (ef_31 m u0 u1) kk_
  have s1 : ∀ t, Steps p.tables e below (s₁.setTop (mkF m 2 #[.val (.int u0), .val (.int u1)] [(.int u1), (.int u0)])) t → Steps p.tables e below (s₁.setTop (mkF m 0 #[.val (.int u0), .val (.int u1)] [])) t := by
    intro t kt
    refine XS.iloadN X0.here hx rfl (hb hby d31_0) rfl ?_
    show Steps p.tables e below (s₁.setTop (mkF m 1 #[.val (.int u0), .val (.int u1)] [(.int u0)])) t
    refine XS.iloadN X0.here hx rfl (hb hby d31_1) rfl ?_
    exact kt
  obtain ⟨w5, hw5, j11⟩ : ∃ (w5 : Int32), w5 = (if u0 < u1 then u1 else u0) ∧ ∀ t, Steps p.tables e below (s₁.setTop (mkF m 10 #[.val (.int u0), .val (.int u1)] [(.int w5)])) t → Steps p.tables e below (s₁.setTop (mkF m 2 #[.val (.int u0), .val (.int u1)] [(.int u1), (.int u0)])) t := by
    by_cases c2 : u0 < u1
    ·
      have s3 : ∀ t, Steps p.tables e below (s₁.setTop (mkF m 10 #[.val (.int u0), .val (.int u1)] [(.int u1)])) t → Steps p.tables e below (s₁.setTop (mkF m 2 #[.val (.int u0), .val (.int u1)] [(.int u1), (.int u0)])) t := by
        intro t kt
        refine XS.icmpYes X0.here hx rfl (pc0 := 2) (pc' := 9) rfl (hb hby d31_2) rfl (tlt c2).1 (by decide) (by decide) ?_
        show Steps p.tables e below (s₁.setTop (mkF m 9 #[.val (.int u0), .val (.int u1)] [])) t
        refine XS.iloadN X0.here hx rfl (hb hby d31_9) rfl ?_
        exact kt
      exact ⟨u1, (if_pos c2).symm, fun t kt => s3 _ (kt)⟩
    ·
      have s4 : ∀ t, Steps p.tables e below (s₁.setTop (mkF m 10 #[.val (.int u0), .val (.int u1)] [(.int u0)])) t → Steps p.tables e below (s₁.setTop (mkF m 2 #[.val (.int u0), .val (.int u1)] [(.int u1), (.int u0)])) t := by
        intro t kt
        refine XS.icmpNo X0.here hx rfl (hb hby d31_2) rfl (flt c2).1 ?_
        show Steps p.tables e below (s₁.setTop (mkF m 5 #[.val (.int u0), .val (.int u1)] [])) t
        refine XS.iloadN X0.here hx rfl (hb hby d31_5) rfl ?_
        show Steps p.tables e below (s₁.setTop (mkF m 6 #[.val (.int u0), .val (.int u1)] [(.int u0)])) t
        refine XS.goto X0.here hx rfl (pc0 := 6) (pc' := 10) rfl (hb hby d31_6) (by decide) (by decide) ?_
        exact kt
      exact ⟨u0, (if_neg c2).symm, fun t kt => s4 _ (kt)⟩
  rw [hw5] at j11
  obtain ⟨fs_, hr, hrun, hended, hW, hsame⟩ := X0.leave (hlocks := BodyLoose.notSynchronized Bd) (v := some (.int (if u0 < u1 then u1 else u0))) (fun h => by rw [Bd.returns] at h; cases h)
  refine ⟨_, _, pre0 _ (s1 _ (j11 _ (?_))), hrun, hended, _, _, rfl, ?_, ⟨_, rfl⟩, hW, hsame.mono (by decide) (by decide)⟩
  · show Steps p.tables e below (s₁.setTop (mkF m 10 #[.val (.int u0), .val (.int u1)] [(.int (if u0 < u1 then u1 else u0))])) _
    exact retI X0 hx Bd.returns (hb hby d31_10) hr
  · show Q31 Z u0 u1 h0 n0 _ s₁.heap _
    rw [e0]
    exact ⟨rfl, N0, rfl⟩
def Q32 (Z : State) (u0 : Int32) (u1 : Int32) (h0 : Heap) (n0 : Nat) (v : Option Value) (h : Heap) (L : List Loc) : Prop := v = some (.int (fmin u0 u1)) ∧ Fr n0 L ∧ h = h0
set_option maxRecDepth 65536 in
set_option maxHeartbeats 40000000 in
theorem rm32 (l : Launch) (Z : State) (a0 : Array Value) (hw : ∀ d ∈ tables_1, d.before a0 Z = true) (ws : List Jvm.Cond) (u0 : Int32) (u1 : Int32) (h0 : Heap) (n0 : Nat) (Z0 : n0 ≤ h0.size)  :
    MetFree l (⟨"java/lang/Math", "min", "(II)I"⟩ : MethodName) (head1 (Jvm.Cond.code (⟨"java/lang/Math", "min", "(II)I"⟩ : MethodName) jdk_29_method_69_code 2 (some .int) :: ws) ({ frames := 0, cells := 0, slots := 0, locals := 0 } : Room)) (fun a U => a = #[(.int u0), (.int u1)] ∧ Z.Warmed39 U.vm ∧ U.heap = h0) (fun _ _ _ _ _ => True) (fun _ U o U' => ∃ v L, o = .returned v ∧ Q32 Z u0 u1 h0 n0 v U'.heap L ∧ FrameEnd U o U' L ({ frames := 0, cells := 0, slots := 0, locals := 0 } : Room).cells ({ frames := 0, cells := 0, slots := 0, locals := 0 } : Room).slots) := by
  refine MetFree.of_bodySF (Jvm.Free.JP.mathPlain rfl (by decide +kernel)) hisR ?_
  intro p e s m args0 below meth c s₁ Bd hml0 hP hK
  obtain ⟨rfl, hZ, hh⟩ := hP
  have hx := Bd.exec
  have hby := Bd.bytes
  have hml : c.maxLocals = 2 := hml0
  have hown : s.vm.findClass "java/lang/Math" = some m.cls := findClass_of_methodNamed Bd.named
  have hnm := (name_of_methodNamed Bd.named Bd.method).1
  have X0 : Stand p l e ({ frames := 0, cells := 0, slots := 0, locals := 0 } : Room) s m #[(.int u0), (.int u1)] below meth c s₁ [] 0 0 := Stand.of_body Bd
  have e0 : s₁.heap = h0 := by rw [← hh, Bd.state]; rfl
  have N0 := Fr.nil n0
  have pre0 : ∀ t, Steps p.tables e below (s₁.setTop (mkF m 0 #[.val (.int u0), .val (.int u1)] [])) t → Steps p.tables e below (s₁.setTop (entryFrame m #[(.int u0), (.int u1)] 2)) t := fun t kk_ => castTop (ef_32 m u0 u1) kk_
  have s12 : ∀ t, Steps p.tables e below (s₁.setTop (mkF m 2 #[.val (.int u0), .val (.int u1)] [(.int u1), (.int u0)])) t → Steps p.tables e below (s₁.setTop (mkF m 0 #[.val (.int u0), .val (.int u1)] [])) t := by
    intro t kt
    refine XS.iloadN X0.here hx rfl (hb hby d32_0) rfl ?_
    show Steps p.tables e below (s₁.setTop (mkF m 1 #[.val (.int u0), .val (.int u1)] [(.int u0)])) t
    refine XS.iloadN X0.here hx rfl (hb hby d32_1) rfl ?_
    exact kt
  obtain ⟨w16, hw16, j22⟩ : ∃ (w16 : Int32), w16 = (if u1 < u0 then u1 else u0) ∧ ∀ t, Steps p.tables e below (s₁.setTop (mkF m 10 #[.val (.int u0), .val (.int u1)] [(.int w16)])) t → Steps p.tables e below (s₁.setTop (mkF m 2 #[.val (.int u0), .val (.int u1)] [(.int u1), (.int u0)])) t := by
    by_cases c13 : u1 < u0
    ·
      have s14 : ∀ t, Steps p.tables e below (s₁.setTop (mkF m 10 #[.val (.int u0), .val (.int u1)] [(.int u1)])) t → Steps p.tables e below (s₁.setTop (mkF m 2 #[.val (.int u0), .val (.int u1)] [(.int u1), (.int u0)])) t := by
        intro t kt
        refine XS.icmpYes X0.here hx rfl (pc0 := 2) (pc' := 9) rfl (hb hby d32_2) rfl (tlt c13).2.2.1 (by decide) (by decide) ?_
        show Steps p.tables e below (s₁.setTop (mkF m 9 #[.val (.int u0), .val (.int u1)] [])) t
        refine XS.iloadN X0.here hx rfl (hb hby d32_9) rfl ?_
        exact kt
      exact ⟨u1, (if_pos c13).symm, fun t kt => s14 _ (kt)⟩
    ·
      have s15 : ∀ t, Steps p.tables e below (s₁.setTop (mkF m 10 #[.val (.int u0), .val (.int u1)] [(.int u0)])) t → Steps p.tables e below (s₁.setTop (mkF m 2 #[.val (.int u0), .val (.int u1)] [(.int u1), (.int u0)])) t := by
        intro t kt
        refine XS.icmpNo X0.here hx rfl (hb hby d32_2) rfl (flt c13).2.2.1 ?_
        show Steps p.tables e below (s₁.setTop (mkF m 5 #[.val (.int u0), .val (.int u1)] [])) t
        refine XS.iloadN X0.here hx rfl (hb hby d32_5) rfl ?_
        show Steps p.tables e below (s₁.setTop (mkF m 6 #[.val (.int u0), .val (.int u1)] [(.int u0)])) t
        refine XS.goto X0.here hx rfl (pc0 := 6) (pc' := 10) rfl (hb hby d32_6) (by decide) (by decide) ?_
        exact kt
      exact ⟨u0, (if_neg c13).symm, fun t kt => s15 _ (kt)⟩
  rw [hw16] at j22
  obtain ⟨fs_, hr, hrun, hended, hW, hsame⟩ := X0.leave (hlocks := BodyLoose.notSynchronized Bd) (v := some (.int (if u1 < u0 then u1 else u0))) (fun h => by rw [Bd.returns] at h; cases h)
  refine ⟨_, _, pre0 _ (s12 _ (j22 _ (?_))), hrun, hended, _, _, rfl, ?_, ⟨_, rfl⟩, hW, hsame.mono (by decide) (by decide)⟩
  · show Steps p.tables e below (s₁.setTop (mkF m 10 #[.val (.int u0), .val (.int u1)] [(.int (if u1 < u0 then u1 else u0))])) _
    exact retI X0 hx Bd.returns (hb hby d32_10) hr
  · show Q32 Z u0 u1 h0 n0 _ s₁.heap _
    rw [e0]
    exact ⟨rfl, N0, rfl⟩
def Q4 (Z : State) (fb : Addr) (n mA : Nat) (f : Nat → Int32) (fz : Int32) (h0 : Heap) (n0 : Nat) (v : Option Value) (h : Heap) (L : List Loc) : Prop := ∃ d : Addr, v = some (.ref d) ∧ Fr n0 L ∧ Keep h0 h [] ∧ n0 ≤ d ∧ h0.size ≤ d ∧ d < h.size ∧ Ar Z h d .int mA (fun i => .int (if i < n then f i else 0))
set_option maxRecDepth 65536 in
set_option maxHeartbeats 40000000 in
theorem rm4 (l : Launch) (Z : State) (a0 : Array Value) (hw : ∀ d ∈ tables_1, d.before a0 Z = true) (ws : List Jvm.Cond) (fb : Addr) (n mA : Nat) (f : Nat → Int32) (fz : Int32) (h0 : Heap) (n0 : Nat) (Z0 : n0 ≤ h0.size) (Vb : Ar Z h0 fb .int n (fun i => .int (f i))) (hz : fz.toInt = mA) (hlt : n < mA) (h54 : mA ≤ 54) :
    MetFree l (⟨"java/util/Arrays", "copyOf", "([II)[I"⟩ : MethodName) (head1 (Jvm.Cond.code (⟨"java/util/Arrays", "copyOf", "([II)[I"⟩ : MethodName) jdk_65_method_123_code 3 (some (.array .int)) :: ws) ({ frames := 1, cells := 1, slots := 54, locals := 40 } : Room)) (fun a U => a = #[(.ref fb), (.int fz)] ∧ Z.Warmed39 U.vm ∧ U.heap = h0) (fun _ _ _ _ _ => True) (fun _ U o U' => ∃ v L, o = .returned v ∧ Q4 Z fb n mA f fz h0 n0 v U'.heap L ∧ FrameEnd U o U' L ({ frames := 1, cells := 1, slots := 54, locals := 40 } : Room).cells ({ frames := 1, cells := 1, slots := 54, locals := 40 } : Room).slots) := by
  refine MetFree.of_bodySF (plainFor_of_name pn_java_util_Arrays) hisR ?_
  intro p e s m args0 below meth c s₁ Bd hml0 hP hK
  obtain ⟨rfl, hZ, hh⟩ := hP
  have hx := Bd.exec
  have hby := Bd.bytes
  have hml : c.maxLocals = 3 := hml0
  have hown : s.vm.findClass "java/util/Arrays" = some m.cls := findClass_of_methodNamed Bd.named
  have hnm := (name_of_methodNamed Bd.named Bd.method).1
  have X0 : Stand p l e ({ frames := 1, cells := 1, slots := 54, locals := 40 } : Room) s m #[(.ref fb), (.int fz)] below meth c s₁ [] 0 0 := Stand.of_body Bd
  have e0 : s₁.heap = h0 := by rw [← hh, Bd.state]; rfl
  have N0 := Fr.nil n0
  have pre0 : ∀ t, Steps p.tables e below (s₁.setTop (mkF m 0 #[.val (.ref fb), .val (.int fz), .unset] [])) t → Steps p.tables e below (s₁.setTop (entryFrame m #[(.ref fb), (.int fz)] 3)) t := fun t kk_ => castTop (ef_4 m fb fz) kk_
  have hn54 : n ≤ 54 := Nat.le_of_lt (Nat.lt_of_lt_of_le hlt h54)
  have hzN : fz.toInt.toNat = mA := by rw [hz]; rfl
  have hzn : ¬ fz < 0 := by rw [Int32.lt_iff_toInt_lt, hz]; show ¬ ((mA : Int) < 0); omega
  have s23 : ∀ t, Steps p.tables e below (s₁.setTop (mkF m 15 #[.val (.ref fb), .val (.int fz), .unset] [(.int fz)])) t → Steps p.tables e below (s₁.setTop (mkF m 0 #[.val (.ref fb), .val (.int fz), .unset] [])) t := by
    intro t kt
    refine XS.iloadN X0.here hx rfl (hb hby d4_0) rfl ?_
    show Steps p.tables e below (s₁.setTop (mkF m 1 #[.val (.ref fb), .val (.int fz), .unset] [(.int fz)])) t
    refine XS.aloadN X0.here hx rfl (hb hby d4_1) rfl rfl ?_
    show Steps p.tables e below (s₁.setTop (mkF m 2 #[.val (.ref fb), .val (.int fz), .unset] [(.ref fb), (.int fz)])) t
    refine OwnKit.alen X0 hx hZ e0 Vb (z := (Int32.ofNat n)) (own_of hn54) (g := (mkF m 2 #[.val (.ref fb), .val (.int fz), .unset] [(.ref fb), (.int fz)])) rfl rfl (hb hby d4_2) _ ?_
    show Steps p.tables e below (s₁.setTop (mkF m 3 #[.val (.ref fb), .val (.int fz), .unset] [(.int (Int32.ofNat n)), (.int fz)])) t
    refine XS.icmpYes X0.here hx rfl (pc0 := 3) (pc' := 14) rfl (hb hby d4_3) rfl (feq (own_ne n mA fz hz hlt h54)).2 (by decide) (by decide) ?_
    show Steps p.tables e below (s₁.setTop (mkF m 14 #[.val (.ref fb), .val (.int fz), .unset] [])) t
    refine XS.iloadN X0.here hx rfl (hb hby d4_14) rfl ?_
    exact kt
  obtain ⟨T24, h24, k24, X24, e24, E24, A24, st24⟩ := newP X0 hx hZ (hw _ (List.mem_of_getElem? (i := 12) rfl)) e0 (g := (mkF m 15 #[.val (.ref fb), .val (.int fz), .unset] [(.int fz)])) rfl (hb hby d4_15) rfl hzn (cap := 54) (by rw [OwnKit.nat_clamp, hzN]; exact h54) (by decide) (by decide) (by decide)
  obtain ⟨b24, g24⟩ : ∃ z, z = h0.size := ⟨_, rfl⟩
  rw [← g24] at A24 st24
  have lne25 : fb < b24 := Nat.lt_of_lt_of_le Vb.lt (Nat.le_of_eq g24.symm)
  have ne25 : fb ≠ b24 := Nat.ne_of_lt lne25
  have gn24 : n0 ≤ b24 := Nat.le_trans Z0 (Nat.le_of_eq g24.symm)
  have sz24 : h0.size ≤ b24 := Nat.le_trans (Keep.refl h0 []).1 (Nat.le_of_eq g24.symm)
  have Zs24 : n0 ≤ h24.size := Nat.le_trans Z0 E24.1
  have fV26 := Vb.ext E24
  have K24 : Keep h0 h24 [] := (Keep.refl h0 []).ext E24
  have fV27 : OwnKit.Ar Z h24 b24 .int mA (fun _ => defaultValue .int) := OwnKit.Ar.new A24 hzn hzN
  have s28 : ∀ t, Steps p.tables e below (T24.setTop (mkF m 25 #[.val (.ref fb), .val (.int fz), .val (.ref b24)] [(.int fz), (.int (Int32.ofNat n)), (.int (0 : Int32)), (.ref b24), (.int (0 : Int32)), (.ref fb)])) t → Steps p.tables e below (T24.setTop (mkF m 17 #[.val (.ref fb), .val (.int fz), .unset] [(.ref b24)])) t := by
    intro t kt
    refine XS.astoreN X24.here hx rfl (hb hby d4_17) rfl rfl (l' := #[.val (.ref fb), .val (.int fz), .val (.ref b24)]) rfl ?_
    show Steps p.tables e below (T24.setTop (mkF m 18 #[.val (.ref fb), .val (.int fz), .val (.ref b24)] [])) t
    refine XS.aloadN X24.here hx rfl (hb hby d4_18) rfl rfl ?_
    show Steps p.tables e below (T24.setTop (mkF m 19 #[.val (.ref fb), .val (.int fz), .val (.ref b24)] [(.ref fb)])) t
    refine XS.iconst X24.here hx rfl (hb hby d4_19) ?_
    show Steps p.tables e below (T24.setTop (mkF m 20 #[.val (.ref fb), .val (.int fz), .val (.ref b24)] [(.int (0 : Int32)), (.ref fb)])) t
    refine XS.aloadN X24.here hx rfl (hb hby d4_20) rfl rfl ?_
    show Steps p.tables e below (T24.setTop (mkF m 21 #[.val (.ref fb), .val (.int fz), .val (.ref b24)] [(.ref b24), (.int (0 : Int32)), (.ref fb)])) t
    refine XS.iconst X24.here hx rfl (hb hby d4_21) ?_
    show Steps p.tables e below (T24.setTop (mkF m 22 #[.val (.ref fb), .val (.int fz), .val (.ref b24)] [(.int (0 : Int32)), (.ref b24), (.int (0 : Int32)), (.ref fb)])) t
    refine XS.aloadN X24.here hx rfl (hb hby d4_22) rfl rfl ?_
    show Steps p.tables e below (T24.setTop (mkF m 23 #[.val (.ref fb), .val (.int fz), .val (.ref b24)] [(.ref fb), (.int (0 : Int32)), (.ref b24), (.int (0 : Int32)), (.ref fb)])) t
    refine OwnKit.alen X24 hx hZ e24 fV26 (z := (Int32.ofNat n)) (own_of hn54) (g := (mkF m 23 #[.val (.ref fb), .val (.int fz), .val (.ref b24)] [(.ref fb), (.int (0 : Int32)), (.ref b24), (.int (0 : Int32)), (.ref fb)])) rfl rfl (hb hby d4_23) _ ?_
    show Steps p.tables e below (T24.setTop (mkF m 24 #[.val (.ref fb), .val (.int fz), .val (.ref b24)] [(.int (Int32.ofNat n)), (.int (0 : Int32)), (.ref b24), (.int (0 : Int32)), (.ref fb)])) t
    refine XS.iloadN X24.here hx rfl (hb hby d4_24) rfl ?_
    exact kt
  obtain ⟨_, _, ⟨T29, L29, k29, n29⟩, -, X29, ⟨Lc29, hQ29, l29, y29, z29⟩, st29⟩ := Jvm.LawKit.callS X24 hx (y := (⟨"java/lang/Math", "min", "(II)I"⟩ : MethodName)) hown (mvT hZ (hw _ (List.mem_of_getElem? (i := 48) rfl))) (mvT hZ (hw _ (List.mem_of_getElem? (i := 49) rfl))) (mvT hZ (hw _ (List.mem_of_getElem? (i := 42) rfl))) (mvT hZ (hw _ (List.mem_of_getElem? (i := 50) rfl))) (by decide) (backOf (W := 4) (rm32 l Z a0 hw [] (Int32.ofNat n) fz h24 n0 Zs24 ) hZ (hw _ (List.mem_of_getElem? (i := 50) rfl)) (hw _ (List.mem_of_getElem? (i := 42) rfl)) (by decide) (by decide)) (g := (mkF m 25 #[.val (.ref fb), .val (.int fz), .val (.ref b24)] [(.int fz), (.int (Int32.ofNat n)), (.int (0 : Int32)), (.ref b24), (.int (0 : Int32)), (.ref fb)])) rfl (by rw [hml]; rfl) (argsL := [(.int (Int32.ofNat n)), (.int fz)]) (rest := [(.int (0 : Int32)), (.ref b24), (.int (0 : Int32)), (.ref fb)]) (lenOf pd_oIIcI rfl) rfl (by show 2 * 0 + _ ≤ _; exact Nat.le_of_eq rfl) (hb hby d4_25) (fun _ _ => ⟨rfl, e24, (by decide : 1 + 0 ≤ _), (by decide : 54 + 0 ≤ _)⟩)
  dsimp only [Pt.U, Pt.locs, Pt.cells, Pt.slots] at X29 l29 y29 z29 st29 hQ29
  rw [l29, y29, z29] at X29
  obtain ⟨hv29, N29q, e29q⟩ := hQ29
  rw [hv29] at st29
  have N29 := Fr.app N0 N29q
  obtain ⟨T30, h30, L30, X30, e30, N30, Kc30, V30, st30⟩ := OwnKit.cpAr X29 hx hZ hown (hw _ (List.mem_of_getElem? (i := 51) rfl)) (hw _ (List.mem_of_getElem? (i := 54) rfl)) (hw _ (List.mem_of_getElem? (i := 52) rfl)) (hw _ (List.mem_of_getElem? (i := 53) rfl)) e29q (M := mA) (nn := (fmin (Int32.ofNat n) fz)) fV26 (fun _ _ => rfl) fV27 rfl rfl (own_min n mA fz hz hlt h54) (Nat.le_of_lt hlt) N29 gn24 (g := (mkF m 28 #[.val (.ref fb), .val (.int fz), .val (.ref b24)] [(.int (fmin (Int32.ofNat n) fz)), (.int (0 : Int32)), (.ref b24), (.int (0 : Int32)), (.ref fb)])) rfl (by rw [hml]; rfl) rfl (hb hby d4_28) (by decide) (W := 0) (by show 2 * 0 + _ ≤ _; exact Nat.le_of_eq rfl) (by decide)
  have K30 : Keep h0 h30 [] := K24.trans Kc30 (allS (Or.inr sz24) all0)
  have s31 : ∀ t, Steps p.tables e below (T30.setTop (mkF m 32 #[.val (.ref fb), .val (.int fz), .val (.ref b24)] [(.ref b24)])) t → Steps p.tables e below (T30.setTop (mkF m 31 #[.val (.ref fb), .val (.int fz), .val (.ref b24)] [])) t := by
    intro t kt
    refine XS.aloadN X30.here hx rfl (hb hby d4_31) rfl rfl ?_
    exact kt
  obtain ⟨fs_, hr, hrun, hended, hW, hsame⟩ := X30.leave (hlocks := BodyLoose.notSynchronized Bd) (v := some (.ref b24)) (fun h => by rw [Bd.returns] at h; cases h)
  refine ⟨_, _, pre0 _ (s23 _ (st24 _ (s28 _ (st29 _ (st30 _ (s31 _ (?_))))))), hrun, hended, _, _, rfl, ?_, ⟨_, rfl⟩, hW, hsame.mono (by decide) (by decide)⟩
  · show Steps p.tables e below (T30.setTop (mkF m 32 #[.val (.ref fb), .val (.int fz), .val (.ref b24)] [(.ref b24)])) _
    exact retOut X30 hx Bd.returns rfl (Or.inr (Or.inr (Or.inr (Or.inr ⟨rfl, rfl, rfl⟩)))) (hb hby d4_32) hr
  · show Q4 Z fb n mA f fz h0 n0 _ T30.heap _
    rw [e30]
    exact ⟨b24, rfl, N30, K30, gn24, sz24, V30.lt, V30.as (fun i _ => by show (if i < n then Value.int (f i) else .int 0) = .int (if i < n then f i else 0); split <;> rfl)⟩
def Q5 (Z : State) (fb : Addr) (n mA : Nat) (fz : Int32) (h0 : Heap) (n0 : Nat) (v : Option Value) (h : Heap) (L : List Loc) : Prop := ∃ d : Addr, v = some (.ref d) ∧ Fr n0 L ∧ Keep h0 h [] ∧ n0 ≤ d ∧ h0.size ≤ d ∧ d < h.size ∧ Ar Z h d .boolean mA (fun i => .int (0))
set_option maxRecDepth 65536 in
set_option maxHeartbeats 40000000 in
theorem rm5 (l : Launch) (Z : State) (a0 : Array Value) (hw : ∀ d ∈ tables_1, d.before a0 Z = true) (ws : List Jvm.Cond) (fb : Addr) (n mA : Nat) (fz : Int32) (h0 : Heap) (n0 : Nat) (Z0 : n0 ≤ h0.size) (Vb : Ar Z h0 fb .boolean n (fun i => .int (0))) (hz : fz.toInt = mA) (hlt : n < mA) (h54 : mA ≤ 54) :
    MetFree l (⟨"java/util/Arrays", "copyOf", "([ZI)[Z"⟩ : MethodName) (head1 (Jvm.Cond.code (⟨"java/util/Arrays", "copyOf", "([ZI)[Z"⟩ : MethodName) jdk_65_method_128_code 3 (some (.array .boolean)) :: ws) ({ frames := 1, cells := 1, slots := 54, locals := 40 } : Room)) (fun a U => a = #[(.ref fb), (.int fz)] ∧ Z.Warmed39 U.vm ∧ U.heap = h0) (fun _ _ _ _ _ => True) (fun _ U o U' => ∃ v L, o = .returned v ∧ Q5 Z fb n mA fz h0 n0 v U'.heap L ∧ FrameEnd U o U' L ({ frames := 1, cells := 1, slots := 54, locals := 40 } : Room).cells ({ frames := 1, cells := 1, slots := 54, locals := 40 } : Room).slots) := by
  refine MetFree.of_bodySF (plainFor_of_name pn_java_util_Arrays) hisR ?_
  intro p e s m args0 below meth c s₁ Bd hml0 hP hK
  obtain ⟨rfl, hZ, hh⟩ := hP
  have hx := Bd.exec
  have hby := Bd.bytes
  have hml : c.maxLocals = 3 := hml0
  have hown : s.vm.findClass "java/util/Arrays" = some m.cls := findClass_of_methodNamed Bd.named
  have hnm := (name_of_methodNamed Bd.named Bd.method).1
  have X0 : Stand p l e ({ frames := 1, cells := 1, slots := 54, locals := 40 } : Room) s m #[(.ref fb), (.int fz)] below meth c s₁ [] 0 0 := Stand.of_body Bd
  have e0 : s₁.heap = h0 := by rw [← hh, Bd.state]; rfl
  have N0 := Fr.nil n0
  have pre0 : ∀ t, Steps p.tables e below (s₁.setTop (mkF m 0 #[.val (.ref fb), .val (.int fz), .unset] [])) t → Steps p.tables e below (s₁.setTop (entryFrame m #[(.ref fb), (.int fz)] 3)) t := fun t kk_ => castTop (ef_5 m fb fz) kk_
  have hn54 : n ≤ 54 := Nat.le_of_lt (Nat.lt_of_lt_of_le hlt h54)
  have hzN : fz.toInt.toNat = mA := by rw [hz]; rfl
  have hzn : ¬ fz < 0 := by rw [Int32.lt_iff_toInt_lt, hz]; show ¬ ((mA : Int) < 0); omega
  have s32 : ∀ t, Steps p.tables e below (s₁.setTop (mkF m 15 #[.val (.ref fb), .val (.int fz), .unset] [(.int fz)])) t → Steps p.tables e below (s₁.setTop (mkF m 0 #[.val (.ref fb), .val (.int fz), .unset] [])) t := by
    intro t kt
    refine XS.iloadN X0.here hx rfl (hb hby d5_0) rfl ?_
    show Steps p.tables e below (s₁.setTop (mkF m 1 #[.val (.ref fb), .val (.int fz), .unset] [(.int fz)])) t
    refine XS.aloadN X0.here hx rfl (hb hby d5_1) rfl rfl ?_
    show Steps p.tables e below (s₁.setTop (mkF m 2 #[.val (.ref fb), .val (.int fz), .unset] [(.ref fb), (.int fz)])) t
    refine OwnKit.alen X0 hx hZ e0 Vb (z := (Int32.ofNat n)) (own_of hn54) (g := (mkF m 2 #[.val (.ref fb), .val (.int fz), .unset] [(.ref fb), (.int fz)])) rfl rfl (hb hby d5_2) _ ?_
    show Steps p.tables e below (s₁.setTop (mkF m 3 #[.val (.ref fb), .val (.int fz), .unset] [(.int (Int32.ofNat n)), (.int fz)])) t
    refine XS.icmpYes X0.here hx rfl (pc0 := 3) (pc' := 14) rfl (hb hby d5_3) rfl (feq (own_ne n mA fz hz hlt h54)).2 (by decide) (by decide) ?_
    show Steps p.tables e below (s₁.setTop (mkF m 14 #[.val (.ref fb), .val (.int fz), .unset] [])) t
    refine XS.iloadN X0.here hx rfl (hb hby d5_14) rfl ?_
    exact kt
  obtain ⟨T33, h33, k33, X33, e33, E33, A33, st33⟩ := newP X0 hx hZ (hw _ (List.mem_of_getElem? (i := 19) rfl)) e0 (g := (mkF m 15 #[.val (.ref fb), .val (.int fz), .unset] [(.int fz)])) rfl (hb hby d5_15) rfl hzn (cap := 54) (by rw [OwnKit.nat_clamp, hzN]; exact h54) (by decide) (by decide) (by decide)
  obtain ⟨b33, g33⟩ : ∃ z, z = h0.size := ⟨_, rfl⟩
  rw [← g33] at A33 st33
  have lne34 : fb < b33 := Nat.lt_of_lt_of_le Vb.lt (Nat.le_of_eq g33.symm)
  have ne34 : fb ≠ b33 := Nat.ne_of_lt lne34
  have gn33 : n0 ≤ b33 := Nat.le_trans Z0 (Nat.le_of_eq g33.symm)
  have sz33 : h0.size ≤ b33 := Nat.le_trans (Keep.refl h0 []).1 (Nat.le_of_eq g33.symm)
  have Zs33 : n0 ≤ h33.size := Nat.le_trans Z0 E33.1
  have fV35 := Vb.ext E33
  have K33 : Keep h0 h33 [] := (Keep.refl h0 []).ext E33
  have fV36 : OwnKit.Ar Z h33 b33 .boolean mA (fun _ => defaultValue .boolean) := OwnKit.Ar.new A33 hzn hzN
  have s37 : ∀ t, Steps p.tables e below (T33.setTop (mkF m 25 #[.val (.ref fb), .val (.int fz), .val (.ref b33)] [(.int fz), (.int (Int32.ofNat n)), (.int (0 : Int32)), (.ref b33), (.int (0 : Int32)), (.ref fb)])) t → Steps p.tables e below (T33.setTop (mkF m 17 #[.val (.ref fb), .val (.int fz), .unset] [(.ref b33)])) t := by
    intro t kt
    refine XS.astoreN X33.here hx rfl (hb hby d5_17) rfl rfl (l' := #[.val (.ref fb), .val (.int fz), .val (.ref b33)]) rfl ?_
    show Steps p.tables e below (T33.setTop (mkF m 18 #[.val (.ref fb), .val (.int fz), .val (.ref b33)] [])) t
    refine XS.aloadN X33.here hx rfl (hb hby d5_18) rfl rfl ?_
    show Steps p.tables e below (T33.setTop (mkF m 19 #[.val (.ref fb), .val (.int fz), .val (.ref b33)] [(.ref fb)])) t
    refine XS.iconst X33.here hx rfl (hb hby d5_19) ?_
    show Steps p.tables e below (T33.setTop (mkF m 20 #[.val (.ref fb), .val (.int fz), .val (.ref b33)] [(.int (0 : Int32)), (.ref fb)])) t
    refine XS.aloadN X33.here hx rfl (hb hby d5_20) rfl rfl ?_
    show Steps p.tables e below (T33.setTop (mkF m 21 #[.val (.ref fb), .val (.int fz), .val (.ref b33)] [(.ref b33), (.int (0 : Int32)), (.ref fb)])) t
    refine XS.iconst X33.here hx rfl (hb hby d5_21) ?_
    show Steps p.tables e below (T33.setTop (mkF m 22 #[.val (.ref fb), .val (.int fz), .val (.ref b33)] [(.int (0 : Int32)), (.ref b33), (.int (0 : Int32)), (.ref fb)])) t
    refine XS.aloadN X33.here hx rfl (hb hby d5_22) rfl rfl ?_
    show Steps p.tables e below (T33.setTop (mkF m 23 #[.val (.ref fb), .val (.int fz), .val (.ref b33)] [(.ref fb), (.int (0 : Int32)), (.ref b33), (.int (0 : Int32)), (.ref fb)])) t
    refine OwnKit.alen X33 hx hZ e33 fV35 (z := (Int32.ofNat n)) (own_of hn54) (g := (mkF m 23 #[.val (.ref fb), .val (.int fz), .val (.ref b33)] [(.ref fb), (.int (0 : Int32)), (.ref b33), (.int (0 : Int32)), (.ref fb)])) rfl rfl (hb hby d5_23) _ ?_
    show Steps p.tables e below (T33.setTop (mkF m 24 #[.val (.ref fb), .val (.int fz), .val (.ref b33)] [(.int (Int32.ofNat n)), (.int (0 : Int32)), (.ref b33), (.int (0 : Int32)), (.ref fb)])) t
    refine XS.iloadN X33.here hx rfl (hb hby d5_24) rfl ?_
    exact kt
  obtain ⟨_, _, ⟨T38, L38, k38, n38⟩, -, X38, ⟨Lc38, hQ38, l38, y38, z38⟩, st38⟩ := Jvm.LawKit.callS X33 hx (y := (⟨"java/lang/Math", "min", "(II)I"⟩ : MethodName)) hown (mvT hZ (hw _ (List.mem_of_getElem? (i := 48) rfl))) (mvT hZ (hw _ (List.mem_of_getElem? (i := 49) rfl))) (mvT hZ (hw _ (List.mem_of_getElem? (i := 42) rfl))) (mvT hZ (hw _ (List.mem_of_getElem? (i := 50) rfl))) (by decide) (backOf (W := 4) (rm32 l Z a0 hw [] (Int32.ofNat n) fz h33 n0 Zs33 ) hZ (hw _ (List.mem_of_getElem? (i := 50) rfl)) (hw _ (List.mem_of_getElem? (i := 42) rfl)) (by decide) (by decide)) (g := (mkF m 25 #[.val (.ref fb), .val (.int fz), .val (.ref b33)] [(.int fz), (.int (Int32.ofNat n)), (.int (0 : Int32)), (.ref b33), (.int (0 : Int32)), (.ref fb)])) rfl (by rw [hml]; rfl) (argsL := [(.int (Int32.ofNat n)), (.int fz)]) (rest := [(.int (0 : Int32)), (.ref b33), (.int (0 : Int32)), (.ref fb)]) (lenOf pd_oIIcI rfl) rfl (by show 2 * 0 + _ ≤ _; exact Nat.le_of_eq rfl) (hb hby d5_25) (fun _ _ => ⟨rfl, e33, (by decide : 1 + 0 ≤ _), (by decide : 54 + 0 ≤ _)⟩)
  dsimp only [Pt.U, Pt.locs, Pt.cells, Pt.slots] at X38 l38 y38 z38 st38 hQ38
  rw [l38, y38, z38] at X38
  obtain ⟨hv38, N38q, e38q⟩ := hQ38
  rw [hv38] at st38
  have N38 := Fr.app N0 N38q
  obtain ⟨T39, h39, L39, X39, e39, N39, Kc39, V39, st39⟩ := OwnKit.cpAr X38 hx hZ hown (hw _ (List.mem_of_getElem? (i := 51) rfl)) (hw _ (List.mem_of_getElem? (i := 54) rfl)) (hw _ (List.mem_of_getElem? (i := 52) rfl)) (hw _ (List.mem_of_getElem? (i := 53) rfl)) e38q (M := mA) (nn := (fmin (Int32.ofNat n) fz)) fV35 (fun _ _ => rfl) fV36 rfl rfl (own_min n mA fz hz hlt h54) (Nat.le_of_lt hlt) N38 gn33 (g := (mkF m 28 #[.val (.ref fb), .val (.int fz), .val (.ref b33)] [(.int (fmin (Int32.ofNat n) fz)), (.int (0 : Int32)), (.ref b33), (.int (0 : Int32)), (.ref fb)])) rfl (by rw [hml]; rfl) rfl (hb hby d5_28) (by decide) (W := 0) (by show 2 * 0 + _ ≤ _; exact Nat.le_of_eq rfl) (by decide)
  have K39 : Keep h0 h39 [] := K33.trans Kc39 (allS (Or.inr sz33) all0)
  have s40 : ∀ t, Steps p.tables e below (T39.setTop (mkF m 32 #[.val (.ref fb), .val (.int fz), .val (.ref b33)] [(.ref b33)])) t → Steps p.tables e below (T39.setTop (mkF m 31 #[.val (.ref fb), .val (.int fz), .val (.ref b33)] [])) t := by
    intro t kt
    refine XS.aloadN X39.here hx rfl (hb hby d5_31) rfl rfl ?_
    exact kt
  obtain ⟨fs_, hr, hrun, hended, hW, hsame⟩ := X39.leave (hlocks := BodyLoose.notSynchronized Bd) (v := some (.ref b33)) (fun h => by rw [Bd.returns] at h; cases h)
  refine ⟨_, _, pre0 _ (s32 _ (st33 _ (s37 _ (st38 _ (st39 _ (s40 _ (?_))))))), hrun, hended, _, _, rfl, ?_, ⟨_, rfl⟩, hW, hsame.mono (by decide) (by decide)⟩
  · show Steps p.tables e below (T39.setTop (mkF m 32 #[.val (.ref fb), .val (.int fz), .val (.ref b33)] [(.ref b33)])) _
    exact retOut X39 hx Bd.returns rfl (Or.inr (Or.inr (Or.inr (Or.inr ⟨rfl, rfl, rfl⟩)))) (hb hby d5_32) hr
  · show Q5 Z fb n mA fz h0 n0 _ T39.heap _
    rw [e39]
    exact ⟨b33, rfl, N39, K39, gn33, sz33, V39.lt, V39.as (fun i _ => by show (if i < n then Value.int 0 else .int 0) = .int 0; split <;> rfl)⟩
def Q6 (Z : State) (u0 u1 u2 : Int32) (h0 : Heap) (n0 : Nat) (v : Option Value) (h : Heap) (L : List Loc) : Prop := v = none ∧ Fr n0 L ∧ h = h0
set_option maxRecDepth 65536 in
set_option maxHeartbeats 40000000 in
theorem rm6 (l : Launch) (Z : State) (a0 : Array Value) (hw : ∀ d ∈ tables_1, d.before a0 Z = true) (ws : List Jvm.Cond) (u0 u1 u2 : Int32) (h0 : Heap) (n0 : Nat) (Z0 : n0 ≤ h0.size) (q1 : ¬ u2 < u1) (q2 : ¬ u1 < (0 : Int32)) (q3 : ¬ u0 < u2) :
    MetFree l (⟨"java/util/Arrays", "rangeCheck", "(III)V"⟩ : MethodName) (head1 (Jvm.Cond.code (⟨"java/util/Arrays", "rangeCheck", "(III)V"⟩ : MethodName) jdk_65_method_30_code 3 none :: ws) ({ frames := 0, cells := 0, slots := 0, locals := 0 } : Room)) (fun a U => a = #[(.int u0), (.int u1), (.int u2)] ∧ Z.Warmed39 U.vm ∧ U.heap = h0) (fun _ _ _ _ _ => True) (fun _ U o U' => ∃ v L, o = .returned v ∧ Q6 Z u0 u1 u2 h0 n0 v U'.heap L ∧ FrameEnd U o U' L ({ frames := 0, cells := 0, slots := 0, locals := 0 } : Room).cells ({ frames := 0, cells := 0, slots := 0, locals := 0 } : Room).slots) := by
  refine MetFree.of_bodySF (plainFor_of_name pn_java_util_Arrays) hisR ?_
  intro p e s m args0 below meth c s₁ Bd hml0 hP hK
  obtain ⟨rfl, hZ, hh⟩ := hP
  have hx := Bd.exec
  have hby := Bd.bytes
  have hml : c.maxLocals = 3 := hml0
  have hown : s.vm.findClass "java/util/Arrays" = some m.cls := findClass_of_methodNamed Bd.named
  have hnm := (name_of_methodNamed Bd.named Bd.method).1
  have X0 : Stand p l e ({ frames := 0, cells := 0, slots := 0, locals := 0 } : Room) s m #[(.int u0), (.int u1), (.int u2)] below meth c s₁ [] 0 0 := Stand.of_body Bd
  have e0 : s₁.heap = h0 := by rw [← hh, Bd.state]; rfl
  have N0 := Fr.nil n0
  have pre0 : ∀ t, Steps p.tables e below (s₁.setTop (mkF m 0 #[.val (.int u0), .val (.int u1), .val (.int u2)] [])) t → Steps p.tables e below (s₁.setTop (entryFrame m #[(.int u0), (.int u1), (.int u2)] 3)) t := fun t kk_ => castTop (ef_6 m u0 u1 u2) kk_
  have s41 : ∀ t, Steps p.tables e below (s₁.setTop (mkF m 73 #[.val (.int u0), .val (.int u1), .val (.int u2)] [])) t → Steps p.tables e below (s₁.setTop (mkF m 0 #[.val (.int u0), .val (.int u1), .val (.int u2)] [])) t := by
    intro t kt
    refine XS.iloadN X0.here hx rfl (hb hby d6_0) rfl ?_
    show Steps p.tables e below (s₁.setTop (mkF m 1 #[.val (.int u0), .val (.int u1), .val (.int u2)] [(.int u1)])) t
    refine XS.iloadN X0.here hx rfl (hb hby d6_1) rfl ?_
    show Steps p.tables e below (s₁.setTop (mkF m 2 #[.val (.int u0), .val (.int u1), .val (.int u2)] [(.int u2), (.int u1)])) t
    refine XS.icmpYes X0.here hx rfl (pc0 := 2) (pc' := 46) rfl (hb hby d6_2) rfl (flt q1).2.2.2 (by decide) (by decide) ?_
    show Steps p.tables e below (s₁.setTop (mkF m 46 #[.val (.int u0), .val (.int u1), .val (.int u2)] [])) t
    refine XS.iloadN X0.here hx rfl (hb hby d6_46) rfl ?_
    show Steps p.tables e below (s₁.setTop (mkF m 47 #[.val (.int u0), .val (.int u1), .val (.int u2)] [(.int u1)])) t
    refine XS.ifYes X0.here hx rfl (pc0 := 47) (pc' := 59) rfl (hb hby d6_47) rfl ((if0 _ _).trans (flt q2).2.1) (by decide) (by decide) ?_
    show Steps p.tables e below (s₁.setTop (mkF m 59 #[.val (.int u0), .val (.int u1), .val (.int u2)] [])) t
    refine XS.iloadN X0.here hx rfl (hb hby d6_59) rfl ?_
    show Steps p.tables e below (s₁.setTop (mkF m 60 #[.val (.int u0), .val (.int u1), .val (.int u2)] [(.int u2)])) t
    refine XS.iloadN X0.here hx rfl (hb hby d6_60) rfl ?_
    show Steps p.tables e below (s₁.setTop (mkF m 61 #[.val (.int u0), .val (.int u1), .val (.int u2)] [(.int u0), (.int u2)])) t
    refine XS.icmpYes X0.here hx rfl (pc0 := 61) (pc' := 73) rfl (hb hby d6_61) rfl (flt q3).2.2.2 (by decide) (by decide) ?_
    exact kt
  obtain ⟨fs_, hr, hrun, hended, hW, hsame⟩ := X0.leave (hlocks := BodyLoose.notSynchronized Bd) (v := none) (fun _ => rfl)
  refine ⟨_, _, pre0 _ (s41 _ (?_)), hrun, hended, _, _, rfl, ?_, ⟨_, rfl⟩, hW, hsame.mono (by decide) (by decide)⟩
  · show Steps p.tables e below (s₁.setTop (mkF m 73 #[.val (.int u0), .val (.int u1), .val (.int u2)] [])) _
    exact X0.returnOut hx Bd.returns (hb hby d6_73) hr
  · show Q6 Z u0 u1 u2 h0 n0 _ s₁.heap _
    rw [e0]
    exact ⟨rfl, N0, rfl⟩
def Q7 (Z : State) (fb : Addr) (n mA : Nat) (f : Nat → Int32) (z1 z2 fv : Int32) (h0 : Heap) (n0 : Nat) (v : Option Value) (h : Heap) (L : List Loc) : Prop := v = none ∧ Fr n0 L ∧ Keep h0 h [fb] ∧ Ar Z h fb .int mA (fun i => .int (if n ≤ i then fv else f i))
set_option maxRecDepth 65536 in
set_option maxHeartbeats 40000000 in
theorem rm7 (l : Launch) (Z : State) (a0 : Array Value) (hw : ∀ d ∈ tables_1, d.before a0 Z = true) (ws : List Jvm.Cond) (fb : Addr) (n mA : Nat) (f : Nat → Int32) (z1 z2 fv : Int32) (h0 : Heap) (n0 : Nat) (Z0 : n0 ≤ h0.size) (Vb : Ar Z h0 fb .int mA (fun i => .int (f i))) (Gb : n0 ≤ fb) (hz1 : z1.toInt = n) (hz2 : z2.toInt = mA) (hlt : n < mA) (h54 : mA ≤ 54) :
    MetFree l (⟨"java/util/Arrays", "fill", "([IIII)V"⟩ : MethodName) (head1 (Jvm.Cond.code (⟨"java/util/Arrays", "fill", "([IIII)V"⟩ : MethodName) jdk_65_method_104_code 5 none :: ws) ({ frames := 1, cells := 0, slots := 0, locals := 14 } : Room)) (fun a U => a = #[(.ref fb), (.int z1), (.int z2), (.int fv)] ∧ Z.Warmed39 U.vm ∧ U.heap = h0) (fun _ _ _ _ _ => True) (fun _ U o U' => ∃ v L, o = .returned v ∧ Q7 Z fb n mA f z1 z2 fv h0 n0 v U'.heap L ∧ FrameEnd U o U' L ({ frames := 1, cells := 0, slots := 0, locals := 14 } : Room).cells ({ frames := 1, cells := 0, slots := 0, locals := 14 } : Room).slots) := by
  refine MetFree.of_bodySF (plainFor_of_name pn_java_util_Arrays) hisR ?_
  intro p e s m args0 below meth c s₁ Bd hml0 hP hK
  obtain ⟨rfl, hZ, hh⟩ := hP
  have hx := Bd.exec
  have hby := Bd.bytes
  have hml : c.maxLocals = 5 := hml0
  have hown : s.vm.findClass "java/util/Arrays" = some m.cls := findClass_of_methodNamed Bd.named
  have hnm := (name_of_methodNamed Bd.named Bd.method).1
  have X0 : Stand p l e ({ frames := 1, cells := 0, slots := 0, locals := 14 } : Room) s m #[(.ref fb), (.int z1), (.int z2), (.int fv)] below meth c s₁ [] 0 0 := Stand.of_body Bd
  have e0 : s₁.heap = h0 := by rw [← hh, Bd.state]; rfl
  have N0 := Fr.nil n0
  have pre0 : ∀ t, Steps p.tables e below (s₁.setTop (mkF m 0 #[.val (.ref fb), .val (.int z1), .val (.int z2), .val (.int fv), .unset] [])) t → Steps p.tables e below (s₁.setTop (entryFrame m #[(.ref fb), (.int z1), (.int z2), (.int fv)] 5)) t := fun t kk_ => castTop (ef_7 m fb z1 z2 fv) kk_
  obtain ⟨r1, r2, r3⟩ := own_rc n mA z1 z2 hz1 hz2 hlt h54
  have s42 : ∀ t, Steps p.tables e below (s₁.setTop (mkF m 4 #[.val (.ref fb), .val (.int z1), .val (.int z2), .val (.int fv), .unset] [(.int z2), (.int z1), (.int (Int32.ofNat mA))])) t → Steps p.tables e below (s₁.setTop (mkF m 0 #[.val (.ref fb), .val (.int z1), .val (.int z2), .val (.int fv), .unset] [])) t := by
    intro t kt
    refine XS.aloadN X0.here hx rfl (hb hby d7_0) rfl rfl ?_
    show Steps p.tables e below (s₁.setTop (mkF m 1 #[.val (.ref fb), .val (.int z1), .val (.int z2), .val (.int fv), .unset] [(.ref fb)])) t
    refine OwnKit.alen X0 hx hZ e0 Vb (z := (Int32.ofNat mA)) (own_of h54) (g := (mkF m 1 #[.val (.ref fb), .val (.int z1), .val (.int z2), .val (.int fv), .unset] [(.ref fb)])) rfl rfl (hb hby d7_1) _ ?_
    show Steps p.tables e below (s₁.setTop (mkF m 2 #[.val (.ref fb), .val (.int z1), .val (.int z2), .val (.int fv), .unset] [(.int (Int32.ofNat mA))])) t
    refine XS.iloadN X0.here hx rfl (hb hby d7_2) rfl ?_
    show Steps p.tables e below (s₁.setTop (mkF m 3 #[.val (.ref fb), .val (.int z1), .val (.int z2), .val (.int fv), .unset] [(.int z1), (.int (Int32.ofNat mA))])) t
    refine XS.iloadN X0.here hx rfl (hb hby d7_3) rfl ?_
    exact kt
  obtain ⟨_, _, ⟨T43, L43, k43, n43⟩, -, X43, ⟨Lc43, hQ43, l43, y43, z43⟩, st43⟩ := Jvm.LawKit.callS X0 hx (y := (⟨"java/util/Arrays", "rangeCheck", "(III)V"⟩ : MethodName)) hown (mvT hZ (hw _ (List.mem_of_getElem? (i := 59) rfl))) (mvT hZ (hw _ (List.mem_of_getElem? (i := 60) rfl))) (mvT hZ (hw _ (List.mem_of_getElem? (i := 46) rfl))) (mvT hZ (hw _ (List.mem_of_getElem? (i := 61) rfl))) (by decide) (backOf (W := 0) (rm6 l Z a0 hw [] (Int32.ofNat mA) z1 z2 h0 n0 Z0 r1 r2 r3) hZ (hw _ (List.mem_of_getElem? (i := 61) rfl)) (hw _ (List.mem_of_getElem? (i := 46) rfl)) (by decide) (by decide)) (g := (mkF m 4 #[.val (.ref fb), .val (.int z1), .val (.int z2), .val (.int fv), .unset] [(.int z2), (.int z1), (.int (Int32.ofNat mA))])) rfl (by rw [hml]; rfl) (argsL := [(.int (Int32.ofNat mA)), (.int z1), (.int z2)]) (rest := []) (lenOf pd_oIIIcV rfl) rfl (by show 2 * 0 + _ ≤ _; exact Nat.le_of_eq rfl) (hb hby d7_4) (fun _ _ => ⟨rfl, e0, (by decide : 0 + 0 ≤ _), (by decide : 0 + 0 ≤ _)⟩)
  dsimp only [Pt.U, Pt.locs, Pt.cells, Pt.slots] at X43 l43 y43 z43 st43 hQ43
  rw [l43, y43, z43] at X43
  obtain ⟨hv43, N43q, e43q⟩ := hQ43
  rw [hv43] at st43
  have N43 := Fr.app N0 N43q
  have s44 : ∀ t, Steps p.tables e below (T43.setTop (mkF m 10 #[.val (.ref fb), .val (.int z1), .val (.int z2), .val (.int fv), .val (.int z1)] [])) t → Steps p.tables e below (T43.setTop (mkF m 7 #[.val (.ref fb), .val (.int z1), .val (.int z2), .val (.int fv), .unset] [])) t := by
    intro t kt
    refine XS.iloadN X43.here hx rfl (hb hby d7_7) rfl ?_
    show Steps p.tables e below (T43.setTop (mkF m 8 #[.val (.ref fb), .val (.int z1), .val (.int z2), .val (.int fv), .unset] [(.int z1)])) t
    refine XS.istore X43.here hx rfl (hb hby d7_8) rfl (l' := #[.val (.ref fb), .val (.int z1), .val (.int z2), .val (.int fv), .val (.int z1)]) rfl ?_
    exact kt
  have loop : ∀ (k : Nat) (T : State) (lc : List Loc) (h : Heap) (j : Int32) (f : Nat → Int32), Stand p l e ({ frames := 1, cells := 0, slots := 0, locals := 14 } : Room) s m #[(.ref fb), (.int z1), (.int z2), (.int fv)] below meth c T lc 0 0 → T.heap = h → Fr n0 lc → n0 ≤ h.size → Keep h0 h [fb] → Ar Z h fb .int mA (fun i => .int (f i)) → 0 ≤ j.toInt → j.toInt + k = mA →
      ∃ (T' : State) (lc' : List Loc) (h' : Heap) (j' : Int32), Stand p l e ({ frames := 1, cells := 0, slots := 0, locals := 14 } : Room) s m #[(.ref fb), (.int z1), (.int z2), (.int fv)] below meth c T' lc' 0 0 ∧ T'.heap = h' ∧ Fr n0 lc' ∧ Keep h0 h' [fb] ∧ Ar Z h' fb .int mA (fun i => .int (if j.toInt.toNat ≤ i then fv else f i)) ∧ ∀ t, Steps p.tables e below (T'.setTop (mkF m 27 #[.val (.ref fb), .val (.int z1), .val (.int z2), .val (.int fv), .val (.int j')] [])) t → Steps p.tables e below (T.setTop (mkF m 10 #[.val (.ref fb), .val (.int z1), .val (.int z2), .val (.int fv), .val (.int j)] [])) t := by
    intro k
    induction k with
    | zero =>
      intro T lc h j f X eT N Zs K V q0 q1
      have qj := own_f0 j z2 mA hz2 q1
      have s45 : ∀ t, Steps p.tables e below (T.setTop (mkF m 27 #[.val (.ref fb), .val (.int z1), .val (.int z2), .val (.int fv), .val (.int j)] [])) t → Steps p.tables e below (T.setTop (mkF m 10 #[.val (.ref fb), .val (.int z1), .val (.int z2), .val (.int fv), .val (.int j)] [])) t := by
        intro t kt
        refine XS.iload X.here hx rfl (hb hby d7_10) rfl ?_
        show Steps p.tables e below (T.setTop (mkF m 12 #[.val (.ref fb), .val (.int z1), .val (.int z2), .val (.int fv), .val (.int j)] [(.int j)])) t
        refine XS.iloadN X.here hx rfl (hb hby d7_12) rfl ?_
        show Steps p.tables e below (T.setTop (mkF m 13 #[.val (.ref fb), .val (.int z1), .val (.int z2), .val (.int fv), .val (.int j)] [(.int z2), (.int j)])) t
        refine XS.icmpYes X.here hx rfl (pc0 := 13) (pc' := 27) rfl (hb hby d7_13) rfl (flt qj.1).2.1 (by decide) (by decide) ?_
        exact kt
      exact ⟨T, lc, h, j, X, eT, N, K, V.as (fun i hi => congrArg Value.int (if_neg (qj.2 i hi)).symm), fun t kt => s45 _ (kt)⟩
    | succ k ih =>
      intro T lc h j f X eT N Zs K V q0 q1
      obtain ⟨qa, qb, qc, qd⟩ := own_f1 j z2 mA k hz2 q0 q1 h54
      have s46 : ∀ t, Steps p.tables e below (T.setTop (mkF m 20 #[.val (.ref fb), .val (.int z1), .val (.int z2), .val (.int fv), .val (.int j)] [(.int fv), (.int j), (.ref fb)])) t → Steps p.tables e below (T.setTop (mkF m 10 #[.val (.ref fb), .val (.int z1), .val (.int z2), .val (.int fv), .val (.int j)] [])) t := by
        intro t kt
        refine XS.iload X.here hx rfl (hb hby d7_10) rfl ?_
        show Steps p.tables e below (T.setTop (mkF m 12 #[.val (.ref fb), .val (.int z1), .val (.int z2), .val (.int fv), .val (.int j)] [(.int j)])) t
        refine XS.iloadN X.here hx rfl (hb hby d7_12) rfl ?_
        show Steps p.tables e below (T.setTop (mkF m 13 #[.val (.ref fb), .val (.int z1), .val (.int z2), .val (.int fv), .val (.int j)] [(.int z2), (.int j)])) t
        refine XS.icmpNo X.here hx rfl (hb hby d7_13) rfl (tlt qa).2.1 ?_
        show Steps p.tables e below (T.setTop (mkF m 16 #[.val (.ref fb), .val (.int z1), .val (.int z2), .val (.int fv), .val (.int j)] [])) t
        refine XS.aloadN X.here hx rfl (hb hby d7_16) rfl rfl ?_
        show Steps p.tables e below (T.setTop (mkF m 17 #[.val (.ref fb), .val (.int z1), .val (.int z2), .val (.int fv), .val (.int j)] [(.ref fb)])) t
        refine XS.iload X.here hx rfl (hb hby d7_17) rfl ?_
        show Steps p.tables e below (T.setTop (mkF m 19 #[.val (.ref fb), .val (.int z1), .val (.int z2), .val (.int fv), .val (.int j)] [(.int j), (.ref fb)])) t
        refine XS.iloadN X.here hx rfl (hb hby d7_19) rfl ?_
        exact kt
      obtain ⟨T47, h47, X47, e47, W47, V47, st47⟩ := OwnKit.stAI X hx hZ eT V (j := j) q0 qb (g := (mkF m 20 #[.val (.ref fb), .val (.int z1), .val (.int z2), .val (.int fv), .val (.int j)] [(.int fv), (.int j), (.ref fb)])) rfl rfl (hb hby d7_20)
      have Zs47 : n0 ≤ h47.size := Nat.le_trans Zs (Keep.of_wr W47).1
      have fV48 := V47
      have K47 : Keep h0 h47 [fb] := K.wr W47 (Or.inl (List.mem_of_getElem? (i := 0) rfl))
      have N47 := Fr.snoc X47 N Gb
      have s49 : ∀ t, Steps p.tables e below (T47.setTop (mkF m 10 #[.val (.ref fb), .val (.int z1), .val (.int z2), .val (.int fv), .val (.int (j + (1 : Int32)))] [])) t → Steps p.tables e below (T47.setTop (mkF m 21 #[.val (.ref fb), .val (.int z1), .val (.int z2), .val (.int fv), .val (.int j)] [])) t := by
        intro t kt
        refine XS.iinc X47.here hx rfl (hb hby d7_21) rfl (l' := #[.val (.ref fb), .val (.int z1), .val (.int z2), .val (.int fv), .val (.int (j + (1 : Int32)))]) rfl ?_
        show Steps p.tables e below (T47.setTop (mkF m 24 #[.val (.ref fb), .val (.int z1), .val (.int z2), .val (.int fv), .val (.int (j + (1 : Int32)))] [])) t
        refine XS.goto X47.here hx rfl (pc0 := 24) (pc' := 10) rfl (hb hby d7_24) (by decide) (by decide) ?_
        exact kt
      obtain ⟨T', lc', h', j', X', e', N', K', V', st'⟩ := ih T47 _ h47 (j + (1 : Int32)) (fun i => if i = j.toInt.toNat then fv else f i) X47 e47 N47 Zs47 K47 (fV48.as (fun i _ => by show (if i = j.toInt.toNat then Value.int fv else .int (f i)) = .int (if i = j.toInt.toNat then fv else f i); split <;> rfl)) qc.1 qc.2
      exact ⟨T', lc', h', j', X', e', N', K', V'.as (fun i _ => congrArg Value.int (qd i fv (f i))), fun t kt => s46 _ (st47 _ (s49 _ (st' _ kt)))⟩
  obtain ⟨T9, lc9, h9, j9, X9, e9, N9, K9, V9, st9⟩ := loop (mA - n) T43 _ h0 z1 f X43 e43q N43 Z0 (Keep.refl h0 [fb]) Vb (by rw [hz1]; omega) (by rw [hz1]; omega)
  have hzt : z1.toInt.toNat = n := by rw [hz1]; rfl
  rw [hzt] at V9
  obtain ⟨fs_, hr, hrun, hended, hW, hsame⟩ := X9.leave (hlocks := BodyLoose.notSynchronized Bd) (v := none) (fun _ => rfl)
  refine ⟨_, _, pre0 _ (s42 _ (st43 _ (s44 _ (st9 _ (?_))))), hrun, hended, _, _, rfl, ?_, ⟨_, rfl⟩, hW, hsame.mono (by decide) (by decide)⟩
  · show Steps p.tables e below (T9.setTop (mkF m 27 #[.val (.ref fb), .val (.int z1), .val (.int z2), .val (.int fv), .val (.int j9)] [])) _
    exact X9.returnOut hx Bd.returns (hb hby d7_27) hr
  · show Q7 Z fb n mA f z1 z2 fv h0 n0 _ T9.heap _
    rw [e9]
    exact ⟨rfl, N9, K9, V9⟩
def Q2 (Z : State) (fs : Addr) (h0 : Heap) (n0 : Nat) (v : Option Value) (h : Heap) (L : List Loc) : Prop := v = none ∧ Fr n0 L ∧ Keep h0 h [fs] ∧ Exa Z h fs "com/example/witness/witness/logic/StepSearch" ∧ ∃ ca fa ta ka qa : Addr, fs < ca ∧ ca < fa ∧ fa < ta ∧ ta < ka ∧ ka < qa ∧ Fld Z h fs "com/example/witness/witness/logic/StepSearch" "costs" "[I" (.ref ca) ∧ Fld Z h fs "com/example/witness/witness/logic/StepSearch" "froms" "[I" (.ref fa) ∧ Fld Z h fs "com/example/witness/witness/logic/StepSearch" "transitions" "[I" (.ref ta) ∧ Fld Z h fs "com/example/witness/witness/logic/StepSearch" "taken" "[Z" (.ref ka) ∧ Fld Z h fs "com/example/witness/witness/logic/StepSearch" "queue" "[I" (.ref qa) ∧ Fld Z h fs "com/example/witness/witness/logic/StepSearch" "reached" "Lcom/example/witness/witness/logic/IntStack;" .null ∧ Fld Z h fs "com/example/witness/witness/logic/StepSearch" "head" "I" (.int (0 : Int32)) ∧ Fld Z h fs "com/example/witness/witness/logic/StepSearch" "queued" "I" (.int (0 : Int32)) ∧ Ar Z h ca .int 0 (fun i => .int ((2147483647 : Int32))) ∧ Ar Z h fa .int 0 (fun i => .int (0)) ∧ Ar Z h ta .int 0 (fun i => .int (0)) ∧ Ar Z h ka .boolean 0 (fun i => .int (0)) ∧ Ar Z h qa .int 16 (fun i => .int (0))
set_option maxRecDepth 65536 in
set_option maxHeartbeats 40000000 in
theorem rm2 (l : Launch) (Z : State) (a0 : Array Value) (hw : ∀ d ∈ tables_1, d.before a0 Z = true) (ws : List Jvm.Cond) (fs : Addr) (h0 : Heap) (n0 : Nat) (Z0 : n0 ≤ h0.size) (Es : Exa Z h0 fs "com/example/witness/witness/logic/StepSearch") (P_costs : Fld Z h0 fs "com/example/witness/witness/logic/StepSearch" "costs" "[I" .null) (P_froms : Fld Z h0 fs "com/example/witness/witness/logic/StepSearch" "froms" "[I" .null) (P_transitions : Fld Z h0 fs "com/example/witness/witness/logic/StepSearch" "transitions" "[I" .null) (P_taken : Fld Z h0 fs "com/example/witness/witness/logic/StepSearch" "taken" "[Z" .null) (P_queue : Fld Z h0 fs "com/example/witness/witness/logic/StepSearch" "queue" "[I" .null) (P_reached : Fld Z h0 fs "com/example/witness/witness/logic/StepSearch" "reached" "Lcom/example/witness/witness/logic/IntStack;" .null) (P_head : Fld Z h0 fs "com/example/witness/witness/logic/StepSearch" "head" "I" (.int (0 : Int32))) (P_queued : Fld Z h0 fs "com/example/witness/witness/logic/StepSearch" "queued" "I" (.int (0 : Int32))) (Gs : n0 ≤ fs) :
    MetFree l (⟨"com/example/witness/witness/logic/StepSearch", "<init>", "(Lcom/example/witness/witness/logic/IntStack;)V"⟩ : MethodName) (head1 (Jvm.Cond.code (⟨"com/example/witness/witness/logic/StepSearch", "<init>", "(Lcom/example/witness/witness/logic/IntStack;)V"⟩ : MethodName) prog_124_method_2_code 2 none :: ws) ({ frames := 1, cells := 5, slots := 16, locals := 12 } : Room)) (fun a U => a = #[(.ref fs), .null] ∧ Z.Warmed39 U.vm ∧ U.heap = h0) (fun _ _ _ _ _ => True) (fun _ U o U' => ∃ v L, o = .returned v ∧ Q2 Z fs h0 n0 v U'.heap L ∧ FrameEnd U o U' L ({ frames := 1, cells := 5, slots := 16, locals := 12 } : Room).cells ({ frames := 1, cells := 5, slots := 16, locals := 12 } : Room).slots) := by
  refine MetFree.of_bodySF (plainFor_of_name pn_com_example_witness_witness_logic_StepSearch) hisR ?_
  intro p e s m args0 below meth c s₁ Bd hml0 hP hK
  obtain ⟨rfl, hZ, hh⟩ := hP
  have hx := Bd.exec
  have hby := Bd.bytes
  have hml : c.maxLocals = 2 := hml0
  have hown : s.vm.findClass "com/example/witness/witness/logic/StepSearch" = some m.cls := findClass_of_methodNamed Bd.named
  have hnm := (name_of_methodNamed Bd.named Bd.method).1
  have X0 : Stand p l e ({ frames := 1, cells := 5, slots := 16, locals := 12 } : Room) s m #[(.ref fs), .null] below meth c s₁ [] 0 0 := Stand.of_body Bd
  have e0 : s₁.heap = h0 := by rw [← hh, Bd.state]; rfl
  have N0 := Fr.nil n0
  have pre0 : ∀ t, Steps p.tables e below (s₁.setTop (mkF m 0 #[.val (.ref fs), .val .null] [])) t → Steps p.tables e below (s₁.setTop (entryFrame m #[(.ref fs), .null] 2)) t := fun t kk_ => castTop (ef_2 m fs) kk_
  have s50 : ∀ t, Steps p.tables e below (s₁.setTop (mkF m 1 #[.val (.ref fs), .val .null] [(.ref fs)])) t → Steps p.tables e below (s₁.setTop (mkF m 0 #[.val (.ref fs), .val .null] [])) t := by
    intro t kt
    refine XS.aloadN X0.here hx rfl (hb hby d2_0) rfl rfl ?_
    exact kt
  obtain ⟨T51, X51, e51, st51⟩ := initO X0 hx hZ hown (hw _ (List.mem_of_getElem? (i := 9) rfl)) (hw _ (List.mem_of_getElem? (i := 10) rfl)) (hw _ (List.mem_of_getElem? (i := 11) rfl)) e0 (g := (mkF m 1 #[.val (.ref fs), .val .null] [(.ref fs)])) rfl (by rw [hml]; rfl) rfl (hb hby d2_1) (by decide) (W := 0) (by show 2 * 0 + _ ≤ _; exact Nat.le_of_eq rfl) (by decide)
  have s52 : ∀ t, Steps p.tables e below (T51.setTop (mkF m 6 #[.val (.ref fs), .val .null] [(.int (0 : Int32)), (.ref fs)])) t → Steps p.tables e below (T51.setTop (mkF m 4 #[.val (.ref fs), .val .null] [])) t := by
    intro t kt
    refine XS.aloadN X51.here hx rfl (hb hby d2_4) rfl rfl ?_
    show Steps p.tables e below (T51.setTop (mkF m 5 #[.val (.ref fs), .val .null] [(.ref fs)])) t
    refine XS.iconst X51.here hx rfl (hb hby d2_5) ?_
    exact kt
  obtain ⟨T53, h53, k53, X53, e53, E53, A53, st53⟩ := newP X51 hx hZ (hw _ (List.mem_of_getElem? (i := 12) rfl)) e51 (g := (mkF m 6 #[.val (.ref fs), .val .null] [(.int (0 : Int32)), (.ref fs)])) rfl (hb hby d2_6) rfl (by decide) (cap := 0) (by decide) (by decide) (by decide) (by decide)
  obtain ⟨b53, g53⟩ : ∃ z, z = h0.size := ⟨_, rfl⟩
  rw [← g53] at A53 st53
  have lne54 : fs < b53 := Nat.lt_of_lt_of_le Es.lt (Nat.le_of_eq g53.symm)
  have ne54 : fs ≠ b53 := Nat.ne_of_lt lne54
  have gn53 : n0 ≤ b53 := Nat.le_trans Z0 (Nat.le_of_eq g53.symm)
  have sz53 : h0.size ≤ b53 := Nat.le_trans (Keep.refl h0 [fs]).1 (Nat.le_of_eq g53.symm)
  have Zs53 : n0 ≤ h53.size := Nat.le_trans Z0 E53.1
  have fE55 := Es.ext E53
  have fF56 := P_costs.ext E53
  have fF57 := P_froms.ext E53
  have fF58 := P_transitions.ext E53
  have fF59 := P_taken.ext E53
  have fF60 := P_queue.ext E53
  have fF61 := P_reached.ext E53
  have fF62 := P_head.ext E53
  have fF63 := P_queued.ext E53
  have K53 : Keep h0 h53 [fs] := (Keep.refl h0 [fs]).ext E53
  have fV64 : OwnKit.Ar Z h53 b53 .int 0 (fun _ => defaultValue .int) := OwnKit.Ar.new A53 (by decide) (by decide)
  obtain ⟨T65, h65, X65, e65, W65, st65⟩ := putF X53 hx hZ hown (host := "") (Or.inl (hw _ (List.mem_of_getElem? (i := 13) rfl))) Via.refl e53 fF56 fE55 (Or.inl (hw _ (List.mem_of_getElem? (i := 14) rfl))) (hw _ (List.mem_of_getElem? (i := 1) rfl)) (ty := (.array .int)) (by decide) rfl rfl (g := (mkF m 8 #[.val (.ref fs), .val .null] [(.ref b53), (.ref fs)])) rfl rfl (hb hby d2_8)
  have Zs65 : n0 ≤ h65.size := Nat.le_trans Zs53 (Keep.of_wr W65).1
  have fE66 := fE55.wr W65
  have fF67 := fF56.same W65
  have fF68 := fF57.other W65 (Or.inr (slot_ne (Or.inl (hw _ (List.mem_of_getElem? (i := 16) rfl))) (Or.inl (hw _ (List.mem_of_getElem? (i := 14) rfl))) (by decide) (t := (.array .int)) (t' := (.array .int)) (by decide) (by decide)))
  have fF69 := fF58.other W65 (Or.inr (slot_ne (Or.inl (hw _ (List.mem_of_getElem? (i := 18) rfl))) (Or.inl (hw _ (List.mem_of_getElem? (i := 14) rfl))) (by decide) (t := (.array .int)) (t' := (.array .int)) (by decide) (by decide)))
  have fF70 := fF59.other W65 (Or.inr (slot_ne (Or.inl (hw _ (List.mem_of_getElem? (i := 21) rfl))) (Or.inl (hw _ (List.mem_of_getElem? (i := 14) rfl))) (by decide) (t := (.array .boolean)) (t' := (.array .int)) (by decide) (by decide)))
  have fF71 := fF60.other W65 (Or.inr (slot_ne (Or.inl (hw _ (List.mem_of_getElem? (i := 23) rfl))) (Or.inl (hw _ (List.mem_of_getElem? (i := 14) rfl))) (by decide) (t := (.array .int)) (t' := (.array .int)) (by decide) (by decide)))
  have fF72 := fF61.other W65 (Or.inr (slot_ne (Or.inr (hw _ (List.mem_of_getElem? (i := 25) rfl))) (Or.inl (hw _ (List.mem_of_getElem? (i := 14) rfl))) (by decide) (t := (.object "com/example/witness/witness/logic/IntStack")) (t' := (.array .int)) (by decide) (by decide)))
  have fF73 := fF62.other W65 (Or.inr (slot_ne (Or.inl (hw _ (List.mem_of_getElem? (i := 68) rfl))) (Or.inl (hw _ (List.mem_of_getElem? (i := 14) rfl))) (by decide) (t := .int) (t' := (.array .int)) (by decide) (by decide)))
  have fF74 := fF63.other W65 (Or.inr (slot_ne (Or.inl (hw _ (List.mem_of_getElem? (i := 66) rfl))) (Or.inl (hw _ (List.mem_of_getElem? (i := 14) rfl))) (by decide) (t := .int) (t' := (.array .int)) (by decide) (by decide)))
  have fV75 := fV64.other W65 (Ne.symm ne54)
  have K65 : Keep h0 h65 [fs] := K53.wr W65 (Or.inl (List.mem_of_getElem? (i := 0) rfl))
  have N65 := Fr.snoc X65 N0 Gs
  have s76 : ∀ t, Steps p.tables e below (T65.setTop (mkF m 13 #[.val (.ref fs), .val .null] [(.int (0 : Int32)), (.ref fs)])) t → Steps p.tables e below (T65.setTop (mkF m 11 #[.val (.ref fs), .val .null] [])) t := by
    intro t kt
    refine XS.aloadN X65.here hx rfl (hb hby d2_11) rfl rfl ?_
    show Steps p.tables e below (T65.setTop (mkF m 12 #[.val (.ref fs), .val .null] [(.ref fs)])) t
    refine XS.iconst X65.here hx rfl (hb hby d2_12) ?_
    exact kt
  obtain ⟨T77, h77, k77, X77, e77, E77, A77, st77⟩ := newP X65 hx hZ (hw _ (List.mem_of_getElem? (i := 12) rfl)) e65 (g := (mkF m 13 #[.val (.ref fs), .val .null] [(.int (0 : Int32)), (.ref fs)])) rfl (hb hby d2_13) rfl (by decide) (cap := 0) (by decide) (by decide) (by decide) (by decide)
  obtain ⟨b77, g77⟩ : ∃ z, z = h65.size := ⟨_, rfl⟩
  rw [← g77] at A77 st77
  have lne78 : fs < b77 := Nat.lt_of_lt_of_le fE66.lt (Nat.le_of_eq g77.symm)
  have ne78 : fs ≠ b77 := Nat.ne_of_lt lne78
  have lne79 : b53 < b77 := Nat.lt_of_lt_of_le fV75.lt (Nat.le_of_eq g77.symm)
  have ne79 : b53 ≠ b77 := Nat.ne_of_lt lne79
  have gn77 : n0 ≤ b77 := Nat.le_trans Zs65 (Nat.le_of_eq g77.symm)
  have sz77 : h0.size ≤ b77 := Nat.le_trans K65.1 (Nat.le_of_eq g77.symm)
  have Zs77 : n0 ≤ h77.size := Nat.le_trans Zs65 E77.1
  have fE80 := fE66.ext E77
  have fF81 := fF67.ext E77
  have fF82 := fF68.ext E77
  have fF83 := fF69.ext E77
  have fF84 := fF70.ext E77
  have fF85 := fF71.ext E77
  have fF86 := fF72.ext E77
  have fF87 := fF73.ext E77
  have fF88 := fF74.ext E77
  have fV89 := fV75.ext E77
  have K77 : Keep h0 h77 [fs] := K65.ext E77
  have fV90 : OwnKit.Ar Z h77 b77 .int 0 (fun _ => defaultValue .int) := OwnKit.Ar.new A77 (by decide) (by decide)
  obtain ⟨T91, h91, X91, e91, W91, st91⟩ := putF X77 hx hZ hown (host := "") (Or.inl (hw _ (List.mem_of_getElem? (i := 15) rfl))) Via.refl e77 fF82 fE80 (Or.inl (hw _ (List.mem_of_getElem? (i := 16) rfl))) (hw _ (List.mem_of_getElem? (i := 1) rfl)) (ty := (.array .int)) (by decide) rfl rfl (g := (mkF m 15 #[.val (.ref fs), .val .null] [(.ref b77), (.ref fs)])) rfl rfl (hb hby d2_15)
  have Zs91 : n0 ≤ h91.size := Nat.le_trans Zs77 (Keep.of_wr W91).1
  have fE92 := fE80.wr W91
  have fF93 := fF81.other W91 (Or.inr (slot_ne (Or.inl (hw _ (List.mem_of_getElem? (i := 14) rfl))) (Or.inl (hw _ (List.mem_of_getElem? (i := 16) rfl))) (by decide) (t := (.array .int)) (t' := (.array .int)) (by decide) (by decide)))
  have fF94 := fF82.same W91
  have fF95 := fF83.other W91 (Or.inr (slot_ne (Or.inl (hw _ (List.mem_of_getElem? (i := 18) rfl))) (Or.inl (hw _ (List.mem_of_getElem? (i := 16) rfl))) (by decide) (t := (.array .int)) (t' := (.array .int)) (by decide) (by decide)))
  have fF96 := fF84.other W91 (Or.inr (slot_ne (Or.inl (hw _ (List.mem_of_getElem? (i := 21) rfl))) (Or.inl (hw _ (List.mem_of_getElem? (i := 16) rfl))) (by decide) (t := (.array .boolean)) (t' := (.array .int)) (by decide) (by decide)))
  have fF97 := fF85.other W91 (Or.inr (slot_ne (Or.inl (hw _ (List.mem_of_getElem? (i := 23) rfl))) (Or.inl (hw _ (List.mem_of_getElem? (i := 16) rfl))) (by decide) (t := (.array .int)) (t' := (.array .int)) (by decide) (by decide)))
  have fF98 := fF86.other W91 (Or.inr (slot_ne (Or.inr (hw _ (List.mem_of_getElem? (i := 25) rfl))) (Or.inl (hw _ (List.mem_of_getElem? (i := 16) rfl))) (by decide) (t := (.object "com/example/witness/witness/logic/IntStack")) (t' := (.array .int)) (by decide) (by decide)))
  have fF99 := fF87.other W91 (Or.inr (slot_ne (Or.inl (hw _ (List.mem_of_getElem? (i := 68) rfl))) (Or.inl (hw _ (List.mem_of_getElem? (i := 16) rfl))) (by decide) (t := .int) (t' := (.array .int)) (by decide) (by decide)))
  have fF100 := fF88.other W91 (Or.inr (slot_ne (Or.inl (hw _ (List.mem_of_getElem? (i := 66) rfl))) (Or.inl (hw _ (List.mem_of_getElem? (i := 16) rfl))) (by decide) (t := .int) (t' := (.array .int)) (by decide) (by decide)))
  have fV101 := fV89.other W91 (Ne.symm ne54)
  have fV102 := fV90.other W91 (Ne.symm ne78)
  have K91 : Keep h0 h91 [fs] := K77.wr W91 (Or.inl (List.mem_of_getElem? (i := 0) rfl))
  have N91 := Fr.snoc X91 N65 Gs
  have s103 : ∀ t, Steps p.tables e below (T91.setTop (mkF m 20 #[.val (.ref fs), .val .null] [(.int (0 : Int32)), (.ref fs)])) t → Steps p.tables e below (T91.setTop (mkF m 18 #[.val (.ref fs), .val .null] [])) t := by
    intro t kt
    refine XS.aloadN X91.here hx rfl (hb hby d2_18) rfl rfl ?_
    show Steps p.tables e below (T91.setTop (mkF m 19 #[.val (.ref fs), .val .null] [(.ref fs)])) t
    refine XS.iconst X91.here hx rfl (hb hby d2_19) ?_
    exact kt
  obtain ⟨T104, h104, k104, X104, e104, E104, A104, st104⟩ := newP X91 hx hZ (hw _ (List.mem_of_getElem? (i := 12) rfl)) e91 (g := (mkF m 20 #[.val (.ref fs), .val .null] [(.int (0 : Int32)), (.ref fs)])) rfl (hb hby d2_20) rfl (by decide) (cap := 0) (by decide) (by decide) (by decide) (by decide)
  obtain ⟨b104, g104⟩ : ∃ z, z = h91.size := ⟨_, rfl⟩
  rw [← g104] at A104 st104
  have lne105 : fs < b104 := Nat.lt_of_lt_of_le fE92.lt (Nat.le_of_eq g104.symm)
  have ne105 : fs ≠ b104 := Nat.ne_of_lt lne105
  have lne106 : b53 < b104 := Nat.lt_of_lt_of_le fV101.lt (Nat.le_of_eq g104.symm)
  have ne106 : b53 ≠ b104 := Nat.ne_of_lt lne106
  have lne107 : b77 < b104 := Nat.lt_of_lt_of_le fV102.lt (Nat.le_of_eq g104.symm)
  have ne107 : b77 ≠ b104 := Nat.ne_of_lt lne107
  have gn104 : n0 ≤ b104 := Nat.le_trans Zs91 (Nat.le_of_eq g104.symm)
  have sz104 : h0.size ≤ b104 := Nat.le_trans K91.1 (Nat.le_of_eq g104.symm)
  have Zs104 : n0 ≤ h104.size := Nat.le_trans Zs91 E104.1
  have fE108 := fE92.ext E104
  have fF109 := fF93.ext E104
  have fF110 := fF94.ext E104
  have fF111 := fF95.ext E104
  have fF112 := fF96.ext E104
  have fF113 := fF97.ext E104
  have fF114 := fF98.ext E104
  have fF115 := fF99.ext E104
  have fF116 := fF100.ext E104
  have fV117 := fV101.ext E104
  have fV118 := fV102.ext E104
  have K104 : Keep h0 h104 [fs] := K91.ext E104
  have fV119 : OwnKit.Ar Z h104 b104 .int 0 (fun _ => defaultValue .int) := OwnKit.Ar.new A104 (by decide) (by decide)
  obtain ⟨T120, h120, X120, e120, W120, st120⟩ := putF X104 hx hZ hown (host := "") (Or.inl (hw _ (List.mem_of_getElem? (i := 17) rfl))) Via.refl e104 fF111 fE108 (Or.inl (hw _ (List.mem_of_getElem? (i := 18) rfl))) (hw _ (List.mem_of_getElem? (i := 1) rfl)) (ty := (.array .int)) (by decide) rfl rfl (g := (mkF m 22 #[.val (.ref fs), .val .null] [(.ref b104), (.ref fs)])) rfl rfl (hb hby d2_22)
  have Zs120 : n0 ≤ h120.size := Nat.le_trans Zs104 (Keep.of_wr W120).1
  have fE121 := fE108.wr W120
  have fF122 := fF109.other W120 (Or.inr (slot_ne (Or.inl (hw _ (List.mem_of_getElem? (i := 14) rfl))) (Or.inl (hw _ (List.mem_of_getElem? (i := 18) rfl))) (by decide) (t := (.array .int)) (t' := (.array .int)) (by decide) (by decide)))
  have fF123 := fF110.other W120 (Or.inr (slot_ne (Or.inl (hw _ (List.mem_of_getElem? (i := 16) rfl))) (Or.inl (hw _ (List.mem_of_getElem? (i := 18) rfl))) (by decide) (t := (.array .int)) (t' := (.array .int)) (by decide) (by decide)))
  have fF124 := fF111.same W120
  have fF125 := fF112.other W120 (Or.inr (slot_ne (Or.inl (hw _ (List.mem_of_getElem? (i := 21) rfl))) (Or.inl (hw _ (List.mem_of_getElem? (i := 18) rfl))) (by decide) (t := (.array .boolean)) (t' := (.array .int)) (by decide) (by decide)))
  have fF126 := fF113.other W120 (Or.inr (slot_ne (Or.inl (hw _ (List.mem_of_getElem? (i := 23) rfl))) (Or.inl (hw _ (List.mem_of_getElem? (i := 18) rfl))) (by decide) (t := (.array .int)) (t' := (.array .int)) (by decide) (by decide)))
  have fF127 := fF114.other W120 (Or.inr (slot_ne (Or.inr (hw _ (List.mem_of_getElem? (i := 25) rfl))) (Or.inl (hw _ (List.mem_of_getElem? (i := 18) rfl))) (by decide) (t := (.object "com/example/witness/witness/logic/IntStack")) (t' := (.array .int)) (by decide) (by decide)))
  have fF128 := fF115.other W120 (Or.inr (slot_ne (Or.inl (hw _ (List.mem_of_getElem? (i := 68) rfl))) (Or.inl (hw _ (List.mem_of_getElem? (i := 18) rfl))) (by decide) (t := .int) (t' := (.array .int)) (by decide) (by decide)))
  have fF129 := fF116.other W120 (Or.inr (slot_ne (Or.inl (hw _ (List.mem_of_getElem? (i := 66) rfl))) (Or.inl (hw _ (List.mem_of_getElem? (i := 18) rfl))) (by decide) (t := .int) (t' := (.array .int)) (by decide) (by decide)))
  have fV130 := fV117.other W120 (Ne.symm ne54)
  have fV131 := fV118.other W120 (Ne.symm ne78)
  have fV132 := fV119.other W120 (Ne.symm ne105)
  have K120 : Keep h0 h120 [fs] := K104.wr W120 (Or.inl (List.mem_of_getElem? (i := 0) rfl))
  have N120 := Fr.snoc X120 N91 Gs
  have s133 : ∀ t, Steps p.tables e below (T120.setTop (mkF m 27 #[.val (.ref fs), .val .null] [(.int (0 : Int32)), (.ref fs)])) t → Steps p.tables e below (T120.setTop (mkF m 25 #[.val (.ref fs), .val .null] [])) t := by
    intro t kt
    refine XS.aloadN X120.here hx rfl (hb hby d2_25) rfl rfl ?_
    show Steps p.tables e below (T120.setTop (mkF m 26 #[.val (.ref fs), .val .null] [(.ref fs)])) t
    refine XS.iconst X120.here hx rfl (hb hby d2_26) ?_
    exact kt
  obtain ⟨T134, h134, k134, X134, e134, E134, A134, st134⟩ := newP X120 hx hZ (hw _ (List.mem_of_getElem? (i := 19) rfl)) e120 (g := (mkF m 27 #[.val (.ref fs), .val .null] [(.int (0 : Int32)), (.ref fs)])) rfl (hb hby d2_27) rfl (by decide) (cap := 0) (by decide) (by decide) (by decide) (by decide)
  obtain ⟨b134, g134⟩ : ∃ z, z = h120.size := ⟨_, rfl⟩
  rw [← g134] at A134 st134
  have lne135 : fs < b134 := Nat.lt_of_lt_of_le fE121.lt (Nat.le_of_eq g134.symm)
  have ne135 : fs ≠ b134 := Nat.ne_of_lt lne135
  have lne136 : b53 < b134 := Nat.lt_of_lt_of_le fV130.lt (Nat.le_of_eq g134.symm)
  have ne136 : b53 ≠ b134 := Nat.ne_of_lt lne136
  have lne137 : b77 < b134 := Nat.lt_of_lt_of_le fV131.lt (Nat.le_of_eq g134.symm)
  have ne137 : b77 ≠ b134 := Nat.ne_of_lt lne137
  have lne138 : b104 < b134 := Nat.lt_of_lt_of_le fV132.lt (Nat.le_of_eq g134.symm)
  have ne138 : b104 ≠ b134 := Nat.ne_of_lt lne138
  have gn134 : n0 ≤ b134 := Nat.le_trans Zs120 (Nat.le_of_eq g134.symm)
  have sz134 : h0.size ≤ b134 := Nat.le_trans K120.1 (Nat.le_of_eq g134.symm)
  have Zs134 : n0 ≤ h134.size := Nat.le_trans Zs120 E134.1
  have fE139 := fE121.ext E134
  have fF140 := fF122.ext E134
  have fF141 := fF123.ext E134
  have fF142 := fF124.ext E134
  have fF143 := fF125.ext E134
  have fF144 := fF126.ext E134
  have fF145 := fF127.ext E134
  have fF146 := fF128.ext E134
  have fF147 := fF129.ext E134
  have fV148 := fV130.ext E134
  have fV149 := fV131.ext E134
  have fV150 := fV132.ext E134
  have K134 : Keep h0 h134 [fs] := K120.ext E134
  have fV151 : OwnKit.Ar Z h134 b134 .boolean 0 (fun _ => defaultValue .boolean) := OwnKit.Ar.new A134 (by decide) (by decide)
  obtain ⟨T152, h152, X152, e152, W152, st152⟩ := putF X134 hx hZ hown (host := "") (Or.inl (hw _ (List.mem_of_getElem? (i := 20) rfl))) Via.refl e134 fF143 fE139 (Or.inl (hw _ (List.mem_of_getElem? (i := 21) rfl))) (hw _ (List.mem_of_getElem? (i := 1) rfl)) (ty := (.array .boolean)) (by decide) rfl rfl (g := (mkF m 29 #[.val (.ref fs), .val .null] [(.ref b134), (.ref fs)])) rfl rfl (hb hby d2_29)
  have Zs152 : n0 ≤ h152.size := Nat.le_trans Zs134 (Keep.of_wr W152).1
  have fE153 := fE139.wr W152
  have fF154 := fF140.other W152 (Or.inr (slot_ne (Or.inl (hw _ (List.mem_of_getElem? (i := 14) rfl))) (Or.inl (hw _ (List.mem_of_getElem? (i := 21) rfl))) (by decide) (t := (.array .int)) (t' := (.array .boolean)) (by decide) (by decide)))
  have fF155 := fF141.other W152 (Or.inr (slot_ne (Or.inl (hw _ (List.mem_of_getElem? (i := 16) rfl))) (Or.inl (hw _ (List.mem_of_getElem? (i := 21) rfl))) (by decide) (t := (.array .int)) (t' := (.array .boolean)) (by decide) (by decide)))
  have fF156 := fF142.other W152 (Or.inr (slot_ne (Or.inl (hw _ (List.mem_of_getElem? (i := 18) rfl))) (Or.inl (hw _ (List.mem_of_getElem? (i := 21) rfl))) (by decide) (t := (.array .int)) (t' := (.array .boolean)) (by decide) (by decide)))
  have fF157 := fF143.same W152
  have fF158 := fF144.other W152 (Or.inr (slot_ne (Or.inl (hw _ (List.mem_of_getElem? (i := 23) rfl))) (Or.inl (hw _ (List.mem_of_getElem? (i := 21) rfl))) (by decide) (t := (.array .int)) (t' := (.array .boolean)) (by decide) (by decide)))
  have fF159 := fF145.other W152 (Or.inr (slot_ne (Or.inr (hw _ (List.mem_of_getElem? (i := 25) rfl))) (Or.inl (hw _ (List.mem_of_getElem? (i := 21) rfl))) (by decide) (t := (.object "com/example/witness/witness/logic/IntStack")) (t' := (.array .boolean)) (by decide) (by decide)))
  have fF160 := fF146.other W152 (Or.inr (slot_ne (Or.inl (hw _ (List.mem_of_getElem? (i := 68) rfl))) (Or.inl (hw _ (List.mem_of_getElem? (i := 21) rfl))) (by decide) (t := .int) (t' := (.array .boolean)) (by decide) (by decide)))
  have fF161 := fF147.other W152 (Or.inr (slot_ne (Or.inl (hw _ (List.mem_of_getElem? (i := 66) rfl))) (Or.inl (hw _ (List.mem_of_getElem? (i := 21) rfl))) (by decide) (t := .int) (t' := (.array .boolean)) (by decide) (by decide)))
  have fV162 := fV148.other W152 (Ne.symm ne54)
  have fV163 := fV149.other W152 (Ne.symm ne78)
  have fV164 := fV150.other W152 (Ne.symm ne105)
  have fV165 := fV151.other W152 (Ne.symm ne135)
  have K152 : Keep h0 h152 [fs] := K134.wr W152 (Or.inl (List.mem_of_getElem? (i := 0) rfl))
  have N152 := Fr.snoc X152 N120 Gs
  have s166 : ∀ t, Steps p.tables e below (T152.setTop (mkF m 35 #[.val (.ref fs), .val .null] [(.int (16 : Int32)), (.ref fs)])) t → Steps p.tables e below (T152.setTop (mkF m 32 #[.val (.ref fs), .val .null] [])) t := by
    intro t kt
    refine XS.aloadN X152.here hx rfl (hb hby d2_32) rfl rfl ?_
    show Steps p.tables e below (T152.setTop (mkF m 33 #[.val (.ref fs), .val .null] [(.ref fs)])) t
    refine XS.bipush X152.here hx rfl (hb hby d2_33) ?_
    exact kt
  obtain ⟨T167, h167, k167, X167, e167, E167, A167, st167⟩ := newP X152 hx hZ (hw _ (List.mem_of_getElem? (i := 12) rfl)) e152 (g := (mkF m 35 #[.val (.ref fs), .val .null] [(.int (16 : Int32)), (.ref fs)])) rfl (hb hby d2_35) rfl (by decide) (cap := 16) (by decide) (by decide) (by decide) (by decide)
  obtain ⟨b167, g167⟩ : ∃ z, z = h152.size := ⟨_, rfl⟩
  rw [← g167] at A167 st167
  have lne168 : fs < b167 := Nat.lt_of_lt_of_le fE153.lt (Nat.le_of_eq g167.symm)
  have ne168 : fs ≠ b167 := Nat.ne_of_lt lne168
  have lne169 : b53 < b167 := Nat.lt_of_lt_of_le fV162.lt (Nat.le_of_eq g167.symm)
  have ne169 : b53 ≠ b167 := Nat.ne_of_lt lne169
  have lne170 : b77 < b167 := Nat.lt_of_lt_of_le fV163.lt (Nat.le_of_eq g167.symm)
  have ne170 : b77 ≠ b167 := Nat.ne_of_lt lne170
  have lne171 : b104 < b167 := Nat.lt_of_lt_of_le fV164.lt (Nat.le_of_eq g167.symm)
  have ne171 : b104 ≠ b167 := Nat.ne_of_lt lne171
  have lne172 : b134 < b167 := Nat.lt_of_lt_of_le fV165.lt (Nat.le_of_eq g167.symm)
  have ne172 : b134 ≠ b167 := Nat.ne_of_lt lne172
  have gn167 : n0 ≤ b167 := Nat.le_trans Zs152 (Nat.le_of_eq g167.symm)
  have sz167 : h0.size ≤ b167 := Nat.le_trans K152.1 (Nat.le_of_eq g167.symm)
  have Zs167 : n0 ≤ h167.size := Nat.le_trans Zs152 E167.1
  have fE173 := fE153.ext E167
  have fF174 := fF154.ext E167
  have fF175 := fF155.ext E167
  have fF176 := fF156.ext E167
  have fF177 := fF157.ext E167
  have fF178 := fF158.ext E167
  have fF179 := fF159.ext E167
  have fF180 := fF160.ext E167
  have fF181 := fF161.ext E167
  have fV182 := fV162.ext E167
  have fV183 := fV163.ext E167
  have fV184 := fV164.ext E167
  have fV185 := fV165.ext E167
  have K167 : Keep h0 h167 [fs] := K152.ext E167
  have fV186 : OwnKit.Ar Z h167 b167 .int 16 (fun _ => defaultValue .int) := OwnKit.Ar.new A167 (by decide) (by decide)
  obtain ⟨T187, h187, X187, e187, W187, st187⟩ := putF X167 hx hZ hown (host := "") (Or.inl (hw _ (List.mem_of_getElem? (i := 22) rfl))) Via.refl e167 fF178 fE173 (Or.inl (hw _ (List.mem_of_getElem? (i := 23) rfl))) (hw _ (List.mem_of_getElem? (i := 1) rfl)) (ty := (.array .int)) (by decide) rfl rfl (g := (mkF m 37 #[.val (.ref fs), .val .null] [(.ref b167), (.ref fs)])) rfl rfl (hb hby d2_37)
  have Zs187 : n0 ≤ h187.size := Nat.le_trans Zs167 (Keep.of_wr W187).1
  have fE188 := fE173.wr W187
  have fF189 := fF174.other W187 (Or.inr (slot_ne (Or.inl (hw _ (List.mem_of_getElem? (i := 14) rfl))) (Or.inl (hw _ (List.mem_of_getElem? (i := 23) rfl))) (by decide) (t := (.array .int)) (t' := (.array .int)) (by decide) (by decide)))
  have fF190 := fF175.other W187 (Or.inr (slot_ne (Or.inl (hw _ (List.mem_of_getElem? (i := 16) rfl))) (Or.inl (hw _ (List.mem_of_getElem? (i := 23) rfl))) (by decide) (t := (.array .int)) (t' := (.array .int)) (by decide) (by decide)))
  have fF191 := fF176.other W187 (Or.inr (slot_ne (Or.inl (hw _ (List.mem_of_getElem? (i := 18) rfl))) (Or.inl (hw _ (List.mem_of_getElem? (i := 23) rfl))) (by decide) (t := (.array .int)) (t' := (.array .int)) (by decide) (by decide)))
  have fF192 := fF177.other W187 (Or.inr (slot_ne (Or.inl (hw _ (List.mem_of_getElem? (i := 21) rfl))) (Or.inl (hw _ (List.mem_of_getElem? (i := 23) rfl))) (by decide) (t := (.array .boolean)) (t' := (.array .int)) (by decide) (by decide)))
  have fF193 := fF178.same W187
  have fF194 := fF179.other W187 (Or.inr (slot_ne (Or.inr (hw _ (List.mem_of_getElem? (i := 25) rfl))) (Or.inl (hw _ (List.mem_of_getElem? (i := 23) rfl))) (by decide) (t := (.object "com/example/witness/witness/logic/IntStack")) (t' := (.array .int)) (by decide) (by decide)))
  have fF195 := fF180.other W187 (Or.inr (slot_ne (Or.inl (hw _ (List.mem_of_getElem? (i := 68) rfl))) (Or.inl (hw _ (List.mem_of_getElem? (i := 23) rfl))) (by decide) (t := .int) (t' := (.array .int)) (by decide) (by decide)))
  have fF196 := fF181.other W187 (Or.inr (slot_ne (Or.inl (hw _ (List.mem_of_getElem? (i := 66) rfl))) (Or.inl (hw _ (List.mem_of_getElem? (i := 23) rfl))) (by decide) (t := .int) (t' := (.array .int)) (by decide) (by decide)))
  have fV197 := fV182.other W187 (Ne.symm ne54)
  have fV198 := fV183.other W187 (Ne.symm ne78)
  have fV199 := fV184.other W187 (Ne.symm ne105)
  have fV200 := fV185.other W187 (Ne.symm ne135)
  have fV201 := fV186.other W187 (Ne.symm ne168)
  have K187 : Keep h0 h187 [fs] := K167.wr W187 (Or.inl (List.mem_of_getElem? (i := 0) rfl))
  have N187 := Fr.snoc X187 N152 Gs
  have s202 : ∀ t, Steps p.tables e below (T187.setTop (mkF m 42 #[.val (.ref fs), .val .null] [.null, (.ref fs)])) t → Steps p.tables e below (T187.setTop (mkF m 40 #[.val (.ref fs), .val .null] [])) t := by
    intro t kt
    refine XS.aloadN X187.here hx rfl (hb hby d2_40) rfl rfl ?_
    show Steps p.tables e below (T187.setTop (mkF m 41 #[.val (.ref fs), .val .null] [(.ref fs)])) t
    refine XS.aloadN X187.here hx rfl (hb hby d2_41) rfl rfl ?_
    exact kt
  obtain ⟨T203, h203, X203, e203, W203, st203⟩ := putF X187 hx hZ hown (host := "") (Or.inl (hw _ (List.mem_of_getElem? (i := 24) rfl))) Via.refl e187 fF194 fE188 (Or.inr ⟨(hw _ (List.mem_of_getElem? (i := 25) rfl)), rfl, hnm⟩) (hw _ (List.mem_of_getElem? (i := 1) rfl)) (ty := (.object "com/example/witness/witness/logic/IntStack")) (by decide) rfl rfl (g := (mkF m 42 #[.val (.ref fs), .val .null] [.null, (.ref fs)])) rfl rfl (hb hby d2_42)
  have Zs203 : n0 ≤ h203.size := Nat.le_trans Zs187 (Keep.of_wr W203).1
  have fE204 := fE188.wr W203
  have fF205 := fF189.other W203 (Or.inr (slot_ne (Or.inl (hw _ (List.mem_of_getElem? (i := 14) rfl))) (Or.inr (hw _ (List.mem_of_getElem? (i := 25) rfl))) (by decide) (t := (.array .int)) (t' := (.object "com/example/witness/witness/logic/IntStack")) (by decide) (by decide)))
  have fF206 := fF190.other W203 (Or.inr (slot_ne (Or.inl (hw _ (List.mem_of_getElem? (i := 16) rfl))) (Or.inr (hw _ (List.mem_of_getElem? (i := 25) rfl))) (by decide) (t := (.array .int)) (t' := (.object "com/example/witness/witness/logic/IntStack")) (by decide) (by decide)))
  have fF207 := fF191.other W203 (Or.inr (slot_ne (Or.inl (hw _ (List.mem_of_getElem? (i := 18) rfl))) (Or.inr (hw _ (List.mem_of_getElem? (i := 25) rfl))) (by decide) (t := (.array .int)) (t' := (.object "com/example/witness/witness/logic/IntStack")) (by decide) (by decide)))
  have fF208 := fF192.other W203 (Or.inr (slot_ne (Or.inl (hw _ (List.mem_of_getElem? (i := 21) rfl))) (Or.inr (hw _ (List.mem_of_getElem? (i := 25) rfl))) (by decide) (t := (.array .boolean)) (t' := (.object "com/example/witness/witness/logic/IntStack")) (by decide) (by decide)))
  have fF209 := fF193.other W203 (Or.inr (slot_ne (Or.inl (hw _ (List.mem_of_getElem? (i := 23) rfl))) (Or.inr (hw _ (List.mem_of_getElem? (i := 25) rfl))) (by decide) (t := (.array .int)) (t' := (.object "com/example/witness/witness/logic/IntStack")) (by decide) (by decide)))
  have fF210 := fF194.same W203
  have fF211 := fF195.other W203 (Or.inr (slot_ne (Or.inl (hw _ (List.mem_of_getElem? (i := 68) rfl))) (Or.inr (hw _ (List.mem_of_getElem? (i := 25) rfl))) (by decide) (t := .int) (t' := (.object "com/example/witness/witness/logic/IntStack")) (by decide) (by decide)))
  have fF212 := fF196.other W203 (Or.inr (slot_ne (Or.inl (hw _ (List.mem_of_getElem? (i := 66) rfl))) (Or.inr (hw _ (List.mem_of_getElem? (i := 25) rfl))) (by decide) (t := .int) (t' := (.object "com/example/witness/witness/logic/IntStack")) (by decide) (by decide)))
  have fV213 := fV197.other W203 (Ne.symm ne54)
  have fV214 := fV198.other W203 (Ne.symm ne78)
  have fV215 := fV199.other W203 (Ne.symm ne105)
  have fV216 := fV200.other W203 (Ne.symm ne135)
  have fV217 := fV201.other W203 (Ne.symm ne168)
  have K203 : Keep h0 h203 [fs] := K187.wr W203 (Or.inl (List.mem_of_getElem? (i := 0) rfl))
  have N203 := Fr.snoc X203 N187 Gs
  obtain ⟨fs_, hr, hrun, hended, hW, hsame⟩ := X203.leave (hlocks := BodyLoose.notSynchronized Bd) (v := none) (fun _ => rfl)
  refine ⟨_, _, pre0 _ (s50 _ (st51 _ (s52 _ (st53 _ (st65 _ (s76 _ (st77 _ (st91 _ (s103 _ (st104 _ (st120 _ (s133 _ (st134 _ (st152 _ (s166 _ (st167 _ (st187 _ (s202 _ (st203 _ (?_)))))))))))))))))))), hrun, hended, _, _, rfl, ?_, ⟨_, rfl⟩, hW, hsame.mono (by decide) (by decide)⟩
  · show Steps p.tables e below (T203.setTop (mkF m 45 #[.val (.ref fs), .val .null] [])) _
    exact X203.returnOut hx Bd.returns (hb hby d2_45) hr
  · show Q2 Z fs h0 n0 _ T203.heap _
    rw [e203]
    exact ⟨rfl, N203, K203, fE204, b53, b77, b104, b134, b167, lne54, lne79, lne107, lne138, lne172, fF205, fF206, fF207, fF208, fF209, fF210, fF211, fF212, fV213.as (fun i hi => absurd hi (Nat.not_lt_zero i)), fV214.as (fun i hi => absurd hi (Nat.not_lt_zero i)), fV215.as (fun i hi => absurd hi (Nat.not_lt_zero i)), fV216.as (fun i hi => absurd hi (Nat.not_lt_zero i)), fV217.as (fun i hi => rfl)⟩
def Q1 (Z : State) (fs : Addr) (h0 : Heap) (n0 : Nat) (v : Option Value) (h : Heap) (L : List Loc) : Prop := v = none ∧ Fr n0 L ∧ Keep h0 h [fs] ∧ Exa Z h fs "com/example/witness/witness/logic/StepSearch" ∧ ∃ ca fa ta ka qa : Addr, fs < ca ∧ ca < fa ∧ fa < ta ∧ ta < ka ∧ ka < qa ∧ Fld Z h fs "com/example/witness/witness/logic/StepSearch" "costs" "[I" (.ref ca) ∧ Fld Z h fs "com/example/witness/witness/logic/StepSearch" "froms" "[I" (.ref fa) ∧ Fld Z h fs "com/example/witness/witness/logic/StepSearch" "transitions" "[I" (.ref ta) ∧ Fld Z h fs "com/example/witness/witness/logic/StepSearch" "taken" "[Z" (.ref ka) ∧ Fld Z h fs "com/example/witness/witness/logic/StepSearch" "queue" "[I" (.ref qa) ∧ Fld Z h fs "com/example/witness/witness/logic/StepSearch" "reached" "Lcom/example/witness/witness/logic/IntStack;" .null ∧ Fld Z h fs "com/example/witness/witness/logic/StepSearch" "head" "I" (.int (0 : Int32)) ∧ Fld Z h fs "com/example/witness/witness/logic/StepSearch" "queued" "I" (.int (0 : Int32)) ∧ Ar Z h ca .int 0 (fun i => .int ((2147483647 : Int32))) ∧ Ar Z h fa .int 0 (fun i => .int (0)) ∧ Ar Z h ta .int 0 (fun i => .int (0)) ∧ Ar Z h ka .boolean 0 (fun i => .int (0)) ∧ Ar Z h qa .int 16 (fun i => .int (0))
set_option maxRecDepth 65536 in
set_option maxHeartbeats 40000000 in
theorem rm1 (l : Launch) (Z : State) (a0 : Array Value) (hw : ∀ d ∈ tables_1, d.before a0 Z = true) (ws : List Jvm.Cond) (fs : Addr) (h0 : Heap) (n0 : Nat) (Z0 : n0 ≤ h0.size) (Es : Exa Z h0 fs "com/example/witness/witness/logic/StepSearch") (P_costs : Fld Z h0 fs "com/example/witness/witness/logic/StepSearch" "costs" "[I" .null) (P_froms : Fld Z h0 fs "com/example/witness/witness/logic/StepSearch" "froms" "[I" .null) (P_transitions : Fld Z h0 fs "com/example/witness/witness/logic/StepSearch" "transitions" "[I" .null) (P_taken : Fld Z h0 fs "com/example/witness/witness/logic/StepSearch" "taken" "[Z" .null) (P_queue : Fld Z h0 fs "com/example/witness/witness/logic/StepSearch" "queue" "[I" .null) (P_reached : Fld Z h0 fs "com/example/witness/witness/logic/StepSearch" "reached" "Lcom/example/witness/witness/logic/IntStack;" .null) (P_head : Fld Z h0 fs "com/example/witness/witness/logic/StepSearch" "head" "I" (.int (0 : Int32))) (P_queued : Fld Z h0 fs "com/example/witness/witness/logic/StepSearch" "queued" "I" (.int (0 : Int32))) (Gs : n0 ≤ fs) :
    MetFree l (⟨"com/example/witness/witness/logic/StepSearch", "<init>", "()V"⟩ : MethodName) (head1 (Jvm.Cond.code (⟨"com/example/witness/witness/logic/StepSearch", "<init>", "()V"⟩ : MethodName) prog_124_method_1_code 1 none :: ws) ({ frames := 2, cells := 5, slots := 16, locals := 25 } : Room)) (fun a U => a = #[(.ref fs)] ∧ Z.Warmed39 U.vm ∧ U.heap = h0) (fun _ _ _ _ _ => True) (fun _ U o U' => ∃ v L, o = .returned v ∧ Q1 Z fs h0 n0 v U'.heap L ∧ FrameEnd U o U' L ({ frames := 2, cells := 5, slots := 16, locals := 25 } : Room).cells ({ frames := 2, cells := 5, slots := 16, locals := 25 } : Room).slots) := by
  refine MetFree.of_bodySF (plainFor_of_name pn_com_example_witness_witness_logic_StepSearch) hisR ?_
  intro p e s m args0 below meth c s₁ Bd hml0 hP hK
  obtain ⟨rfl, hZ, hh⟩ := hP
  have hx := Bd.exec
  have hby := Bd.bytes
  have hml : c.maxLocals = 1 := hml0
  have hown : s.vm.findClass "com/example/witness/witness/logic/StepSearch" = some m.cls := findClass_of_methodNamed Bd.named
  have hnm := (name_of_methodNamed Bd.named Bd.method).1
  have X0 : Stand p l e ({ frames := 2, cells := 5, slots := 16, locals := 25 } : Room) s m #[(.ref fs)] below meth c s₁ [] 0 0 := Stand.of_body Bd
  have e0 : s₁.heap = h0 := by rw [← hh, Bd.state]; rfl
  have N0 := Fr.nil n0
  have pre0 : ∀ t, Steps p.tables e below (s₁.setTop (mkF m 0 #[.val (.ref fs)] [])) t → Steps p.tables e below (s₁.setTop (entryFrame m #[(.ref fs)] 1)) t := fun t kk_ => castTop (ef_1 m fs) kk_
  have s218 : ∀ t, Steps p.tables e below (s₁.setTop (mkF m 2 #[.val (.ref fs)] [.null, (.ref fs)])) t → Steps p.tables e below (s₁.setTop (mkF m 0 #[.val (.ref fs)] [])) t := by
    intro t kt
    refine XS.aloadN X0.here hx rfl (hb hby d1_0) rfl rfl ?_
    show Steps p.tables e below (s₁.setTop (mkF m 1 #[.val (.ref fs)] [(.ref fs)])) t
    refine XS.aconstNull X0.here hx rfl (hb hby d1_1) ?_
    exact kt
  obtain ⟨_, _, ⟨T219, L219, k219, n219⟩, -, X219, ⟨Lc219, hQ219, l219, y219, z219⟩, st219⟩ := X0.specialBack hx (y := (⟨"com/example/witness/witness/logic/StepSearch", "<init>", "(Lcom/example/witness/witness/logic/IntStack;)V"⟩ : MethodName)) rfl hown (mvT hZ (hw _ (List.mem_of_getElem? (i := 6) rfl))) (mvT hZ (hw _ (List.mem_of_getElem? (i := 7) rfl))) (mvT hZ (hw _ (List.mem_of_getElem? (i := 8) rfl))) (by decide) (backOf (W := 0) (rm2 l Z a0 hw [] fs h0 n0 Z0 Es P_costs P_froms P_transitions P_taken P_queue P_reached P_head P_queued Gs) hZ (hw _ (List.mem_of_getElem? (i := 8) rfl)) (hw _ (List.mem_of_getElem? (i := 2) rfl)) (by decide) (by decide)) (g := (mkF m 2 #[.val (.ref fs)] [.null, (.ref fs)])) rfl (by rw [hml]; rfl) (Steps.refl _) (a := fs) (argsL := [.null]) (rest := []) (lenOf pd_oLcom_example_witness_witness_logic_IntStackscV rfl) rfl (by show 2 * 0 + _ ≤ _; exact Nat.le_of_eq rfl) (hb hby d1_2) (fun _ _ => ⟨rfl, e0, (by decide : 0 + 5 ≤ _), (by decide : 0 + 16 ≤ _)⟩)
  dsimp only [Pt.U, Pt.locs, Pt.cells, Pt.slots] at X219 l219 y219 z219 st219 hQ219
  rw [l219, y219, z219] at X219
  obtain ⟨hv219, N219q, Kc219, E219_, ca219, fa219, ta219, ka219, qa219, o219_0, o219_1, o219_2, o219_3, o219_4, F219_costs, F219_froms, F219_transitions, F219_taken, F219_queue, F219_reached, F219_head, F219_queued, V219_ca, V219_fa, V219_ta, V219_ka, V219_qa⟩ := hQ219
  rw [hv219] at st219
  have N219 := Fr.app N0 N219q
  have K219 : Keep h0 T219.heap [fs] := (Keep.refl h0 [fs]).trans Kc219 (allS (Or.inl (List.mem_of_getElem? (i := 0) rfl)) all0)
  have Zs219 : n0 ≤ T219.heap.size := Nat.le_trans Z0 Kc219.1
  obtain ⟨fs_, hr, hrun, hended, hW, hsame⟩ := X219.leave (hlocks := BodyLoose.notSynchronized Bd) (v := none) (fun _ => rfl)
  refine ⟨_, _, pre0 _ (s218 _ (st219.trans (?_))), hrun, hended, _, _, rfl, ?_, ⟨_, rfl⟩, hW, hsame.mono (by decide) (by decide)⟩
  · show Steps p.tables e below (T219.setTop (mkF m 5 #[.val (.ref fs)] [])) _
    exact X219.returnOut hx Bd.returns (hb hby d1_5) hr
  · show Q1 Z fs h0 n0 _ T219.heap _
    exact ⟨rfl, N219, K219, E219_, ca219, fa219, ta219, ka219, qa219, o219_0, o219_1, o219_2, o219_3, o219_4, F219_costs, F219_froms, F219_transitions, F219_taken, F219_queue, F219_reached, F219_head, F219_queued, V219_ca, V219_fa, V219_ta, V219_ka, V219_qa⟩
def Q8 (Z : State) (fs ca fa ta ka qa : Addr) (n N : Nat) (fC fF fG : Nat → Int32) (fn hd qd : Int32) (h0 : Heap) (n0 : Nat) (v : Option Value) (h : Heap) (L : List Loc) : Prop := v = none ∧ Fr n0 L ∧ Keep h0 h [fs] ∧ Exa Z h fs "com/example/witness/witness/logic/StepSearch" ∧ ∃ c1 f1 t1 k1 : Addr, h0.size ≤ c1 ∧ c1 < f1 ∧ f1 < t1 ∧ t1 < k1 ∧ Fld Z h fs "com/example/witness/witness/logic/StepSearch" "costs" "[I" (.ref c1) ∧ Fld Z h fs "com/example/witness/witness/logic/StepSearch" "froms" "[I" (.ref f1) ∧ Fld Z h fs "com/example/witness/witness/logic/StepSearch" "transitions" "[I" (.ref t1) ∧ Fld Z h fs "com/example/witness/witness/logic/StepSearch" "taken" "[Z" (.ref k1) ∧ Fld Z h fs "com/example/witness/witness/logic/StepSearch" "queue" "[I" (.ref qa) ∧ Fld Z h fs "com/example/witness/witness/logic/StepSearch" "reached" "Lcom/example/witness/witness/logic/IntStack;" .null ∧ Fld Z h fs "com/example/witness/witness/logic/StepSearch" "head" "I" (.int hd) ∧ Fld Z h fs "com/example/witness/witness/logic/StepSearch" "queued" "I" (.int qd) ∧ Ar Z h c1 .int (max (2 * n) (N + 1)) (fun i => .int (if i < n then fC i else (2147483647 : Int32))) ∧ (∃ g : Nat → Int32, Ar Z h f1 .int (max (2 * n) (N + 1)) (fun i => .int (g i))) ∧ (∃ g : Nat → Int32, Ar Z h t1 .int (max (2 * n) (N + 1)) (fun i => .int (g i))) ∧ Ar Z h k1 .boolean (max (2 * n) (N + 1)) (fun i => .int (0))
set_option maxRecDepth 65536 in
set_option maxHeartbeats 40000000 in
theorem rm8 (l : Launch) (Z : State) (a0 : Array Value) (hw : ∀ d ∈ tables_1, d.before a0 Z = true) (ws : List Jvm.Cond) (fs ca fa ta ka qa : Addr) (n N : Nat) (fC fF fG : Nat → Int32) (fn hd qd : Int32) (h0 : Heap) (n0 : Nat) (Z0 : n0 ≤ h0.size) (Es : Exa Z h0 fs "com/example/witness/witness/logic/StepSearch") (Gs : n0 ≤ fs) (P_costs : Fld Z h0 fs "com/example/witness/witness/logic/StepSearch" "costs" "[I" (.ref ca)) (P_froms : Fld Z h0 fs "com/example/witness/witness/logic/StepSearch" "froms" "[I" (.ref fa)) (P_transitions : Fld Z h0 fs "com/example/witness/witness/logic/StepSearch" "transitions" "[I" (.ref ta)) (P_taken : Fld Z h0 fs "com/example/witness/witness/logic/StepSearch" "taken" "[Z" (.ref ka)) (P_queue : Fld Z h0 fs "com/example/witness/witness/logic/StepSearch" "queue" "[I" (.ref qa)) (P_reached : Fld Z h0 fs "com/example/witness/witness/logic/StepSearch" "reached" "Lcom/example/witness/witness/logic/IntStack;" .null) (P_head : Fld Z h0 fs "com/example/witness/witness/logic/StepSearch" "head" "I" (.int hd)) (P_queued : Fld Z h0 fs "com/example/witness/witness/logic/StepSearch" "queued" "I" (.int qd)) (Vc : Ar Z h0 ca .int n (fun i => .int (fC i))) (Vf : Ar Z h0 fa .int n (fun i => .int (fF i))) (Vt : Ar Z h0 ta .int n (fun i => .int (fG i))) (Vk : Ar Z h0 ka .boolean n (fun i => .int (0))) (hN : fn.toInt = N) (hnN : n ≤ N) (hN27 : N ≤ 27) :
    MetFree l (⟨"com/example/witness/witness/logic/StepSearch", "grow", "(I)V"⟩ : MethodName) (head1 (Jvm.Cond.code (⟨"com/example/witness/witness/logic/StepSearch", "grow", "(I)V"⟩ : MethodName) prog_124_method_9_code 4 none :: ws) ({ frames := 2, cells := 4, slots := 216, locals := 55 } : Room)) (fun a U => a = #[(.ref fs), (.int fn)] ∧ Z.Warmed39 U.vm ∧ U.heap = h0) (fun _ _ _ _ _ => True) (fun _ U o U' => ∃ v L, o = .returned v ∧ Q8 Z fs ca fa ta ka qa n N fC fF fG fn hd qd h0 n0 v U'.heap L ∧ FrameEnd U o U' L ({ frames := 2, cells := 4, slots := 216, locals := 55 } : Room).cells ({ frames := 2, cells := 4, slots := 216, locals := 55 } : Room).slots) := by
  refine MetFree.of_bodySF (plainFor_of_name pn_com_example_witness_witness_logic_StepSearch) hisR ?_
  intro p e s m args0 below meth c s₁ Bd hml0 hP hK
  obtain ⟨rfl, hZ, hh⟩ := hP
  have hx := Bd.exec
  have hby := Bd.bytes
  have hml : c.maxLocals = 4 := hml0
  have hown : s.vm.findClass "com/example/witness/witness/logic/StepSearch" = some m.cls := findClass_of_methodNamed Bd.named
  have hnm := (name_of_methodNamed Bd.named Bd.method).1
  have X0 : Stand p l e ({ frames := 2, cells := 4, slots := 216, locals := 55 } : Room) s m #[(.ref fs), (.int fn)] below meth c s₁ [] 0 0 := Stand.of_body Bd
  have e0 : s₁.heap = h0 := by rw [← hh, Bd.state]; rfl
  have N0 := Fr.nil n0
  have pre0 : ∀ t, Steps p.tables e below (s₁.setTop (mkF m 0 #[.val (.ref fs), .val (.int fn), .unset, .unset] [])) t → Steps p.tables e below (s₁.setTop (entryFrame m #[(.ref fs), (.int fn)] 4)) t := fun t kk_ => castTop (ef_8 m fs fn) kk_
  have ne_ca : fs ≠ ca := ne_ar Es (hw _ (List.mem_of_getElem? (i := 1) rfl)) Vc
  have ne_fa : fs ≠ fa := ne_ar Es (hw _ (List.mem_of_getElem? (i := 1) rfl)) Vf
  have ne_ta : fs ≠ ta := ne_ar Es (hw _ (List.mem_of_getElem? (i := 1) rfl)) Vt
  have ne_ka : fs ≠ ka := ne_ar Es (hw _ (List.mem_of_getElem? (i := 1) rfl)) Vk
  have hn54 : n ≤ 54 := by omega
  have s220 : ∀ t, Steps p.tables e below (s₁.setTop (mkF m 2 #[.val (.ref fs), .val (.int fn), .unset, .unset] [(.ref fs), (.int (2 : Int32))])) t → Steps p.tables e below (s₁.setTop (mkF m 0 #[.val (.ref fs), .val (.int fn), .unset, .unset] [])) t := by
    intro t kt
    refine XS.iconst X0.here hx rfl (hb hby d8_0) ?_
    show Steps p.tables e below (s₁.setTop (mkF m 1 #[.val (.ref fs), .val (.int fn), .unset, .unset] [(.int (2 : Int32))])) t
    refine XS.aloadN X0.here hx rfl (hb hby d8_1) rfl rfl ?_
    exact kt
  obtain ⟨T221, X221, e221, st221⟩ := getF X0 hx hZ hown (host := "") (Or.inl (hw _ (List.mem_of_getElem? (i := 13) rfl))) Via.refl e0 P_costs (g := (mkF m 2 #[.val (.ref fs), .val (.int fn), .unset, .unset] [(.ref fs), (.int (2 : Int32))])) rfl rfl (hb hby d8_2)
  have s222 : ∀ t, Steps p.tables e below (T221.setTop (mkF m 10 #[.val (.ref fs), .val (.int fn), .unset, .unset] [(.int (fn + (1 : Int32))), (.int ((2 : Int32) * (Int32.ofNat n)))])) t → Steps p.tables e below (T221.setTop (mkF m 5 #[.val (.ref fs), .val (.int fn), .unset, .unset] [(.ref ca), (.int (2 : Int32))])) t := by
    intro t kt
    refine OwnKit.alen X221 hx hZ e221 Vc (z := (Int32.ofNat n)) (own_of hn54) (g := (mkF m 5 #[.val (.ref fs), .val (.int fn), .unset, .unset] [(.ref ca), (.int (2 : Int32))])) rfl rfl (hb hby d8_5) _ ?_
    show Steps p.tables e below (T221.setTop (mkF m 6 #[.val (.ref fs), .val (.int fn), .unset, .unset] [(.int (Int32.ofNat n)), (.int (2 : Int32))])) t
    refine XS.imul X221.here hx rfl (hb hby d8_6) rfl ?_
    show Steps p.tables e below (T221.setTop (mkF m 7 #[.val (.ref fs), .val (.int fn), .unset, .unset] [(.int ((2 : Int32) * (Int32.ofNat n)))])) t
    refine XS.iloadN X221.here hx rfl (hb hby d8_7) rfl ?_
    show Steps p.tables e below (T221.setTop (mkF m 8 #[.val (.ref fs), .val (.int fn), .unset, .unset] [(.int fn), (.int ((2 : Int32) * (Int32.ofNat n)))])) t
    refine XS.iconst X221.here hx rfl (hb hby d8_8) ?_
    show Steps p.tables e below (T221.setTop (mkF m 9 #[.val (.ref fs), .val (.int fn), .unset, .unset] [(.int (1 : Int32)), (.int fn), (.int ((2 : Int32) * (Int32.ofNat n)))])) t
    refine XS.iadd X221.here hx rfl (hb hby d8_9) rfl ?_
    exact kt
  obtain ⟨_, _, ⟨T223, L223, k223, n223⟩, -, X223, ⟨Lc223, hQ223, l223, y223, z223⟩, st223⟩ := Jvm.LawKit.callS X221 hx (y := (⟨"java/lang/Math", "max", "(II)I"⟩ : MethodName)) hown (mvT hZ (hw _ (List.mem_of_getElem? (i := 40) rfl))) (mvT hZ (hw _ (List.mem_of_getElem? (i := 41) rfl))) (mvT hZ (hw _ (List.mem_of_getElem? (i := 42) rfl))) (mvT hZ (hw _ (List.mem_of_getElem? (i := 43) rfl))) (by decide) (backOf (W := 0) (rm31 l Z a0 hw [] ((2 : Int32) * (Int32.ofNat n)) (fn + (1 : Int32)) h0 n0 Z0 ) hZ (hw _ (List.mem_of_getElem? (i := 43) rfl)) (hw _ (List.mem_of_getElem? (i := 42) rfl)) (by decide) (by decide)) (g := (mkF m 10 #[.val (.ref fs), .val (.int fn), .unset, .unset] [(.int (fn + (1 : Int32))), (.int ((2 : Int32) * (Int32.ofNat n)))])) rfl (by rw [hml]; rfl) (argsL := [(.int ((2 : Int32) * (Int32.ofNat n))), (.int (fn + (1 : Int32)))]) (rest := []) (lenOf pd_oIIcI rfl) rfl (by show 2 * 0 + _ ≤ _; exact Nat.le_of_eq rfl) (hb hby d8_10) (fun _ _ => ⟨rfl, e221, (by decide : 0 + 0 ≤ _), (by decide : 0 + 0 ≤ _)⟩)
  dsimp only [Pt.U, Pt.locs, Pt.cells, Pt.slots] at X223 l223 y223 z223 st223 hQ223
  rw [l223, y223, z223] at X223
  obtain ⟨hv223, N223q, e223q⟩ := hQ223
  rw [hv223] at st223
  have N223 := Fr.app N0 N223q
  have s224 : ∀ t, Steps p.tables e below (T223.setTop (mkF m 14 #[.val (.ref fs), .val (.int fn), .val (.int (fmax ((2 : Int32) * (Int32.ofNat n)) (fn + (1 : Int32)))), .unset] [])) t → Steps p.tables e below (T223.setTop (mkF m 13 #[.val (.ref fs), .val (.int fn), .unset, .unset] [(.int (fmax ((2 : Int32) * (Int32.ofNat n)) (fn + (1 : Int32))))])) t := by
    intro t kt
    refine XS.istoreN X223.here hx rfl (hb hby d8_13) rfl (l' := #[.val (.ref fs), .val (.int fn), .val (.int (fmax ((2 : Int32) * (Int32.ofNat n)) (fn + (1 : Int32)))), .unset]) rfl ?_
    exact kt
  obtain ⟨fz, hfz⟩ : ∃ z : Int32, z = (fmax ((2 : Int32) * (Int32.ofNat n)) (fn + (1 : Int32))) := ⟨_, rfl⟩
  have s225 : ∀ t, Steps p.tables e below (T223.setTop (mkF m 14 #[.val (.ref fs), .val (.int fn), .val (.int fz), .unset] [])) t → Steps p.tables e below (T223.setTop (mkF m 14 #[.val (.ref fs), .val (.int fn), .val (.int (fmax ((2 : Int32) * (Int32.ofNat n)) (fn + (1 : Int32)))), .unset] [])) t := fun t kt => by subst hfz; exact kt
  obtain ⟨mA, hmA⟩ : ∃ z, z = (max (2 * n) (N + 1)) := ⟨_, rfl⟩
  have hz : fz.toInt = mA := by rw [hfz, hmA]; exact own_cap n N fn hN hnN hN27
  have hlt : n < mA := by omega
  have h54 : mA ≤ 54 := by omega
  have s226 : ∀ t, Steps p.tables e below (T223.setTop (mkF m 15 #[.val (.ref fs), .val (.int fn), .val (.int fz), .unset] [(.ref fs)])) t → Steps p.tables e below (T223.setTop (mkF m 14 #[.val (.ref fs), .val (.int fn), .val (.int fz), .unset] [])) t := by
    intro t kt
    refine XS.aloadN X223.here hx rfl (hb hby d8_14) rfl rfl ?_
    exact kt
  obtain ⟨T227, X227, e227, st227⟩ := getF X223 hx hZ hown (host := "") (Or.inl (hw _ (List.mem_of_getElem? (i := 13) rfl))) Via.refl e223q P_costs (g := (mkF m 15 #[.val (.ref fs), .val (.int fn), .val (.int fz), .unset] [(.ref fs)])) rfl rfl (hb hby d8_15)
  have s228 : ∀ t, Steps p.tables e below (T227.setTop (mkF m 22 #[.val (.ref fs), .val (.int fn), .val (.int fz), .val (.int (Int32.ofNat n))] [(.ref fs), (.ref fs)])) t → Steps p.tables e below (T227.setTop (mkF m 18 #[.val (.ref fs), .val (.int fn), .val (.int fz), .unset] [(.ref ca)])) t := by
    intro t kt
    refine OwnKit.alen X227 hx hZ e227 Vc (z := (Int32.ofNat n)) (own_of hn54) (g := (mkF m 18 #[.val (.ref fs), .val (.int fn), .val (.int fz), .unset] [(.ref ca)])) rfl rfl (hb hby d8_18) _ ?_
    show Steps p.tables e below (T227.setTop (mkF m 19 #[.val (.ref fs), .val (.int fn), .val (.int fz), .unset] [(.int (Int32.ofNat n))])) t
    refine XS.istoreN X227.here hx rfl (hb hby d8_19) rfl (l' := #[.val (.ref fs), .val (.int fn), .val (.int fz), .val (.int (Int32.ofNat n))]) rfl ?_
    show Steps p.tables e below (T227.setTop (mkF m 20 #[.val (.ref fs), .val (.int fn), .val (.int fz), .val (.int (Int32.ofNat n))] [])) t
    refine XS.aloadN X227.here hx rfl (hb hby d8_20) rfl rfl ?_
    show Steps p.tables e below (T227.setTop (mkF m 21 #[.val (.ref fs), .val (.int fn), .val (.int fz), .val (.int (Int32.ofNat n))] [(.ref fs)])) t
    refine XS.aloadN X227.here hx rfl (hb hby d8_21) rfl rfl ?_
    exact kt
  obtain ⟨T229, X229, e229, st229⟩ := getF X227 hx hZ hown (host := "") (Or.inl (hw _ (List.mem_of_getElem? (i := 13) rfl))) Via.refl e227 P_costs (g := (mkF m 22 #[.val (.ref fs), .val (.int fn), .val (.int fz), .val (.int (Int32.ofNat n))] [(.ref fs), (.ref fs)])) rfl rfl (hb hby d8_22)
  have s230 : ∀ t, Steps p.tables e below (T229.setTop (mkF m 26 #[.val (.ref fs), .val (.int fn), .val (.int fz), .val (.int (Int32.ofNat n))] [(.int fz), (.ref ca), (.ref fs)])) t → Steps p.tables e below (T229.setTop (mkF m 25 #[.val (.ref fs), .val (.int fn), .val (.int fz), .val (.int (Int32.ofNat n))] [(.ref ca), (.ref fs)])) t := by
    intro t kt
    refine XS.iloadN X229.here hx rfl (hb hby d8_25) rfl ?_
    exact kt
  obtain ⟨_, _, ⟨T231, L231, k231, n231⟩, -, X231, ⟨Lc231, hQ231, l231, y231, z231⟩, st231⟩ := Jvm.LawKit.callS X229 hx (y := (⟨"java/util/Arrays", "copyOf", "([II)[I"⟩ : MethodName)) hown (mvT hZ (hw _ (List.mem_of_getElem? (i := 44) rfl))) (mvT hZ (hw _ (List.mem_of_getElem? (i := 45) rfl))) (mvT hZ (hw _ (List.mem_of_getElem? (i := 46) rfl))) (mvT hZ (hw _ (List.mem_of_getElem? (i := 47) rfl))) (by decide) (backOf (W := 1) (rm4 l Z a0 hw [] ca n mA fC fz h0 n0 Z0 Vc hz hlt h54) hZ (hw _ (List.mem_of_getElem? (i := 47) rfl)) (hw _ (List.mem_of_getElem? (i := 46) rfl)) (by decide) (by decide)) (g := (mkF m 26 #[.val (.ref fs), .val (.int fn), .val (.int fz), .val (.int (Int32.ofNat n))] [(.int fz), (.ref ca), (.ref fs)])) rfl (by rw [hml]; rfl) (argsL := [(.ref ca), (.int fz)]) (rest := [(.ref fs)]) (lenOf pd_oaIIcaI rfl) rfl (by show 2 * 0 + _ ≤ _; exact Nat.le_of_eq rfl) (hb hby d8_26) (fun _ _ => ⟨rfl, e229, (by decide : 0 + 1 ≤ _), (by decide : 0 + 54 ≤ _)⟩)
  dsimp only [Pt.U, Pt.locs, Pt.cells, Pt.slots] at X231 l231 y231 z231 st231 hQ231
  rw [l231, y231, z231] at X231
  obtain ⟨d231, hv231, N231q, Kc231, G231, S231, lt231, V231⟩ := hQ231
  rw [hv231] at st231
  have N231 := Fr.app N223 N231q
  have lne232 : fs < d231 := Nat.lt_of_lt_of_le Es.lt S231
  have ne232 : fs ≠ d231 := Nat.ne_of_lt lne232
  have lne233 : ca < d231 := Nat.lt_of_lt_of_le Vc.lt S231
  have ne233 : ca ≠ d231 := Nat.ne_of_lt lne233
  have lne234 : fa < d231 := Nat.lt_of_lt_of_le Vf.lt S231
  have ne234 : fa ≠ d231 := Nat.ne_of_lt lne234
  have lne235 : ta < d231 := Nat.lt_of_lt_of_le Vt.lt S231
  have ne235 : ta ≠ d231 := Nat.ne_of_lt lne235
  have lne236 : ka < d231 := Nat.lt_of_lt_of_le Vk.lt S231
  have ne236 : ka ≠ d231 := Nat.ne_of_lt lne236
  have sz231 : h0.size ≤ d231 := Nat.le_trans (Keep.refl h0 [fs]).1 S231
  have K231 : Keep h0 T231.heap [fs] := (Keep.refl h0 [fs]).trans Kc231 all0
  have Zs231 : n0 ≤ T231.heap.size := Nat.le_trans Z0 Kc231.1
  have fE237 := Es.keep Kc231
  have fF238 := P_costs.keep Kc231 nin0
  have fF239 := P_froms.keep Kc231 nin0
  have fF240 := P_transitions.keep Kc231 nin0
  have fF241 := P_taken.keep Kc231 nin0
  have fF242 := P_queue.keep Kc231 nin0
  have fF243 := P_reached.keep Kc231 nin0
  have fF244 := P_head.keep Kc231 nin0
  have fF245 := P_queued.keep Kc231 nin0
  have fV246 := Vc.keep Kc231 nin0
  have fV247 := Vf.keep Kc231 nin0
  have fV248 := Vt.keep Kc231 nin0
  have fV249 := Vk.keep Kc231 nin0
  obtain ⟨T250, h250, X250, e250, W250, st250⟩ := putF X231 hx hZ hown (host := "") (Or.inl (hw _ (List.mem_of_getElem? (i := 13) rfl))) Via.refl rfl fF238 fE237 (Or.inl (hw _ (List.mem_of_getElem? (i := 14) rfl))) (hw _ (List.mem_of_getElem? (i := 1) rfl)) (ty := (.array .int)) (by decide) rfl rfl (g := (mkF m 29 #[.val (.ref fs), .val (.int fn), .val (.int fz), .val (.int (Int32.ofNat n))] [(.ref d231), (.ref fs)])) rfl rfl (hb hby d8_29)
  have Zs250 : n0 ≤ h250.size := Nat.le_trans Zs231 (Keep.of_wr W250).1
  have fE251 := fE237.wr W250
  have fF252 := fF238.same W250
  have fF253 := fF239.other W250 (Or.inr (slot_ne (Or.inl (hw _ (List.mem_of_getElem? (i := 16) rfl))) (Or.inl (hw _ (List.mem_of_getElem? (i := 14) rfl))) (by decide) (t := (.array .int)) (t' := (.array .int)) (by decide) (by decide)))
  have fF254 := fF240.other W250 (Or.inr (slot_ne (Or.inl (hw _ (List.mem_of_getElem? (i := 18) rfl))) (Or.inl (hw _ (List.mem_of_getElem? (i := 14) rfl))) (by decide) (t := (.array .int)) (t' := (.array .int)) (by decide) (by decide)))
  have fF255 := fF241.other W250 (Or.inr (slot_ne (Or.inl (hw _ (List.mem_of_getElem? (i := 21) rfl))) (Or.inl (hw _ (List.mem_of_getElem? (i := 14) rfl))) (by decide) (t := (.array .boolean)) (t' := (.array .int)) (by decide) (by decide)))
  have fF256 := fF242.other W250 (Or.inr (slot_ne (Or.inl (hw _ (List.mem_of_getElem? (i := 23) rfl))) (Or.inl (hw _ (List.mem_of_getElem? (i := 14) rfl))) (by decide) (t := (.array .int)) (t' := (.array .int)) (by decide) (by decide)))
  have fF257 := fF243.other W250 (Or.inr (slot_ne (Or.inr (hw _ (List.mem_of_getElem? (i := 25) rfl))) (Or.inl (hw _ (List.mem_of_getElem? (i := 14) rfl))) (by decide) (t := (.object "com/example/witness/witness/logic/IntStack")) (t' := (.array .int)) (by decide) (by decide)))
  have fF258 := fF244.other W250 (Or.inr (slot_ne (Or.inl (hw _ (List.mem_of_getElem? (i := 68) rfl))) (Or.inl (hw _ (List.mem_of_getElem? (i := 14) rfl))) (by decide) (t := .int) (t' := (.array .int)) (by decide) (by decide)))
  have fF259 := fF245.other W250 (Or.inr (slot_ne (Or.inl (hw _ (List.mem_of_getElem? (i := 66) rfl))) (Or.inl (hw _ (List.mem_of_getElem? (i := 14) rfl))) (by decide) (t := .int) (t' := (.array .int)) (by decide) (by decide)))
  have fV260 := fV246.other W250 (Ne.symm ne_ca)
  have fV261 := fV247.other W250 (Ne.symm ne_fa)
  have fV262 := fV248.other W250 (Ne.symm ne_ta)
  have fV263 := fV249.other W250 (Ne.symm ne_ka)
  have fV264 := V231.other W250 (Ne.symm ne232)
  have K250 : Keep h0 h250 [fs] := K231.wr W250 (Or.inl (List.mem_of_getElem? (i := 0) rfl))
  have N250 := Fr.snoc X250 N231 Gs
  have s265 : ∀ t, Steps p.tables e below (T250.setTop (mkF m 33 #[.val (.ref fs), .val (.int fn), .val (.int fz), .val (.int (Int32.ofNat n))] [(.ref fs)])) t → Steps p.tables e below (T250.setTop (mkF m 32 #[.val (.ref fs), .val (.int fn), .val (.int fz), .val (.int (Int32.ofNat n))] [])) t := by
    intro t kt
    refine XS.aloadN X250.here hx rfl (hb hby d8_32) rfl rfl ?_
    exact kt
  obtain ⟨T266, X266, e266, st266⟩ := getF X250 hx hZ hown (host := "") (Or.inl (hw _ (List.mem_of_getElem? (i := 13) rfl))) Via.refl e250 fF252 (g := (mkF m 33 #[.val (.ref fs), .val (.int fn), .val (.int fz), .val (.int (Int32.ofNat n))] [(.ref fs)])) rfl rfl (hb hby d8_33)
  have s267 : ∀ t, Steps p.tables e below (T266.setTop (mkF m 40 #[.val (.ref fs), .val (.int fn), .val (.int fz), .val (.int (Int32.ofNat n))] [(.int (2147483647 : Int32)), (.int fz), (.int (Int32.ofNat n)), (.ref d231)])) t → Steps p.tables e below (T266.setTop (mkF m 36 #[.val (.ref fs), .val (.int fn), .val (.int fz), .val (.int (Int32.ofNat n))] [(.ref d231)])) t := by
    intro t kt
    refine XS.iloadN X266.here hx rfl (hb hby d8_36) rfl ?_
    show Steps p.tables e below (T266.setTop (mkF m 37 #[.val (.ref fs), .val (.int fn), .val (.int fz), .val (.int (Int32.ofNat n))] [(.int (Int32.ofNat n)), (.ref d231)])) t
    refine XS.iloadN X266.here hx rfl (hb hby d8_37) rfl ?_
    show Steps p.tables e below (T266.setTop (mkF m 38 #[.val (.ref fs), .val (.int fn), .val (.int fz), .val (.int (Int32.ofNat n))] [(.int fz), (.int (Int32.ofNat n)), (.ref d231)])) t
    refine X266.ldcInt hx hown (mvT hZ (hw _ (List.mem_of_getElem? (i := 55) rfl))) (g := (mkF m 38 #[.val (.ref fs), .val (.int fn), .val (.int fz), .val (.int (Int32.ofNat n))] [(.int fz), (.int (Int32.ofNat n)), (.ref d231)])) rfl (hb hby d8_38) _ ?_
    exact kt
  obtain ⟨_, _, ⟨T268, L268, k268, n268⟩, -, X268, ⟨Lc268, hQ268, l268, y268, z268⟩, st268⟩ := Jvm.LawKit.callS X266 hx (y := (⟨"java/util/Arrays", "fill", "([IIII)V"⟩ : MethodName)) hown (mvT hZ (hw _ (List.mem_of_getElem? (i := 56) rfl))) (mvT hZ (hw _ (List.mem_of_getElem? (i := 57) rfl))) (mvT hZ (hw _ (List.mem_of_getElem? (i := 46) rfl))) (mvT hZ (hw _ (List.mem_of_getElem? (i := 58) rfl))) (by decide) (backOf (W := 0) (rm7 l Z a0 hw [] d231 n mA (fun i => if i < n then fC i else 0) (Int32.ofNat n) fz (2147483647 : Int32) h250 n0 Zs250 fV264 G231 (own_of hn54) hz hlt h54) hZ (hw _ (List.mem_of_getElem? (i := 58) rfl)) (hw _ (List.mem_of_getElem? (i := 46) rfl)) (by decide) (by decide)) (g := (mkF m 40 #[.val (.ref fs), .val (.int fn), .val (.int fz), .val (.int (Int32.ofNat n))] [(.int (2147483647 : Int32)), (.int fz), (.int (Int32.ofNat n)), (.ref d231)])) rfl (by rw [hml]; rfl) (argsL := [(.ref d231), (.int (Int32.ofNat n)), (.int fz), (.int (2147483647 : Int32))]) (rest := []) (lenOf pd_oaIIIIcV rfl) rfl (by show 2 * 0 + _ ≤ _; exact Nat.le_of_eq rfl) (hb hby d8_40) (fun _ _ => ⟨rfl, e266, (by decide : 1 + 0 ≤ _), (by decide : 54 + 0 ≤ _)⟩)
  dsimp only [Pt.U, Pt.locs, Pt.cells, Pt.slots] at X268 l268 y268 z268 st268 hQ268
  rw [l268, y268, z268] at X268
  obtain ⟨hv268, N268q, Kc268, fV269⟩ := hQ268
  rw [hv268] at st268
  have N268 := Fr.app N250 N268q
  have Zs268 : n0 ≤ T268.heap.size := Nat.le_trans Zs250 Kc268.1
  have fE270 := fE251.keep Kc268
  have fF271 := fF252.keep Kc268 (ninS ne232 nin0)
  have fF272 := fF253.keep Kc268 (ninS ne232 nin0)
  have fF273 := fF254.keep Kc268 (ninS ne232 nin0)
  have fF274 := fF255.keep Kc268 (ninS ne232 nin0)
  have fF275 := fF256.keep Kc268 (ninS ne232 nin0)
  have fF276 := fF257.keep Kc268 (ninS ne232 nin0)
  have fF277 := fF258.keep Kc268 (ninS ne232 nin0)
  have fF278 := fF259.keep Kc268 (ninS ne232 nin0)
  have fV279 := fV260.keep Kc268 (ninS ne233 nin0)
  have fV280 := fV261.keep Kc268 (ninS ne234 nin0)
  have fV281 := fV262.keep Kc268 (ninS ne235 nin0)
  have fV282 := fV263.keep Kc268 (ninS ne236 nin0)
  have K268 : Keep h0 T268.heap [fs] := K250.trans Kc268 (allS (Or.inr sz231) all0)
  have s283 : ∀ t, Steps p.tables e below (T268.setTop (mkF m 45 #[.val (.ref fs), .val (.int fn), .val (.int fz), .val (.int (Int32.ofNat n))] [(.ref fs), (.ref fs)])) t → Steps p.tables e below (T268.setTop (mkF m 43 #[.val (.ref fs), .val (.int fn), .val (.int fz), .val (.int (Int32.ofNat n))] [])) t := by
    intro t kt
    refine XS.aloadN X268.here hx rfl (hb hby d8_43) rfl rfl ?_
    show Steps p.tables e below (T268.setTop (mkF m 44 #[.val (.ref fs), .val (.int fn), .val (.int fz), .val (.int (Int32.ofNat n))] [(.ref fs)])) t
    refine XS.aloadN X268.here hx rfl (hb hby d8_44) rfl rfl ?_
    exact kt
  obtain ⟨T284, X284, e284, st284⟩ := getF X268 hx hZ hown (host := "") (Or.inl (hw _ (List.mem_of_getElem? (i := 15) rfl))) Via.refl rfl fF272 (g := (mkF m 45 #[.val (.ref fs), .val (.int fn), .val (.int fz), .val (.int (Int32.ofNat n))] [(.ref fs), (.ref fs)])) rfl rfl (hb hby d8_45)
  have s285 : ∀ t, Steps p.tables e below (T284.setTop (mkF m 49 #[.val (.ref fs), .val (.int fn), .val (.int fz), .val (.int (Int32.ofNat n))] [(.int fz), (.ref fa), (.ref fs)])) t → Steps p.tables e below (T284.setTop (mkF m 48 #[.val (.ref fs), .val (.int fn), .val (.int fz), .val (.int (Int32.ofNat n))] [(.ref fa), (.ref fs)])) t := by
    intro t kt
    refine XS.iloadN X284.here hx rfl (hb hby d8_48) rfl ?_
    exact kt
  obtain ⟨_, _, ⟨T286, L286, k286, n286⟩, -, X286, ⟨Lc286, hQ286, l286, y286, z286⟩, st286⟩ := Jvm.LawKit.callS X284 hx (y := (⟨"java/util/Arrays", "copyOf", "([II)[I"⟩ : MethodName)) hown (mvT hZ (hw _ (List.mem_of_getElem? (i := 44) rfl))) (mvT hZ (hw _ (List.mem_of_getElem? (i := 45) rfl))) (mvT hZ (hw _ (List.mem_of_getElem? (i := 46) rfl))) (mvT hZ (hw _ (List.mem_of_getElem? (i := 47) rfl))) (by decide) (backOf (W := 1) (rm4 l Z a0 hw [] fa n mA fF fz T268.heap n0 Zs268 fV280 hz hlt h54) hZ (hw _ (List.mem_of_getElem? (i := 47) rfl)) (hw _ (List.mem_of_getElem? (i := 46) rfl)) (by decide) (by decide)) (g := (mkF m 49 #[.val (.ref fs), .val (.int fn), .val (.int fz), .val (.int (Int32.ofNat n))] [(.int fz), (.ref fa), (.ref fs)])) rfl (by rw [hml]; rfl) (argsL := [(.ref fa), (.int fz)]) (rest := [(.ref fs)]) (lenOf pd_oaIIcaI rfl) rfl (by show 2 * 0 + _ ≤ _; exact Nat.le_of_eq rfl) (hb hby d8_49) (fun _ _ => ⟨rfl, e284, (by decide : 1 + 1 ≤ _), (by decide : 54 + 54 ≤ _)⟩)
  dsimp only [Pt.U, Pt.locs, Pt.cells, Pt.slots] at X286 l286 y286 z286 st286 hQ286
  rw [l286, y286, z286] at X286
  obtain ⟨d286, hv286, N286q, Kc286, G286, S286, lt286, V286⟩ := hQ286
  rw [hv286] at st286
  have N286 := Fr.app N268 N286q
  have lne287 : fs < d286 := Nat.lt_of_lt_of_le fE270.lt S286
  have ne287 : fs ≠ d286 := Nat.ne_of_lt lne287
  have lne288 : ca < d286 := Nat.lt_of_lt_of_le fV279.lt S286
  have ne288 : ca ≠ d286 := Nat.ne_of_lt lne288
  have lne289 : fa < d286 := Nat.lt_of_lt_of_le fV280.lt S286
  have ne289 : fa ≠ d286 := Nat.ne_of_lt lne289
  have lne290 : ta < d286 := Nat.lt_of_lt_of_le fV281.lt S286
  have ne290 : ta ≠ d286 := Nat.ne_of_lt lne290
  have lne291 : ka < d286 := Nat.lt_of_lt_of_le fV282.lt S286
  have ne291 : ka ≠ d286 := Nat.ne_of_lt lne291
  have lne292 : d231 < d286 := Nat.lt_of_lt_of_le fV269.lt S286
  have ne292 : d231 ≠ d286 := Nat.ne_of_lt lne292
  have sz286 : h0.size ≤ d286 := Nat.le_trans K268.1 S286
  have K286 : Keep h0 T286.heap [fs] := K268.trans Kc286 all0
  have Zs286 : n0 ≤ T286.heap.size := Nat.le_trans Zs268 Kc286.1
  have fE293 := fE270.keep Kc286
  have fF294 := fF271.keep Kc286 nin0
  have fF295 := fF272.keep Kc286 nin0
  have fF296 := fF273.keep Kc286 nin0
  have fF297 := fF274.keep Kc286 nin0
  have fF298 := fF275.keep Kc286 nin0
  have fF299 := fF276.keep Kc286 nin0
  have fF300 := fF277.keep Kc286 nin0
  have fF301 := fF278.keep Kc286 nin0
  have fV302 := fV279.keep Kc286 nin0
  have fV303 := fV280.keep Kc286 nin0
  have fV304 := fV281.keep Kc286 nin0
  have fV305 := fV282.keep Kc286 nin0
  have fV306 := fV269.keep Kc286 nin0
  obtain ⟨T307, h307, X307, e307, W307, st307⟩ := putF X286 hx hZ hown (host := "") (Or.inl (hw _ (List.mem_of_getElem? (i := 15) rfl))) Via.refl rfl fF295 fE293 (Or.inl (hw _ (List.mem_of_getElem? (i := 16) rfl))) (hw _ (List.mem_of_getElem? (i := 1) rfl)) (ty := (.array .int)) (by decide) rfl rfl (g := (mkF m 52 #[.val (.ref fs), .val (.int fn), .val (.int fz), .val (.int (Int32.ofNat n))] [(.ref d286), (.ref fs)])) rfl rfl (hb hby d8_52)
  have Zs307 : n0 ≤ h307.size := Nat.le_trans Zs286 (Keep.of_wr W307).1
  have fE308 := fE293.wr W307
  have fF309 := fF294.other W307 (Or.inr (slot_ne (Or.inl (hw _ (List.mem_of_getElem? (i := 14) rfl))) (Or.inl (hw _ (List.mem_of_getElem? (i := 16) rfl))) (by decide) (t := (.array .int)) (t' := (.array .int)) (by decide) (by decide)))
  have fF310 := fF295.same W307
  have fF311 := fF296.other W307 (Or.inr (slot_ne (Or.inl (hw _ (List.mem_of_getElem? (i := 18) rfl))) (Or.inl (hw _ (List.mem_of_getElem? (i := 16) rfl))) (by decide) (t := (.array .int)) (t' := (.array .int)) (by decide) (by decide)))
  have fF312 := fF297.other W307 (Or.inr (slot_ne (Or.inl (hw _ (List.mem_of_getElem? (i := 21) rfl))) (Or.inl (hw _ (List.mem_of_getElem? (i := 16) rfl))) (by decide) (t := (.array .boolean)) (t' := (.array .int)) (by decide) (by decide)))
  have fF313 := fF298.other W307 (Or.inr (slot_ne (Or.inl (hw _ (List.mem_of_getElem? (i := 23) rfl))) (Or.inl (hw _ (List.mem_of_getElem? (i := 16) rfl))) (by decide) (t := (.array .int)) (t' := (.array .int)) (by decide) (by decide)))
  have fF314 := fF299.other W307 (Or.inr (slot_ne (Or.inr (hw _ (List.mem_of_getElem? (i := 25) rfl))) (Or.inl (hw _ (List.mem_of_getElem? (i := 16) rfl))) (by decide) (t := (.object "com/example/witness/witness/logic/IntStack")) (t' := (.array .int)) (by decide) (by decide)))
  have fF315 := fF300.other W307 (Or.inr (slot_ne (Or.inl (hw _ (List.mem_of_getElem? (i := 68) rfl))) (Or.inl (hw _ (List.mem_of_getElem? (i := 16) rfl))) (by decide) (t := .int) (t' := (.array .int)) (by decide) (by decide)))
  have fF316 := fF301.other W307 (Or.inr (slot_ne (Or.inl (hw _ (List.mem_of_getElem? (i := 66) rfl))) (Or.inl (hw _ (List.mem_of_getElem? (i := 16) rfl))) (by decide) (t := .int) (t' := (.array .int)) (by decide) (by decide)))
  have fV317 := fV302.other W307 (Ne.symm ne_ca)
  have fV318 := fV303.other W307 (Ne.symm ne_fa)
  have fV319 := fV304.other W307 (Ne.symm ne_ta)
  have fV320 := fV305.other W307 (Ne.symm ne_ka)
  have fV321 := fV306.other W307 (Ne.symm ne232)
  have fV322 := V286.other W307 (Ne.symm ne287)
  have K307 : Keep h0 h307 [fs] := K286.wr W307 (Or.inl (List.mem_of_getElem? (i := 0) rfl))
  have N307 := Fr.snoc X307 N286 Gs
  have s323 : ∀ t, Steps p.tables e below (T307.setTop (mkF m 57 #[.val (.ref fs), .val (.int fn), .val (.int fz), .val (.int (Int32.ofNat n))] [(.ref fs), (.ref fs)])) t → Steps p.tables e below (T307.setTop (mkF m 55 #[.val (.ref fs), .val (.int fn), .val (.int fz), .val (.int (Int32.ofNat n))] [])) t := by
    intro t kt
    refine XS.aloadN X307.here hx rfl (hb hby d8_55) rfl rfl ?_
    show Steps p.tables e below (T307.setTop (mkF m 56 #[.val (.ref fs), .val (.int fn), .val (.int fz), .val (.int (Int32.ofNat n))] [(.ref fs)])) t
    refine XS.aloadN X307.here hx rfl (hb hby d8_56) rfl rfl ?_
    exact kt
  obtain ⟨T324, X324, e324, st324⟩ := getF X307 hx hZ hown (host := "") (Or.inl (hw _ (List.mem_of_getElem? (i := 17) rfl))) Via.refl e307 fF311 (g := (mkF m 57 #[.val (.ref fs), .val (.int fn), .val (.int fz), .val (.int (Int32.ofNat n))] [(.ref fs), (.ref fs)])) rfl rfl (hb hby d8_57)
  have s325 : ∀ t, Steps p.tables e below (T324.setTop (mkF m 61 #[.val (.ref fs), .val (.int fn), .val (.int fz), .val (.int (Int32.ofNat n))] [(.int fz), (.ref ta), (.ref fs)])) t → Steps p.tables e below (T324.setTop (mkF m 60 #[.val (.ref fs), .val (.int fn), .val (.int fz), .val (.int (Int32.ofNat n))] [(.ref ta), (.ref fs)])) t := by
    intro t kt
    refine XS.iloadN X324.here hx rfl (hb hby d8_60) rfl ?_
    exact kt
  obtain ⟨_, _, ⟨T326, L326, k326, n326⟩, -, X326, ⟨Lc326, hQ326, l326, y326, z326⟩, st326⟩ := Jvm.LawKit.callS X324 hx (y := (⟨"java/util/Arrays", "copyOf", "([II)[I"⟩ : MethodName)) hown (mvT hZ (hw _ (List.mem_of_getElem? (i := 44) rfl))) (mvT hZ (hw _ (List.mem_of_getElem? (i := 45) rfl))) (mvT hZ (hw _ (List.mem_of_getElem? (i := 46) rfl))) (mvT hZ (hw _ (List.mem_of_getElem? (i := 47) rfl))) (by decide) (backOf (W := 1) (rm4 l Z a0 hw [] ta n mA fG fz h307 n0 Zs307 fV319 hz hlt h54) hZ (hw _ (List.mem_of_getElem? (i := 47) rfl)) (hw _ (List.mem_of_getElem? (i := 46) rfl)) (by decide) (by decide)) (g := (mkF m 61 #[.val (.ref fs), .val (.int fn), .val (.int fz), .val (.int (Int32.ofNat n))] [(.int fz), (.ref ta), (.ref fs)])) rfl (by rw [hml]; rfl) (argsL := [(.ref ta), (.int fz)]) (rest := [(.ref fs)]) (lenOf pd_oaIIcaI rfl) rfl (by show 2 * 0 + _ ≤ _; exact Nat.le_of_eq rfl) (hb hby d8_61) (fun _ _ => ⟨rfl, e324, (by decide : 2 + 1 ≤ _), (by decide : 108 + 54 ≤ _)⟩)
  dsimp only [Pt.U, Pt.locs, Pt.cells, Pt.slots] at X326 l326 y326 z326 st326 hQ326
  rw [l326, y326, z326] at X326
  obtain ⟨d326, hv326, N326q, Kc326, G326, S326, lt326, V326⟩ := hQ326
  rw [hv326] at st326
  have N326 := Fr.app N307 N326q
  have lne327 : fs < d326 := Nat.lt_of_lt_of_le fE308.lt S326
  have ne327 : fs ≠ d326 := Nat.ne_of_lt lne327
  have lne328 : ca < d326 := Nat.lt_of_lt_of_le fV317.lt S326
  have ne328 : ca ≠ d326 := Nat.ne_of_lt lne328
  have lne329 : fa < d326 := Nat.lt_of_lt_of_le fV318.lt S326
  have ne329 : fa ≠ d326 := Nat.ne_of_lt lne329
  have lne330 : ta < d326 := Nat.lt_of_lt_of_le fV319.lt S326
  have ne330 : ta ≠ d326 := Nat.ne_of_lt lne330
  have lne331 : ka < d326 := Nat.lt_of_lt_of_le fV320.lt S326
  have ne331 : ka ≠ d326 := Nat.ne_of_lt lne331
  have lne332 : d231 < d326 := Nat.lt_of_lt_of_le fV321.lt S326
  have ne332 : d231 ≠ d326 := Nat.ne_of_lt lne332
  have lne333 : d286 < d326 := Nat.lt_of_lt_of_le fV322.lt S326
  have ne333 : d286 ≠ d326 := Nat.ne_of_lt lne333
  have sz326 : h0.size ≤ d326 := Nat.le_trans K307.1 S326
  have K326 : Keep h0 T326.heap [fs] := K307.trans Kc326 all0
  have Zs326 : n0 ≤ T326.heap.size := Nat.le_trans Zs307 Kc326.1
  have fE334 := fE308.keep Kc326
  have fF335 := fF309.keep Kc326 nin0
  have fF336 := fF310.keep Kc326 nin0
  have fF337 := fF311.keep Kc326 nin0
  have fF338 := fF312.keep Kc326 nin0
  have fF339 := fF313.keep Kc326 nin0
  have fF340 := fF314.keep Kc326 nin0
  have fF341 := fF315.keep Kc326 nin0
  have fF342 := fF316.keep Kc326 nin0
  have fV343 := fV317.keep Kc326 nin0
  have fV344 := fV318.keep Kc326 nin0
  have fV345 := fV319.keep Kc326 nin0
  have fV346 := fV320.keep Kc326 nin0
  have fV347 := fV321.keep Kc326 nin0
  have fV348 := fV322.keep Kc326 nin0
  obtain ⟨T349, h349, X349, e349, W349, st349⟩ := putF X326 hx hZ hown (host := "") (Or.inl (hw _ (List.mem_of_getElem? (i := 17) rfl))) Via.refl rfl fF337 fE334 (Or.inl (hw _ (List.mem_of_getElem? (i := 18) rfl))) (hw _ (List.mem_of_getElem? (i := 1) rfl)) (ty := (.array .int)) (by decide) rfl rfl (g := (mkF m 64 #[.val (.ref fs), .val (.int fn), .val (.int fz), .val (.int (Int32.ofNat n))] [(.ref d326), (.ref fs)])) rfl rfl (hb hby d8_64)
  have Zs349 : n0 ≤ h349.size := Nat.le_trans Zs326 (Keep.of_wr W349).1
  have fE350 := fE334.wr W349
  have fF351 := fF335.other W349 (Or.inr (slot_ne (Or.inl (hw _ (List.mem_of_getElem? (i := 14) rfl))) (Or.inl (hw _ (List.mem_of_getElem? (i := 18) rfl))) (by decide) (t := (.array .int)) (t' := (.array .int)) (by decide) (by decide)))
  have fF352 := fF336.other W349 (Or.inr (slot_ne (Or.inl (hw _ (List.mem_of_getElem? (i := 16) rfl))) (Or.inl (hw _ (List.mem_of_getElem? (i := 18) rfl))) (by decide) (t := (.array .int)) (t' := (.array .int)) (by decide) (by decide)))
  have fF353 := fF337.same W349
  have fF354 := fF338.other W349 (Or.inr (slot_ne (Or.inl (hw _ (List.mem_of_getElem? (i := 21) rfl))) (Or.inl (hw _ (List.mem_of_getElem? (i := 18) rfl))) (by decide) (t := (.array .boolean)) (t' := (.array .int)) (by decide) (by decide)))
  have fF355 := fF339.other W349 (Or.inr (slot_ne (Or.inl (hw _ (List.mem_of_getElem? (i := 23) rfl))) (Or.inl (hw _ (List.mem_of_getElem? (i := 18) rfl))) (by decide) (t := (.array .int)) (t' := (.array .int)) (by decide) (by decide)))
  have fF356 := fF340.other W349 (Or.inr (slot_ne (Or.inr (hw _ (List.mem_of_getElem? (i := 25) rfl))) (Or.inl (hw _ (List.mem_of_getElem? (i := 18) rfl))) (by decide) (t := (.object "com/example/witness/witness/logic/IntStack")) (t' := (.array .int)) (by decide) (by decide)))
  have fF357 := fF341.other W349 (Or.inr (slot_ne (Or.inl (hw _ (List.mem_of_getElem? (i := 68) rfl))) (Or.inl (hw _ (List.mem_of_getElem? (i := 18) rfl))) (by decide) (t := .int) (t' := (.array .int)) (by decide) (by decide)))
  have fF358 := fF342.other W349 (Or.inr (slot_ne (Or.inl (hw _ (List.mem_of_getElem? (i := 66) rfl))) (Or.inl (hw _ (List.mem_of_getElem? (i := 18) rfl))) (by decide) (t := .int) (t' := (.array .int)) (by decide) (by decide)))
  have fV359 := fV343.other W349 (Ne.symm ne_ca)
  have fV360 := fV344.other W349 (Ne.symm ne_fa)
  have fV361 := fV345.other W349 (Ne.symm ne_ta)
  have fV362 := fV346.other W349 (Ne.symm ne_ka)
  have fV363 := fV347.other W349 (Ne.symm ne232)
  have fV364 := fV348.other W349 (Ne.symm ne287)
  have fV365 := V326.other W349 (Ne.symm ne327)
  have K349 : Keep h0 h349 [fs] := K326.wr W349 (Or.inl (List.mem_of_getElem? (i := 0) rfl))
  have N349 := Fr.snoc X349 N326 Gs
  have s366 : ∀ t, Steps p.tables e below (T349.setTop (mkF m 69 #[.val (.ref fs), .val (.int fn), .val (.int fz), .val (.int (Int32.ofNat n))] [(.ref fs), (.ref fs)])) t → Steps p.tables e below (T349.setTop (mkF m 67 #[.val (.ref fs), .val (.int fn), .val (.int fz), .val (.int (Int32.ofNat n))] [])) t := by
    intro t kt
    refine XS.aloadN X349.here hx rfl (hb hby d8_67) rfl rfl ?_
    show Steps p.tables e below (T349.setTop (mkF m 68 #[.val (.ref fs), .val (.int fn), .val (.int fz), .val (.int (Int32.ofNat n))] [(.ref fs)])) t
    refine XS.aloadN X349.here hx rfl (hb hby d8_68) rfl rfl ?_
    exact kt
  obtain ⟨T367, X367, e367, st367⟩ := getF X349 hx hZ hown (host := "") (Or.inl (hw _ (List.mem_of_getElem? (i := 20) rfl))) Via.refl e349 fF354 (g := (mkF m 69 #[.val (.ref fs), .val (.int fn), .val (.int fz), .val (.int (Int32.ofNat n))] [(.ref fs), (.ref fs)])) rfl rfl (hb hby d8_69)
  have s368 : ∀ t, Steps p.tables e below (T367.setTop (mkF m 73 #[.val (.ref fs), .val (.int fn), .val (.int fz), .val (.int (Int32.ofNat n))] [(.int fz), (.ref ka), (.ref fs)])) t → Steps p.tables e below (T367.setTop (mkF m 72 #[.val (.ref fs), .val (.int fn), .val (.int fz), .val (.int (Int32.ofNat n))] [(.ref ka), (.ref fs)])) t := by
    intro t kt
    refine XS.iloadN X367.here hx rfl (hb hby d8_72) rfl ?_
    exact kt
  obtain ⟨_, _, ⟨T369, L369, k369, n369⟩, -, X369, ⟨Lc369, hQ369, l369, y369, z369⟩, st369⟩ := Jvm.LawKit.callS X367 hx (y := (⟨"java/util/Arrays", "copyOf", "([ZI)[Z"⟩ : MethodName)) hown (mvT hZ (hw _ (List.mem_of_getElem? (i := 62) rfl))) (mvT hZ (hw _ (List.mem_of_getElem? (i := 63) rfl))) (mvT hZ (hw _ (List.mem_of_getElem? (i := 46) rfl))) (mvT hZ (hw _ (List.mem_of_getElem? (i := 64) rfl))) (by decide) (backOf (W := 1) (rm5 l Z a0 hw [] ka n mA fz h349 n0 Zs349 fV362 hz hlt h54) hZ (hw _ (List.mem_of_getElem? (i := 64) rfl)) (hw _ (List.mem_of_getElem? (i := 46) rfl)) (by decide) (by decide)) (g := (mkF m 73 #[.val (.ref fs), .val (.int fn), .val (.int fz), .val (.int (Int32.ofNat n))] [(.int fz), (.ref ka), (.ref fs)])) rfl (by rw [hml]; rfl) (argsL := [(.ref ka), (.int fz)]) (rest := [(.ref fs)]) (lenOf pd_oaZIcaZ rfl) rfl (by show 2 * 0 + _ ≤ _; exact Nat.le_of_eq rfl) (hb hby d8_73) (fun _ _ => ⟨rfl, e367, (by decide : 3 + 1 ≤ _), (by decide : 162 + 54 ≤ _)⟩)
  dsimp only [Pt.U, Pt.locs, Pt.cells, Pt.slots] at X369 l369 y369 z369 st369 hQ369
  rw [l369, y369, z369] at X369
  obtain ⟨d369, hv369, N369q, Kc369, G369, S369, lt369, V369⟩ := hQ369
  rw [hv369] at st369
  have N369 := Fr.app N349 N369q
  have lne370 : fs < d369 := Nat.lt_of_lt_of_le fE350.lt S369
  have ne370 : fs ≠ d369 := Nat.ne_of_lt lne370
  have lne371 : ca < d369 := Nat.lt_of_lt_of_le fV359.lt S369
  have ne371 : ca ≠ d369 := Nat.ne_of_lt lne371
  have lne372 : fa < d369 := Nat.lt_of_lt_of_le fV360.lt S369
  have ne372 : fa ≠ d369 := Nat.ne_of_lt lne372
  have lne373 : ta < d369 := Nat.lt_of_lt_of_le fV361.lt S369
  have ne373 : ta ≠ d369 := Nat.ne_of_lt lne373
  have lne374 : ka < d369 := Nat.lt_of_lt_of_le fV362.lt S369
  have ne374 : ka ≠ d369 := Nat.ne_of_lt lne374
  have lne375 : d231 < d369 := Nat.lt_of_lt_of_le fV363.lt S369
  have ne375 : d231 ≠ d369 := Nat.ne_of_lt lne375
  have lne376 : d286 < d369 := Nat.lt_of_lt_of_le fV364.lt S369
  have ne376 : d286 ≠ d369 := Nat.ne_of_lt lne376
  have lne377 : d326 < d369 := Nat.lt_of_lt_of_le fV365.lt S369
  have ne377 : d326 ≠ d369 := Nat.ne_of_lt lne377
  have sz369 : h0.size ≤ d369 := Nat.le_trans K349.1 S369
  have K369 : Keep h0 T369.heap [fs] := K349.trans Kc369 all0
  have Zs369 : n0 ≤ T369.heap.size := Nat.le_trans Zs349 Kc369.1
  have fE378 := fE350.keep Kc369
  have fF379 := fF351.keep Kc369 nin0
  have fF380 := fF352.keep Kc369 nin0
  have fF381 := fF353.keep Kc369 nin0
  have fF382 := fF354.keep Kc369 nin0
  have fF383 := fF355.keep Kc369 nin0
  have fF384 := fF356.keep Kc369 nin0
  have fF385 := fF357.keep Kc369 nin0
  have fF386 := fF358.keep Kc369 nin0
  have fV387 := fV359.keep Kc369 nin0
  have fV388 := fV360.keep Kc369 nin0
  have fV389 := fV361.keep Kc369 nin0
  have fV390 := fV362.keep Kc369 nin0
  have fV391 := fV363.keep Kc369 nin0
  have fV392 := fV364.keep Kc369 nin0
  have fV393 := fV365.keep Kc369 nin0
  obtain ⟨T394, h394, X394, e394, W394, st394⟩ := putF X369 hx hZ hown (host := "") (Or.inl (hw _ (List.mem_of_getElem? (i := 20) rfl))) Via.refl rfl fF382 fE378 (Or.inl (hw _ (List.mem_of_getElem? (i := 21) rfl))) (hw _ (List.mem_of_getElem? (i := 1) rfl)) (ty := (.array .boolean)) (by decide) rfl rfl (g := (mkF m 76 #[.val (.ref fs), .val (.int fn), .val (.int fz), .val (.int (Int32.ofNat n))] [(.ref d369), (.ref fs)])) rfl rfl (hb hby d8_76)
  have Zs394 : n0 ≤ h394.size := Nat.le_trans Zs369 (Keep.of_wr W394).1
  have fE395 := fE378.wr W394
  have fF396 := fF379.other W394 (Or.inr (slot_ne (Or.inl (hw _ (List.mem_of_getElem? (i := 14) rfl))) (Or.inl (hw _ (List.mem_of_getElem? (i := 21) rfl))) (by decide) (t := (.array .int)) (t' := (.array .boolean)) (by decide) (by decide)))
  have fF397 := fF380.other W394 (Or.inr (slot_ne (Or.inl (hw _ (List.mem_of_getElem? (i := 16) rfl))) (Or.inl (hw _ (List.mem_of_getElem? (i := 21) rfl))) (by decide) (t := (.array .int)) (t' := (.array .boolean)) (by decide) (by decide)))
  have fF398 := fF381.other W394 (Or.inr (slot_ne (Or.inl (hw _ (List.mem_of_getElem? (i := 18) rfl))) (Or.inl (hw _ (List.mem_of_getElem? (i := 21) rfl))) (by decide) (t := (.array .int)) (t' := (.array .boolean)) (by decide) (by decide)))
  have fF399 := fF382.same W394
  have fF400 := fF383.other W394 (Or.inr (slot_ne (Or.inl (hw _ (List.mem_of_getElem? (i := 23) rfl))) (Or.inl (hw _ (List.mem_of_getElem? (i := 21) rfl))) (by decide) (t := (.array .int)) (t' := (.array .boolean)) (by decide) (by decide)))
  have fF401 := fF384.other W394 (Or.inr (slot_ne (Or.inr (hw _ (List.mem_of_getElem? (i := 25) rfl))) (Or.inl (hw _ (List.mem_of_getElem? (i := 21) rfl))) (by decide) (t := (.object "com/example/witness/witness/logic/IntStack")) (t' := (.array .boolean)) (by decide) (by decide)))
  have fF402 := fF385.other W394 (Or.inr (slot_ne (Or.inl (hw _ (List.mem_of_getElem? (i := 68) rfl))) (Or.inl (hw _ (List.mem_of_getElem? (i := 21) rfl))) (by decide) (t := .int) (t' := (.array .boolean)) (by decide) (by decide)))
  have fF403 := fF386.other W394 (Or.inr (slot_ne (Or.inl (hw _ (List.mem_of_getElem? (i := 66) rfl))) (Or.inl (hw _ (List.mem_of_getElem? (i := 21) rfl))) (by decide) (t := .int) (t' := (.array .boolean)) (by decide) (by decide)))
  have fV404 := fV387.other W394 (Ne.symm ne_ca)
  have fV405 := fV388.other W394 (Ne.symm ne_fa)
  have fV406 := fV389.other W394 (Ne.symm ne_ta)
  have fV407 := fV390.other W394 (Ne.symm ne_ka)
  have fV408 := fV391.other W394 (Ne.symm ne232)
  have fV409 := fV392.other W394 (Ne.symm ne287)
  have fV410 := fV393.other W394 (Ne.symm ne327)
  have fV411 := V369.other W394 (Ne.symm ne370)
  have K394 : Keep h0 h394 [fs] := K369.wr W394 (Or.inl (List.mem_of_getElem? (i := 0) rfl))
  have N394 := Fr.snoc X394 N369 Gs
  obtain ⟨fs_, hr, hrun, hended, hW, hsame⟩ := X394.leave (hlocks := BodyLoose.notSynchronized Bd) (v := none) (fun _ => rfl)
  refine ⟨_, _, pre0 _ (s220 _ (st221 _ (s222 _ (st223 _ (s224 _ (s225 _ (s226 _ (st227 _ (s228 _ (st229 _ (s230 _ (st231 _ (st250 _ (s265 _ (st266 _ (s267 _ (st268 _ (s283 _ (st284 _ (s285 _ (st286 _ (st307 _ (s323 _ (st324 _ (s325 _ (st326 _ (st349 _ (s366 _ (st367 _ (s368 _ (st369 _ (st394 _ (?_))))))))))))))))))))))))))))))))), hrun, hended, _, _, rfl, ?_, ⟨_, rfl⟩, hW, hsame.mono (by decide) (by decide)⟩
  · show Steps p.tables e below (T394.setTop (mkF m 79 #[.val (.ref fs), .val (.int fn), .val (.int fz), .val (.int (Int32.ofNat n))] [])) _
    exact X394.returnOut hx Bd.returns (hb hby d8_79) hr
  · show Q8 Z fs ca fa ta ka qa n N fC fF fG fn hd qd h0 n0 _ T394.heap _
    rw [e394]
    show _ ∧ _ ∧ _ ∧ _ ∧ ∃ c1 f1 t1 k1 : Addr, _
    exact ⟨rfl, N394, K394, fE395, d231, d286, d326, d369, sz231, lne292, lne333, lne377, fF396, fF397, fF398, fF399, fF400, fF401, fF402, fF403, (hmA ▸ fV408).as (fun i _ => congrArg Value.int (own_fl n i _ _)), ⟨_, (hmA ▸ fV409)⟩, ⟨_, (hmA ▸ fV410)⟩, (hmA ▸ fV411)⟩
def Q9a (Z : State) (fs ca fa ta ka qa E : Addr) (n N : Nat) (fC fF fG fQ : Nat → Int32) (fn fc u3 u4 hd qd : Int32) (u5 : Int32) (h0 : Heap) (n0 : Nat) (v : Option Value) (h : Heap) (L : List Loc) : Prop := v = none ∧ Fr n0 L ∧ Keep h0 h [fs, ca, fa, ta, ka, qa] ∧ Exa Z h fs "com/example/witness/witness/logic/StepSearch" ∧ ∃ (c1 f1 t1 k1 : Addr) (n1 : Nat), own_ord fs c1 f1 t1 k1 qa E ∧ n ≤ n1 ∧ N < n1 ∧ n1 ≤ 54 ∧ Fld Z h fs "com/example/witness/witness/logic/StepSearch" "costs" "[I" (.ref c1) ∧ Fld Z h fs "com/example/witness/witness/logic/StepSearch" "froms" "[I" (.ref f1) ∧ Fld Z h fs "com/example/witness/witness/logic/StepSearch" "transitions" "[I" (.ref t1) ∧ Fld Z h fs "com/example/witness/witness/logic/StepSearch" "taken" "[Z" (.ref k1) ∧ Fld Z h fs "com/example/witness/witness/logic/StepSearch" "queue" "[I" (.ref qa) ∧ Fld Z h fs "com/example/witness/witness/logic/StepSearch" "reached" "Lcom/example/witness/witness/logic/IntStack;" .null ∧ Fld Z h fs "com/example/witness/witness/logic/StepSearch" "head" "I" (.int hd) ∧ Fld Z h fs "com/example/witness/witness/logic/StepSearch" "queued" "I" (.int qd) ∧ Ar Z h c1 .int n1 (fun i => .int (fC i)) ∧ (∃ g : Nat → Int32, Ar Z h f1 .int n1 (fun i => .int (g i))) ∧ (∃ g : Nat → Int32, Ar Z h t1 .int n1 (fun i => .int (g i))) ∧ Ar Z h k1 .boolean n1 (fun i => .int (0)) ∧ Ar Z h qa .int 16 (fun i => .int (fQ i))
set_option maxRecDepth 65536 in
set_option maxHeartbeats 40000000 in
theorem rm9a (l : Launch) (Z : State) (a0 : Array Value) (hw : ∀ d ∈ tables_1, d.before a0 Z = true) (ws : List Jvm.Cond) (fs ca fa ta ka qa E : Addr) (n N : Nat) (fC fF fG fQ : Nat → Int32) (fn fc u3 u4 hd qd : Int32) (u5 : Int32) (h0 : Heap) (n0 : Nat) (Z0 : n0 ≤ h0.size) (Es : Exa Z h0 fs "com/example/witness/witness/logic/StepSearch") (Gs : n0 ≤ fs) (P_costs : Fld Z h0 fs "com/example/witness/witness/logic/StepSearch" "costs" "[I" (.ref ca)) (P_froms : Fld Z h0 fs "com/example/witness/witness/logic/StepSearch" "froms" "[I" (.ref fa)) (P_transitions : Fld Z h0 fs "com/example/witness/witness/logic/StepSearch" "transitions" "[I" (.ref ta)) (P_taken : Fld Z h0 fs "com/example/witness/witness/logic/StepSearch" "taken" "[Z" (.ref ka)) (P_queue : Fld Z h0 fs "com/example/witness/witness/logic/StepSearch" "queue" "[I" (.ref qa)) (P_reached : Fld Z h0 fs "com/example/witness/witness/logic/StepSearch" "reached" "Lcom/example/witness/witness/logic/IntStack;" .null) (P_head : Fld Z h0 fs "com/example/witness/witness/logic/StepSearch" "head" "I" (.int hd)) (P_queued : Fld Z h0 fs "com/example/witness/witness/logic/StepSearch" "queued" "I" (.int qd)) (Vc : Ar Z h0 ca .int n (fun i => .int (fC i))) (Vf : Ar Z h0 fa .int n (fun i => .int (fF i))) (Vt : Ar Z h0 ta .int n (fun i => .int (fG i))) (Vk : Ar Z h0 ka .boolean n (fun i => .int (0))) (Vq : Ar Z h0 qa .int 16 (fun i => .int (fQ i))) (O : own_ord fs ca fa ta ka qa E) (hE : E < h0.size) (hN : fn.toInt = N) (hN27 : N ≤ 27) (hn54 : n ≤ 54) (hC : ∀ i, n ≤ i → fC i = (2147483647 : Int32)) (hc : ¬ fc < fC N) :
    MetFree l (⟨"com/example/witness/witness/logic/StepSearch", "reach", "(IIIIZ)V"⟩ : MethodName) (head1 (Jvm.Cond.code (⟨"com/example/witness/witness/logic/StepSearch", "reach", "(IIIIZ)V"⟩ : MethodName) prog_124_method_4_code 6 none :: ws) ({ frames := 3, cells := 4, slots := 216, locals := 70 } : Room)) (fun a U => a = #[(.ref fs), (.int fn), (.int fc), (.int u3), (.int u4), (.int u5)] ∧ Z.Warmed39 U.vm ∧ U.heap = h0) (fun _ _ _ _ _ => True) (fun _ U o U' => ∃ v L, o = .returned v ∧ Q9a Z fs ca fa ta ka qa E n N fC fF fG fQ fn fc u3 u4 hd qd u5 h0 n0 v U'.heap L ∧ FrameEnd U o U' L ({ frames := 3, cells := 4, slots := 216, locals := 70 } : Room).cells ({ frames := 3, cells := 4, slots := 216, locals := 70 } : Room).slots) := by
  refine MetFree.of_bodySF (plainFor_of_name pn_com_example_witness_witness_logic_StepSearch) hisR ?_
  intro p e s m args0 below meth c s₁ Bd hml0 hP hK
  obtain ⟨rfl, hZ, hh⟩ := hP
  have hx := Bd.exec
  have hby := Bd.bytes
  have hml : c.maxLocals = 6 := hml0
  have hown : s.vm.findClass "com/example/witness/witness/logic/StepSearch" = some m.cls := findClass_of_methodNamed Bd.named
  have hnm := (name_of_methodNamed Bd.named Bd.method).1
  have X0 : Stand p l e ({ frames := 3, cells := 4, slots := 216, locals := 70 } : Room) s m #[(.ref fs), (.int fn), (.int fc), (.int u3), (.int u4), (.int u5)] below meth c s₁ [] 0 0 := Stand.of_body Bd
  have e0 : s₁.heap = h0 := by rw [← hh, Bd.state]; rfl
  have N0 := Fr.nil n0
  have pre0 : ∀ t, Steps p.tables e below (s₁.setTop (mkF m 0 #[.val (.ref fs), .val (.int fn), .val (.int fc), .val (.int u3), .val (.int u4), .val (.int u5)] [])) t → Steps p.tables e below (s₁.setTop (entryFrame m #[(.ref fs), (.int fn), (.int fc), (.int u3), (.int u4), (.int u5)] 6)) t := fun t kk_ => castTop (ef_9a m fs fn fc u3 u4 u5) kk_
  have hNn : fn.toInt.toNat = N := by rw [hN]; rfl
  have hN0 : 0 ≤ fn.toInt := by rw [hN]; exact Int.natCast_nonneg N
  have s412 : ∀ t, Steps p.tables e below (s₁.setTop (mkF m 2 #[.val (.ref fs), .val (.int fn), .val (.int fc), .val (.int u3), .val (.int u4), .val (.int u5)] [(.ref fs), (.int fn)])) t → Steps p.tables e below (s₁.setTop (mkF m 0 #[.val (.ref fs), .val (.int fn), .val (.int fc), .val (.int u3), .val (.int u4), .val (.int u5)] [])) t := by
    intro t kt
    refine XS.iloadN X0.here hx rfl (hb hby d9a_0) rfl ?_
    show Steps p.tables e below (s₁.setTop (mkF m 1 #[.val (.ref fs), .val (.int fn), .val (.int fc), .val (.int u3), .val (.int u4), .val (.int u5)] [(.int fn)])) t
    refine XS.aloadN X0.here hx rfl (hb hby d9a_1) rfl rfl ?_
    exact kt
  obtain ⟨T413, X413, e413, st413⟩ := getF X0 hx hZ hown (host := "") (Or.inl (hw _ (List.mem_of_getElem? (i := 13) rfl))) Via.refl e0 P_costs (g := (mkF m 2 #[.val (.ref fs), .val (.int fn), .val (.int fc), .val (.int u3), .val (.int u4), .val (.int u5)] [(.ref fs), (.int fn)])) rfl rfl (hb hby d9a_2)
  have s414 : ∀ t, Steps p.tables e below (T413.setTop (mkF m 6 #[.val (.ref fs), .val (.int fn), .val (.int fc), .val (.int u3), .val (.int u4), .val (.int u5)] [(.int (Int32.ofNat n)), (.int fn)])) t → Steps p.tables e below (T413.setTop (mkF m 5 #[.val (.ref fs), .val (.int fn), .val (.int fc), .val (.int u3), .val (.int u4), .val (.int u5)] [(.ref ca), (.int fn)])) t := by
    intro t kt
    refine OwnKit.alen X413 hx hZ e413 Vc (z := (Int32.ofNat n)) (own_of hn54) (g := (mkF m 5 #[.val (.ref fs), .val (.int fn), .val (.int fc), .val (.int u3), .val (.int u4), .val (.int u5)] [(.ref ca), (.int fn)])) rfl rfl (hb hby d9a_5) _ ?_
    exact kt
  by_cases c415 : fn < (Int32.ofNat n)
  ·
    have s416 : ∀ t, Steps p.tables e below (T413.setTop (mkF m 14 #[.val (.ref fs), .val (.int fn), .val (.int fc), .val (.int u3), .val (.int u4), .val (.int u5)] [])) t → Steps p.tables e below (T413.setTop (mkF m 6 #[.val (.ref fs), .val (.int fn), .val (.int fc), .val (.int u3), .val (.int u4), .val (.int u5)] [(.int (Int32.ofNat n)), (.int fn)])) t := by
      intro t kt
      refine XS.icmpYes X413.here hx rfl (pc0 := 6) (pc' := 14) rfl (hb hby d9a_6) rfl (tlt c415).1 (by decide) (by decide) ?_
      exact kt
    have hNlt : N < n := (own_ltn n N fn hN hn54).mp c415
    have hle : n ≤ n := Nat.le_refl n
    have hn1 := hn54
    obtain ⟨x0, x1, x2, x3, x4, x5, x6, x7, x8, x9, x10, x11, x12, x13, x14⟩ := own_apart O
    obtain ⟨ge0, ge1, ge2, ge3, ge4⟩ := own_ge O Gs
    have hin : fn.toInt < (n : Int) := by rw [hN]; exact Int.ofNat_lt.mpr hNlt
    have s417 : ∀ t, Steps p.tables e below (T413.setTop (mkF m 16 #[.val (.ref fs), .val (.int fn), .val (.int fc), .val (.int u3), .val (.int u4), .val (.int u5)] [(.ref fs), (.int fc)])) t → Steps p.tables e below (T413.setTop (mkF m 14 #[.val (.ref fs), .val (.int fn), .val (.int fc), .val (.int u3), .val (.int u4), .val (.int u5)] [])) t := by
      intro t kt
      refine XS.iloadN X413.here hx rfl (hb hby d9a_14) rfl ?_
      show Steps p.tables e below (T413.setTop (mkF m 15 #[.val (.ref fs), .val (.int fn), .val (.int fc), .val (.int u3), .val (.int u4), .val (.int u5)] [(.int fc)])) t
      refine XS.aloadN X413.here hx rfl (hb hby d9a_15) rfl rfl ?_
      exact kt
    obtain ⟨T418, X418, e418, st418⟩ := getF X413 hx hZ hown (host := "") (Or.inl (hw _ (List.mem_of_getElem? (i := 13) rfl))) Via.refl e413 P_costs (g := (mkF m 16 #[.val (.ref fs), .val (.int fn), .val (.int fc), .val (.int u3), .val (.int u4), .val (.int u5)] [(.ref fs), (.int fc)])) rfl rfl (hb hby d9a_16)
    have s419 : ∀ t, Steps p.tables e below (T418.setTop (mkF m 157 #[.val (.ref fs), .val (.int fn), .val (.int fc), .val (.int u3), .val (.int u4), .val (.int u5)] [])) t → Steps p.tables e below (T418.setTop (mkF m 19 #[.val (.ref fs), .val (.int fn), .val (.int fc), .val (.int u3), .val (.int u4), .val (.int u5)] [(.ref ca), (.int fc)])) t := by
      intro t kt
      refine XS.iloadN X418.here hx rfl (hb hby d9a_19) rfl ?_
      show Steps p.tables e below (T418.setTop (mkF m 20 #[.val (.ref fs), .val (.int fn), .val (.int fc), .val (.int u3), .val (.int u4), .val (.int u5)] [(.int fn), (.ref ca), (.int fc)])) t
      refine OwnKit.ldAI X418 hx hZ e418 Vc (j := fn) hN0 hin (w := (.int (fC N))) (by show Value.int (fC fn.toInt.toNat) = _; rw [hNn]) (g := (mkF m 20 #[.val (.ref fs), .val (.int fn), .val (.int fc), .val (.int u3), .val (.int u4), .val (.int u5)] [(.int fn), (.ref ca), (.int fc)])) rfl rfl (hb hby d9a_20) _ ?_
      show Steps p.tables e below (T418.setTop (mkF m 21 #[.val (.ref fs), .val (.int fn), .val (.int fc), .val (.int u3), .val (.int u4), .val (.int u5)] [(.int (fC N)), (.int fc)])) t
      refine XS.icmpYes X418.here hx rfl (pc0 := 21) (pc' := 157) rfl (hb hby d9a_21) rfl (flt hc).2.1 (by decide) (by decide) ?_
      exact kt
    obtain ⟨fs_, hr, hrun, hended, hW, hsame⟩ := X418.leave (hlocks := BodyLoose.notSynchronized Bd) (v := none) (fun _ => rfl)
    refine ⟨_, _, pre0 _ (s412 _ (st413 _ (s414 _ (s416 _ (s417 _ (st418 _ (s419 _ (?_)))))))), hrun, hended, _, _, rfl, ?_, ⟨_, rfl⟩, hW, hsame.mono (by decide) (by decide)⟩
    · show Steps p.tables e below (T418.setTop (mkF m 157 #[.val (.ref fs), .val (.int fn), .val (.int fc), .val (.int u3), .val (.int u4), .val (.int u5)] [])) _
      exact X418.returnOut hx Bd.returns (hb hby d9a_157) hr
    · show Q9a Z fs ca fa ta ka qa E n N fC fF fG fQ fn fc u3 u4 hd qd u5 h0 n0 _ T418.heap _
      rw [e418]
      exact ⟨rfl, N0, (Keep.refl h0 [fs, ca, fa, ta, ka, qa]), Es, ca, fa, ta, ka, n, O, hle, hNlt, hn1, P_costs, P_froms, P_transitions, P_taken, P_queue, P_reached, P_head, P_queued, Vc, ⟨_, Vf⟩, ⟨_, Vt⟩, Vk, Vq⟩
  ·
    have s420 : ∀ t, Steps p.tables e below (T413.setTop (mkF m 9 #[.val (.ref fs), .val (.int fn), .val (.int fc), .val (.int u3), .val (.int u4), .val (.int u5)] [])) t → Steps p.tables e below (T413.setTop (mkF m 6 #[.val (.ref fs), .val (.int fn), .val (.int fc), .val (.int u3), .val (.int u4), .val (.int u5)] [(.int (Int32.ofNat n)), (.int fn)])) t := by
      intro t kt
      refine XS.icmpNo X413.here hx rfl (hb hby d9a_6) rfl (flt c415).1 ?_
      exact kt
    have hnN : n ≤ N := Nat.le_of_not_lt (mt (own_ltn n N fn hN hn54).mpr c415)
    obtain ⟨xq0, xq1, xq2, xq3, xq4, -⟩ := own_apart O
    have s421 : ∀ t, Steps p.tables e below (T413.setTop (mkF m 11 #[.val (.ref fs), .val (.int fn), .val (.int fc), .val (.int u3), .val (.int u4), .val (.int u5)] [(.int fn), (.ref fs)])) t → Steps p.tables e below (T413.setTop (mkF m 9 #[.val (.ref fs), .val (.int fn), .val (.int fc), .val (.int u3), .val (.int u4), .val (.int u5)] [])) t := by
      intro t kt
      refine XS.aloadN X413.here hx rfl (hb hby d9a_9) rfl rfl ?_
      show Steps p.tables e below (T413.setTop (mkF m 10 #[.val (.ref fs), .val (.int fn), .val (.int fc), .val (.int u3), .val (.int u4), .val (.int u5)] [(.ref fs)])) t
      refine XS.iloadN X413.here hx rfl (hb hby d9a_10) rfl ?_
      exact kt
    obtain ⟨cq422, qa422, qb422⟩ := Es.cell
    obtain ⟨_, _, ⟨T422, L422, k422, n422⟩, -, X422, ⟨Lc422, hQ422, l422, y422, z422⟩, st422⟩ := X413.privateBack hx (y := (⟨"com/example/witness/witness/logic/StepSearch", "grow", "(I)V"⟩ : MethodName)) hown (mvT hZ (hw _ (List.mem_of_getElem? (i := 36) rfl))) (mvT hZ (hw _ (List.mem_of_getElem? (i := 37) rfl))) (Jvm.Kit.selects_private (by decide) (mvT hZ (hw _ (List.mem_of_getElem? (i := 1) rfl))) (mvP hZ (hw _ (List.mem_of_getElem? (i := 38) rfl))) (mvT hZ (hw _ (List.mem_of_getElem? (i := 37) rfl)))) (Cond.privateMethod_at (mvP hZ (hw _ (List.mem_of_getElem? (i := 38) rfl)) (args := #[]))) (mvT hZ (hw _ (List.mem_of_getElem? (i := 39) rfl))) (by decide) (backOf (W := 0) (rm8 l Z a0 hw [] fs ca fa ta ka qa n N fC fF fG fn hd qd h0 n0 Z0 Es Gs P_costs P_froms P_transitions P_taken P_queue P_reached P_head P_queued Vc Vf Vt Vk hN hnN hN27) hZ (hw _ (List.mem_of_getElem? (i := 39) rfl)) (hw _ (List.mem_of_getElem? (i := 2) rfl)) (by decide) (by decide)) (g := (mkF m 11 #[.val (.ref fs), .val (.int fn), .val (.int fc), .val (.int u3), .val (.int u4), .val (.int u5)] [(.int fn), (.ref fs)])) rfl (by rw [hml]; rfl) (Steps.refl _) (a := fs) (by rw [e413]; exact qa422) qb422 (argsL := [(.int fn)]) (rest := []) (lenOf pd_oIcV rfl) rfl (by show 2 * 0 + _ ≤ _; exact Nat.le_of_eq rfl) (hb hby d9a_11) (fun _ _ => ⟨rfl, e413, (by decide : 0 + 4 ≤ _), (by decide : 0 + 216 ≤ _)⟩)
    dsimp only [Pt.U, Pt.locs, Pt.cells, Pt.slots] at X422 l422 y422 z422 st422 hQ422
    rw [l422, y422, z422] at X422
    obtain ⟨hv422, N422q, Kc422, E422_, c1422, f1422, t1422, k1422, o422_0, o422_1, o422_2, o422_3, F422_costs, F422_froms, F422_transitions, F422_taken, F422_queue, F422_reached, F422_head, F422_queued, Vc422, ⟨gF, Vf422⟩, ⟨gG, Vt422⟩, Vk422⟩ := hQ422
    rw [hv422] at st422
    have N422 := Fr.app N0 N422q
    obtain ⟨nG, hnG⟩ : ∃ z, z = max (2 * n) (N + 1) := ⟨_, rfl⟩
    rw [← hnG] at Vc422 Vf422 Vt422 Vk422
    have Vd422 : Ar Z T422.heap c1422 .int nG (fun i => .int (fC i)) := Vc422.as (fun i _ => congrArg Value.int (by by_cases q : i < n; exact if_pos q; exact (if_neg q).trans (hC i (Nat.le_of_not_lt q)).symm))
    have Vq422 := Vq.keep Kc422 (ninS (Ne.symm xq4) nin0)
    have K422 : Keep h0 T422.heap [fs, ca, fa, ta, ka, qa] := (Keep.refl h0 [fs, ca, fa, ta, ka, qa]).trans Kc422 (allS (Or.inl (List.mem_of_getElem? (i := 0) rfl)) all0)
    have Zs422 : n0 ≤ T422.heap.size := Nat.le_trans Z0 Kc422.1
    have hNlt : N < nG := by rw [hnG]; omega
    have hle : n ≤ nG := by rw [hnG]; omega
    have hn1 : nG ≤ 54 := by rw [hnG]; omega
    have O1 := own_ord' O Es.lt hE o422_0 o422_1 o422_2 o422_3
    obtain ⟨sz1, sz2, sz3⟩ := own_sz o422_0 o422_1 o422_2 o422_3
    obtain ⟨x0, x1, x2, x3, x4, x5, x6, x7, x8, x9, x10, x11, x12, x13, x14⟩ := own_apart O1
    obtain ⟨ge0, ge1, ge2, ge3, ge4⟩ := own_ge O1 Gs
    have hin : fn.toInt < (nG : Int) := by rw [hN]; exact Int.ofNat_lt.mpr hNlt
    have s423 : ∀ t, Steps p.tables e below (T422.setTop (mkF m 16 #[.val (.ref fs), .val (.int fn), .val (.int fc), .val (.int u3), .val (.int u4), .val (.int u5)] [(.ref fs), (.int fc)])) t → Steps p.tables e below (T422.setTop (mkF m 14 #[.val (.ref fs), .val (.int fn), .val (.int fc), .val (.int u3), .val (.int u4), .val (.int u5)] [])) t := by
      intro t kt
      refine XS.iloadN X422.here hx rfl (hb hby d9a_14) rfl ?_
      show Steps p.tables e below (T422.setTop (mkF m 15 #[.val (.ref fs), .val (.int fn), .val (.int fc), .val (.int u3), .val (.int u4), .val (.int u5)] [(.int fc)])) t
      refine XS.aloadN X422.here hx rfl (hb hby d9a_15) rfl rfl ?_
      exact kt
    obtain ⟨T424, X424, e424, st424⟩ := getF X422 hx hZ hown (host := "") (Or.inl (hw _ (List.mem_of_getElem? (i := 13) rfl))) Via.refl rfl F422_costs (g := (mkF m 16 #[.val (.ref fs), .val (.int fn), .val (.int fc), .val (.int u3), .val (.int u4), .val (.int u5)] [(.ref fs), (.int fc)])) rfl rfl (hb hby d9a_16)
    have s425 : ∀ t, Steps p.tables e below (T424.setTop (mkF m 157 #[.val (.ref fs), .val (.int fn), .val (.int fc), .val (.int u3), .val (.int u4), .val (.int u5)] [])) t → Steps p.tables e below (T424.setTop (mkF m 19 #[.val (.ref fs), .val (.int fn), .val (.int fc), .val (.int u3), .val (.int u4), .val (.int u5)] [(.ref c1422), (.int fc)])) t := by
      intro t kt
      refine XS.iloadN X424.here hx rfl (hb hby d9a_19) rfl ?_
      show Steps p.tables e below (T424.setTop (mkF m 20 #[.val (.ref fs), .val (.int fn), .val (.int fc), .val (.int u3), .val (.int u4), .val (.int u5)] [(.int fn), (.ref c1422), (.int fc)])) t
      refine OwnKit.ldAI X424 hx hZ e424 Vd422 (j := fn) hN0 hin (w := (.int (fC N))) (by show Value.int (fC fn.toInt.toNat) = _; rw [hNn]) (g := (mkF m 20 #[.val (.ref fs), .val (.int fn), .val (.int fc), .val (.int u3), .val (.int u4), .val (.int u5)] [(.int fn), (.ref c1422), (.int fc)])) rfl rfl (hb hby d9a_20) _ ?_
      show Steps p.tables e below (T424.setTop (mkF m 21 #[.val (.ref fs), .val (.int fn), .val (.int fc), .val (.int u3), .val (.int u4), .val (.int u5)] [(.int (fC N)), (.int fc)])) t
      refine XS.icmpYes X424.here hx rfl (pc0 := 21) (pc' := 157) rfl (hb hby d9a_21) rfl (flt hc).2.1 (by decide) (by decide) ?_
      exact kt
    obtain ⟨fs_, hr, hrun, hended, hW, hsame⟩ := X424.leave (hlocks := BodyLoose.notSynchronized Bd) (v := none) (fun _ => rfl)
    refine ⟨_, _, pre0 _ (s412 _ (st413 _ (s414 _ (s420 _ (s421 _ (st422.trans (s423 _ (st424 _ (s425 _ (?_)))))))))), hrun, hended, _, _, rfl, ?_, ⟨_, rfl⟩, hW, hsame.mono (by decide) (by decide)⟩
    · show Steps p.tables e below (T424.setTop (mkF m 157 #[.val (.ref fs), .val (.int fn), .val (.int fc), .val (.int u3), .val (.int u4), .val (.int u5)] [])) _
      exact X424.returnOut hx Bd.returns (hb hby d9a_157) hr
    · show Q9a Z fs ca fa ta ka qa E n N fC fF fG fQ fn fc u3 u4 hd qd u5 h0 n0 _ T424.heap _
      rw [e424]
      exact ⟨rfl, N422, K422, E422_, c1422, f1422, t1422, k1422, nG, O1, hle, hNlt, hn1, F422_costs, F422_froms, F422_transitions, F422_taken, F422_queue, F422_reached, F422_head, F422_queued, Vd422, ⟨_, Vf422⟩, ⟨_, Vt422⟩, Vk422, Vq422⟩
def Q9b (Z : State) (fs ca fa ta ka qa E : Addr) (n N : Nat) (fC fF fG fQ : Nat → Int32) (fn fc u3 u4 hd qd : Int32) (h0 : Heap) (n0 : Nat) (v : Option Value) (h : Heap) (L : List Loc) : Prop := v = none ∧ Fr n0 L ∧ Keep h0 h [fs, ca, fa, ta, ka, qa] ∧ Exa Z h fs "com/example/witness/witness/logic/StepSearch" ∧ ∃ (c1 f1 t1 k1 : Addr) (n1 : Nat), own_ord fs c1 f1 t1 k1 qa E ∧ n ≤ n1 ∧ N < n1 ∧ n1 ≤ 54 ∧ Fld Z h fs "com/example/witness/witness/logic/StepSearch" "costs" "[I" (.ref c1) ∧ Fld Z h fs "com/example/witness/witness/logic/StepSearch" "froms" "[I" (.ref f1) ∧ Fld Z h fs "com/example/witness/witness/logic/StepSearch" "transitions" "[I" (.ref t1) ∧ Fld Z h fs "com/example/witness/witness/logic/StepSearch" "taken" "[Z" (.ref k1) ∧ Fld Z h fs "com/example/witness/witness/logic/StepSearch" "queue" "[I" (.ref qa) ∧ Fld Z h fs "com/example/witness/witness/logic/StepSearch" "reached" "Lcom/example/witness/witness/logic/IntStack;" .null ∧ Fld Z h fs "com/example/witness/witness/logic/StepSearch" "head" "I" (.int ((hd - (1 : Int32)) &&& ((16 : Int32) - (1 : Int32)))) ∧ Fld Z h fs "com/example/witness/witness/logic/StepSearch" "queued" "I" (.int (qd + (1 : Int32))) ∧ Ar Z h c1 .int n1 (fun i => .int (if i = N then fc else fC i)) ∧ (∃ g : Nat → Int32, Ar Z h f1 .int n1 (fun i => .int (g i))) ∧ (∃ g : Nat → Int32, Ar Z h t1 .int n1 (fun i => .int (g i))) ∧ Ar Z h k1 .boolean n1 (fun i => .int (0)) ∧ Ar Z h qa .int 16 (fun i => .int (if i = ((hd - (1 : Int32)) &&& ((16 : Int32) - (1 : Int32))).toInt.toNat then fn else fQ i))
set_option maxRecDepth 65536 in
set_option maxHeartbeats 40000000 in
theorem rm9b (l : Launch) (Z : State) (a0 : Array Value) (hw : ∀ d ∈ tables_1, d.before a0 Z = true) (ws : List Jvm.Cond) (fs ca fa ta ka qa E : Addr) (n N : Nat) (fC fF fG fQ : Nat → Int32) (fn fc u3 u4 hd qd : Int32) (h0 : Heap) (n0 : Nat) (Z0 : n0 ≤ h0.size) (Es : Exa Z h0 fs "com/example/witness/witness/logic/StepSearch") (Gs : n0 ≤ fs) (P_costs : Fld Z h0 fs "com/example/witness/witness/logic/StepSearch" "costs" "[I" (.ref ca)) (P_froms : Fld Z h0 fs "com/example/witness/witness/logic/StepSearch" "froms" "[I" (.ref fa)) (P_transitions : Fld Z h0 fs "com/example/witness/witness/logic/StepSearch" "transitions" "[I" (.ref ta)) (P_taken : Fld Z h0 fs "com/example/witness/witness/logic/StepSearch" "taken" "[Z" (.ref ka)) (P_queue : Fld Z h0 fs "com/example/witness/witness/logic/StepSearch" "queue" "[I" (.ref qa)) (P_reached : Fld Z h0 fs "com/example/witness/witness/logic/StepSearch" "reached" "Lcom/example/witness/witness/logic/IntStack;" .null) (P_head : Fld Z h0 fs "com/example/witness/witness/logic/StepSearch" "head" "I" (.int hd)) (P_queued : Fld Z h0 fs "com/example/witness/witness/logic/StepSearch" "queued" "I" (.int qd)) (Vc : Ar Z h0 ca .int n (fun i => .int (fC i))) (Vf : Ar Z h0 fa .int n (fun i => .int (fF i))) (Vt : Ar Z h0 ta .int n (fun i => .int (fG i))) (Vk : Ar Z h0 ka .boolean n (fun i => .int (0))) (Vq : Ar Z h0 qa .int 16 (fun i => .int (fQ i))) (O : own_ord fs ca fa ta ka qa E) (hE : E < h0.size) (hN : fn.toInt = N) (hN27 : N ≤ 27) (hn54 : n ≤ 54) (hC : ∀ i, n ≤ i → fC i = (2147483647 : Int32)) (hc : fc < fC N) (hx0 : 0 ≤ ((hd - (1 : Int32)) &&& ((16 : Int32) - (1 : Int32))).toInt) (hx1 : ((hd - (1 : Int32)) &&& ((16 : Int32) - (1 : Int32))).toInt < 16) (hq16 : ¬ (qd = (16 : Int32))) :
    MetFree l (⟨"com/example/witness/witness/logic/StepSearch", "reach", "(IIIIZ)V"⟩ : MethodName) (head1 (Jvm.Cond.code (⟨"com/example/witness/witness/logic/StepSearch", "reach", "(IIIIZ)V"⟩ : MethodName) prog_124_method_4_code 6 none :: ws) ({ frames := 3, cells := 4, slots := 216, locals := 70 } : Room)) (fun a U => a = #[(.ref fs), (.int fn), (.int fc), (.int u3), (.int u4), (.int (1 : Int32))] ∧ Z.Warmed39 U.vm ∧ U.heap = h0) (fun _ _ _ _ _ => True) (fun _ U o U' => ∃ v L, o = .returned v ∧ Q9b Z fs ca fa ta ka qa E n N fC fF fG fQ fn fc u3 u4 hd qd h0 n0 v U'.heap L ∧ FrameEnd U o U' L ({ frames := 3, cells := 4, slots := 216, locals := 70 } : Room).cells ({ frames := 3, cells := 4, slots := 216, locals := 70 } : Room).slots) := by
  refine MetFree.of_bodySF (plainFor_of_name pn_com_example_witness_witness_logic_StepSearch) hisR ?_
  intro p e s m args0 below meth c s₁ Bd hml0 hP hK
  obtain ⟨rfl, hZ, hh⟩ := hP
  have hx := Bd.exec
  have hby := Bd.bytes
  have hml : c.maxLocals = 6 := hml0
  have hown : s.vm.findClass "com/example/witness/witness/logic/StepSearch" = some m.cls := findClass_of_methodNamed Bd.named
  have hnm := (name_of_methodNamed Bd.named Bd.method).1
  have X0 : Stand p l e ({ frames := 3, cells := 4, slots := 216, locals := 70 } : Room) s m #[(.ref fs), (.int fn), (.int fc), (.int u3), (.int u4), (.int (1 : Int32))] below meth c s₁ [] 0 0 := Stand.of_body Bd
  have e0 : s₁.heap = h0 := by rw [← hh, Bd.state]; rfl
  have N0 := Fr.nil n0
  have pre0 : ∀ t, Steps p.tables e below (s₁.setTop (mkF m 0 #[.val (.ref fs), .val (.int fn), .val (.int fc), .val (.int u3), .val (.int u4), .val (.int (1 : Int32))] [])) t → Steps p.tables e below (s₁.setTop (entryFrame m #[(.ref fs), (.int fn), (.int fc), (.int u3), (.int u4), (.int (1 : Int32))] 6)) t := fun t kk_ => castTop (ef_9b m fs fn fc u3 u4 (1 : Int32)) kk_
  have hNn : fn.toInt.toNat = N := by rw [hN]; rfl
  have hN0 : 0 ≤ fn.toInt := by rw [hN]; exact Int.natCast_nonneg N
  have s426 : ∀ t, Steps p.tables e below (s₁.setTop (mkF m 2 #[.val (.ref fs), .val (.int fn), .val (.int fc), .val (.int u3), .val (.int u4), .val (.int (1 : Int32))] [(.ref fs), (.int fn)])) t → Steps p.tables e below (s₁.setTop (mkF m 0 #[.val (.ref fs), .val (.int fn), .val (.int fc), .val (.int u3), .val (.int u4), .val (.int (1 : Int32))] [])) t := by
    intro t kt
    refine XS.iloadN X0.here hx rfl (hb hby d9b_0) rfl ?_
    show Steps p.tables e below (s₁.setTop (mkF m 1 #[.val (.ref fs), .val (.int fn), .val (.int fc), .val (.int u3), .val (.int u4), .val (.int (1 : Int32))] [(.int fn)])) t
    refine XS.aloadN X0.here hx rfl (hb hby d9b_1) rfl rfl ?_
    exact kt
  obtain ⟨T427, X427, e427, st427⟩ := getF X0 hx hZ hown (host := "") (Or.inl (hw _ (List.mem_of_getElem? (i := 13) rfl))) Via.refl e0 P_costs (g := (mkF m 2 #[.val (.ref fs), .val (.int fn), .val (.int fc), .val (.int u3), .val (.int u4), .val (.int (1 : Int32))] [(.ref fs), (.int fn)])) rfl rfl (hb hby d9b_2)
  have s428 : ∀ t, Steps p.tables e below (T427.setTop (mkF m 6 #[.val (.ref fs), .val (.int fn), .val (.int fc), .val (.int u3), .val (.int u4), .val (.int (1 : Int32))] [(.int (Int32.ofNat n)), (.int fn)])) t → Steps p.tables e below (T427.setTop (mkF m 5 #[.val (.ref fs), .val (.int fn), .val (.int fc), .val (.int u3), .val (.int u4), .val (.int (1 : Int32))] [(.ref ca), (.int fn)])) t := by
    intro t kt
    refine OwnKit.alen X427 hx hZ e427 Vc (z := (Int32.ofNat n)) (own_of hn54) (g := (mkF m 5 #[.val (.ref fs), .val (.int fn), .val (.int fc), .val (.int u3), .val (.int u4), .val (.int (1 : Int32))] [(.ref ca), (.int fn)])) rfl rfl (hb hby d9b_5) _ ?_
    exact kt
  by_cases c429 : fn < (Int32.ofNat n)
  ·
    have s430 : ∀ t, Steps p.tables e below (T427.setTop (mkF m 14 #[.val (.ref fs), .val (.int fn), .val (.int fc), .val (.int u3), .val (.int u4), .val (.int (1 : Int32))] [])) t → Steps p.tables e below (T427.setTop (mkF m 6 #[.val (.ref fs), .val (.int fn), .val (.int fc), .val (.int u3), .val (.int u4), .val (.int (1 : Int32))] [(.int (Int32.ofNat n)), (.int fn)])) t := by
      intro t kt
      refine XS.icmpYes X427.here hx rfl (pc0 := 6) (pc' := 14) rfl (hb hby d9b_6) rfl (tlt c429).1 (by decide) (by decide) ?_
      exact kt
    have hNlt : N < n := (own_ltn n N fn hN hn54).mp c429
    have hle : n ≤ n := Nat.le_refl n
    have hn1 := hn54
    obtain ⟨x0, x1, x2, x3, x4, x5, x6, x7, x8, x9, x10, x11, x12, x13, x14⟩ := own_apart O
    obtain ⟨ge0, ge1, ge2, ge3, ge4⟩ := own_ge O Gs
    have hin : fn.toInt < (n : Int) := by rw [hN]; exact Int.ofNat_lt.mpr hNlt
    have s431 : ∀ t, Steps p.tables e below (T427.setTop (mkF m 16 #[.val (.ref fs), .val (.int fn), .val (.int fc), .val (.int u3), .val (.int u4), .val (.int (1 : Int32))] [(.ref fs), (.int fc)])) t → Steps p.tables e below (T427.setTop (mkF m 14 #[.val (.ref fs), .val (.int fn), .val (.int fc), .val (.int u3), .val (.int u4), .val (.int (1 : Int32))] [])) t := by
      intro t kt
      refine XS.iloadN X427.here hx rfl (hb hby d9b_14) rfl ?_
      show Steps p.tables e below (T427.setTop (mkF m 15 #[.val (.ref fs), .val (.int fn), .val (.int fc), .val (.int u3), .val (.int u4), .val (.int (1 : Int32))] [(.int fc)])) t
      refine XS.aloadN X427.here hx rfl (hb hby d9b_15) rfl rfl ?_
      exact kt
    obtain ⟨T432, X432, e432, st432⟩ := getF X427 hx hZ hown (host := "") (Or.inl (hw _ (List.mem_of_getElem? (i := 13) rfl))) Via.refl e427 P_costs (g := (mkF m 16 #[.val (.ref fs), .val (.int fn), .val (.int fc), .val (.int u3), .val (.int u4), .val (.int (1 : Int32))] [(.ref fs), (.int fc)])) rfl rfl (hb hby d9b_16)
    have s433 : ∀ t, Steps p.tables e below (T432.setTop (mkF m 25 #[.val (.ref fs), .val (.int fn), .val (.int fc), .val (.int u3), .val (.int u4), .val (.int (1 : Int32))] [(.ref fs)])) t → Steps p.tables e below (T432.setTop (mkF m 19 #[.val (.ref fs), .val (.int fn), .val (.int fc), .val (.int u3), .val (.int u4), .val (.int (1 : Int32))] [(.ref ca), (.int fc)])) t := by
      intro t kt
      refine XS.iloadN X432.here hx rfl (hb hby d9b_19) rfl ?_
      show Steps p.tables e below (T432.setTop (mkF m 20 #[.val (.ref fs), .val (.int fn), .val (.int fc), .val (.int u3), .val (.int u4), .val (.int (1 : Int32))] [(.int fn), (.ref ca), (.int fc)])) t
      refine OwnKit.ldAI X432 hx hZ e432 Vc (j := fn) hN0 hin (w := (.int (fC N))) (by show Value.int (fC fn.toInt.toNat) = _; rw [hNn]) (g := (mkF m 20 #[.val (.ref fs), .val (.int fn), .val (.int fc), .val (.int u3), .val (.int u4), .val (.int (1 : Int32))] [(.int fn), (.ref ca), (.int fc)])) rfl rfl (hb hby d9b_20) _ ?_
      show Steps p.tables e below (T432.setTop (mkF m 21 #[.val (.ref fs), .val (.int fn), .val (.int fc), .val (.int u3), .val (.int u4), .val (.int (1 : Int32))] [(.int (fC N)), (.int fc)])) t
      refine XS.icmpNo X432.here hx rfl (hb hby d9b_21) rfl (tlt hc).2.1 ?_
      show Steps p.tables e below (T432.setTop (mkF m 24 #[.val (.ref fs), .val (.int fn), .val (.int fc), .val (.int u3), .val (.int u4), .val (.int (1 : Int32))] [])) t
      refine XS.aloadN X432.here hx rfl (hb hby d9b_24) rfl rfl ?_
      exact kt
    obtain ⟨T434, X434, e434, st434⟩ := getF X432 hx hZ hown (host := "") (Or.inl (hw _ (List.mem_of_getElem? (i := 24) rfl))) Via.refl e432 P_reached (g := (mkF m 25 #[.val (.ref fs), .val (.int fn), .val (.int fc), .val (.int u3), .val (.int u4), .val (.int (1 : Int32))] [(.ref fs)])) rfl rfl (hb hby d9b_25)
    have s435 : ∀ t, Steps p.tables e below (T434.setTop (mkF m 51 #[.val (.ref fs), .val (.int fn), .val (.int fc), .val (.int u3), .val (.int u4), .val (.int (1 : Int32))] [(.ref fs)])) t → Steps p.tables e below (T434.setTop (mkF m 28 #[.val (.ref fs), .val (.int fn), .val (.int fc), .val (.int u3), .val (.int u4), .val (.int (1 : Int32))] [.null])) t := by
      intro t kt
      refine XS.ifnullYes X434.here hx rfl (pc0 := 28) (pc' := 50) rfl (hb hby d9b_28) rfl (by decide) (by decide) ?_
      show Steps p.tables e below (T434.setTop (mkF m 50 #[.val (.ref fs), .val (.int fn), .val (.int fc), .val (.int u3), .val (.int u4), .val (.int (1 : Int32))] [])) t
      refine XS.aloadN X434.here hx rfl (hb hby d9b_50) rfl rfl ?_
      exact kt
    obtain ⟨T436, X436, e436, st436⟩ := getF X434 hx hZ hown (host := "") (Or.inl (hw _ (List.mem_of_getElem? (i := 13) rfl))) Via.refl e434 P_costs (g := (mkF m 51 #[.val (.ref fs), .val (.int fn), .val (.int fc), .val (.int u3), .val (.int u4), .val (.int (1 : Int32))] [(.ref fs)])) rfl rfl (hb hby d9b_51)
    have s437 : ∀ t, Steps p.tables e below (T436.setTop (mkF m 56 #[.val (.ref fs), .val (.int fn), .val (.int fc), .val (.int u3), .val (.int u4), .val (.int (1 : Int32))] [(.int fc), (.int fn), (.ref ca)])) t → Steps p.tables e below (T436.setTop (mkF m 54 #[.val (.ref fs), .val (.int fn), .val (.int fc), .val (.int u3), .val (.int u4), .val (.int (1 : Int32))] [(.ref ca)])) t := by
      intro t kt
      refine XS.iloadN X436.here hx rfl (hb hby d9b_54) rfl ?_
      show Steps p.tables e below (T436.setTop (mkF m 55 #[.val (.ref fs), .val (.int fn), .val (.int fc), .val (.int u3), .val (.int u4), .val (.int (1 : Int32))] [(.int fn), (.ref ca)])) t
      refine XS.iloadN X436.here hx rfl (hb hby d9b_55) rfl ?_
      exact kt
    obtain ⟨T438, h438, X438, e438, W438, V438, st438⟩ := OwnKit.stAI X436 hx hZ e436 Vc (j := fn) hN0 hin (g := (mkF m 56 #[.val (.ref fs), .val (.int fn), .val (.int fc), .val (.int u3), .val (.int u4), .val (.int (1 : Int32))] [(.int fc), (.int fn), (.ref ca)])) rfl rfl (hb hby d9b_56)
    have Zs438 : n0 ≤ h438.size := Nat.le_trans Z0 (Keep.of_wr W438).1
    have fE439 := Es.wr W438
    have fF440 := P_costs.other W438 (Or.inl x0)
    have fF441 := P_froms.other W438 (Or.inl x0)
    have fF442 := P_transitions.other W438 (Or.inl x0)
    have fF443 := P_taken.other W438 (Or.inl x0)
    have fF444 := P_queue.other W438 (Or.inl x0)
    have fF445 := P_reached.other W438 (Or.inl x0)
    have fF446 := P_head.other W438 (Or.inl x0)
    have fF447 := P_queued.other W438 (Or.inl x0)
    have fV448 := V438
    have fV449 := Vf.other W438 (Ne.symm x5)
    have fV450 := Vt.other W438 (Ne.symm x6)
    have fV451 := Vk.other W438 (Ne.symm x7)
    have fV452 := Vq.other W438 (Ne.symm x8)
    have K438 : Keep h0 h438 [fs, ca, fa, ta, ka, qa] := (Keep.refl h0 [fs, ca, fa, ta, ka, qa]).wr W438 (Or.inl (List.mem_of_getElem? (i := 1) rfl))
    have N438 := Fr.snoc X438 N0 ge0
    have s453 : ∀ t, Steps p.tables e below (T438.setTop (mkF m 58 #[.val (.ref fs), .val (.int fn), .val (.int fc), .val (.int u3), .val (.int u4), .val (.int (1 : Int32))] [(.ref fs)])) t → Steps p.tables e below (T438.setTop (mkF m 57 #[.val (.ref fs), .val (.int fn), .val (.int fc), .val (.int u3), .val (.int u4), .val (.int (1 : Int32))] [])) t := by
      intro t kt
      refine XS.aloadN X438.here hx rfl (hb hby d9b_57) rfl rfl ?_
      exact kt
    obtain ⟨T454, X454, e454, st454⟩ := getF X438 hx hZ hown (host := "") (Or.inl (hw _ (List.mem_of_getElem? (i := 15) rfl))) Via.refl e438 fF441 (g := (mkF m 58 #[.val (.ref fs), .val (.int fn), .val (.int fc), .val (.int u3), .val (.int u4), .val (.int (1 : Int32))] [(.ref fs)])) rfl rfl (hb hby d9b_58)
    have s455 : ∀ t, Steps p.tables e below (T454.setTop (mkF m 63 #[.val (.ref fs), .val (.int fn), .val (.int fc), .val (.int u3), .val (.int u4), .val (.int (1 : Int32))] [(.int u3), (.int fn), (.ref fa)])) t → Steps p.tables e below (T454.setTop (mkF m 61 #[.val (.ref fs), .val (.int fn), .val (.int fc), .val (.int u3), .val (.int u4), .val (.int (1 : Int32))] [(.ref fa)])) t := by
      intro t kt
      refine XS.iloadN X454.here hx rfl (hb hby d9b_61) rfl ?_
      show Steps p.tables e below (T454.setTop (mkF m 62 #[.val (.ref fs), .val (.int fn), .val (.int fc), .val (.int u3), .val (.int u4), .val (.int (1 : Int32))] [(.int fn), (.ref fa)])) t
      refine XS.iloadN X454.here hx rfl (hb hby d9b_62) rfl ?_
      exact kt
    obtain ⟨T456, h456, X456, e456, W456, V456, st456⟩ := OwnKit.stAI X454 hx hZ e454 fV449 (j := fn) hN0 hin (g := (mkF m 63 #[.val (.ref fs), .val (.int fn), .val (.int fc), .val (.int u3), .val (.int u4), .val (.int (1 : Int32))] [(.int u3), (.int fn), (.ref fa)])) rfl rfl (hb hby d9b_63)
    have Zs456 : n0 ≤ h456.size := Nat.le_trans Zs438 (Keep.of_wr W456).1
    have fE457 := fE439.wr W456
    have fF458 := fF440.other W456 (Or.inl x1)
    have fF459 := fF441.other W456 (Or.inl x1)
    have fF460 := fF442.other W456 (Or.inl x1)
    have fF461 := fF443.other W456 (Or.inl x1)
    have fF462 := fF444.other W456 (Or.inl x1)
    have fF463 := fF445.other W456 (Or.inl x1)
    have fF464 := fF446.other W456 (Or.inl x1)
    have fF465 := fF447.other W456 (Or.inl x1)
    have fV466 := fV448.other W456 x5
    have fV467 := V456
    have fV468 := fV450.other W456 (Ne.symm x9)
    have fV469 := fV451.other W456 (Ne.symm x10)
    have fV470 := fV452.other W456 (Ne.symm x11)
    have K456 : Keep h0 h456 [fs, ca, fa, ta, ka, qa] := K438.wr W456 (Or.inl (List.mem_of_getElem? (i := 2) rfl))
    have N456 := Fr.snoc X456 N438 ge1
    have s471 : ∀ t, Steps p.tables e below (T456.setTop (mkF m 65 #[.val (.ref fs), .val (.int fn), .val (.int fc), .val (.int u3), .val (.int u4), .val (.int (1 : Int32))] [(.ref fs)])) t → Steps p.tables e below (T456.setTop (mkF m 64 #[.val (.ref fs), .val (.int fn), .val (.int fc), .val (.int u3), .val (.int u4), .val (.int (1 : Int32))] [])) t := by
      intro t kt
      refine XS.aloadN X456.here hx rfl (hb hby d9b_64) rfl rfl ?_
      exact kt
    obtain ⟨T472, X472, e472, st472⟩ := getF X456 hx hZ hown (host := "") (Or.inl (hw _ (List.mem_of_getElem? (i := 17) rfl))) Via.refl e456 fF460 (g := (mkF m 65 #[.val (.ref fs), .val (.int fn), .val (.int fc), .val (.int u3), .val (.int u4), .val (.int (1 : Int32))] [(.ref fs)])) rfl rfl (hb hby d9b_65)
    have s473 : ∀ t, Steps p.tables e below (T472.setTop (mkF m 71 #[.val (.ref fs), .val (.int fn), .val (.int fc), .val (.int u3), .val (.int u4), .val (.int (1 : Int32))] [(.int u4), (.int fn), (.ref ta)])) t → Steps p.tables e below (T472.setTop (mkF m 68 #[.val (.ref fs), .val (.int fn), .val (.int fc), .val (.int u3), .val (.int u4), .val (.int (1 : Int32))] [(.ref ta)])) t := by
      intro t kt
      refine XS.iloadN X472.here hx rfl (hb hby d9b_68) rfl ?_
      show Steps p.tables e below (T472.setTop (mkF m 69 #[.val (.ref fs), .val (.int fn), .val (.int fc), .val (.int u3), .val (.int u4), .val (.int (1 : Int32))] [(.int fn), (.ref ta)])) t
      refine XS.iload X472.here hx rfl (hb hby d9b_69) rfl ?_
      exact kt
    obtain ⟨T474, h474, X474, e474, W474, V474, st474⟩ := OwnKit.stAI X472 hx hZ e472 fV468 (j := fn) hN0 hin (g := (mkF m 71 #[.val (.ref fs), .val (.int fn), .val (.int fc), .val (.int u3), .val (.int u4), .val (.int (1 : Int32))] [(.int u4), (.int fn), (.ref ta)])) rfl rfl (hb hby d9b_71)
    have Zs474 : n0 ≤ h474.size := Nat.le_trans Zs456 (Keep.of_wr W474).1
    have fE475 := fE457.wr W474
    have fF476 := fF458.other W474 (Or.inl x2)
    have fF477 := fF459.other W474 (Or.inl x2)
    have fF478 := fF460.other W474 (Or.inl x2)
    have fF479 := fF461.other W474 (Or.inl x2)
    have fF480 := fF462.other W474 (Or.inl x2)
    have fF481 := fF463.other W474 (Or.inl x2)
    have fF482 := fF464.other W474 (Or.inl x2)
    have fF483 := fF465.other W474 (Or.inl x2)
    have fV484 := fV466.other W474 x6
    have fV485 := fV467.other W474 x9
    have fV486 := V474
    have fV487 := fV469.other W474 (Ne.symm x12)
    have fV488 := fV470.other W474 (Ne.symm x13)
    have K474 : Keep h0 h474 [fs, ca, fa, ta, ka, qa] := K456.wr W474 (Or.inl (List.mem_of_getElem? (i := 3) rfl))
    have N474 := Fr.snoc X474 N456 ge2
    have s489 : ∀ t, Steps p.tables e below (T474.setTop (mkF m 73 #[.val (.ref fs), .val (.int fn), .val (.int fc), .val (.int u3), .val (.int u4), .val (.int (1 : Int32))] [(.ref fs)])) t → Steps p.tables e below (T474.setTop (mkF m 72 #[.val (.ref fs), .val (.int fn), .val (.int fc), .val (.int u3), .val (.int u4), .val (.int (1 : Int32))] [])) t := by
      intro t kt
      refine XS.aloadN X474.here hx rfl (hb hby d9b_72) rfl rfl ?_
      exact kt
    obtain ⟨T490, X490, e490, st490⟩ := getF X474 hx hZ hown (host := "") (Or.inl (hw _ (List.mem_of_getElem? (i := 65) rfl))) Via.refl e474 fF483 (g := (mkF m 73 #[.val (.ref fs), .val (.int fn), .val (.int fc), .val (.int u3), .val (.int u4), .val (.int (1 : Int32))] [(.ref fs)])) rfl rfl (hb hby d9b_73)
    have s491 : ∀ t, Steps p.tables e below (T490.setTop (mkF m 77 #[.val (.ref fs), .val (.int fn), .val (.int fc), .val (.int u3), .val (.int u4), .val (.int (1 : Int32))] [(.ref fs), (.int qd)])) t → Steps p.tables e below (T490.setTop (mkF m 76 #[.val (.ref fs), .val (.int fn), .val (.int fc), .val (.int u3), .val (.int u4), .val (.int (1 : Int32))] [(.int qd)])) t := by
      intro t kt
      refine XS.aloadN X490.here hx rfl (hb hby d9b_76) rfl rfl ?_
      exact kt
    obtain ⟨T492, X492, e492, st492⟩ := getF X490 hx hZ hown (host := "") (Or.inl (hw _ (List.mem_of_getElem? (i := 22) rfl))) Via.refl e490 fF480 (g := (mkF m 77 #[.val (.ref fs), .val (.int fn), .val (.int fc), .val (.int u3), .val (.int u4), .val (.int (1 : Int32))] [(.ref fs), (.int qd)])) rfl rfl (hb hby d9b_77)
    have s493 : ∀ t, Steps p.tables e below (T492.setTop (mkF m 95 #[.val (.ref fs), .val (.int fn), .val (.int fc), .val (.int u3), .val (.int u4), .val (.int (1 : Int32))] [(.ref fs), (.ref fs)])) t → Steps p.tables e below (T492.setTop (mkF m 80 #[.val (.ref fs), .val (.int fn), .val (.int fc), .val (.int u3), .val (.int u4), .val (.int (1 : Int32))] [(.ref qa), (.int qd)])) t := by
      intro t kt
      refine OwnKit.alen X492 hx hZ e492 fV488 (z := (16 : Int32)) (by decide) (g := (mkF m 80 #[.val (.ref fs), .val (.int fn), .val (.int fc), .val (.int u3), .val (.int u4), .val (.int (1 : Int32))] [(.ref qa), (.int qd)])) rfl rfl (hb hby d9b_80) _ ?_
      show Steps p.tables e below (T492.setTop (mkF m 81 #[.val (.ref fs), .val (.int fn), .val (.int fc), .val (.int u3), .val (.int u4), .val (.int (1 : Int32))] [(.int (16 : Int32)), (.int qd)])) t
      refine XS.icmpYes X492.here hx rfl (pc0 := 81) (pc' := 88) rfl (hb hby d9b_81) rfl (feq hq16).2 (by decide) (by decide) ?_
      show Steps p.tables e below (T492.setTop (mkF m 88 #[.val (.ref fs), .val (.int fn), .val (.int fc), .val (.int u3), .val (.int u4), .val (.int (1 : Int32))] [])) t
      refine XS.iload X492.here hx rfl (hb hby d9b_88) rfl ?_
      show Steps p.tables e below (T492.setTop (mkF m 90 #[.val (.ref fs), .val (.int fn), .val (.int fc), .val (.int u3), .val (.int u4), .val (.int (1 : Int32))] [(.int (1 : Int32))])) t
      refine XS.ifNo X492.here hx rfl (hb hby d9b_90) rfl ((if0 _ _).trans (feq (by decide)).1) ?_
      show Steps p.tables e below (T492.setTop (mkF m 93 #[.val (.ref fs), .val (.int fn), .val (.int fc), .val (.int u3), .val (.int u4), .val (.int (1 : Int32))] [])) t
      refine XS.aloadN X492.here hx rfl (hb hby d9b_93) rfl rfl ?_
      show Steps p.tables e below (T492.setTop (mkF m 94 #[.val (.ref fs), .val (.int fn), .val (.int fc), .val (.int u3), .val (.int u4), .val (.int (1 : Int32))] [(.ref fs)])) t
      refine XS.aloadN X492.here hx rfl (hb hby d9b_94) rfl rfl ?_
      exact kt
    obtain ⟨T494, X494, e494, st494⟩ := getF X492 hx hZ hown (host := "") (Or.inl (hw _ (List.mem_of_getElem? (i := 67) rfl))) Via.refl e492 fF482 (g := (mkF m 95 #[.val (.ref fs), .val (.int fn), .val (.int fc), .val (.int u3), .val (.int u4), .val (.int (1 : Int32))] [(.ref fs), (.ref fs)])) rfl rfl (hb hby d9b_95)
    have s495 : ∀ t, Steps p.tables e below (T494.setTop (mkF m 101 #[.val (.ref fs), .val (.int fn), .val (.int fc), .val (.int u3), .val (.int u4), .val (.int (1 : Int32))] [(.ref fs), (.int (hd - (1 : Int32))), (.ref fs)])) t → Steps p.tables e below (T494.setTop (mkF m 98 #[.val (.ref fs), .val (.int fn), .val (.int fc), .val (.int u3), .val (.int u4), .val (.int (1 : Int32))] [(.int hd), (.ref fs)])) t := by
      intro t kt
      refine XS.iconst X494.here hx rfl (hb hby d9b_98) ?_
      show Steps p.tables e below (T494.setTop (mkF m 99 #[.val (.ref fs), .val (.int fn), .val (.int fc), .val (.int u3), .val (.int u4), .val (.int (1 : Int32))] [(.int (1 : Int32)), (.int hd), (.ref fs)])) t
      refine XS.isub X494.here hx rfl (hb hby d9b_99) rfl ?_
      show Steps p.tables e below (T494.setTop (mkF m 100 #[.val (.ref fs), .val (.int fn), .val (.int fc), .val (.int u3), .val (.int u4), .val (.int (1 : Int32))] [(.int (hd - (1 : Int32))), (.ref fs)])) t
      refine XS.aloadN X494.here hx rfl (hb hby d9b_100) rfl rfl ?_
      exact kt
    obtain ⟨T496, X496, e496, st496⟩ := getF X494 hx hZ hown (host := "") (Or.inl (hw _ (List.mem_of_getElem? (i := 22) rfl))) Via.refl e494 fF480 (g := (mkF m 101 #[.val (.ref fs), .val (.int fn), .val (.int fc), .val (.int u3), .val (.int u4), .val (.int (1 : Int32))] [(.ref fs), (.int (hd - (1 : Int32))), (.ref fs)])) rfl rfl (hb hby d9b_101)
    have s497 : ∀ t, Steps p.tables e below (T496.setTop (mkF m 108 #[.val (.ref fs), .val (.int fn), .val (.int fc), .val (.int u3), .val (.int u4), .val (.int (1 : Int32))] [(.int ((hd - (1 : Int32)) &&& ((16 : Int32) - (1 : Int32)))), (.ref fs)])) t → Steps p.tables e below (T496.setTop (mkF m 104 #[.val (.ref fs), .val (.int fn), .val (.int fc), .val (.int u3), .val (.int u4), .val (.int (1 : Int32))] [(.ref qa), (.int (hd - (1 : Int32))), (.ref fs)])) t := by
      intro t kt
      refine OwnKit.alen X496 hx hZ e496 fV488 (z := (16 : Int32)) (by decide) (g := (mkF m 104 #[.val (.ref fs), .val (.int fn), .val (.int fc), .val (.int u3), .val (.int u4), .val (.int (1 : Int32))] [(.ref qa), (.int (hd - (1 : Int32))), (.ref fs)])) rfl rfl (hb hby d9b_104) _ ?_
      show Steps p.tables e below (T496.setTop (mkF m 105 #[.val (.ref fs), .val (.int fn), .val (.int fc), .val (.int u3), .val (.int u4), .val (.int (1 : Int32))] [(.int (16 : Int32)), (.int (hd - (1 : Int32))), (.ref fs)])) t
      refine XS.iconst X496.here hx rfl (hb hby d9b_105) ?_
      show Steps p.tables e below (T496.setTop (mkF m 106 #[.val (.ref fs), .val (.int fn), .val (.int fc), .val (.int u3), .val (.int u4), .val (.int (1 : Int32))] [(.int (1 : Int32)), (.int (16 : Int32)), (.int (hd - (1 : Int32))), (.ref fs)])) t
      refine XS.isub X496.here hx rfl (hb hby d9b_106) rfl ?_
      show Steps p.tables e below (T496.setTop (mkF m 107 #[.val (.ref fs), .val (.int fn), .val (.int fc), .val (.int u3), .val (.int u4), .val (.int (1 : Int32))] [(.int ((16 : Int32) - (1 : Int32))), (.int (hd - (1 : Int32))), (.ref fs)])) t
      refine XS.iand X496.here hx rfl (hb hby d9b_107) rfl ?_
      exact kt
    obtain ⟨T498, h498, X498, e498, W498, st498⟩ := putF X496 hx hZ hown (host := "") (Or.inl (hw _ (List.mem_of_getElem? (i := 67) rfl))) Via.refl e496 fF482 fE475 (Or.inl (hw _ (List.mem_of_getElem? (i := 68) rfl))) (hw _ (List.mem_of_getElem? (i := 1) rfl)) (ty := .int) (by decide) rfl rfl (g := (mkF m 108 #[.val (.ref fs), .val (.int fn), .val (.int fc), .val (.int u3), .val (.int u4), .val (.int (1 : Int32))] [(.int ((hd - (1 : Int32)) &&& ((16 : Int32) - (1 : Int32)))), (.ref fs)])) rfl rfl (hb hby d9b_108)
    have Zs498 : n0 ≤ h498.size := Nat.le_trans Zs474 (Keep.of_wr W498).1
    have fE499 := fE475.wr W498
    have fF500 := fF476.other W498 (Or.inr (slot_ne (Or.inl (hw _ (List.mem_of_getElem? (i := 14) rfl))) (Or.inl (hw _ (List.mem_of_getElem? (i := 68) rfl))) (by decide) (t := (.array .int)) (t' := .int) (by decide) (by decide)))
    have fF501 := fF477.other W498 (Or.inr (slot_ne (Or.inl (hw _ (List.mem_of_getElem? (i := 16) rfl))) (Or.inl (hw _ (List.mem_of_getElem? (i := 68) rfl))) (by decide) (t := (.array .int)) (t' := .int) (by decide) (by decide)))
    have fF502 := fF478.other W498 (Or.inr (slot_ne (Or.inl (hw _ (List.mem_of_getElem? (i := 18) rfl))) (Or.inl (hw _ (List.mem_of_getElem? (i := 68) rfl))) (by decide) (t := (.array .int)) (t' := .int) (by decide) (by decide)))
    have fF503 := fF479.other W498 (Or.inr (slot_ne (Or.inl (hw _ (List.mem_of_getElem? (i := 21) rfl))) (Or.inl (hw _ (List.mem_of_getElem? (i := 68) rfl))) (by decide) (t := (.array .boolean)) (t' := .int) (by decide) (by decide)))
    have fF504 := fF480.other W498 (Or.inr (slot_ne (Or.inl (hw _ (List.mem_of_getElem? (i := 23) rfl))) (Or.inl (hw _ (List.mem_of_getElem? (i := 68) rfl))) (by decide) (t := (.array .int)) (t' := .int) (by decide) (by decide)))
    have fF505 := fF481.other W498 (Or.inr (slot_ne (Or.inr (hw _ (List.mem_of_getElem? (i := 25) rfl))) (Or.inl (hw _ (List.mem_of_getElem? (i := 68) rfl))) (by decide) (t := (.object "com/example/witness/witness/logic/IntStack")) (t' := .int) (by decide) (by decide)))
    have fF506 := fF482.same W498
    have fF507 := fF483.other W498 (Or.inr (slot_ne (Or.inl (hw _ (List.mem_of_getElem? (i := 66) rfl))) (Or.inl (hw _ (List.mem_of_getElem? (i := 68) rfl))) (by decide) (t := .int) (t' := .int) (by decide) (by decide)))
    have fV508 := fV484.other W498 (Ne.symm x0)
    have fV509 := fV485.other W498 (Ne.symm x1)
    have fV510 := fV486.other W498 (Ne.symm x2)
    have fV511 := fV487.other W498 (Ne.symm x3)
    have fV512 := fV488.other W498 (Ne.symm x4)
    have K498 : Keep h0 h498 [fs, ca, fa, ta, ka, qa] := K474.wr W498 (Or.inl (List.mem_of_getElem? (i := 0) rfl))
    have N498 := Fr.snoc X498 N474 Gs
    have s513 : ∀ t, Steps p.tables e below (T498.setTop (mkF m 112 #[.val (.ref fs), .val (.int fn), .val (.int fc), .val (.int u3), .val (.int u4), .val (.int (1 : Int32))] [(.ref fs)])) t → Steps p.tables e below (T498.setTop (mkF m 111 #[.val (.ref fs), .val (.int fn), .val (.int fc), .val (.int u3), .val (.int u4), .val (.int (1 : Int32))] [])) t := by
      intro t kt
      refine XS.aloadN X498.here hx rfl (hb hby d9b_111) rfl rfl ?_
      exact kt
    obtain ⟨T514, X514, e514, st514⟩ := getF X498 hx hZ hown (host := "") (Or.inl (hw _ (List.mem_of_getElem? (i := 22) rfl))) Via.refl e498 fF504 (g := (mkF m 112 #[.val (.ref fs), .val (.int fn), .val (.int fc), .val (.int u3), .val (.int u4), .val (.int (1 : Int32))] [(.ref fs)])) rfl rfl (hb hby d9b_112)
    have s515 : ∀ t, Steps p.tables e below (T514.setTop (mkF m 116 #[.val (.ref fs), .val (.int fn), .val (.int fc), .val (.int u3), .val (.int u4), .val (.int (1 : Int32))] [(.ref fs), (.ref qa)])) t → Steps p.tables e below (T514.setTop (mkF m 115 #[.val (.ref fs), .val (.int fn), .val (.int fc), .val (.int u3), .val (.int u4), .val (.int (1 : Int32))] [(.ref qa)])) t := by
      intro t kt
      refine XS.aloadN X514.here hx rfl (hb hby d9b_115) rfl rfl ?_
      exact kt
    obtain ⟨T516, X516, e516, st516⟩ := getF X514 hx hZ hown (host := "") (Or.inl (hw _ (List.mem_of_getElem? (i := 67) rfl))) Via.refl e514 fF506 (g := (mkF m 116 #[.val (.ref fs), .val (.int fn), .val (.int fc), .val (.int u3), .val (.int u4), .val (.int (1 : Int32))] [(.ref fs), (.ref qa)])) rfl rfl (hb hby d9b_116)
    have s517 : ∀ t, Steps p.tables e below (T516.setTop (mkF m 120 #[.val (.ref fs), .val (.int fn), .val (.int fc), .val (.int u3), .val (.int u4), .val (.int (1 : Int32))] [(.int fn), (.int ((hd - (1 : Int32)) &&& ((16 : Int32) - (1 : Int32)))), (.ref qa)])) t → Steps p.tables e below (T516.setTop (mkF m 119 #[.val (.ref fs), .val (.int fn), .val (.int fc), .val (.int u3), .val (.int u4), .val (.int (1 : Int32))] [(.int ((hd - (1 : Int32)) &&& ((16 : Int32) - (1 : Int32)))), (.ref qa)])) t := by
      intro t kt
      refine XS.iloadN X516.here hx rfl (hb hby d9b_119) rfl ?_
      exact kt
    obtain ⟨T518, h518, X518, e518, W518, V518, st518⟩ := OwnKit.stAI X516 hx hZ e516 fV512 (j := ((hd - (1 : Int32)) &&& ((16 : Int32) - (1 : Int32)))) hx0 hx1 (g := (mkF m 120 #[.val (.ref fs), .val (.int fn), .val (.int fc), .val (.int u3), .val (.int u4), .val (.int (1 : Int32))] [(.int fn), (.int ((hd - (1 : Int32)) &&& ((16 : Int32) - (1 : Int32)))), (.ref qa)])) rfl rfl (hb hby d9b_120)
    have Zs518 : n0 ≤ h518.size := Nat.le_trans Zs498 (Keep.of_wr W518).1
    have fE519 := fE499.wr W518
    have fF520 := fF500.other W518 (Or.inl x4)
    have fF521 := fF501.other W518 (Or.inl x4)
    have fF522 := fF502.other W518 (Or.inl x4)
    have fF523 := fF503.other W518 (Or.inl x4)
    have fF524 := fF504.other W518 (Or.inl x4)
    have fF525 := fF505.other W518 (Or.inl x4)
    have fF526 := fF506.other W518 (Or.inl x4)
    have fF527 := fF507.other W518 (Or.inl x4)
    have fV528 := fV508.other W518 x8
    have fV529 := fV509.other W518 x11
    have fV530 := fV510.other W518 x13
    have fV531 := fV511.other W518 x14
    have fV532 := V518
    have K518 : Keep h0 h518 [fs, ca, fa, ta, ka, qa] := K498.wr W518 (Or.inl (List.mem_of_getElem? (i := 5) rfl))
    have N518 := Fr.snoc X518 N498 ge4
    have s533 : ∀ t, Steps p.tables e below (T518.setTop (mkF m 149 #[.val (.ref fs), .val (.int fn), .val (.int fc), .val (.int u3), .val (.int u4), .val (.int (1 : Int32))] [(.ref fs), (.ref fs)])) t → Steps p.tables e below (T518.setTop (mkF m 121 #[.val (.ref fs), .val (.int fn), .val (.int fc), .val (.int u3), .val (.int u4), .val (.int (1 : Int32))] [])) t := by
      intro t kt
      refine XS.goto X518.here hx rfl (pc0 := 121) (pc' := 147) rfl (hb hby d9b_121) (by decide) (by decide) ?_
      show Steps p.tables e below (T518.setTop (mkF m 147 #[.val (.ref fs), .val (.int fn), .val (.int fc), .val (.int u3), .val (.int u4), .val (.int (1 : Int32))] [])) t
      refine XS.aloadN X518.here hx rfl (hb hby d9b_147) rfl rfl ?_
      show Steps p.tables e below (T518.setTop (mkF m 148 #[.val (.ref fs), .val (.int fn), .val (.int fc), .val (.int u3), .val (.int u4), .val (.int (1 : Int32))] [(.ref fs)])) t
      refine XS.dup X518.here hx rfl (hb hby d9b_148) rfl rfl ?_
      exact kt
    obtain ⟨T534, X534, e534, st534⟩ := getF X518 hx hZ hown (host := "") (Or.inl (hw _ (List.mem_of_getElem? (i := 65) rfl))) Via.refl e518 fF527 (g := (mkF m 149 #[.val (.ref fs), .val (.int fn), .val (.int fc), .val (.int u3), .val (.int u4), .val (.int (1 : Int32))] [(.ref fs), (.ref fs)])) rfl rfl (hb hby d9b_149)
    have s535 : ∀ t, Steps p.tables e below (T534.setTop (mkF m 154 #[.val (.ref fs), .val (.int fn), .val (.int fc), .val (.int u3), .val (.int u4), .val (.int (1 : Int32))] [(.int (qd + (1 : Int32))), (.ref fs)])) t → Steps p.tables e below (T534.setTop (mkF m 152 #[.val (.ref fs), .val (.int fn), .val (.int fc), .val (.int u3), .val (.int u4), .val (.int (1 : Int32))] [(.int qd), (.ref fs)])) t := by
      intro t kt
      refine XS.iconst X534.here hx rfl (hb hby d9b_152) ?_
      show Steps p.tables e below (T534.setTop (mkF m 153 #[.val (.ref fs), .val (.int fn), .val (.int fc), .val (.int u3), .val (.int u4), .val (.int (1 : Int32))] [(.int (1 : Int32)), (.int qd), (.ref fs)])) t
      refine XS.iadd X534.here hx rfl (hb hby d9b_153) rfl ?_
      exact kt
    obtain ⟨T536, h536, X536, e536, W536, st536⟩ := putF X534 hx hZ hown (host := "") (Or.inl (hw _ (List.mem_of_getElem? (i := 65) rfl))) Via.refl e534 fF527 fE519 (Or.inl (hw _ (List.mem_of_getElem? (i := 66) rfl))) (hw _ (List.mem_of_getElem? (i := 1) rfl)) (ty := .int) (by decide) rfl rfl (g := (mkF m 154 #[.val (.ref fs), .val (.int fn), .val (.int fc), .val (.int u3), .val (.int u4), .val (.int (1 : Int32))] [(.int (qd + (1 : Int32))), (.ref fs)])) rfl rfl (hb hby d9b_154)
    have Zs536 : n0 ≤ h536.size := Nat.le_trans Zs518 (Keep.of_wr W536).1
    have fE537 := fE519.wr W536
    have fF538 := fF520.other W536 (Or.inr (slot_ne (Or.inl (hw _ (List.mem_of_getElem? (i := 14) rfl))) (Or.inl (hw _ (List.mem_of_getElem? (i := 66) rfl))) (by decide) (t := (.array .int)) (t' := .int) (by decide) (by decide)))
    have fF539 := fF521.other W536 (Or.inr (slot_ne (Or.inl (hw _ (List.mem_of_getElem? (i := 16) rfl))) (Or.inl (hw _ (List.mem_of_getElem? (i := 66) rfl))) (by decide) (t := (.array .int)) (t' := .int) (by decide) (by decide)))
    have fF540 := fF522.other W536 (Or.inr (slot_ne (Or.inl (hw _ (List.mem_of_getElem? (i := 18) rfl))) (Or.inl (hw _ (List.mem_of_getElem? (i := 66) rfl))) (by decide) (t := (.array .int)) (t' := .int) (by decide) (by decide)))
    have fF541 := fF523.other W536 (Or.inr (slot_ne (Or.inl (hw _ (List.mem_of_getElem? (i := 21) rfl))) (Or.inl (hw _ (List.mem_of_getElem? (i := 66) rfl))) (by decide) (t := (.array .boolean)) (t' := .int) (by decide) (by decide)))
    have fF542 := fF524.other W536 (Or.inr (slot_ne (Or.inl (hw _ (List.mem_of_getElem? (i := 23) rfl))) (Or.inl (hw _ (List.mem_of_getElem? (i := 66) rfl))) (by decide) (t := (.array .int)) (t' := .int) (by decide) (by decide)))
    have fF543 := fF525.other W536 (Or.inr (slot_ne (Or.inr (hw _ (List.mem_of_getElem? (i := 25) rfl))) (Or.inl (hw _ (List.mem_of_getElem? (i := 66) rfl))) (by decide) (t := (.object "com/example/witness/witness/logic/IntStack")) (t' := .int) (by decide) (by decide)))
    have fF544 := fF526.other W536 (Or.inr (slot_ne (Or.inl (hw _ (List.mem_of_getElem? (i := 68) rfl))) (Or.inl (hw _ (List.mem_of_getElem? (i := 66) rfl))) (by decide) (t := .int) (t' := .int) (by decide) (by decide)))
    have fF545 := fF527.same W536
    have fV546 := fV528.other W536 (Ne.symm x0)
    have fV547 := fV529.other W536 (Ne.symm x1)
    have fV548 := fV530.other W536 (Ne.symm x2)
    have fV549 := fV531.other W536 (Ne.symm x3)
    have fV550 := fV532.other W536 (Ne.symm x4)
    have K536 : Keep h0 h536 [fs, ca, fa, ta, ka, qa] := K518.wr W536 (Or.inl (List.mem_of_getElem? (i := 0) rfl))
    have N536 := Fr.snoc X536 N518 Gs
    obtain ⟨fs_, hr, hrun, hended, hW, hsame⟩ := X536.leave (hlocks := BodyLoose.notSynchronized Bd) (v := none) (fun _ => rfl)
    refine ⟨_, _, pre0 _ (s426 _ (st427 _ (s428 _ (s430 _ (s431 _ (st432 _ (s433 _ (st434 _ (s435 _ (st436 _ (s437 _ (st438 _ (s453 _ (st454 _ (s455 _ (st456 _ (s471 _ (st472 _ (s473 _ (st474 _ (s489 _ (st490 _ (s491 _ (st492 _ (s493 _ (st494 _ (s495 _ (st496 _ (s497 _ (st498 _ (s513 _ (st514 _ (s515 _ (st516 _ (s517 _ (st518 _ (s533 _ (st534 _ (s535 _ (st536 _ (?_))))))))))))))))))))))))))))))))))))))))), hrun, hended, _, _, rfl, ?_, ⟨_, rfl⟩, hW, hsame.mono (by decide) (by decide)⟩
    · show Steps p.tables e below (T536.setTop (mkF m 157 #[.val (.ref fs), .val (.int fn), .val (.int fc), .val (.int u3), .val (.int u4), .val (.int (1 : Int32))] [])) _
      exact X536.returnOut hx Bd.returns (hb hby d9b_157) hr
    · show Q9b Z fs ca fa ta ka qa E n N fC fF fG fQ fn fc u3 u4 hd qd h0 n0 _ T536.heap _
      rw [e536]
      exact ⟨rfl, N536, K536, fE537, ca, fa, ta, ka, n, O, hle, hNlt, hn1, fF538, fF539, fF540, fF541, fF542, fF543, fF544, fF545, fV546.as (fun i _ => by show (if i = fn.toInt.toNat then Value.int fc else .int (fC i)) = .int (if i = N then fc else fC i); rw [hNn]; split <;> rfl), ⟨_, fV547.as (g := fun i => .int (if i = fn.toInt.toNat then u3 else fF i)) (fun i _ => by show (if i = fn.toInt.toNat then Value.int u3 else .int (fF i)) = .int (if i = fn.toInt.toNat then u3 else fF i); split <;> rfl)⟩, ⟨_, fV548.as (g := fun i => .int (if i = fn.toInt.toNat then u4 else fG i)) (fun i _ => by show (if i = fn.toInt.toNat then Value.int u4 else .int (fG i)) = .int (if i = fn.toInt.toNat then u4 else fG i); split <;> rfl)⟩, fV549, fV550.as (fun i _ => by show (if i = ((hd - (1 : Int32)) &&& ((16 : Int32) - (1 : Int32))).toInt.toNat then Value.int fn else .int (fQ i)) = .int (if i = ((hd - (1 : Int32)) &&& ((16 : Int32) - (1 : Int32))).toInt.toNat then fn else fQ i); split <;> rfl)⟩
  ·
    have s551 : ∀ t, Steps p.tables e below (T427.setTop (mkF m 9 #[.val (.ref fs), .val (.int fn), .val (.int fc), .val (.int u3), .val (.int u4), .val (.int (1 : Int32))] [])) t → Steps p.tables e below (T427.setTop (mkF m 6 #[.val (.ref fs), .val (.int fn), .val (.int fc), .val (.int u3), .val (.int u4), .val (.int (1 : Int32))] [(.int (Int32.ofNat n)), (.int fn)])) t := by
      intro t kt
      refine XS.icmpNo X427.here hx rfl (hb hby d9b_6) rfl (flt c429).1 ?_
      exact kt
    have hnN : n ≤ N := Nat.le_of_not_lt (mt (own_ltn n N fn hN hn54).mpr c429)
    obtain ⟨xq0, xq1, xq2, xq3, xq4, -⟩ := own_apart O
    have s552 : ∀ t, Steps p.tables e below (T427.setTop (mkF m 11 #[.val (.ref fs), .val (.int fn), .val (.int fc), .val (.int u3), .val (.int u4), .val (.int (1 : Int32))] [(.int fn), (.ref fs)])) t → Steps p.tables e below (T427.setTop (mkF m 9 #[.val (.ref fs), .val (.int fn), .val (.int fc), .val (.int u3), .val (.int u4), .val (.int (1 : Int32))] [])) t := by
      intro t kt
      refine XS.aloadN X427.here hx rfl (hb hby d9b_9) rfl rfl ?_
      show Steps p.tables e below (T427.setTop (mkF m 10 #[.val (.ref fs), .val (.int fn), .val (.int fc), .val (.int u3), .val (.int u4), .val (.int (1 : Int32))] [(.ref fs)])) t
      refine XS.iloadN X427.here hx rfl (hb hby d9b_10) rfl ?_
      exact kt
    obtain ⟨cq553, qa553, qb553⟩ := Es.cell
    obtain ⟨_, _, ⟨T553, L553, k553, n553⟩, -, X553, ⟨Lc553, hQ553, l553, y553, z553⟩, st553⟩ := X427.privateBack hx (y := (⟨"com/example/witness/witness/logic/StepSearch", "grow", "(I)V"⟩ : MethodName)) hown (mvT hZ (hw _ (List.mem_of_getElem? (i := 36) rfl))) (mvT hZ (hw _ (List.mem_of_getElem? (i := 37) rfl))) (Jvm.Kit.selects_private (by decide) (mvT hZ (hw _ (List.mem_of_getElem? (i := 1) rfl))) (mvP hZ (hw _ (List.mem_of_getElem? (i := 38) rfl))) (mvT hZ (hw _ (List.mem_of_getElem? (i := 37) rfl)))) (Cond.privateMethod_at (mvP hZ (hw _ (List.mem_of_getElem? (i := 38) rfl)) (args := #[]))) (mvT hZ (hw _ (List.mem_of_getElem? (i := 39) rfl))) (by decide) (backOf (W := 0) (rm8 l Z a0 hw [] fs ca fa ta ka qa n N fC fF fG fn hd qd h0 n0 Z0 Es Gs P_costs P_froms P_transitions P_taken P_queue P_reached P_head P_queued Vc Vf Vt Vk hN hnN hN27) hZ (hw _ (List.mem_of_getElem? (i := 39) rfl)) (hw _ (List.mem_of_getElem? (i := 2) rfl)) (by decide) (by decide)) (g := (mkF m 11 #[.val (.ref fs), .val (.int fn), .val (.int fc), .val (.int u3), .val (.int u4), .val (.int (1 : Int32))] [(.int fn), (.ref fs)])) rfl (by rw [hml]; rfl) (Steps.refl _) (a := fs) (by rw [e427]; exact qa553) qb553 (argsL := [(.int fn)]) (rest := []) (lenOf pd_oIcV rfl) rfl (by show 2 * 0 + _ ≤ _; exact Nat.le_of_eq rfl) (hb hby d9b_11) (fun _ _ => ⟨rfl, e427, (by decide : 0 + 4 ≤ _), (by decide : 0 + 216 ≤ _)⟩)
    dsimp only [Pt.U, Pt.locs, Pt.cells, Pt.slots] at X553 l553 y553 z553 st553 hQ553
    rw [l553, y553, z553] at X553
    obtain ⟨hv553, N553q, Kc553, E553_, c1553, f1553, t1553, k1553, o553_0, o553_1, o553_2, o553_3, F553_costs, F553_froms, F553_transitions, F553_taken, F553_queue, F553_reached, F553_head, F553_queued, Vc553, ⟨gF, Vf553⟩, ⟨gG, Vt553⟩, Vk553⟩ := hQ553
    rw [hv553] at st553
    have N553 := Fr.app N0 N553q
    obtain ⟨nG, hnG⟩ : ∃ z, z = max (2 * n) (N + 1) := ⟨_, rfl⟩
    rw [← hnG] at Vc553 Vf553 Vt553 Vk553
    have Vd553 : Ar Z T553.heap c1553 .int nG (fun i => .int (fC i)) := Vc553.as (fun i _ => congrArg Value.int (by by_cases q : i < n; exact if_pos q; exact (if_neg q).trans (hC i (Nat.le_of_not_lt q)).symm))
    have Vq553 := Vq.keep Kc553 (ninS (Ne.symm xq4) nin0)
    have K553 : Keep h0 T553.heap [fs, ca, fa, ta, ka, qa] := (Keep.refl h0 [fs, ca, fa, ta, ka, qa]).trans Kc553 (allS (Or.inl (List.mem_of_getElem? (i := 0) rfl)) all0)
    have Zs553 : n0 ≤ T553.heap.size := Nat.le_trans Z0 Kc553.1
    have hNlt : N < nG := by rw [hnG]; omega
    have hle : n ≤ nG := by rw [hnG]; omega
    have hn1 : nG ≤ 54 := by rw [hnG]; omega
    have O1 := own_ord' O Es.lt hE o553_0 o553_1 o553_2 o553_3
    obtain ⟨sz1, sz2, sz3⟩ := own_sz o553_0 o553_1 o553_2 o553_3
    obtain ⟨x0, x1, x2, x3, x4, x5, x6, x7, x8, x9, x10, x11, x12, x13, x14⟩ := own_apart O1
    obtain ⟨ge0, ge1, ge2, ge3, ge4⟩ := own_ge O1 Gs
    have hin : fn.toInt < (nG : Int) := by rw [hN]; exact Int.ofNat_lt.mpr hNlt
    have s554 : ∀ t, Steps p.tables e below (T553.setTop (mkF m 16 #[.val (.ref fs), .val (.int fn), .val (.int fc), .val (.int u3), .val (.int u4), .val (.int (1 : Int32))] [(.ref fs), (.int fc)])) t → Steps p.tables e below (T553.setTop (mkF m 14 #[.val (.ref fs), .val (.int fn), .val (.int fc), .val (.int u3), .val (.int u4), .val (.int (1 : Int32))] [])) t := by
      intro t kt
      refine XS.iloadN X553.here hx rfl (hb hby d9b_14) rfl ?_
      show Steps p.tables e below (T553.setTop (mkF m 15 #[.val (.ref fs), .val (.int fn), .val (.int fc), .val (.int u3), .val (.int u4), .val (.int (1 : Int32))] [(.int fc)])) t
      refine XS.aloadN X553.here hx rfl (hb hby d9b_15) rfl rfl ?_
      exact kt
    obtain ⟨T555, X555, e555, st555⟩ := getF X553 hx hZ hown (host := "") (Or.inl (hw _ (List.mem_of_getElem? (i := 13) rfl))) Via.refl rfl F553_costs (g := (mkF m 16 #[.val (.ref fs), .val (.int fn), .val (.int fc), .val (.int u3), .val (.int u4), .val (.int (1 : Int32))] [(.ref fs), (.int fc)])) rfl rfl (hb hby d9b_16)
    have s556 : ∀ t, Steps p.tables e below (T555.setTop (mkF m 25 #[.val (.ref fs), .val (.int fn), .val (.int fc), .val (.int u3), .val (.int u4), .val (.int (1 : Int32))] [(.ref fs)])) t → Steps p.tables e below (T555.setTop (mkF m 19 #[.val (.ref fs), .val (.int fn), .val (.int fc), .val (.int u3), .val (.int u4), .val (.int (1 : Int32))] [(.ref c1553), (.int fc)])) t := by
      intro t kt
      refine XS.iloadN X555.here hx rfl (hb hby d9b_19) rfl ?_
      show Steps p.tables e below (T555.setTop (mkF m 20 #[.val (.ref fs), .val (.int fn), .val (.int fc), .val (.int u3), .val (.int u4), .val (.int (1 : Int32))] [(.int fn), (.ref c1553), (.int fc)])) t
      refine OwnKit.ldAI X555 hx hZ e555 Vd553 (j := fn) hN0 hin (w := (.int (fC N))) (by show Value.int (fC fn.toInt.toNat) = _; rw [hNn]) (g := (mkF m 20 #[.val (.ref fs), .val (.int fn), .val (.int fc), .val (.int u3), .val (.int u4), .val (.int (1 : Int32))] [(.int fn), (.ref c1553), (.int fc)])) rfl rfl (hb hby d9b_20) _ ?_
      show Steps p.tables e below (T555.setTop (mkF m 21 #[.val (.ref fs), .val (.int fn), .val (.int fc), .val (.int u3), .val (.int u4), .val (.int (1 : Int32))] [(.int (fC N)), (.int fc)])) t
      refine XS.icmpNo X555.here hx rfl (hb hby d9b_21) rfl (tlt hc).2.1 ?_
      show Steps p.tables e below (T555.setTop (mkF m 24 #[.val (.ref fs), .val (.int fn), .val (.int fc), .val (.int u3), .val (.int u4), .val (.int (1 : Int32))] [])) t
      refine XS.aloadN X555.here hx rfl (hb hby d9b_24) rfl rfl ?_
      exact kt
    obtain ⟨T557, X557, e557, st557⟩ := getF X555 hx hZ hown (host := "") (Or.inl (hw _ (List.mem_of_getElem? (i := 24) rfl))) Via.refl e555 F553_reached (g := (mkF m 25 #[.val (.ref fs), .val (.int fn), .val (.int fc), .val (.int u3), .val (.int u4), .val (.int (1 : Int32))] [(.ref fs)])) rfl rfl (hb hby d9b_25)
    have s558 : ∀ t, Steps p.tables e below (T557.setTop (mkF m 51 #[.val (.ref fs), .val (.int fn), .val (.int fc), .val (.int u3), .val (.int u4), .val (.int (1 : Int32))] [(.ref fs)])) t → Steps p.tables e below (T557.setTop (mkF m 28 #[.val (.ref fs), .val (.int fn), .val (.int fc), .val (.int u3), .val (.int u4), .val (.int (1 : Int32))] [.null])) t := by
      intro t kt
      refine XS.ifnullYes X557.here hx rfl (pc0 := 28) (pc' := 50) rfl (hb hby d9b_28) rfl (by decide) (by decide) ?_
      show Steps p.tables e below (T557.setTop (mkF m 50 #[.val (.ref fs), .val (.int fn), .val (.int fc), .val (.int u3), .val (.int u4), .val (.int (1 : Int32))] [])) t
      refine XS.aloadN X557.here hx rfl (hb hby d9b_50) rfl rfl ?_
      exact kt
    obtain ⟨T559, X559, e559, st559⟩ := getF X557 hx hZ hown (host := "") (Or.inl (hw _ (List.mem_of_getElem? (i := 13) rfl))) Via.refl e557 F553_costs (g := (mkF m 51 #[.val (.ref fs), .val (.int fn), .val (.int fc), .val (.int u3), .val (.int u4), .val (.int (1 : Int32))] [(.ref fs)])) rfl rfl (hb hby d9b_51)
    have s560 : ∀ t, Steps p.tables e below (T559.setTop (mkF m 56 #[.val (.ref fs), .val (.int fn), .val (.int fc), .val (.int u3), .val (.int u4), .val (.int (1 : Int32))] [(.int fc), (.int fn), (.ref c1553)])) t → Steps p.tables e below (T559.setTop (mkF m 54 #[.val (.ref fs), .val (.int fn), .val (.int fc), .val (.int u3), .val (.int u4), .val (.int (1 : Int32))] [(.ref c1553)])) t := by
      intro t kt
      refine XS.iloadN X559.here hx rfl (hb hby d9b_54) rfl ?_
      show Steps p.tables e below (T559.setTop (mkF m 55 #[.val (.ref fs), .val (.int fn), .val (.int fc), .val (.int u3), .val (.int u4), .val (.int (1 : Int32))] [(.int fn), (.ref c1553)])) t
      refine XS.iloadN X559.here hx rfl (hb hby d9b_55) rfl ?_
      exact kt
    obtain ⟨T561, h561, X561, e561, W561, V561, st561⟩ := OwnKit.stAI X559 hx hZ e559 Vd553 (j := fn) hN0 hin (g := (mkF m 56 #[.val (.ref fs), .val (.int fn), .val (.int fc), .val (.int u3), .val (.int u4), .val (.int (1 : Int32))] [(.int fc), (.int fn), (.ref c1553)])) rfl rfl (hb hby d9b_56)
    have Zs561 : n0 ≤ h561.size := Nat.le_trans Zs553 (Keep.of_wr W561).1
    have fE562 := E553_.wr W561
    have fF563 := F553_costs.other W561 (Or.inl x0)
    have fF564 := F553_froms.other W561 (Or.inl x0)
    have fF565 := F553_transitions.other W561 (Or.inl x0)
    have fF566 := F553_taken.other W561 (Or.inl x0)
    have fF567 := F553_queue.other W561 (Or.inl x0)
    have fF568 := F553_reached.other W561 (Or.inl x0)
    have fF569 := F553_head.other W561 (Or.inl x0)
    have fF570 := F553_queued.other W561 (Or.inl x0)
    have fV571 := V561
    have fV572 := Vf553.other W561 (Ne.symm x5)
    have fV573 := Vt553.other W561 (Ne.symm x6)
    have fV574 := Vk553.other W561 (Ne.symm x7)
    have fV575 := Vq553.other W561 (Ne.symm x8)
    have K561 : Keep h0 h561 [fs, ca, fa, ta, ka, qa] := K553.wr W561 (Or.inr o553_0)
    have N561 := Fr.snoc X561 N553 ge0
    have s576 : ∀ t, Steps p.tables e below (T561.setTop (mkF m 58 #[.val (.ref fs), .val (.int fn), .val (.int fc), .val (.int u3), .val (.int u4), .val (.int (1 : Int32))] [(.ref fs)])) t → Steps p.tables e below (T561.setTop (mkF m 57 #[.val (.ref fs), .val (.int fn), .val (.int fc), .val (.int u3), .val (.int u4), .val (.int (1 : Int32))] [])) t := by
      intro t kt
      refine XS.aloadN X561.here hx rfl (hb hby d9b_57) rfl rfl ?_
      exact kt
    obtain ⟨T577, X577, e577, st577⟩ := getF X561 hx hZ hown (host := "") (Or.inl (hw _ (List.mem_of_getElem? (i := 15) rfl))) Via.refl e561 fF564 (g := (mkF m 58 #[.val (.ref fs), .val (.int fn), .val (.int fc), .val (.int u3), .val (.int u4), .val (.int (1 : Int32))] [(.ref fs)])) rfl rfl (hb hby d9b_58)
    have s578 : ∀ t, Steps p.tables e below (T577.setTop (mkF m 63 #[.val (.ref fs), .val (.int fn), .val (.int fc), .val (.int u3), .val (.int u4), .val (.int (1 : Int32))] [(.int u3), (.int fn), (.ref f1553)])) t → Steps p.tables e below (T577.setTop (mkF m 61 #[.val (.ref fs), .val (.int fn), .val (.int fc), .val (.int u3), .val (.int u4), .val (.int (1 : Int32))] [(.ref f1553)])) t := by
      intro t kt
      refine XS.iloadN X577.here hx rfl (hb hby d9b_61) rfl ?_
      show Steps p.tables e below (T577.setTop (mkF m 62 #[.val (.ref fs), .val (.int fn), .val (.int fc), .val (.int u3), .val (.int u4), .val (.int (1 : Int32))] [(.int fn), (.ref f1553)])) t
      refine XS.iloadN X577.here hx rfl (hb hby d9b_62) rfl ?_
      exact kt
    obtain ⟨T579, h579, X579, e579, W579, V579, st579⟩ := OwnKit.stAI X577 hx hZ e577 fV572 (j := fn) hN0 hin (g := (mkF m 63 #[.val (.ref fs), .val (.int fn), .val (.int fc), .val (.int u3), .val (.int u4), .val (.int (1 : Int32))] [(.int u3), (.int fn), (.ref f1553)])) rfl rfl (hb hby d9b_63)
    have Zs579 : n0 ≤ h579.size := Nat.le_trans Zs561 (Keep.of_wr W579).1
    have fE580 := fE562.wr W579
    have fF581 := fF563.other W579 (Or.inl x1)
    have fF582 := fF564.other W579 (Or.inl x1)
    have fF583 := fF565.other W579 (Or.inl x1)
    have fF584 := fF566.other W579 (Or.inl x1)
    have fF585 := fF567.other W579 (Or.inl x1)
    have fF586 := fF568.other W579 (Or.inl x1)
    have fF587 := fF569.other W579 (Or.inl x1)
    have fF588 := fF570.other W579 (Or.inl x1)
    have fV589 := fV571.other W579 x5
    have fV590 := V579
    have fV591 := fV573.other W579 (Ne.symm x9)
    have fV592 := fV574.other W579 (Ne.symm x10)
    have fV593 := fV575.other W579 (Ne.symm x11)
    have K579 : Keep h0 h579 [fs, ca, fa, ta, ka, qa] := K561.wr W579 (Or.inr sz1)
    have N579 := Fr.snoc X579 N561 ge1
    have s594 : ∀ t, Steps p.tables e below (T579.setTop (mkF m 65 #[.val (.ref fs), .val (.int fn), .val (.int fc), .val (.int u3), .val (.int u4), .val (.int (1 : Int32))] [(.ref fs)])) t → Steps p.tables e below (T579.setTop (mkF m 64 #[.val (.ref fs), .val (.int fn), .val (.int fc), .val (.int u3), .val (.int u4), .val (.int (1 : Int32))] [])) t := by
      intro t kt
      refine XS.aloadN X579.here hx rfl (hb hby d9b_64) rfl rfl ?_
      exact kt
    obtain ⟨T595, X595, e595, st595⟩ := getF X579 hx hZ hown (host := "") (Or.inl (hw _ (List.mem_of_getElem? (i := 17) rfl))) Via.refl e579 fF583 (g := (mkF m 65 #[.val (.ref fs), .val (.int fn), .val (.int fc), .val (.int u3), .val (.int u4), .val (.int (1 : Int32))] [(.ref fs)])) rfl rfl (hb hby d9b_65)
    have s596 : ∀ t, Steps p.tables e below (T595.setTop (mkF m 71 #[.val (.ref fs), .val (.int fn), .val (.int fc), .val (.int u3), .val (.int u4), .val (.int (1 : Int32))] [(.int u4), (.int fn), (.ref t1553)])) t → Steps p.tables e below (T595.setTop (mkF m 68 #[.val (.ref fs), .val (.int fn), .val (.int fc), .val (.int u3), .val (.int u4), .val (.int (1 : Int32))] [(.ref t1553)])) t := by
      intro t kt
      refine XS.iloadN X595.here hx rfl (hb hby d9b_68) rfl ?_
      show Steps p.tables e below (T595.setTop (mkF m 69 #[.val (.ref fs), .val (.int fn), .val (.int fc), .val (.int u3), .val (.int u4), .val (.int (1 : Int32))] [(.int fn), (.ref t1553)])) t
      refine XS.iload X595.here hx rfl (hb hby d9b_69) rfl ?_
      exact kt
    obtain ⟨T597, h597, X597, e597, W597, V597, st597⟩ := OwnKit.stAI X595 hx hZ e595 fV591 (j := fn) hN0 hin (g := (mkF m 71 #[.val (.ref fs), .val (.int fn), .val (.int fc), .val (.int u3), .val (.int u4), .val (.int (1 : Int32))] [(.int u4), (.int fn), (.ref t1553)])) rfl rfl (hb hby d9b_71)
    have Zs597 : n0 ≤ h597.size := Nat.le_trans Zs579 (Keep.of_wr W597).1
    have fE598 := fE580.wr W597
    have fF599 := fF581.other W597 (Or.inl x2)
    have fF600 := fF582.other W597 (Or.inl x2)
    have fF601 := fF583.other W597 (Or.inl x2)
    have fF602 := fF584.other W597 (Or.inl x2)
    have fF603 := fF585.other W597 (Or.inl x2)
    have fF604 := fF586.other W597 (Or.inl x2)
    have fF605 := fF587.other W597 (Or.inl x2)
    have fF606 := fF588.other W597 (Or.inl x2)
    have fV607 := fV589.other W597 x6
    have fV608 := fV590.other W597 x9
    have fV609 := V597
    have fV610 := fV592.other W597 (Ne.symm x12)
    have fV611 := fV593.other W597 (Ne.symm x13)
    have K597 : Keep h0 h597 [fs, ca, fa, ta, ka, qa] := K579.wr W597 (Or.inr sz2)
    have N597 := Fr.snoc X597 N579 ge2
    have s612 : ∀ t, Steps p.tables e below (T597.setTop (mkF m 73 #[.val (.ref fs), .val (.int fn), .val (.int fc), .val (.int u3), .val (.int u4), .val (.int (1 : Int32))] [(.ref fs)])) t → Steps p.tables e below (T597.setTop (mkF m 72 #[.val (.ref fs), .val (.int fn), .val (.int fc), .val (.int u3), .val (.int u4), .val (.int (1 : Int32))] [])) t := by
      intro t kt
      refine XS.aloadN X597.here hx rfl (hb hby d9b_72) rfl rfl ?_
      exact kt
    obtain ⟨T613, X613, e613, st613⟩ := getF X597 hx hZ hown (host := "") (Or.inl (hw _ (List.mem_of_getElem? (i := 65) rfl))) Via.refl e597 fF606 (g := (mkF m 73 #[.val (.ref fs), .val (.int fn), .val (.int fc), .val (.int u3), .val (.int u4), .val (.int (1 : Int32))] [(.ref fs)])) rfl rfl (hb hby d9b_73)
    have s614 : ∀ t, Steps p.tables e below (T613.setTop (mkF m 77 #[.val (.ref fs), .val (.int fn), .val (.int fc), .val (.int u3), .val (.int u4), .val (.int (1 : Int32))] [(.ref fs), (.int qd)])) t → Steps p.tables e below (T613.setTop (mkF m 76 #[.val (.ref fs), .val (.int fn), .val (.int fc), .val (.int u3), .val (.int u4), .val (.int (1 : Int32))] [(.int qd)])) t := by
      intro t kt
      refine XS.aloadN X613.here hx rfl (hb hby d9b_76) rfl rfl ?_
      exact kt
    obtain ⟨T615, X615, e615, st615⟩ := getF X613 hx hZ hown (host := "") (Or.inl (hw _ (List.mem_of_getElem? (i := 22) rfl))) Via.refl e613 fF603 (g := (mkF m 77 #[.val (.ref fs), .val (.int fn), .val (.int fc), .val (.int u3), .val (.int u4), .val (.int (1 : Int32))] [(.ref fs), (.int qd)])) rfl rfl (hb hby d9b_77)
    have s616 : ∀ t, Steps p.tables e below (T615.setTop (mkF m 95 #[.val (.ref fs), .val (.int fn), .val (.int fc), .val (.int u3), .val (.int u4), .val (.int (1 : Int32))] [(.ref fs), (.ref fs)])) t → Steps p.tables e below (T615.setTop (mkF m 80 #[.val (.ref fs), .val (.int fn), .val (.int fc), .val (.int u3), .val (.int u4), .val (.int (1 : Int32))] [(.ref qa), (.int qd)])) t := by
      intro t kt
      refine OwnKit.alen X615 hx hZ e615 fV611 (z := (16 : Int32)) (by decide) (g := (mkF m 80 #[.val (.ref fs), .val (.int fn), .val (.int fc), .val (.int u3), .val (.int u4), .val (.int (1 : Int32))] [(.ref qa), (.int qd)])) rfl rfl (hb hby d9b_80) _ ?_
      show Steps p.tables e below (T615.setTop (mkF m 81 #[.val (.ref fs), .val (.int fn), .val (.int fc), .val (.int u3), .val (.int u4), .val (.int (1 : Int32))] [(.int (16 : Int32)), (.int qd)])) t
      refine XS.icmpYes X615.here hx rfl (pc0 := 81) (pc' := 88) rfl (hb hby d9b_81) rfl (feq hq16).2 (by decide) (by decide) ?_
      show Steps p.tables e below (T615.setTop (mkF m 88 #[.val (.ref fs), .val (.int fn), .val (.int fc), .val (.int u3), .val (.int u4), .val (.int (1 : Int32))] [])) t
      refine XS.iload X615.here hx rfl (hb hby d9b_88) rfl ?_
      show Steps p.tables e below (T615.setTop (mkF m 90 #[.val (.ref fs), .val (.int fn), .val (.int fc), .val (.int u3), .val (.int u4), .val (.int (1 : Int32))] [(.int (1 : Int32))])) t
      refine XS.ifNo X615.here hx rfl (hb hby d9b_90) rfl ((if0 _ _).trans (feq (by decide)).1) ?_
      show Steps p.tables e below (T615.setTop (mkF m 93 #[.val (.ref fs), .val (.int fn), .val (.int fc), .val (.int u3), .val (.int u4), .val (.int (1 : Int32))] [])) t
      refine XS.aloadN X615.here hx rfl (hb hby d9b_93) rfl rfl ?_
      show Steps p.tables e below (T615.setTop (mkF m 94 #[.val (.ref fs), .val (.int fn), .val (.int fc), .val (.int u3), .val (.int u4), .val (.int (1 : Int32))] [(.ref fs)])) t
      refine XS.aloadN X615.here hx rfl (hb hby d9b_94) rfl rfl ?_
      exact kt
    obtain ⟨T617, X617, e617, st617⟩ := getF X615 hx hZ hown (host := "") (Or.inl (hw _ (List.mem_of_getElem? (i := 67) rfl))) Via.refl e615 fF605 (g := (mkF m 95 #[.val (.ref fs), .val (.int fn), .val (.int fc), .val (.int u3), .val (.int u4), .val (.int (1 : Int32))] [(.ref fs), (.ref fs)])) rfl rfl (hb hby d9b_95)
    have s618 : ∀ t, Steps p.tables e below (T617.setTop (mkF m 101 #[.val (.ref fs), .val (.int fn), .val (.int fc), .val (.int u3), .val (.int u4), .val (.int (1 : Int32))] [(.ref fs), (.int (hd - (1 : Int32))), (.ref fs)])) t → Steps p.tables e below (T617.setTop (mkF m 98 #[.val (.ref fs), .val (.int fn), .val (.int fc), .val (.int u3), .val (.int u4), .val (.int (1 : Int32))] [(.int hd), (.ref fs)])) t := by
      intro t kt
      refine XS.iconst X617.here hx rfl (hb hby d9b_98) ?_
      show Steps p.tables e below (T617.setTop (mkF m 99 #[.val (.ref fs), .val (.int fn), .val (.int fc), .val (.int u3), .val (.int u4), .val (.int (1 : Int32))] [(.int (1 : Int32)), (.int hd), (.ref fs)])) t
      refine XS.isub X617.here hx rfl (hb hby d9b_99) rfl ?_
      show Steps p.tables e below (T617.setTop (mkF m 100 #[.val (.ref fs), .val (.int fn), .val (.int fc), .val (.int u3), .val (.int u4), .val (.int (1 : Int32))] [(.int (hd - (1 : Int32))), (.ref fs)])) t
      refine XS.aloadN X617.here hx rfl (hb hby d9b_100) rfl rfl ?_
      exact kt
    obtain ⟨T619, X619, e619, st619⟩ := getF X617 hx hZ hown (host := "") (Or.inl (hw _ (List.mem_of_getElem? (i := 22) rfl))) Via.refl e617 fF603 (g := (mkF m 101 #[.val (.ref fs), .val (.int fn), .val (.int fc), .val (.int u3), .val (.int u4), .val (.int (1 : Int32))] [(.ref fs), (.int (hd - (1 : Int32))), (.ref fs)])) rfl rfl (hb hby d9b_101)
    have s620 : ∀ t, Steps p.tables e below (T619.setTop (mkF m 108 #[.val (.ref fs), .val (.int fn), .val (.int fc), .val (.int u3), .val (.int u4), .val (.int (1 : Int32))] [(.int ((hd - (1 : Int32)) &&& ((16 : Int32) - (1 : Int32)))), (.ref fs)])) t → Steps p.tables e below (T619.setTop (mkF m 104 #[.val (.ref fs), .val (.int fn), .val (.int fc), .val (.int u3), .val (.int u4), .val (.int (1 : Int32))] [(.ref qa), (.int (hd - (1 : Int32))), (.ref fs)])) t := by
      intro t kt
      refine OwnKit.alen X619 hx hZ e619 fV611 (z := (16 : Int32)) (by decide) (g := (mkF m 104 #[.val (.ref fs), .val (.int fn), .val (.int fc), .val (.int u3), .val (.int u4), .val (.int (1 : Int32))] [(.ref qa), (.int (hd - (1 : Int32))), (.ref fs)])) rfl rfl (hb hby d9b_104) _ ?_
      show Steps p.tables e below (T619.setTop (mkF m 105 #[.val (.ref fs), .val (.int fn), .val (.int fc), .val (.int u3), .val (.int u4), .val (.int (1 : Int32))] [(.int (16 : Int32)), (.int (hd - (1 : Int32))), (.ref fs)])) t
      refine XS.iconst X619.here hx rfl (hb hby d9b_105) ?_
      show Steps p.tables e below (T619.setTop (mkF m 106 #[.val (.ref fs), .val (.int fn), .val (.int fc), .val (.int u3), .val (.int u4), .val (.int (1 : Int32))] [(.int (1 : Int32)), (.int (16 : Int32)), (.int (hd - (1 : Int32))), (.ref fs)])) t
      refine XS.isub X619.here hx rfl (hb hby d9b_106) rfl ?_
      show Steps p.tables e below (T619.setTop (mkF m 107 #[.val (.ref fs), .val (.int fn), .val (.int fc), .val (.int u3), .val (.int u4), .val (.int (1 : Int32))] [(.int ((16 : Int32) - (1 : Int32))), (.int (hd - (1 : Int32))), (.ref fs)])) t
      refine XS.iand X619.here hx rfl (hb hby d9b_107) rfl ?_
      exact kt
    obtain ⟨T621, h621, X621, e621, W621, st621⟩ := putF X619 hx hZ hown (host := "") (Or.inl (hw _ (List.mem_of_getElem? (i := 67) rfl))) Via.refl e619 fF605 fE598 (Or.inl (hw _ (List.mem_of_getElem? (i := 68) rfl))) (hw _ (List.mem_of_getElem? (i := 1) rfl)) (ty := .int) (by decide) rfl rfl (g := (mkF m 108 #[.val (.ref fs), .val (.int fn), .val (.int fc), .val (.int u3), .val (.int u4), .val (.int (1 : Int32))] [(.int ((hd - (1 : Int32)) &&& ((16 : Int32) - (1 : Int32)))), (.ref fs)])) rfl rfl (hb hby d9b_108)
    have Zs621 : n0 ≤ h621.size := Nat.le_trans Zs597 (Keep.of_wr W621).1
    have fE622 := fE598.wr W621
    have fF623 := fF599.other W621 (Or.inr (slot_ne (Or.inl (hw _ (List.mem_of_getElem? (i := 14) rfl))) (Or.inl (hw _ (List.mem_of_getElem? (i := 68) rfl))) (by decide) (t := (.array .int)) (t' := .int) (by decide) (by decide)))
    have fF624 := fF600.other W621 (Or.inr (slot_ne (Or.inl (hw _ (List.mem_of_getElem? (i := 16) rfl))) (Or.inl (hw _ (List.mem_of_getElem? (i := 68) rfl))) (by decide) (t := (.array .int)) (t' := .int) (by decide) (by decide)))
    have fF625 := fF601.other W621 (Or.inr (slot_ne (Or.inl (hw _ (List.mem_of_getElem? (i := 18) rfl))) (Or.inl (hw _ (List.mem_of_getElem? (i := 68) rfl))) (by decide) (t := (.array .int)) (t' := .int) (by decide) (by decide)))
    have fF626 := fF602.other W621 (Or.inr (slot_ne (Or.inl (hw _ (List.mem_of_getElem? (i := 21) rfl))) (Or.inl (hw _ (List.mem_of_getElem? (i := 68) rfl))) (by decide) (t := (.array .boolean)) (t' := .int) (by decide) (by decide)))
    have fF627 := fF603.other W621 (Or.inr (slot_ne (Or.inl (hw _ (List.mem_of_getElem? (i := 23) rfl))) (Or.inl (hw _ (List.mem_of_getElem? (i := 68) rfl))) (by decide) (t := (.array .int)) (t' := .int) (by decide) (by decide)))
    have fF628 := fF604.other W621 (Or.inr (slot_ne (Or.inr (hw _ (List.mem_of_getElem? (i := 25) rfl))) (Or.inl (hw _ (List.mem_of_getElem? (i := 68) rfl))) (by decide) (t := (.object "com/example/witness/witness/logic/IntStack")) (t' := .int) (by decide) (by decide)))
    have fF629 := fF605.same W621
    have fF630 := fF606.other W621 (Or.inr (slot_ne (Or.inl (hw _ (List.mem_of_getElem? (i := 66) rfl))) (Or.inl (hw _ (List.mem_of_getElem? (i := 68) rfl))) (by decide) (t := .int) (t' := .int) (by decide) (by decide)))
    have fV631 := fV607.other W621 (Ne.symm x0)
    have fV632 := fV608.other W621 (Ne.symm x1)
    have fV633 := fV609.other W621 (Ne.symm x2)
    have fV634 := fV610.other W621 (Ne.symm x3)
    have fV635 := fV611.other W621 (Ne.symm x4)
    have K621 : Keep h0 h621 [fs, ca, fa, ta, ka, qa] := K597.wr W621 (Or.inl (List.mem_of_getElem? (i := 0) rfl))
    have N621 := Fr.snoc X621 N597 Gs
    have s636 : ∀ t, Steps p.tables e below (T621.setTop (mkF m 112 #[.val (.ref fs), .val (.int fn), .val (.int fc), .val (.int u3), .val (.int u4), .val (.int (1 : Int32))] [(.ref fs)])) t → Steps p.tables e below (T621.setTop (mkF m 111 #[.val (.ref fs), .val (.int fn), .val (.int fc), .val (.int u3), .val (.int u4), .val (.int (1 : Int32))] [])) t := by
      intro t kt
      refine XS.aloadN X621.here hx rfl (hb hby d9b_111) rfl rfl ?_
      exact kt
    obtain ⟨T637, X637, e637, st637⟩ := getF X621 hx hZ hown (host := "") (Or.inl (hw _ (List.mem_of_getElem? (i := 22) rfl))) Via.refl e621 fF627 (g := (mkF m 112 #[.val (.ref fs), .val (.int fn), .val (.int fc), .val (.int u3), .val (.int u4), .val (.int (1 : Int32))] [(.ref fs)])) rfl rfl (hb hby d9b_112)
    have s638 : ∀ t, Steps p.tables e below (T637.setTop (mkF m 116 #[.val (.ref fs), .val (.int fn), .val (.int fc), .val (.int u3), .val (.int u4), .val (.int (1 : Int32))] [(.ref fs), (.ref qa)])) t → Steps p.tables e below (T637.setTop (mkF m 115 #[.val (.ref fs), .val (.int fn), .val (.int fc), .val (.int u3), .val (.int u4), .val (.int (1 : Int32))] [(.ref qa)])) t := by
      intro t kt
      refine XS.aloadN X637.here hx rfl (hb hby d9b_115) rfl rfl ?_
      exact kt
    obtain ⟨T639, X639, e639, st639⟩ := getF X637 hx hZ hown (host := "") (Or.inl (hw _ (List.mem_of_getElem? (i := 67) rfl))) Via.refl e637 fF629 (g := (mkF m 116 #[.val (.ref fs), .val (.int fn), .val (.int fc), .val (.int u3), .val (.int u4), .val (.int (1 : Int32))] [(.ref fs), (.ref qa)])) rfl rfl (hb hby d9b_116)
    have s640 : ∀ t, Steps p.tables e below (T639.setTop (mkF m 120 #[.val (.ref fs), .val (.int fn), .val (.int fc), .val (.int u3), .val (.int u4), .val (.int (1 : Int32))] [(.int fn), (.int ((hd - (1 : Int32)) &&& ((16 : Int32) - (1 : Int32)))), (.ref qa)])) t → Steps p.tables e below (T639.setTop (mkF m 119 #[.val (.ref fs), .val (.int fn), .val (.int fc), .val (.int u3), .val (.int u4), .val (.int (1 : Int32))] [(.int ((hd - (1 : Int32)) &&& ((16 : Int32) - (1 : Int32)))), (.ref qa)])) t := by
      intro t kt
      refine XS.iloadN X639.here hx rfl (hb hby d9b_119) rfl ?_
      exact kt
    obtain ⟨T641, h641, X641, e641, W641, V641, st641⟩ := OwnKit.stAI X639 hx hZ e639 fV635 (j := ((hd - (1 : Int32)) &&& ((16 : Int32) - (1 : Int32)))) hx0 hx1 (g := (mkF m 120 #[.val (.ref fs), .val (.int fn), .val (.int fc), .val (.int u3), .val (.int u4), .val (.int (1 : Int32))] [(.int fn), (.int ((hd - (1 : Int32)) &&& ((16 : Int32) - (1 : Int32)))), (.ref qa)])) rfl rfl (hb hby d9b_120)
    have Zs641 : n0 ≤ h641.size := Nat.le_trans Zs621 (Keep.of_wr W641).1
    have fE642 := fE622.wr W641
    have fF643 := fF623.other W641 (Or.inl x4)
    have fF644 := fF624.other W641 (Or.inl x4)
    have fF645 := fF625.other W641 (Or.inl x4)
    have fF646 := fF626.other W641 (Or.inl x4)
    have fF647 := fF627.other W641 (Or.inl x4)
    have fF648 := fF628.other W641 (Or.inl x4)
    have fF649 := fF629.other W641 (Or.inl x4)
    have fF650 := fF630.other W641 (Or.inl x4)
    have fV651 := fV631.other W641 x8
    have fV652 := fV632.other W641 x11
    have fV653 := fV633.other W641 x13
    have fV654 := fV634.other W641 x14
    have fV655 := V641
    have K641 : Keep h0 h641 [fs, ca, fa, ta, ka, qa] := K621.wr W641 (Or.inl (List.mem_of_getElem? (i := 5) rfl))
    have N641 := Fr.snoc X641 N621 ge4
    have s656 : ∀ t, Steps p.tables e below (T641.setTop (mkF m 149 #[.val (.ref fs), .val (.int fn), .val (.int fc), .val (.int u3), .val (.int u4), .val (.int (1 : Int32))] [(.ref fs), (.ref fs)])) t → Steps p.tables e below (T641.setTop (mkF m 121 #[.val (.ref fs), .val (.int fn), .val (.int fc), .val (.int u3), .val (.int u4), .val (.int (1 : Int32))] [])) t := by
      intro t kt
      refine XS.goto X641.here hx rfl (pc0 := 121) (pc' := 147) rfl (hb hby d9b_121) (by decide) (by decide) ?_
      show Steps p.tables e below (T641.setTop (mkF m 147 #[.val (.ref fs), .val (.int fn), .val (.int fc), .val (.int u3), .val (.int u4), .val (.int (1 : Int32))] [])) t
      refine XS.aloadN X641.here hx rfl (hb hby d9b_147) rfl rfl ?_
      show Steps p.tables e below (T641.setTop (mkF m 148 #[.val (.ref fs), .val (.int fn), .val (.int fc), .val (.int u3), .val (.int u4), .val (.int (1 : Int32))] [(.ref fs)])) t
      refine XS.dup X641.here hx rfl (hb hby d9b_148) rfl rfl ?_
      exact kt
    obtain ⟨T657, X657, e657, st657⟩ := getF X641 hx hZ hown (host := "") (Or.inl (hw _ (List.mem_of_getElem? (i := 65) rfl))) Via.refl e641 fF650 (g := (mkF m 149 #[.val (.ref fs), .val (.int fn), .val (.int fc), .val (.int u3), .val (.int u4), .val (.int (1 : Int32))] [(.ref fs), (.ref fs)])) rfl rfl (hb hby d9b_149)
    have s658 : ∀ t, Steps p.tables e below (T657.setTop (mkF m 154 #[.val (.ref fs), .val (.int fn), .val (.int fc), .val (.int u3), .val (.int u4), .val (.int (1 : Int32))] [(.int (qd + (1 : Int32))), (.ref fs)])) t → Steps p.tables e below (T657.setTop (mkF m 152 #[.val (.ref fs), .val (.int fn), .val (.int fc), .val (.int u3), .val (.int u4), .val (.int (1 : Int32))] [(.int qd), (.ref fs)])) t := by
      intro t kt
      refine XS.iconst X657.here hx rfl (hb hby d9b_152) ?_
      show Steps p.tables e below (T657.setTop (mkF m 153 #[.val (.ref fs), .val (.int fn), .val (.int fc), .val (.int u3), .val (.int u4), .val (.int (1 : Int32))] [(.int (1 : Int32)), (.int qd), (.ref fs)])) t
      refine XS.iadd X657.here hx rfl (hb hby d9b_153) rfl ?_
      exact kt
    obtain ⟨T659, h659, X659, e659, W659, st659⟩ := putF X657 hx hZ hown (host := "") (Or.inl (hw _ (List.mem_of_getElem? (i := 65) rfl))) Via.refl e657 fF650 fE642 (Or.inl (hw _ (List.mem_of_getElem? (i := 66) rfl))) (hw _ (List.mem_of_getElem? (i := 1) rfl)) (ty := .int) (by decide) rfl rfl (g := (mkF m 154 #[.val (.ref fs), .val (.int fn), .val (.int fc), .val (.int u3), .val (.int u4), .val (.int (1 : Int32))] [(.int (qd + (1 : Int32))), (.ref fs)])) rfl rfl (hb hby d9b_154)
    have Zs659 : n0 ≤ h659.size := Nat.le_trans Zs641 (Keep.of_wr W659).1
    have fE660 := fE642.wr W659
    have fF661 := fF643.other W659 (Or.inr (slot_ne (Or.inl (hw _ (List.mem_of_getElem? (i := 14) rfl))) (Or.inl (hw _ (List.mem_of_getElem? (i := 66) rfl))) (by decide) (t := (.array .int)) (t' := .int) (by decide) (by decide)))
    have fF662 := fF644.other W659 (Or.inr (slot_ne (Or.inl (hw _ (List.mem_of_getElem? (i := 16) rfl))) (Or.inl (hw _ (List.mem_of_getElem? (i := 66) rfl))) (by decide) (t := (.array .int)) (t' := .int) (by decide) (by decide)))
    have fF663 := fF645.other W659 (Or.inr (slot_ne (Or.inl (hw _ (List.mem_of_getElem? (i := 18) rfl))) (Or.inl (hw _ (List.mem_of_getElem? (i := 66) rfl))) (by decide) (t := (.array .int)) (t' := .int) (by decide) (by decide)))
    have fF664 := fF646.other W659 (Or.inr (slot_ne (Or.inl (hw _ (List.mem_of_getElem? (i := 21) rfl))) (Or.inl (hw _ (List.mem_of_getElem? (i := 66) rfl))) (by decide) (t := (.array .boolean)) (t' := .int) (by decide) (by decide)))
    have fF665 := fF647.other W659 (Or.inr (slot_ne (Or.inl (hw _ (List.mem_of_getElem? (i := 23) rfl))) (Or.inl (hw _ (List.mem_of_getElem? (i := 66) rfl))) (by decide) (t := (.array .int)) (t' := .int) (by decide) (by decide)))
    have fF666 := fF648.other W659 (Or.inr (slot_ne (Or.inr (hw _ (List.mem_of_getElem? (i := 25) rfl))) (Or.inl (hw _ (List.mem_of_getElem? (i := 66) rfl))) (by decide) (t := (.object "com/example/witness/witness/logic/IntStack")) (t' := .int) (by decide) (by decide)))
    have fF667 := fF649.other W659 (Or.inr (slot_ne (Or.inl (hw _ (List.mem_of_getElem? (i := 68) rfl))) (Or.inl (hw _ (List.mem_of_getElem? (i := 66) rfl))) (by decide) (t := .int) (t' := .int) (by decide) (by decide)))
    have fF668 := fF650.same W659
    have fV669 := fV651.other W659 (Ne.symm x0)
    have fV670 := fV652.other W659 (Ne.symm x1)
    have fV671 := fV653.other W659 (Ne.symm x2)
    have fV672 := fV654.other W659 (Ne.symm x3)
    have fV673 := fV655.other W659 (Ne.symm x4)
    have K659 : Keep h0 h659 [fs, ca, fa, ta, ka, qa] := K641.wr W659 (Or.inl (List.mem_of_getElem? (i := 0) rfl))
    have N659 := Fr.snoc X659 N641 Gs
    obtain ⟨fs_, hr, hrun, hended, hW, hsame⟩ := X659.leave (hlocks := BodyLoose.notSynchronized Bd) (v := none) (fun _ => rfl)
    refine ⟨_, _, pre0 _ (s426 _ (st427 _ (s428 _ (s551 _ (s552 _ (st553.trans (s554 _ (st555 _ (s556 _ (st557 _ (s558 _ (st559 _ (s560 _ (st561 _ (s576 _ (st577 _ (s578 _ (st579 _ (s594 _ (st595 _ (s596 _ (st597 _ (s612 _ (st613 _ (s614 _ (st615 _ (s616 _ (st617 _ (s618 _ (st619 _ (s620 _ (st621 _ (s636 _ (st637 _ (s638 _ (st639 _ (s640 _ (st641 _ (s656 _ (st657 _ (s658 _ (st659 _ (?_))))))))))))))))))))))))))))))))))))))))))), hrun, hended, _, _, rfl, ?_, ⟨_, rfl⟩, hW, hsame.mono (by decide) (by decide)⟩
    · show Steps p.tables e below (T659.setTop (mkF m 157 #[.val (.ref fs), .val (.int fn), .val (.int fc), .val (.int u3), .val (.int u4), .val (.int (1 : Int32))] [])) _
      exact X659.returnOut hx Bd.returns (hb hby d9b_157) hr
    · show Q9b Z fs ca fa ta ka qa E n N fC fF fG fQ fn fc u3 u4 hd qd h0 n0 _ T659.heap _
      rw [e659]
      exact ⟨rfl, N659, K659, fE660, c1553, f1553, t1553, k1553, nG, O1, hle, hNlt, hn1, fF661, fF662, fF663, fF664, fF665, fF666, fF667, fF668, fV669.as (fun i _ => by show (if i = fn.toInt.toNat then Value.int fc else .int (fC i)) = .int (if i = N then fc else fC i); rw [hNn]; split <;> rfl), ⟨_, fV670.as (g := fun i => .int (if i = fn.toInt.toNat then u3 else gF i)) (fun i _ => by show (if i = fn.toInt.toNat then Value.int u3 else .int (gF i)) = .int (if i = fn.toInt.toNat then u3 else gF i); split <;> rfl)⟩, ⟨_, fV671.as (g := fun i => .int (if i = fn.toInt.toNat then u4 else gG i)) (fun i _ => by show (if i = fn.toInt.toNat then Value.int u4 else .int (gG i)) = .int (if i = fn.toInt.toNat then u4 else gG i); split <;> rfl)⟩, fV672, fV673.as (fun i _ => by show (if i = ((hd - (1 : Int32)) &&& ((16 : Int32) - (1 : Int32))).toInt.toNat then Value.int fn else .int (fQ i)) = .int (if i = ((hd - (1 : Int32)) &&& ((16 : Int32) - (1 : Int32))).toInt.toNat then fn else fQ i); split <;> rfl)⟩
def Q9c (Z : State) (fs ca fa ta ka qa E : Addr) (n N : Nat) (fC fF fG fQ : Nat → Int32) (fn fc u3 u4 hd qd : Int32) (h0 : Heap) (n0 : Nat) (v : Option Value) (h : Heap) (L : List Loc) : Prop := v = none ∧ Fr n0 L ∧ Keep h0 h [fs, ca, fa, ta, ka, qa] ∧ Exa Z h fs "com/example/witness/witness/logic/StepSearch" ∧ ∃ (c1 f1 t1 k1 : Addr) (n1 : Nat), own_ord fs c1 f1 t1 k1 qa E ∧ n ≤ n1 ∧ N < n1 ∧ n1 ≤ 54 ∧ Fld Z h fs "com/example/witness/witness/logic/StepSearch" "costs" "[I" (.ref c1) ∧ Fld Z h fs "com/example/witness/witness/logic/StepSearch" "froms" "[I" (.ref f1) ∧ Fld Z h fs "com/example/witness/witness/logic/StepSearch" "transitions" "[I" (.ref t1) ∧ Fld Z h fs "com/example/witness/witness/logic/StepSearch" "taken" "[Z" (.ref k1) ∧ Fld Z h fs "com/example/witness/witness/logic/StepSearch" "queue" "[I" (.ref qa) ∧ Fld Z h fs "com/example/witness/witness/logic/StepSearch" "reached" "Lcom/example/witness/witness/logic/IntStack;" .null ∧ Fld Z h fs "com/example/witness/witness/logic/StepSearch" "head" "I" (.int hd) ∧ Fld Z h fs "com/example/witness/witness/logic/StepSearch" "queued" "I" (.int (qd + (1 : Int32))) ∧ Ar Z h c1 .int n1 (fun i => .int (if i = N then fc else fC i)) ∧ (∃ g : Nat → Int32, Ar Z h f1 .int n1 (fun i => .int (g i))) ∧ (∃ g : Nat → Int32, Ar Z h t1 .int n1 (fun i => .int (g i))) ∧ Ar Z h k1 .boolean n1 (fun i => .int (0)) ∧ Ar Z h qa .int 16 (fun i => .int (if i = ((hd + qd) &&& ((16 : Int32) - (1 : Int32))).toInt.toNat then fn else fQ i))
set_option maxRecDepth 65536 in
set_option maxHeartbeats 40000000 in
theorem rm9c (l : Launch) (Z : State) (a0 : Array Value) (hw : ∀ d ∈ tables_1, d.before a0 Z = true) (ws : List Jvm.Cond) (fs ca fa ta ka qa E : Addr) (n N : Nat) (fC fF fG fQ : Nat → Int32) (fn fc u3 u4 hd qd : Int32) (h0 : Heap) (n0 : Nat) (Z0 : n0 ≤ h0.size) (Es : Exa Z h0 fs "com/example/witness/witness/logic/StepSearch") (Gs : n0 ≤ fs) (P_costs : Fld Z h0 fs "com/example/witness/witness/logic/StepSearch" "costs" "[I" (.ref ca)) (P_froms : Fld Z h0 fs "com/example/witness/witness/logic/StepSearch" "froms" "[I" (.ref fa)) (P_transitions : Fld Z h0 fs "com/example/witness/witness/logic/StepSearch" "transitions" "[I" (.ref ta)) (P_taken : Fld Z h0 fs "com/example/witness/witness/logic/StepSearch" "taken" "[Z" (.ref ka)) (P_queue : Fld Z h0 fs "com/example/witness/witness/logic/StepSearch" "queue" "[I" (.ref qa)) (P_reached : Fld Z h0 fs "com/example/witness/witness/logic/StepSearch" "reached" "Lcom/example/witness/witness/logic/IntStack;" .null) (P_head : Fld Z h0 fs "com/example/witness/witness/logic/StepSearch" "head" "I" (.int hd)) (P_queued : Fld Z h0 fs "com/example/witness/witness/logic/StepSearch" "queued" "I" (.int qd)) (Vc : Ar Z h0 ca .int n (fun i => .int (fC i))) (Vf : Ar Z h0 fa .int n (fun i => .int (fF i))) (Vt : Ar Z h0 ta .int n (fun i => .int (fG i))) (Vk : Ar Z h0 ka .boolean n (fun i => .int (0))) (Vq : Ar Z h0 qa .int 16 (fun i => .int (fQ i))) (O : own_ord fs ca fa ta ka qa E) (hE : E < h0.size) (hN : fn.toInt = N) (hN27 : N ≤ 27) (hn54 : n ≤ 54) (hC : ∀ i, n ≤ i → fC i = (2147483647 : Int32)) (hc : fc < fC N) (hx0 : 0 ≤ ((hd + qd) &&& ((16 : Int32) - (1 : Int32))).toInt) (hx1 : ((hd + qd) &&& ((16 : Int32) - (1 : Int32))).toInt < 16) (hq16 : ¬ (qd = (16 : Int32))) :
    MetFree l (⟨"com/example/witness/witness/logic/StepSearch", "reach", "(IIIIZ)V"⟩ : MethodName) (head1 (Jvm.Cond.code (⟨"com/example/witness/witness/logic/StepSearch", "reach", "(IIIIZ)V"⟩ : MethodName) prog_124_method_4_code 6 none :: ws) ({ frames := 3, cells := 4, slots := 216, locals := 70 } : Room)) (fun a U => a = #[(.ref fs), (.int fn), (.int fc), (.int u3), (.int u4), (.int (0 : Int32))] ∧ Z.Warmed39 U.vm ∧ U.heap = h0) (fun _ _ _ _ _ => True) (fun _ U o U' => ∃ v L, o = .returned v ∧ Q9c Z fs ca fa ta ka qa E n N fC fF fG fQ fn fc u3 u4 hd qd h0 n0 v U'.heap L ∧ FrameEnd U o U' L ({ frames := 3, cells := 4, slots := 216, locals := 70 } : Room).cells ({ frames := 3, cells := 4, slots := 216, locals := 70 } : Room).slots) := by
  refine MetFree.of_bodySF (plainFor_of_name pn_com_example_witness_witness_logic_StepSearch) hisR ?_
  intro p e s m args0 below meth c s₁ Bd hml0 hP hK
  obtain ⟨rfl, hZ, hh⟩ := hP
  have hx := Bd.exec
  have hby := Bd.bytes
  have hml : c.maxLocals = 6 := hml0
  have hown : s.vm.findClass "com/example/witness/witness/logic/StepSearch" = some m.cls := findClass_of_methodNamed Bd.named
  have hnm := (name_of_methodNamed Bd.named Bd.method).1
  have X0 : Stand p l e ({ frames := 3, cells := 4, slots := 216, locals := 70 } : Room) s m #[(.ref fs), (.int fn), (.int fc), (.int u3), (.int u4), (.int (0 : Int32))] below meth c s₁ [] 0 0 := Stand.of_body Bd
  have e0 : s₁.heap = h0 := by rw [← hh, Bd.state]; rfl
  have N0 := Fr.nil n0
  have pre0 : ∀ t, Steps p.tables e below (s₁.setTop (mkF m 0 #[.val (.ref fs), .val (.int fn), .val (.int fc), .val (.int u3), .val (.int u4), .val (.int (0 : Int32))] [])) t → Steps p.tables e below (s₁.setTop (entryFrame m #[(.ref fs), (.int fn), (.int fc), (.int u3), (.int u4), (.int (0 : Int32))] 6)) t := fun t kk_ => castTop (ef_9c m fs fn fc u3 u4 (0 : Int32)) kk_
  have hNn : fn.toInt.toNat = N := by rw [hN]; rfl
  have hN0 : 0 ≤ fn.toInt := by rw [hN]; exact Int.natCast_nonneg N
  have s674 : ∀ t, Steps p.tables e below (s₁.setTop (mkF m 2 #[.val (.ref fs), .val (.int fn), .val (.int fc), .val (.int u3), .val (.int u4), .val (.int (0 : Int32))] [(.ref fs), (.int fn)])) t → Steps p.tables e below (s₁.setTop (mkF m 0 #[.val (.ref fs), .val (.int fn), .val (.int fc), .val (.int u3), .val (.int u4), .val (.int (0 : Int32))] [])) t := by
    intro t kt
    refine XS.iloadN X0.here hx rfl (hb hby d9c_0) rfl ?_
    show Steps p.tables e below (s₁.setTop (mkF m 1 #[.val (.ref fs), .val (.int fn), .val (.int fc), .val (.int u3), .val (.int u4), .val (.int (0 : Int32))] [(.int fn)])) t
    refine XS.aloadN X0.here hx rfl (hb hby d9c_1) rfl rfl ?_
    exact kt
  obtain ⟨T675, X675, e675, st675⟩ := getF X0 hx hZ hown (host := "") (Or.inl (hw _ (List.mem_of_getElem? (i := 13) rfl))) Via.refl e0 P_costs (g := (mkF m 2 #[.val (.ref fs), .val (.int fn), .val (.int fc), .val (.int u3), .val (.int u4), .val (.int (0 : Int32))] [(.ref fs), (.int fn)])) rfl rfl (hb hby d9c_2)
  have s676 : ∀ t, Steps p.tables e below (T675.setTop (mkF m 6 #[.val (.ref fs), .val (.int fn), .val (.int fc), .val (.int u3), .val (.int u4), .val (.int (0 : Int32))] [(.int (Int32.ofNat n)), (.int fn)])) t → Steps p.tables e below (T675.setTop (mkF m 5 #[.val (.ref fs), .val (.int fn), .val (.int fc), .val (.int u3), .val (.int u4), .val (.int (0 : Int32))] [(.ref ca), (.int fn)])) t := by
    intro t kt
    refine OwnKit.alen X675 hx hZ e675 Vc (z := (Int32.ofNat n)) (own_of hn54) (g := (mkF m 5 #[.val (.ref fs), .val (.int fn), .val (.int fc), .val (.int u3), .val (.int u4), .val (.int (0 : Int32))] [(.ref ca), (.int fn)])) rfl rfl (hb hby d9c_5) _ ?_
    exact kt
  by_cases c677 : fn < (Int32.ofNat n)
  ·
    have s678 : ∀ t, Steps p.tables e below (T675.setTop (mkF m 14 #[.val (.ref fs), .val (.int fn), .val (.int fc), .val (.int u3), .val (.int u4), .val (.int (0 : Int32))] [])) t → Steps p.tables e below (T675.setTop (mkF m 6 #[.val (.ref fs), .val (.int fn), .val (.int fc), .val (.int u3), .val (.int u4), .val (.int (0 : Int32))] [(.int (Int32.ofNat n)), (.int fn)])) t := by
      intro t kt
      refine XS.icmpYes X675.here hx rfl (pc0 := 6) (pc' := 14) rfl (hb hby d9c_6) rfl (tlt c677).1 (by decide) (by decide) ?_
      exact kt
    have hNlt : N < n := (own_ltn n N fn hN hn54).mp c677
    have hle : n ≤ n := Nat.le_refl n
    have hn1 := hn54
    obtain ⟨x0, x1, x2, x3, x4, x5, x6, x7, x8, x9, x10, x11, x12, x13, x14⟩ := own_apart O
    obtain ⟨ge0, ge1, ge2, ge3, ge4⟩ := own_ge O Gs
    have hin : fn.toInt < (n : Int) := by rw [hN]; exact Int.ofNat_lt.mpr hNlt
    have s679 : ∀ t, Steps p.tables e below (T675.setTop (mkF m 16 #[.val (.ref fs), .val (.int fn), .val (.int fc), .val (.int u3), .val (.int u4), .val (.int (0 : Int32))] [(.ref fs), (.int fc)])) t → Steps p.tables e below (T675.setTop (mkF m 14 #[.val (.ref fs), .val (.int fn), .val (.int fc), .val (.int u3), .val (.int u4), .val (.int (0 : Int32))] [])) t := by
      intro t kt
      refine XS.iloadN X675.here hx rfl (hb hby d9c_14) rfl ?_
      show Steps p.tables e below (T675.setTop (mkF m 15 #[.val (.ref fs), .val (.int fn), .val (.int fc), .val (.int u3), .val (.int u4), .val (.int (0 : Int32))] [(.int fc)])) t
      refine XS.aloadN X675.here hx rfl (hb hby d9c_15) rfl rfl ?_
      exact kt
    obtain ⟨T680, X680, e680, st680⟩ := getF X675 hx hZ hown (host := "") (Or.inl (hw _ (List.mem_of_getElem? (i := 13) rfl))) Via.refl e675 P_costs (g := (mkF m 16 #[.val (.ref fs), .val (.int fn), .val (.int fc), .val (.int u3), .val (.int u4), .val (.int (0 : Int32))] [(.ref fs), (.int fc)])) rfl rfl (hb hby d9c_16)
    have s681 : ∀ t, Steps p.tables e below (T680.setTop (mkF m 25 #[.val (.ref fs), .val (.int fn), .val (.int fc), .val (.int u3), .val (.int u4), .val (.int (0 : Int32))] [(.ref fs)])) t → Steps p.tables e below (T680.setTop (mkF m 19 #[.val (.ref fs), .val (.int fn), .val (.int fc), .val (.int u3), .val (.int u4), .val (.int (0 : Int32))] [(.ref ca), (.int fc)])) t := by
      intro t kt
      refine XS.iloadN X680.here hx rfl (hb hby d9c_19) rfl ?_
      show Steps p.tables e below (T680.setTop (mkF m 20 #[.val (.ref fs), .val (.int fn), .val (.int fc), .val (.int u3), .val (.int u4), .val (.int (0 : Int32))] [(.int fn), (.ref ca), (.int fc)])) t
      refine OwnKit.ldAI X680 hx hZ e680 Vc (j := fn) hN0 hin (w := (.int (fC N))) (by show Value.int (fC fn.toInt.toNat) = _; rw [hNn]) (g := (mkF m 20 #[.val (.ref fs), .val (.int fn), .val (.int fc), .val (.int u3), .val (.int u4), .val (.int (0 : Int32))] [(.int fn), (.ref ca), (.int fc)])) rfl rfl (hb hby d9c_20) _ ?_
      show Steps p.tables e below (T680.setTop (mkF m 21 #[.val (.ref fs), .val (.int fn), .val (.int fc), .val (.int u3), .val (.int u4), .val (.int (0 : Int32))] [(.int (fC N)), (.int fc)])) t
      refine XS.icmpNo X680.here hx rfl (hb hby d9c_21) rfl (tlt hc).2.1 ?_
      show Steps p.tables e below (T680.setTop (mkF m 24 #[.val (.ref fs), .val (.int fn), .val (.int fc), .val (.int u3), .val (.int u4), .val (.int (0 : Int32))] [])) t
      refine XS.aloadN X680.here hx rfl (hb hby d9c_24) rfl rfl ?_
      exact kt
    obtain ⟨T682, X682, e682, st682⟩ := getF X680 hx hZ hown (host := "") (Or.inl (hw _ (List.mem_of_getElem? (i := 24) rfl))) Via.refl e680 P_reached (g := (mkF m 25 #[.val (.ref fs), .val (.int fn), .val (.int fc), .val (.int u3), .val (.int u4), .val (.int (0 : Int32))] [(.ref fs)])) rfl rfl (hb hby d9c_25)
    have s683 : ∀ t, Steps p.tables e below (T682.setTop (mkF m 51 #[.val (.ref fs), .val (.int fn), .val (.int fc), .val (.int u3), .val (.int u4), .val (.int (0 : Int32))] [(.ref fs)])) t → Steps p.tables e below (T682.setTop (mkF m 28 #[.val (.ref fs), .val (.int fn), .val (.int fc), .val (.int u3), .val (.int u4), .val (.int (0 : Int32))] [.null])) t := by
      intro t kt
      refine XS.ifnullYes X682.here hx rfl (pc0 := 28) (pc' := 50) rfl (hb hby d9c_28) rfl (by decide) (by decide) ?_
      show Steps p.tables e below (T682.setTop (mkF m 50 #[.val (.ref fs), .val (.int fn), .val (.int fc), .val (.int u3), .val (.int u4), .val (.int (0 : Int32))] [])) t
      refine XS.aloadN X682.here hx rfl (hb hby d9c_50) rfl rfl ?_
      exact kt
    obtain ⟨T684, X684, e684, st684⟩ := getF X682 hx hZ hown (host := "") (Or.inl (hw _ (List.mem_of_getElem? (i := 13) rfl))) Via.refl e682 P_costs (g := (mkF m 51 #[.val (.ref fs), .val (.int fn), .val (.int fc), .val (.int u3), .val (.int u4), .val (.int (0 : Int32))] [(.ref fs)])) rfl rfl (hb hby d9c_51)
    have s685 : ∀ t, Steps p.tables e below (T684.setTop (mkF m 56 #[.val (.ref fs), .val (.int fn), .val (.int fc), .val (.int u3), .val (.int u4), .val (.int (0 : Int32))] [(.int fc), (.int fn), (.ref ca)])) t → Steps p.tables e below (T684.setTop (mkF m 54 #[.val (.ref fs), .val (.int fn), .val (.int fc), .val (.int u3), .val (.int u4), .val (.int (0 : Int32))] [(.ref ca)])) t := by
      intro t kt
      refine XS.iloadN X684.here hx rfl (hb hby d9c_54) rfl ?_
      show Steps p.tables e below (T684.setTop (mkF m 55 #[.val (.ref fs), .val (.int fn), .val (.int fc), .val (.int u3), .val (.int u4), .val (.int (0 : Int32))] [(.int fn), (.ref ca)])) t
      refine XS.iloadN X684.here hx rfl (hb hby d9c_55) rfl ?_
      exact kt
    obtain ⟨T686, h686, X686, e686, W686, V686, st686⟩ := OwnKit.stAI X684 hx hZ e684 Vc (j := fn) hN0 hin (g := (mkF m 56 #[.val (.ref fs), .val (.int fn), .val (.int fc), .val (.int u3), .val (.int u4), .val (.int (0 : Int32))] [(.int fc), (.int fn), (.ref ca)])) rfl rfl (hb hby d9c_56)
    have Zs686 : n0 ≤ h686.size := Nat.le_trans Z0 (Keep.of_wr W686).1
    have fE687 := Es.wr W686
    have fF688 := P_costs.other W686 (Or.inl x0)
    have fF689 := P_froms.other W686 (Or.inl x0)
    have fF690 := P_transitions.other W686 (Or.inl x0)
    have fF691 := P_taken.other W686 (Or.inl x0)
    have fF692 := P_queue.other W686 (Or.inl x0)
    have fF693 := P_reached.other W686 (Or.inl x0)
    have fF694 := P_head.other W686 (Or.inl x0)
    have fF695 := P_queued.other W686 (Or.inl x0)
    have fV696 := V686
    have fV697 := Vf.other W686 (Ne.symm x5)
    have fV698 := Vt.other W686 (Ne.symm x6)
    have fV699 := Vk.other W686 (Ne.symm x7)
    have fV700 := Vq.other W686 (Ne.symm x8)
    have K686 : Keep h0 h686 [fs, ca, fa, ta, ka, qa] := (Keep.refl h0 [fs, ca, fa, ta, ka, qa]).wr W686 (Or.inl (List.mem_of_getElem? (i := 1) rfl))
    have N686 := Fr.snoc X686 N0 ge0
    have s701 : ∀ t, Steps p.tables e below (T686.setTop (mkF m 58 #[.val (.ref fs), .val (.int fn), .val (.int fc), .val (.int u3), .val (.int u4), .val (.int (0 : Int32))] [(.ref fs)])) t → Steps p.tables e below (T686.setTop (mkF m 57 #[.val (.ref fs), .val (.int fn), .val (.int fc), .val (.int u3), .val (.int u4), .val (.int (0 : Int32))] [])) t := by
      intro t kt
      refine XS.aloadN X686.here hx rfl (hb hby d9c_57) rfl rfl ?_
      exact kt
    obtain ⟨T702, X702, e702, st702⟩ := getF X686 hx hZ hown (host := "") (Or.inl (hw _ (List.mem_of_getElem? (i := 15) rfl))) Via.refl e686 fF689 (g := (mkF m 58 #[.val (.ref fs), .val (.int fn), .val (.int fc), .val (.int u3), .val (.int u4), .val (.int (0 : Int32))] [(.ref fs)])) rfl rfl (hb hby d9c_58)
    have s703 : ∀ t, Steps p.tables e below (T702.setTop (mkF m 63 #[.val (.ref fs), .val (.int fn), .val (.int fc), .val (.int u3), .val (.int u4), .val (.int (0 : Int32))] [(.int u3), (.int fn), (.ref fa)])) t → Steps p.tables e below (T702.setTop (mkF m 61 #[.val (.ref fs), .val (.int fn), .val (.int fc), .val (.int u3), .val (.int u4), .val (.int (0 : Int32))] [(.ref fa)])) t := by
      intro t kt
      refine XS.iloadN X702.here hx rfl (hb hby d9c_61) rfl ?_
      show Steps p.tables e below (T702.setTop (mkF m 62 #[.val (.ref fs), .val (.int fn), .val (.int fc), .val (.int u3), .val (.int u4), .val (.int (0 : Int32))] [(.int fn), (.ref fa)])) t
      refine XS.iloadN X702.here hx rfl (hb hby d9c_62) rfl ?_
      exact kt
    obtain ⟨T704, h704, X704, e704, W704, V704, st704⟩ := OwnKit.stAI X702 hx hZ e702 fV697 (j := fn) hN0 hin (g := (mkF m 63 #[.val (.ref fs), .val (.int fn), .val (.int fc), .val (.int u3), .val (.int u4), .val (.int (0 : Int32))] [(.int u3), (.int fn), (.ref fa)])) rfl rfl (hb hby d9c_63)
    have Zs704 : n0 ≤ h704.size := Nat.le_trans Zs686 (Keep.of_wr W704).1
    have fE705 := fE687.wr W704
    have fF706 := fF688.other W704 (Or.inl x1)
    have fF707 := fF689.other W704 (Or.inl x1)
    have fF708 := fF690.other W704 (Or.inl x1)
    have fF709 := fF691.other W704 (Or.inl x1)
    have fF710 := fF692.other W704 (Or.inl x1)
    have fF711 := fF693.other W704 (Or.inl x1)
    have fF712 := fF694.other W704 (Or.inl x1)
    have fF713 := fF695.other W704 (Or.inl x1)
    have fV714 := fV696.other W704 x5
    have fV715 := V704
    have fV716 := fV698.other W704 (Ne.symm x9)
    have fV717 := fV699.other W704 (Ne.symm x10)
    have fV718 := fV700.other W704 (Ne.symm x11)
    have K704 : Keep h0 h704 [fs, ca, fa, ta, ka, qa] := K686.wr W704 (Or.inl (List.mem_of_getElem? (i := 2) rfl))
    have N704 := Fr.snoc X704 N686 ge1
    have s719 : ∀ t, Steps p.tables e below (T704.setTop (mkF m 65 #[.val (.ref fs), .val (.int fn), .val (.int fc), .val (.int u3), .val (.int u4), .val (.int (0 : Int32))] [(.ref fs)])) t → Steps p.tables e below (T704.setTop (mkF m 64 #[.val (.ref fs), .val (.int fn), .val (.int fc), .val (.int u3), .val (.int u4), .val (.int (0 : Int32))] [])) t := by
      intro t kt
      refine XS.aloadN X704.here hx rfl (hb hby d9c_64) rfl rfl ?_
      exact kt
    obtain ⟨T720, X720, e720, st720⟩ := getF X704 hx hZ hown (host := "") (Or.inl (hw _ (List.mem_of_getElem? (i := 17) rfl))) Via.refl e704 fF708 (g := (mkF m 65 #[.val (.ref fs), .val (.int fn), .val (.int fc), .val (.int u3), .val (.int u4), .val (.int (0 : Int32))] [(.ref fs)])) rfl rfl (hb hby d9c_65)
    have s721 : ∀ t, Steps p.tables e below (T720.setTop (mkF m 71 #[.val (.ref fs), .val (.int fn), .val (.int fc), .val (.int u3), .val (.int u4), .val (.int (0 : Int32))] [(.int u4), (.int fn), (.ref ta)])) t → Steps p.tables e below (T720.setTop (mkF m 68 #[.val (.ref fs), .val (.int fn), .val (.int fc), .val (.int u3), .val (.int u4), .val (.int (0 : Int32))] [(.ref ta)])) t := by
      intro t kt
      refine XS.iloadN X720.here hx rfl (hb hby d9c_68) rfl ?_
      show Steps p.tables e below (T720.setTop (mkF m 69 #[.val (.ref fs), .val (.int fn), .val (.int fc), .val (.int u3), .val (.int u4), .val (.int (0 : Int32))] [(.int fn), (.ref ta)])) t
      refine XS.iload X720.here hx rfl (hb hby d9c_69) rfl ?_
      exact kt
    obtain ⟨T722, h722, X722, e722, W722, V722, st722⟩ := OwnKit.stAI X720 hx hZ e720 fV716 (j := fn) hN0 hin (g := (mkF m 71 #[.val (.ref fs), .val (.int fn), .val (.int fc), .val (.int u3), .val (.int u4), .val (.int (0 : Int32))] [(.int u4), (.int fn), (.ref ta)])) rfl rfl (hb hby d9c_71)
    have Zs722 : n0 ≤ h722.size := Nat.le_trans Zs704 (Keep.of_wr W722).1
    have fE723 := fE705.wr W722
    have fF724 := fF706.other W722 (Or.inl x2)
    have fF725 := fF707.other W722 (Or.inl x2)
    have fF726 := fF708.other W722 (Or.inl x2)
    have fF727 := fF709.other W722 (Or.inl x2)
    have fF728 := fF710.other W722 (Or.inl x2)
    have fF729 := fF711.other W722 (Or.inl x2)
    have fF730 := fF712.other W722 (Or.inl x2)
    have fF731 := fF713.other W722 (Or.inl x2)
    have fV732 := fV714.other W722 x6
    have fV733 := fV715.other W722 x9
    have fV734 := V722
    have fV735 := fV717.other W722 (Ne.symm x12)
    have fV736 := fV718.other W722 (Ne.symm x13)
    have K722 : Keep h0 h722 [fs, ca, fa, ta, ka, qa] := K704.wr W722 (Or.inl (List.mem_of_getElem? (i := 3) rfl))
    have N722 := Fr.snoc X722 N704 ge2
    have s737 : ∀ t, Steps p.tables e below (T722.setTop (mkF m 73 #[.val (.ref fs), .val (.int fn), .val (.int fc), .val (.int u3), .val (.int u4), .val (.int (0 : Int32))] [(.ref fs)])) t → Steps p.tables e below (T722.setTop (mkF m 72 #[.val (.ref fs), .val (.int fn), .val (.int fc), .val (.int u3), .val (.int u4), .val (.int (0 : Int32))] [])) t := by
      intro t kt
      refine XS.aloadN X722.here hx rfl (hb hby d9c_72) rfl rfl ?_
      exact kt
    obtain ⟨T738, X738, e738, st738⟩ := getF X722 hx hZ hown (host := "") (Or.inl (hw _ (List.mem_of_getElem? (i := 65) rfl))) Via.refl e722 fF731 (g := (mkF m 73 #[.val (.ref fs), .val (.int fn), .val (.int fc), .val (.int u3), .val (.int u4), .val (.int (0 : Int32))] [(.ref fs)])) rfl rfl (hb hby d9c_73)
    have s739 : ∀ t, Steps p.tables e below (T738.setTop (mkF m 77 #[.val (.ref fs), .val (.int fn), .val (.int fc), .val (.int u3), .val (.int u4), .val (.int (0 : Int32))] [(.ref fs), (.int qd)])) t → Steps p.tables e below (T738.setTop (mkF m 76 #[.val (.ref fs), .val (.int fn), .val (.int fc), .val (.int u3), .val (.int u4), .val (.int (0 : Int32))] [(.int qd)])) t := by
      intro t kt
      refine XS.aloadN X738.here hx rfl (hb hby d9c_76) rfl rfl ?_
      exact kt
    obtain ⟨T740, X740, e740, st740⟩ := getF X738 hx hZ hown (host := "") (Or.inl (hw _ (List.mem_of_getElem? (i := 22) rfl))) Via.refl e738 fF728 (g := (mkF m 77 #[.val (.ref fs), .val (.int fn), .val (.int fc), .val (.int u3), .val (.int u4), .val (.int (0 : Int32))] [(.ref fs), (.int qd)])) rfl rfl (hb hby d9c_77)
    have s741 : ∀ t, Steps p.tables e below (T740.setTop (mkF m 125 #[.val (.ref fs), .val (.int fn), .val (.int fc), .val (.int u3), .val (.int u4), .val (.int (0 : Int32))] [(.ref fs)])) t → Steps p.tables e below (T740.setTop (mkF m 80 #[.val (.ref fs), .val (.int fn), .val (.int fc), .val (.int u3), .val (.int u4), .val (.int (0 : Int32))] [(.ref qa), (.int qd)])) t := by
      intro t kt
      refine OwnKit.alen X740 hx hZ e740 fV736 (z := (16 : Int32)) (by decide) (g := (mkF m 80 #[.val (.ref fs), .val (.int fn), .val (.int fc), .val (.int u3), .val (.int u4), .val (.int (0 : Int32))] [(.ref qa), (.int qd)])) rfl rfl (hb hby d9c_80) _ ?_
      show Steps p.tables e below (T740.setTop (mkF m 81 #[.val (.ref fs), .val (.int fn), .val (.int fc), .val (.int u3), .val (.int u4), .val (.int (0 : Int32))] [(.int (16 : Int32)), (.int qd)])) t
      refine XS.icmpYes X740.here hx rfl (pc0 := 81) (pc' := 88) rfl (hb hby d9c_81) rfl (feq hq16).2 (by decide) (by decide) ?_
      show Steps p.tables e below (T740.setTop (mkF m 88 #[.val (.ref fs), .val (.int fn), .val (.int fc), .val (.int u3), .val (.int u4), .val (.int (0 : Int32))] [])) t
      refine XS.iload X740.here hx rfl (hb hby d9c_88) rfl ?_
      show Steps p.tables e below (T740.setTop (mkF m 90 #[.val (.ref fs), .val (.int fn), .val (.int fc), .val (.int u3), .val (.int u4), .val (.int (0 : Int32))] [(.int (0 : Int32))])) t
      refine XS.ifYes X740.here hx rfl (pc0 := 90) (pc' := 124) rfl (hb hby d9c_90) rfl ((if0 _ _).trans (teq rfl).1) (by decide) (by decide) ?_
      show Steps p.tables e below (T740.setTop (mkF m 124 #[.val (.ref fs), .val (.int fn), .val (.int fc), .val (.int u3), .val (.int u4), .val (.int (0 : Int32))] [])) t
      refine XS.aloadN X740.here hx rfl (hb hby d9c_124) rfl rfl ?_
      exact kt
    obtain ⟨T742, X742, e742, st742⟩ := getF X740 hx hZ hown (host := "") (Or.inl (hw _ (List.mem_of_getElem? (i := 22) rfl))) Via.refl e740 fF728 (g := (mkF m 125 #[.val (.ref fs), .val (.int fn), .val (.int fc), .val (.int u3), .val (.int u4), .val (.int (0 : Int32))] [(.ref fs)])) rfl rfl (hb hby d9c_125)
    have s743 : ∀ t, Steps p.tables e below (T742.setTop (mkF m 129 #[.val (.ref fs), .val (.int fn), .val (.int fc), .val (.int u3), .val (.int u4), .val (.int (0 : Int32))] [(.ref fs), (.ref qa)])) t → Steps p.tables e below (T742.setTop (mkF m 128 #[.val (.ref fs), .val (.int fn), .val (.int fc), .val (.int u3), .val (.int u4), .val (.int (0 : Int32))] [(.ref qa)])) t := by
      intro t kt
      refine XS.aloadN X742.here hx rfl (hb hby d9c_128) rfl rfl ?_
      exact kt
    obtain ⟨T744, X744, e744, st744⟩ := getF X742 hx hZ hown (host := "") (Or.inl (hw _ (List.mem_of_getElem? (i := 67) rfl))) Via.refl e742 fF730 (g := (mkF m 129 #[.val (.ref fs), .val (.int fn), .val (.int fc), .val (.int u3), .val (.int u4), .val (.int (0 : Int32))] [(.ref fs), (.ref qa)])) rfl rfl (hb hby d9c_129)
    have s745 : ∀ t, Steps p.tables e below (T744.setTop (mkF m 133 #[.val (.ref fs), .val (.int fn), .val (.int fc), .val (.int u3), .val (.int u4), .val (.int (0 : Int32))] [(.ref fs), (.int hd), (.ref qa)])) t → Steps p.tables e below (T744.setTop (mkF m 132 #[.val (.ref fs), .val (.int fn), .val (.int fc), .val (.int u3), .val (.int u4), .val (.int (0 : Int32))] [(.int hd), (.ref qa)])) t := by
      intro t kt
      refine XS.aloadN X744.here hx rfl (hb hby d9c_132) rfl rfl ?_
      exact kt
    obtain ⟨T746, X746, e746, st746⟩ := getF X744 hx hZ hown (host := "") (Or.inl (hw _ (List.mem_of_getElem? (i := 65) rfl))) Via.refl e744 fF731 (g := (mkF m 133 #[.val (.ref fs), .val (.int fn), .val (.int fc), .val (.int u3), .val (.int u4), .val (.int (0 : Int32))] [(.ref fs), (.int hd), (.ref qa)])) rfl rfl (hb hby d9c_133)
    have s747 : ∀ t, Steps p.tables e below (T746.setTop (mkF m 138 #[.val (.ref fs), .val (.int fn), .val (.int fc), .val (.int u3), .val (.int u4), .val (.int (0 : Int32))] [(.ref fs), (.int (hd + qd)), (.ref qa)])) t → Steps p.tables e below (T746.setTop (mkF m 136 #[.val (.ref fs), .val (.int fn), .val (.int fc), .val (.int u3), .val (.int u4), .val (.int (0 : Int32))] [(.int qd), (.int hd), (.ref qa)])) t := by
      intro t kt
      refine XS.iadd X746.here hx rfl (hb hby d9c_136) rfl ?_
      show Steps p.tables e below (T746.setTop (mkF m 137 #[.val (.ref fs), .val (.int fn), .val (.int fc), .val (.int u3), .val (.int u4), .val (.int (0 : Int32))] [(.int (hd + qd)), (.ref qa)])) t
      refine XS.aloadN X746.here hx rfl (hb hby d9c_137) rfl rfl ?_
      exact kt
    obtain ⟨T748, X748, e748, st748⟩ := getF X746 hx hZ hown (host := "") (Or.inl (hw _ (List.mem_of_getElem? (i := 22) rfl))) Via.refl e746 fF728 (g := (mkF m 138 #[.val (.ref fs), .val (.int fn), .val (.int fc), .val (.int u3), .val (.int u4), .val (.int (0 : Int32))] [(.ref fs), (.int (hd + qd)), (.ref qa)])) rfl rfl (hb hby d9c_138)
    have s749 : ∀ t, Steps p.tables e below (T748.setTop (mkF m 146 #[.val (.ref fs), .val (.int fn), .val (.int fc), .val (.int u3), .val (.int u4), .val (.int (0 : Int32))] [(.int fn), (.int ((hd + qd) &&& ((16 : Int32) - (1 : Int32)))), (.ref qa)])) t → Steps p.tables e below (T748.setTop (mkF m 141 #[.val (.ref fs), .val (.int fn), .val (.int fc), .val (.int u3), .val (.int u4), .val (.int (0 : Int32))] [(.ref qa), (.int (hd + qd)), (.ref qa)])) t := by
      intro t kt
      refine OwnKit.alen X748 hx hZ e748 fV736 (z := (16 : Int32)) (by decide) (g := (mkF m 141 #[.val (.ref fs), .val (.int fn), .val (.int fc), .val (.int u3), .val (.int u4), .val (.int (0 : Int32))] [(.ref qa), (.int (hd + qd)), (.ref qa)])) rfl rfl (hb hby d9c_141) _ ?_
      show Steps p.tables e below (T748.setTop (mkF m 142 #[.val (.ref fs), .val (.int fn), .val (.int fc), .val (.int u3), .val (.int u4), .val (.int (0 : Int32))] [(.int (16 : Int32)), (.int (hd + qd)), (.ref qa)])) t
      refine XS.iconst X748.here hx rfl (hb hby d9c_142) ?_
      show Steps p.tables e below (T748.setTop (mkF m 143 #[.val (.ref fs), .val (.int fn), .val (.int fc), .val (.int u3), .val (.int u4), .val (.int (0 : Int32))] [(.int (1 : Int32)), (.int (16 : Int32)), (.int (hd + qd)), (.ref qa)])) t
      refine XS.isub X748.here hx rfl (hb hby d9c_143) rfl ?_
      show Steps p.tables e below (T748.setTop (mkF m 144 #[.val (.ref fs), .val (.int fn), .val (.int fc), .val (.int u3), .val (.int u4), .val (.int (0 : Int32))] [(.int ((16 : Int32) - (1 : Int32))), (.int (hd + qd)), (.ref qa)])) t
      refine XS.iand X748.here hx rfl (hb hby d9c_144) rfl ?_
      show Steps p.tables e below (T748.setTop (mkF m 145 #[.val (.ref fs), .val (.int fn), .val (.int fc), .val (.int u3), .val (.int u4), .val (.int (0 : Int32))] [(.int ((hd + qd) &&& ((16 : Int32) - (1 : Int32)))), (.ref qa)])) t
      refine XS.iloadN X748.here hx rfl (hb hby d9c_145) rfl ?_
      exact kt
    obtain ⟨T750, h750, X750, e750, W750, V750, st750⟩ := OwnKit.stAI X748 hx hZ e748 fV736 (j := ((hd + qd) &&& ((16 : Int32) - (1 : Int32)))) hx0 hx1 (g := (mkF m 146 #[.val (.ref fs), .val (.int fn), .val (.int fc), .val (.int u3), .val (.int u4), .val (.int (0 : Int32))] [(.int fn), (.int ((hd + qd) &&& ((16 : Int32) - (1 : Int32)))), (.ref qa)])) rfl rfl (hb hby d9c_146)
    have Zs750 : n0 ≤ h750.size := Nat.le_trans Zs722 (Keep.of_wr W750).1
    have fE751 := fE723.wr W750
    have fF752 := fF724.other W750 (Or.inl x4)
    have fF753 := fF725.other W750 (Or.inl x4)
    have fF754 := fF726.other W750 (Or.inl x4)
    have fF755 := fF727.other W750 (Or.inl x4)
    have fF756 := fF728.other W750 (Or.inl x4)
    have fF757 := fF729.other W750 (Or.inl x4)
    have fF758 := fF730.other W750 (Or.inl x4)
    have fF759 := fF731.other W750 (Or.inl x4)
    have fV760 := fV732.other W750 x8
    have fV761 := fV733.other W750 x11
    have fV762 := fV734.other W750 x13
    have fV763 := fV735.other W750 x14
    have fV764 := V750
    have K750 : Keep h0 h750 [fs, ca, fa, ta, ka, qa] := K722.wr W750 (Or.inl (List.mem_of_getElem? (i := 5) rfl))
    have N750 := Fr.snoc X750 N722 ge4
    have s765 : ∀ t, Steps p.tables e below (T750.setTop (mkF m 149 #[.val (.ref fs), .val (.int fn), .val (.int fc), .val (.int u3), .val (.int u4), .val (.int (0 : Int32))] [(.ref fs), (.ref fs)])) t → Steps p.tables e below (T750.setTop (mkF m 147 #[.val (.ref fs), .val (.int fn), .val (.int fc), .val (.int u3), .val (.int u4), .val (.int (0 : Int32))] [])) t := by
      intro t kt
      refine XS.aloadN X750.here hx rfl (hb hby d9c_147) rfl rfl ?_
      show Steps p.tables e below (T750.setTop (mkF m 148 #[.val (.ref fs), .val (.int fn), .val (.int fc), .val (.int u3), .val (.int u4), .val (.int (0 : Int32))] [(.ref fs)])) t
      refine XS.dup X750.here hx rfl (hb hby d9c_148) rfl rfl ?_
      exact kt
    obtain ⟨T766, X766, e766, st766⟩ := getF X750 hx hZ hown (host := "") (Or.inl (hw _ (List.mem_of_getElem? (i := 65) rfl))) Via.refl e750 fF759 (g := (mkF m 149 #[.val (.ref fs), .val (.int fn), .val (.int fc), .val (.int u3), .val (.int u4), .val (.int (0 : Int32))] [(.ref fs), (.ref fs)])) rfl rfl (hb hby d9c_149)
    have s767 : ∀ t, Steps p.tables e below (T766.setTop (mkF m 154 #[.val (.ref fs), .val (.int fn), .val (.int fc), .val (.int u3), .val (.int u4), .val (.int (0 : Int32))] [(.int (qd + (1 : Int32))), (.ref fs)])) t → Steps p.tables e below (T766.setTop (mkF m 152 #[.val (.ref fs), .val (.int fn), .val (.int fc), .val (.int u3), .val (.int u4), .val (.int (0 : Int32))] [(.int qd), (.ref fs)])) t := by
      intro t kt
      refine XS.iconst X766.here hx rfl (hb hby d9c_152) ?_
      show Steps p.tables e below (T766.setTop (mkF m 153 #[.val (.ref fs), .val (.int fn), .val (.int fc), .val (.int u3), .val (.int u4), .val (.int (0 : Int32))] [(.int (1 : Int32)), (.int qd), (.ref fs)])) t
      refine XS.iadd X766.here hx rfl (hb hby d9c_153) rfl ?_
      exact kt
    obtain ⟨T768, h768, X768, e768, W768, st768⟩ := putF X766 hx hZ hown (host := "") (Or.inl (hw _ (List.mem_of_getElem? (i := 65) rfl))) Via.refl e766 fF759 fE751 (Or.inl (hw _ (List.mem_of_getElem? (i := 66) rfl))) (hw _ (List.mem_of_getElem? (i := 1) rfl)) (ty := .int) (by decide) rfl rfl (g := (mkF m 154 #[.val (.ref fs), .val (.int fn), .val (.int fc), .val (.int u3), .val (.int u4), .val (.int (0 : Int32))] [(.int (qd + (1 : Int32))), (.ref fs)])) rfl rfl (hb hby d9c_154)
    have Zs768 : n0 ≤ h768.size := Nat.le_trans Zs750 (Keep.of_wr W768).1
    have fE769 := fE751.wr W768
    have fF770 := fF752.other W768 (Or.inr (slot_ne (Or.inl (hw _ (List.mem_of_getElem? (i := 14) rfl))) (Or.inl (hw _ (List.mem_of_getElem? (i := 66) rfl))) (by decide) (t := (.array .int)) (t' := .int) (by decide) (by decide)))
    have fF771 := fF753.other W768 (Or.inr (slot_ne (Or.inl (hw _ (List.mem_of_getElem? (i := 16) rfl))) (Or.inl (hw _ (List.mem_of_getElem? (i := 66) rfl))) (by decide) (t := (.array .int)) (t' := .int) (by decide) (by decide)))
    have fF772 := fF754.other W768 (Or.inr (slot_ne (Or.inl (hw _ (List.mem_of_getElem? (i := 18) rfl))) (Or.inl (hw _ (List.mem_of_getElem? (i := 66) rfl))) (by decide) (t := (.array .int)) (t' := .int) (by decide) (by decide)))
    have fF773 := fF755.other W768 (Or.inr (slot_ne (Or.inl (hw _ (List.mem_of_getElem? (i := 21) rfl))) (Or.inl (hw _ (List.mem_of_getElem? (i := 66) rfl))) (by decide) (t := (.array .boolean)) (t' := .int) (by decide) (by decide)))
    have fF774 := fF756.other W768 (Or.inr (slot_ne (Or.inl (hw _ (List.mem_of_getElem? (i := 23) rfl))) (Or.inl (hw _ (List.mem_of_getElem? (i := 66) rfl))) (by decide) (t := (.array .int)) (t' := .int) (by decide) (by decide)))
    have fF775 := fF757.other W768 (Or.inr (slot_ne (Or.inr (hw _ (List.mem_of_getElem? (i := 25) rfl))) (Or.inl (hw _ (List.mem_of_getElem? (i := 66) rfl))) (by decide) (t := (.object "com/example/witness/witness/logic/IntStack")) (t' := .int) (by decide) (by decide)))
    have fF776 := fF758.other W768 (Or.inr (slot_ne (Or.inl (hw _ (List.mem_of_getElem? (i := 68) rfl))) (Or.inl (hw _ (List.mem_of_getElem? (i := 66) rfl))) (by decide) (t := .int) (t' := .int) (by decide) (by decide)))
    have fF777 := fF759.same W768
    have fV778 := fV760.other W768 (Ne.symm x0)
    have fV779 := fV761.other W768 (Ne.symm x1)
    have fV780 := fV762.other W768 (Ne.symm x2)
    have fV781 := fV763.other W768 (Ne.symm x3)
    have fV782 := fV764.other W768 (Ne.symm x4)
    have K768 : Keep h0 h768 [fs, ca, fa, ta, ka, qa] := K750.wr W768 (Or.inl (List.mem_of_getElem? (i := 0) rfl))
    have N768 := Fr.snoc X768 N750 Gs
    obtain ⟨fs_, hr, hrun, hended, hW, hsame⟩ := X768.leave (hlocks := BodyLoose.notSynchronized Bd) (v := none) (fun _ => rfl)
    refine ⟨_, _, pre0 _ (s674 _ (st675 _ (s676 _ (s678 _ (s679 _ (st680 _ (s681 _ (st682 _ (s683 _ (st684 _ (s685 _ (st686 _ (s701 _ (st702 _ (s703 _ (st704 _ (s719 _ (st720 _ (s721 _ (st722 _ (s737 _ (st738 _ (s739 _ (st740 _ (s741 _ (st742 _ (s743 _ (st744 _ (s745 _ (st746 _ (s747 _ (st748 _ (s749 _ (st750 _ (s765 _ (st766 _ (s767 _ (st768 _ (?_))))))))))))))))))))))))))))))))))))))), hrun, hended, _, _, rfl, ?_, ⟨_, rfl⟩, hW, hsame.mono (by decide) (by decide)⟩
    · show Steps p.tables e below (T768.setTop (mkF m 157 #[.val (.ref fs), .val (.int fn), .val (.int fc), .val (.int u3), .val (.int u4), .val (.int (0 : Int32))] [])) _
      exact X768.returnOut hx Bd.returns (hb hby d9c_157) hr
    · show Q9c Z fs ca fa ta ka qa E n N fC fF fG fQ fn fc u3 u4 hd qd h0 n0 _ T768.heap _
      rw [e768]
      exact ⟨rfl, N768, K768, fE769, ca, fa, ta, ka, n, O, hle, hNlt, hn1, fF770, fF771, fF772, fF773, fF774, fF775, fF776, fF777, fV778.as (fun i _ => by show (if i = fn.toInt.toNat then Value.int fc else .int (fC i)) = .int (if i = N then fc else fC i); rw [hNn]; split <;> rfl), ⟨_, fV779.as (g := fun i => .int (if i = fn.toInt.toNat then u3 else fF i)) (fun i _ => by show (if i = fn.toInt.toNat then Value.int u3 else .int (fF i)) = .int (if i = fn.toInt.toNat then u3 else fF i); split <;> rfl)⟩, ⟨_, fV780.as (g := fun i => .int (if i = fn.toInt.toNat then u4 else fG i)) (fun i _ => by show (if i = fn.toInt.toNat then Value.int u4 else .int (fG i)) = .int (if i = fn.toInt.toNat then u4 else fG i); split <;> rfl)⟩, fV781, fV782.as (fun i _ => by show (if i = ((hd + qd) &&& ((16 : Int32) - (1 : Int32))).toInt.toNat then Value.int fn else .int (fQ i)) = .int (if i = ((hd + qd) &&& ((16 : Int32) - (1 : Int32))).toInt.toNat then fn else fQ i); split <;> rfl)⟩
  ·
    have s783 : ∀ t, Steps p.tables e below (T675.setTop (mkF m 9 #[.val (.ref fs), .val (.int fn), .val (.int fc), .val (.int u3), .val (.int u4), .val (.int (0 : Int32))] [])) t → Steps p.tables e below (T675.setTop (mkF m 6 #[.val (.ref fs), .val (.int fn), .val (.int fc), .val (.int u3), .val (.int u4), .val (.int (0 : Int32))] [(.int (Int32.ofNat n)), (.int fn)])) t := by
      intro t kt
      refine XS.icmpNo X675.here hx rfl (hb hby d9c_6) rfl (flt c677).1 ?_
      exact kt
    have hnN : n ≤ N := Nat.le_of_not_lt (mt (own_ltn n N fn hN hn54).mpr c677)
    obtain ⟨xq0, xq1, xq2, xq3, xq4, -⟩ := own_apart O
    have s784 : ∀ t, Steps p.tables e below (T675.setTop (mkF m 11 #[.val (.ref fs), .val (.int fn), .val (.int fc), .val (.int u3), .val (.int u4), .val (.int (0 : Int32))] [(.int fn), (.ref fs)])) t → Steps p.tables e below (T675.setTop (mkF m 9 #[.val (.ref fs), .val (.int fn), .val (.int fc), .val (.int u3), .val (.int u4), .val (.int (0 : Int32))] [])) t := by
      intro t kt
      refine XS.aloadN X675.here hx rfl (hb hby d9c_9) rfl rfl ?_
      show Steps p.tables e below (T675.setTop (mkF m 10 #[.val (.ref fs), .val (.int fn), .val (.int fc), .val (.int u3), .val (.int u4), .val (.int (0 : Int32))] [(.ref fs)])) t
      refine XS.iloadN X675.here hx rfl (hb hby d9c_10) rfl ?_
      exact kt
    obtain ⟨cq785, qa785, qb785⟩ := Es.cell
    obtain ⟨_, _, ⟨T785, L785, k785, n785⟩, -, X785, ⟨Lc785, hQ785, l785, y785, z785⟩, st785⟩ := X675.privateBack hx (y := (⟨"com/example/witness/witness/logic/StepSearch", "grow", "(I)V"⟩ : MethodName)) hown (mvT hZ (hw _ (List.mem_of_getElem? (i := 36) rfl))) (mvT hZ (hw _ (List.mem_of_getElem? (i := 37) rfl))) (Jvm.Kit.selects_private (by decide) (mvT hZ (hw _ (List.mem_of_getElem? (i := 1) rfl))) (mvP hZ (hw _ (List.mem_of_getElem? (i := 38) rfl))) (mvT hZ (hw _ (List.mem_of_getElem? (i := 37) rfl)))) (Cond.privateMethod_at (mvP hZ (hw _ (List.mem_of_getElem? (i := 38) rfl)) (args := #[]))) (mvT hZ (hw _ (List.mem_of_getElem? (i := 39) rfl))) (by decide) (backOf (W := 0) (rm8 l Z a0 hw [] fs ca fa ta ka qa n N fC fF fG fn hd qd h0 n0 Z0 Es Gs P_costs P_froms P_transitions P_taken P_queue P_reached P_head P_queued Vc Vf Vt Vk hN hnN hN27) hZ (hw _ (List.mem_of_getElem? (i := 39) rfl)) (hw _ (List.mem_of_getElem? (i := 2) rfl)) (by decide) (by decide)) (g := (mkF m 11 #[.val (.ref fs), .val (.int fn), .val (.int fc), .val (.int u3), .val (.int u4), .val (.int (0 : Int32))] [(.int fn), (.ref fs)])) rfl (by rw [hml]; rfl) (Steps.refl _) (a := fs) (by rw [e675]; exact qa785) qb785 (argsL := [(.int fn)]) (rest := []) (lenOf pd_oIcV rfl) rfl (by show 2 * 0 + _ ≤ _; exact Nat.le_of_eq rfl) (hb hby d9c_11) (fun _ _ => ⟨rfl, e675, (by decide : 0 + 4 ≤ _), (by decide : 0 + 216 ≤ _)⟩)
    dsimp only [Pt.U, Pt.locs, Pt.cells, Pt.slots] at X785 l785 y785 z785 st785 hQ785
    rw [l785, y785, z785] at X785
    obtain ⟨hv785, N785q, Kc785, E785_, c1785, f1785, t1785, k1785, o785_0, o785_1, o785_2, o785_3, F785_costs, F785_froms, F785_transitions, F785_taken, F785_queue, F785_reached, F785_head, F785_queued, Vc785, ⟨gF, Vf785⟩, ⟨gG, Vt785⟩, Vk785⟩ := hQ785
    rw [hv785] at st785
    have N785 := Fr.app N0 N785q
    obtain ⟨nG, hnG⟩ : ∃ z, z = max (2 * n) (N + 1) := ⟨_, rfl⟩
    rw [← hnG] at Vc785 Vf785 Vt785 Vk785
    have Vd785 : Ar Z T785.heap c1785 .int nG (fun i => .int (fC i)) := Vc785.as (fun i _ => congrArg Value.int (by by_cases q : i < n; exact if_pos q; exact (if_neg q).trans (hC i (Nat.le_of_not_lt q)).symm))
    have Vq785 := Vq.keep Kc785 (ninS (Ne.symm xq4) nin0)
    have K785 : Keep h0 T785.heap [fs, ca, fa, ta, ka, qa] := (Keep.refl h0 [fs, ca, fa, ta, ka, qa]).trans Kc785 (allS (Or.inl (List.mem_of_getElem? (i := 0) rfl)) all0)
    have Zs785 : n0 ≤ T785.heap.size := Nat.le_trans Z0 Kc785.1
    have hNlt : N < nG := by rw [hnG]; omega
    have hle : n ≤ nG := by rw [hnG]; omega
    have hn1 : nG ≤ 54 := by rw [hnG]; omega
    have O1 := own_ord' O Es.lt hE o785_0 o785_1 o785_2 o785_3
    obtain ⟨sz1, sz2, sz3⟩ := own_sz o785_0 o785_1 o785_2 o785_3
    obtain ⟨x0, x1, x2, x3, x4, x5, x6, x7, x8, x9, x10, x11, x12, x13, x14⟩ := own_apart O1
    obtain ⟨ge0, ge1, ge2, ge3, ge4⟩ := own_ge O1 Gs
    have hin : fn.toInt < (nG : Int) := by rw [hN]; exact Int.ofNat_lt.mpr hNlt
    have s786 : ∀ t, Steps p.tables e below (T785.setTop (mkF m 16 #[.val (.ref fs), .val (.int fn), .val (.int fc), .val (.int u3), .val (.int u4), .val (.int (0 : Int32))] [(.ref fs), (.int fc)])) t → Steps p.tables e below (T785.setTop (mkF m 14 #[.val (.ref fs), .val (.int fn), .val (.int fc), .val (.int u3), .val (.int u4), .val (.int (0 : Int32))] [])) t := by
      intro t kt
      refine XS.iloadN X785.here hx rfl (hb hby d9c_14) rfl ?_
      show Steps p.tables e below (T785.setTop (mkF m 15 #[.val (.ref fs), .val (.int fn), .val (.int fc), .val (.int u3), .val (.int u4), .val (.int (0 : Int32))] [(.int fc)])) t
      refine XS.aloadN X785.here hx rfl (hb hby d9c_15) rfl rfl ?_
      exact kt
    obtain ⟨T787, X787, e787, st787⟩ := getF X785 hx hZ hown (host := "") (Or.inl (hw _ (List.mem_of_getElem? (i := 13) rfl))) Via.refl rfl F785_costs (g := (mkF m 16 #[.val (.ref fs), .val (.int fn), .val (.int fc), .val (.int u3), .val (.int u4), .val (.int (0 : Int32))] [(.ref fs), (.int fc)])) rfl rfl (hb hby d9c_16)
    have s788 : ∀ t, Steps p.tables e below (T787.setTop (mkF m 25 #[.val (.ref fs), .val (.int fn), .val (.int fc), .val (.int u3), .val (.int u4), .val (.int (0 : Int32))] [(.ref fs)])) t → Steps p.tables e below (T787.setTop (mkF m 19 #[.val (.ref fs), .val (.int fn), .val (.int fc), .val (.int u3), .val (.int u4), .val (.int (0 : Int32))] [(.ref c1785), (.int fc)])) t := by
      intro t kt
      refine XS.iloadN X787.here hx rfl (hb hby d9c_19) rfl ?_
      show Steps p.tables e below (T787.setTop (mkF m 20 #[.val (.ref fs), .val (.int fn), .val (.int fc), .val (.int u3), .val (.int u4), .val (.int (0 : Int32))] [(.int fn), (.ref c1785), (.int fc)])) t
      refine OwnKit.ldAI X787 hx hZ e787 Vd785 (j := fn) hN0 hin (w := (.int (fC N))) (by show Value.int (fC fn.toInt.toNat) = _; rw [hNn]) (g := (mkF m 20 #[.val (.ref fs), .val (.int fn), .val (.int fc), .val (.int u3), .val (.int u4), .val (.int (0 : Int32))] [(.int fn), (.ref c1785), (.int fc)])) rfl rfl (hb hby d9c_20) _ ?_
      show Steps p.tables e below (T787.setTop (mkF m 21 #[.val (.ref fs), .val (.int fn), .val (.int fc), .val (.int u3), .val (.int u4), .val (.int (0 : Int32))] [(.int (fC N)), (.int fc)])) t
      refine XS.icmpNo X787.here hx rfl (hb hby d9c_21) rfl (tlt hc).2.1 ?_
      show Steps p.tables e below (T787.setTop (mkF m 24 #[.val (.ref fs), .val (.int fn), .val (.int fc), .val (.int u3), .val (.int u4), .val (.int (0 : Int32))] [])) t
      refine XS.aloadN X787.here hx rfl (hb hby d9c_24) rfl rfl ?_
      exact kt
    obtain ⟨T789, X789, e789, st789⟩ := getF X787 hx hZ hown (host := "") (Or.inl (hw _ (List.mem_of_getElem? (i := 24) rfl))) Via.refl e787 F785_reached (g := (mkF m 25 #[.val (.ref fs), .val (.int fn), .val (.int fc), .val (.int u3), .val (.int u4), .val (.int (0 : Int32))] [(.ref fs)])) rfl rfl (hb hby d9c_25)
    have s790 : ∀ t, Steps p.tables e below (T789.setTop (mkF m 51 #[.val (.ref fs), .val (.int fn), .val (.int fc), .val (.int u3), .val (.int u4), .val (.int (0 : Int32))] [(.ref fs)])) t → Steps p.tables e below (T789.setTop (mkF m 28 #[.val (.ref fs), .val (.int fn), .val (.int fc), .val (.int u3), .val (.int u4), .val (.int (0 : Int32))] [.null])) t := by
      intro t kt
      refine XS.ifnullYes X789.here hx rfl (pc0 := 28) (pc' := 50) rfl (hb hby d9c_28) rfl (by decide) (by decide) ?_
      show Steps p.tables e below (T789.setTop (mkF m 50 #[.val (.ref fs), .val (.int fn), .val (.int fc), .val (.int u3), .val (.int u4), .val (.int (0 : Int32))] [])) t
      refine XS.aloadN X789.here hx rfl (hb hby d9c_50) rfl rfl ?_
      exact kt
    obtain ⟨T791, X791, e791, st791⟩ := getF X789 hx hZ hown (host := "") (Or.inl (hw _ (List.mem_of_getElem? (i := 13) rfl))) Via.refl e789 F785_costs (g := (mkF m 51 #[.val (.ref fs), .val (.int fn), .val (.int fc), .val (.int u3), .val (.int u4), .val (.int (0 : Int32))] [(.ref fs)])) rfl rfl (hb hby d9c_51)
    have s792 : ∀ t, Steps p.tables e below (T791.setTop (mkF m 56 #[.val (.ref fs), .val (.int fn), .val (.int fc), .val (.int u3), .val (.int u4), .val (.int (0 : Int32))] [(.int fc), (.int fn), (.ref c1785)])) t → Steps p.tables e below (T791.setTop (mkF m 54 #[.val (.ref fs), .val (.int fn), .val (.int fc), .val (.int u3), .val (.int u4), .val (.int (0 : Int32))] [(.ref c1785)])) t := by
      intro t kt
      refine XS.iloadN X791.here hx rfl (hb hby d9c_54) rfl ?_
      show Steps p.tables e below (T791.setTop (mkF m 55 #[.val (.ref fs), .val (.int fn), .val (.int fc), .val (.int u3), .val (.int u4), .val (.int (0 : Int32))] [(.int fn), (.ref c1785)])) t
      refine XS.iloadN X791.here hx rfl (hb hby d9c_55) rfl ?_
      exact kt
    obtain ⟨T793, h793, X793, e793, W793, V793, st793⟩ := OwnKit.stAI X791 hx hZ e791 Vd785 (j := fn) hN0 hin (g := (mkF m 56 #[.val (.ref fs), .val (.int fn), .val (.int fc), .val (.int u3), .val (.int u4), .val (.int (0 : Int32))] [(.int fc), (.int fn), (.ref c1785)])) rfl rfl (hb hby d9c_56)
    have Zs793 : n0 ≤ h793.size := Nat.le_trans Zs785 (Keep.of_wr W793).1
    have fE794 := E785_.wr W793
    have fF795 := F785_costs.other W793 (Or.inl x0)
    have fF796 := F785_froms.other W793 (Or.inl x0)
    have fF797 := F785_transitions.other W793 (Or.inl x0)
    have fF798 := F785_taken.other W793 (Or.inl x0)
    have fF799 := F785_queue.other W793 (Or.inl x0)
    have fF800 := F785_reached.other W793 (Or.inl x0)
    have fF801 := F785_head.other W793 (Or.inl x0)
    have fF802 := F785_queued.other W793 (Or.inl x0)
    have fV803 := V793
    have fV804 := Vf785.other W793 (Ne.symm x5)
    have fV805 := Vt785.other W793 (Ne.symm x6)
    have fV806 := Vk785.other W793 (Ne.symm x7)
    have fV807 := Vq785.other W793 (Ne.symm x8)
    have K793 : Keep h0 h793 [fs, ca, fa, ta, ka, qa] := K785.wr W793 (Or.inr o785_0)
    have N793 := Fr.snoc X793 N785 ge0
    have s808 : ∀ t, Steps p.tables e below (T793.setTop (mkF m 58 #[.val (.ref fs), .val (.int fn), .val (.int fc), .val (.int u3), .val (.int u4), .val (.int (0 : Int32))] [(.ref fs)])) t → Steps p.tables e below (T793.setTop (mkF m 57 #[.val (.ref fs), .val (.int fn), .val (.int fc), .val (.int u3), .val (.int u4), .val (.int (0 : Int32))] [])) t := by
      intro t kt
      refine XS.aloadN X793.here hx rfl (hb hby d9c_57) rfl rfl ?_
      exact kt
    obtain ⟨T809, X809, e809, st809⟩ := getF X793 hx hZ hown (host := "") (Or.inl (hw _ (List.mem_of_getElem? (i := 15) rfl))) Via.refl e793 fF796 (g := (mkF m 58 #[.val (.ref fs), .val (.int fn), .val (.int fc), .val (.int u3), .val (.int u4), .val (.int (0 : Int32))] [(.ref fs)])) rfl rfl (hb hby d9c_58)
    have s810 : ∀ t, Steps p.tables e below (T809.setTop (mkF m 63 #[.val (.ref fs), .val (.int fn), .val (.int fc), .val (.int u3), .val (.int u4), .val (.int (0 : Int32))] [(.int u3), (.int fn), (.ref f1785)])) t → Steps p.tables e below (T809.setTop (mkF m 61 #[.val (.ref fs), .val (.int fn), .val (.int fc), .val (.int u3), .val (.int u4), .val (.int (0 : Int32))] [(.ref f1785)])) t := by
      intro t kt
      refine XS.iloadN X809.here hx rfl (hb hby d9c_61) rfl ?_
      show Steps p.tables e below (T809.setTop (mkF m 62 #[.val (.ref fs), .val (.int fn), .val (.int fc), .val (.int u3), .val (.int u4), .val (.int (0 : Int32))] [(.int fn), (.ref f1785)])) t
      refine XS.iloadN X809.here hx rfl (hb hby d9c_62) rfl ?_
      exact kt
    obtain ⟨T811, h811, X811, e811, W811, V811, st811⟩ := OwnKit.stAI X809 hx hZ e809 fV804 (j := fn) hN0 hin (g := (mkF m 63 #[.val (.ref fs), .val (.int fn), .val (.int fc), .val (.int u3), .val (.int u4), .val (.int (0 : Int32))] [(.int u3), (.int fn), (.ref f1785)])) rfl rfl (hb hby d9c_63)
    have Zs811 : n0 ≤ h811.size := Nat.le_trans Zs793 (Keep.of_wr W811).1
    have fE812 := fE794.wr W811
    have fF813 := fF795.other W811 (Or.inl x1)
    have fF814 := fF796.other W811 (Or.inl x1)
    have fF815 := fF797.other W811 (Or.inl x1)
    have fF816 := fF798.other W811 (Or.inl x1)
    have fF817 := fF799.other W811 (Or.inl x1)
    have fF818 := fF800.other W811 (Or.inl x1)
    have fF819 := fF801.other W811 (Or.inl x1)
    have fF820 := fF802.other W811 (Or.inl x1)
    have fV821 := fV803.other W811 x5
    have fV822 := V811
    have fV823 := fV805.other W811 (Ne.symm x9)
    have fV824 := fV806.other W811 (Ne.symm x10)
    have fV825 := fV807.other W811 (Ne.symm x11)
    have K811 : Keep h0 h811 [fs, ca, fa, ta, ka, qa] := K793.wr W811 (Or.inr sz1)
    have N811 := Fr.snoc X811 N793 ge1
    have s826 : ∀ t, Steps p.tables e below (T811.setTop (mkF m 65 #[.val (.ref fs), .val (.int fn), .val (.int fc), .val (.int u3), .val (.int u4), .val (.int (0 : Int32))] [(.ref fs)])) t → Steps p.tables e below (T811.setTop (mkF m 64 #[.val (.ref fs), .val (.int fn), .val (.int fc), .val (.int u3), .val (.int u4), .val (.int (0 : Int32))] [])) t := by
      intro t kt
      refine XS.aloadN X811.here hx rfl (hb hby d9c_64) rfl rfl ?_
      exact kt
    obtain ⟨T827, X827, e827, st827⟩ := getF X811 hx hZ hown (host := "") (Or.inl (hw _ (List.mem_of_getElem? (i := 17) rfl))) Via.refl e811 fF815 (g := (mkF m 65 #[.val (.ref fs), .val (.int fn), .val (.int fc), .val (.int u3), .val (.int u4), .val (.int (0 : Int32))] [(.ref fs)])) rfl rfl (hb hby d9c_65)
    have s828 : ∀ t, Steps p.tables e below (T827.setTop (mkF m 71 #[.val (.ref fs), .val (.int fn), .val (.int fc), .val (.int u3), .val (.int u4), .val (.int (0 : Int32))] [(.int u4), (.int fn), (.ref t1785)])) t → Steps p.tables e below (T827.setTop (mkF m 68 #[.val (.ref fs), .val (.int fn), .val (.int fc), .val (.int u3), .val (.int u4), .val (.int (0 : Int32))] [(.ref t1785)])) t := by
      intro t kt
      refine XS.iloadN X827.here hx rfl (hb hby d9c_68) rfl ?_
      show Steps p.tables e below (T827.setTop (mkF m 69 #[.val (.ref fs), .val (.int fn), .val (.int fc), .val (.int u3), .val (.int u4), .val (.int (0 : Int32))] [(.int fn), (.ref t1785)])) t
      refine XS.iload X827.here hx rfl (hb hby d9c_69) rfl ?_
      exact kt
    obtain ⟨T829, h829, X829, e829, W829, V829, st829⟩ := OwnKit.stAI X827 hx hZ e827 fV823 (j := fn) hN0 hin (g := (mkF m 71 #[.val (.ref fs), .val (.int fn), .val (.int fc), .val (.int u3), .val (.int u4), .val (.int (0 : Int32))] [(.int u4), (.int fn), (.ref t1785)])) rfl rfl (hb hby d9c_71)
    have Zs829 : n0 ≤ h829.size := Nat.le_trans Zs811 (Keep.of_wr W829).1
    have fE830 := fE812.wr W829
    have fF831 := fF813.other W829 (Or.inl x2)
    have fF832 := fF814.other W829 (Or.inl x2)
    have fF833 := fF815.other W829 (Or.inl x2)
    have fF834 := fF816.other W829 (Or.inl x2)
    have fF835 := fF817.other W829 (Or.inl x2)
    have fF836 := fF818.other W829 (Or.inl x2)
    have fF837 := fF819.other W829 (Or.inl x2)
    have fF838 := fF820.other W829 (Or.inl x2)
    have fV839 := fV821.other W829 x6
    have fV840 := fV822.other W829 x9
    have fV841 := V829
    have fV842 := fV824.other W829 (Ne.symm x12)
    have fV843 := fV825.other W829 (Ne.symm x13)
    have K829 : Keep h0 h829 [fs, ca, fa, ta, ka, qa] := K811.wr W829 (Or.inr sz2)
    have N829 := Fr.snoc X829 N811 ge2
    have s844 : ∀ t, Steps p.tables e below (T829.setTop (mkF m 73 #[.val (.ref fs), .val (.int fn), .val (.int fc), .val (.int u3), .val (.int u4), .val (.int (0 : Int32))] [(.ref fs)])) t → Steps p.tables e below (T829.setTop (mkF m 72 #[.val (.ref fs), .val (.int fn), .val (.int fc), .val (.int u3), .val (.int u4), .val (.int (0 : Int32))] [])) t := by
      intro t kt
      refine XS.aloadN X829.here hx rfl (hb hby d9c_72) rfl rfl ?_
      exact kt
    obtain ⟨T845, X845, e845, st845⟩ := getF X829 hx hZ hown (host := "") (Or.inl (hw _ (List.mem_of_getElem? (i := 65) rfl))) Via.refl e829 fF838 (g := (mkF m 73 #[.val (.ref fs), .val (.int fn), .val (.int fc), .val (.int u3), .val (.int u4), .val (.int (0 : Int32))] [(.ref fs)])) rfl rfl (hb hby d9c_73)
    have s846 : ∀ t, Steps p.tables e below (T845.setTop (mkF m 77 #[.val (.ref fs), .val (.int fn), .val (.int fc), .val (.int u3), .val (.int u4), .val (.int (0 : Int32))] [(.ref fs), (.int qd)])) t → Steps p.tables e below (T845.setTop (mkF m 76 #[.val (.ref fs), .val (.int fn), .val (.int fc), .val (.int u3), .val (.int u4), .val (.int (0 : Int32))] [(.int qd)])) t := by
      intro t kt
      refine XS.aloadN X845.here hx rfl (hb hby d9c_76) rfl rfl ?_
      exact kt
    obtain ⟨T847, X847, e847, st847⟩ := getF X845 hx hZ hown (host := "") (Or.inl (hw _ (List.mem_of_getElem? (i := 22) rfl))) Via.refl e845 fF835 (g := (mkF m 77 #[.val (.ref fs), .val (.int fn), .val (.int fc), .val (.int u3), .val (.int u4), .val (.int (0 : Int32))] [(.ref fs), (.int qd)])) rfl rfl (hb hby d9c_77)
    have s848 : ∀ t, Steps p.tables e below (T847.setTop (mkF m 125 #[.val (.ref fs), .val (.int fn), .val (.int fc), .val (.int u3), .val (.int u4), .val (.int (0 : Int32))] [(.ref fs)])) t → Steps p.tables e below (T847.setTop (mkF m 80 #[.val (.ref fs), .val (.int fn), .val (.int fc), .val (.int u3), .val (.int u4), .val (.int (0 : Int32))] [(.ref qa), (.int qd)])) t := by
      intro t kt
      refine OwnKit.alen X847 hx hZ e847 fV843 (z := (16 : Int32)) (by decide) (g := (mkF m 80 #[.val (.ref fs), .val (.int fn), .val (.int fc), .val (.int u3), .val (.int u4), .val (.int (0 : Int32))] [(.ref qa), (.int qd)])) rfl rfl (hb hby d9c_80) _ ?_
      show Steps p.tables e below (T847.setTop (mkF m 81 #[.val (.ref fs), .val (.int fn), .val (.int fc), .val (.int u3), .val (.int u4), .val (.int (0 : Int32))] [(.int (16 : Int32)), (.int qd)])) t
      refine XS.icmpYes X847.here hx rfl (pc0 := 81) (pc' := 88) rfl (hb hby d9c_81) rfl (feq hq16).2 (by decide) (by decide) ?_
      show Steps p.tables e below (T847.setTop (mkF m 88 #[.val (.ref fs), .val (.int fn), .val (.int fc), .val (.int u3), .val (.int u4), .val (.int (0 : Int32))] [])) t
      refine XS.iload X847.here hx rfl (hb hby d9c_88) rfl ?_
      show Steps p.tables e below (T847.setTop (mkF m 90 #[.val (.ref fs), .val (.int fn), .val (.int fc), .val (.int u3), .val (.int u4), .val (.int (0 : Int32))] [(.int (0 : Int32))])) t
      refine XS.ifYes X847.here hx rfl (pc0 := 90) (pc' := 124) rfl (hb hby d9c_90) rfl ((if0 _ _).trans (teq rfl).1) (by decide) (by decide) ?_
      show Steps p.tables e below (T847.setTop (mkF m 124 #[.val (.ref fs), .val (.int fn), .val (.int fc), .val (.int u3), .val (.int u4), .val (.int (0 : Int32))] [])) t
      refine XS.aloadN X847.here hx rfl (hb hby d9c_124) rfl rfl ?_
      exact kt
    obtain ⟨T849, X849, e849, st849⟩ := getF X847 hx hZ hown (host := "") (Or.inl (hw _ (List.mem_of_getElem? (i := 22) rfl))) Via.refl e847 fF835 (g := (mkF m 125 #[.val (.ref fs), .val (.int fn), .val (.int fc), .val (.int u3), .val (.int u4), .val (.int (0 : Int32))] [(.ref fs)])) rfl rfl (hb hby d9c_125)
    have s850 : ∀ t, Steps p.tables e below (T849.setTop (mkF m 129 #[.val (.ref fs), .val (.int fn), .val (.int fc), .val (.int u3), .val (.int u4), .val (.int (0 : Int32))] [(.ref fs), (.ref qa)])) t → Steps p.tables e below (T849.setTop (mkF m 128 #[.val (.ref fs), .val (.int fn), .val (.int fc), .val (.int u3), .val (.int u4), .val (.int (0 : Int32))] [(.ref qa)])) t := by
      intro t kt
      refine XS.aloadN X849.here hx rfl (hb hby d9c_128) rfl rfl ?_
      exact kt
    obtain ⟨T851, X851, e851, st851⟩ := getF X849 hx hZ hown (host := "") (Or.inl (hw _ (List.mem_of_getElem? (i := 67) rfl))) Via.refl e849 fF837 (g := (mkF m 129 #[.val (.ref fs), .val (.int fn), .val (.int fc), .val (.int u3), .val (.int u4), .val (.int (0 : Int32))] [(.ref fs), (.ref qa)])) rfl rfl (hb hby d9c_129)
    have s852 : ∀ t, Steps p.tables e below (T851.setTop (mkF m 133 #[.val (.ref fs), .val (.int fn), .val (.int fc), .val (.int u3), .val (.int u4), .val (.int (0 : Int32))] [(.ref fs), (.int hd), (.ref qa)])) t → Steps p.tables e below (T851.setTop (mkF m 132 #[.val (.ref fs), .val (.int fn), .val (.int fc), .val (.int u3), .val (.int u4), .val (.int (0 : Int32))] [(.int hd), (.ref qa)])) t := by
      intro t kt
      refine XS.aloadN X851.here hx rfl (hb hby d9c_132) rfl rfl ?_
      exact kt
    obtain ⟨T853, X853, e853, st853⟩ := getF X851 hx hZ hown (host := "") (Or.inl (hw _ (List.mem_of_getElem? (i := 65) rfl))) Via.refl e851 fF838 (g := (mkF m 133 #[.val (.ref fs), .val (.int fn), .val (.int fc), .val (.int u3), .val (.int u4), .val (.int (0 : Int32))] [(.ref fs), (.int hd), (.ref qa)])) rfl rfl (hb hby d9c_133)
    have s854 : ∀ t, Steps p.tables e below (T853.setTop (mkF m 138 #[.val (.ref fs), .val (.int fn), .val (.int fc), .val (.int u3), .val (.int u4), .val (.int (0 : Int32))] [(.ref fs), (.int (hd + qd)), (.ref qa)])) t → Steps p.tables e below (T853.setTop (mkF m 136 #[.val (.ref fs), .val (.int fn), .val (.int fc), .val (.int u3), .val (.int u4), .val (.int (0 : Int32))] [(.int qd), (.int hd), (.ref qa)])) t := by
      intro t kt
      refine XS.iadd X853.here hx rfl (hb hby d9c_136) rfl ?_
      show Steps p.tables e below (T853.setTop (mkF m 137 #[.val (.ref fs), .val (.int fn), .val (.int fc), .val (.int u3), .val (.int u4), .val (.int (0 : Int32))] [(.int (hd + qd)), (.ref qa)])) t
      refine XS.aloadN X853.here hx rfl (hb hby d9c_137) rfl rfl ?_
      exact kt
    obtain ⟨T855, X855, e855, st855⟩ := getF X853 hx hZ hown (host := "") (Or.inl (hw _ (List.mem_of_getElem? (i := 22) rfl))) Via.refl e853 fF835 (g := (mkF m 138 #[.val (.ref fs), .val (.int fn), .val (.int fc), .val (.int u3), .val (.int u4), .val (.int (0 : Int32))] [(.ref fs), (.int (hd + qd)), (.ref qa)])) rfl rfl (hb hby d9c_138)
    have s856 : ∀ t, Steps p.tables e below (T855.setTop (mkF m 146 #[.val (.ref fs), .val (.int fn), .val (.int fc), .val (.int u3), .val (.int u4), .val (.int (0 : Int32))] [(.int fn), (.int ((hd + qd) &&& ((16 : Int32) - (1 : Int32)))), (.ref qa)])) t → Steps p.tables e below (T855.setTop (mkF m 141 #[.val (.ref fs), .val (.int fn), .val (.int fc), .val (.int u3), .val (.int u4), .val (.int (0 : Int32))] [(.ref qa), (.int (hd + qd)), (.ref qa)])) t := by
      intro t kt
      refine OwnKit.alen X855 hx hZ e855 fV843 (z := (16 : Int32)) (by decide) (g := (mkF m 141 #[.val (.ref fs), .val (.int fn), .val (.int fc), .val (.int u3), .val (.int u4), .val (.int (0 : Int32))] [(.ref qa), (.int (hd + qd)), (.ref qa)])) rfl rfl (hb hby d9c_141) _ ?_
      show Steps p.tables e below (T855.setTop (mkF m 142 #[.val (.ref fs), .val (.int fn), .val (.int fc), .val (.int u3), .val (.int u4), .val (.int (0 : Int32))] [(.int (16 : Int32)), (.int (hd + qd)), (.ref qa)])) t
      refine XS.iconst X855.here hx rfl (hb hby d9c_142) ?_
      show Steps p.tables e below (T855.setTop (mkF m 143 #[.val (.ref fs), .val (.int fn), .val (.int fc), .val (.int u3), .val (.int u4), .val (.int (0 : Int32))] [(.int (1 : Int32)), (.int (16 : Int32)), (.int (hd + qd)), (.ref qa)])) t
      refine XS.isub X855.here hx rfl (hb hby d9c_143) rfl ?_
      show Steps p.tables e below (T855.setTop (mkF m 144 #[.val (.ref fs), .val (.int fn), .val (.int fc), .val (.int u3), .val (.int u4), .val (.int (0 : Int32))] [(.int ((16 : Int32) - (1 : Int32))), (.int (hd + qd)), (.ref qa)])) t
      refine XS.iand X855.here hx rfl (hb hby d9c_144) rfl ?_
      show Steps p.tables e below (T855.setTop (mkF m 145 #[.val (.ref fs), .val (.int fn), .val (.int fc), .val (.int u3), .val (.int u4), .val (.int (0 : Int32))] [(.int ((hd + qd) &&& ((16 : Int32) - (1 : Int32)))), (.ref qa)])) t
      refine XS.iloadN X855.here hx rfl (hb hby d9c_145) rfl ?_
      exact kt
    obtain ⟨T857, h857, X857, e857, W857, V857, st857⟩ := OwnKit.stAI X855 hx hZ e855 fV843 (j := ((hd + qd) &&& ((16 : Int32) - (1 : Int32)))) hx0 hx1 (g := (mkF m 146 #[.val (.ref fs), .val (.int fn), .val (.int fc), .val (.int u3), .val (.int u4), .val (.int (0 : Int32))] [(.int fn), (.int ((hd + qd) &&& ((16 : Int32) - (1 : Int32)))), (.ref qa)])) rfl rfl (hb hby d9c_146)
    have Zs857 : n0 ≤ h857.size := Nat.le_trans Zs829 (Keep.of_wr W857).1
    have fE858 := fE830.wr W857
    have fF859 := fF831.other W857 (Or.inl x4)
    have fF860 := fF832.other W857 (Or.inl x4)
    have fF861 := fF833.other W857 (Or.inl x4)
    have fF862 := fF834.other W857 (Or.inl x4)
    have fF863 := fF835.other W857 (Or.inl x4)
    have fF864 := fF836.other W857 (Or.inl x4)
    have fF865 := fF837.other W857 (Or.inl x4)
    have fF866 := fF838.other W857 (Or.inl x4)
    have fV867 := fV839.other W857 x8
    have fV868 := fV840.other W857 x11
    have fV869 := fV841.other W857 x13
    have fV870 := fV842.other W857 x14
    have fV871 := V857
    have K857 : Keep h0 h857 [fs, ca, fa, ta, ka, qa] := K829.wr W857 (Or.inl (List.mem_of_getElem? (i := 5) rfl))
    have N857 := Fr.snoc X857 N829 ge4
    have s872 : ∀ t, Steps p.tables e below (T857.setTop (mkF m 149 #[.val (.ref fs), .val (.int fn), .val (.int fc), .val (.int u3), .val (.int u4), .val (.int (0 : Int32))] [(.ref fs), (.ref fs)])) t → Steps p.tables e below (T857.setTop (mkF m 147 #[.val (.ref fs), .val (.int fn), .val (.int fc), .val (.int u3), .val (.int u4), .val (.int (0 : Int32))] [])) t := by
      intro t kt
      refine XS.aloadN X857.here hx rfl (hb hby d9c_147) rfl rfl ?_
      show Steps p.tables e below (T857.setTop (mkF m 148 #[.val (.ref fs), .val (.int fn), .val (.int fc), .val (.int u3), .val (.int u4), .val (.int (0 : Int32))] [(.ref fs)])) t
      refine XS.dup X857.here hx rfl (hb hby d9c_148) rfl rfl ?_
      exact kt
    obtain ⟨T873, X873, e873, st873⟩ := getF X857 hx hZ hown (host := "") (Or.inl (hw _ (List.mem_of_getElem? (i := 65) rfl))) Via.refl e857 fF866 (g := (mkF m 149 #[.val (.ref fs), .val (.int fn), .val (.int fc), .val (.int u3), .val (.int u4), .val (.int (0 : Int32))] [(.ref fs), (.ref fs)])) rfl rfl (hb hby d9c_149)
    have s874 : ∀ t, Steps p.tables e below (T873.setTop (mkF m 154 #[.val (.ref fs), .val (.int fn), .val (.int fc), .val (.int u3), .val (.int u4), .val (.int (0 : Int32))] [(.int (qd + (1 : Int32))), (.ref fs)])) t → Steps p.tables e below (T873.setTop (mkF m 152 #[.val (.ref fs), .val (.int fn), .val (.int fc), .val (.int u3), .val (.int u4), .val (.int (0 : Int32))] [(.int qd), (.ref fs)])) t := by
      intro t kt
      refine XS.iconst X873.here hx rfl (hb hby d9c_152) ?_
      show Steps p.tables e below (T873.setTop (mkF m 153 #[.val (.ref fs), .val (.int fn), .val (.int fc), .val (.int u3), .val (.int u4), .val (.int (0 : Int32))] [(.int (1 : Int32)), (.int qd), (.ref fs)])) t
      refine XS.iadd X873.here hx rfl (hb hby d9c_153) rfl ?_
      exact kt
    obtain ⟨T875, h875, X875, e875, W875, st875⟩ := putF X873 hx hZ hown (host := "") (Or.inl (hw _ (List.mem_of_getElem? (i := 65) rfl))) Via.refl e873 fF866 fE858 (Or.inl (hw _ (List.mem_of_getElem? (i := 66) rfl))) (hw _ (List.mem_of_getElem? (i := 1) rfl)) (ty := .int) (by decide) rfl rfl (g := (mkF m 154 #[.val (.ref fs), .val (.int fn), .val (.int fc), .val (.int u3), .val (.int u4), .val (.int (0 : Int32))] [(.int (qd + (1 : Int32))), (.ref fs)])) rfl rfl (hb hby d9c_154)
    have Zs875 : n0 ≤ h875.size := Nat.le_trans Zs857 (Keep.of_wr W875).1
    have fE876 := fE858.wr W875
    have fF877 := fF859.other W875 (Or.inr (slot_ne (Or.inl (hw _ (List.mem_of_getElem? (i := 14) rfl))) (Or.inl (hw _ (List.mem_of_getElem? (i := 66) rfl))) (by decide) (t := (.array .int)) (t' := .int) (by decide) (by decide)))
    have fF878 := fF860.other W875 (Or.inr (slot_ne (Or.inl (hw _ (List.mem_of_getElem? (i := 16) rfl))) (Or.inl (hw _ (List.mem_of_getElem? (i := 66) rfl))) (by decide) (t := (.array .int)) (t' := .int) (by decide) (by decide)))
    have fF879 := fF861.other W875 (Or.inr (slot_ne (Or.inl (hw _ (List.mem_of_getElem? (i := 18) rfl))) (Or.inl (hw _ (List.mem_of_getElem? (i := 66) rfl))) (by decide) (t := (.array .int)) (t' := .int) (by decide) (by decide)))
    have fF880 := fF862.other W875 (Or.inr (slot_ne (Or.inl (hw _ (List.mem_of_getElem? (i := 21) rfl))) (Or.inl (hw _ (List.mem_of_getElem? (i := 66) rfl))) (by decide) (t := (.array .boolean)) (t' := .int) (by decide) (by decide)))
    have fF881 := fF863.other W875 (Or.inr (slot_ne (Or.inl (hw _ (List.mem_of_getElem? (i := 23) rfl))) (Or.inl (hw _ (List.mem_of_getElem? (i := 66) rfl))) (by decide) (t := (.array .int)) (t' := .int) (by decide) (by decide)))
    have fF882 := fF864.other W875 (Or.inr (slot_ne (Or.inr (hw _ (List.mem_of_getElem? (i := 25) rfl))) (Or.inl (hw _ (List.mem_of_getElem? (i := 66) rfl))) (by decide) (t := (.object "com/example/witness/witness/logic/IntStack")) (t' := .int) (by decide) (by decide)))
    have fF883 := fF865.other W875 (Or.inr (slot_ne (Or.inl (hw _ (List.mem_of_getElem? (i := 68) rfl))) (Or.inl (hw _ (List.mem_of_getElem? (i := 66) rfl))) (by decide) (t := .int) (t' := .int) (by decide) (by decide)))
    have fF884 := fF866.same W875
    have fV885 := fV867.other W875 (Ne.symm x0)
    have fV886 := fV868.other W875 (Ne.symm x1)
    have fV887 := fV869.other W875 (Ne.symm x2)
    have fV888 := fV870.other W875 (Ne.symm x3)
    have fV889 := fV871.other W875 (Ne.symm x4)
    have K875 : Keep h0 h875 [fs, ca, fa, ta, ka, qa] := K857.wr W875 (Or.inl (List.mem_of_getElem? (i := 0) rfl))
    have N875 := Fr.snoc X875 N857 Gs
    obtain ⟨fs_, hr, hrun, hended, hW, hsame⟩ := X875.leave (hlocks := BodyLoose.notSynchronized Bd) (v := none) (fun _ => rfl)
    refine ⟨_, _, pre0 _ (s674 _ (st675 _ (s676 _ (s783 _ (s784 _ (st785.trans (s786 _ (st787 _ (s788 _ (st789 _ (s790 _ (st791 _ (s792 _ (st793 _ (s808 _ (st809 _ (s810 _ (st811 _ (s826 _ (st827 _ (s828 _ (st829 _ (s844 _ (st845 _ (s846 _ (st847 _ (s848 _ (st849 _ (s850 _ (st851 _ (s852 _ (st853 _ (s854 _ (st855 _ (s856 _ (st857 _ (s872 _ (st873 _ (s874 _ (st875 _ (?_))))))))))))))))))))))))))))))))))))))))), hrun, hended, _, _, rfl, ?_, ⟨_, rfl⟩, hW, hsame.mono (by decide) (by decide)⟩
    · show Steps p.tables e below (T875.setTop (mkF m 157 #[.val (.ref fs), .val (.int fn), .val (.int fc), .val (.int u3), .val (.int u4), .val (.int (0 : Int32))] [])) _
      exact X875.returnOut hx Bd.returns (hb hby d9c_157) hr
    · show Q9c Z fs ca fa ta ka qa E n N fC fF fG fQ fn fc u3 u4 hd qd h0 n0 _ T875.heap _
      rw [e875]
      exact ⟨rfl, N875, K875, fE876, c1785, f1785, t1785, k1785, nG, O1, hle, hNlt, hn1, fF877, fF878, fF879, fF880, fF881, fF882, fF883, fF884, fV885.as (fun i _ => by show (if i = fn.toInt.toNat then Value.int fc else .int (fC i)) = .int (if i = N then fc else fC i); rw [hNn]; split <;> rfl), ⟨_, fV886.as (g := fun i => .int (if i = fn.toInt.toNat then u3 else gF i)) (fun i _ => by show (if i = fn.toInt.toNat then Value.int u3 else .int (gF i)) = .int (if i = fn.toInt.toNat then u3 else gF i); split <;> rfl)⟩, ⟨_, fV887.as (g := fun i => .int (if i = fn.toInt.toNat then u4 else gG i)) (fun i _ => by show (if i = fn.toInt.toNat then Value.int u4 else .int (gG i)) = .int (if i = fn.toInt.toNat then u4 else gG i); split <;> rfl)⟩, fV888, fV889.as (fun i _ => by show (if i = ((hd + qd) &&& ((16 : Int32) - (1 : Int32))).toInt.toNat then Value.int fn else .int (fQ i)) = .int (if i = ((hd + qd) &&& ((16 : Int32) - (1 : Int32))).toInt.toNat then fn else fQ i); split <;> rfl)⟩
def Q10 (Z : State) (fs ca fa ta ka qa fb fd fe : Addr) (n : Nat) (fC fF fG fQ fD : Nat → Int32) (lo : Nat) (ls : List Nat) (jj : Nat) (xx : Int32) (h0 : Heap) (n0 : Nat) (v : Option Value) (h : Heap) (L : List Loc) : Prop := v = none ∧ Fr n0 L ∧ Keep h0 h [fs, ca, fa, ta, ka, qa, fb, fd, fe] ∧ Exa Z h fs "com/example/witness/witness/logic/StepSearch" ∧ ∃ (c1 f1 t1 k1 : Addr) (n1 : Nat) (fC1 fQ1 fD1 : Nat → Int32) (lo1 : Nat) (l1 : List Nat), own_ord fs c1 f1 t1 k1 qa fe ∧ own_inv n1 fC1 fQ1 fD1 lo1 l1 (jj + 1) ∧ Fld Z h fs "com/example/witness/witness/logic/StepSearch" "costs" "[I" (.ref c1) ∧ Fld Z h fs "com/example/witness/witness/logic/StepSearch" "froms" "[I" (.ref f1) ∧ Fld Z h fs "com/example/witness/witness/logic/StepSearch" "transitions" "[I" (.ref t1) ∧ Fld Z h fs "com/example/witness/witness/logic/StepSearch" "taken" "[Z" (.ref k1) ∧ Fld Z h fs "com/example/witness/witness/logic/StepSearch" "queue" "[I" (.ref qa) ∧ Fld Z h fs "com/example/witness/witness/logic/StepSearch" "reached" "Lcom/example/witness/witness/logic/IntStack;" .null ∧ Fld Z h fs "com/example/witness/witness/logic/StepSearch" "head" "I" (.int (own_h (lo1 + 13))) ∧ Fld Z h fs "com/example/witness/witness/logic/StepSearch" "queued" "I" (.int (Int32.ofNat l1.length)) ∧ Ar Z h c1 .int n1 (fun i => .int (fC1 i)) ∧ (∃ g : Nat → Int32, Ar Z h f1 .int n1 (fun i => .int (g i))) ∧ (∃ g : Nat → Int32, Ar Z h t1 .int n1 (fun i => .int (g i))) ∧ Ar Z h k1 .boolean n1 (fun i => .int (0)) ∧ Ar Z h qa .int 16 (fun i => .int (fQ1 i)) ∧ Ar Z h fb .int 4 (fun i => .int (fC1 (9 * i))) ∧ Ar Z h fd .int 7 (fun i => .int (fD1 i)) ∧ Ar Z h fe .int 2 (fun i => if i = 0 then .int (Int32.ofNat lo1) else .int (Int32.ofNat (lo1 + l1.length)))
set_option maxRecDepth 65536 in
set_option maxHeartbeats 40000000 in
theorem rm10 (l : Launch) (Z : State) (a0 : Array Value) (hw : ∀ d ∈ tables_1, d.before a0 Z = true) (ws : List Jvm.Cond) (fs ca fa ta ka qa fb fd fe : Addr) (n : Nat) (fC fF fG fQ fD : Nat → Int32) (lo : Nat) (ls : List Nat) (jj : Nat) (xx : Int32) (h0 : Heap) (n0 : Nat) (Z0 : n0 ≤ h0.size) (Es : Exa Z h0 fs "com/example/witness/witness/logic/StepSearch") (Gs : n0 ≤ fs) (P_costs : Fld Z h0 fs "com/example/witness/witness/logic/StepSearch" "costs" "[I" (.ref ca)) (P_froms : Fld Z h0 fs "com/example/witness/witness/logic/StepSearch" "froms" "[I" (.ref fa)) (P_transitions : Fld Z h0 fs "com/example/witness/witness/logic/StepSearch" "transitions" "[I" (.ref ta)) (P_taken : Fld Z h0 fs "com/example/witness/witness/logic/StepSearch" "taken" "[Z" (.ref ka)) (P_queue : Fld Z h0 fs "com/example/witness/witness/logic/StepSearch" "queue" "[I" (.ref qa)) (P_reached : Fld Z h0 fs "com/example/witness/witness/logic/StepSearch" "reached" "Lcom/example/witness/witness/logic/IntStack;" .null) (P_head : Fld Z h0 fs "com/example/witness/witness/logic/StepSearch" "head" "I" (.int (own_h (lo + 13)))) (P_queued : Fld Z h0 fs "com/example/witness/witness/logic/StepSearch" "queued" "I" (.int (Int32.ofNat ls.length))) (Vc : Ar Z h0 ca .int n (fun i => .int (fC i))) (Vf : Ar Z h0 fa .int n (fun i => .int (fF i))) (Vt : Ar Z h0 ta .int n (fun i => .int (fG i))) (Vk : Ar Z h0 ka .boolean n (fun i => .int (0))) (Vq : Ar Z h0 qa .int 16 (fun i => .int (fQ i))) (Vb : Ar Z h0 fb .int 4 (fun i => .int (fC (9 * i)))) (Vd : Ar Z h0 fd .int 7 (fun i => .int (fD i))) (Ve : Ar Z h0 fe .int 2 (fun i => if i = 0 then .int (Int32.ofNat lo) else .int (Int32.ofNat (lo + ls.length)))) (O : own_ord fs ca fa ta ka qa fe) (lo1 : qa < fb) (lo2 : fb < fd) (lo3 : fd < fe) (I : own_inv n fC fQ fD lo ls jj) (hj : jj ≤ 2) :
    MetFree l (⟨"com/example/witness/witness/logic/StepSearchTakePinLaw", "step", "(Lcom/example/witness/witness/logic/StepSearch;I[I[I[I)V"⟩ : MethodName) (head1 (Jvm.Cond.code (⟨"com/example/witness/witness/logic/StepSearchTakePinLaw", "step", "(Lcom/example/witness/witness/logic/StepSearch;I[I[I[I)V"⟩ : MethodName) method_2_code 9 none :: ws) ({ frames := 4, cells := 4, slots := 216, locals := 87 } : Room)) (fun a U => a = #[(.ref fs), (.int xx), (.ref fb), (.ref fd), (.ref fe)] ∧ Z.Warmed39 U.vm ∧ U.heap = h0) (fun _ _ _ _ _ => True) (fun _ U o U' => ∃ v L, o = .returned v ∧ Q10 Z fs ca fa ta ka qa fb fd fe n fC fF fG fQ fD lo ls jj xx h0 n0 v U'.heap L ∧ FrameEnd U o U' L ({ frames := 4, cells := 4, slots := 216, locals := 87 } : Room).cells ({ frames := 4, cells := 4, slots := 216, locals := 87 } : Room).slots) := by
  refine MetFree.of_bodySF (plainFor_of_name pn_com_example_witness_witness_logic_StepSearchTakePinLaw) hisR ?_
  intro p e s m args0 below meth c s₁ Bd hml0 hP hK
  obtain ⟨rfl, hZ, hh⟩ := hP
  have hx := Bd.exec
  have hby := Bd.bytes
  have hml : c.maxLocals = 9 := hml0
  have hown : s.vm.findClass "com/example/witness/witness/logic/StepSearchTakePinLaw" = some m.cls := findClass_of_methodNamed Bd.named
  have hnm := (name_of_methodNamed Bd.named Bd.method).1
  have X0 : Stand p l e ({ frames := 4, cells := 4, slots := 216, locals := 87 } : Room) s m #[(.ref fs), (.int xx), (.ref fb), (.ref fd), (.ref fe)] below meth c s₁ [] 0 0 := Stand.of_body Bd
  have e0 : s₁.heap = h0 := by rw [← hh, Bd.state]; rfl
  have N0 := Fr.nil n0
  have pre0 : ∀ t, Steps p.tables e below (s₁.setTop (mkF m 0 #[.val (.ref fs), .val (.int xx), .val (.ref fb), .val (.ref fd), .val (.ref fe), .unset, .unset, .unset, .unset] [])) t → Steps p.tables e below (s₁.setTop (entryFrame m #[(.ref fs), (.int xx), (.ref fb), (.ref fd), (.ref fe)] 9)) t := fun t kk_ => castTop (ef_10 m fs xx fb fd fe) kk_
  obtain ⟨kk, hk4, hkI, hk9, hkN⟩ := own_kk xx
  obtain ⟨iC, i54, iD, iQ, iM, iL, iA, iB, iE⟩ := id I
  obtain ⟨hc1, hc2, hc3, hc4, hc5, hc6, hc7, hc8, hc9⟩ := own_hc lo ls.length iB (Nat.le_trans iL hj)
  have hN27 : 9 * kk ≤ 27 := own_27 hk4
  obtain ⟨⟨b0, b1, b2, b3, b4, b5⟩, ⟨d0, d1, d2, d3, d4, d5⟩, ⟨v0, v1, v2, v3, v4, v5⟩, nbd, nbe, nde⟩ := own_lawne O lo1 lo2 lo3
  have gq : n0 ≤ qa := (own_ge O Gs).2.2.2.2
  have gb : n0 ≤ fb := Nat.le_of_lt (Nat.lt_of_le_of_lt gq lo1)
  have gd : n0 ≤ fd := Nat.le_of_lt (Nat.lt_of_le_of_lt gb lo2)
  have ge : n0 ≤ fe := Nat.le_of_lt (Nat.lt_of_le_of_lt gd lo3)
  have s890 : ∀ t, Steps p.tables e below (s₁.setTop (mkF m 12 #[.val (.ref fs), .val (.int xx), .val (.ref fb), .val (.ref fd), .val (.ref fe), .val (.int (xx &&& (3 : Int32))), .val (.int ((9 : Int32) * (xx &&& (3 : Int32)))), .unset, .unset] [])) t → Steps p.tables e below (s₁.setTop (mkF m 0 #[.val (.ref fs), .val (.int xx), .val (.ref fb), .val (.ref fd), .val (.ref fe), .unset, .unset, .unset, .unset] [])) t := by
    intro t kt
    refine XS.iloadN X0.here hx rfl (hb hby d10_0) rfl ?_
    show Steps p.tables e below (s₁.setTop (mkF m 1 #[.val (.ref fs), .val (.int xx), .val (.ref fb), .val (.ref fd), .val (.ref fe), .unset, .unset, .unset, .unset] [(.int xx)])) t
    refine XS.iconst X0.here hx rfl (hb hby d10_1) ?_
    show Steps p.tables e below (s₁.setTop (mkF m 2 #[.val (.ref fs), .val (.int xx), .val (.ref fb), .val (.ref fd), .val (.ref fe), .unset, .unset, .unset, .unset] [(.int (3 : Int32)), (.int xx)])) t
    refine XS.iand X0.here hx rfl (hb hby d10_2) rfl ?_
    show Steps p.tables e below (s₁.setTop (mkF m 3 #[.val (.ref fs), .val (.int xx), .val (.ref fb), .val (.ref fd), .val (.ref fe), .unset, .unset, .unset, .unset] [(.int (xx &&& (3 : Int32)))])) t
    refine XS.istore X0.here hx rfl (hb hby d10_3) rfl (l' := #[.val (.ref fs), .val (.int xx), .val (.ref fb), .val (.ref fd), .val (.ref fe), .val (.int (xx &&& (3 : Int32))), .unset, .unset, .unset]) rfl ?_
    show Steps p.tables e below (s₁.setTop (mkF m 5 #[.val (.ref fs), .val (.int xx), .val (.ref fb), .val (.ref fd), .val (.ref fe), .val (.int (xx &&& (3 : Int32))), .unset, .unset, .unset] [])) t
    refine XS.bipush X0.here hx rfl (hb hby d10_5) ?_
    show Steps p.tables e below (s₁.setTop (mkF m 7 #[.val (.ref fs), .val (.int xx), .val (.ref fb), .val (.ref fd), .val (.ref fe), .val (.int (xx &&& (3 : Int32))), .unset, .unset, .unset] [(.int (9 : Int32))])) t
    refine XS.iload X0.here hx rfl (hb hby d10_7) rfl ?_
    show Steps p.tables e below (s₁.setTop (mkF m 9 #[.val (.ref fs), .val (.int xx), .val (.ref fb), .val (.ref fd), .val (.ref fe), .val (.int (xx &&& (3 : Int32))), .unset, .unset, .unset] [(.int (xx &&& (3 : Int32))), (.int (9 : Int32))])) t
    refine XS.imul X0.here hx rfl (hb hby d10_9) rfl ?_
    show Steps p.tables e below (s₁.setTop (mkF m 10 #[.val (.ref fs), .val (.int xx), .val (.ref fb), .val (.ref fd), .val (.ref fe), .val (.int (xx &&& (3 : Int32))), .unset, .unset, .unset] [(.int ((9 : Int32) * (xx &&& (3 : Int32))))])) t
    refine XS.istore X0.here hx rfl (hb hby d10_10) rfl (l' := #[.val (.ref fs), .val (.int xx), .val (.ref fb), .val (.ref fd), .val (.ref fe), .val (.int (xx &&& (3 : Int32))), .val (.int ((9 : Int32) * (xx &&& (3 : Int32)))), .unset, .unset]) rfl ?_
    exact kt
  obtain ⟨fk, hfk⟩ : ∃ z : Int32, z = (xx &&& (3 : Int32)) := ⟨_, rfl⟩
  have s891 : ∀ t, Steps p.tables e below (s₁.setTop (mkF m 12 #[.val (.ref fs), .val (.int xx), .val (.ref fb), .val (.ref fd), .val (.ref fe), .val (.int fk), .val (.int ((9 : Int32) * (xx &&& (3 : Int32)))), .unset, .unset] [])) t → Steps p.tables e below (s₁.setTop (mkF m 12 #[.val (.ref fs), .val (.int xx), .val (.ref fb), .val (.ref fd), .val (.ref fe), .val (.int (xx &&& (3 : Int32))), .val (.int ((9 : Int32) * (xx &&& (3 : Int32)))), .unset, .unset] [])) t := fun t kt => by subst hfk; exact kt
  obtain ⟨fn, hfn⟩ : ∃ z : Int32, z = ((9 : Int32) * (xx &&& (3 : Int32))) := ⟨_, rfl⟩
  have s892 : ∀ t, Steps p.tables e below (s₁.setTop (mkF m 12 #[.val (.ref fs), .val (.int xx), .val (.ref fb), .val (.ref fd), .val (.ref fe), .val (.int fk), .val (.int fn), .unset, .unset] [])) t → Steps p.tables e below (s₁.setTop (mkF m 12 #[.val (.ref fs), .val (.int xx), .val (.ref fb), .val (.ref fd), .val (.ref fe), .val (.int fk), .val (.int ((9 : Int32) * (xx &&& (3 : Int32)))), .unset, .unset] [])) t := fun t kt => by subst hfn; exact kt
  rw [hk9] at hfn
  have hN : fn.toInt = ((9 * kk : Nat) : Int) := by rw [hfn]; exact hkN
  rw [← hfk] at hkI
  have hkn : fk.toInt.toNat = kk := by rw [hkI]; rfl
  have hk0 : 0 ≤ fk.toInt := by rw [hkI]; exact Int.natCast_nonneg kk
  have hk1 : fk.toInt < ((4 : Nat) : Int) := by rw [hkI]; exact Int.ofNat_lt.mpr hk4
  have s893 : ∀ t, Steps p.tables e below (s₁.setTop (mkF m 15 #[.val (.ref fs), .val (.int xx), .val (.ref fb), .val (.ref fd), .val (.ref fe), .val (.int fk), .val (.int fn), .unset, .unset] [(.int (xx &&& (4 : Int32)))])) t → Steps p.tables e below (s₁.setTop (mkF m 12 #[.val (.ref fs), .val (.int xx), .val (.ref fb), .val (.ref fd), .val (.ref fe), .val (.int fk), .val (.int fn), .unset, .unset] [])) t := by
    intro t kt
    refine XS.iloadN X0.here hx rfl (hb hby d10_12) rfl ?_
    show Steps p.tables e below (s₁.setTop (mkF m 13 #[.val (.ref fs), .val (.int xx), .val (.ref fb), .val (.ref fd), .val (.ref fe), .val (.int fk), .val (.int fn), .unset, .unset] [(.int xx)])) t
    refine XS.iconst X0.here hx rfl (hb hby d10_13) ?_
    show Steps p.tables e below (s₁.setTop (mkF m 14 #[.val (.ref fs), .val (.int xx), .val (.ref fb), .val (.ref fd), .val (.ref fe), .val (.int fk), .val (.int fn), .unset, .unset] [(.int (4 : Int32)), (.int xx)])) t
    refine XS.iand X0.here hx rfl (hb hby d10_14) rfl ?_
    exact kt
  by_cases c894 : (xx &&& (4 : Int32)) = (0 : Int32)
  ·
    have s895 : ∀ t, Steps p.tables e below (s₁.setTop (mkF m 41 #[.val (.ref fs), .val (.int xx), .val (.ref fb), .val (.ref fd), .val (.ref fe), .val (.int fk), .val (.int fn), .val (.int (0 : Int32)), .val (.int ((xx >>> ((3 : Int32) &&& 31)) &&& (3 : Int32)))] [(.int (0 : Int32)), (.int (-1 : Int32)), (.int (-1 : Int32)), (.int ((xx >>> ((3 : Int32) &&& 31)) &&& (3 : Int32))), (.int fn), (.ref fs)])) t → Steps p.tables e below (s₁.setTop (mkF m 15 #[.val (.ref fs), .val (.int xx), .val (.ref fb), .val (.ref fd), .val (.ref fe), .val (.int fk), .val (.int fn), .unset, .unset] [(.int (xx &&& (4 : Int32)))])) t := by
      intro t kt
      refine XS.ifYes X0.here hx rfl (pc0 := 15) (pc' := 22) rfl (hb hby d10_15) rfl ((if0 _ _).trans (teq c894).1) (by decide) (by decide) ?_
      show Steps p.tables e below (s₁.setTop (mkF m 22 #[.val (.ref fs), .val (.int xx), .val (.ref fb), .val (.ref fd), .val (.ref fe), .val (.int fk), .val (.int fn), .unset, .unset] [])) t
      refine XS.iconst X0.here hx rfl (hb hby d10_22) ?_
      show Steps p.tables e below (s₁.setTop (mkF m 23 #[.val (.ref fs), .val (.int xx), .val (.ref fb), .val (.ref fd), .val (.ref fe), .val (.int fk), .val (.int fn), .unset, .unset] [(.int (0 : Int32))])) t
      refine XS.istore X0.here hx rfl (hb hby d10_23) rfl (l' := #[.val (.ref fs), .val (.int xx), .val (.ref fb), .val (.ref fd), .val (.ref fe), .val (.int fk), .val (.int fn), .val (.int (0 : Int32)), .unset]) rfl ?_
      show Steps p.tables e below (s₁.setTop (mkF m 25 #[.val (.ref fs), .val (.int xx), .val (.ref fb), .val (.ref fd), .val (.ref fe), .val (.int fk), .val (.int fn), .val (.int (0 : Int32)), .unset] [])) t
      refine XS.iloadN X0.here hx rfl (hb hby d10_25) rfl ?_
      show Steps p.tables e below (s₁.setTop (mkF m 26 #[.val (.ref fs), .val (.int xx), .val (.ref fb), .val (.ref fd), .val (.ref fe), .val (.int fk), .val (.int fn), .val (.int (0 : Int32)), .unset] [(.int xx)])) t
      refine XS.iconst X0.here hx rfl (hb hby d10_26) ?_
      show Steps p.tables e below (s₁.setTop (mkF m 27 #[.val (.ref fs), .val (.int xx), .val (.ref fb), .val (.ref fd), .val (.ref fe), .val (.int fk), .val (.int fn), .val (.int (0 : Int32)), .unset] [(.int (3 : Int32)), (.int xx)])) t
      refine XS.ishr X0.here hx rfl (hb hby d10_27) rfl ?_
      show Steps p.tables e below (s₁.setTop (mkF m 28 #[.val (.ref fs), .val (.int xx), .val (.ref fb), .val (.ref fd), .val (.ref fe), .val (.int fk), .val (.int fn), .val (.int (0 : Int32)), .unset] [(.int (xx >>> ((3 : Int32) &&& 31)))])) t
      refine XS.iconst X0.here hx rfl (hb hby d10_28) ?_
      show Steps p.tables e below (s₁.setTop (mkF m 29 #[.val (.ref fs), .val (.int xx), .val (.ref fb), .val (.ref fd), .val (.ref fe), .val (.int fk), .val (.int fn), .val (.int (0 : Int32)), .unset] [(.int (3 : Int32)), (.int (xx >>> ((3 : Int32) &&& 31)))])) t
      refine XS.iand X0.here hx rfl (hb hby d10_29) rfl ?_
      show Steps p.tables e below (s₁.setTop (mkF m 30 #[.val (.ref fs), .val (.int xx), .val (.ref fb), .val (.ref fd), .val (.ref fe), .val (.int fk), .val (.int fn), .val (.int (0 : Int32)), .unset] [(.int ((xx >>> ((3 : Int32) &&& 31)) &&& (3 : Int32)))])) t
      refine XS.istore X0.here hx rfl (hb hby d10_30) rfl (l' := #[.val (.ref fs), .val (.int xx), .val (.ref fb), .val (.ref fd), .val (.ref fe), .val (.int fk), .val (.int fn), .val (.int (0 : Int32)), .val (.int ((xx >>> ((3 : Int32) &&& 31)) &&& (3 : Int32)))]) rfl ?_
      show Steps p.tables e below (s₁.setTop (mkF m 32 #[.val (.ref fs), .val (.int xx), .val (.ref fb), .val (.ref fd), .val (.ref fe), .val (.int fk), .val (.int fn), .val (.int (0 : Int32)), .val (.int ((xx >>> ((3 : Int32) &&& 31)) &&& (3 : Int32)))] [])) t
      refine XS.aloadN X0.here hx rfl (hb hby d10_32) rfl rfl ?_
      show Steps p.tables e below (s₁.setTop (mkF m 33 #[.val (.ref fs), .val (.int xx), .val (.ref fb), .val (.ref fd), .val (.ref fe), .val (.int fk), .val (.int fn), .val (.int (0 : Int32)), .val (.int ((xx >>> ((3 : Int32) &&& 31)) &&& (3 : Int32)))] [(.ref fs)])) t
      refine XS.iload X0.here hx rfl (hb hby d10_33) rfl ?_
      show Steps p.tables e below (s₁.setTop (mkF m 35 #[.val (.ref fs), .val (.int xx), .val (.ref fb), .val (.ref fd), .val (.ref fe), .val (.int fk), .val (.int fn), .val (.int (0 : Int32)), .val (.int ((xx >>> ((3 : Int32) &&& 31)) &&& (3 : Int32)))] [(.int fn), (.ref fs)])) t
      refine XS.iload X0.here hx rfl (hb hby d10_35) rfl ?_
      show Steps p.tables e below (s₁.setTop (mkF m 37 #[.val (.ref fs), .val (.int xx), .val (.ref fb), .val (.ref fd), .val (.ref fe), .val (.int fk), .val (.int fn), .val (.int (0 : Int32)), .val (.int ((xx >>> ((3 : Int32) &&& 31)) &&& (3 : Int32)))] [(.int ((xx >>> ((3 : Int32) &&& 31)) &&& (3 : Int32))), (.int fn), (.ref fs)])) t
      refine XS.iconst X0.here hx rfl (hb hby d10_37) ?_
      show Steps p.tables e below (s₁.setTop (mkF m 38 #[.val (.ref fs), .val (.int xx), .val (.ref fb), .val (.ref fd), .val (.ref fe), .val (.int fk), .val (.int fn), .val (.int (0 : Int32)), .val (.int ((xx >>> ((3 : Int32) &&& 31)) &&& (3 : Int32)))] [(.int (-1 : Int32)), (.int ((xx >>> ((3 : Int32) &&& 31)) &&& (3 : Int32))), (.int fn), (.ref fs)])) t
      refine XS.iconst X0.here hx rfl (hb hby d10_38) ?_
      show Steps p.tables e below (s₁.setTop (mkF m 39 #[.val (.ref fs), .val (.int xx), .val (.ref fb), .val (.ref fd), .val (.ref fe), .val (.int fk), .val (.int fn), .val (.int (0 : Int32)), .val (.int ((xx >>> ((3 : Int32) &&& 31)) &&& (3 : Int32)))] [(.int (-1 : Int32)), (.int (-1 : Int32)), (.int ((xx >>> ((3 : Int32) &&& 31)) &&& (3 : Int32))), (.int fn), (.ref fs)])) t
      refine XS.iload X0.here hx rfl (hb hby d10_39) rfl ?_
      exact kt
    obtain ⟨fc, hfc⟩ : ∃ z : Int32, z = ((xx >>> ((3 : Int32) &&& 31)) &&& (3 : Int32)) := ⟨_, rfl⟩
    have s896 : ∀ t, Steps p.tables e below (s₁.setTop (mkF m 41 #[.val (.ref fs), .val (.int xx), .val (.ref fb), .val (.ref fd), .val (.ref fe), .val (.int fk), .val (.int fn), .val (.int (0 : Int32)), .val (.int fc)] [(.int (0 : Int32)), (.int (-1 : Int32)), (.int (-1 : Int32)), (.int fc), (.int fn), (.ref fs)])) t → Steps p.tables e below (s₁.setTop (mkF m 41 #[.val (.ref fs), .val (.int xx), .val (.ref fb), .val (.ref fd), .val (.ref fe), .val (.int fk), .val (.int fn), .val (.int (0 : Int32)), .val (.int ((xx >>> ((3 : Int32) &&& 31)) &&& (3 : Int32)))] [(.int (0 : Int32)), (.int (-1 : Int32)), (.int (-1 : Int32)), (.int ((xx >>> ((3 : Int32) &&& 31)) &&& (3 : Int32))), (.int fn), (.ref fs)])) t := fun t kt => by subst hfc; exact kt
    have hcases : fc < fC (9 * kk) ∨ ¬ fc < fC (9 * kk) := Classical.em _
    rcases hcases with hc | hc
    ·
      obtain ⟨cq897, kq897, qa897, qb897, qc897⟩ := isOf hZ e0 Es
      obtain ⟨_, _, ⟨T897, L897, k897, n897⟩, -, X897, ⟨Lc897, hQ897, l897, y897, z897⟩, st897⟩ := X0.virtualBack hx (y := (⟨"com/example/witness/witness/logic/StepSearch", "reach", "(IIIIZ)V"⟩ : MethodName)) (z := (⟨"com/example/witness/witness/logic/StepSearch", "reach", "(IIIIZ)V"⟩ : MethodName)) hown (mvT hZ (hw _ (List.mem_of_getElem? (i := 31) rfl))) (mvT hZ (hw _ (List.mem_of_getElem? (i := 32) rfl))) (notFace_of_selects (args := #[]) (mvT hZ (hw _ (List.mem_of_getElem? (i := 34) rfl)))) (mvT hZ (hw _ (List.mem_of_getElem? (i := 34) rfl))) (mvT hZ (hw _ (List.mem_of_getElem? (i := 33) rfl))) (by decide) (backOf (W := 0) (rm9c l Z a0 hw [] fs ca fa ta ka qa fe n (9 * kk) fC fF fG fQ fn fc (-1 : Int32) (-1 : Int32) (own_h (lo + 13)) (Int32.ofNat ls.length) h0 n0 Z0 Es Gs P_costs P_froms P_transitions P_taken P_queue P_reached P_head P_queued Vc Vf Vt Vk Vq O Ve.lt hN hN27 i54 iC hc hc2 hc3 hc4) hZ (hw _ (List.mem_of_getElem? (i := 35) rfl)) (hw _ (List.mem_of_getElem? (i := 2) rfl)) (by decide) (by decide)) qa897 qc897 (g := (mkF m 41 #[.val (.ref fs), .val (.int xx), .val (.ref fb), .val (.ref fd), .val (.ref fe), .val (.int fk), .val (.int fn), .val (.int (0 : Int32)), .val (.int fc)] [(.int (0 : Int32)), (.int (-1 : Int32)), (.int (-1 : Int32)), (.int fc), (.int fn), (.ref fs)])) rfl (by rw [hml]; rfl) (Steps.refl _) (argsL := [(.int fn), (.int fc), (.int (-1 : Int32)), (.int (-1 : Int32)), (.int (0 : Int32))]) (rest := []) (lenOf pd_oIIIIZcV rfl) rfl (by show 2 * 0 + _ ≤ _; exact Nat.le_of_eq rfl) (hb hby d10_41) (fun _ _ => ⟨rfl, e0, (by decide : 0 + 4 ≤ _), (by decide : 0 + 216 ≤ _)⟩)
      dsimp only [Pt.U, Pt.locs, Pt.cells, Pt.slots] at X897 l897 y897 z897 st897 hQ897
      rw [l897, y897, z897] at X897
      obtain ⟨hv897, N897q, Kc897, E897_, c1897, f1897, t1897, k1897, n1, O1, hle, hNlt, hn1, F897_costs, F897_froms, F897_transitions, F897_taken, F897_queue, F897_reached, F897_head, F897_queued, Vc897, ⟨gF, Vf897⟩, ⟨gG, Vt897⟩, Vk897, Vq897⟩ := hQ897
      rw [hv897] at st897
      have N897 := Fr.app N0 N897q
      have Vb897 := Vb.keep Kc897 (ninS b0 (ninS b1 (ninS b2 (ninS b3 (ninS b4 (ninS b5 nin0))))))
      have Vd897 := Vd.keep Kc897 (ninS d0 (ninS d1 (ninS d2 (ninS d3 (ninS d4 (ninS d5 nin0))))))
      have Ve897 := Ve.keep Kc897 (ninS v0 (ninS v1 (ninS v2 (ninS v3 (ninS v4 (ninS v5 nin0))))))
      have K897 : Keep h0 T897.heap [fs, ca, fa, ta, ka, qa, fb, fd, fe] := (Keep.refl h0 [fs, ca, fa, ta, ka, qa, fb, fd, fe]).trans Kc897 (allS (Or.inl (List.mem_of_getElem? (i := 0) rfl)) (allS (Or.inl (List.mem_of_getElem? (i := 1) rfl)) (allS (Or.inl (List.mem_of_getElem? (i := 2) rfl)) (allS (Or.inl (List.mem_of_getElem? (i := 3) rfl)) (allS (Or.inl (List.mem_of_getElem? (i := 4) rfl)) (allS (Or.inl (List.mem_of_getElem? (i := 5) rfl)) all0))))))
      have Zs897 : n0 ≤ T897.heap.size := Nat.le_trans Z0 Kc897.1
      obtain ⟨⟨nb0, nb1, nb2, nb3, nb4, nb5⟩, ⟨nd0, nd1, nd2, nd3, nd4, nd5⟩, ⟨nv0, nv1, nv2, nv3, nv4, nv5⟩, -, -, -⟩ := own_lawne O1 lo1 lo2 lo3
      have s898 : ∀ t, Steps p.tables e below (T897.setTop (mkF m 58 #[.val (.ref fs), .val (.int xx), .val (.ref fb), .val (.ref fd), .val (.ref fe), .val (.int fk), .val (.int fn), .val (.int (0 : Int32)), .val (.int fc)] [(.int fc), (.int fk), (.ref fb)])) t → Steps p.tables e below (T897.setTop (mkF m 44 #[.val (.ref fs), .val (.int xx), .val (.ref fb), .val (.ref fd), .val (.ref fe), .val (.int fk), .val (.int fn), .val (.int (0 : Int32)), .val (.int fc)] [])) t := by
        intro t kt
        refine XS.iload X897.here hx rfl (hb hby d10_44) rfl ?_
        show Steps p.tables e below (T897.setTop (mkF m 46 #[.val (.ref fs), .val (.int xx), .val (.ref fb), .val (.ref fd), .val (.ref fe), .val (.int fk), .val (.int fn), .val (.int (0 : Int32)), .val (.int fc)] [(.int fc)])) t
        refine XS.aloadN X897.here hx rfl (hb hby d10_46) rfl rfl ?_
        show Steps p.tables e below (T897.setTop (mkF m 47 #[.val (.ref fs), .val (.int xx), .val (.ref fb), .val (.ref fd), .val (.ref fe), .val (.int fk), .val (.int fn), .val (.int (0 : Int32)), .val (.int fc)] [(.ref fb), (.int fc)])) t
        refine XS.iload X897.here hx rfl (hb hby d10_47) rfl ?_
        show Steps p.tables e below (T897.setTop (mkF m 49 #[.val (.ref fs), .val (.int xx), .val (.ref fb), .val (.ref fd), .val (.ref fe), .val (.int fk), .val (.int fn), .val (.int (0 : Int32)), .val (.int fc)] [(.int fk), (.ref fb), (.int fc)])) t
        refine OwnKit.ldAI X897 hx hZ rfl Vb897 (j := fk) hk0 hk1 (w := (.int (fC (9 * kk)))) (by show Value.int (fC (9 * fk.toInt.toNat)) = _; rw [hkn]) (g := (mkF m 49 #[.val (.ref fs), .val (.int xx), .val (.ref fb), .val (.ref fd), .val (.ref fe), .val (.int fk), .val (.int fn), .val (.int (0 : Int32)), .val (.int fc)] [(.int fk), (.ref fb), (.int fc)])) rfl rfl (hb hby d10_49) _ ?_
        show Steps p.tables e below (T897.setTop (mkF m 50 #[.val (.ref fs), .val (.int xx), .val (.ref fb), .val (.ref fd), .val (.ref fe), .val (.int fk), .val (.int fn), .val (.int (0 : Int32)), .val (.int fc)] [(.int (fC (9 * kk))), (.int fc)])) t
        refine XS.icmpNo X897.here hx rfl (hb hby d10_50) rfl (tlt hc).2.1 ?_
        show Steps p.tables e below (T897.setTop (mkF m 53 #[.val (.ref fs), .val (.int xx), .val (.ref fb), .val (.ref fd), .val (.ref fe), .val (.int fk), .val (.int fn), .val (.int (0 : Int32)), .val (.int fc)] [])) t
        refine XS.aloadN X897.here hx rfl (hb hby d10_53) rfl rfl ?_
        show Steps p.tables e below (T897.setTop (mkF m 54 #[.val (.ref fs), .val (.int xx), .val (.ref fb), .val (.ref fd), .val (.ref fe), .val (.int fk), .val (.int fn), .val (.int (0 : Int32)), .val (.int fc)] [(.ref fb)])) t
        refine XS.iload X897.here hx rfl (hb hby d10_54) rfl ?_
        show Steps p.tables e below (T897.setTop (mkF m 56 #[.val (.ref fs), .val (.int xx), .val (.ref fb), .val (.ref fd), .val (.ref fe), .val (.int fk), .val (.int fn), .val (.int (0 : Int32)), .val (.int fc)] [(.int fk), (.ref fb)])) t
        refine XS.iload X897.here hx rfl (hb hby d10_56) rfl ?_
        exact kt
      obtain ⟨T899, h899, X899, e899, W899, V899, st899⟩ := OwnKit.stAI X897 hx hZ rfl Vb897 (j := fk) hk0 hk1 (g := (mkF m 58 #[.val (.ref fs), .val (.int xx), .val (.ref fb), .val (.ref fd), .val (.ref fe), .val (.int fk), .val (.int fn), .val (.int (0 : Int32)), .val (.int fc)] [(.int fc), (.int fk), (.ref fb)])) rfl rfl (hb hby d10_58)
      have Zs899 : n0 ≤ h899.size := Nat.le_trans Zs897 (Keep.of_wr W899).1
      have fE900 := E897_.wr W899
      have fF901 := F897_costs.other W899 (Or.inl (Ne.symm nb0))
      have fF902 := F897_froms.other W899 (Or.inl (Ne.symm nb0))
      have fF903 := F897_transitions.other W899 (Or.inl (Ne.symm nb0))
      have fF904 := F897_taken.other W899 (Or.inl (Ne.symm nb0))
      have fF905 := F897_queue.other W899 (Or.inl (Ne.symm nb0))
      have fF906 := F897_reached.other W899 (Or.inl (Ne.symm nb0))
      have fF907 := F897_head.other W899 (Or.inl (Ne.symm nb0))
      have fF908 := F897_queued.other W899 (Or.inl (Ne.symm nb0))
      have fV909 := Vc897.other W899 (Ne.symm nb1)
      have fV910 := Vf897.other W899 (Ne.symm nb2)
      have fV911 := Vt897.other W899 (Ne.symm nb3)
      have fV912 := Vk897.other W899 (Ne.symm nb4)
      have fV913 := Vq897.other W899 (Ne.symm nb5)
      have fV914 := V899
      have fV915 := Vd897.other W899 (Ne.symm nbd)
      have fV916 := Ve897.other W899 (Ne.symm nbe)
      have K899 : Keep h0 h899 [fs, ca, fa, ta, ka, qa, fb, fd, fe] := K897.wr W899 (Or.inl (List.mem_of_getElem? (i := 6) rfl))
      have N899 := Fr.snoc X899 N897 gb
      have s917 : ∀ t, Steps p.tables e below (T899.setTop (mkF m 92 #[.val (.ref fs), .val (.int xx), .val (.ref fb), .val (.ref fd), .val (.ref fe), .val (.int fk), .val (.int fn), .val (.int (0 : Int32)), .val (.int fc)] [(.int fn), (.int (Int32.ofNat (lo + ls.length))), (.ref fd)])) t → Steps p.tables e below (T899.setTop (mkF m 59 #[.val (.ref fs), .val (.int xx), .val (.ref fb), .val (.ref fd), .val (.ref fe), .val (.int fk), .val (.int fn), .val (.int (0 : Int32)), .val (.int fc)] [])) t := by
        intro t kt
        refine XS.iload X899.here hx rfl (hb hby d10_59) rfl ?_
        show Steps p.tables e below (T899.setTop (mkF m 61 #[.val (.ref fs), .val (.int xx), .val (.ref fb), .val (.ref fd), .val (.ref fe), .val (.int fk), .val (.int fn), .val (.int (0 : Int32)), .val (.int fc)] [(.int (0 : Int32))])) t
        refine XS.ifYes X899.here hx rfl (pc0 := 61) (pc' := 85) rfl (hb hby d10_61) rfl ((if0 _ _).trans (teq rfl).1) (by decide) (by decide) ?_
        show Steps p.tables e below (T899.setTop (mkF m 85 #[.val (.ref fs), .val (.int xx), .val (.ref fb), .val (.ref fd), .val (.ref fe), .val (.int fk), .val (.int fn), .val (.int (0 : Int32)), .val (.int fc)] [])) t
        refine XS.aloadN X899.here hx rfl (hb hby d10_85) rfl rfl ?_
        show Steps p.tables e below (T899.setTop (mkF m 86 #[.val (.ref fs), .val (.int xx), .val (.ref fb), .val (.ref fd), .val (.ref fe), .val (.int fk), .val (.int fn), .val (.int (0 : Int32)), .val (.int fc)] [(.ref fd)])) t
        refine XS.aload X899.here hx rfl (hb hby d10_86) rfl rfl ?_
        show Steps p.tables e below (T899.setTop (mkF m 88 #[.val (.ref fs), .val (.int xx), .val (.ref fb), .val (.ref fd), .val (.ref fe), .val (.int fk), .val (.int fn), .val (.int (0 : Int32)), .val (.int fc)] [(.ref fe), (.ref fd)])) t
        refine XS.iconst X899.here hx rfl (hb hby d10_88) ?_
        show Steps p.tables e below (T899.setTop (mkF m 89 #[.val (.ref fs), .val (.int xx), .val (.ref fb), .val (.ref fd), .val (.ref fe), .val (.int fk), .val (.int fn), .val (.int (0 : Int32)), .val (.int fc)] [(.int (1 : Int32)), (.ref fe), (.ref fd)])) t
        refine OwnKit.ldAI X899 hx hZ e899 fV916 (j := (1 : Int32)) (by decide) (by decide) (w := (.int (Int32.ofNat (lo + ls.length)))) rfl (g := (mkF m 89 #[.val (.ref fs), .val (.int xx), .val (.ref fb), .val (.ref fd), .val (.ref fe), .val (.int fk), .val (.int fn), .val (.int (0 : Int32)), .val (.int fc)] [(.int (1 : Int32)), (.ref fe), (.ref fd)])) rfl rfl (hb hby d10_89) _ ?_
        show Steps p.tables e below (T899.setTop (mkF m 90 #[.val (.ref fs), .val (.int xx), .val (.ref fb), .val (.ref fd), .val (.ref fe), .val (.int fk), .val (.int fn), .val (.int (0 : Int32)), .val (.int fc)] [(.int (Int32.ofNat (lo + ls.length))), (.ref fd)])) t
        refine XS.iload X899.here hx rfl (hb hby d10_90) rfl ?_
        exact kt
      obtain ⟨T918, h918, X918, e918, W918, V918, st918⟩ := OwnKit.stAI X899 hx hZ e899 fV915 (j := (Int32.ofNat (lo + ls.length))) hc7 hc8 (g := (mkF m 92 #[.val (.ref fs), .val (.int xx), .val (.ref fb), .val (.ref fd), .val (.ref fe), .val (.int fk), .val (.int fn), .val (.int (0 : Int32)), .val (.int fc)] [(.int fn), (.int (Int32.ofNat (lo + ls.length))), (.ref fd)])) rfl rfl (hb hby d10_92)
      have Zs918 : n0 ≤ h918.size := Nat.le_trans Zs899 (Keep.of_wr W918).1
      have fE919 := fE900.wr W918
      have fF920 := fF901.other W918 (Or.inl (Ne.symm nd0))
      have fF921 := fF902.other W918 (Or.inl (Ne.symm nd0))
      have fF922 := fF903.other W918 (Or.inl (Ne.symm nd0))
      have fF923 := fF904.other W918 (Or.inl (Ne.symm nd0))
      have fF924 := fF905.other W918 (Or.inl (Ne.symm nd0))
      have fF925 := fF906.other W918 (Or.inl (Ne.symm nd0))
      have fF926 := fF907.other W918 (Or.inl (Ne.symm nd0))
      have fF927 := fF908.other W918 (Or.inl (Ne.symm nd0))
      have fV928 := fV909.other W918 (Ne.symm nd1)
      have fV929 := fV910.other W918 (Ne.symm nd2)
      have fV930 := fV911.other W918 (Ne.symm nd3)
      have fV931 := fV912.other W918 (Ne.symm nd4)
      have fV932 := fV913.other W918 (Ne.symm nd5)
      have fV933 := fV914.other W918 nbd
      have fV934 := V918
      have fV935 := fV916.other W918 (Ne.symm nde)
      have K918 : Keep h0 h918 [fs, ca, fa, ta, ka, qa, fb, fd, fe] := K899.wr W918 (Or.inl (List.mem_of_getElem? (i := 7) rfl))
      have N918 := Fr.snoc X918 N899 gd
      have s936 : ∀ t, Steps p.tables e below (T918.setTop (mkF m 102 #[.val (.ref fs), .val (.int xx), .val (.ref fb), .val (.ref fd), .val (.ref fe), .val (.int fk), .val (.int fn), .val (.int (0 : Int32)), .val (.int fc)] [(.int ((Int32.ofNat (lo + ls.length)) + (1 : Int32))), (.int (1 : Int32)), (.ref fe)])) t → Steps p.tables e below (T918.setTop (mkF m 93 #[.val (.ref fs), .val (.int xx), .val (.ref fb), .val (.ref fd), .val (.ref fe), .val (.int fk), .val (.int fn), .val (.int (0 : Int32)), .val (.int fc)] [])) t := by
        intro t kt
        refine XS.aload X918.here hx rfl (hb hby d10_93) rfl rfl ?_
        show Steps p.tables e below (T918.setTop (mkF m 95 #[.val (.ref fs), .val (.int xx), .val (.ref fb), .val (.ref fd), .val (.ref fe), .val (.int fk), .val (.int fn), .val (.int (0 : Int32)), .val (.int fc)] [(.ref fe)])) t
        refine XS.iconst X918.here hx rfl (hb hby d10_95) ?_
        show Steps p.tables e below (T918.setTop (mkF m 96 #[.val (.ref fs), .val (.int xx), .val (.ref fb), .val (.ref fd), .val (.ref fe), .val (.int fk), .val (.int fn), .val (.int (0 : Int32)), .val (.int fc)] [(.int (1 : Int32)), (.ref fe)])) t
        refine XS.aload X918.here hx rfl (hb hby d10_96) rfl rfl ?_
        show Steps p.tables e below (T918.setTop (mkF m 98 #[.val (.ref fs), .val (.int xx), .val (.ref fb), .val (.ref fd), .val (.ref fe), .val (.int fk), .val (.int fn), .val (.int (0 : Int32)), .val (.int fc)] [(.ref fe), (.int (1 : Int32)), (.ref fe)])) t
        refine XS.iconst X918.here hx rfl (hb hby d10_98) ?_
        show Steps p.tables e below (T918.setTop (mkF m 99 #[.val (.ref fs), .val (.int xx), .val (.ref fb), .val (.ref fd), .val (.ref fe), .val (.int fk), .val (.int fn), .val (.int (0 : Int32)), .val (.int fc)] [(.int (1 : Int32)), (.ref fe), (.int (1 : Int32)), (.ref fe)])) t
        refine OwnKit.ldAI X918 hx hZ e918 fV935 (j := (1 : Int32)) (by decide) (by decide) (w := (.int (Int32.ofNat (lo + ls.length)))) rfl (g := (mkF m 99 #[.val (.ref fs), .val (.int xx), .val (.ref fb), .val (.ref fd), .val (.ref fe), .val (.int fk), .val (.int fn), .val (.int (0 : Int32)), .val (.int fc)] [(.int (1 : Int32)), (.ref fe), (.int (1 : Int32)), (.ref fe)])) rfl rfl (hb hby d10_99) _ ?_
        show Steps p.tables e below (T918.setTop (mkF m 100 #[.val (.ref fs), .val (.int xx), .val (.ref fb), .val (.ref fd), .val (.ref fe), .val (.int fk), .val (.int fn), .val (.int (0 : Int32)), .val (.int fc)] [(.int (Int32.ofNat (lo + ls.length))), (.int (1 : Int32)), (.ref fe)])) t
        refine XS.iconst X918.here hx rfl (hb hby d10_100) ?_
        show Steps p.tables e below (T918.setTop (mkF m 101 #[.val (.ref fs), .val (.int xx), .val (.ref fb), .val (.ref fd), .val (.ref fe), .val (.int fk), .val (.int fn), .val (.int (0 : Int32)), .val (.int fc)] [(.int (1 : Int32)), (.int (Int32.ofNat (lo + ls.length))), (.int (1 : Int32)), (.ref fe)])) t
        refine XS.iadd X918.here hx rfl (hb hby d10_101) rfl ?_
        exact kt
      obtain ⟨T937, h937, X937, e937, W937, V937, st937⟩ := OwnKit.stAI X918 hx hZ e918 fV935 (j := (1 : Int32)) (by decide) (by decide) (g := (mkF m 102 #[.val (.ref fs), .val (.int xx), .val (.ref fb), .val (.ref fd), .val (.ref fe), .val (.int fk), .val (.int fn), .val (.int (0 : Int32)), .val (.int fc)] [(.int ((Int32.ofNat (lo + ls.length)) + (1 : Int32))), (.int (1 : Int32)), (.ref fe)])) rfl rfl (hb hby d10_102)
      have Zs937 : n0 ≤ h937.size := Nat.le_trans Zs918 (Keep.of_wr W937).1
      have fE938 := fE919.wr W937
      have fF939 := fF920.other W937 (Or.inl (Ne.symm nv0))
      have fF940 := fF921.other W937 (Or.inl (Ne.symm nv0))
      have fF941 := fF922.other W937 (Or.inl (Ne.symm nv0))
      have fF942 := fF923.other W937 (Or.inl (Ne.symm nv0))
      have fF943 := fF924.other W937 (Or.inl (Ne.symm nv0))
      have fF944 := fF925.other W937 (Or.inl (Ne.symm nv0))
      have fF945 := fF926.other W937 (Or.inl (Ne.symm nv0))
      have fF946 := fF927.other W937 (Or.inl (Ne.symm nv0))
      have fV947 := fV928.other W937 (Ne.symm nv1)
      have fV948 := fV929.other W937 (Ne.symm nv2)
      have fV949 := fV930.other W937 (Ne.symm nv3)
      have fV950 := fV931.other W937 (Ne.symm nv4)
      have fV951 := fV932.other W937 (Ne.symm nv5)
      have fV952 := fV933.other W937 nbe
      have fV953 := fV934.other W937 nde
      have fV954 := V937
      have K937 : Keep h0 h937 [fs, ca, fa, ta, ka, qa, fb, fd, fe] := K918.wr W937 (Or.inl (List.mem_of_getElem? (i := 8) rfl))
      have N937 := Fr.snoc X937 N918 ge
      have gb1 : Ar Z h937 fb .int 4 (fun i => .int ((fun i => if i = 9 * kk then fc else fC i) (9 * i))) := fV952.as (fun i hi => by show (if i = fk.toInt.toNat then Value.int fc else .int (fC (9 * i))) = .int (if 9 * i = 9 * kk then fc else fC (9 * i)); rw [hkn]; exact own_gb kk i fc fC)
      have gh := fF945
      have gqd := fF946
      rw [hc5] at gqd
      have gqq := fV951
      have gdd := fV953
      have gee := fV954
      rw [hc1] at gqq
      rw [hc6] at gdd
      rw [hc9] at gee
      have hlen : (ls ++ [kk]).length = ls.length + 1 := by simp
      have gd1 : Ar Z h937 fd .int 7 (fun i => .int (if i = lo + ls.length then fn else fD i)) := gdd.as (fun i _ => by show (if i = lo + ls.length then Value.int fn else .int (fD i)) = .int (if i = lo + ls.length then fn else fD i); split <;> rfl)
      have ge1 : Ar Z h937 fe .int 2 (fun i => if i = 0 then .int (Int32.ofNat lo) else .int (Int32.ofNat (lo + (ls ++ [kk]).length))) := gee.as (fun i hi => by show (if i = 1 then Value.int (Int32.ofNat (lo + (ls.length + 1))) else (if i = 0 then .int (Int32.ofNat lo) else .int (Int32.ofNat (lo + ls.length)))) = (if i = 0 then .int (Int32.ofNat lo) else .int (Int32.ofNat (lo + (ls ++ [kk]).length))); exact own_gk lo ls kk i hi)
      rw [← hlen] at gqd
      obtain ⟨fs_, hr, hrun, hended, hW, hsame⟩ := X937.leave (hlocks := BodyLoose.notSynchronized Bd) (v := none) (fun _ => rfl)
      refine ⟨_, _, pre0 _ (s890 _ (s891 _ (s892 _ (s893 _ (s895 _ (s896 _ (st897.trans (s898 _ (st899 _ (s917 _ (st918 _ (s936 _ (st937 _ (?_)))))))))))))), hrun, hended, _, _, rfl, ?_, ⟨_, rfl⟩, hW, hsame.mono (by decide) (by decide)⟩
      · show Steps p.tables e below (T937.setTop (mkF m 103 #[.val (.ref fs), .val (.int xx), .val (.ref fb), .val (.ref fd), .val (.ref fe), .val (.int fk), .val (.int fn), .val (.int (0 : Int32)), .val (.int fc)] [])) _
        exact X937.returnOut hx Bd.returns (hb hby d10_103) hr
      · show Q10 Z fs ca fa ta ka qa fb fd fe n fC fF fG fQ fD lo ls jj xx h0 n0 _ T937.heap _
        rw [e937]
        exact ⟨rfl, N937, K937, fE938, c1897, f1897, t1897, k1897, n1, _, _, _, _, _, O1, own_back I hj hk4 hle hNlt hn1 hfn, fF939, fF940, fF941, fF942, fF943, fF944, gh, gqd, fV947, ⟨gF, fV948⟩, ⟨gG, fV949⟩, fV950, gqq, gb1, gd1, ge1⟩
    ·
      obtain ⟨cq955, kq955, qa955, qb955, qc955⟩ := isOf hZ e0 Es
      obtain ⟨_, _, ⟨T955, L955, k955, n955⟩, -, X955, ⟨Lc955, hQ955, l955, y955, z955⟩, st955⟩ := X0.virtualBack hx (y := (⟨"com/example/witness/witness/logic/StepSearch", "reach", "(IIIIZ)V"⟩ : MethodName)) (z := (⟨"com/example/witness/witness/logic/StepSearch", "reach", "(IIIIZ)V"⟩ : MethodName)) hown (mvT hZ (hw _ (List.mem_of_getElem? (i := 31) rfl))) (mvT hZ (hw _ (List.mem_of_getElem? (i := 32) rfl))) (notFace_of_selects (args := #[]) (mvT hZ (hw _ (List.mem_of_getElem? (i := 34) rfl)))) (mvT hZ (hw _ (List.mem_of_getElem? (i := 34) rfl))) (mvT hZ (hw _ (List.mem_of_getElem? (i := 33) rfl))) (by decide) (backOf (W := 0) (rm9a l Z a0 hw [] fs ca fa ta ka qa fe n (9 * kk) fC fF fG fQ fn fc (-1 : Int32) (-1 : Int32) (own_h (lo + 13)) (Int32.ofNat ls.length) (0 : Int32) h0 n0 Z0 Es Gs P_costs P_froms P_transitions P_taken P_queue P_reached P_head P_queued Vc Vf Vt Vk Vq O Ve.lt hN hN27 i54 iC hc) hZ (hw _ (List.mem_of_getElem? (i := 35) rfl)) (hw _ (List.mem_of_getElem? (i := 2) rfl)) (by decide) (by decide)) qa955 qc955 (g := (mkF m 41 #[.val (.ref fs), .val (.int xx), .val (.ref fb), .val (.ref fd), .val (.ref fe), .val (.int fk), .val (.int fn), .val (.int (0 : Int32)), .val (.int fc)] [(.int (0 : Int32)), (.int (-1 : Int32)), (.int (-1 : Int32)), (.int fc), (.int fn), (.ref fs)])) rfl (by rw [hml]; rfl) (Steps.refl _) (argsL := [(.int fn), (.int fc), (.int (-1 : Int32)), (.int (-1 : Int32)), (.int (0 : Int32))]) (rest := []) (lenOf pd_oIIIIZcV rfl) rfl (by show 2 * 0 + _ ≤ _; exact Nat.le_of_eq rfl) (hb hby d10_41) (fun _ _ => ⟨rfl, e0, (by decide : 0 + 4 ≤ _), (by decide : 0 + 216 ≤ _)⟩)
      dsimp only [Pt.U, Pt.locs, Pt.cells, Pt.slots] at X955 l955 y955 z955 st955 hQ955
      rw [l955, y955, z955] at X955
      obtain ⟨hv955, N955q, Kc955, E955_, c1955, f1955, t1955, k1955, n1, O1, hle, hNlt, hn1, F955_costs, F955_froms, F955_transitions, F955_taken, F955_queue, F955_reached, F955_head, F955_queued, Vc955, ⟨gF, Vf955⟩, ⟨gG, Vt955⟩, Vk955, Vq955⟩ := hQ955
      rw [hv955] at st955
      have N955 := Fr.app N0 N955q
      have Vb955 := Vb.keep Kc955 (ninS b0 (ninS b1 (ninS b2 (ninS b3 (ninS b4 (ninS b5 nin0))))))
      have Vd955 := Vd.keep Kc955 (ninS d0 (ninS d1 (ninS d2 (ninS d3 (ninS d4 (ninS d5 nin0))))))
      have Ve955 := Ve.keep Kc955 (ninS v0 (ninS v1 (ninS v2 (ninS v3 (ninS v4 (ninS v5 nin0))))))
      have K955 : Keep h0 T955.heap [fs, ca, fa, ta, ka, qa, fb, fd, fe] := (Keep.refl h0 [fs, ca, fa, ta, ka, qa, fb, fd, fe]).trans Kc955 (allS (Or.inl (List.mem_of_getElem? (i := 0) rfl)) (allS (Or.inl (List.mem_of_getElem? (i := 1) rfl)) (allS (Or.inl (List.mem_of_getElem? (i := 2) rfl)) (allS (Or.inl (List.mem_of_getElem? (i := 3) rfl)) (allS (Or.inl (List.mem_of_getElem? (i := 4) rfl)) (allS (Or.inl (List.mem_of_getElem? (i := 5) rfl)) all0))))))
      have Zs955 : n0 ≤ T955.heap.size := Nat.le_trans Z0 Kc955.1
      obtain ⟨⟨nb0, nb1, nb2, nb3, nb4, nb5⟩, ⟨nd0, nd1, nd2, nd3, nd4, nd5⟩, ⟨nv0, nv1, nv2, nv3, nv4, nv5⟩, -, -, -⟩ := own_lawne O1 lo1 lo2 lo3
      have s956 : ∀ t, Steps p.tables e below (T955.setTop (mkF m 103 #[.val (.ref fs), .val (.int xx), .val (.ref fb), .val (.ref fd), .val (.ref fe), .val (.int fk), .val (.int fn), .val (.int (0 : Int32)), .val (.int fc)] [])) t → Steps p.tables e below (T955.setTop (mkF m 44 #[.val (.ref fs), .val (.int xx), .val (.ref fb), .val (.ref fd), .val (.ref fe), .val (.int fk), .val (.int fn), .val (.int (0 : Int32)), .val (.int fc)] [])) t := by
        intro t kt
        refine XS.iload X955.here hx rfl (hb hby d10_44) rfl ?_
        show Steps p.tables e below (T955.setTop (mkF m 46 #[.val (.ref fs), .val (.int xx), .val (.ref fb), .val (.ref fd), .val (.ref fe), .val (.int fk), .val (.int fn), .val (.int (0 : Int32)), .val (.int fc)] [(.int fc)])) t
        refine XS.aloadN X955.here hx rfl (hb hby d10_46) rfl rfl ?_
        show Steps p.tables e below (T955.setTop (mkF m 47 #[.val (.ref fs), .val (.int xx), .val (.ref fb), .val (.ref fd), .val (.ref fe), .val (.int fk), .val (.int fn), .val (.int (0 : Int32)), .val (.int fc)] [(.ref fb), (.int fc)])) t
        refine XS.iload X955.here hx rfl (hb hby d10_47) rfl ?_
        show Steps p.tables e below (T955.setTop (mkF m 49 #[.val (.ref fs), .val (.int xx), .val (.ref fb), .val (.ref fd), .val (.ref fe), .val (.int fk), .val (.int fn), .val (.int (0 : Int32)), .val (.int fc)] [(.int fk), (.ref fb), (.int fc)])) t
        refine OwnKit.ldAI X955 hx hZ rfl Vb955 (j := fk) hk0 hk1 (w := (.int (fC (9 * kk)))) (by show Value.int (fC (9 * fk.toInt.toNat)) = _; rw [hkn]) (g := (mkF m 49 #[.val (.ref fs), .val (.int xx), .val (.ref fb), .val (.ref fd), .val (.ref fe), .val (.int fk), .val (.int fn), .val (.int (0 : Int32)), .val (.int fc)] [(.int fk), (.ref fb), (.int fc)])) rfl rfl (hb hby d10_49) _ ?_
        show Steps p.tables e below (T955.setTop (mkF m 50 #[.val (.ref fs), .val (.int xx), .val (.ref fb), .val (.ref fd), .val (.ref fe), .val (.int fk), .val (.int fn), .val (.int (0 : Int32)), .val (.int fc)] [(.int (fC (9 * kk))), (.int fc)])) t
        refine XS.icmpYes X955.here hx rfl (pc0 := 50) (pc' := 103) rfl (hb hby d10_50) rfl (flt hc).2.1 (by decide) (by decide) ?_
        exact kt
      obtain ⟨fs_, hr, hrun, hended, hW, hsame⟩ := X955.leave (hlocks := BodyLoose.notSynchronized Bd) (v := none) (fun _ => rfl)
      refine ⟨_, _, pre0 _ (s890 _ (s891 _ (s892 _ (s893 _ (s895 _ (s896 _ (st955.trans (s956 _ (?_))))))))), hrun, hended, _, _, rfl, ?_, ⟨_, rfl⟩, hW, hsame.mono (by decide) (by decide)⟩
      · show Steps p.tables e below (T955.setTop (mkF m 103 #[.val (.ref fs), .val (.int xx), .val (.ref fb), .val (.ref fd), .val (.ref fe), .val (.int fk), .val (.int fn), .val (.int (0 : Int32)), .val (.int fc)] [])) _
        exact X955.returnOut hx Bd.returns (hb hby d10_103) hr
      · show Q10 Z fs ca fa ta ka qa fb fd fe n fC fF fG fQ fD lo ls jj xx h0 n0 _ T955.heap _
        exact ⟨rfl, N955, K955, E955_, c1955, f1955, t1955, k1955, n1, _, _, _, _, _, O1, own_same I hle hn1, F955_costs, F955_froms, F955_transitions, F955_taken, F955_queue, F955_reached, F955_head, F955_queued, Vc955, ⟨gF, Vf955⟩, ⟨gG, Vt955⟩, Vk955, Vq955, Vb955, Vd955, Ve955⟩
  ·
    have s957 : ∀ t, Steps p.tables e below (s₁.setTop (mkF m 41 #[.val (.ref fs), .val (.int xx), .val (.ref fb), .val (.ref fd), .val (.ref fe), .val (.int fk), .val (.int fn), .val (.int (1 : Int32)), .val (.int ((xx >>> ((3 : Int32) &&& 31)) &&& (3 : Int32)))] [(.int (1 : Int32)), (.int (-1 : Int32)), (.int (-1 : Int32)), (.int ((xx >>> ((3 : Int32) &&& 31)) &&& (3 : Int32))), (.int fn), (.ref fs)])) t → Steps p.tables e below (s₁.setTop (mkF m 15 #[.val (.ref fs), .val (.int xx), .val (.ref fb), .val (.ref fd), .val (.ref fe), .val (.int fk), .val (.int fn), .unset, .unset] [(.int (xx &&& (4 : Int32)))])) t := by
      intro t kt
      refine XS.ifNo X0.here hx rfl (hb hby d10_15) rfl ((if0 _ _).trans (feq c894).1) ?_
      show Steps p.tables e below (s₁.setTop (mkF m 18 #[.val (.ref fs), .val (.int xx), .val (.ref fb), .val (.ref fd), .val (.ref fe), .val (.int fk), .val (.int fn), .unset, .unset] [])) t
      refine XS.iconst X0.here hx rfl (hb hby d10_18) ?_
      show Steps p.tables e below (s₁.setTop (mkF m 19 #[.val (.ref fs), .val (.int xx), .val (.ref fb), .val (.ref fd), .val (.ref fe), .val (.int fk), .val (.int fn), .unset, .unset] [(.int (1 : Int32))])) t
      refine XS.goto X0.here hx rfl (pc0 := 19) (pc' := 23) rfl (hb hby d10_19) (by decide) (by decide) ?_
      show Steps p.tables e below (s₁.setTop (mkF m 23 #[.val (.ref fs), .val (.int xx), .val (.ref fb), .val (.ref fd), .val (.ref fe), .val (.int fk), .val (.int fn), .unset, .unset] [(.int (1 : Int32))])) t
      refine XS.istore X0.here hx rfl (hb hby d10_23) rfl (l' := #[.val (.ref fs), .val (.int xx), .val (.ref fb), .val (.ref fd), .val (.ref fe), .val (.int fk), .val (.int fn), .val (.int (1 : Int32)), .unset]) rfl ?_
      show Steps p.tables e below (s₁.setTop (mkF m 25 #[.val (.ref fs), .val (.int xx), .val (.ref fb), .val (.ref fd), .val (.ref fe), .val (.int fk), .val (.int fn), .val (.int (1 : Int32)), .unset] [])) t
      refine XS.iloadN X0.here hx rfl (hb hby d10_25) rfl ?_
      show Steps p.tables e below (s₁.setTop (mkF m 26 #[.val (.ref fs), .val (.int xx), .val (.ref fb), .val (.ref fd), .val (.ref fe), .val (.int fk), .val (.int fn), .val (.int (1 : Int32)), .unset] [(.int xx)])) t
      refine XS.iconst X0.here hx rfl (hb hby d10_26) ?_
      show Steps p.tables e below (s₁.setTop (mkF m 27 #[.val (.ref fs), .val (.int xx), .val (.ref fb), .val (.ref fd), .val (.ref fe), .val (.int fk), .val (.int fn), .val (.int (1 : Int32)), .unset] [(.int (3 : Int32)), (.int xx)])) t
      refine XS.ishr X0.here hx rfl (hb hby d10_27) rfl ?_
      show Steps p.tables e below (s₁.setTop (mkF m 28 #[.val (.ref fs), .val (.int xx), .val (.ref fb), .val (.ref fd), .val (.ref fe), .val (.int fk), .val (.int fn), .val (.int (1 : Int32)), .unset] [(.int (xx >>> ((3 : Int32) &&& 31)))])) t
      refine XS.iconst X0.here hx rfl (hb hby d10_28) ?_
      show Steps p.tables e below (s₁.setTop (mkF m 29 #[.val (.ref fs), .val (.int xx), .val (.ref fb), .val (.ref fd), .val (.ref fe), .val (.int fk), .val (.int fn), .val (.int (1 : Int32)), .unset] [(.int (3 : Int32)), (.int (xx >>> ((3 : Int32) &&& 31)))])) t
      refine XS.iand X0.here hx rfl (hb hby d10_29) rfl ?_
      show Steps p.tables e below (s₁.setTop (mkF m 30 #[.val (.ref fs), .val (.int xx), .val (.ref fb), .val (.ref fd), .val (.ref fe), .val (.int fk), .val (.int fn), .val (.int (1 : Int32)), .unset] [(.int ((xx >>> ((3 : Int32) &&& 31)) &&& (3 : Int32)))])) t
      refine XS.istore X0.here hx rfl (hb hby d10_30) rfl (l' := #[.val (.ref fs), .val (.int xx), .val (.ref fb), .val (.ref fd), .val (.ref fe), .val (.int fk), .val (.int fn), .val (.int (1 : Int32)), .val (.int ((xx >>> ((3 : Int32) &&& 31)) &&& (3 : Int32)))]) rfl ?_
      show Steps p.tables e below (s₁.setTop (mkF m 32 #[.val (.ref fs), .val (.int xx), .val (.ref fb), .val (.ref fd), .val (.ref fe), .val (.int fk), .val (.int fn), .val (.int (1 : Int32)), .val (.int ((xx >>> ((3 : Int32) &&& 31)) &&& (3 : Int32)))] [])) t
      refine XS.aloadN X0.here hx rfl (hb hby d10_32) rfl rfl ?_
      show Steps p.tables e below (s₁.setTop (mkF m 33 #[.val (.ref fs), .val (.int xx), .val (.ref fb), .val (.ref fd), .val (.ref fe), .val (.int fk), .val (.int fn), .val (.int (1 : Int32)), .val (.int ((xx >>> ((3 : Int32) &&& 31)) &&& (3 : Int32)))] [(.ref fs)])) t
      refine XS.iload X0.here hx rfl (hb hby d10_33) rfl ?_
      show Steps p.tables e below (s₁.setTop (mkF m 35 #[.val (.ref fs), .val (.int xx), .val (.ref fb), .val (.ref fd), .val (.ref fe), .val (.int fk), .val (.int fn), .val (.int (1 : Int32)), .val (.int ((xx >>> ((3 : Int32) &&& 31)) &&& (3 : Int32)))] [(.int fn), (.ref fs)])) t
      refine XS.iload X0.here hx rfl (hb hby d10_35) rfl ?_
      show Steps p.tables e below (s₁.setTop (mkF m 37 #[.val (.ref fs), .val (.int xx), .val (.ref fb), .val (.ref fd), .val (.ref fe), .val (.int fk), .val (.int fn), .val (.int (1 : Int32)), .val (.int ((xx >>> ((3 : Int32) &&& 31)) &&& (3 : Int32)))] [(.int ((xx >>> ((3 : Int32) &&& 31)) &&& (3 : Int32))), (.int fn), (.ref fs)])) t
      refine XS.iconst X0.here hx rfl (hb hby d10_37) ?_
      show Steps p.tables e below (s₁.setTop (mkF m 38 #[.val (.ref fs), .val (.int xx), .val (.ref fb), .val (.ref fd), .val (.ref fe), .val (.int fk), .val (.int fn), .val (.int (1 : Int32)), .val (.int ((xx >>> ((3 : Int32) &&& 31)) &&& (3 : Int32)))] [(.int (-1 : Int32)), (.int ((xx >>> ((3 : Int32) &&& 31)) &&& (3 : Int32))), (.int fn), (.ref fs)])) t
      refine XS.iconst X0.here hx rfl (hb hby d10_38) ?_
      show Steps p.tables e below (s₁.setTop (mkF m 39 #[.val (.ref fs), .val (.int xx), .val (.ref fb), .val (.ref fd), .val (.ref fe), .val (.int fk), .val (.int fn), .val (.int (1 : Int32)), .val (.int ((xx >>> ((3 : Int32) &&& 31)) &&& (3 : Int32)))] [(.int (-1 : Int32)), (.int (-1 : Int32)), (.int ((xx >>> ((3 : Int32) &&& 31)) &&& (3 : Int32))), (.int fn), (.ref fs)])) t
      refine XS.iload X0.here hx rfl (hb hby d10_39) rfl ?_
      exact kt
    obtain ⟨fc, hfc⟩ : ∃ z : Int32, z = ((xx >>> ((3 : Int32) &&& 31)) &&& (3 : Int32)) := ⟨_, rfl⟩
    have s958 : ∀ t, Steps p.tables e below (s₁.setTop (mkF m 41 #[.val (.ref fs), .val (.int xx), .val (.ref fb), .val (.ref fd), .val (.ref fe), .val (.int fk), .val (.int fn), .val (.int (1 : Int32)), .val (.int fc)] [(.int (1 : Int32)), (.int (-1 : Int32)), (.int (-1 : Int32)), (.int fc), (.int fn), (.ref fs)])) t → Steps p.tables e below (s₁.setTop (mkF m 41 #[.val (.ref fs), .val (.int xx), .val (.ref fb), .val (.ref fd), .val (.ref fe), .val (.int fk), .val (.int fn), .val (.int (1 : Int32)), .val (.int ((xx >>> ((3 : Int32) &&& 31)) &&& (3 : Int32)))] [(.int (1 : Int32)), (.int (-1 : Int32)), (.int (-1 : Int32)), (.int ((xx >>> ((3 : Int32) &&& 31)) &&& (3 : Int32))), (.int fn), (.ref fs)])) t := fun t kt => by subst hfc; exact kt
    have hcases : fc < fC (9 * kk) ∨ ¬ fc < fC (9 * kk) := Classical.em _
    have hlo1 : 1 ≤ lo := own_lo1 iA hj
    obtain ⟨hb1, hb2, hb3, hb4, hb5, hb6, hb7, hb8⟩ := own_hb lo hlo1 iB
    rcases hcases with hc | hc
    ·
      obtain ⟨cq959, kq959, qa959, qb959, qc959⟩ := isOf hZ e0 Es
      obtain ⟨_, _, ⟨T959, L959, k959, n959⟩, -, X959, ⟨Lc959, hQ959, l959, y959, z959⟩, st959⟩ := X0.virtualBack hx (y := (⟨"com/example/witness/witness/logic/StepSearch", "reach", "(IIIIZ)V"⟩ : MethodName)) (z := (⟨"com/example/witness/witness/logic/StepSearch", "reach", "(IIIIZ)V"⟩ : MethodName)) hown (mvT hZ (hw _ (List.mem_of_getElem? (i := 31) rfl))) (mvT hZ (hw _ (List.mem_of_getElem? (i := 32) rfl))) (notFace_of_selects (args := #[]) (mvT hZ (hw _ (List.mem_of_getElem? (i := 34) rfl)))) (mvT hZ (hw _ (List.mem_of_getElem? (i := 34) rfl))) (mvT hZ (hw _ (List.mem_of_getElem? (i := 33) rfl))) (by decide) (backOf (W := 0) (rm9b l Z a0 hw [] fs ca fa ta ka qa fe n (9 * kk) fC fF fG fQ fn fc (-1 : Int32) (-1 : Int32) (own_h (lo + 13)) (Int32.ofNat ls.length) h0 n0 Z0 Es Gs P_costs P_froms P_transitions P_taken P_queue P_reached P_head P_queued Vc Vf Vt Vk Vq O Ve.lt hN hN27 i54 iC hc (by rw [hb1]; exact hb3) (by rw [hb1]; exact hb4) hc4) hZ (hw _ (List.mem_of_getElem? (i := 35) rfl)) (hw _ (List.mem_of_getElem? (i := 2) rfl)) (by decide) (by decide)) qa959 qc959 (g := (mkF m 41 #[.val (.ref fs), .val (.int xx), .val (.ref fb), .val (.ref fd), .val (.ref fe), .val (.int fk), .val (.int fn), .val (.int (1 : Int32)), .val (.int fc)] [(.int (1 : Int32)), (.int (-1 : Int32)), (.int (-1 : Int32)), (.int fc), (.int fn), (.ref fs)])) rfl (by rw [hml]; rfl) (Steps.refl _) (argsL := [(.int fn), (.int fc), (.int (-1 : Int32)), (.int (-1 : Int32)), (.int (1 : Int32))]) (rest := []) (lenOf pd_oIIIIZcV rfl) rfl (by show 2 * 0 + _ ≤ _; exact Nat.le_of_eq rfl) (hb hby d10_41) (fun _ _ => ⟨rfl, e0, (by decide : 0 + 4 ≤ _), (by decide : 0 + 216 ≤ _)⟩)
      dsimp only [Pt.U, Pt.locs, Pt.cells, Pt.slots] at X959 l959 y959 z959 st959 hQ959
      rw [l959, y959, z959] at X959
      obtain ⟨hv959, N959q, Kc959, E959_, c1959, f1959, t1959, k1959, n1, O1, hle, hNlt, hn1, F959_costs, F959_froms, F959_transitions, F959_taken, F959_queue, F959_reached, F959_head, F959_queued, Vc959, ⟨gF, Vf959⟩, ⟨gG, Vt959⟩, Vk959, Vq959⟩ := hQ959
      rw [hv959] at st959
      have N959 := Fr.app N0 N959q
      have Vb959 := Vb.keep Kc959 (ninS b0 (ninS b1 (ninS b2 (ninS b3 (ninS b4 (ninS b5 nin0))))))
      have Vd959 := Vd.keep Kc959 (ninS d0 (ninS d1 (ninS d2 (ninS d3 (ninS d4 (ninS d5 nin0))))))
      have Ve959 := Ve.keep Kc959 (ninS v0 (ninS v1 (ninS v2 (ninS v3 (ninS v4 (ninS v5 nin0))))))
      have K959 : Keep h0 T959.heap [fs, ca, fa, ta, ka, qa, fb, fd, fe] := (Keep.refl h0 [fs, ca, fa, ta, ka, qa, fb, fd, fe]).trans Kc959 (allS (Or.inl (List.mem_of_getElem? (i := 0) rfl)) (allS (Or.inl (List.mem_of_getElem? (i := 1) rfl)) (allS (Or.inl (List.mem_of_getElem? (i := 2) rfl)) (allS (Or.inl (List.mem_of_getElem? (i := 3) rfl)) (allS (Or.inl (List.mem_of_getElem? (i := 4) rfl)) (allS (Or.inl (List.mem_of_getElem? (i := 5) rfl)) all0))))))
      have Zs959 : n0 ≤ T959.heap.size := Nat.le_trans Z0 Kc959.1
      obtain ⟨⟨nb0, nb1, nb2, nb3, nb4, nb5⟩, ⟨nd0, nd1, nd2, nd3, nd4, nd5⟩, ⟨nv0, nv1, nv2, nv3, nv4, nv5⟩, -, -, -⟩ := own_lawne O1 lo1 lo2 lo3
      have s960 : ∀ t, Steps p.tables e below (T959.setTop (mkF m 58 #[.val (.ref fs), .val (.int xx), .val (.ref fb), .val (.ref fd), .val (.ref fe), .val (.int fk), .val (.int fn), .val (.int (1 : Int32)), .val (.int fc)] [(.int fc), (.int fk), (.ref fb)])) t → Steps p.tables e below (T959.setTop (mkF m 44 #[.val (.ref fs), .val (.int xx), .val (.ref fb), .val (.ref fd), .val (.ref fe), .val (.int fk), .val (.int fn), .val (.int (1 : Int32)), .val (.int fc)] [])) t := by
        intro t kt
        refine XS.iload X959.here hx rfl (hb hby d10_44) rfl ?_
        show Steps p.tables e below (T959.setTop (mkF m 46 #[.val (.ref fs), .val (.int xx), .val (.ref fb), .val (.ref fd), .val (.ref fe), .val (.int fk), .val (.int fn), .val (.int (1 : Int32)), .val (.int fc)] [(.int fc)])) t
        refine XS.aloadN X959.here hx rfl (hb hby d10_46) rfl rfl ?_
        show Steps p.tables e below (T959.setTop (mkF m 47 #[.val (.ref fs), .val (.int xx), .val (.ref fb), .val (.ref fd), .val (.ref fe), .val (.int fk), .val (.int fn), .val (.int (1 : Int32)), .val (.int fc)] [(.ref fb), (.int fc)])) t
        refine XS.iload X959.here hx rfl (hb hby d10_47) rfl ?_
        show Steps p.tables e below (T959.setTop (mkF m 49 #[.val (.ref fs), .val (.int xx), .val (.ref fb), .val (.ref fd), .val (.ref fe), .val (.int fk), .val (.int fn), .val (.int (1 : Int32)), .val (.int fc)] [(.int fk), (.ref fb), (.int fc)])) t
        refine OwnKit.ldAI X959 hx hZ rfl Vb959 (j := fk) hk0 hk1 (w := (.int (fC (9 * kk)))) (by show Value.int (fC (9 * fk.toInt.toNat)) = _; rw [hkn]) (g := (mkF m 49 #[.val (.ref fs), .val (.int xx), .val (.ref fb), .val (.ref fd), .val (.ref fe), .val (.int fk), .val (.int fn), .val (.int (1 : Int32)), .val (.int fc)] [(.int fk), (.ref fb), (.int fc)])) rfl rfl (hb hby d10_49) _ ?_
        show Steps p.tables e below (T959.setTop (mkF m 50 #[.val (.ref fs), .val (.int xx), .val (.ref fb), .val (.ref fd), .val (.ref fe), .val (.int fk), .val (.int fn), .val (.int (1 : Int32)), .val (.int fc)] [(.int (fC (9 * kk))), (.int fc)])) t
        refine XS.icmpNo X959.here hx rfl (hb hby d10_50) rfl (tlt hc).2.1 ?_
        show Steps p.tables e below (T959.setTop (mkF m 53 #[.val (.ref fs), .val (.int xx), .val (.ref fb), .val (.ref fd), .val (.ref fe), .val (.int fk), .val (.int fn), .val (.int (1 : Int32)), .val (.int fc)] [])) t
        refine XS.aloadN X959.here hx rfl (hb hby d10_53) rfl rfl ?_
        show Steps p.tables e below (T959.setTop (mkF m 54 #[.val (.ref fs), .val (.int xx), .val (.ref fb), .val (.ref fd), .val (.ref fe), .val (.int fk), .val (.int fn), .val (.int (1 : Int32)), .val (.int fc)] [(.ref fb)])) t
        refine XS.iload X959.here hx rfl (hb hby d10_54) rfl ?_
        show Steps p.tables e below (T959.setTop (mkF m 56 #[.val (.ref fs), .val (.int xx), .val (.ref fb), .val (.ref fd), .val (.ref fe), .val (.int fk), .val (.int fn), .val (.int (1 : Int32)), .val (.int fc)] [(.int fk), (.ref fb)])) t
        refine XS.iload X959.here hx rfl (hb hby d10_56) rfl ?_
        exact kt
      obtain ⟨T961, h961, X961, e961, W961, V961, st961⟩ := OwnKit.stAI X959 hx hZ rfl Vb959 (j := fk) hk0 hk1 (g := (mkF m 58 #[.val (.ref fs), .val (.int xx), .val (.ref fb), .val (.ref fd), .val (.ref fe), .val (.int fk), .val (.int fn), .val (.int (1 : Int32)), .val (.int fc)] [(.int fc), (.int fk), (.ref fb)])) rfl rfl (hb hby d10_58)
      have Zs961 : n0 ≤ h961.size := Nat.le_trans Zs959 (Keep.of_wr W961).1
      have fE962 := E959_.wr W961
      have fF963 := F959_costs.other W961 (Or.inl (Ne.symm nb0))
      have fF964 := F959_froms.other W961 (Or.inl (Ne.symm nb0))
      have fF965 := F959_transitions.other W961 (Or.inl (Ne.symm nb0))
      have fF966 := F959_taken.other W961 (Or.inl (Ne.symm nb0))
      have fF967 := F959_queue.other W961 (Or.inl (Ne.symm nb0))
      have fF968 := F959_reached.other W961 (Or.inl (Ne.symm nb0))
      have fF969 := F959_head.other W961 (Or.inl (Ne.symm nb0))
      have fF970 := F959_queued.other W961 (Or.inl (Ne.symm nb0))
      have fV971 := Vc959.other W961 (Ne.symm nb1)
      have fV972 := Vf959.other W961 (Ne.symm nb2)
      have fV973 := Vt959.other W961 (Ne.symm nb3)
      have fV974 := Vk959.other W961 (Ne.symm nb4)
      have fV975 := Vq959.other W961 (Ne.symm nb5)
      have fV976 := V961
      have fV977 := Vd959.other W961 (Ne.symm nbd)
      have fV978 := Ve959.other W961 (Ne.symm nbe)
      have K961 : Keep h0 h961 [fs, ca, fa, ta, ka, qa, fb, fd, fe] := K959.wr W961 (Or.inl (List.mem_of_getElem? (i := 6) rfl))
      have N961 := Fr.snoc X961 N959 gb
      have s979 : ∀ t, Steps p.tables e below (T961.setTop (mkF m 73 #[.val (.ref fs), .val (.int xx), .val (.ref fb), .val (.ref fd), .val (.ref fe), .val (.int fk), .val (.int fn), .val (.int (1 : Int32)), .val (.int fc)] [(.int ((Int32.ofNat lo) - (1 : Int32))), (.int (0 : Int32)), (.ref fe)])) t → Steps p.tables e below (T961.setTop (mkF m 59 #[.val (.ref fs), .val (.int xx), .val (.ref fb), .val (.ref fd), .val (.ref fe), .val (.int fk), .val (.int fn), .val (.int (1 : Int32)), .val (.int fc)] [])) t := by
        intro t kt
        refine XS.iload X961.here hx rfl (hb hby d10_59) rfl ?_
        show Steps p.tables e below (T961.setTop (mkF m 61 #[.val (.ref fs), .val (.int xx), .val (.ref fb), .val (.ref fd), .val (.ref fe), .val (.int fk), .val (.int fn), .val (.int (1 : Int32)), .val (.int fc)] [(.int (1 : Int32))])) t
        refine XS.ifNo X961.here hx rfl (hb hby d10_61) rfl ((if0 _ _).trans (feq (by decide)).1) ?_
        show Steps p.tables e below (T961.setTop (mkF m 64 #[.val (.ref fs), .val (.int xx), .val (.ref fb), .val (.ref fd), .val (.ref fe), .val (.int fk), .val (.int fn), .val (.int (1 : Int32)), .val (.int fc)] [])) t
        refine XS.aload X961.here hx rfl (hb hby d10_64) rfl rfl ?_
        show Steps p.tables e below (T961.setTop (mkF m 66 #[.val (.ref fs), .val (.int xx), .val (.ref fb), .val (.ref fd), .val (.ref fe), .val (.int fk), .val (.int fn), .val (.int (1 : Int32)), .val (.int fc)] [(.ref fe)])) t
        refine XS.iconst X961.here hx rfl (hb hby d10_66) ?_
        show Steps p.tables e below (T961.setTop (mkF m 67 #[.val (.ref fs), .val (.int xx), .val (.ref fb), .val (.ref fd), .val (.ref fe), .val (.int fk), .val (.int fn), .val (.int (1 : Int32)), .val (.int fc)] [(.int (0 : Int32)), (.ref fe)])) t
        refine XS.aload X961.here hx rfl (hb hby d10_67) rfl rfl ?_
        show Steps p.tables e below (T961.setTop (mkF m 69 #[.val (.ref fs), .val (.int xx), .val (.ref fb), .val (.ref fd), .val (.ref fe), .val (.int fk), .val (.int fn), .val (.int (1 : Int32)), .val (.int fc)] [(.ref fe), (.int (0 : Int32)), (.ref fe)])) t
        refine XS.iconst X961.here hx rfl (hb hby d10_69) ?_
        show Steps p.tables e below (T961.setTop (mkF m 70 #[.val (.ref fs), .val (.int xx), .val (.ref fb), .val (.ref fd), .val (.ref fe), .val (.int fk), .val (.int fn), .val (.int (1 : Int32)), .val (.int fc)] [(.int (0 : Int32)), (.ref fe), (.int (0 : Int32)), (.ref fe)])) t
        refine OwnKit.ldAI X961 hx hZ e961 fV978 (j := (0 : Int32)) (by decide) (by decide) (w := (.int (Int32.ofNat lo))) rfl (g := (mkF m 70 #[.val (.ref fs), .val (.int xx), .val (.ref fb), .val (.ref fd), .val (.ref fe), .val (.int fk), .val (.int fn), .val (.int (1 : Int32)), .val (.int fc)] [(.int (0 : Int32)), (.ref fe), (.int (0 : Int32)), (.ref fe)])) rfl rfl (hb hby d10_70) _ ?_
        show Steps p.tables e below (T961.setTop (mkF m 71 #[.val (.ref fs), .val (.int xx), .val (.ref fb), .val (.ref fd), .val (.ref fe), .val (.int fk), .val (.int fn), .val (.int (1 : Int32)), .val (.int fc)] [(.int (Int32.ofNat lo)), (.int (0 : Int32)), (.ref fe)])) t
        refine XS.iconst X961.here hx rfl (hb hby d10_71) ?_
        show Steps p.tables e below (T961.setTop (mkF m 72 #[.val (.ref fs), .val (.int xx), .val (.ref fb), .val (.ref fd), .val (.ref fe), .val (.int fk), .val (.int fn), .val (.int (1 : Int32)), .val (.int fc)] [(.int (1 : Int32)), (.int (Int32.ofNat lo)), (.int (0 : Int32)), (.ref fe)])) t
        refine XS.isub X961.here hx rfl (hb hby d10_72) rfl ?_
        exact kt
      obtain ⟨T980, h980, X980, e980, W980, V980, st980⟩ := OwnKit.stAI X961 hx hZ e961 fV978 (j := (0 : Int32)) (by decide) (by decide) (g := (mkF m 73 #[.val (.ref fs), .val (.int xx), .val (.ref fb), .val (.ref fd), .val (.ref fe), .val (.int fk), .val (.int fn), .val (.int (1 : Int32)), .val (.int fc)] [(.int ((Int32.ofNat lo) - (1 : Int32))), (.int (0 : Int32)), (.ref fe)])) rfl rfl (hb hby d10_73)
      have Zs980 : n0 ≤ h980.size := Nat.le_trans Zs961 (Keep.of_wr W980).1
      have fE981 := fE962.wr W980
      have fF982 := fF963.other W980 (Or.inl (Ne.symm nv0))
      have fF983 := fF964.other W980 (Or.inl (Ne.symm nv0))
      have fF984 := fF965.other W980 (Or.inl (Ne.symm nv0))
      have fF985 := fF966.other W980 (Or.inl (Ne.symm nv0))
      have fF986 := fF967.other W980 (Or.inl (Ne.symm nv0))
      have fF987 := fF968.other W980 (Or.inl (Ne.symm nv0))
      have fF988 := fF969.other W980 (Or.inl (Ne.symm nv0))
      have fF989 := fF970.other W980 (Or.inl (Ne.symm nv0))
      have fV990 := fV971.other W980 (Ne.symm nv1)
      have fV991 := fV972.other W980 (Ne.symm nv2)
      have fV992 := fV973.other W980 (Ne.symm nv3)
      have fV993 := fV974.other W980 (Ne.symm nv4)
      have fV994 := fV975.other W980 (Ne.symm nv5)
      have fV995 := fV976.other W980 nbe
      have fV996 := fV977.other W980 nde
      have fV997 := V980
      have K980 : Keep h0 h980 [fs, ca, fa, ta, ka, qa, fb, fd, fe] := K961.wr W980 (Or.inl (List.mem_of_getElem? (i := 8) rfl))
      have N980 := Fr.snoc X980 N961 ge
      have s998 : ∀ t, Steps p.tables e below (T980.setTop (mkF m 81 #[.val (.ref fs), .val (.int xx), .val (.ref fb), .val (.ref fd), .val (.ref fe), .val (.int fk), .val (.int fn), .val (.int (1 : Int32)), .val (.int fc)] [(.int fn), (.int ((Int32.ofNat lo) - (1 : Int32))), (.ref fd)])) t → Steps p.tables e below (T980.setTop (mkF m 74 #[.val (.ref fs), .val (.int xx), .val (.ref fb), .val (.ref fd), .val (.ref fe), .val (.int fk), .val (.int fn), .val (.int (1 : Int32)), .val (.int fc)] [])) t := by
        intro t kt
        refine XS.aloadN X980.here hx rfl (hb hby d10_74) rfl rfl ?_
        show Steps p.tables e below (T980.setTop (mkF m 75 #[.val (.ref fs), .val (.int xx), .val (.ref fb), .val (.ref fd), .val (.ref fe), .val (.int fk), .val (.int fn), .val (.int (1 : Int32)), .val (.int fc)] [(.ref fd)])) t
        refine XS.aload X980.here hx rfl (hb hby d10_75) rfl rfl ?_
        show Steps p.tables e below (T980.setTop (mkF m 77 #[.val (.ref fs), .val (.int xx), .val (.ref fb), .val (.ref fd), .val (.ref fe), .val (.int fk), .val (.int fn), .val (.int (1 : Int32)), .val (.int fc)] [(.ref fe), (.ref fd)])) t
        refine XS.iconst X980.here hx rfl (hb hby d10_77) ?_
        show Steps p.tables e below (T980.setTop (mkF m 78 #[.val (.ref fs), .val (.int xx), .val (.ref fb), .val (.ref fd), .val (.ref fe), .val (.int fk), .val (.int fn), .val (.int (1 : Int32)), .val (.int fc)] [(.int (0 : Int32)), (.ref fe), (.ref fd)])) t
        refine OwnKit.ldAI X980 hx hZ e980 fV997 (j := (0 : Int32)) (by decide) (by decide) (w := (.int ((Int32.ofNat lo) - (1 : Int32)))) rfl (g := (mkF m 78 #[.val (.ref fs), .val (.int xx), .val (.ref fb), .val (.ref fd), .val (.ref fe), .val (.int fk), .val (.int fn), .val (.int (1 : Int32)), .val (.int fc)] [(.int (0 : Int32)), (.ref fe), (.ref fd)])) rfl rfl (hb hby d10_78) _ ?_
        show Steps p.tables e below (T980.setTop (mkF m 79 #[.val (.ref fs), .val (.int xx), .val (.ref fb), .val (.ref fd), .val (.ref fe), .val (.int fk), .val (.int fn), .val (.int (1 : Int32)), .val (.int fc)] [(.int ((Int32.ofNat lo) - (1 : Int32))), (.ref fd)])) t
        refine XS.iload X980.here hx rfl (hb hby d10_79) rfl ?_
        exact kt
      obtain ⟨T999, h999, X999, e999, W999, V999, st999⟩ := OwnKit.stAI X980 hx hZ e980 fV996 (j := ((Int32.ofNat lo) - (1 : Int32))) (by rw [hb5]; exact hb7) (by rw [hb5]; exact hb8) (g := (mkF m 81 #[.val (.ref fs), .val (.int xx), .val (.ref fb), .val (.ref fd), .val (.ref fe), .val (.int fk), .val (.int fn), .val (.int (1 : Int32)), .val (.int fc)] [(.int fn), (.int ((Int32.ofNat lo) - (1 : Int32))), (.ref fd)])) rfl rfl (hb hby d10_81)
      have Zs999 : n0 ≤ h999.size := Nat.le_trans Zs980 (Keep.of_wr W999).1
      have fE1000 := fE981.wr W999
      have fF1001 := fF982.other W999 (Or.inl (Ne.symm nd0))
      have fF1002 := fF983.other W999 (Or.inl (Ne.symm nd0))
      have fF1003 := fF984.other W999 (Or.inl (Ne.symm nd0))
      have fF1004 := fF985.other W999 (Or.inl (Ne.symm nd0))
      have fF1005 := fF986.other W999 (Or.inl (Ne.symm nd0))
      have fF1006 := fF987.other W999 (Or.inl (Ne.symm nd0))
      have fF1007 := fF988.other W999 (Or.inl (Ne.symm nd0))
      have fF1008 := fF989.other W999 (Or.inl (Ne.symm nd0))
      have fV1009 := fV990.other W999 (Ne.symm nd1)
      have fV1010 := fV991.other W999 (Ne.symm nd2)
      have fV1011 := fV992.other W999 (Ne.symm nd3)
      have fV1012 := fV993.other W999 (Ne.symm nd4)
      have fV1013 := fV994.other W999 (Ne.symm nd5)
      have fV1014 := fV995.other W999 nbd
      have fV1015 := V999
      have fV1016 := fV997.other W999 (Ne.symm nde)
      have K999 : Keep h0 h999 [fs, ca, fa, ta, ka, qa, fb, fd, fe] := K980.wr W999 (Or.inl (List.mem_of_getElem? (i := 7) rfl))
      have N999 := Fr.snoc X999 N980 gd
      have gb1 : Ar Z h999 fb .int 4 (fun i => .int ((fun i => if i = 9 * kk then fc else fC i) (9 * i))) := fV1014.as (fun i hi => by show (if i = fk.toInt.toNat then Value.int fc else .int (fC (9 * i))) = .int (if 9 * i = 9 * kk then fc else fC (9 * i)); rw [hkn]; exact own_gb kk i fc fC)
      have gh := fF1007
      have gqd := fF1008
      rw [hc5] at gqd
      have gqq := fV1013
      have gdd := fV1015
      have gee := fV1016
      rw [hb1] at gh gqq
      rw [hb2] at gqq
      rw [hb5, hb6] at gdd
      rw [hb5] at gee
      have gd1 : Ar Z h999 fd .int 7 (fun i => .int (if i = lo - 1 then fn else fD i)) := gdd.as (fun i _ => by show (if i = lo - 1 then Value.int fn else .int (fD i)) = .int (if i = lo - 1 then fn else fD i); split <;> rfl)
      have ge1 : Ar Z h999 fe .int 2 (fun i => if i = 0 then .int (Int32.ofNat (lo - 1)) else .int (Int32.ofNat ((lo - 1) + (kk :: ls).length))) := gee.as (fun i _ => by show (if i = 0 then Value.int (Int32.ofNat (lo - 1)) else (if i = 0 then .int (Int32.ofNat lo) else .int (Int32.ofNat (lo + ls.length)))) = (if i = 0 then .int (Int32.ofNat (lo - 1)) else .int (Int32.ofNat (lo - 1 + (kk :: ls).length))); exact own_gf lo ls kk hlo1 i)
      have s1017 : ∀ t, Steps p.tables e below (T999.setTop (mkF m 103 #[.val (.ref fs), .val (.int xx), .val (.ref fb), .val (.ref fd), .val (.ref fe), .val (.int fk), .val (.int fn), .val (.int (1 : Int32)), .val (.int fc)] [])) t → Steps p.tables e below (T999.setTop (mkF m 82 #[.val (.ref fs), .val (.int xx), .val (.ref fb), .val (.ref fd), .val (.ref fe), .val (.int fk), .val (.int fn), .val (.int (1 : Int32)), .val (.int fc)] [])) t := by
        intro t kt
        refine XS.goto X999.here hx rfl (pc0 := 82) (pc' := 103) rfl (hb hby d10_82) (by decide) (by decide) ?_
        exact kt
      obtain ⟨fs_, hr, hrun, hended, hW, hsame⟩ := X999.leave (hlocks := BodyLoose.notSynchronized Bd) (v := none) (fun _ => rfl)
      refine ⟨_, _, pre0 _ (s890 _ (s891 _ (s892 _ (s893 _ (s957 _ (s958 _ (st959.trans (s960 _ (st961 _ (s979 _ (st980 _ (s998 _ (st999 _ (s1017 _ (?_))))))))))))))), hrun, hended, _, _, rfl, ?_, ⟨_, rfl⟩, hW, hsame.mono (by decide) (by decide)⟩
      · show Steps p.tables e below (T999.setTop (mkF m 103 #[.val (.ref fs), .val (.int xx), .val (.ref fb), .val (.ref fd), .val (.ref fe), .val (.int fk), .val (.int fn), .val (.int (1 : Int32)), .val (.int fc)] [])) _
        exact X999.returnOut hx Bd.returns (hb hby d10_103) hr
      · show Q10 Z fs ca fa ta ka qa fb fd fe n fC fF fG fQ fD lo ls jj xx h0 n0 _ T999.heap _
        rw [e999]
        exact ⟨rfl, N999, K999, fE1000, c1959, f1959, t1959, k1959, n1, _, _, _, _, _, O1, own_front I hj hk4 hle hNlt hn1 hfn, fF1001, fF1002, fF1003, fF1004, fF1005, fF1006, gh, gqd, fV1009, ⟨gF, fV1010⟩, ⟨gG, fV1011⟩, fV1012, gqq, gb1, gd1, ge1⟩
    ·
      obtain ⟨cq1018, kq1018, qa1018, qb1018, qc1018⟩ := isOf hZ e0 Es
      obtain ⟨_, _, ⟨T1018, L1018, k1018, n1018⟩, -, X1018, ⟨Lc1018, hQ1018, l1018, y1018, z1018⟩, st1018⟩ := X0.virtualBack hx (y := (⟨"com/example/witness/witness/logic/StepSearch", "reach", "(IIIIZ)V"⟩ : MethodName)) (z := (⟨"com/example/witness/witness/logic/StepSearch", "reach", "(IIIIZ)V"⟩ : MethodName)) hown (mvT hZ (hw _ (List.mem_of_getElem? (i := 31) rfl))) (mvT hZ (hw _ (List.mem_of_getElem? (i := 32) rfl))) (notFace_of_selects (args := #[]) (mvT hZ (hw _ (List.mem_of_getElem? (i := 34) rfl)))) (mvT hZ (hw _ (List.mem_of_getElem? (i := 34) rfl))) (mvT hZ (hw _ (List.mem_of_getElem? (i := 33) rfl))) (by decide) (backOf (W := 0) (rm9a l Z a0 hw [] fs ca fa ta ka qa fe n (9 * kk) fC fF fG fQ fn fc (-1 : Int32) (-1 : Int32) (own_h (lo + 13)) (Int32.ofNat ls.length) (1 : Int32) h0 n0 Z0 Es Gs P_costs P_froms P_transitions P_taken P_queue P_reached P_head P_queued Vc Vf Vt Vk Vq O Ve.lt hN hN27 i54 iC hc) hZ (hw _ (List.mem_of_getElem? (i := 35) rfl)) (hw _ (List.mem_of_getElem? (i := 2) rfl)) (by decide) (by decide)) qa1018 qc1018 (g := (mkF m 41 #[.val (.ref fs), .val (.int xx), .val (.ref fb), .val (.ref fd), .val (.ref fe), .val (.int fk), .val (.int fn), .val (.int (1 : Int32)), .val (.int fc)] [(.int (1 : Int32)), (.int (-1 : Int32)), (.int (-1 : Int32)), (.int fc), (.int fn), (.ref fs)])) rfl (by rw [hml]; rfl) (Steps.refl _) (argsL := [(.int fn), (.int fc), (.int (-1 : Int32)), (.int (-1 : Int32)), (.int (1 : Int32))]) (rest := []) (lenOf pd_oIIIIZcV rfl) rfl (by show 2 * 0 + _ ≤ _; exact Nat.le_of_eq rfl) (hb hby d10_41) (fun _ _ => ⟨rfl, e0, (by decide : 0 + 4 ≤ _), (by decide : 0 + 216 ≤ _)⟩)
      dsimp only [Pt.U, Pt.locs, Pt.cells, Pt.slots] at X1018 l1018 y1018 z1018 st1018 hQ1018
      rw [l1018, y1018, z1018] at X1018
      obtain ⟨hv1018, N1018q, Kc1018, E1018_, c11018, f11018, t11018, k11018, n1, O1, hle, hNlt, hn1, F1018_costs, F1018_froms, F1018_transitions, F1018_taken, F1018_queue, F1018_reached, F1018_head, F1018_queued, Vc1018, ⟨gF, Vf1018⟩, ⟨gG, Vt1018⟩, Vk1018, Vq1018⟩ := hQ1018
      rw [hv1018] at st1018
      have N1018 := Fr.app N0 N1018q
      have Vb1018 := Vb.keep Kc1018 (ninS b0 (ninS b1 (ninS b2 (ninS b3 (ninS b4 (ninS b5 nin0))))))
      have Vd1018 := Vd.keep Kc1018 (ninS d0 (ninS d1 (ninS d2 (ninS d3 (ninS d4 (ninS d5 nin0))))))
      have Ve1018 := Ve.keep Kc1018 (ninS v0 (ninS v1 (ninS v2 (ninS v3 (ninS v4 (ninS v5 nin0))))))
      have K1018 : Keep h0 T1018.heap [fs, ca, fa, ta, ka, qa, fb, fd, fe] := (Keep.refl h0 [fs, ca, fa, ta, ka, qa, fb, fd, fe]).trans Kc1018 (allS (Or.inl (List.mem_of_getElem? (i := 0) rfl)) (allS (Or.inl (List.mem_of_getElem? (i := 1) rfl)) (allS (Or.inl (List.mem_of_getElem? (i := 2) rfl)) (allS (Or.inl (List.mem_of_getElem? (i := 3) rfl)) (allS (Or.inl (List.mem_of_getElem? (i := 4) rfl)) (allS (Or.inl (List.mem_of_getElem? (i := 5) rfl)) all0))))))
      have Zs1018 : n0 ≤ T1018.heap.size := Nat.le_trans Z0 Kc1018.1
      obtain ⟨⟨nb0, nb1, nb2, nb3, nb4, nb5⟩, ⟨nd0, nd1, nd2, nd3, nd4, nd5⟩, ⟨nv0, nv1, nv2, nv3, nv4, nv5⟩, -, -, -⟩ := own_lawne O1 lo1 lo2 lo3
      have s1019 : ∀ t, Steps p.tables e below (T1018.setTop (mkF m 103 #[.val (.ref fs), .val (.int xx), .val (.ref fb), .val (.ref fd), .val (.ref fe), .val (.int fk), .val (.int fn), .val (.int (1 : Int32)), .val (.int fc)] [])) t → Steps p.tables e below (T1018.setTop (mkF m 44 #[.val (.ref fs), .val (.int xx), .val (.ref fb), .val (.ref fd), .val (.ref fe), .val (.int fk), .val (.int fn), .val (.int (1 : Int32)), .val (.int fc)] [])) t := by
        intro t kt
        refine XS.iload X1018.here hx rfl (hb hby d10_44) rfl ?_
        show Steps p.tables e below (T1018.setTop (mkF m 46 #[.val (.ref fs), .val (.int xx), .val (.ref fb), .val (.ref fd), .val (.ref fe), .val (.int fk), .val (.int fn), .val (.int (1 : Int32)), .val (.int fc)] [(.int fc)])) t
        refine XS.aloadN X1018.here hx rfl (hb hby d10_46) rfl rfl ?_
        show Steps p.tables e below (T1018.setTop (mkF m 47 #[.val (.ref fs), .val (.int xx), .val (.ref fb), .val (.ref fd), .val (.ref fe), .val (.int fk), .val (.int fn), .val (.int (1 : Int32)), .val (.int fc)] [(.ref fb), (.int fc)])) t
        refine XS.iload X1018.here hx rfl (hb hby d10_47) rfl ?_
        show Steps p.tables e below (T1018.setTop (mkF m 49 #[.val (.ref fs), .val (.int xx), .val (.ref fb), .val (.ref fd), .val (.ref fe), .val (.int fk), .val (.int fn), .val (.int (1 : Int32)), .val (.int fc)] [(.int fk), (.ref fb), (.int fc)])) t
        refine OwnKit.ldAI X1018 hx hZ rfl Vb1018 (j := fk) hk0 hk1 (w := (.int (fC (9 * kk)))) (by show Value.int (fC (9 * fk.toInt.toNat)) = _; rw [hkn]) (g := (mkF m 49 #[.val (.ref fs), .val (.int xx), .val (.ref fb), .val (.ref fd), .val (.ref fe), .val (.int fk), .val (.int fn), .val (.int (1 : Int32)), .val (.int fc)] [(.int fk), (.ref fb), (.int fc)])) rfl rfl (hb hby d10_49) _ ?_
        show Steps p.tables e below (T1018.setTop (mkF m 50 #[.val (.ref fs), .val (.int xx), .val (.ref fb), .val (.ref fd), .val (.ref fe), .val (.int fk), .val (.int fn), .val (.int (1 : Int32)), .val (.int fc)] [(.int (fC (9 * kk))), (.int fc)])) t
        refine XS.icmpYes X1018.here hx rfl (pc0 := 50) (pc' := 103) rfl (hb hby d10_50) rfl (flt hc).2.1 (by decide) (by decide) ?_
        exact kt
      obtain ⟨fs_, hr, hrun, hended, hW, hsame⟩ := X1018.leave (hlocks := BodyLoose.notSynchronized Bd) (v := none) (fun _ => rfl)
      refine ⟨_, _, pre0 _ (s890 _ (s891 _ (s892 _ (s893 _ (s957 _ (s958 _ (st1018.trans (s1019 _ (?_))))))))), hrun, hended, _, _, rfl, ?_, ⟨_, rfl⟩, hW, hsame.mono (by decide) (by decide)⟩
      · show Steps p.tables e below (T1018.setTop (mkF m 103 #[.val (.ref fs), .val (.int xx), .val (.ref fb), .val (.ref fd), .val (.ref fe), .val (.int fk), .val (.int fn), .val (.int (1 : Int32)), .val (.int fc)] [])) _
        exact X1018.returnOut hx Bd.returns (hb hby d10_103) hr
      · show Q10 Z fs ca fa ta ka qa fb fd fe n fC fF fG fQ fD lo ls jj xx h0 n0 _ T1018.heap _
        exact ⟨rfl, N1018, K1018, E1018_, c11018, f11018, t11018, k11018, n1, _, _, _, _, _, O1, own_same I hle hn1, F1018_costs, F1018_froms, F1018_transitions, F1018_taken, F1018_queue, F1018_reached, F1018_head, F1018_queued, Vc1018, ⟨gF, Vf1018⟩, ⟨gG, Vt1018⟩, Vk1018, Vq1018, Vb1018, Vd1018, Ve1018⟩
def Q11 (Z : State) (fd fe : Addr) (fD : Nat → Int32) (lo : Nat) (ls : List Nat) (ii : Nat) (fi : Int32) (h0 : Heap) (n0 : Nat) (v : Option Value) (h : Heap) (L : List Loc) : Prop := v = some (.int (own_av ls ii)) ∧ Fr n0 L ∧ h = h0
set_option maxRecDepth 65536 in
set_option maxHeartbeats 40000000 in
theorem rm11 (l : Launch) (Z : State) (a0 : Array Value) (hw : ∀ d ∈ tables_1, d.before a0 Z = true) (ws : List Jvm.Cond) (fd fe : Addr) (fD : Nat → Int32) (lo : Nat) (ls : List Nat) (ii : Nat) (fi : Int32) (h0 : Heap) (n0 : Nat) (Z0 : n0 ≤ h0.size) (Vd : Ar Z h0 fd .int 7 (fun i => .int (fD i))) (Ve : Ar Z h0 fe .int 2 (fun i => if i = 0 then .int (Int32.ofNat lo) else .int (Int32.ofNat (lo + ls.length)))) (hlo : lo ≤ 3) (hls : ls.length ≤ 3) (hii : ii ≤ 2) (hfi : fi = Int32.ofNat ii) (hD : ∀ i, i < ls.length → fD (lo + i) = own_9 (ls.getD i 0)) :
    MetFree l (⟨"com/example/witness/witness/logic/StepSearchTakePinLaw", "at", "([I[II)I"⟩ : MethodName) (head1 (Jvm.Cond.code (⟨"com/example/witness/witness/logic/StepSearchTakePinLaw", "at", "([I[II)I"⟩ : MethodName) method_3_code 4 (some .int) :: ws) ({ frames := 0, cells := 0, slots := 0, locals := 0 } : Room)) (fun a U => a = #[(.ref fd), (.ref fe), (.int fi)] ∧ Z.Warmed39 U.vm ∧ U.heap = h0) (fun _ _ _ _ _ => True) (fun _ U o U' => ∃ v L, o = .returned v ∧ Q11 Z fd fe fD lo ls ii fi h0 n0 v U'.heap L ∧ FrameEnd U o U' L ({ frames := 0, cells := 0, slots := 0, locals := 0 } : Room).cells ({ frames := 0, cells := 0, slots := 0, locals := 0 } : Room).slots) := by
  refine MetFree.of_bodySF (plainFor_of_name pn_com_example_witness_witness_logic_StepSearchTakePinLaw) hisR ?_
  intro p e s m args0 below meth c s₁ Bd hml0 hP hK
  obtain ⟨rfl, hZ, hh⟩ := hP
  have hx := Bd.exec
  have hby := Bd.bytes
  have hml : c.maxLocals = 4 := hml0
  have hown : s.vm.findClass "com/example/witness/witness/logic/StepSearchTakePinLaw" = some m.cls := findClass_of_methodNamed Bd.named
  have hnm := (name_of_methodNamed Bd.named Bd.method).1
  have X0 : Stand p l e ({ frames := 0, cells := 0, slots := 0, locals := 0 } : Room) s m #[(.ref fd), (.ref fe), (.int fi)] below meth c s₁ [] 0 0 := Stand.of_body Bd
  have e0 : s₁.heap = h0 := by rw [← hh, Bd.state]; rfl
  have N0 := Fr.nil n0
  have pre0 : ∀ t, Steps p.tables e below (s₁.setTop (mkF m 0 #[.val (.ref fd), .val (.ref fe), .val (.int fi), .unset] [])) t → Steps p.tables e below (s₁.setTop (entryFrame m #[(.ref fd), (.ref fe), (.int fi)] 4)) t := fun t kk_ => castTop (ef_11 m fd fe fi) kk_
  obtain ⟨ha1, ha2, ha3, ha4⟩ := own_ati lo ls.length ii fi hlo hls hii hfi
  have s1020 : ∀ t, Steps p.tables e below (s₁.setTop (mkF m 10 #[.val (.ref fd), .val (.ref fe), .val (.int fi), .val (.int ((Int32.ofNat lo) + fi))] [(.int (Int32.ofNat (lo + ls.length))), (.int ((Int32.ofNat lo) + fi))])) t → Steps p.tables e below (s₁.setTop (mkF m 0 #[.val (.ref fd), .val (.ref fe), .val (.int fi), .unset] [])) t := by
    intro t kt
    refine XS.aloadN X0.here hx rfl (hb hby d11_0) rfl rfl ?_
    show Steps p.tables e below (s₁.setTop (mkF m 1 #[.val (.ref fd), .val (.ref fe), .val (.int fi), .unset] [(.ref fe)])) t
    refine XS.iconst X0.here hx rfl (hb hby d11_1) ?_
    show Steps p.tables e below (s₁.setTop (mkF m 2 #[.val (.ref fd), .val (.ref fe), .val (.int fi), .unset] [(.int (0 : Int32)), (.ref fe)])) t
    refine OwnKit.ldAI X0 hx hZ e0 Ve (j := (0 : Int32)) (by decide) (by decide) (w := (.int (Int32.ofNat lo))) rfl (g := (mkF m 2 #[.val (.ref fd), .val (.ref fe), .val (.int fi), .unset] [(.int (0 : Int32)), (.ref fe)])) rfl rfl (hb hby d11_2) _ ?_
    show Steps p.tables e below (s₁.setTop (mkF m 3 #[.val (.ref fd), .val (.ref fe), .val (.int fi), .unset] [(.int (Int32.ofNat lo))])) t
    refine XS.iloadN X0.here hx rfl (hb hby d11_3) rfl ?_
    show Steps p.tables e below (s₁.setTop (mkF m 4 #[.val (.ref fd), .val (.ref fe), .val (.int fi), .unset] [(.int fi), (.int (Int32.ofNat lo))])) t
    refine XS.iadd X0.here hx rfl (hb hby d11_4) rfl ?_
    show Steps p.tables e below (s₁.setTop (mkF m 5 #[.val (.ref fd), .val (.ref fe), .val (.int fi), .unset] [(.int ((Int32.ofNat lo) + fi))])) t
    refine XS.istoreN X0.here hx rfl (hb hby d11_5) rfl (l' := #[.val (.ref fd), .val (.ref fe), .val (.int fi), .val (.int ((Int32.ofNat lo) + fi))]) rfl ?_
    show Steps p.tables e below (s₁.setTop (mkF m 6 #[.val (.ref fd), .val (.ref fe), .val (.int fi), .val (.int ((Int32.ofNat lo) + fi))] [])) t
    refine XS.iloadN X0.here hx rfl (hb hby d11_6) rfl ?_
    show Steps p.tables e below (s₁.setTop (mkF m 7 #[.val (.ref fd), .val (.ref fe), .val (.int fi), .val (.int ((Int32.ofNat lo) + fi))] [(.int ((Int32.ofNat lo) + fi))])) t
    refine XS.aloadN X0.here hx rfl (hb hby d11_7) rfl rfl ?_
    show Steps p.tables e below (s₁.setTop (mkF m 8 #[.val (.ref fd), .val (.ref fe), .val (.int fi), .val (.int ((Int32.ofNat lo) + fi))] [(.ref fe), (.int ((Int32.ofNat lo) + fi))])) t
    refine XS.iconst X0.here hx rfl (hb hby d11_8) ?_
    show Steps p.tables e below (s₁.setTop (mkF m 9 #[.val (.ref fd), .val (.ref fe), .val (.int fi), .val (.int ((Int32.ofNat lo) + fi))] [(.int (1 : Int32)), (.ref fe), (.int ((Int32.ofNat lo) + fi))])) t
    refine OwnKit.ldAI X0 hx hZ e0 Ve (j := (1 : Int32)) (by decide) (by decide) (w := (.int (Int32.ofNat (lo + ls.length)))) rfl (g := (mkF m 9 #[.val (.ref fd), .val (.ref fe), .val (.int fi), .val (.int ((Int32.ofNat lo) + fi))] [(.int (1 : Int32)), (.ref fe), (.int ((Int32.ofNat lo) + fi))])) rfl rfl (hb hby d11_9) _ ?_
    exact kt
  by_cases c1021 : ((Int32.ofNat lo) + fi) < (Int32.ofNat (lo + ls.length))
  ·
    have s1022 : ∀ t, Steps p.tables e below (s₁.setTop (mkF m 16 #[.val (.ref fd), .val (.ref fe), .val (.int fi), .val (.int ((Int32.ofNat lo) + fi))] [(.int (fD (lo + ii)))])) t → Steps p.tables e below (s₁.setTop (mkF m 10 #[.val (.ref fd), .val (.ref fe), .val (.int fi), .val (.int ((Int32.ofNat lo) + fi))] [(.int (Int32.ofNat (lo + ls.length))), (.int ((Int32.ofNat lo) + fi))])) t := by
      intro t kt
      refine XS.icmpNo X0.here hx rfl (hb hby d11_10) rfl (tlt c1021).2.1 ?_
      show Steps p.tables e below (s₁.setTop (mkF m 13 #[.val (.ref fd), .val (.ref fe), .val (.int fi), .val (.int ((Int32.ofNat lo) + fi))] [])) t
      refine XS.aloadN X0.here hx rfl (hb hby d11_13) rfl rfl ?_
      show Steps p.tables e below (s₁.setTop (mkF m 14 #[.val (.ref fd), .val (.ref fe), .val (.int fi), .val (.int ((Int32.ofNat lo) + fi))] [(.ref fd)])) t
      refine XS.iloadN X0.here hx rfl (hb hby d11_14) rfl ?_
      show Steps p.tables e below (s₁.setTop (mkF m 15 #[.val (.ref fd), .val (.ref fe), .val (.int fi), .val (.int ((Int32.ofNat lo) + fi))] [(.int ((Int32.ofNat lo) + fi)), (.ref fd)])) t
      refine OwnKit.ldAI X0 hx hZ e0 Vd (j := ((Int32.ofNat lo) + fi)) ha3 ha4 (w := (.int (fD (lo + ii)))) (by show Value.int (fD (Int32.ofNat lo + fi).toInt.toNat) = _; rw [ha2]) (g := (mkF m 15 #[.val (.ref fd), .val (.ref fe), .val (.int fi), .val (.int ((Int32.ofNat lo) + fi))] [(.int ((Int32.ofNat lo) + fi)), (.ref fd)])) rfl rfl (hb hby d11_15) _ ?_
      exact kt
    obtain ⟨fs_, hr, hrun, hended, hW, hsame⟩ := X0.leave (hlocks := BodyLoose.notSynchronized Bd) (v := some (.int (fD (lo + ii)))) (fun h => by rw [Bd.returns] at h; cases h)
    refine ⟨_, _, pre0 _ (s1020 _ (s1022 _ (?_))), hrun, hended, _, _, rfl, ?_, ⟨_, rfl⟩, hW, hsame.mono (by decide) (by decide)⟩
    · show Steps p.tables e below (s₁.setTop (mkF m 16 #[.val (.ref fd), .val (.ref fe), .val (.int fi), .val (.int ((Int32.ofNat lo) + fi))] [(.int (fD (lo + ii)))])) _
      exact retI X0 hx Bd.returns (hb hby d11_16) hr
    · show Q11 Z fd fe fD lo ls ii fi h0 n0 _ s₁.heap _
      rw [e0]
      exact ⟨congrArg (fun z => some (Value.int z)) ((hD ii (ha1.mp c1021)).trans (if_pos (ha1.mp c1021)).symm), N0, rfl⟩
  ·
    have s1023 : ∀ t, Steps p.tables e below (s₁.setTop (mkF m 18 #[.val (.ref fd), .val (.ref fe), .val (.int fi), .val (.int ((Int32.ofNat lo) + fi))] [(.int (-1 : Int32))])) t → Steps p.tables e below (s₁.setTop (mkF m 10 #[.val (.ref fd), .val (.ref fe), .val (.int fi), .val (.int ((Int32.ofNat lo) + fi))] [(.int (Int32.ofNat (lo + ls.length))), (.int ((Int32.ofNat lo) + fi))])) t := by
      intro t kt
      refine XS.icmpYes X0.here hx rfl (pc0 := 10) (pc' := 17) rfl (hb hby d11_10) rfl (flt c1021).2.1 (by decide) (by decide) ?_
      show Steps p.tables e below (s₁.setTop (mkF m 17 #[.val (.ref fd), .val (.ref fe), .val (.int fi), .val (.int ((Int32.ofNat lo) + fi))] [])) t
      refine XS.iconst X0.here hx rfl (hb hby d11_17) ?_
      exact kt
    obtain ⟨fs_, hr, hrun, hended, hW, hsame⟩ := X0.leave (hlocks := BodyLoose.notSynchronized Bd) (v := some (.int (-1 : Int32))) (fun h => by rw [Bd.returns] at h; cases h)
    refine ⟨_, _, pre0 _ (s1020 _ (s1023 _ (?_))), hrun, hended, _, _, rfl, ?_, ⟨_, rfl⟩, hW, hsame.mono (by decide) (by decide)⟩
    · show Steps p.tables e below (s₁.setTop (mkF m 18 #[.val (.ref fd), .val (.ref fe), .val (.int fi), .val (.int ((Int32.ofNat lo) + fi))] [(.int (-1 : Int32))])) _
      exact retI X0 hx Bd.returns (hb hby d11_18) hr
    · show Q11 Z fd fe fD lo ls ii fi h0 n0 _ s₁.heap _
      rw [e0]
      exact ⟨congrArg (fun z => some (Value.int z)) (if_neg (mt ha1.mpr c1021)).symm, N0, rfl⟩
def Q12 (Z : State) (fz : Addr) (es : List Int32) (xx : Int32) (h0 : Heap) (n0 : Nat) (v : Option Value) (h : Heap) (L : List Loc) : Prop := v = some (.int (Int32.ofNat (own_note es xx).length)) ∧ Fr n0 L ∧ Keep h0 h [fz] ∧ Ar Z h fz .int 4 (fun i => .int ((own_note es xx).getD i (-1)))
set_option maxRecDepth 65536 in
set_option maxHeartbeats 40000000 in
theorem rm12 (l : Launch) (Z : State) (a0 : Array Value) (hw : ∀ d ∈ tables_1, d.before a0 Z = true) (ws : List Jvm.Cond) (fz : Addr) (es : List Int32) (xx : Int32) (h0 : Heap) (n0 : Nat) (Z0 : n0 ≤ h0.size) (Vz : Ar Z h0 fz .int 4 (fun i => .int ((es).getD i (-1)))) (Gz : n0 ≤ fz) (hes : es.length ≤ 2) :
    MetFree l (⟨"com/example/witness/witness/logic/StepSearchTakePinLaw", "note", "([III)I"⟩ : MethodName) (head1 (Jvm.Cond.code (⟨"com/example/witness/witness/logic/StepSearchTakePinLaw", "note", "([III)I"⟩ : MethodName) method_4_code 3 (some .int) :: ws) ({ frames := 0, cells := 0, slots := 0, locals := 0 } : Room)) (fun a U => a = #[(.ref fz), (.int (Int32.ofNat es.length)), (.int xx)] ∧ Z.Warmed39 U.vm ∧ U.heap = h0) (fun _ _ _ _ _ => True) (fun _ U o U' => ∃ v L, o = .returned v ∧ Q12 Z fz es xx h0 n0 v U'.heap L ∧ FrameEnd U o U' L ({ frames := 0, cells := 0, slots := 0, locals := 0 } : Room).cells ({ frames := 0, cells := 0, slots := 0, locals := 0 } : Room).slots) := by
  refine MetFree.of_bodySF (plainFor_of_name pn_com_example_witness_witness_logic_StepSearchTakePinLaw) hisR ?_
  intro p e s m args0 below meth c s₁ Bd hml0 hP hK
  obtain ⟨rfl, hZ, hh⟩ := hP
  have hx := Bd.exec
  have hby := Bd.bytes
  have hml : c.maxLocals = 3 := hml0
  have hown : s.vm.findClass "com/example/witness/witness/logic/StepSearchTakePinLaw" = some m.cls := findClass_of_methodNamed Bd.named
  have hnm := (name_of_methodNamed Bd.named Bd.method).1
  have X0 : Stand p l e ({ frames := 0, cells := 0, slots := 0, locals := 0 } : Room) s m #[(.ref fz), (.int (Int32.ofNat es.length)), (.int xx)] below meth c s₁ [] 0 0 := Stand.of_body Bd
  have e0 : s₁.heap = h0 := by rw [← hh, Bd.state]; rfl
  have N0 := Fr.nil n0
  have pre0 : ∀ t, Steps p.tables e below (s₁.setTop (mkF m 0 #[.val (.ref fz), .val (.int (Int32.ofNat es.length)), .val (.int xx)] [])) t → Steps p.tables e below (s₁.setTop (entryFrame m #[(.ref fz), (.int (Int32.ofNat es.length)), (.int xx)] 3)) t := fun t kk_ => castTop (ef_12 m fz (Int32.ofNat es.length) xx) kk_
  obtain ⟨ha1, ha2, ha3⟩ := own_nl es hes
  have s1024 : ∀ t, Steps p.tables e below (s₁.setTop (mkF m 2 #[.val (.ref fz), .val (.int (Int32.ofNat es.length)), .val (.int xx)] [(.int (-1 : Int32)), (.int xx)])) t → Steps p.tables e below (s₁.setTop (mkF m 0 #[.val (.ref fz), .val (.int (Int32.ofNat es.length)), .val (.int xx)] [])) t := by
    intro t kt
    refine XS.iloadN X0.here hx rfl (hb hby d12_0) rfl ?_
    show Steps p.tables e below (s₁.setTop (mkF m 1 #[.val (.ref fz), .val (.int (Int32.ofNat es.length)), .val (.int xx)] [(.int xx)])) t
    refine XS.iconst X0.here hx rfl (hb hby d12_1) ?_
    exact kt
  by_cases c1025 : xx = (-1 : Int32)
  ·
    have s1026 : ∀ t, Steps p.tables e below (s₁.setTop (mkF m 6 #[.val (.ref fz), .val (.int (Int32.ofNat es.length)), .val (.int xx)] [(.int (Int32.ofNat es.length))])) t → Steps p.tables e below (s₁.setTop (mkF m 2 #[.val (.ref fz), .val (.int (Int32.ofNat es.length)), .val (.int xx)] [(.int (-1 : Int32)), (.int xx)])) t := by
      intro t kt
      refine XS.icmpNo X0.here hx rfl (hb hby d12_2) rfl (teq c1025).2 ?_
      show Steps p.tables e below (s₁.setTop (mkF m 5 #[.val (.ref fz), .val (.int (Int32.ofNat es.length)), .val (.int xx)] [])) t
      refine XS.iloadN X0.here hx rfl (hb hby d12_5) rfl ?_
      exact kt
    have hn : own_note es xx = es := by unfold own_note; rw [if_pos c1025]
    obtain ⟨fs_, hr, hrun, hended, hW, hsame⟩ := X0.leave (hlocks := BodyLoose.notSynchronized Bd) (v := some (.int (Int32.ofNat es.length))) (fun h => by rw [Bd.returns] at h; cases h)
    refine ⟨_, _, pre0 _ (s1024 _ (s1026 _ (?_))), hrun, hended, _, _, rfl, ?_, ⟨_, rfl⟩, hW, hsame.mono (by decide) (by decide)⟩
    · show Steps p.tables e below (s₁.setTop (mkF m 6 #[.val (.ref fz), .val (.int (Int32.ofNat es.length)), .val (.int xx)] [(.int (Int32.ofNat es.length))])) _
      exact retI X0 hx Bd.returns (hb hby d12_6) hr
    · show Q12 Z fz es xx h0 n0 _ s₁.heap _
      rw [e0]
      unfold Q12
      rw [hn]
      exact ⟨rfl, N0, (Keep.refl h0 [fz]), Vz⟩
  ·
    have s1027 : ∀ t, Steps p.tables e below (s₁.setTop (mkF m 11 #[.val (.ref fz), .val (.int (Int32.ofNat es.length)), .val (.int xx)] [(.int (es.getD 0 (-1))), (.int xx)])) t → Steps p.tables e below (s₁.setTop (mkF m 2 #[.val (.ref fz), .val (.int (Int32.ofNat es.length)), .val (.int xx)] [(.int (-1 : Int32)), (.int xx)])) t := by
      intro t kt
      refine XS.icmpYes X0.here hx rfl (pc0 := 2) (pc' := 7) rfl (hb hby d12_2) rfl (feq c1025).2 (by decide) (by decide) ?_
      show Steps p.tables e below (s₁.setTop (mkF m 7 #[.val (.ref fz), .val (.int (Int32.ofNat es.length)), .val (.int xx)] [])) t
      refine XS.iloadN X0.here hx rfl (hb hby d12_7) rfl ?_
      show Steps p.tables e below (s₁.setTop (mkF m 8 #[.val (.ref fz), .val (.int (Int32.ofNat es.length)), .val (.int xx)] [(.int xx)])) t
      refine XS.aloadN X0.here hx rfl (hb hby d12_8) rfl rfl ?_
      show Steps p.tables e below (s₁.setTop (mkF m 9 #[.val (.ref fz), .val (.int (Int32.ofNat es.length)), .val (.int xx)] [(.ref fz), (.int xx)])) t
      refine XS.iconst X0.here hx rfl (hb hby d12_9) ?_
      show Steps p.tables e below (s₁.setTop (mkF m 10 #[.val (.ref fz), .val (.int (Int32.ofNat es.length)), .val (.int xx)] [(.int (0 : Int32)), (.ref fz), (.int xx)])) t
      refine OwnKit.ldAI X0 hx hZ e0 Vz (j := (0 : Int32)) (by decide) (by decide) (w := (.int (es.getD 0 (-1)))) rfl (g := (mkF m 10 #[.val (.ref fz), .val (.int (Int32.ofNat es.length)), .val (.int xx)] [(.int (0 : Int32)), (.ref fz), (.int xx)])) rfl rfl (hb hby d12_10) _ ?_
      exact kt
    by_cases c1028 : xx = (es.getD 0 (-1))
    ·
      have s1029 : ∀ t, Steps p.tables e below (s₁.setTop (mkF m 29 #[.val (.ref fz), .val (.int (Int32.ofNat es.length)), .val (.int xx)] [(.int (Int32.ofNat es.length))])) t → Steps p.tables e below (s₁.setTop (mkF m 11 #[.val (.ref fz), .val (.int (Int32.ofNat es.length)), .val (.int xx)] [(.int (es.getD 0 (-1))), (.int xx)])) t := by
        intro t kt
        refine XS.icmpYes X0.here hx rfl (pc0 := 11) (pc' := 28) rfl (hb hby d12_11) rfl (teq c1028).1 (by decide) (by decide) ?_
        show Steps p.tables e below (s₁.setTop (mkF m 28 #[.val (.ref fz), .val (.int (Int32.ofNat es.length)), .val (.int xx)] [])) t
        refine XS.iloadN X0.here hx rfl (hb hby d12_28) rfl ?_
        exact kt
      have hn : own_note es xx = es := by unfold own_note; rw [if_neg c1025, if_pos c1028]
      obtain ⟨fs_, hr, hrun, hended, hW, hsame⟩ := X0.leave (hlocks := BodyLoose.notSynchronized Bd) (v := some (.int (Int32.ofNat es.length))) (fun h => by rw [Bd.returns] at h; cases h)
      refine ⟨_, _, pre0 _ (s1024 _ (s1027 _ (s1029 _ (?_)))), hrun, hended, _, _, rfl, ?_, ⟨_, rfl⟩, hW, hsame.mono (by decide) (by decide)⟩
      · show Steps p.tables e below (s₁.setTop (mkF m 29 #[.val (.ref fz), .val (.int (Int32.ofNat es.length)), .val (.int xx)] [(.int (Int32.ofNat es.length))])) _
        exact retI X0 hx Bd.returns (hb hby d12_29) hr
      · show Q12 Z fz es xx h0 n0 _ s₁.heap _
        rw [e0]
        unfold Q12
        rw [hn]
        exact ⟨rfl, N0, (Keep.refl h0 [fz]), Vz⟩
    ·
      have s1030 : ∀ t, Steps p.tables e below (s₁.setTop (mkF m 18 #[.val (.ref fz), .val (.int (Int32.ofNat es.length)), .val (.int xx)] [(.int (es.getD 1 (-1))), (.int xx)])) t → Steps p.tables e below (s₁.setTop (mkF m 11 #[.val (.ref fz), .val (.int (Int32.ofNat es.length)), .val (.int xx)] [(.int (es.getD 0 (-1))), (.int xx)])) t := by
        intro t kt
        refine XS.icmpNo X0.here hx rfl (hb hby d12_11) rfl (feq c1028).1 ?_
        show Steps p.tables e below (s₁.setTop (mkF m 14 #[.val (.ref fz), .val (.int (Int32.ofNat es.length)), .val (.int xx)] [])) t
        refine XS.iloadN X0.here hx rfl (hb hby d12_14) rfl ?_
        show Steps p.tables e below (s₁.setTop (mkF m 15 #[.val (.ref fz), .val (.int (Int32.ofNat es.length)), .val (.int xx)] [(.int xx)])) t
        refine XS.aloadN X0.here hx rfl (hb hby d12_15) rfl rfl ?_
        show Steps p.tables e below (s₁.setTop (mkF m 16 #[.val (.ref fz), .val (.int (Int32.ofNat es.length)), .val (.int xx)] [(.ref fz), (.int xx)])) t
        refine XS.iconst X0.here hx rfl (hb hby d12_16) ?_
        show Steps p.tables e below (s₁.setTop (mkF m 17 #[.val (.ref fz), .val (.int (Int32.ofNat es.length)), .val (.int xx)] [(.int (1 : Int32)), (.ref fz), (.int xx)])) t
        refine OwnKit.ldAI X0 hx hZ e0 Vz (j := (1 : Int32)) (by decide) (by decide) (w := (.int (es.getD 1 (-1)))) rfl (g := (mkF m 17 #[.val (.ref fz), .val (.int (Int32.ofNat es.length)), .val (.int xx)] [(.int (1 : Int32)), (.ref fz), (.int xx)])) rfl rfl (hb hby d12_17) _ ?_
        exact kt
      by_cases c1031 : xx = (es.getD 1 (-1))
      ·
        have s1032 : ∀ t, Steps p.tables e below (s₁.setTop (mkF m 29 #[.val (.ref fz), .val (.int (Int32.ofNat es.length)), .val (.int xx)] [(.int (Int32.ofNat es.length))])) t → Steps p.tables e below (s₁.setTop (mkF m 18 #[.val (.ref fz), .val (.int (Int32.ofNat es.length)), .val (.int xx)] [(.int (es.getD 1 (-1))), (.int xx)])) t := by
          intro t kt
          refine XS.icmpYes X0.here hx rfl (pc0 := 18) (pc' := 28) rfl (hb hby d12_18) rfl (teq c1031).1 (by decide) (by decide) ?_
          show Steps p.tables e below (s₁.setTop (mkF m 28 #[.val (.ref fz), .val (.int (Int32.ofNat es.length)), .val (.int xx)] [])) t
          refine XS.iloadN X0.here hx rfl (hb hby d12_28) rfl ?_
          exact kt
        have hn : own_note es xx = es := by unfold own_note; rw [if_neg c1025, if_neg c1028, if_pos c1031]
        obtain ⟨fs_, hr, hrun, hended, hW, hsame⟩ := X0.leave (hlocks := BodyLoose.notSynchronized Bd) (v := some (.int (Int32.ofNat es.length))) (fun h => by rw [Bd.returns] at h; cases h)
        refine ⟨_, _, pre0 _ (s1024 _ (s1027 _ (s1030 _ (s1032 _ (?_))))), hrun, hended, _, _, rfl, ?_, ⟨_, rfl⟩, hW, hsame.mono (by decide) (by decide)⟩
        · show Steps p.tables e below (s₁.setTop (mkF m 29 #[.val (.ref fz), .val (.int (Int32.ofNat es.length)), .val (.int xx)] [(.int (Int32.ofNat es.length))])) _
          exact retI X0 hx Bd.returns (hb hby d12_29) hr
        · show Q12 Z fz es xx h0 n0 _ s₁.heap _
          rw [e0]
          unfold Q12
          rw [hn]
          exact ⟨rfl, N0, (Keep.refl h0 [fz]), Vz⟩
      ·
        have s1033 : ∀ t, Steps p.tables e below (s₁.setTop (mkF m 25 #[.val (.ref fz), .val (.int (Int32.ofNat es.length)), .val (.int xx)] [(.int (es.getD 2 (-1))), (.int xx)])) t → Steps p.tables e below (s₁.setTop (mkF m 18 #[.val (.ref fz), .val (.int (Int32.ofNat es.length)), .val (.int xx)] [(.int (es.getD 1 (-1))), (.int xx)])) t := by
          intro t kt
          refine XS.icmpNo X0.here hx rfl (hb hby d12_18) rfl (feq c1031).1 ?_
          show Steps p.tables e below (s₁.setTop (mkF m 21 #[.val (.ref fz), .val (.int (Int32.ofNat es.length)), .val (.int xx)] [])) t
          refine XS.iloadN X0.here hx rfl (hb hby d12_21) rfl ?_
          show Steps p.tables e below (s₁.setTop (mkF m 22 #[.val (.ref fz), .val (.int (Int32.ofNat es.length)), .val (.int xx)] [(.int xx)])) t
          refine XS.aloadN X0.here hx rfl (hb hby d12_22) rfl rfl ?_
          show Steps p.tables e below (s₁.setTop (mkF m 23 #[.val (.ref fz), .val (.int (Int32.ofNat es.length)), .val (.int xx)] [(.ref fz), (.int xx)])) t
          refine XS.iconst X0.here hx rfl (hb hby d12_23) ?_
          show Steps p.tables e below (s₁.setTop (mkF m 24 #[.val (.ref fz), .val (.int (Int32.ofNat es.length)), .val (.int xx)] [(.int (2 : Int32)), (.ref fz), (.int xx)])) t
          refine OwnKit.ldAI X0 hx hZ e0 Vz (j := (2 : Int32)) (by decide) (by decide) (w := (.int (es.getD 2 (-1)))) rfl (g := (mkF m 24 #[.val (.ref fz), .val (.int (Int32.ofNat es.length)), .val (.int xx)] [(.int (2 : Int32)), (.ref fz), (.int xx)])) rfl rfl (hb hby d12_24) _ ?_
          exact kt
        by_cases c1034 : xx = (es.getD 2 (-1))
        ·
          have s1035 : ∀ t, Steps p.tables e below (s₁.setTop (mkF m 29 #[.val (.ref fz), .val (.int (Int32.ofNat es.length)), .val (.int xx)] [(.int (Int32.ofNat es.length))])) t → Steps p.tables e below (s₁.setTop (mkF m 25 #[.val (.ref fz), .val (.int (Int32.ofNat es.length)), .val (.int xx)] [(.int (es.getD 2 (-1))), (.int xx)])) t := by
            intro t kt
            refine XS.icmpNo X0.here hx rfl (hb hby d12_25) rfl (teq c1034).2 ?_
            show Steps p.tables e below (s₁.setTop (mkF m 28 #[.val (.ref fz), .val (.int (Int32.ofNat es.length)), .val (.int xx)] [])) t
            refine XS.iloadN X0.here hx rfl (hb hby d12_28) rfl ?_
            exact kt
          have hn : own_note es xx = es := by unfold own_note; rw [if_neg c1025, if_neg c1028, if_neg c1031, if_pos c1034]
          obtain ⟨fs_, hr, hrun, hended, hW, hsame⟩ := X0.leave (hlocks := BodyLoose.notSynchronized Bd) (v := some (.int (Int32.ofNat es.length))) (fun h => by rw [Bd.returns] at h; cases h)
          refine ⟨_, _, pre0 _ (s1024 _ (s1027 _ (s1030 _ (s1033 _ (s1035 _ (?_)))))), hrun, hended, _, _, rfl, ?_, ⟨_, rfl⟩, hW, hsame.mono (by decide) (by decide)⟩
          · show Steps p.tables e below (s₁.setTop (mkF m 29 #[.val (.ref fz), .val (.int (Int32.ofNat es.length)), .val (.int xx)] [(.int (Int32.ofNat es.length))])) _
            exact retI X0 hx Bd.returns (hb hby d12_29) hr
          · show Q12 Z fz es xx h0 n0 _ s₁.heap _
            rw [e0]
            unfold Q12
            rw [hn]
            exact ⟨rfl, N0, (Keep.refl h0 [fz]), Vz⟩
        ·
          have s1036 : ∀ t, Steps p.tables e below (s₁.setTop (mkF m 33 #[.val (.ref fz), .val (.int (Int32.ofNat es.length)), .val (.int xx)] [(.int xx), (.int (Int32.ofNat es.length)), (.ref fz)])) t → Steps p.tables e below (s₁.setTop (mkF m 25 #[.val (.ref fz), .val (.int (Int32.ofNat es.length)), .val (.int xx)] [(.int (es.getD 2 (-1))), (.int xx)])) t := by
            intro t kt
            refine XS.icmpYes X0.here hx rfl (pc0 := 25) (pc' := 30) rfl (hb hby d12_25) rfl (feq c1034).2 (by decide) (by decide) ?_
            show Steps p.tables e below (s₁.setTop (mkF m 30 #[.val (.ref fz), .val (.int (Int32.ofNat es.length)), .val (.int xx)] [])) t
            refine XS.aloadN X0.here hx rfl (hb hby d12_30) rfl rfl ?_
            show Steps p.tables e below (s₁.setTop (mkF m 31 #[.val (.ref fz), .val (.int (Int32.ofNat es.length)), .val (.int xx)] [(.ref fz)])) t
            refine XS.iloadN X0.here hx rfl (hb hby d12_31) rfl ?_
            show Steps p.tables e below (s₁.setTop (mkF m 32 #[.val (.ref fz), .val (.int (Int32.ofNat es.length)), .val (.int xx)] [(.int (Int32.ofNat es.length)), (.ref fz)])) t
            refine XS.iloadN X0.here hx rfl (hb hby d12_32) rfl ?_
            exact kt
          obtain ⟨T1037, h1037, X1037, e1037, W1037, V1037, st1037⟩ := OwnKit.stAI X0 hx hZ e0 Vz (j := (Int32.ofNat es.length)) ha1 ha2 (g := (mkF m 33 #[.val (.ref fz), .val (.int (Int32.ofNat es.length)), .val (.int xx)] [(.int xx), (.int (Int32.ofNat es.length)), (.ref fz)])) rfl rfl (hb hby d12_33)
          have Zs1037 : n0 ≤ h1037.size := Nat.le_trans Z0 (Keep.of_wr W1037).1
          have fV1038 := V1037
          have K1037 : Keep h0 h1037 [fz] := (Keep.refl h0 [fz]).wr W1037 (Or.inl (List.mem_of_getElem? (i := 0) rfl))
          have N1037 := Fr.snoc X1037 N0 Gz
          have s1039 : ∀ t, Steps p.tables e below (T1037.setTop (mkF m 37 #[.val (.ref fz), .val (.int (Int32.ofNat es.length)), .val (.int xx)] [(.int ((Int32.ofNat es.length) + (1 : Int32)))])) t → Steps p.tables e below (T1037.setTop (mkF m 34 #[.val (.ref fz), .val (.int (Int32.ofNat es.length)), .val (.int xx)] [])) t := by
            intro t kt
            refine XS.iloadN X1037.here hx rfl (hb hby d12_34) rfl ?_
            show Steps p.tables e below (T1037.setTop (mkF m 35 #[.val (.ref fz), .val (.int (Int32.ofNat es.length)), .val (.int xx)] [(.int (Int32.ofNat es.length))])) t
            refine XS.iconst X1037.here hx rfl (hb hby d12_35) ?_
            show Steps p.tables e below (T1037.setTop (mkF m 36 #[.val (.ref fz), .val (.int (Int32.ofNat es.length)), .val (.int xx)] [(.int (1 : Int32)), (.int (Int32.ofNat es.length))])) t
            refine XS.iadd X1037.here hx rfl (hb hby d12_36) rfl ?_
            exact kt
          have hn : own_note es xx = es ++ [xx] := by unfold own_note; rw [if_neg c1025, if_neg c1028, if_neg c1031, if_neg c1034]
          have gz := fV1038
          rw [ha3] at gz
          obtain ⟨fs_, hr, hrun, hended, hW, hsame⟩ := X1037.leave (hlocks := BodyLoose.notSynchronized Bd) (v := some (.int ((Int32.ofNat es.length) + (1 : Int32)))) (fun h => by rw [Bd.returns] at h; cases h)
          refine ⟨_, _, pre0 _ (s1024 _ (s1027 _ (s1030 _ (s1033 _ (s1036 _ (st1037 _ (s1039 _ (?_)))))))), hrun, hended, _, _, rfl, ?_, ⟨_, rfl⟩, hW, hsame.mono (by decide) (by decide)⟩
          · show Steps p.tables e below (T1037.setTop (mkF m 37 #[.val (.ref fz), .val (.int (Int32.ofNat es.length)), .val (.int xx)] [(.int ((Int32.ofNat es.length) + (1 : Int32)))])) _
            exact retI X1037 hx Bd.returns (hb hby d12_37) hr
          · show Q12 Z fz es xx h0 n0 _ T1037.heap _
            rw [e1037]
            unfold Q12
            rw [hn, ← own_nn es xx]
            exact ⟨rfl, N1037, K1037, gz.as (fun i _ => own_ng es xx i)⟩
def Q13 (Z : State) (fs ka qa : Addr) (n : Nat) (fQ : Nat → Int32) (p0 : Nat) (ls vs : List Nat) (h0 : Heap) (n0 : Nat) (v : Option Value) (h : Heap) (L : List Loc) : Prop := v = some (.int (own_take vs ls).1) ∧ Fr n0 L ∧ Keep h0 h [fs, ka] ∧ ∃ p1 : Nat, Exa Z h fs "com/example/witness/witness/logic/StepSearch" ∧ Fld Z h fs "com/example/witness/witness/logic/StepSearch" "taken" "[Z" (.ref ka) ∧ Fld Z h fs "com/example/witness/witness/logic/StepSearch" "queue" "[I" (.ref qa) ∧ Fld Z h fs "com/example/witness/witness/logic/StepSearch" "head" "I" (.int (own_h p1)) ∧ Fld Z h fs "com/example/witness/witness/logic/StepSearch" "queued" "I" (.int (Int32.ofNat (own_take vs ls).2.1.length)) ∧ Ar Z h ka .boolean n (fun i => .int (own_tk (own_take vs ls).2.2 i)) ∧ ∀ i, i < (own_take vs ls).2.1.length → fQ ((p1 + i) % 16) = own_9 ((own_take vs ls).2.1.getD i 0)
set_option maxRecDepth 65536 in
set_option maxHeartbeats 40000000 in
theorem rm13 (l : Launch) (Z : State) (a0 : Array Value) (hw : ∀ d ∈ tables_1, d.before a0 Z = true) (ws : List Jvm.Cond) (fs ka qa : Addr) (n : Nat) (fQ : Nat → Int32) (p0 : Nat) (ls vs : List Nat) (h0 : Heap) (n0 : Nat) (Z0 : n0 ≤ h0.size) (Es : Exa Z h0 fs "com/example/witness/witness/logic/StepSearch") (Pt : Fld Z h0 fs "com/example/witness/witness/logic/StepSearch" "taken" "[Z" (.ref ka)) (Pu : Fld Z h0 fs "com/example/witness/witness/logic/StepSearch" "queue" "[I" (.ref qa)) (Ph : Fld Z h0 fs "com/example/witness/witness/logic/StepSearch" "head" "I" (.int (own_h p0))) (Pd : Fld Z h0 fs "com/example/witness/witness/logic/StepSearch" "queued" "I" (.int (Int32.ofNat ls.length))) (Gs : n0 ≤ fs) (Gk : n0 ≤ ka) (Vk : Ar Z h0 ka .boolean n (fun i => .int (own_tk vs i))) (Vq : Ar Z h0 qa .int 16 (fun i => .int (fQ i))) (nks : ka ≠ fs) (nqs : qa ≠ fs) (nqk : qa ≠ ka) (hq : ∀ i, i < ls.length → fQ ((p0 + i) % 16) = own_9 (ls.getD i 0)) (hm : ∀ k, k ∈ ls → 9 * k < n) (h54 : n ≤ 54) (hls : ls.length ≤ 3) :
    MetFree l (⟨"com/example/witness/witness/logic/StepSearch", "take", "()I"⟩ : MethodName) (head1 (Jvm.Cond.code (⟨"com/example/witness/witness/logic/StepSearch", "take", "()I"⟩ : MethodName) prog_124_method_5_code 3 (some .int) :: ws) ({ frames := 0, cells := 0, slots := 0, locals := 0 } : Room)) (fun a U => a = #[(.ref fs)] ∧ Z.Warmed39 U.vm ∧ U.heap = h0) (fun _ _ _ _ _ => True) (fun _ U o U' => ∃ v L, o = .returned v ∧ Q13 Z fs ka qa n fQ p0 ls vs h0 n0 v U'.heap L ∧ FrameEnd U o U' L ({ frames := 0, cells := 0, slots := 0, locals := 0 } : Room).cells ({ frames := 0, cells := 0, slots := 0, locals := 0 } : Room).slots) := by
  refine MetFree.of_bodySF (plainFor_of_name pn_com_example_witness_witness_logic_StepSearch) hisR ?_
  intro p e s m args0 below meth c s₁ Bd hml0 hP hK
  obtain ⟨rfl, hZ, hh⟩ := hP
  have hx := Bd.exec
  have hby := Bd.bytes
  have hml : c.maxLocals = 3 := hml0
  have hown : s.vm.findClass "com/example/witness/witness/logic/StepSearch" = some m.cls := findClass_of_methodNamed Bd.named
  have hnm := (name_of_methodNamed Bd.named Bd.method).1
  have X0 : Stand p l e ({ frames := 0, cells := 0, slots := 0, locals := 0 } : Room) s m #[(.ref fs)] below meth c s₁ [] 0 0 := Stand.of_body Bd
  have e0 : s₁.heap = h0 := by rw [← hh, Bd.state]; rfl
  have N0 := Fr.nil n0
  have pre0 : ∀ t, Steps p.tables e below (s₁.setTop (mkF m 0 #[.val (.ref fs), .unset, .unset] [])) t → Steps p.tables e below (s₁.setTop (entryFrame m #[(.ref fs)] 3)) t := fun t kk_ => castTop (ef_13 m fs) kk_
  have s1040 : ∀ t, Steps p.tables e below (s₁.setTop (mkF m 2 #[.val (.ref fs), .val (.int (-1 : Int32)), .unset] [])) t → Steps p.tables e below (s₁.setTop (mkF m 0 #[.val (.ref fs), .unset, .unset] [])) t := by
    intro t kt
    refine XS.iconst X0.here hx rfl (hb hby d13_0) ?_
    show Steps p.tables e below (s₁.setTop (mkF m 1 #[.val (.ref fs), .unset, .unset] [(.int (-1 : Int32))])) t
    refine XS.istoreN X0.here hx rfl (hb hby d13_1) rfl (l' := #[.val (.ref fs), .val (.int (-1 : Int32)), .unset]) rfl ?_
    exact kt
  have loop : ∀ (ls : List Nat) (T : State) (lc : List Loc) (h : Heap) (p0 : Nat) (z2 : Slot), Stand p l e ({ frames := 0, cells := 0, slots := 0, locals := 0 } : Room) s m #[(.ref fs)] below meth c T lc 0 0 → T.heap = h → Fr n0 lc → n0 ≤ h.size → Keep h0 h [fs, ka] → Exa Z h fs "com/example/witness/witness/logic/StepSearch" → Fld Z h fs "com/example/witness/witness/logic/StepSearch" "taken" "[Z" (.ref ka) → Fld Z h fs "com/example/witness/witness/logic/StepSearch" "queue" "[I" (.ref qa) → Fld Z h fs "com/example/witness/witness/logic/StepSearch" "head" "I" (.int (own_h p0)) → Fld Z h fs "com/example/witness/witness/logic/StepSearch" "queued" "I" (.int (Int32.ofNat ls.length)) → Ar Z h ka .boolean n (fun i => .int (own_tk vs i)) → Ar Z h qa .int 16 (fun i => .int (fQ i)) → (∀ i, i < ls.length → fQ ((p0 + i) % 16) = own_9 (ls.getD i 0)) → (∀ k, k ∈ ls → 9 * k < n) → ls.length ≤ 3 → (z2 = .unset ∨ ∃ q : Int32, z2 = .val (.int q)) →
      ∃ (T' : State) (lc' : List Loc) (h' : Heap) (p1 : Nat) (z2' : Slot), Stand p l e ({ frames := 0, cells := 0, slots := 0, locals := 0 } : Room) s m #[(.ref fs)] below meth c T' lc' 0 0 ∧ T'.heap = h' ∧ Fr n0 lc' ∧ Keep h0 h' [fs, ka] ∧ Exa Z h' fs "com/example/witness/witness/logic/StepSearch" ∧ Fld Z h' fs "com/example/witness/witness/logic/StepSearch" "taken" "[Z" (.ref ka) ∧ Fld Z h' fs "com/example/witness/witness/logic/StepSearch" "queue" "[I" (.ref qa) ∧ Fld Z h' fs "com/example/witness/witness/logic/StepSearch" "head" "I" (.int (own_h p1)) ∧ Fld Z h' fs "com/example/witness/witness/logic/StepSearch" "queued" "I" (.int (Int32.ofNat (own_take vs ls).2.1.length)) ∧ Ar Z h' ka .boolean n (fun i => .int (own_tk (own_take vs ls).2.2 i)) ∧ (∀ i, i < (own_take vs ls).2.1.length → fQ ((p1 + i) % 16) = own_9 ((own_take vs ls).2.1.getD i 0)) ∧ ∀ t, Steps p.tables e below (T'.setTop (mkF m 73 #[.val (.ref fs), .val (.int (own_take vs ls).1), z2'] [])) t → Steps p.tables e below (T.setTop (mkF m 2 #[.val (.ref fs), .val (.int (-1 : Int32)), z2] [])) t := by
    intro ls
    induction ls with
    | nil =>
      intro T lc h p0 z2 X eT N Zs K Es Pt Pu Ph Pd V Vq hq hm hls hz2
      have s1041 : ∀ t, Steps p.tables e below (T.setTop (mkF m 8 #[.val (.ref fs), .val (.int (-1 : Int32)), z2] [(.ref fs)])) t → Steps p.tables e below (T.setTop (mkF m 2 #[.val (.ref fs), .val (.int (-1 : Int32)), z2] [])) t := by
        intro t kt
        refine XS.iloadN X.here hx rfl (hb hby d13_2) rfl ?_
        show Steps p.tables e below (T.setTop (mkF m 3 #[.val (.ref fs), .val (.int (-1 : Int32)), z2] [(.int (-1 : Int32))])) t
        refine XS.iconst X.here hx rfl (hb hby d13_3) ?_
        show Steps p.tables e below (T.setTop (mkF m 4 #[.val (.ref fs), .val (.int (-1 : Int32)), z2] [(.int (-1 : Int32)), (.int (-1 : Int32))])) t
        refine XS.icmpNo X.here hx rfl (hb hby d13_4) rfl (teq rfl).2 ?_
        show Steps p.tables e below (T.setTop (mkF m 7 #[.val (.ref fs), .val (.int (-1 : Int32)), z2] [])) t
        refine XS.aloadN X.here hx rfl (hb hby d13_7) rfl rfl ?_
        exact kt
      obtain ⟨T1042, X1042, e1042, st1042⟩ := getF X hx hZ hown (host := "") (Or.inl (hw _ (List.mem_of_getElem? (i := 65) rfl))) Via.refl eT Pd (g := (mkF m 8 #[.val (.ref fs), .val (.int (-1 : Int32)), z2] [(.ref fs)])) rfl rfl (hb hby d13_8)
      have s1043 : ∀ t, Steps p.tables e below (T1042.setTop (mkF m 73 #[.val (.ref fs), .val (.int (-1 : Int32)), z2] [])) t → Steps p.tables e below (T1042.setTop (mkF m 11 #[.val (.ref fs), .val (.int (-1 : Int32)), z2] [(.int (Int32.ofNat ([] : List Nat).length))])) t := by
        intro t kt
        refine XS.ifYes X1042.here hx rfl (pc0 := 11) (pc' := 73) rfl (hb hby d13_11) rfl ((if0 _ _).trans (flt (by decide)).2.2.2) (by decide) (by decide) ?_
        exact kt
      exact ⟨T1042, _, h, p0, z2, X1042, e1042, N, K, Es, Pt, Pu, Ph, Pd, V, fun _ hi => absurd hi (Nat.not_lt_zero _), fun t kt => s1041 _ (st1042 _ (s1043 _ (kt)))⟩
    | cons k r ih =>
      intro T lc h p0 z2 X eT N Zs K Es Pt Pu Ph Pd V Vq hq hm hls hz2
      obtain ⟨hr1, hr2, hr3, hr4⟩ := own_hr p0
      obtain ⟨hk1, hk2, hk3, hk4⟩ := own_9r k n (hm k (List.mem_cons_self ..)) h54
      obtain ⟨hp1, hp2⟩ := own_q0 k r hls
      obtain ⟨hu1, hu2⟩ := own_tlq hq
      have s1044 : ∀ t, Steps p.tables e below (T.setTop (mkF m 8 #[.val (.ref fs), .val (.int (-1 : Int32)), z2] [(.ref fs)])) t → Steps p.tables e below (T.setTop (mkF m 2 #[.val (.ref fs), .val (.int (-1 : Int32)), z2] [])) t := by
        intro t kt
        refine XS.iloadN X.here hx rfl (hb hby d13_2) rfl ?_
        show Steps p.tables e below (T.setTop (mkF m 3 #[.val (.ref fs), .val (.int (-1 : Int32)), z2] [(.int (-1 : Int32))])) t
        refine XS.iconst X.here hx rfl (hb hby d13_3) ?_
        show Steps p.tables e below (T.setTop (mkF m 4 #[.val (.ref fs), .val (.int (-1 : Int32)), z2] [(.int (-1 : Int32)), (.int (-1 : Int32))])) t
        refine XS.icmpNo X.here hx rfl (hb hby d13_4) rfl (teq rfl).2 ?_
        show Steps p.tables e below (T.setTop (mkF m 7 #[.val (.ref fs), .val (.int (-1 : Int32)), z2] [])) t
        refine XS.aloadN X.here hx rfl (hb hby d13_7) rfl rfl ?_
        exact kt
      obtain ⟨T1045, X1045, e1045, st1045⟩ := getF X hx hZ hown (host := "") (Or.inl (hw _ (List.mem_of_getElem? (i := 65) rfl))) Via.refl eT Pd (g := (mkF m 8 #[.val (.ref fs), .val (.int (-1 : Int32)), z2] [(.ref fs)])) rfl rfl (hb hby d13_8)
      have s1046 : ∀ t, Steps p.tables e below (T1045.setTop (mkF m 15 #[.val (.ref fs), .val (.int (-1 : Int32)), z2] [(.ref fs)])) t → Steps p.tables e below (T1045.setTop (mkF m 11 #[.val (.ref fs), .val (.int (-1 : Int32)), z2] [(.int (Int32.ofNat (k :: r).length))])) t := by
        intro t kt
        refine XS.ifNo X1045.here hx rfl (hb hby d13_11) rfl ((if0 _ _).trans (tlt hp1).2.2.2) ?_
        show Steps p.tables e below (T1045.setTop (mkF m 14 #[.val (.ref fs), .val (.int (-1 : Int32)), z2] [])) t
        refine XS.aloadN X1045.here hx rfl (hb hby d13_14) rfl rfl ?_
        exact kt
      obtain ⟨T1047, X1047, e1047, st1047⟩ := getF X1045 hx hZ hown (host := "") (Or.inl (hw _ (List.mem_of_getElem? (i := 22) rfl))) Via.refl e1045 Pu (g := (mkF m 15 #[.val (.ref fs), .val (.int (-1 : Int32)), z2] [(.ref fs)])) rfl rfl (hb hby d13_15)
      have s1048 : ∀ t, Steps p.tables e below (T1047.setTop (mkF m 19 #[.val (.ref fs), .val (.int (-1 : Int32)), z2] [(.ref fs), (.ref qa)])) t → Steps p.tables e below (T1047.setTop (mkF m 18 #[.val (.ref fs), .val (.int (-1 : Int32)), z2] [(.ref qa)])) t := by
        intro t kt
        refine XS.aloadN X1047.here hx rfl (hb hby d13_18) rfl rfl ?_
        exact kt
      obtain ⟨T1049, X1049, e1049, st1049⟩ := getF X1047 hx hZ hown (host := "") (Or.inl (hw _ (List.mem_of_getElem? (i := 67) rfl))) Via.refl e1047 Ph (g := (mkF m 19 #[.val (.ref fs), .val (.int (-1 : Int32)), z2] [(.ref fs), (.ref qa)])) rfl rfl (hb hby d13_19)
      have s1050 : ∀ t, Steps p.tables e below (T1049.setTop (mkF m 26 #[.val (.ref fs), .val (.int (-1 : Int32)), .val (.int (own_9 k))] [(.ref fs), (.ref fs)])) t → Steps p.tables e below (T1049.setTop (mkF m 22 #[.val (.ref fs), .val (.int (-1 : Int32)), z2] [(.int (own_h p0)), (.ref qa)])) t := by
        intro t kt
        refine OwnKit.ldAI X1049 hx hZ e1049 Vq (j := (own_h p0)) hr1 hr2 (w := (.int (own_9 k))) (by show Value.int (fQ (own_h p0).toInt.toNat) = _; rw [hr3, hu1]) (g := (mkF m 22 #[.val (.ref fs), .val (.int (-1 : Int32)), z2] [(.int (own_h p0)), (.ref qa)])) rfl rfl (hb hby d13_22) _ ?_
        show Steps p.tables e below (T1049.setTop (mkF m 23 #[.val (.ref fs), .val (.int (-1 : Int32)), z2] [(.int (own_9 k))])) t
        refine XS.istoreN X1049.here hx rfl (hb hby d13_23) rfl (l' := #[.val (.ref fs), .val (.int (-1 : Int32)), .val (.int (own_9 k))]) (own_stl hz2) ?_
        show Steps p.tables e below (T1049.setTop (mkF m 24 #[.val (.ref fs), .val (.int (-1 : Int32)), .val (.int (own_9 k))] [])) t
        refine XS.aloadN X1049.here hx rfl (hb hby d13_24) rfl rfl ?_
        show Steps p.tables e below (T1049.setTop (mkF m 25 #[.val (.ref fs), .val (.int (-1 : Int32)), .val (.int (own_9 k))] [(.ref fs)])) t
        refine XS.aloadN X1049.here hx rfl (hb hby d13_25) rfl rfl ?_
        exact kt
      obtain ⟨T1051, X1051, e1051, st1051⟩ := getF X1049 hx hZ hown (host := "") (Or.inl (hw _ (List.mem_of_getElem? (i := 67) rfl))) Via.refl e1049 Ph (g := (mkF m 26 #[.val (.ref fs), .val (.int (-1 : Int32)), .val (.int (own_9 k))] [(.ref fs), (.ref fs)])) rfl rfl (hb hby d13_26)
      have s1052 : ∀ t, Steps p.tables e below (T1051.setTop (mkF m 32 #[.val (.ref fs), .val (.int (-1 : Int32)), .val (.int (own_9 k))] [(.ref fs), (.int ((own_h p0) + (1 : Int32))), (.ref fs)])) t → Steps p.tables e below (T1051.setTop (mkF m 29 #[.val (.ref fs), .val (.int (-1 : Int32)), .val (.int (own_9 k))] [(.int (own_h p0)), (.ref fs)])) t := by
        intro t kt
        refine XS.iconst X1051.here hx rfl (hb hby d13_29) ?_
        show Steps p.tables e below (T1051.setTop (mkF m 30 #[.val (.ref fs), .val (.int (-1 : Int32)), .val (.int (own_9 k))] [(.int (1 : Int32)), (.int (own_h p0)), (.ref fs)])) t
        refine XS.iadd X1051.here hx rfl (hb hby d13_30) rfl ?_
        show Steps p.tables e below (T1051.setTop (mkF m 31 #[.val (.ref fs), .val (.int (-1 : Int32)), .val (.int (own_9 k))] [(.int ((own_h p0) + (1 : Int32))), (.ref fs)])) t
        refine XS.aloadN X1051.here hx rfl (hb hby d13_31) rfl rfl ?_
        exact kt
      obtain ⟨T1053, X1053, e1053, st1053⟩ := getF X1051 hx hZ hown (host := "") (Or.inl (hw _ (List.mem_of_getElem? (i := 22) rfl))) Via.refl e1051 Pu (g := (mkF m 32 #[.val (.ref fs), .val (.int (-1 : Int32)), .val (.int (own_9 k))] [(.ref fs), (.int ((own_h p0) + (1 : Int32))), (.ref fs)])) rfl rfl (hb hby d13_32)
      have s1054 : ∀ t, Steps p.tables e below (T1053.setTop (mkF m 39 #[.val (.ref fs), .val (.int (-1 : Int32)), .val (.int (own_9 k))] [(.int (((own_h p0) + (1 : Int32)) &&& ((16 : Int32) - (1 : Int32)))), (.ref fs)])) t → Steps p.tables e below (T1053.setTop (mkF m 35 #[.val (.ref fs), .val (.int (-1 : Int32)), .val (.int (own_9 k))] [(.ref qa), (.int ((own_h p0) + (1 : Int32))), (.ref fs)])) t := by
        intro t kt
        refine OwnKit.alen X1053 hx hZ e1053 Vq (z := (16 : Int32)) (by decide) (g := (mkF m 35 #[.val (.ref fs), .val (.int (-1 : Int32)), .val (.int (own_9 k))] [(.ref qa), (.int ((own_h p0) + (1 : Int32))), (.ref fs)])) rfl rfl (hb hby d13_35) _ ?_
        show Steps p.tables e below (T1053.setTop (mkF m 36 #[.val (.ref fs), .val (.int (-1 : Int32)), .val (.int (own_9 k))] [(.int (16 : Int32)), (.int ((own_h p0) + (1 : Int32))), (.ref fs)])) t
        refine XS.iconst X1053.here hx rfl (hb hby d13_36) ?_
        show Steps p.tables e below (T1053.setTop (mkF m 37 #[.val (.ref fs), .val (.int (-1 : Int32)), .val (.int (own_9 k))] [(.int (1 : Int32)), (.int (16 : Int32)), (.int ((own_h p0) + (1 : Int32))), (.ref fs)])) t
        refine XS.isub X1053.here hx rfl (hb hby d13_37) rfl ?_
        show Steps p.tables e below (T1053.setTop (mkF m 38 #[.val (.ref fs), .val (.int (-1 : Int32)), .val (.int (own_9 k))] [(.int ((16 : Int32) - (1 : Int32))), (.int ((own_h p0) + (1 : Int32))), (.ref fs)])) t
        refine XS.iand X1053.here hx rfl (hb hby d13_38) rfl ?_
        exact kt
      obtain ⟨T1055, h1055, X1055, e1055, W1055, st1055⟩ := putF X1053 hx hZ hown (host := "") (Or.inl (hw _ (List.mem_of_getElem? (i := 67) rfl))) Via.refl e1053 Ph Es (Or.inl (hw _ (List.mem_of_getElem? (i := 68) rfl))) (hw _ (List.mem_of_getElem? (i := 1) rfl)) (ty := .int) (by decide) rfl rfl (g := (mkF m 39 #[.val (.ref fs), .val (.int (-1 : Int32)), .val (.int (own_9 k))] [(.int (((own_h p0) + (1 : Int32)) &&& ((16 : Int32) - (1 : Int32)))), (.ref fs)])) rfl rfl (hb hby d13_39)
      have Zs1055 : n0 ≤ h1055.size := Nat.le_trans Zs (Keep.of_wr W1055).1
      have fE1056 := Es.wr W1055
      have fF1057 := Pt.other W1055 (Or.inr (slot_ne (Or.inl (hw _ (List.mem_of_getElem? (i := 21) rfl))) (Or.inl (hw _ (List.mem_of_getElem? (i := 68) rfl))) (by decide) (t := (.array .boolean)) (t' := .int) (by decide) (by decide)))
      have fF1058 := Pu.other W1055 (Or.inr (slot_ne (Or.inl (hw _ (List.mem_of_getElem? (i := 23) rfl))) (Or.inl (hw _ (List.mem_of_getElem? (i := 68) rfl))) (by decide) (t := (.array .int)) (t' := .int) (by decide) (by decide)))
      have fF1059 := Ph.same W1055
      have fF1060 := Pd.other W1055 (Or.inr (slot_ne (Or.inl (hw _ (List.mem_of_getElem? (i := 66) rfl))) (Or.inl (hw _ (List.mem_of_getElem? (i := 68) rfl))) (by decide) (t := .int) (t' := .int) (by decide) (by decide)))
      have fV1061 := V.other W1055 nks
      have fV1062 := Vq.other W1055 nqs
      have K1055 : Keep h0 h1055 [fs, ka] := K.wr W1055 (Or.inl (List.mem_of_getElem? (i := 0) rfl))
      have N1055 := Fr.snoc X1055 N Gs
      have s1063 : ∀ t, Steps p.tables e below (T1055.setTop (mkF m 44 #[.val (.ref fs), .val (.int (-1 : Int32)), .val (.int (own_9 k))] [(.ref fs), (.ref fs)])) t → Steps p.tables e below (T1055.setTop (mkF m 42 #[.val (.ref fs), .val (.int (-1 : Int32)), .val (.int (own_9 k))] [])) t := by
        intro t kt
        refine XS.aloadN X1055.here hx rfl (hb hby d13_42) rfl rfl ?_
        show Steps p.tables e below (T1055.setTop (mkF m 43 #[.val (.ref fs), .val (.int (-1 : Int32)), .val (.int (own_9 k))] [(.ref fs)])) t
        refine XS.dup X1055.here hx rfl (hb hby d13_43) rfl rfl ?_
        exact kt
      obtain ⟨T1064, X1064, e1064, st1064⟩ := getF X1055 hx hZ hown (host := "") (Or.inl (hw _ (List.mem_of_getElem? (i := 65) rfl))) Via.refl e1055 fF1060 (g := (mkF m 44 #[.val (.ref fs), .val (.int (-1 : Int32)), .val (.int (own_9 k))] [(.ref fs), (.ref fs)])) rfl rfl (hb hby d13_44)
      have s1065 : ∀ t, Steps p.tables e below (T1064.setTop (mkF m 49 #[.val (.ref fs), .val (.int (-1 : Int32)), .val (.int (own_9 k))] [(.int ((Int32.ofNat (k :: r).length) - (1 : Int32))), (.ref fs)])) t → Steps p.tables e below (T1064.setTop (mkF m 47 #[.val (.ref fs), .val (.int (-1 : Int32)), .val (.int (own_9 k))] [(.int (Int32.ofNat (k :: r).length)), (.ref fs)])) t := by
        intro t kt
        refine XS.iconst X1064.here hx rfl (hb hby d13_47) ?_
        show Steps p.tables e below (T1064.setTop (mkF m 48 #[.val (.ref fs), .val (.int (-1 : Int32)), .val (.int (own_9 k))] [(.int (1 : Int32)), (.int (Int32.ofNat (k :: r).length)), (.ref fs)])) t
        refine XS.isub X1064.here hx rfl (hb hby d13_48) rfl ?_
        exact kt
      obtain ⟨T1066, h1066, X1066, e1066, W1066, st1066⟩ := putF X1064 hx hZ hown (host := "") (Or.inl (hw _ (List.mem_of_getElem? (i := 65) rfl))) Via.refl e1064 fF1060 fE1056 (Or.inl (hw _ (List.mem_of_getElem? (i := 66) rfl))) (hw _ (List.mem_of_getElem? (i := 1) rfl)) (ty := .int) (by decide) rfl rfl (g := (mkF m 49 #[.val (.ref fs), .val (.int (-1 : Int32)), .val (.int (own_9 k))] [(.int ((Int32.ofNat (k :: r).length) - (1 : Int32))), (.ref fs)])) rfl rfl (hb hby d13_49)
      have Zs1066 : n0 ≤ h1066.size := Nat.le_trans Zs1055 (Keep.of_wr W1066).1
      have fE1067 := fE1056.wr W1066
      have fF1068 := fF1057.other W1066 (Or.inr (slot_ne (Or.inl (hw _ (List.mem_of_getElem? (i := 21) rfl))) (Or.inl (hw _ (List.mem_of_getElem? (i := 66) rfl))) (by decide) (t := (.array .boolean)) (t' := .int) (by decide) (by decide)))
      have fF1069 := fF1058.other W1066 (Or.inr (slot_ne (Or.inl (hw _ (List.mem_of_getElem? (i := 23) rfl))) (Or.inl (hw _ (List.mem_of_getElem? (i := 66) rfl))) (by decide) (t := (.array .int)) (t' := .int) (by decide) (by decide)))
      have fF1070 := fF1059.other W1066 (Or.inr (slot_ne (Or.inl (hw _ (List.mem_of_getElem? (i := 68) rfl))) (Or.inl (hw _ (List.mem_of_getElem? (i := 66) rfl))) (by decide) (t := .int) (t' := .int) (by decide) (by decide)))
      have fF1071 := fF1060.same W1066
      have fV1072 := fV1061.other W1066 nks
      have fV1073 := fV1062.other W1066 nqs
      have K1066 : Keep h0 h1066 [fs, ka] := K1055.wr W1066 (Or.inl (List.mem_of_getElem? (i := 0) rfl))
      have N1066 := Fr.snoc X1066 N1055 Gs
      have s1074 : ∀ t, Steps p.tables e below (T1066.setTop (mkF m 53 #[.val (.ref fs), .val (.int (-1 : Int32)), .val (.int (own_9 k))] [(.ref fs)])) t → Steps p.tables e below (T1066.setTop (mkF m 52 #[.val (.ref fs), .val (.int (-1 : Int32)), .val (.int (own_9 k))] [])) t := by
        intro t kt
        refine XS.aloadN X1066.here hx rfl (hb hby d13_52) rfl rfl ?_
        exact kt
      obtain ⟨T1075, X1075, e1075, st1075⟩ := getF X1066 hx hZ hown (host := "") (Or.inl (hw _ (List.mem_of_getElem? (i := 20) rfl))) Via.refl e1066 fF1068 (g := (mkF m 53 #[.val (.ref fs), .val (.int (-1 : Int32)), .val (.int (own_9 k))] [(.ref fs)])) rfl rfl (hb hby d13_53)
      have s1076 : ∀ t, Steps p.tables e below (T1075.setTop (mkF m 58 #[.val (.ref fs), .val (.int (-1 : Int32)), .val (.int (own_9 k))] [(.int (own_tk vs (9 * k)))])) t → Steps p.tables e below (T1075.setTop (mkF m 56 #[.val (.ref fs), .val (.int (-1 : Int32)), .val (.int (own_9 k))] [(.ref ka)])) t := by
        intro t kt
        refine XS.iloadN X1075.here hx rfl (hb hby d13_56) rfl ?_
        show Steps p.tables e below (T1075.setTop (mkF m 57 #[.val (.ref fs), .val (.int (-1 : Int32)), .val (.int (own_9 k))] [(.int (own_9 k)), (.ref ka)])) t
        refine OwnKit.ldAZ X1075 hx hZ e1075 fV1072 (j := (own_9 k)) hk1 hk2 (w := (.int (own_tk vs (9 * k)))) (by show Value.int (own_tk vs (own_9 k).toInt.toNat) = _; rw [hk3]) (g := (mkF m 57 #[.val (.ref fs), .val (.int (-1 : Int32)), .val (.int (own_9 k))] [(.int (own_9 k)), (.ref ka)])) rfl rfl (hb hby d13_57) _ ?_
        exact kt
      have hcases : k ∈ vs ∨ ¬ k ∈ vs := Classical.em _
      rcases hcases with hc | hc
      ·
        have ht : own_take vs (k :: r) = own_take vs r := if_pos hc
        have s1077 : ∀ t, Steps p.tables e below (T1075.setTop (mkF m 2 #[.val (.ref fs), .val (.int (-1 : Int32)), .val (.int (own_9 k))] [])) t → Steps p.tables e below (T1075.setTop (mkF m 58 #[.val (.ref fs), .val (.int (-1 : Int32)), .val (.int (own_9 k))] [(.int (own_tk vs (9 * k)))])) t := by
          intro t kt
          refine XS.ifYes X1075.here hx rfl (pc0 := 58) (pc' := 70) rfl (hb hby d13_58) rfl ((if0 _ _).trans (feq (own_tin hc)).2) (by decide) (by decide) ?_
          show Steps p.tables e below (T1075.setTop (mkF m 70 #[.val (.ref fs), .val (.int (-1 : Int32)), .val (.int (own_9 k))] [])) t
          refine XS.goto X1075.here hx rfl (pc0 := 70) (pc' := 2) rfl (hb hby d13_70) (by decide) (by decide) ?_
          exact kt
        have gh := fF1070
        rw [hr4] at gh
        have gqd := fF1071
        rw [hp2] at gqd
        rw [ht]
        obtain ⟨T', lc', h', p1, z2', X', e', N', K', b1, b2, b3, b4, b5, V', q', st'⟩ := ih T1075 _ h1066 (p0 + 1) (.val (.int (own_9 k))) X1075 e1075 N1066 Zs1066 K1066 fE1067 fF1068 fF1069 gh gqd fV1072 fV1073 hu2 (fun z hz => hm z (List.mem_cons_of_mem _ hz)) (Nat.le_trans (Nat.le_succ _) hls) (Or.inr ⟨_, rfl⟩)
        exact ⟨T', lc', h', p1, z2', X', e', N', K', b1, b2, b3, b4, b5, V', q', fun t kt => s1044 _ (st1045 _ (s1046 _ (st1047 _ (s1048 _ (st1049 _ (s1050 _ (st1051 _ (s1052 _ (st1053 _ (s1054 _ (st1055 _ (s1063 _ (st1064 _ (s1065 _ (st1066 _ (s1074 _ (st1075 _ (s1076 _ (s1077 _ (st' _ kt))))))))))))))))))))⟩
      ·
        have ht : own_take vs (k :: r) = (own_9 k, r, k :: vs) := if_neg hc
        have s1078 : ∀ t, Steps p.tables e below (T1075.setTop (mkF m 62 #[.val (.ref fs), .val (.int (-1 : Int32)), .val (.int (own_9 k))] [(.ref fs)])) t → Steps p.tables e below (T1075.setTop (mkF m 58 #[.val (.ref fs), .val (.int (-1 : Int32)), .val (.int (own_9 k))] [(.int (own_tk vs (9 * k)))])) t := by
          intro t kt
          refine XS.ifNo X1075.here hx rfl (hb hby d13_58) rfl ((if0 _ _).trans (teq (own_tout hc)).2) ?_
          show Steps p.tables e below (T1075.setTop (mkF m 61 #[.val (.ref fs), .val (.int (-1 : Int32)), .val (.int (own_9 k))] [])) t
          refine XS.aloadN X1075.here hx rfl (hb hby d13_61) rfl rfl ?_
          exact kt
        obtain ⟨T1079, X1079, e1079, st1079⟩ := getF X1075 hx hZ hown (host := "") (Or.inl (hw _ (List.mem_of_getElem? (i := 20) rfl))) Via.refl e1075 fF1068 (g := (mkF m 62 #[.val (.ref fs), .val (.int (-1 : Int32)), .val (.int (own_9 k))] [(.ref fs)])) rfl rfl (hb hby d13_62)
        have s1080 : ∀ t, Steps p.tables e below (T1079.setTop (mkF m 67 #[.val (.ref fs), .val (.int (-1 : Int32)), .val (.int (own_9 k))] [(.int (1 : Int32)), (.int (own_9 k)), (.ref ka)])) t → Steps p.tables e below (T1079.setTop (mkF m 65 #[.val (.ref fs), .val (.int (-1 : Int32)), .val (.int (own_9 k))] [(.ref ka)])) t := by
          intro t kt
          refine XS.iloadN X1079.here hx rfl (hb hby d13_65) rfl ?_
          show Steps p.tables e below (T1079.setTop (mkF m 66 #[.val (.ref fs), .val (.int (-1 : Int32)), .val (.int (own_9 k))] [(.int (own_9 k)), (.ref ka)])) t
          refine XS.iconst X1079.here hx rfl (hb hby d13_66) ?_
          exact kt
        obtain ⟨T1081, h1081, X1081, e1081, W1081, V1081, st1081⟩ := OwnKit.stAZ X1079 hx hZ e1079 fV1072 (j := (own_9 k)) hk1 hk2 (g := (mkF m 67 #[.val (.ref fs), .val (.int (-1 : Int32)), .val (.int (own_9 k))] [(.int (1 : Int32)), (.int (own_9 k)), (.ref ka)])) rfl rfl (hb hby d13_67)
        have Zs1081 : n0 ≤ h1081.size := Nat.le_trans Zs1066 (Keep.of_wr W1081).1
        have fE1082 := fE1067.wr W1081
        have fF1083 := fF1068.other W1081 (Or.inl (Ne.symm nks))
        have fF1084 := fF1069.other W1081 (Or.inl (Ne.symm nks))
        have fF1085 := fF1070.other W1081 (Or.inl (Ne.symm nks))
        have fF1086 := fF1071.other W1081 (Or.inl (Ne.symm nks))
        have fV1087 := V1081
        have fV1088 := fV1073.other W1081 nqk
        have K1081 : Keep h0 h1081 [fs, ka] := K1066.wr W1081 (Or.inl (List.mem_of_getElem? (i := 1) rfl))
        have N1081 := Fr.snoc X1081 N1066 Gk
        have s1089 : ∀ t, Steps p.tables e below (T1081.setTop (mkF m 73 #[.val (.ref fs), .val (.int (own_9 k)), .val (.int (own_9 k))] [])) t → Steps p.tables e below (T1081.setTop (mkF m 68 #[.val (.ref fs), .val (.int (-1 : Int32)), .val (.int (own_9 k))] [])) t := by
          intro t kt
          refine XS.iloadN X1081.here hx rfl (hb hby d13_68) rfl ?_
          show Steps p.tables e below (T1081.setTop (mkF m 69 #[.val (.ref fs), .val (.int (-1 : Int32)), .val (.int (own_9 k))] [(.int (own_9 k))])) t
          refine XS.istoreN X1081.here hx rfl (hb hby d13_69) rfl (l' := #[.val (.ref fs), .val (.int (own_9 k)), .val (.int (own_9 k))]) rfl ?_
          show Steps p.tables e below (T1081.setTop (mkF m 70 #[.val (.ref fs), .val (.int (own_9 k)), .val (.int (own_9 k))] [])) t
          refine XS.goto X1081.here hx rfl (pc0 := 70) (pc' := 2) rfl (hb hby d13_70) (by decide) (by decide) ?_
          show Steps p.tables e below (T1081.setTop (mkF m 2 #[.val (.ref fs), .val (.int (own_9 k)), .val (.int (own_9 k))] [])) t
          refine XS.iloadN X1081.here hx rfl (hb hby d13_2) rfl ?_
          show Steps p.tables e below (T1081.setTop (mkF m 3 #[.val (.ref fs), .val (.int (own_9 k)), .val (.int (own_9 k))] [(.int (own_9 k))])) t
          refine XS.iconst X1081.here hx rfl (hb hby d13_3) ?_
          show Steps p.tables e below (T1081.setTop (mkF m 4 #[.val (.ref fs), .val (.int (own_9 k)), .val (.int (own_9 k))] [(.int (-1 : Int32)), (.int (own_9 k))])) t
          refine XS.icmpYes X1081.here hx rfl (pc0 := 4) (pc' := 73) rfl (hb hby d13_4) rfl (feq hk4).2 (by decide) (by decide) ?_
          exact kt
        have gh := fF1085
        rw [hr4] at gh
        have gqd := fF1086
        rw [hp2] at gqd
        have gv := fV1087
        rw [hk3] at gv
        rw [ht]
        exact ⟨T1081, _, h1081, p0 + 1, (.val (.int (own_9 k))), X1081, e1081, N1081, K1081, fE1082, fF1083, fF1084, gh, gqd, gv.as (fun i _ => own_tset vs k i), hu2, fun t kt => s1044 _ (st1045 _ (s1046 _ (st1047 _ (s1048 _ (st1049 _ (s1050 _ (st1051 _ (s1052 _ (st1053 _ (s1054 _ (st1055 _ (s1063 _ (st1064 _ (s1065 _ (st1066 _ (s1074 _ (st1075 _ (s1076 _ (s1078 _ (st1079 _ (s1080 _ (st1081 _ (s1089 _ (kt))))))))))))))))))))))))⟩
  obtain ⟨T9, lc9, h9, p9, z9, X9, e9, N9, K9, b1, b2, b3, b4, b5, V9, q9, st9⟩ := loop ls s₁ _ h0 p0 .unset X0 e0 N0 Z0 (Keep.refl h0 [fs, ka]) Es Pt Pu Ph Pd Vk Vq hq hm hls (Or.inl rfl)
  have s1090 : ∀ t, Steps p.tables e below (T9.setTop (mkF m 74 #[.val (.ref fs), .val (.int (own_take vs ls).1), z9] [(.int (own_take vs ls).1)])) t → Steps p.tables e below (T9.setTop (mkF m 73 #[.val (.ref fs), .val (.int (own_take vs ls).1), z9] [])) t := by
    intro t kt
    refine XS.iloadN X9.here hx rfl (hb hby d13_73) rfl ?_
    exact kt
  obtain ⟨fs_, hr, hrun, hended, hW, hsame⟩ := X9.leave (hlocks := BodyLoose.notSynchronized Bd) (v := some (.int (own_take vs ls).1)) (fun h => by rw [Bd.returns] at h; cases h)
  refine ⟨_, _, pre0 _ (s1040 _ (st9 _ (s1090 _ (?_)))), hrun, hended, _, _, rfl, ?_, ⟨_, rfl⟩, hW, hsame.mono (by decide) (by decide)⟩
  · show Steps p.tables e below (T9.setTop (mkF m 74 #[.val (.ref fs), .val (.int (own_take vs ls).1), z9] [(.int (own_take vs ls).1)])) _
    exact retI X9 hx Bd.returns (hb hby d13_74) hr
  · show Q13 Z fs ka qa n fQ p0 ls vs h0 n0 _ T9.heap _
    rw [e9]
    exact ⟨rfl, N9, K9, p9, b1, b2, b3, b4, b5, V9, q9⟩

def Q0 (Z : State) (xa xb xc : Int32) (h0 : Heap) (n0 : Nat) (v : Option Value) (h : Heap) (L : List Loc) : Prop := v = some (.int 1) ∧ Fr n0 L
set_option maxRecDepth 65536 in
set_option maxHeartbeats 40000000 in
theorem rm0 (l : Launch) (Z : State) (a0 : Array Value) (hw : ∀ d ∈ tables_1, d.before a0 Z = true) (ws : List Jvm.Cond) (xa xb xc : Int32) (h0 : Heap) (n0 : Nat) (Z0 : n0 ≤ h0.size)  :
    MetFree l x (head1 (Jvm.Cond.code x code maxLocals ret :: ws) room_1) (fun a U => a = #[(.int xa), (.int xb), (.int xc)] ∧ Z.Warmed39 U.vm ∧ U.heap = h0) (fun _ _ _ _ _ => True) (fun _ U o U' => ∃ v L, o = .returned v ∧ Q0 Z xa xb xc h0 n0 v U'.heap L ∧ FrameEnd U o U' L room_1.cells room_1.slots) := by
  refine MetFree.of_bodySF (plainFor_of_name pn_com_example_witness_witness_logic_StepSearchTakePinLaw) hisR ?_
  intro p e s m args0 below meth c s₁ Bd hml0 hP hK
  obtain ⟨rfl, hZ, hh⟩ := hP
  have hx := Bd.exec
  have hby := Bd.bytes
  have hml : c.maxLocals = 13 := hml0
  have hown : s.vm.findClass "com/example/witness/witness/logic/StepSearchTakePinLaw" = some m.cls := findClass_of_methodNamed Bd.named
  have hnm := (name_of_methodNamed Bd.named Bd.method).1
  have X0 : Stand p l e room_1 s m #[(.int xa), (.int xb), (.int xc)] below meth c s₁ [] 0 0 := Stand.of_body Bd
  have e0 : s₁.heap = h0 := by rw [← hh, Bd.state]; rfl
  have N0 := Fr.nil n0
  have pre0 : ∀ t, Steps p.tables e below (s₁.setTop (mkF m 0 #[.val (.int xa), .val (.int xb), .val (.int xc), .unset, .unset, .unset, .unset, .unset, .unset, .unset, .unset, .unset, .unset] [])) t → Steps p.tables e below (s₁.setTop (entryFrame m #[(.int xa), (.int xb), (.int xc)] maxLocals)) t := fun t kk_ => castTop (ef_0 m xa xb xc) kk_
  obtain ⟨T1091, h1091, X1091, e1091, E1091, A1091, D1091, -, st1091⟩ := newO X0 hx hZ hown (hw _ (List.mem_of_getElem? (i := 0) rfl)) (hw _ (List.mem_of_getElem? (i := 1) rfl)) (hw _ (List.mem_of_getElem? (i := 2) rfl)) e0 (g := (mkF m 0 #[.val (.int xa), .val (.int xb), .val (.int xc), .unset, .unset, .unset, .unset, .unset, .unset, .unset, .unset, .unset, .unset] [])) rfl (hb hby at_0) (by decide) (by decide)
  obtain ⟨b1091, g1091⟩ : ∃ z, z = h0.size := ⟨_, rfl⟩
  rw [← g1091] at A1091 D1091 st1091
  have gn1091 : n0 ≤ b1091 := Nat.le_trans Z0 (Nat.le_of_eq g1091.symm)
  have Zs1091 : n0 ≤ h1091.size := Nat.le_trans Z0 E1091.1
  have fF1092 : Fld Z h1091 b1091 "com/example/witness/witness/logic/StepSearch" "costs" "[I" .null := D1091 (Or.inl (hw _ (List.mem_of_getElem? (i := 14) rfl))) (ty := (.array .int)) (by decide)
  have fF1093 : Fld Z h1091 b1091 "com/example/witness/witness/logic/StepSearch" "froms" "[I" .null := D1091 (Or.inl (hw _ (List.mem_of_getElem? (i := 16) rfl))) (ty := (.array .int)) (by decide)
  have fF1094 : Fld Z h1091 b1091 "com/example/witness/witness/logic/StepSearch" "transitions" "[I" .null := D1091 (Or.inl (hw _ (List.mem_of_getElem? (i := 18) rfl))) (ty := (.array .int)) (by decide)
  have fF1095 : Fld Z h1091 b1091 "com/example/witness/witness/logic/StepSearch" "taken" "[Z" .null := D1091 (Or.inl (hw _ (List.mem_of_getElem? (i := 21) rfl))) (ty := (.array .boolean)) (by decide)
  have fF1096 : Fld Z h1091 b1091 "com/example/witness/witness/logic/StepSearch" "queue" "[I" .null := D1091 (Or.inl (hw _ (List.mem_of_getElem? (i := 23) rfl))) (ty := (.array .int)) (by decide)
  have fF1097 : Fld Z h1091 b1091 "com/example/witness/witness/logic/StepSearch" "reached" "Lcom/example/witness/witness/logic/IntStack;" .null := D1091 (Or.inr (hw _ (List.mem_of_getElem? (i := 25) rfl))) (ty := (.object "com/example/witness/witness/logic/IntStack")) (by decide)
  have fF1098 : Fld Z h1091 b1091 "com/example/witness/witness/logic/StepSearch" "queued" "I" (.int (0 : Int32)) := D1091 (Or.inl (hw _ (List.mem_of_getElem? (i := 66) rfl))) (ty := .int) (by decide)
  have fF1099 : Fld Z h1091 b1091 "com/example/witness/witness/logic/StepSearch" "head" "I" (.int (0 : Int32)) := D1091 (Or.inl (hw _ (List.mem_of_getElem? (i := 68) rfl))) (ty := .int) (by decide)
  have s1100 : ∀ t, Steps p.tables e below (T1091.setTop (mkF m 4 #[.val (.int xa), .val (.int xb), .val (.int xc), .unset, .unset, .unset, .unset, .unset, .unset, .unset, .unset, .unset, .unset] [(.ref b1091), (.ref b1091)])) t → Steps p.tables e below (T1091.setTop (mkF m 3 #[.val (.int xa), .val (.int xb), .val (.int xc), .unset, .unset, .unset, .unset, .unset, .unset, .unset, .unset, .unset, .unset] [(.ref b1091)])) t := by
    intro t kt
    refine XS.dup X1091.here hx rfl (hb hby at_3) rfl rfl ?_
    exact kt
  obtain ⟨_, _, ⟨T1101, L1101, k1101, n1101⟩, -, X1101, ⟨Lc1101, hQ1101, l1101, y1101, z1101⟩, st1101⟩ := X1091.specialBack hx (y := (⟨"com/example/witness/witness/logic/StepSearch", "<init>", "()V"⟩ : MethodName)) rfl hown (mvT hZ (hw _ (List.mem_of_getElem? (i := 3) rfl))) (mvT hZ (hw _ (List.mem_of_getElem? (i := 4) rfl))) (mvT hZ (hw _ (List.mem_of_getElem? (i := 5) rfl))) (by decide) (backOf (W := 1) (rm1 l Z a0 hw [] b1091 h1091 n0 Zs1091 A1091 fF1092 fF1093 fF1094 fF1095 fF1096 fF1097 fF1099 fF1098 gn1091) hZ (hw _ (List.mem_of_getElem? (i := 5) rfl)) (hw _ (List.mem_of_getElem? (i := 2) rfl)) (by decide) (by decide)) (g := (mkF m 4 #[.val (.int xa), .val (.int xb), .val (.int xc), .unset, .unset, .unset, .unset, .unset, .unset, .unset, .unset, .unset, .unset] [(.ref b1091), (.ref b1091)])) rfl (by rw [hml]; rfl) (Steps.refl _) (a := b1091) (argsL := []) (rest := [(.ref b1091)]) (lenOf pd_ocV rfl) rfl (by show 2 * 0 + _ ≤ _; exact Nat.le_of_eq rfl) (hb hby at_4) (fun _ _ => ⟨rfl, e1091, (by decide : 1 + 5 ≤ _), (by decide : 8 + 16 ≤ _)⟩)
  dsimp only [Pt.U, Pt.locs, Pt.cells, Pt.slots] at X1101 l1101 y1101 z1101 st1101 hQ1101
  rw [l1101, y1101, z1101] at X1101
  obtain ⟨hv1101, N1101q, Kc1101, E1101_, ca1101, fa1101, ta1101, ka1101, qa1101, o1101_0, o1101_1, o1101_2, o1101_3, o1101_4, F1101_costs, F1101_froms, F1101_transitions, F1101_taken, F1101_queue, F1101_reached, F1101_head, F1101_queued, V1101_ca, V1101_fa, V1101_ta, V1101_ka, V1101_qa⟩ := hQ1101
  rw [hv1101] at st1101
  have N1101 := Fr.app N0 N1101q
  have Zs1101 : n0 ≤ T1101.heap.size := Nat.le_trans Zs1091 Kc1101.1
  have s1102 : ∀ t, Steps p.tables e below (T1101.setTop (mkF m 9 #[.val (.int xa), .val (.int xb), .val (.int xc), .val (.ref b1091), .unset, .unset, .unset, .unset, .unset, .unset, .unset, .unset, .unset] [(.int (4 : Int32))])) t → Steps p.tables e below (T1101.setTop (mkF m 7 #[.val (.int xa), .val (.int xb), .val (.int xc), .unset, .unset, .unset, .unset, .unset, .unset, .unset, .unset, .unset, .unset] [(.ref b1091)])) t := by
    intro t kt
    refine XS.astoreN X1101.here hx rfl (hb hby at_7) rfl rfl (l' := #[.val (.int xa), .val (.int xb), .val (.int xc), .val (.ref b1091), .unset, .unset, .unset, .unset, .unset, .unset, .unset, .unset, .unset]) rfl ?_
    show Steps p.tables e below (T1101.setTop (mkF m 8 #[.val (.int xa), .val (.int xb), .val (.int xc), .val (.ref b1091), .unset, .unset, .unset, .unset, .unset, .unset, .unset, .unset, .unset] [])) t
    refine XS.iconst X1101.here hx rfl (hb hby at_8) ?_
    exact kt
  obtain ⟨T1103, h1103, k1103, X1103, e1103, E1103, A1103, st1103⟩ := newP X1101 hx hZ (hw _ (List.mem_of_getElem? (i := 12) rfl)) rfl (g := (mkF m 9 #[.val (.int xa), .val (.int xb), .val (.int xc), .val (.ref b1091), .unset, .unset, .unset, .unset, .unset, .unset, .unset, .unset, .unset] [(.int (4 : Int32))])) rfl (hb hby at_9) rfl (by decide) (cap := 4) (by decide) (by decide) (by decide) (by decide)
  obtain ⟨b1103, g1103⟩ : ∃ z, z = T1101.heap.size := ⟨_, rfl⟩
  rw [← g1103] at A1103 st1103
  have lne1104 : b1091 < b1103 := Nat.lt_of_lt_of_le E1101_.lt (Nat.le_of_eq g1103.symm)
  have ne1104 : b1091 ≠ b1103 := Nat.ne_of_lt lne1104
  have lne1105 : ca1101 < b1103 := Nat.lt_of_lt_of_le V1101_ca.lt (Nat.le_of_eq g1103.symm)
  have ne1105 : ca1101 ≠ b1103 := Nat.ne_of_lt lne1105
  have lne1106 : fa1101 < b1103 := Nat.lt_of_lt_of_le V1101_fa.lt (Nat.le_of_eq g1103.symm)
  have ne1106 : fa1101 ≠ b1103 := Nat.ne_of_lt lne1106
  have lne1107 : ta1101 < b1103 := Nat.lt_of_lt_of_le V1101_ta.lt (Nat.le_of_eq g1103.symm)
  have ne1107 : ta1101 ≠ b1103 := Nat.ne_of_lt lne1107
  have lne1108 : ka1101 < b1103 := Nat.lt_of_lt_of_le V1101_ka.lt (Nat.le_of_eq g1103.symm)
  have ne1108 : ka1101 ≠ b1103 := Nat.ne_of_lt lne1108
  have lne1109 : qa1101 < b1103 := Nat.lt_of_lt_of_le V1101_qa.lt (Nat.le_of_eq g1103.symm)
  have ne1109 : qa1101 ≠ b1103 := Nat.ne_of_lt lne1109
  have gn1103 : n0 ≤ b1103 := Nat.le_trans Zs1101 (Nat.le_of_eq g1103.symm)
  have Zs1103 : n0 ≤ h1103.size := Nat.le_trans Zs1101 E1103.1
  have fE1110 := E1101_.ext E1103
  have fF1111 := F1101_costs.ext E1103
  have fF1112 := F1101_froms.ext E1103
  have fF1113 := F1101_transitions.ext E1103
  have fF1114 := F1101_taken.ext E1103
  have fF1115 := F1101_queue.ext E1103
  have fF1116 := F1101_reached.ext E1103
  have fF1117 := F1101_head.ext E1103
  have fF1118 := F1101_queued.ext E1103
  have fV1119 := V1101_ca.ext E1103
  have fV1120 := V1101_fa.ext E1103
  have fV1121 := V1101_ta.ext E1103
  have fV1122 := V1101_ka.ext E1103
  have fV1123 := V1101_qa.ext E1103
  have fV1124 : OwnKit.Ar Z h1103 b1103 .int 4 (fun _ => defaultValue .int) := OwnKit.Ar.new A1103 (by decide) (by decide)
  have s1125 : ∀ t, Steps p.tables e below (T1103.setTop (mkF m 15 #[.val (.int xa), .val (.int xb), .val (.int xc), .val (.ref b1091), .unset, .unset, .unset, .unset, .unset, .unset, .unset, .unset, .unset] [(.int (2147483647 : Int32)), (.int (0 : Int32)), (.ref b1103), (.ref b1103)])) t → Steps p.tables e below (T1103.setTop (mkF m 11 #[.val (.int xa), .val (.int xb), .val (.int xc), .val (.ref b1091), .unset, .unset, .unset, .unset, .unset, .unset, .unset, .unset, .unset] [(.ref b1103)])) t := by
    intro t kt
    refine XS.dup X1103.here hx rfl (hb hby at_11) rfl rfl ?_
    show Steps p.tables e below (T1103.setTop (mkF m 12 #[.val (.int xa), .val (.int xb), .val (.int xc), .val (.ref b1091), .unset, .unset, .unset, .unset, .unset, .unset, .unset, .unset, .unset] [(.ref b1103), (.ref b1103)])) t
    refine XS.iconst X1103.here hx rfl (hb hby at_12) ?_
    show Steps p.tables e below (T1103.setTop (mkF m 13 #[.val (.int xa), .val (.int xb), .val (.int xc), .val (.ref b1091), .unset, .unset, .unset, .unset, .unset, .unset, .unset, .unset, .unset] [(.int (0 : Int32)), (.ref b1103), (.ref b1103)])) t
    refine X1103.ldcInt hx hown (mvT hZ (hw _ (List.mem_of_getElem? (i := 26) rfl))) (g := (mkF m 13 #[.val (.int xa), .val (.int xb), .val (.int xc), .val (.ref b1091), .unset, .unset, .unset, .unset, .unset, .unset, .unset, .unset, .unset] [(.int (0 : Int32)), (.ref b1103), (.ref b1103)])) rfl (hb hby at_13) _ ?_
    exact kt
  obtain ⟨T1126, h1126, X1126, e1126, W1126, V1126, st1126⟩ := OwnKit.stAI X1103 hx hZ e1103 fV1124 (j := (0 : Int32)) (by decide) (by decide) (g := (mkF m 15 #[.val (.int xa), .val (.int xb), .val (.int xc), .val (.ref b1091), .unset, .unset, .unset, .unset, .unset, .unset, .unset, .unset, .unset] [(.int (2147483647 : Int32)), (.int (0 : Int32)), (.ref b1103), (.ref b1103)])) rfl rfl (hb hby at_15)
  have Zs1126 : n0 ≤ h1126.size := Nat.le_trans Zs1103 (Keep.of_wr W1126).1
  have fE1127 := fE1110.wr W1126
  have fF1128 := fF1111.other W1126 (Or.inl ne1104)
  have fF1129 := fF1112.other W1126 (Or.inl ne1104)
  have fF1130 := fF1113.other W1126 (Or.inl ne1104)
  have fF1131 := fF1114.other W1126 (Or.inl ne1104)
  have fF1132 := fF1115.other W1126 (Or.inl ne1104)
  have fF1133 := fF1116.other W1126 (Or.inl ne1104)
  have fF1134 := fF1117.other W1126 (Or.inl ne1104)
  have fF1135 := fF1118.other W1126 (Or.inl ne1104)
  have fV1136 := fV1119.other W1126 ne1105
  have fV1137 := fV1120.other W1126 ne1106
  have fV1138 := fV1121.other W1126 ne1107
  have fV1139 := fV1122.other W1126 ne1108
  have fV1140 := fV1123.other W1126 ne1109
  have fV1141 := V1126
  have N1126 := Fr.snoc X1126 N1101 gn1103
  have s1142 : ∀ t, Steps p.tables e below (T1126.setTop (mkF m 20 #[.val (.int xa), .val (.int xb), .val (.int xc), .val (.ref b1091), .unset, .unset, .unset, .unset, .unset, .unset, .unset, .unset, .unset] [(.int (2147483647 : Int32)), (.int (1 : Int32)), (.ref b1103), (.ref b1103)])) t → Steps p.tables e below (T1126.setTop (mkF m 16 #[.val (.int xa), .val (.int xb), .val (.int xc), .val (.ref b1091), .unset, .unset, .unset, .unset, .unset, .unset, .unset, .unset, .unset] [(.ref b1103)])) t := by
    intro t kt
    refine XS.dup X1126.here hx rfl (hb hby at_16) rfl rfl ?_
    show Steps p.tables e below (T1126.setTop (mkF m 17 #[.val (.int xa), .val (.int xb), .val (.int xc), .val (.ref b1091), .unset, .unset, .unset, .unset, .unset, .unset, .unset, .unset, .unset] [(.ref b1103), (.ref b1103)])) t
    refine XS.iconst X1126.here hx rfl (hb hby at_17) ?_
    show Steps p.tables e below (T1126.setTop (mkF m 18 #[.val (.int xa), .val (.int xb), .val (.int xc), .val (.ref b1091), .unset, .unset, .unset, .unset, .unset, .unset, .unset, .unset, .unset] [(.int (1 : Int32)), (.ref b1103), (.ref b1103)])) t
    refine X1126.ldcInt hx hown (mvT hZ (hw _ (List.mem_of_getElem? (i := 26) rfl))) (g := (mkF m 18 #[.val (.int xa), .val (.int xb), .val (.int xc), .val (.ref b1091), .unset, .unset, .unset, .unset, .unset, .unset, .unset, .unset, .unset] [(.int (1 : Int32)), (.ref b1103), (.ref b1103)])) rfl (hb hby at_18) _ ?_
    exact kt
  obtain ⟨T1143, h1143, X1143, e1143, W1143, V1143, st1143⟩ := OwnKit.stAI X1126 hx hZ e1126 fV1141 (j := (1 : Int32)) (by decide) (by decide) (g := (mkF m 20 #[.val (.int xa), .val (.int xb), .val (.int xc), .val (.ref b1091), .unset, .unset, .unset, .unset, .unset, .unset, .unset, .unset, .unset] [(.int (2147483647 : Int32)), (.int (1 : Int32)), (.ref b1103), (.ref b1103)])) rfl rfl (hb hby at_20)
  have Zs1143 : n0 ≤ h1143.size := Nat.le_trans Zs1126 (Keep.of_wr W1143).1
  have fE1144 := fE1127.wr W1143
  have fF1145 := fF1128.other W1143 (Or.inl ne1104)
  have fF1146 := fF1129.other W1143 (Or.inl ne1104)
  have fF1147 := fF1130.other W1143 (Or.inl ne1104)
  have fF1148 := fF1131.other W1143 (Or.inl ne1104)
  have fF1149 := fF1132.other W1143 (Or.inl ne1104)
  have fF1150 := fF1133.other W1143 (Or.inl ne1104)
  have fF1151 := fF1134.other W1143 (Or.inl ne1104)
  have fF1152 := fF1135.other W1143 (Or.inl ne1104)
  have fV1153 := fV1136.other W1143 ne1105
  have fV1154 := fV1137.other W1143 ne1106
  have fV1155 := fV1138.other W1143 ne1107
  have fV1156 := fV1139.other W1143 ne1108
  have fV1157 := fV1140.other W1143 ne1109
  have fV1158 := V1143
  have N1143 := Fr.snoc X1143 N1126 gn1103
  have s1159 : ∀ t, Steps p.tables e below (T1143.setTop (mkF m 25 #[.val (.int xa), .val (.int xb), .val (.int xc), .val (.ref b1091), .unset, .unset, .unset, .unset, .unset, .unset, .unset, .unset, .unset] [(.int (2147483647 : Int32)), (.int (2 : Int32)), (.ref b1103), (.ref b1103)])) t → Steps p.tables e below (T1143.setTop (mkF m 21 #[.val (.int xa), .val (.int xb), .val (.int xc), .val (.ref b1091), .unset, .unset, .unset, .unset, .unset, .unset, .unset, .unset, .unset] [(.ref b1103)])) t := by
    intro t kt
    refine XS.dup X1143.here hx rfl (hb hby at_21) rfl rfl ?_
    show Steps p.tables e below (T1143.setTop (mkF m 22 #[.val (.int xa), .val (.int xb), .val (.int xc), .val (.ref b1091), .unset, .unset, .unset, .unset, .unset, .unset, .unset, .unset, .unset] [(.ref b1103), (.ref b1103)])) t
    refine XS.iconst X1143.here hx rfl (hb hby at_22) ?_
    show Steps p.tables e below (T1143.setTop (mkF m 23 #[.val (.int xa), .val (.int xb), .val (.int xc), .val (.ref b1091), .unset, .unset, .unset, .unset, .unset, .unset, .unset, .unset, .unset] [(.int (2 : Int32)), (.ref b1103), (.ref b1103)])) t
    refine X1143.ldcInt hx hown (mvT hZ (hw _ (List.mem_of_getElem? (i := 26) rfl))) (g := (mkF m 23 #[.val (.int xa), .val (.int xb), .val (.int xc), .val (.ref b1091), .unset, .unset, .unset, .unset, .unset, .unset, .unset, .unset, .unset] [(.int (2 : Int32)), (.ref b1103), (.ref b1103)])) rfl (hb hby at_23) _ ?_
    exact kt
  obtain ⟨T1160, h1160, X1160, e1160, W1160, V1160, st1160⟩ := OwnKit.stAI X1143 hx hZ e1143 fV1158 (j := (2 : Int32)) (by decide) (by decide) (g := (mkF m 25 #[.val (.int xa), .val (.int xb), .val (.int xc), .val (.ref b1091), .unset, .unset, .unset, .unset, .unset, .unset, .unset, .unset, .unset] [(.int (2147483647 : Int32)), (.int (2 : Int32)), (.ref b1103), (.ref b1103)])) rfl rfl (hb hby at_25)
  have Zs1160 : n0 ≤ h1160.size := Nat.le_trans Zs1143 (Keep.of_wr W1160).1
  have fE1161 := fE1144.wr W1160
  have fF1162 := fF1145.other W1160 (Or.inl ne1104)
  have fF1163 := fF1146.other W1160 (Or.inl ne1104)
  have fF1164 := fF1147.other W1160 (Or.inl ne1104)
  have fF1165 := fF1148.other W1160 (Or.inl ne1104)
  have fF1166 := fF1149.other W1160 (Or.inl ne1104)
  have fF1167 := fF1150.other W1160 (Or.inl ne1104)
  have fF1168 := fF1151.other W1160 (Or.inl ne1104)
  have fF1169 := fF1152.other W1160 (Or.inl ne1104)
  have fV1170 := fV1153.other W1160 ne1105
  have fV1171 := fV1154.other W1160 ne1106
  have fV1172 := fV1155.other W1160 ne1107
  have fV1173 := fV1156.other W1160 ne1108
  have fV1174 := fV1157.other W1160 ne1109
  have fV1175 := V1160
  have N1160 := Fr.snoc X1160 N1143 gn1103
  have s1176 : ∀ t, Steps p.tables e below (T1160.setTop (mkF m 30 #[.val (.int xa), .val (.int xb), .val (.int xc), .val (.ref b1091), .unset, .unset, .unset, .unset, .unset, .unset, .unset, .unset, .unset] [(.int (2147483647 : Int32)), (.int (3 : Int32)), (.ref b1103), (.ref b1103)])) t → Steps p.tables e below (T1160.setTop (mkF m 26 #[.val (.int xa), .val (.int xb), .val (.int xc), .val (.ref b1091), .unset, .unset, .unset, .unset, .unset, .unset, .unset, .unset, .unset] [(.ref b1103)])) t := by
    intro t kt
    refine XS.dup X1160.here hx rfl (hb hby at_26) rfl rfl ?_
    show Steps p.tables e below (T1160.setTop (mkF m 27 #[.val (.int xa), .val (.int xb), .val (.int xc), .val (.ref b1091), .unset, .unset, .unset, .unset, .unset, .unset, .unset, .unset, .unset] [(.ref b1103), (.ref b1103)])) t
    refine XS.iconst X1160.here hx rfl (hb hby at_27) ?_
    show Steps p.tables e below (T1160.setTop (mkF m 28 #[.val (.int xa), .val (.int xb), .val (.int xc), .val (.ref b1091), .unset, .unset, .unset, .unset, .unset, .unset, .unset, .unset, .unset] [(.int (3 : Int32)), (.ref b1103), (.ref b1103)])) t
    refine X1160.ldcInt hx hown (mvT hZ (hw _ (List.mem_of_getElem? (i := 26) rfl))) (g := (mkF m 28 #[.val (.int xa), .val (.int xb), .val (.int xc), .val (.ref b1091), .unset, .unset, .unset, .unset, .unset, .unset, .unset, .unset, .unset] [(.int (3 : Int32)), (.ref b1103), (.ref b1103)])) rfl (hb hby at_28) _ ?_
    exact kt
  obtain ⟨T1177, h1177, X1177, e1177, W1177, V1177, st1177⟩ := OwnKit.stAI X1160 hx hZ e1160 fV1175 (j := (3 : Int32)) (by decide) (by decide) (g := (mkF m 30 #[.val (.int xa), .val (.int xb), .val (.int xc), .val (.ref b1091), .unset, .unset, .unset, .unset, .unset, .unset, .unset, .unset, .unset] [(.int (2147483647 : Int32)), (.int (3 : Int32)), (.ref b1103), (.ref b1103)])) rfl rfl (hb hby at_30)
  have Zs1177 : n0 ≤ h1177.size := Nat.le_trans Zs1160 (Keep.of_wr W1177).1
  have fE1178 := fE1161.wr W1177
  have fF1179 := fF1162.other W1177 (Or.inl ne1104)
  have fF1180 := fF1163.other W1177 (Or.inl ne1104)
  have fF1181 := fF1164.other W1177 (Or.inl ne1104)
  have fF1182 := fF1165.other W1177 (Or.inl ne1104)
  have fF1183 := fF1166.other W1177 (Or.inl ne1104)
  have fF1184 := fF1167.other W1177 (Or.inl ne1104)
  have fF1185 := fF1168.other W1177 (Or.inl ne1104)
  have fF1186 := fF1169.other W1177 (Or.inl ne1104)
  have fV1187 := fV1170.other W1177 ne1105
  have fV1188 := fV1171.other W1177 ne1106
  have fV1189 := fV1172.other W1177 ne1107
  have fV1190 := fV1173.other W1177 ne1108
  have fV1191 := fV1174.other W1177 ne1109
  have fV1192 := V1177
  have N1177 := Fr.snoc X1177 N1160 gn1103
  have s1193 : ∀ t, Steps p.tables e below (T1177.setTop (mkF m 35 #[.val (.int xa), .val (.int xb), .val (.int xc), .val (.ref b1091), .val (.ref b1103), .unset, .unset, .unset, .unset, .unset, .unset, .unset, .unset] [(.int (7 : Int32))])) t → Steps p.tables e below (T1177.setTop (mkF m 31 #[.val (.int xa), .val (.int xb), .val (.int xc), .val (.ref b1091), .unset, .unset, .unset, .unset, .unset, .unset, .unset, .unset, .unset] [(.ref b1103)])) t := by
    intro t kt
    refine XS.astore X1177.here hx rfl (hb hby at_31) rfl rfl (l' := #[.val (.int xa), .val (.int xb), .val (.int xc), .val (.ref b1091), .val (.ref b1103), .unset, .unset, .unset, .unset, .unset, .unset, .unset, .unset]) rfl ?_
    show Steps p.tables e below (T1177.setTop (mkF m 33 #[.val (.int xa), .val (.int xb), .val (.int xc), .val (.ref b1091), .val (.ref b1103), .unset, .unset, .unset, .unset, .unset, .unset, .unset, .unset] [])) t
    refine XS.bipush X1177.here hx rfl (hb hby at_33) ?_
    exact kt
  obtain ⟨T1194, h1194, k1194, X1194, e1194, E1194, A1194, st1194⟩ := newP X1177 hx hZ (hw _ (List.mem_of_getElem? (i := 12) rfl)) e1177 (g := (mkF m 35 #[.val (.int xa), .val (.int xb), .val (.int xc), .val (.ref b1091), .val (.ref b1103), .unset, .unset, .unset, .unset, .unset, .unset, .unset, .unset] [(.int (7 : Int32))])) rfl (hb hby at_35) rfl (by decide) (cap := 7) (by decide) (by decide) (by decide) (by decide)
  obtain ⟨b1194, g1194⟩ : ∃ z, z = h1177.size := ⟨_, rfl⟩
  rw [← g1194] at A1194 st1194
  have lne1195 : b1091 < b1194 := Nat.lt_of_lt_of_le fE1178.lt (Nat.le_of_eq g1194.symm)
  have ne1195 : b1091 ≠ b1194 := Nat.ne_of_lt lne1195
  have lne1196 : ca1101 < b1194 := Nat.lt_of_lt_of_le fV1187.lt (Nat.le_of_eq g1194.symm)
  have ne1196 : ca1101 ≠ b1194 := Nat.ne_of_lt lne1196
  have lne1197 : fa1101 < b1194 := Nat.lt_of_lt_of_le fV1188.lt (Nat.le_of_eq g1194.symm)
  have ne1197 : fa1101 ≠ b1194 := Nat.ne_of_lt lne1197
  have lne1198 : ta1101 < b1194 := Nat.lt_of_lt_of_le fV1189.lt (Nat.le_of_eq g1194.symm)
  have ne1198 : ta1101 ≠ b1194 := Nat.ne_of_lt lne1198
  have lne1199 : ka1101 < b1194 := Nat.lt_of_lt_of_le fV1190.lt (Nat.le_of_eq g1194.symm)
  have ne1199 : ka1101 ≠ b1194 := Nat.ne_of_lt lne1199
  have lne1200 : qa1101 < b1194 := Nat.lt_of_lt_of_le fV1191.lt (Nat.le_of_eq g1194.symm)
  have ne1200 : qa1101 ≠ b1194 := Nat.ne_of_lt lne1200
  have lne1201 : b1103 < b1194 := Nat.lt_of_lt_of_le fV1192.lt (Nat.le_of_eq g1194.symm)
  have ne1201 : b1103 ≠ b1194 := Nat.ne_of_lt lne1201
  have gn1194 : n0 ≤ b1194 := Nat.le_trans Zs1177 (Nat.le_of_eq g1194.symm)
  have Zs1194 : n0 ≤ h1194.size := Nat.le_trans Zs1177 E1194.1
  have fE1202 := fE1178.ext E1194
  have fF1203 := fF1179.ext E1194
  have fF1204 := fF1180.ext E1194
  have fF1205 := fF1181.ext E1194
  have fF1206 := fF1182.ext E1194
  have fF1207 := fF1183.ext E1194
  have fF1208 := fF1184.ext E1194
  have fF1209 := fF1185.ext E1194
  have fF1210 := fF1186.ext E1194
  have fV1211 := fV1187.ext E1194
  have fV1212 := fV1188.ext E1194
  have fV1213 := fV1189.ext E1194
  have fV1214 := fV1190.ext E1194
  have fV1215 := fV1191.ext E1194
  have fV1216 := fV1192.ext E1194
  have fV1217 : OwnKit.Ar Z h1194 b1194 .int 7 (fun _ => defaultValue .int) := OwnKit.Ar.new A1194 (by decide) (by decide)
  have s1218 : ∀ t, Steps p.tables e below (T1194.setTop (mkF m 40 #[.val (.int xa), .val (.int xb), .val (.int xc), .val (.ref b1091), .val (.ref b1103), .val (.ref b1194), .unset, .unset, .unset, .unset, .unset, .unset, .unset] [(.int (2 : Int32))])) t → Steps p.tables e below (T1194.setTop (mkF m 37 #[.val (.int xa), .val (.int xb), .val (.int xc), .val (.ref b1091), .val (.ref b1103), .unset, .unset, .unset, .unset, .unset, .unset, .unset, .unset] [(.ref b1194)])) t := by
    intro t kt
    refine XS.astore X1194.here hx rfl (hb hby at_37) rfl rfl (l' := #[.val (.int xa), .val (.int xb), .val (.int xc), .val (.ref b1091), .val (.ref b1103), .val (.ref b1194), .unset, .unset, .unset, .unset, .unset, .unset, .unset]) rfl ?_
    show Steps p.tables e below (T1194.setTop (mkF m 39 #[.val (.int xa), .val (.int xb), .val (.int xc), .val (.ref b1091), .val (.ref b1103), .val (.ref b1194), .unset, .unset, .unset, .unset, .unset, .unset, .unset] [])) t
    refine XS.iconst X1194.here hx rfl (hb hby at_39) ?_
    exact kt
  obtain ⟨T1219, h1219, k1219, X1219, e1219, E1219, A1219, st1219⟩ := newP X1194 hx hZ (hw _ (List.mem_of_getElem? (i := 12) rfl)) e1194 (g := (mkF m 40 #[.val (.int xa), .val (.int xb), .val (.int xc), .val (.ref b1091), .val (.ref b1103), .val (.ref b1194), .unset, .unset, .unset, .unset, .unset, .unset, .unset] [(.int (2 : Int32))])) rfl (hb hby at_40) rfl (by decide) (cap := 2) (by decide) (by decide) (by decide) (by decide)
  obtain ⟨b1219, g1219⟩ : ∃ z, z = h1194.size := ⟨_, rfl⟩
  rw [← g1219] at A1219 st1219
  have lne1220 : b1091 < b1219 := Nat.lt_of_lt_of_le fE1202.lt (Nat.le_of_eq g1219.symm)
  have ne1220 : b1091 ≠ b1219 := Nat.ne_of_lt lne1220
  have lne1221 : ca1101 < b1219 := Nat.lt_of_lt_of_le fV1211.lt (Nat.le_of_eq g1219.symm)
  have ne1221 : ca1101 ≠ b1219 := Nat.ne_of_lt lne1221
  have lne1222 : fa1101 < b1219 := Nat.lt_of_lt_of_le fV1212.lt (Nat.le_of_eq g1219.symm)
  have ne1222 : fa1101 ≠ b1219 := Nat.ne_of_lt lne1222
  have lne1223 : ta1101 < b1219 := Nat.lt_of_lt_of_le fV1213.lt (Nat.le_of_eq g1219.symm)
  have ne1223 : ta1101 ≠ b1219 := Nat.ne_of_lt lne1223
  have lne1224 : ka1101 < b1219 := Nat.lt_of_lt_of_le fV1214.lt (Nat.le_of_eq g1219.symm)
  have ne1224 : ka1101 ≠ b1219 := Nat.ne_of_lt lne1224
  have lne1225 : qa1101 < b1219 := Nat.lt_of_lt_of_le fV1215.lt (Nat.le_of_eq g1219.symm)
  have ne1225 : qa1101 ≠ b1219 := Nat.ne_of_lt lne1225
  have lne1226 : b1103 < b1219 := Nat.lt_of_lt_of_le fV1216.lt (Nat.le_of_eq g1219.symm)
  have ne1226 : b1103 ≠ b1219 := Nat.ne_of_lt lne1226
  have lne1227 : b1194 < b1219 := Nat.lt_of_lt_of_le fV1217.lt (Nat.le_of_eq g1219.symm)
  have ne1227 : b1194 ≠ b1219 := Nat.ne_of_lt lne1227
  have gn1219 : n0 ≤ b1219 := Nat.le_trans Zs1194 (Nat.le_of_eq g1219.symm)
  have Zs1219 : n0 ≤ h1219.size := Nat.le_trans Zs1194 E1219.1
  have fE1228 := fE1202.ext E1219
  have fF1229 := fF1203.ext E1219
  have fF1230 := fF1204.ext E1219
  have fF1231 := fF1205.ext E1219
  have fF1232 := fF1206.ext E1219
  have fF1233 := fF1207.ext E1219
  have fF1234 := fF1208.ext E1219
  have fF1235 := fF1209.ext E1219
  have fF1236 := fF1210.ext E1219
  have fV1237 := fV1211.ext E1219
  have fV1238 := fV1212.ext E1219
  have fV1239 := fV1213.ext E1219
  have fV1240 := fV1214.ext E1219
  have fV1241 := fV1215.ext E1219
  have fV1242 := fV1216.ext E1219
  have fV1243 := fV1217.ext E1219
  have fV1244 : OwnKit.Ar Z h1219 b1219 .int 2 (fun _ => defaultValue .int) := OwnKit.Ar.new A1219 (by decide) (by decide)
  have s1245 : ∀ t, Steps p.tables e below (T1219.setTop (mkF m 45 #[.val (.int xa), .val (.int xb), .val (.int xc), .val (.ref b1091), .val (.ref b1103), .val (.ref b1194), .unset, .unset, .unset, .unset, .unset, .unset, .unset] [(.int (3 : Int32)), (.int (0 : Int32)), (.ref b1219), (.ref b1219)])) t → Steps p.tables e below (T1219.setTop (mkF m 42 #[.val (.int xa), .val (.int xb), .val (.int xc), .val (.ref b1091), .val (.ref b1103), .val (.ref b1194), .unset, .unset, .unset, .unset, .unset, .unset, .unset] [(.ref b1219)])) t := by
    intro t kt
    refine XS.dup X1219.here hx rfl (hb hby at_42) rfl rfl ?_
    show Steps p.tables e below (T1219.setTop (mkF m 43 #[.val (.int xa), .val (.int xb), .val (.int xc), .val (.ref b1091), .val (.ref b1103), .val (.ref b1194), .unset, .unset, .unset, .unset, .unset, .unset, .unset] [(.ref b1219), (.ref b1219)])) t
    refine XS.iconst X1219.here hx rfl (hb hby at_43) ?_
    show Steps p.tables e below (T1219.setTop (mkF m 44 #[.val (.int xa), .val (.int xb), .val (.int xc), .val (.ref b1091), .val (.ref b1103), .val (.ref b1194), .unset, .unset, .unset, .unset, .unset, .unset, .unset] [(.int (0 : Int32)), (.ref b1219), (.ref b1219)])) t
    refine XS.iconst X1219.here hx rfl (hb hby at_44) ?_
    exact kt
  obtain ⟨T1246, h1246, X1246, e1246, W1246, V1246, st1246⟩ := OwnKit.stAI X1219 hx hZ e1219 fV1244 (j := (0 : Int32)) (by decide) (by decide) (g := (mkF m 45 #[.val (.int xa), .val (.int xb), .val (.int xc), .val (.ref b1091), .val (.ref b1103), .val (.ref b1194), .unset, .unset, .unset, .unset, .unset, .unset, .unset] [(.int (3 : Int32)), (.int (0 : Int32)), (.ref b1219), (.ref b1219)])) rfl rfl (hb hby at_45)
  have Zs1246 : n0 ≤ h1246.size := Nat.le_trans Zs1219 (Keep.of_wr W1246).1
  have fE1247 := fE1228.wr W1246
  have fF1248 := fF1229.other W1246 (Or.inl ne1220)
  have fF1249 := fF1230.other W1246 (Or.inl ne1220)
  have fF1250 := fF1231.other W1246 (Or.inl ne1220)
  have fF1251 := fF1232.other W1246 (Or.inl ne1220)
  have fF1252 := fF1233.other W1246 (Or.inl ne1220)
  have fF1253 := fF1234.other W1246 (Or.inl ne1220)
  have fF1254 := fF1235.other W1246 (Or.inl ne1220)
  have fF1255 := fF1236.other W1246 (Or.inl ne1220)
  have fV1256 := fV1237.other W1246 ne1221
  have fV1257 := fV1238.other W1246 ne1222
  have fV1258 := fV1239.other W1246 ne1223
  have fV1259 := fV1240.other W1246 ne1224
  have fV1260 := fV1241.other W1246 ne1225
  have fV1261 := fV1242.other W1246 ne1226
  have fV1262 := fV1243.other W1246 ne1227
  have fV1263 := V1246
  have N1246 := Fr.snoc X1246 N1177 gn1219
  have s1264 : ∀ t, Steps p.tables e below (T1246.setTop (mkF m 49 #[.val (.int xa), .val (.int xb), .val (.int xc), .val (.ref b1091), .val (.ref b1103), .val (.ref b1194), .unset, .unset, .unset, .unset, .unset, .unset, .unset] [(.int (3 : Int32)), (.int (1 : Int32)), (.ref b1219), (.ref b1219)])) t → Steps p.tables e below (T1246.setTop (mkF m 46 #[.val (.int xa), .val (.int xb), .val (.int xc), .val (.ref b1091), .val (.ref b1103), .val (.ref b1194), .unset, .unset, .unset, .unset, .unset, .unset, .unset] [(.ref b1219)])) t := by
    intro t kt
    refine XS.dup X1246.here hx rfl (hb hby at_46) rfl rfl ?_
    show Steps p.tables e below (T1246.setTop (mkF m 47 #[.val (.int xa), .val (.int xb), .val (.int xc), .val (.ref b1091), .val (.ref b1103), .val (.ref b1194), .unset, .unset, .unset, .unset, .unset, .unset, .unset] [(.ref b1219), (.ref b1219)])) t
    refine XS.iconst X1246.here hx rfl (hb hby at_47) ?_
    show Steps p.tables e below (T1246.setTop (mkF m 48 #[.val (.int xa), .val (.int xb), .val (.int xc), .val (.ref b1091), .val (.ref b1103), .val (.ref b1194), .unset, .unset, .unset, .unset, .unset, .unset, .unset] [(.int (1 : Int32)), (.ref b1219), (.ref b1219)])) t
    refine XS.iconst X1246.here hx rfl (hb hby at_48) ?_
    exact kt
  obtain ⟨T1265, h1265, X1265, e1265, W1265, V1265, st1265⟩ := OwnKit.stAI X1246 hx hZ e1246 fV1263 (j := (1 : Int32)) (by decide) (by decide) (g := (mkF m 49 #[.val (.int xa), .val (.int xb), .val (.int xc), .val (.ref b1091), .val (.ref b1103), .val (.ref b1194), .unset, .unset, .unset, .unset, .unset, .unset, .unset] [(.int (3 : Int32)), (.int (1 : Int32)), (.ref b1219), (.ref b1219)])) rfl rfl (hb hby at_49)
  have Zs1265 : n0 ≤ h1265.size := Nat.le_trans Zs1246 (Keep.of_wr W1265).1
  have fE1266 := fE1247.wr W1265
  have fF1267 := fF1248.other W1265 (Or.inl ne1220)
  have fF1268 := fF1249.other W1265 (Or.inl ne1220)
  have fF1269 := fF1250.other W1265 (Or.inl ne1220)
  have fF1270 := fF1251.other W1265 (Or.inl ne1220)
  have fF1271 := fF1252.other W1265 (Or.inl ne1220)
  have fF1272 := fF1253.other W1265 (Or.inl ne1220)
  have fF1273 := fF1254.other W1265 (Or.inl ne1220)
  have fF1274 := fF1255.other W1265 (Or.inl ne1220)
  have fV1275 := fV1256.other W1265 ne1221
  have fV1276 := fV1257.other W1265 ne1222
  have fV1277 := fV1258.other W1265 ne1223
  have fV1278 := fV1259.other W1265 ne1224
  have fV1279 := fV1260.other W1265 ne1225
  have fV1280 := fV1261.other W1265 ne1226
  have fV1281 := fV1262.other W1265 ne1227
  have fV1282 := V1265
  have N1265 := Fr.snoc X1265 N1246 gn1219
  have s1283 : ∀ t, Steps p.tables e below (T1265.setTop (mkF m 60 #[.val (.int xa), .val (.int xb), .val (.int xc), .val (.ref b1091), .val (.ref b1103), .val (.ref b1194), .val (.ref b1219), .unset, .unset, .unset, .unset, .unset, .unset] [(.ref b1219), (.ref b1194), (.ref b1103), (.int xa), (.ref b1091)])) t → Steps p.tables e below (T1265.setTop (mkF m 50 #[.val (.int xa), .val (.int xb), .val (.int xc), .val (.ref b1091), .val (.ref b1103), .val (.ref b1194), .unset, .unset, .unset, .unset, .unset, .unset, .unset] [(.ref b1219)])) t := by
    intro t kt
    refine XS.astore X1265.here hx rfl (hb hby at_50) rfl rfl (l' := #[.val (.int xa), .val (.int xb), .val (.int xc), .val (.ref b1091), .val (.ref b1103), .val (.ref b1194), .val (.ref b1219), .unset, .unset, .unset, .unset, .unset, .unset]) rfl ?_
    show Steps p.tables e below (T1265.setTop (mkF m 52 #[.val (.int xa), .val (.int xb), .val (.int xc), .val (.ref b1091), .val (.ref b1103), .val (.ref b1194), .val (.ref b1219), .unset, .unset, .unset, .unset, .unset, .unset] [])) t
    refine XS.aloadN X1265.here hx rfl (hb hby at_52) rfl rfl ?_
    show Steps p.tables e below (T1265.setTop (mkF m 53 #[.val (.int xa), .val (.int xb), .val (.int xc), .val (.ref b1091), .val (.ref b1103), .val (.ref b1194), .val (.ref b1219), .unset, .unset, .unset, .unset, .unset, .unset] [(.ref b1091)])) t
    refine XS.iloadN X1265.here hx rfl (hb hby at_53) rfl ?_
    show Steps p.tables e below (T1265.setTop (mkF m 54 #[.val (.int xa), .val (.int xb), .val (.int xc), .val (.ref b1091), .val (.ref b1103), .val (.ref b1194), .val (.ref b1219), .unset, .unset, .unset, .unset, .unset, .unset] [(.int xa), (.ref b1091)])) t
    refine XS.aload X1265.here hx rfl (hb hby at_54) rfl rfl ?_
    show Steps p.tables e below (T1265.setTop (mkF m 56 #[.val (.int xa), .val (.int xb), .val (.int xc), .val (.ref b1091), .val (.ref b1103), .val (.ref b1194), .val (.ref b1219), .unset, .unset, .unset, .unset, .unset, .unset] [(.ref b1103), (.int xa), (.ref b1091)])) t
    refine XS.aload X1265.here hx rfl (hb hby at_56) rfl rfl ?_
    show Steps p.tables e below (T1265.setTop (mkF m 58 #[.val (.int xa), .val (.int xb), .val (.int xc), .val (.ref b1091), .val (.ref b1103), .val (.ref b1194), .val (.ref b1219), .unset, .unset, .unset, .unset, .unset, .unset] [(.ref b1194), (.ref b1103), (.int xa), (.ref b1091)])) t
    refine XS.aload X1265.here hx rfl (hb hby at_58) rfl rfl ?_
    exact kt
  have Vb0 : Ar Z h1265 b1103 .int 4 (fun i => .int ((fun _ => (2147483647 : Int32)) (9 * i))) := fV1280.as (fun i hi => by rcases own_4 hi with rfl | rfl | rfl | rfl <;> rfl)
  have Vd0 : Ar Z h1265 b1194 .int 7 (fun i => .int ((fun _ => (0 : Int32)) i)) := fV1281.as (fun _ _ => rfl)
  have Ve0 : Ar Z h1265 b1219 .int 2 (fun i => if i = 0 then .int (Int32.ofNat 3) else .int (Int32.ofNat (3 + ([] : List Nat).length))) := fV1282.as (fun i hi => by rcases own_2 hi with rfl | rfl <;> rfl)
  have gh0 := fF1273
  rw [own_h0] at gh0
  have gq0 := fF1274
  rw [own_l0] at gq0
  have O0 := own_ord0 o1101_0 o1101_1 o1101_2 o1101_3 o1101_4 lne1225
  obtain ⟨_, _, ⟨T1284, L1284, k1284, n1284⟩, -, X1284, ⟨Lc1284, hQ1284, l1284, y1284, z1284⟩, st1284⟩ := Jvm.LawKit.callS X1265 hx (y := (⟨"com/example/witness/witness/logic/StepSearchTakePinLaw", "step", "(Lcom/example/witness/witness/logic/StepSearch;I[I[I[I)V"⟩ : MethodName)) hown (mvT hZ (hw _ (List.mem_of_getElem? (i := 27) rfl))) (mvT hZ (hw _ (List.mem_of_getElem? (i := 28) rfl))) (mvT hZ (hw _ (List.mem_of_getElem? (i := 29) rfl))) (mvT hZ (hw _ (List.mem_of_getElem? (i := 30) rfl))) (by decide) (backOf (W := 0) (rm10 l Z a0 hw [] b1091 ca1101 fa1101 ta1101 ka1101 qa1101 b1103 b1194 b1219 0 (fun _ => (2147483647 : Int32)) (fun _ => (0 : Int32)) (fun _ => (0 : Int32)) (fun _ => (0 : Int32)) (fun _ => (0 : Int32)) 3 [] 0 xa h1265 n0 Zs1265 fE1266 gn1091 fF1267 fF1268 fF1269 fF1270 fF1271 fF1272 gh0 gq0 fV1275 fV1276 fV1277 fV1278 fV1279 Vb0 Vd0 Ve0 O0 lne1109 lne1201 lne1227 own_inv0 (by decide)) hZ (hw _ (List.mem_of_getElem? (i := 30) rfl)) (hw _ (List.mem_of_getElem? (i := 29) rfl)) (by decide) (by decide)) (g := (mkF m 60 #[.val (.int xa), .val (.int xb), .val (.int xc), .val (.ref b1091), .val (.ref b1103), .val (.ref b1194), .val (.ref b1219), .unset, .unset, .unset, .unset, .unset, .unset] [(.ref b1219), (.ref b1194), (.ref b1103), (.int xa), (.ref b1091)])) rfl (by rw [hml]; rfl) (argsL := [(.ref b1091), (.int xa), (.ref b1103), (.ref b1194), (.ref b1219)]) (rest := []) (lenOf pd_oLcom_example_witness_witness_logic_StepSearchsIaIaIaIcV rfl) rfl (by show 2 * 0 + _ ≤ _; exact Nat.le_of_eq rfl) (hb hby at_60) (fun _ _ => ⟨rfl, e1265, (by decide : 9 + 4 ≤ _), (by decide : 37 + 216 ≤ _)⟩)
  dsimp only [Pt.U, Pt.locs, Pt.cells, Pt.slots] at X1284 l1284 y1284 z1284 st1284 hQ1284
  rw [l1284, y1284, z1284] at X1284
  obtain ⟨hv1284, N1284q, Kc1284, E1284_, c11284, f11284, t11284, k11284, n1_1284, fC1_1284, fQ1_1284, fD1_1284, lo1_1284, l1_1284, O1284, I1284, F1284_costs, F1284_froms, F1284_transitions, F1284_taken, F1284_queue, F1284_reached, F1284_head, F1284_queued, Vc1284, ⟨gF1284, Vf1284⟩, ⟨gG1284, Vt1284⟩, Vk1284, Vq1284, Vb1284, Vd1284, Ve1284⟩ := hQ1284
  rw [hv1284] at st1284
  have N1284 := Fr.app N1265 N1284q
  have Zs1284 : n0 ≤ T1284.heap.size := Nat.le_trans Zs1265 Kc1284.1
  have s1285 : ∀ t, Steps p.tables e below (T1284.setTop (mkF m 71 #[.val (.int xa), .val (.int xb), .val (.int xc), .val (.ref b1091), .val (.ref b1103), .val (.ref b1194), .val (.ref b1219), .unset, .unset, .unset, .unset, .unset, .unset] [(.ref b1219), (.ref b1194), (.ref b1103), (.int xb), (.ref b1091)])) t → Steps p.tables e below (T1284.setTop (mkF m 63 #[.val (.int xa), .val (.int xb), .val (.int xc), .val (.ref b1091), .val (.ref b1103), .val (.ref b1194), .val (.ref b1219), .unset, .unset, .unset, .unset, .unset, .unset] [])) t := by
    intro t kt
    refine XS.aloadN X1284.here hx rfl (hb hby at_63) rfl rfl ?_
    show Steps p.tables e below (T1284.setTop (mkF m 64 #[.val (.int xa), .val (.int xb), .val (.int xc), .val (.ref b1091), .val (.ref b1103), .val (.ref b1194), .val (.ref b1219), .unset, .unset, .unset, .unset, .unset, .unset] [(.ref b1091)])) t
    refine XS.iloadN X1284.here hx rfl (hb hby at_64) rfl ?_
    show Steps p.tables e below (T1284.setTop (mkF m 65 #[.val (.int xa), .val (.int xb), .val (.int xc), .val (.ref b1091), .val (.ref b1103), .val (.ref b1194), .val (.ref b1219), .unset, .unset, .unset, .unset, .unset, .unset] [(.int xb), (.ref b1091)])) t
    refine XS.aload X1284.here hx rfl (hb hby at_65) rfl rfl ?_
    show Steps p.tables e below (T1284.setTop (mkF m 67 #[.val (.int xa), .val (.int xb), .val (.int xc), .val (.ref b1091), .val (.ref b1103), .val (.ref b1194), .val (.ref b1219), .unset, .unset, .unset, .unset, .unset, .unset] [(.ref b1103), (.int xb), (.ref b1091)])) t
    refine XS.aload X1284.here hx rfl (hb hby at_67) rfl rfl ?_
    show Steps p.tables e below (T1284.setTop (mkF m 69 #[.val (.int xa), .val (.int xb), .val (.int xc), .val (.ref b1091), .val (.ref b1103), .val (.ref b1194), .val (.ref b1219), .unset, .unset, .unset, .unset, .unset, .unset] [(.ref b1194), (.ref b1103), (.int xb), (.ref b1091)])) t
    refine XS.aload X1284.here hx rfl (hb hby at_69) rfl rfl ?_
    exact kt
  obtain ⟨_, _, ⟨T1286, L1286, k1286, n1286⟩, -, X1286, ⟨Lc1286, hQ1286, l1286, y1286, z1286⟩, st1286⟩ := Jvm.LawKit.callS X1284 hx (y := (⟨"com/example/witness/witness/logic/StepSearchTakePinLaw", "step", "(Lcom/example/witness/witness/logic/StepSearch;I[I[I[I)V"⟩ : MethodName)) hown (mvT hZ (hw _ (List.mem_of_getElem? (i := 27) rfl))) (mvT hZ (hw _ (List.mem_of_getElem? (i := 28) rfl))) (mvT hZ (hw _ (List.mem_of_getElem? (i := 29) rfl))) (mvT hZ (hw _ (List.mem_of_getElem? (i := 30) rfl))) (by decide) (backOf (W := 0) (rm10 l Z a0 hw [] b1091 c11284 f11284 t11284 k11284 qa1101 b1103 b1194 b1219 n1_1284 fC1_1284 gF1284 gG1284 fQ1_1284 fD1_1284 lo1_1284 l1_1284 (0 + 1) xb T1284.heap n0 Zs1284 E1284_ gn1091 F1284_costs F1284_froms F1284_transitions F1284_taken F1284_queue F1284_reached F1284_head F1284_queued Vc1284 Vf1284 Vt1284 Vk1284 Vq1284 Vb1284 Vd1284 Ve1284 O1284 lne1109 lne1201 lne1227 I1284 (by decide)) hZ (hw _ (List.mem_of_getElem? (i := 30) rfl)) (hw _ (List.mem_of_getElem? (i := 29) rfl)) (by decide) (by decide)) (g := (mkF m 71 #[.val (.int xa), .val (.int xb), .val (.int xc), .val (.ref b1091), .val (.ref b1103), .val (.ref b1194), .val (.ref b1219), .unset, .unset, .unset, .unset, .unset, .unset] [(.ref b1219), (.ref b1194), (.ref b1103), (.int xb), (.ref b1091)])) rfl (by rw [hml]; rfl) (argsL := [(.ref b1091), (.int xb), (.ref b1103), (.ref b1194), (.ref b1219)]) (rest := []) (lenOf pd_oLcom_example_witness_witness_logic_StepSearchsIaIaIaIcV rfl) rfl (by show 2 * 0 + _ ≤ _; exact Nat.le_of_eq rfl) (hb hby at_71) (fun _ _ => ⟨rfl, rfl, (by decide : 13 + 4 ≤ _), (by decide : 253 + 216 ≤ _)⟩)
  dsimp only [Pt.U, Pt.locs, Pt.cells, Pt.slots] at X1286 l1286 y1286 z1286 st1286 hQ1286
  rw [l1286, y1286, z1286] at X1286
  obtain ⟨hv1286, N1286q, Kc1286, E1286_, c11286, f11286, t11286, k11286, n1_1286, fC1_1286, fQ1_1286, fD1_1286, lo1_1286, l1_1286, O1286, I1286, F1286_costs, F1286_froms, F1286_transitions, F1286_taken, F1286_queue, F1286_reached, F1286_head, F1286_queued, Vc1286, ⟨gF1286, Vf1286⟩, ⟨gG1286, Vt1286⟩, Vk1286, Vq1286, Vb1286, Vd1286, Ve1286⟩ := hQ1286
  rw [hv1286] at st1286
  have N1286 := Fr.app N1284 N1286q
  have Zs1286 : n0 ≤ T1286.heap.size := Nat.le_trans Zs1284 Kc1286.1
  have s1287 : ∀ t, Steps p.tables e below (T1286.setTop (mkF m 82 #[.val (.int xa), .val (.int xb), .val (.int xc), .val (.ref b1091), .val (.ref b1103), .val (.ref b1194), .val (.ref b1219), .unset, .unset, .unset, .unset, .unset, .unset] [(.ref b1219), (.ref b1194), (.ref b1103), (.int xc), (.ref b1091)])) t → Steps p.tables e below (T1286.setTop (mkF m 74 #[.val (.int xa), .val (.int xb), .val (.int xc), .val (.ref b1091), .val (.ref b1103), .val (.ref b1194), .val (.ref b1219), .unset, .unset, .unset, .unset, .unset, .unset] [])) t := by
    intro t kt
    refine XS.aloadN X1286.here hx rfl (hb hby at_74) rfl rfl ?_
    show Steps p.tables e below (T1286.setTop (mkF m 75 #[.val (.int xa), .val (.int xb), .val (.int xc), .val (.ref b1091), .val (.ref b1103), .val (.ref b1194), .val (.ref b1219), .unset, .unset, .unset, .unset, .unset, .unset] [(.ref b1091)])) t
    refine XS.iloadN X1286.here hx rfl (hb hby at_75) rfl ?_
    show Steps p.tables e below (T1286.setTop (mkF m 76 #[.val (.int xa), .val (.int xb), .val (.int xc), .val (.ref b1091), .val (.ref b1103), .val (.ref b1194), .val (.ref b1219), .unset, .unset, .unset, .unset, .unset, .unset] [(.int xc), (.ref b1091)])) t
    refine XS.aload X1286.here hx rfl (hb hby at_76) rfl rfl ?_
    show Steps p.tables e below (T1286.setTop (mkF m 78 #[.val (.int xa), .val (.int xb), .val (.int xc), .val (.ref b1091), .val (.ref b1103), .val (.ref b1194), .val (.ref b1219), .unset, .unset, .unset, .unset, .unset, .unset] [(.ref b1103), (.int xc), (.ref b1091)])) t
    refine XS.aload X1286.here hx rfl (hb hby at_78) rfl rfl ?_
    show Steps p.tables e below (T1286.setTop (mkF m 80 #[.val (.int xa), .val (.int xb), .val (.int xc), .val (.ref b1091), .val (.ref b1103), .val (.ref b1194), .val (.ref b1219), .unset, .unset, .unset, .unset, .unset, .unset] [(.ref b1194), (.ref b1103), (.int xc), (.ref b1091)])) t
    refine XS.aload X1286.here hx rfl (hb hby at_80) rfl rfl ?_
    exact kt
  obtain ⟨_, _, ⟨T1288, L1288, k1288, n1288⟩, -, X1288, ⟨Lc1288, hQ1288, l1288, y1288, z1288⟩, st1288⟩ := Jvm.LawKit.callS X1286 hx (y := (⟨"com/example/witness/witness/logic/StepSearchTakePinLaw", "step", "(Lcom/example/witness/witness/logic/StepSearch;I[I[I[I)V"⟩ : MethodName)) hown (mvT hZ (hw _ (List.mem_of_getElem? (i := 27) rfl))) (mvT hZ (hw _ (List.mem_of_getElem? (i := 28) rfl))) (mvT hZ (hw _ (List.mem_of_getElem? (i := 29) rfl))) (mvT hZ (hw _ (List.mem_of_getElem? (i := 30) rfl))) (by decide) (backOf (W := 0) (rm10 l Z a0 hw [] b1091 c11286 f11286 t11286 k11286 qa1101 b1103 b1194 b1219 n1_1286 fC1_1286 gF1286 gG1286 fQ1_1286 fD1_1286 lo1_1286 l1_1286 ((0 + 1) + 1) xc T1286.heap n0 Zs1286 E1286_ gn1091 F1286_costs F1286_froms F1286_transitions F1286_taken F1286_queue F1286_reached F1286_head F1286_queued Vc1286 Vf1286 Vt1286 Vk1286 Vq1286 Vb1286 Vd1286 Ve1286 O1286 lne1109 lne1201 lne1227 I1286 (by decide)) hZ (hw _ (List.mem_of_getElem? (i := 30) rfl)) (hw _ (List.mem_of_getElem? (i := 29) rfl)) (by decide) (by decide)) (g := (mkF m 82 #[.val (.int xa), .val (.int xb), .val (.int xc), .val (.ref b1091), .val (.ref b1103), .val (.ref b1194), .val (.ref b1219), .unset, .unset, .unset, .unset, .unset, .unset] [(.ref b1219), (.ref b1194), (.ref b1103), (.int xc), (.ref b1091)])) rfl (by rw [hml]; rfl) (argsL := [(.ref b1091), (.int xc), (.ref b1103), (.ref b1194), (.ref b1219)]) (rest := []) (lenOf pd_oLcom_example_witness_witness_logic_StepSearchsIaIaIaIcV rfl) rfl (by show 2 * 0 + _ ≤ _; exact Nat.le_of_eq rfl) (hb hby at_82) (fun _ _ => ⟨rfl, rfl, (by decide : 17 + 4 ≤ _), (by decide : 469 + 216 ≤ _)⟩)
  dsimp only [Pt.U, Pt.locs, Pt.cells, Pt.slots] at X1288 l1288 y1288 z1288 st1288 hQ1288
  rw [l1288, y1288, z1288] at X1288
  obtain ⟨hv1288, N1288q, Kc1288, E1288_, c11288, f11288, t11288, k11288, n1_1288, fC1_1288, fQ1_1288, fD1_1288, lo1_1288, l1_1288, O1288, I1288, F1288_costs, F1288_froms, F1288_transitions, F1288_taken, F1288_queue, F1288_reached, F1288_head, F1288_queued, Vc1288, ⟨gF1288, Vf1288⟩, ⟨gG1288, Vt1288⟩, Vk1288, Vq1288, Vb1288, Vd1288, Ve1288⟩ := hQ1288
  rw [hv1288] at st1288
  have N1288 := Fr.app N1286 N1288q
  have Zs1288 : n0 ≤ T1288.heap.size := Nat.le_trans Zs1286 Kc1288.1
  obtain ⟨jC, j54, jD, jQ, jM, jL, jA, jB, jE⟩ := id I1288
  obtain ⟨x0, x1, x2, x3, x4, x5, x6, x7, x8, x9, x10, x11, x12, x13, x14⟩ := own_apart O1288
  have nks := Ne.symm x3
  have nqs := Ne.symm x4
  have nqk := Ne.symm x14
  have gka := (own_ge O1288 gn1091).2.2.2.1
  have s1289 : ∀ t, Steps p.tables e below (T1288.setTop (mkF m 86 #[.val (.int xa), .val (.int xb), .val (.int xc), .val (.ref b1091), .val (.ref b1103), .val (.ref b1194), .val (.ref b1219), .unset, .unset, .unset, .unset, .unset, .unset] [(.int (4 : Int32))])) t → Steps p.tables e below (T1288.setTop (mkF m 85 #[.val (.int xa), .val (.int xb), .val (.int xc), .val (.ref b1091), .val (.ref b1103), .val (.ref b1194), .val (.ref b1219), .unset, .unset, .unset, .unset, .unset, .unset] [])) t := by
    intro t kt
    refine XS.iconst X1288.here hx rfl (hb hby at_85) ?_
    exact kt
  obtain ⟨T1290, h1290, k1290, X1290, e1290, E1290, A1290, st1290⟩ := newP X1288 hx hZ (hw _ (List.mem_of_getElem? (i := 12) rfl)) rfl (g := (mkF m 86 #[.val (.int xa), .val (.int xb), .val (.int xc), .val (.ref b1091), .val (.ref b1103), .val (.ref b1194), .val (.ref b1219), .unset, .unset, .unset, .unset, .unset, .unset] [(.int (4 : Int32))])) rfl (hb hby at_86) rfl (by decide) (cap := 4) (by decide) (by decide) (by decide) (by decide)
  obtain ⟨b1290, g1290⟩ : ∃ z, z = T1288.heap.size := ⟨_, rfl⟩
  rw [← g1290] at A1290 st1290
  have lne1291 : b1091 < b1290 := Nat.lt_of_lt_of_le E1288_.lt (Nat.le_of_eq g1290.symm)
  have ne1291 : b1091 ≠ b1290 := Nat.ne_of_lt lne1291
  have lne1292 : k11288 < b1290 := Nat.lt_of_lt_of_le Vk1288.lt (Nat.le_of_eq g1290.symm)
  have ne1292 : k11288 ≠ b1290 := Nat.ne_of_lt lne1292
  have lne1293 : qa1101 < b1290 := Nat.lt_of_lt_of_le Vq1288.lt (Nat.le_of_eq g1290.symm)
  have ne1293 : qa1101 ≠ b1290 := Nat.ne_of_lt lne1293
  have lne1294 : b1194 < b1290 := Nat.lt_of_lt_of_le Vd1288.lt (Nat.le_of_eq g1290.symm)
  have ne1294 : b1194 ≠ b1290 := Nat.ne_of_lt lne1294
  have lne1295 : b1219 < b1290 := Nat.lt_of_lt_of_le Ve1288.lt (Nat.le_of_eq g1290.symm)
  have ne1295 : b1219 ≠ b1290 := Nat.ne_of_lt lne1295
  have gn1290 : n0 ≤ b1290 := Nat.le_trans Zs1288 (Nat.le_of_eq g1290.symm)
  have Zs1290 : n0 ≤ h1290.size := Nat.le_trans Zs1288 E1290.1
  have fE1296 := E1288_.ext E1290
  have fF1297 := F1288_taken.ext E1290
  have fF1298 := F1288_queue.ext E1290
  have fF1299 := F1288_head.ext E1290
  have fF1300 := F1288_queued.ext E1290
  have fV1301 := Vk1288.ext E1290
  have fV1302 := Vq1288.ext E1290
  have fV1303 := Vd1288.ext E1290
  have fV1304 := Ve1288.ext E1290
  have fV1305 : OwnKit.Ar Z h1290 b1290 .int 4 (fun _ => defaultValue .int) := OwnKit.Ar.new A1290 (by decide) (by decide)
  have s1306 : ∀ t, Steps p.tables e below (T1290.setTop (mkF m 91 #[.val (.int xa), .val (.int xb), .val (.int xc), .val (.ref b1091), .val (.ref b1103), .val (.ref b1194), .val (.ref b1219), .unset, .unset, .unset, .unset, .unset, .unset] [(.int (-1 : Int32)), (.int (0 : Int32)), (.ref b1290), (.ref b1290)])) t → Steps p.tables e below (T1290.setTop (mkF m 88 #[.val (.int xa), .val (.int xb), .val (.int xc), .val (.ref b1091), .val (.ref b1103), .val (.ref b1194), .val (.ref b1219), .unset, .unset, .unset, .unset, .unset, .unset] [(.ref b1290)])) t := by
    intro t kt
    refine XS.dup X1290.here hx rfl (hb hby at_88) rfl rfl ?_
    show Steps p.tables e below (T1290.setTop (mkF m 89 #[.val (.int xa), .val (.int xb), .val (.int xc), .val (.ref b1091), .val (.ref b1103), .val (.ref b1194), .val (.ref b1219), .unset, .unset, .unset, .unset, .unset, .unset] [(.ref b1290), (.ref b1290)])) t
    refine XS.iconst X1290.here hx rfl (hb hby at_89) ?_
    show Steps p.tables e below (T1290.setTop (mkF m 90 #[.val (.int xa), .val (.int xb), .val (.int xc), .val (.ref b1091), .val (.ref b1103), .val (.ref b1194), .val (.ref b1219), .unset, .unset, .unset, .unset, .unset, .unset] [(.int (0 : Int32)), (.ref b1290), (.ref b1290)])) t
    refine XS.iconst X1290.here hx rfl (hb hby at_90) ?_
    exact kt
  obtain ⟨T1307, h1307, X1307, e1307, W1307, V1307, st1307⟩ := OwnKit.stAI X1290 hx hZ e1290 fV1305 (j := (0 : Int32)) (by decide) (by decide) (g := (mkF m 91 #[.val (.int xa), .val (.int xb), .val (.int xc), .val (.ref b1091), .val (.ref b1103), .val (.ref b1194), .val (.ref b1219), .unset, .unset, .unset, .unset, .unset, .unset] [(.int (-1 : Int32)), (.int (0 : Int32)), (.ref b1290), (.ref b1290)])) rfl rfl (hb hby at_91)
  have Zs1307 : n0 ≤ h1307.size := Nat.le_trans Zs1290 (Keep.of_wr W1307).1
  have fE1308 := fE1296.wr W1307
  have fF1309 := fF1297.other W1307 (Or.inl ne1291)
  have fF1310 := fF1298.other W1307 (Or.inl ne1291)
  have fF1311 := fF1299.other W1307 (Or.inl ne1291)
  have fF1312 := fF1300.other W1307 (Or.inl ne1291)
  have fV1313 := fV1301.other W1307 ne1292
  have fV1314 := fV1302.other W1307 ne1293
  have fV1315 := fV1303.other W1307 ne1294
  have fV1316 := fV1304.other W1307 ne1295
  have fV1317 := V1307
  have N1307 := Fr.snoc X1307 N1288 gn1290
  have s1318 : ∀ t, Steps p.tables e below (T1307.setTop (mkF m 95 #[.val (.int xa), .val (.int xb), .val (.int xc), .val (.ref b1091), .val (.ref b1103), .val (.ref b1194), .val (.ref b1219), .unset, .unset, .unset, .unset, .unset, .unset] [(.int (-1 : Int32)), (.int (1 : Int32)), (.ref b1290), (.ref b1290)])) t → Steps p.tables e below (T1307.setTop (mkF m 92 #[.val (.int xa), .val (.int xb), .val (.int xc), .val (.ref b1091), .val (.ref b1103), .val (.ref b1194), .val (.ref b1219), .unset, .unset, .unset, .unset, .unset, .unset] [(.ref b1290)])) t := by
    intro t kt
    refine XS.dup X1307.here hx rfl (hb hby at_92) rfl rfl ?_
    show Steps p.tables e below (T1307.setTop (mkF m 93 #[.val (.int xa), .val (.int xb), .val (.int xc), .val (.ref b1091), .val (.ref b1103), .val (.ref b1194), .val (.ref b1219), .unset, .unset, .unset, .unset, .unset, .unset] [(.ref b1290), (.ref b1290)])) t
    refine XS.iconst X1307.here hx rfl (hb hby at_93) ?_
    show Steps p.tables e below (T1307.setTop (mkF m 94 #[.val (.int xa), .val (.int xb), .val (.int xc), .val (.ref b1091), .val (.ref b1103), .val (.ref b1194), .val (.ref b1219), .unset, .unset, .unset, .unset, .unset, .unset] [(.int (1 : Int32)), (.ref b1290), (.ref b1290)])) t
    refine XS.iconst X1307.here hx rfl (hb hby at_94) ?_
    exact kt
  obtain ⟨T1319, h1319, X1319, e1319, W1319, V1319, st1319⟩ := OwnKit.stAI X1307 hx hZ e1307 fV1317 (j := (1 : Int32)) (by decide) (by decide) (g := (mkF m 95 #[.val (.int xa), .val (.int xb), .val (.int xc), .val (.ref b1091), .val (.ref b1103), .val (.ref b1194), .val (.ref b1219), .unset, .unset, .unset, .unset, .unset, .unset] [(.int (-1 : Int32)), (.int (1 : Int32)), (.ref b1290), (.ref b1290)])) rfl rfl (hb hby at_95)
  have Zs1319 : n0 ≤ h1319.size := Nat.le_trans Zs1307 (Keep.of_wr W1319).1
  have fE1320 := fE1308.wr W1319
  have fF1321 := fF1309.other W1319 (Or.inl ne1291)
  have fF1322 := fF1310.other W1319 (Or.inl ne1291)
  have fF1323 := fF1311.other W1319 (Or.inl ne1291)
  have fF1324 := fF1312.other W1319 (Or.inl ne1291)
  have fV1325 := fV1313.other W1319 ne1292
  have fV1326 := fV1314.other W1319 ne1293
  have fV1327 := fV1315.other W1319 ne1294
  have fV1328 := fV1316.other W1319 ne1295
  have fV1329 := V1319
  have N1319 := Fr.snoc X1319 N1307 gn1290
  have s1330 : ∀ t, Steps p.tables e below (T1319.setTop (mkF m 99 #[.val (.int xa), .val (.int xb), .val (.int xc), .val (.ref b1091), .val (.ref b1103), .val (.ref b1194), .val (.ref b1219), .unset, .unset, .unset, .unset, .unset, .unset] [(.int (-1 : Int32)), (.int (2 : Int32)), (.ref b1290), (.ref b1290)])) t → Steps p.tables e below (T1319.setTop (mkF m 96 #[.val (.int xa), .val (.int xb), .val (.int xc), .val (.ref b1091), .val (.ref b1103), .val (.ref b1194), .val (.ref b1219), .unset, .unset, .unset, .unset, .unset, .unset] [(.ref b1290)])) t := by
    intro t kt
    refine XS.dup X1319.here hx rfl (hb hby at_96) rfl rfl ?_
    show Steps p.tables e below (T1319.setTop (mkF m 97 #[.val (.int xa), .val (.int xb), .val (.int xc), .val (.ref b1091), .val (.ref b1103), .val (.ref b1194), .val (.ref b1219), .unset, .unset, .unset, .unset, .unset, .unset] [(.ref b1290), (.ref b1290)])) t
    refine XS.iconst X1319.here hx rfl (hb hby at_97) ?_
    show Steps p.tables e below (T1319.setTop (mkF m 98 #[.val (.int xa), .val (.int xb), .val (.int xc), .val (.ref b1091), .val (.ref b1103), .val (.ref b1194), .val (.ref b1219), .unset, .unset, .unset, .unset, .unset, .unset] [(.int (2 : Int32)), (.ref b1290), (.ref b1290)])) t
    refine XS.iconst X1319.here hx rfl (hb hby at_98) ?_
    exact kt
  obtain ⟨T1331, h1331, X1331, e1331, W1331, V1331, st1331⟩ := OwnKit.stAI X1319 hx hZ e1319 fV1329 (j := (2 : Int32)) (by decide) (by decide) (g := (mkF m 99 #[.val (.int xa), .val (.int xb), .val (.int xc), .val (.ref b1091), .val (.ref b1103), .val (.ref b1194), .val (.ref b1219), .unset, .unset, .unset, .unset, .unset, .unset] [(.int (-1 : Int32)), (.int (2 : Int32)), (.ref b1290), (.ref b1290)])) rfl rfl (hb hby at_99)
  have Zs1331 : n0 ≤ h1331.size := Nat.le_trans Zs1319 (Keep.of_wr W1331).1
  have fE1332 := fE1320.wr W1331
  have fF1333 := fF1321.other W1331 (Or.inl ne1291)
  have fF1334 := fF1322.other W1331 (Or.inl ne1291)
  have fF1335 := fF1323.other W1331 (Or.inl ne1291)
  have fF1336 := fF1324.other W1331 (Or.inl ne1291)
  have fV1337 := fV1325.other W1331 ne1292
  have fV1338 := fV1326.other W1331 ne1293
  have fV1339 := fV1327.other W1331 ne1294
  have fV1340 := fV1328.other W1331 ne1295
  have fV1341 := V1331
  have N1331 := Fr.snoc X1331 N1319 gn1290
  have s1342 : ∀ t, Steps p.tables e below (T1331.setTop (mkF m 103 #[.val (.int xa), .val (.int xb), .val (.int xc), .val (.ref b1091), .val (.ref b1103), .val (.ref b1194), .val (.ref b1219), .unset, .unset, .unset, .unset, .unset, .unset] [(.int (-1 : Int32)), (.int (3 : Int32)), (.ref b1290), (.ref b1290)])) t → Steps p.tables e below (T1331.setTop (mkF m 100 #[.val (.int xa), .val (.int xb), .val (.int xc), .val (.ref b1091), .val (.ref b1103), .val (.ref b1194), .val (.ref b1219), .unset, .unset, .unset, .unset, .unset, .unset] [(.ref b1290)])) t := by
    intro t kt
    refine XS.dup X1331.here hx rfl (hb hby at_100) rfl rfl ?_
    show Steps p.tables e below (T1331.setTop (mkF m 101 #[.val (.int xa), .val (.int xb), .val (.int xc), .val (.ref b1091), .val (.ref b1103), .val (.ref b1194), .val (.ref b1219), .unset, .unset, .unset, .unset, .unset, .unset] [(.ref b1290), (.ref b1290)])) t
    refine XS.iconst X1331.here hx rfl (hb hby at_101) ?_
    show Steps p.tables e below (T1331.setTop (mkF m 102 #[.val (.int xa), .val (.int xb), .val (.int xc), .val (.ref b1091), .val (.ref b1103), .val (.ref b1194), .val (.ref b1219), .unset, .unset, .unset, .unset, .unset, .unset] [(.int (3 : Int32)), (.ref b1290), (.ref b1290)])) t
    refine XS.iconst X1331.here hx rfl (hb hby at_102) ?_
    exact kt
  obtain ⟨T1343, h1343, X1343, e1343, W1343, V1343, st1343⟩ := OwnKit.stAI X1331 hx hZ e1331 fV1341 (j := (3 : Int32)) (by decide) (by decide) (g := (mkF m 103 #[.val (.int xa), .val (.int xb), .val (.int xc), .val (.ref b1091), .val (.ref b1103), .val (.ref b1194), .val (.ref b1219), .unset, .unset, .unset, .unset, .unset, .unset] [(.int (-1 : Int32)), (.int (3 : Int32)), (.ref b1290), (.ref b1290)])) rfl rfl (hb hby at_103)
  have Zs1343 : n0 ≤ h1343.size := Nat.le_trans Zs1331 (Keep.of_wr W1343).1
  have fE1344 := fE1332.wr W1343
  have fF1345 := fF1333.other W1343 (Or.inl ne1291)
  have fF1346 := fF1334.other W1343 (Or.inl ne1291)
  have fF1347 := fF1335.other W1343 (Or.inl ne1291)
  have fF1348 := fF1336.other W1343 (Or.inl ne1291)
  have fV1349 := fV1337.other W1343 ne1292
  have fV1350 := fV1338.other W1343 ne1293
  have fV1351 := fV1339.other W1343 ne1294
  have fV1352 := fV1340.other W1343 ne1295
  have fV1353 := V1343
  have N1343 := Fr.snoc X1343 N1331 gn1290
  have s1354 : ∀ t, Steps p.tables e below (T1343.setTop (mkF m 106 #[.val (.int xa), .val (.int xb), .val (.int xc), .val (.ref b1091), .val (.ref b1103), .val (.ref b1194), .val (.ref b1219), .val (.ref b1290), .unset, .unset, .unset, .unset, .unset] [])) t → Steps p.tables e below (T1343.setTop (mkF m 104 #[.val (.int xa), .val (.int xb), .val (.int xc), .val (.ref b1091), .val (.ref b1103), .val (.ref b1194), .val (.ref b1219), .unset, .unset, .unset, .unset, .unset, .unset] [(.ref b1290)])) t := by
    intro t kt
    refine XS.astore X1343.here hx rfl (hb hby at_104) rfl rfl (l' := #[.val (.int xa), .val (.int xb), .val (.int xc), .val (.ref b1091), .val (.ref b1103), .val (.ref b1194), .val (.ref b1219), .val (.ref b1290), .unset, .unset, .unset, .unset, .unset]) rfl ?_
    exact kt
  have Vz0 : Ar Z h1343 b1290 .int 4 (fun i => .int (([] : List Int32).getD i (-1))) := fV1353.as (fun i hi => by rcases own_4 hi with rfl | rfl | rfl | rfl <;> rfl)
  have s1355 : ∀ t, Steps p.tables e below (T1343.setTop (mkF m 118 #[.val (.int xa), .val (.int xb), .val (.int xc), .val (.ref b1091), .val (.ref b1103), .val (.ref b1194), .val (.ref b1219), .val (.ref b1290), .val (.int (0 : Int32)), .unset, .unset, .unset, .unset] [(.int (0 : Int32)), (.ref b1219), (.ref b1194), (.int (0 : Int32)), (.ref b1290)])) t → Steps p.tables e below (T1343.setTop (mkF m 106 #[.val (.int xa), .val (.int xb), .val (.int xc), .val (.ref b1091), .val (.ref b1103), .val (.ref b1194), .val (.ref b1219), .val (.ref b1290), .unset, .unset, .unset, .unset, .unset] [])) t := by
    intro t kt
    refine XS.iconst X1343.here hx rfl (hb hby at_106) ?_
    show Steps p.tables e below (T1343.setTop (mkF m 107 #[.val (.int xa), .val (.int xb), .val (.int xc), .val (.ref b1091), .val (.ref b1103), .val (.ref b1194), .val (.ref b1219), .val (.ref b1290), .unset, .unset, .unset, .unset, .unset] [(.int (0 : Int32))])) t
    refine XS.istore X1343.here hx rfl (hb hby at_107) rfl (l' := #[.val (.int xa), .val (.int xb), .val (.int xc), .val (.ref b1091), .val (.ref b1103), .val (.ref b1194), .val (.ref b1219), .val (.ref b1290), .val (.int (0 : Int32)), .unset, .unset, .unset, .unset]) rfl ?_
    show Steps p.tables e below (T1343.setTop (mkF m 109 #[.val (.int xa), .val (.int xb), .val (.int xc), .val (.ref b1091), .val (.ref b1103), .val (.ref b1194), .val (.ref b1219), .val (.ref b1290), .val (.int (0 : Int32)), .unset, .unset, .unset, .unset] [])) t
    refine XS.aload X1343.here hx rfl (hb hby at_109) rfl rfl ?_
    show Steps p.tables e below (T1343.setTop (mkF m 111 #[.val (.int xa), .val (.int xb), .val (.int xc), .val (.ref b1091), .val (.ref b1103), .val (.ref b1194), .val (.ref b1219), .val (.ref b1290), .val (.int (0 : Int32)), .unset, .unset, .unset, .unset] [(.ref b1290)])) t
    refine XS.iload X1343.here hx rfl (hb hby at_111) rfl ?_
    show Steps p.tables e below (T1343.setTop (mkF m 113 #[.val (.int xa), .val (.int xb), .val (.int xc), .val (.ref b1091), .val (.ref b1103), .val (.ref b1194), .val (.ref b1219), .val (.ref b1290), .val (.int (0 : Int32)), .unset, .unset, .unset, .unset] [(.int (0 : Int32)), (.ref b1290)])) t
    refine XS.aload X1343.here hx rfl (hb hby at_113) rfl rfl ?_
    show Steps p.tables e below (T1343.setTop (mkF m 115 #[.val (.int xa), .val (.int xb), .val (.int xc), .val (.ref b1091), .val (.ref b1103), .val (.ref b1194), .val (.ref b1219), .val (.ref b1290), .val (.int (0 : Int32)), .unset, .unset, .unset, .unset] [(.ref b1194), (.int (0 : Int32)), (.ref b1290)])) t
    refine XS.aload X1343.here hx rfl (hb hby at_115) rfl rfl ?_
    show Steps p.tables e below (T1343.setTop (mkF m 117 #[.val (.int xa), .val (.int xb), .val (.int xc), .val (.ref b1091), .val (.ref b1103), .val (.ref b1194), .val (.ref b1219), .val (.ref b1290), .val (.int (0 : Int32)), .unset, .unset, .unset, .unset] [(.ref b1219), (.ref b1194), (.int (0 : Int32)), (.ref b1290)])) t
    refine XS.iconst X1343.here hx rfl (hb hby at_117) ?_
    exact kt
  obtain ⟨_, _, ⟨T1356, L1356, k1356, n1356⟩, -, X1356, ⟨Lc1356, hQ1356, l1356, y1356, z1356⟩, st1356⟩ := Jvm.LawKit.callS X1343 hx (y := (⟨"com/example/witness/witness/logic/StepSearchTakePinLaw", "at", "([I[II)I"⟩ : MethodName)) hown (mvT hZ (hw _ (List.mem_of_getElem? (i := 69) rfl))) (mvT hZ (hw _ (List.mem_of_getElem? (i := 70) rfl))) (mvT hZ (hw _ (List.mem_of_getElem? (i := 29) rfl))) (mvT hZ (hw _ (List.mem_of_getElem? (i := 71) rfl))) (by decide) (backOf (W := 2) (rm11 l Z a0 hw [] b1194 b1219 fD1_1288 lo1_1288 l1_1288 0 (0 : Int32) h1343 n0 Zs1343 fV1351 fV1352 jB jL (by decide) (by decide) jD) hZ (hw _ (List.mem_of_getElem? (i := 71) rfl)) (hw _ (List.mem_of_getElem? (i := 29) rfl)) (by decide) (by decide)) (g := (mkF m 118 #[.val (.int xa), .val (.int xb), .val (.int xc), .val (.ref b1091), .val (.ref b1103), .val (.ref b1194), .val (.ref b1219), .val (.ref b1290), .val (.int (0 : Int32)), .unset, .unset, .unset, .unset] [(.int (0 : Int32)), (.ref b1219), (.ref b1194), (.int (0 : Int32)), (.ref b1290)])) rfl (by rw [hml]; rfl) (argsL := [(.ref b1194), (.ref b1219), (.int (0 : Int32))]) (rest := [(.int (0 : Int32)), (.ref b1290)]) (lenOf pd_oaIaIIcI rfl) rfl (by show 2 * 0 + _ ≤ _; exact Nat.le_of_eq rfl) (hb hby at_118) (fun _ _ => ⟨rfl, e1343, (by decide : 22 + 0 ≤ _), (by decide : 689 + 0 ≤ _)⟩)
  dsimp only [Pt.U, Pt.locs, Pt.cells, Pt.slots] at X1356 l1356 y1356 z1356 st1356 hQ1356
  rw [l1356, y1356, z1356] at X1356
  obtain ⟨hv1356, N1356q, e1356q⟩ := hQ1356
  rw [hv1356] at st1356
  have N1356 := Fr.app N1343 N1356q
  obtain ⟨_, _, ⟨T1357, L1357, k1357, n1357⟩, -, X1357, ⟨Lc1357, hQ1357, l1357, y1357, z1357⟩, st1357⟩ := Jvm.LawKit.callS X1356 hx (y := (⟨"com/example/witness/witness/logic/StepSearchTakePinLaw", "note", "([III)I"⟩ : MethodName)) hown (mvT hZ (hw _ (List.mem_of_getElem? (i := 72) rfl))) (mvT hZ (hw _ (List.mem_of_getElem? (i := 73) rfl))) (mvT hZ (hw _ (List.mem_of_getElem? (i := 29) rfl))) (mvT hZ (hw _ (List.mem_of_getElem? (i := 74) rfl))) (by decide) (backOf (W := 0) (rm12 l Z a0 hw [] b1290 [] (own_av l1_1288 0) h1343 n0 Zs1343 Vz0 gn1290 (by decide)) hZ (hw _ (List.mem_of_getElem? (i := 74) rfl)) (hw _ (List.mem_of_getElem? (i := 29) rfl)) (by decide) (by decide)) (g := (mkF m 121 #[.val (.int xa), .val (.int xb), .val (.int xc), .val (.ref b1091), .val (.ref b1103), .val (.ref b1194), .val (.ref b1219), .val (.ref b1290), .val (.int (0 : Int32)), .unset, .unset, .unset, .unset] [(.int (own_av l1_1288 0)), (.int (0 : Int32)), (.ref b1290)])) rfl (by rw [hml]; rfl) (argsL := [(.ref b1290), (.int (0 : Int32)), (.int (own_av l1_1288 0))]) (rest := []) (lenOf pd_oaIIIcI rfl) rfl (by show 2 * 0 + _ ≤ _; exact Nat.le_of_eq rfl) (hb hby at_121) (fun _ _ => ⟨rfl, e1356q, (by decide : 22 + 0 ≤ _), (by decide : 689 + 0 ≤ _)⟩)
  dsimp only [Pt.U, Pt.locs, Pt.cells, Pt.slots] at X1357 l1357 y1357 z1357 st1357 hQ1357
  rw [l1357, y1357, z1357] at X1357
  obtain ⟨hv1357, N1357q, Kc1357, fV1358⟩ := hQ1357
  rw [hv1357] at st1357
  have N1357 := Fr.app N1356 N1357q
  have Zs1357 : n0 ≤ T1357.heap.size := Nat.le_trans Zs1343 Kc1357.1
  have fE1359 := fE1344.keep Kc1357
  have fF1360 := fF1345.keep Kc1357 (ninS ne1291 nin0)
  have fF1361 := fF1346.keep Kc1357 (ninS ne1291 nin0)
  have fF1362 := fF1347.keep Kc1357 (ninS ne1291 nin0)
  have fF1363 := fF1348.keep Kc1357 (ninS ne1291 nin0)
  have fV1364 := fV1349.keep Kc1357 (ninS ne1292 nin0)
  have fV1365 := fV1350.keep Kc1357 (ninS ne1293 nin0)
  have fV1366 := fV1351.keep Kc1357 (ninS ne1294 nin0)
  have fV1367 := fV1352.keep Kc1357 (ninS ne1295 nin0)
  have s1368 : ∀ t, Steps p.tables e below (T1357.setTop (mkF m 135 #[.val (.int xa), .val (.int xb), .val (.int xc), .val (.ref b1091), .val (.ref b1103), .val (.ref b1194), .val (.ref b1219), .val (.ref b1290), .val (.int (Int32.ofNat (own_note [] (own_av l1_1288 0)).length)), .unset, .unset, .unset, .unset] [(.int (1 : Int32)), (.ref b1219), (.ref b1194), (.int (Int32.ofNat (own_note [] (own_av l1_1288 0)).length)), (.ref b1290)])) t → Steps p.tables e below (T1357.setTop (mkF m 124 #[.val (.int xa), .val (.int xb), .val (.int xc), .val (.ref b1091), .val (.ref b1103), .val (.ref b1194), .val (.ref b1219), .val (.ref b1290), .val (.int (0 : Int32)), .unset, .unset, .unset, .unset] [(.int (Int32.ofNat (own_note [] (own_av l1_1288 0)).length))])) t := by
    intro t kt
    refine XS.istore X1357.here hx rfl (hb hby at_124) rfl (l' := #[.val (.int xa), .val (.int xb), .val (.int xc), .val (.ref b1091), .val (.ref b1103), .val (.ref b1194), .val (.ref b1219), .val (.ref b1290), .val (.int (Int32.ofNat (own_note [] (own_av l1_1288 0)).length)), .unset, .unset, .unset, .unset]) rfl ?_
    show Steps p.tables e below (T1357.setTop (mkF m 126 #[.val (.int xa), .val (.int xb), .val (.int xc), .val (.ref b1091), .val (.ref b1103), .val (.ref b1194), .val (.ref b1219), .val (.ref b1290), .val (.int (Int32.ofNat (own_note [] (own_av l1_1288 0)).length)), .unset, .unset, .unset, .unset] [])) t
    refine XS.aload X1357.here hx rfl (hb hby at_126) rfl rfl ?_
    show Steps p.tables e below (T1357.setTop (mkF m 128 #[.val (.int xa), .val (.int xb), .val (.int xc), .val (.ref b1091), .val (.ref b1103), .val (.ref b1194), .val (.ref b1219), .val (.ref b1290), .val (.int (Int32.ofNat (own_note [] (own_av l1_1288 0)).length)), .unset, .unset, .unset, .unset] [(.ref b1290)])) t
    refine XS.iload X1357.here hx rfl (hb hby at_128) rfl ?_
    show Steps p.tables e below (T1357.setTop (mkF m 130 #[.val (.int xa), .val (.int xb), .val (.int xc), .val (.ref b1091), .val (.ref b1103), .val (.ref b1194), .val (.ref b1219), .val (.ref b1290), .val (.int (Int32.ofNat (own_note [] (own_av l1_1288 0)).length)), .unset, .unset, .unset, .unset] [(.int (Int32.ofNat (own_note [] (own_av l1_1288 0)).length)), (.ref b1290)])) t
    refine XS.aload X1357.here hx rfl (hb hby at_130) rfl rfl ?_
    show Steps p.tables e below (T1357.setTop (mkF m 132 #[.val (.int xa), .val (.int xb), .val (.int xc), .val (.ref b1091), .val (.ref b1103), .val (.ref b1194), .val (.ref b1219), .val (.ref b1290), .val (.int (Int32.ofNat (own_note [] (own_av l1_1288 0)).length)), .unset, .unset, .unset, .unset] [(.ref b1194), (.int (Int32.ofNat (own_note [] (own_av l1_1288 0)).length)), (.ref b1290)])) t
    refine XS.aload X1357.here hx rfl (hb hby at_132) rfl rfl ?_
    show Steps p.tables e below (T1357.setTop (mkF m 134 #[.val (.int xa), .val (.int xb), .val (.int xc), .val (.ref b1091), .val (.ref b1103), .val (.ref b1194), .val (.ref b1219), .val (.ref b1290), .val (.int (Int32.ofNat (own_note [] (own_av l1_1288 0)).length)), .unset, .unset, .unset, .unset] [(.ref b1219), (.ref b1194), (.int (Int32.ofNat (own_note [] (own_av l1_1288 0)).length)), (.ref b1290)])) t
    refine XS.iconst X1357.here hx rfl (hb hby at_134) ?_
    exact kt
  obtain ⟨_, _, ⟨T1369, L1369, k1369, n1369⟩, -, X1369, ⟨Lc1369, hQ1369, l1369, y1369, z1369⟩, st1369⟩ := Jvm.LawKit.callS X1357 hx (y := (⟨"com/example/witness/witness/logic/StepSearchTakePinLaw", "at", "([I[II)I"⟩ : MethodName)) hown (mvT hZ (hw _ (List.mem_of_getElem? (i := 69) rfl))) (mvT hZ (hw _ (List.mem_of_getElem? (i := 70) rfl))) (mvT hZ (hw _ (List.mem_of_getElem? (i := 29) rfl))) (mvT hZ (hw _ (List.mem_of_getElem? (i := 71) rfl))) (by decide) (backOf (W := 2) (rm11 l Z a0 hw [] b1194 b1219 fD1_1288 lo1_1288 l1_1288 1 (1 : Int32) T1357.heap n0 Zs1357 fV1366 fV1367 jB jL (by decide) (by decide) jD) hZ (hw _ (List.mem_of_getElem? (i := 71) rfl)) (hw _ (List.mem_of_getElem? (i := 29) rfl)) (by decide) (by decide)) (g := (mkF m 135 #[.val (.int xa), .val (.int xb), .val (.int xc), .val (.ref b1091), .val (.ref b1103), .val (.ref b1194), .val (.ref b1219), .val (.ref b1290), .val (.int (Int32.ofNat (own_note [] (own_av l1_1288 0)).length)), .unset, .unset, .unset, .unset] [(.int (1 : Int32)), (.ref b1219), (.ref b1194), (.int (Int32.ofNat (own_note [] (own_av l1_1288 0)).length)), (.ref b1290)])) rfl (by rw [hml]; rfl) (argsL := [(.ref b1194), (.ref b1219), (.int (1 : Int32))]) (rest := [(.int (Int32.ofNat (own_note [] (own_av l1_1288 0)).length)), (.ref b1290)]) (lenOf pd_oaIaIIcI rfl) rfl (by show 2 * 0 + _ ≤ _; exact Nat.le_of_eq rfl) (hb hby at_135) (fun _ _ => ⟨rfl, rfl, (by decide : 22 + 0 ≤ _), (by decide : 689 + 0 ≤ _)⟩)
  dsimp only [Pt.U, Pt.locs, Pt.cells, Pt.slots] at X1369 l1369 y1369 z1369 st1369 hQ1369
  rw [l1369, y1369, z1369] at X1369
  obtain ⟨hv1369, N1369q, e1369q⟩ := hQ1369
  rw [hv1369] at st1369
  have N1369 := Fr.app N1357 N1369q
  obtain ⟨_, _, ⟨T1370, L1370, k1370, n1370⟩, -, X1370, ⟨Lc1370, hQ1370, l1370, y1370, z1370⟩, st1370⟩ := Jvm.LawKit.callS X1369 hx (y := (⟨"com/example/witness/witness/logic/StepSearchTakePinLaw", "note", "([III)I"⟩ : MethodName)) hown (mvT hZ (hw _ (List.mem_of_getElem? (i := 72) rfl))) (mvT hZ (hw _ (List.mem_of_getElem? (i := 73) rfl))) (mvT hZ (hw _ (List.mem_of_getElem? (i := 29) rfl))) (mvT hZ (hw _ (List.mem_of_getElem? (i := 74) rfl))) (by decide) (backOf (W := 0) (rm12 l Z a0 hw [] b1290 (own_note [] (own_av l1_1288 0)) (own_av l1_1288 1) T1357.heap n0 Zs1357 fV1358 gn1290 (Nat.le_trans (own_note_len _ _) (by decide))) hZ (hw _ (List.mem_of_getElem? (i := 74) rfl)) (hw _ (List.mem_of_getElem? (i := 29) rfl)) (by decide) (by decide)) (g := (mkF m 138 #[.val (.int xa), .val (.int xb), .val (.int xc), .val (.ref b1091), .val (.ref b1103), .val (.ref b1194), .val (.ref b1219), .val (.ref b1290), .val (.int (Int32.ofNat (own_note [] (own_av l1_1288 0)).length)), .unset, .unset, .unset, .unset] [(.int (own_av l1_1288 1)), (.int (Int32.ofNat (own_note [] (own_av l1_1288 0)).length)), (.ref b1290)])) rfl (by rw [hml]; rfl) (argsL := [(.ref b1290), (.int (Int32.ofNat (own_note [] (own_av l1_1288 0)).length)), (.int (own_av l1_1288 1))]) (rest := []) (lenOf pd_oaIIIcI rfl) rfl (by show 2 * 0 + _ ≤ _; exact Nat.le_of_eq rfl) (hb hby at_138) (fun _ _ => ⟨rfl, e1369q, (by decide : 22 + 0 ≤ _), (by decide : 689 + 0 ≤ _)⟩)
  dsimp only [Pt.U, Pt.locs, Pt.cells, Pt.slots] at X1370 l1370 y1370 z1370 st1370 hQ1370
  rw [l1370, y1370, z1370] at X1370
  obtain ⟨hv1370, N1370q, Kc1370, fV1371⟩ := hQ1370
  rw [hv1370] at st1370
  have N1370 := Fr.app N1369 N1370q
  have Zs1370 : n0 ≤ T1370.heap.size := Nat.le_trans Zs1357 Kc1370.1
  have fE1372 := fE1359.keep Kc1370
  have fF1373 := fF1360.keep Kc1370 (ninS ne1291 nin0)
  have fF1374 := fF1361.keep Kc1370 (ninS ne1291 nin0)
  have fF1375 := fF1362.keep Kc1370 (ninS ne1291 nin0)
  have fF1376 := fF1363.keep Kc1370 (ninS ne1291 nin0)
  have fV1377 := fV1364.keep Kc1370 (ninS ne1292 nin0)
  have fV1378 := fV1365.keep Kc1370 (ninS ne1293 nin0)
  have fV1379 := fV1366.keep Kc1370 (ninS ne1294 nin0)
  have fV1380 := fV1367.keep Kc1370 (ninS ne1295 nin0)
  have s1381 : ∀ t, Steps p.tables e below (T1370.setTop (mkF m 152 #[.val (.int xa), .val (.int xb), .val (.int xc), .val (.ref b1091), .val (.ref b1103), .val (.ref b1194), .val (.ref b1219), .val (.ref b1290), .val (.int (Int32.ofNat (own_note (own_note [] (own_av l1_1288 0)) (own_av l1_1288 1)).length)), .unset, .unset, .unset, .unset] [(.int (2 : Int32)), (.ref b1219), (.ref b1194), (.int (Int32.ofNat (own_note (own_note [] (own_av l1_1288 0)) (own_av l1_1288 1)).length)), (.ref b1290)])) t → Steps p.tables e below (T1370.setTop (mkF m 141 #[.val (.int xa), .val (.int xb), .val (.int xc), .val (.ref b1091), .val (.ref b1103), .val (.ref b1194), .val (.ref b1219), .val (.ref b1290), .val (.int (Int32.ofNat (own_note [] (own_av l1_1288 0)).length)), .unset, .unset, .unset, .unset] [(.int (Int32.ofNat (own_note (own_note [] (own_av l1_1288 0)) (own_av l1_1288 1)).length))])) t := by
    intro t kt
    refine XS.istore X1370.here hx rfl (hb hby at_141) rfl (l' := #[.val (.int xa), .val (.int xb), .val (.int xc), .val (.ref b1091), .val (.ref b1103), .val (.ref b1194), .val (.ref b1219), .val (.ref b1290), .val (.int (Int32.ofNat (own_note (own_note [] (own_av l1_1288 0)) (own_av l1_1288 1)).length)), .unset, .unset, .unset, .unset]) rfl ?_
    show Steps p.tables e below (T1370.setTop (mkF m 143 #[.val (.int xa), .val (.int xb), .val (.int xc), .val (.ref b1091), .val (.ref b1103), .val (.ref b1194), .val (.ref b1219), .val (.ref b1290), .val (.int (Int32.ofNat (own_note (own_note [] (own_av l1_1288 0)) (own_av l1_1288 1)).length)), .unset, .unset, .unset, .unset] [])) t
    refine XS.aload X1370.here hx rfl (hb hby at_143) rfl rfl ?_
    show Steps p.tables e below (T1370.setTop (mkF m 145 #[.val (.int xa), .val (.int xb), .val (.int xc), .val (.ref b1091), .val (.ref b1103), .val (.ref b1194), .val (.ref b1219), .val (.ref b1290), .val (.int (Int32.ofNat (own_note (own_note [] (own_av l1_1288 0)) (own_av l1_1288 1)).length)), .unset, .unset, .unset, .unset] [(.ref b1290)])) t
    refine XS.iload X1370.here hx rfl (hb hby at_145) rfl ?_
    show Steps p.tables e below (T1370.setTop (mkF m 147 #[.val (.int xa), .val (.int xb), .val (.int xc), .val (.ref b1091), .val (.ref b1103), .val (.ref b1194), .val (.ref b1219), .val (.ref b1290), .val (.int (Int32.ofNat (own_note (own_note [] (own_av l1_1288 0)) (own_av l1_1288 1)).length)), .unset, .unset, .unset, .unset] [(.int (Int32.ofNat (own_note (own_note [] (own_av l1_1288 0)) (own_av l1_1288 1)).length)), (.ref b1290)])) t
    refine XS.aload X1370.here hx rfl (hb hby at_147) rfl rfl ?_
    show Steps p.tables e below (T1370.setTop (mkF m 149 #[.val (.int xa), .val (.int xb), .val (.int xc), .val (.ref b1091), .val (.ref b1103), .val (.ref b1194), .val (.ref b1219), .val (.ref b1290), .val (.int (Int32.ofNat (own_note (own_note [] (own_av l1_1288 0)) (own_av l1_1288 1)).length)), .unset, .unset, .unset, .unset] [(.ref b1194), (.int (Int32.ofNat (own_note (own_note [] (own_av l1_1288 0)) (own_av l1_1288 1)).length)), (.ref b1290)])) t
    refine XS.aload X1370.here hx rfl (hb hby at_149) rfl rfl ?_
    show Steps p.tables e below (T1370.setTop (mkF m 151 #[.val (.int xa), .val (.int xb), .val (.int xc), .val (.ref b1091), .val (.ref b1103), .val (.ref b1194), .val (.ref b1219), .val (.ref b1290), .val (.int (Int32.ofNat (own_note (own_note [] (own_av l1_1288 0)) (own_av l1_1288 1)).length)), .unset, .unset, .unset, .unset] [(.ref b1219), (.ref b1194), (.int (Int32.ofNat (own_note (own_note [] (own_av l1_1288 0)) (own_av l1_1288 1)).length)), (.ref b1290)])) t
    refine XS.iconst X1370.here hx rfl (hb hby at_151) ?_
    exact kt
  obtain ⟨_, _, ⟨T1382, L1382, k1382, n1382⟩, -, X1382, ⟨Lc1382, hQ1382, l1382, y1382, z1382⟩, st1382⟩ := Jvm.LawKit.callS X1370 hx (y := (⟨"com/example/witness/witness/logic/StepSearchTakePinLaw", "at", "([I[II)I"⟩ : MethodName)) hown (mvT hZ (hw _ (List.mem_of_getElem? (i := 69) rfl))) (mvT hZ (hw _ (List.mem_of_getElem? (i := 70) rfl))) (mvT hZ (hw _ (List.mem_of_getElem? (i := 29) rfl))) (mvT hZ (hw _ (List.mem_of_getElem? (i := 71) rfl))) (by decide) (backOf (W := 2) (rm11 l Z a0 hw [] b1194 b1219 fD1_1288 lo1_1288 l1_1288 2 (2 : Int32) T1370.heap n0 Zs1370 fV1379 fV1380 jB jL (by decide) (by decide) jD) hZ (hw _ (List.mem_of_getElem? (i := 71) rfl)) (hw _ (List.mem_of_getElem? (i := 29) rfl)) (by decide) (by decide)) (g := (mkF m 152 #[.val (.int xa), .val (.int xb), .val (.int xc), .val (.ref b1091), .val (.ref b1103), .val (.ref b1194), .val (.ref b1219), .val (.ref b1290), .val (.int (Int32.ofNat (own_note (own_note [] (own_av l1_1288 0)) (own_av l1_1288 1)).length)), .unset, .unset, .unset, .unset] [(.int (2 : Int32)), (.ref b1219), (.ref b1194), (.int (Int32.ofNat (own_note (own_note [] (own_av l1_1288 0)) (own_av l1_1288 1)).length)), (.ref b1290)])) rfl (by rw [hml]; rfl) (argsL := [(.ref b1194), (.ref b1219), (.int (2 : Int32))]) (rest := [(.int (Int32.ofNat (own_note (own_note [] (own_av l1_1288 0)) (own_av l1_1288 1)).length)), (.ref b1290)]) (lenOf pd_oaIaIIcI rfl) rfl (by show 2 * 0 + _ ≤ _; exact Nat.le_of_eq rfl) (hb hby at_152) (fun _ _ => ⟨rfl, rfl, (by decide : 22 + 0 ≤ _), (by decide : 689 + 0 ≤ _)⟩)
  dsimp only [Pt.U, Pt.locs, Pt.cells, Pt.slots] at X1382 l1382 y1382 z1382 st1382 hQ1382
  rw [l1382, y1382, z1382] at X1382
  obtain ⟨hv1382, N1382q, e1382q⟩ := hQ1382
  rw [hv1382] at st1382
  have N1382 := Fr.app N1370 N1382q
  obtain ⟨_, _, ⟨T1383, L1383, k1383, n1383⟩, -, X1383, ⟨Lc1383, hQ1383, l1383, y1383, z1383⟩, st1383⟩ := Jvm.LawKit.callS X1382 hx (y := (⟨"com/example/witness/witness/logic/StepSearchTakePinLaw", "note", "([III)I"⟩ : MethodName)) hown (mvT hZ (hw _ (List.mem_of_getElem? (i := 72) rfl))) (mvT hZ (hw _ (List.mem_of_getElem? (i := 73) rfl))) (mvT hZ (hw _ (List.mem_of_getElem? (i := 29) rfl))) (mvT hZ (hw _ (List.mem_of_getElem? (i := 74) rfl))) (by decide) (backOf (W := 0) (rm12 l Z a0 hw [] b1290 (own_note (own_note [] (own_av l1_1288 0)) (own_av l1_1288 1)) (own_av l1_1288 2) T1370.heap n0 Zs1370 fV1371 gn1290 (Nat.le_trans (own_note_len _ _) (Nat.succ_le_succ (own_note_len _ _)))) hZ (hw _ (List.mem_of_getElem? (i := 74) rfl)) (hw _ (List.mem_of_getElem? (i := 29) rfl)) (by decide) (by decide)) (g := (mkF m 155 #[.val (.int xa), .val (.int xb), .val (.int xc), .val (.ref b1091), .val (.ref b1103), .val (.ref b1194), .val (.ref b1219), .val (.ref b1290), .val (.int (Int32.ofNat (own_note (own_note [] (own_av l1_1288 0)) (own_av l1_1288 1)).length)), .unset, .unset, .unset, .unset] [(.int (own_av l1_1288 2)), (.int (Int32.ofNat (own_note (own_note [] (own_av l1_1288 0)) (own_av l1_1288 1)).length)), (.ref b1290)])) rfl (by rw [hml]; rfl) (argsL := [(.ref b1290), (.int (Int32.ofNat (own_note (own_note [] (own_av l1_1288 0)) (own_av l1_1288 1)).length)), (.int (own_av l1_1288 2))]) (rest := []) (lenOf pd_oaIIIcI rfl) rfl (by show 2 * 0 + _ ≤ _; exact Nat.le_of_eq rfl) (hb hby at_155) (fun _ _ => ⟨rfl, e1382q, (by decide : 22 + 0 ≤ _), (by decide : 689 + 0 ≤ _)⟩)
  dsimp only [Pt.U, Pt.locs, Pt.cells, Pt.slots] at X1383 l1383 y1383 z1383 st1383 hQ1383
  rw [l1383, y1383, z1383] at X1383
  obtain ⟨hv1383, N1383q, Kc1383, fV1384⟩ := hQ1383
  rw [hv1383] at st1383
  have N1383 := Fr.app N1382 N1383q
  have Zs1383 : n0 ≤ T1383.heap.size := Nat.le_trans Zs1370 Kc1383.1
  have fE1385 := fE1372.keep Kc1383
  have fF1386 := fF1373.keep Kc1383 (ninS ne1291 nin0)
  have fF1387 := fF1374.keep Kc1383 (ninS ne1291 nin0)
  have fF1388 := fF1375.keep Kc1383 (ninS ne1291 nin0)
  have fF1389 := fF1376.keep Kc1383 (ninS ne1291 nin0)
  have fV1390 := fV1377.keep Kc1383 (ninS ne1292 nin0)
  have fV1391 := fV1378.keep Kc1383 (ninS ne1293 nin0)
  have fV1392 := fV1379.keep Kc1383 (ninS ne1294 nin0)
  have fV1393 := fV1380.keep Kc1383 (ninS ne1295 nin0)
  have s1394 : ∀ t, Steps p.tables e below (T1383.setTop (mkF m 160 #[.val (.int xa), .val (.int xb), .val (.int xc), .val (.ref b1091), .val (.ref b1103), .val (.ref b1194), .val (.ref b1219), .val (.ref b1290), .val (.int (Int32.ofNat (own_note (own_note (own_note [] (own_av l1_1288 0)) (own_av l1_1288 1)) (own_av l1_1288 2)).length)), .unset, .unset, .unset, .unset] [])) t → Steps p.tables e below (T1383.setTop (mkF m 158 #[.val (.int xa), .val (.int xb), .val (.int xc), .val (.ref b1091), .val (.ref b1103), .val (.ref b1194), .val (.ref b1219), .val (.ref b1290), .val (.int (Int32.ofNat (own_note (own_note [] (own_av l1_1288 0)) (own_av l1_1288 1)).length)), .unset, .unset, .unset, .unset] [(.int (Int32.ofNat (own_note (own_note (own_note [] (own_av l1_1288 0)) (own_av l1_1288 1)) (own_av l1_1288 2)).length))])) t := by
    intro t kt
    refine XS.istore X1383.here hx rfl (hb hby at_158) rfl (l' := #[.val (.int xa), .val (.int xb), .val (.int xc), .val (.ref b1091), .val (.ref b1103), .val (.ref b1194), .val (.ref b1219), .val (.ref b1290), .val (.int (Int32.ofNat (own_note (own_note (own_note [] (own_av l1_1288 0)) (own_av l1_1288 1)) (own_av l1_1288 2)).length)), .unset, .unset, .unset, .unset]) rfl ?_
    exact kt
  have Vk0 : Ar Z T1383.heap k11288 .boolean n1_1288 (fun i => .int (own_tk [] i)) := fV1390.as (fun i _ => own_tk0 i)
  have s1395 : ∀ t, Steps p.tables e below (T1383.setTop (mkF m 161 #[.val (.int xa), .val (.int xb), .val (.int xc), .val (.ref b1091), .val (.ref b1103), .val (.ref b1194), .val (.ref b1219), .val (.ref b1290), .val (.int (Int32.ofNat (own_note (own_note (own_note [] (own_av l1_1288 0)) (own_av l1_1288 1)) (own_av l1_1288 2)).length)), .unset, .unset, .unset, .unset] [(.ref b1091)])) t → Steps p.tables e below (T1383.setTop (mkF m 160 #[.val (.int xa), .val (.int xb), .val (.int xc), .val (.ref b1091), .val (.ref b1103), .val (.ref b1194), .val (.ref b1219), .val (.ref b1290), .val (.int (Int32.ofNat (own_note (own_note (own_note [] (own_av l1_1288 0)) (own_av l1_1288 1)) (own_av l1_1288 2)).length)), .unset, .unset, .unset, .unset] [])) t := by
    intro t kt
    refine XS.aloadN X1383.here hx rfl (hb hby at_160) rfl rfl ?_
    exact kt
  obtain ⟨cq1396, kq1396, qa1396, qb1396, qc1396⟩ := isOf hZ rfl fE1385
  obtain ⟨_, _, ⟨T1396, L1396, k1396, n1396⟩, -, X1396, ⟨Lc1396, hQ1396, l1396, y1396, z1396⟩, st1396⟩ := X1383.virtualBack hx (y := (⟨"com/example/witness/witness/logic/StepSearch", "take", "()I"⟩ : MethodName)) (z := (⟨"com/example/witness/witness/logic/StepSearch", "take", "()I"⟩ : MethodName)) hown (mvT hZ (hw _ (List.mem_of_getElem? (i := 75) rfl))) (mvT hZ (hw _ (List.mem_of_getElem? (i := 76) rfl))) (notFace_of_selects (args := #[]) (mvT hZ (hw _ (List.mem_of_getElem? (i := 78) rfl)))) (mvT hZ (hw _ (List.mem_of_getElem? (i := 78) rfl))) (mvT hZ (hw _ (List.mem_of_getElem? (i := 77) rfl))) (by decide) (backOf (W := 0) (rm13 l Z a0 hw [] b1091 k11288 qa1101 n1_1288 fQ1_1288 (lo1_1288 + 13) l1_1288 [] T1383.heap n0 Zs1383 fE1385 fF1386 fF1387 fF1388 fF1389 gn1091 gka Vk0 fV1391 nks nqs nqk jQ (fun k hk => (jM k hk).2) j54 jL) hZ (hw _ (List.mem_of_getElem? (i := 79) rfl)) (hw _ (List.mem_of_getElem? (i := 2) rfl)) (by decide) (by decide)) qa1396 qc1396 (g := (mkF m 161 #[.val (.int xa), .val (.int xb), .val (.int xc), .val (.ref b1091), .val (.ref b1103), .val (.ref b1194), .val (.ref b1219), .val (.ref b1290), .val (.int (Int32.ofNat (own_note (own_note (own_note [] (own_av l1_1288 0)) (own_av l1_1288 1)) (own_av l1_1288 2)).length)), .unset, .unset, .unset, .unset] [(.ref b1091)])) rfl (by rw [hml]; rfl) (Steps.refl _) (argsL := []) (rest := []) (lenOf pd_ocI rfl) rfl (by show 2 * 0 + _ ≤ _; exact Nat.le_of_eq rfl) (hb hby at_161) (fun _ _ => ⟨rfl, rfl, (by decide : 22 + 0 ≤ _), (by decide : 689 + 0 ≤ _)⟩)
  dsimp only [Pt.U, Pt.locs, Pt.cells, Pt.slots] at X1396 l1396 y1396 z1396 st1396 hQ1396
  rw [l1396, y1396, z1396] at X1396
  obtain ⟨hv1396, N1396q, Kc1396, p1396_, b1_1396, b2_1396, b3_1396, b4_1396, b5_1396, V1396, q1396⟩ := hQ1396
  obtain ⟨r0, hr0⟩ : ∃ z, z = own_take [] l1_1288 := ⟨_, rfl⟩
  rw [← hr0] at hv1396 b5_1396 V1396 q1396
  rw [hv1396] at st1396
  have N1396 := Fr.app N1383 N1396q
  have Zs1396 : n0 ≤ T1396.heap.size := Nat.le_trans Zs1383 Kc1396.1
  have Ve1396 := fV1384.keep Kc1396 (ninS (Ne.symm ne1291) (ninS (Ne.symm ne1292) nin0))
  have Vq1396 := fV1391.keep Kc1396 (ninS nqs (ninS nqk nin0))
  obtain ⟨hm1396, hl1396⟩ := own_tmore hr0 (fun k hk => (jM k hk).2) jL
  have s1397 : ∀ t, Steps p.tables e below (T1396.setTop (mkF m 167 #[.val (.int xa), .val (.int xb), .val (.int xc), .val (.ref b1091), .val (.ref b1103), .val (.ref b1194), .val (.ref b1219), .val (.ref b1290), .val (.int (Int32.ofNat (own_note (own_note (own_note [] (own_av l1_1288 0)) (own_av l1_1288 1)) (own_av l1_1288 2)).length)), .val (.int r0.1), .unset, .unset, .unset] [(.ref b1091)])) t → Steps p.tables e below (T1396.setTop (mkF m 164 #[.val (.int xa), .val (.int xb), .val (.int xc), .val (.ref b1091), .val (.ref b1103), .val (.ref b1194), .val (.ref b1219), .val (.ref b1290), .val (.int (Int32.ofNat (own_note (own_note (own_note [] (own_av l1_1288 0)) (own_av l1_1288 1)) (own_av l1_1288 2)).length)), .unset, .unset, .unset, .unset] [(.int r0.1)])) t := by
    intro t kt
    refine XS.istore X1396.here hx rfl (hb hby at_164) rfl (l' := #[.val (.int xa), .val (.int xb), .val (.int xc), .val (.ref b1091), .val (.ref b1103), .val (.ref b1194), .val (.ref b1219), .val (.ref b1290), .val (.int (Int32.ofNat (own_note (own_note (own_note [] (own_av l1_1288 0)) (own_av l1_1288 1)) (own_av l1_1288 2)).length)), .val (.int r0.1), .unset, .unset, .unset]) rfl ?_
    show Steps p.tables e below (T1396.setTop (mkF m 166 #[.val (.int xa), .val (.int xb), .val (.int xc), .val (.ref b1091), .val (.ref b1103), .val (.ref b1194), .val (.ref b1219), .val (.ref b1290), .val (.int (Int32.ofNat (own_note (own_note (own_note [] (own_av l1_1288 0)) (own_av l1_1288 1)) (own_av l1_1288 2)).length)), .val (.int r0.1), .unset, .unset, .unset] [])) t
    refine XS.aloadN X1396.here hx rfl (hb hby at_166) rfl rfl ?_
    exact kt
  obtain ⟨cq1398, kq1398, qa1398, qb1398, qc1398⟩ := isOf hZ rfl b1_1396
  obtain ⟨_, _, ⟨T1398, L1398, k1398, n1398⟩, -, X1398, ⟨Lc1398, hQ1398, l1398, y1398, z1398⟩, st1398⟩ := X1396.virtualBack hx (y := (⟨"com/example/witness/witness/logic/StepSearch", "take", "()I"⟩ : MethodName)) (z := (⟨"com/example/witness/witness/logic/StepSearch", "take", "()I"⟩ : MethodName)) hown (mvT hZ (hw _ (List.mem_of_getElem? (i := 75) rfl))) (mvT hZ (hw _ (List.mem_of_getElem? (i := 76) rfl))) (notFace_of_selects (args := #[]) (mvT hZ (hw _ (List.mem_of_getElem? (i := 78) rfl)))) (mvT hZ (hw _ (List.mem_of_getElem? (i := 78) rfl))) (mvT hZ (hw _ (List.mem_of_getElem? (i := 77) rfl))) (by decide) (backOf (W := 0) (rm13 l Z a0 hw [] b1091 k11288 qa1101 n1_1288 fQ1_1288 p1396_ r0.2.1 r0.2.2 T1396.heap n0 Zs1396 b1_1396 b2_1396 b3_1396 b4_1396 b5_1396 gn1091 gka V1396 Vq1396 nks nqs nqk q1396 hm1396 j54 hl1396) hZ (hw _ (List.mem_of_getElem? (i := 79) rfl)) (hw _ (List.mem_of_getElem? (i := 2) rfl)) (by decide) (by decide)) qa1398 qc1398 (g := (mkF m 167 #[.val (.int xa), .val (.int xb), .val (.int xc), .val (.ref b1091), .val (.ref b1103), .val (.ref b1194), .val (.ref b1219), .val (.ref b1290), .val (.int (Int32.ofNat (own_note (own_note (own_note [] (own_av l1_1288 0)) (own_av l1_1288 1)) (own_av l1_1288 2)).length)), .val (.int r0.1), .unset, .unset, .unset] [(.ref b1091)])) rfl (by rw [hml]; rfl) (Steps.refl _) (argsL := []) (rest := []) (lenOf pd_ocI rfl) rfl (by show 2 * 0 + _ ≤ _; exact Nat.le_of_eq rfl) (hb hby at_167) (fun _ _ => ⟨rfl, rfl, (by decide : 22 + 0 ≤ _), (by decide : 689 + 0 ≤ _)⟩)
  dsimp only [Pt.U, Pt.locs, Pt.cells, Pt.slots] at X1398 l1398 y1398 z1398 st1398 hQ1398
  rw [l1398, y1398, z1398] at X1398
  obtain ⟨hv1398, N1398q, Kc1398, p1398_, b1_1398, b2_1398, b3_1398, b4_1398, b5_1398, V1398, q1398⟩ := hQ1398
  obtain ⟨r1, hr1⟩ : ∃ z, z = own_take r0.2.2 r0.2.1 := ⟨_, rfl⟩
  rw [← hr1] at hv1398 b5_1398 V1398 q1398
  rw [hv1398] at st1398
  have N1398 := Fr.app N1396 N1398q
  have Zs1398 : n0 ≤ T1398.heap.size := Nat.le_trans Zs1396 Kc1398.1
  have Ve1398 := Ve1396.keep Kc1398 (ninS (Ne.symm ne1291) (ninS (Ne.symm ne1292) nin0))
  have Vq1398 := Vq1396.keep Kc1398 (ninS nqs (ninS nqk nin0))
  obtain ⟨hm1398, hl1398⟩ := own_tmore hr1 hm1396 hl1396
  have s1399 : ∀ t, Steps p.tables e below (T1398.setTop (mkF m 173 #[.val (.int xa), .val (.int xb), .val (.int xc), .val (.ref b1091), .val (.ref b1103), .val (.ref b1194), .val (.ref b1219), .val (.ref b1290), .val (.int (Int32.ofNat (own_note (own_note (own_note [] (own_av l1_1288 0)) (own_av l1_1288 1)) (own_av l1_1288 2)).length)), .val (.int r0.1), .val (.int r1.1), .unset, .unset] [(.ref b1091)])) t → Steps p.tables e below (T1398.setTop (mkF m 170 #[.val (.int xa), .val (.int xb), .val (.int xc), .val (.ref b1091), .val (.ref b1103), .val (.ref b1194), .val (.ref b1219), .val (.ref b1290), .val (.int (Int32.ofNat (own_note (own_note (own_note [] (own_av l1_1288 0)) (own_av l1_1288 1)) (own_av l1_1288 2)).length)), .val (.int r0.1), .unset, .unset, .unset] [(.int r1.1)])) t := by
    intro t kt
    refine XS.istore X1398.here hx rfl (hb hby at_170) rfl (l' := #[.val (.int xa), .val (.int xb), .val (.int xc), .val (.ref b1091), .val (.ref b1103), .val (.ref b1194), .val (.ref b1219), .val (.ref b1290), .val (.int (Int32.ofNat (own_note (own_note (own_note [] (own_av l1_1288 0)) (own_av l1_1288 1)) (own_av l1_1288 2)).length)), .val (.int r0.1), .val (.int r1.1), .unset, .unset]) rfl ?_
    show Steps p.tables e below (T1398.setTop (mkF m 172 #[.val (.int xa), .val (.int xb), .val (.int xc), .val (.ref b1091), .val (.ref b1103), .val (.ref b1194), .val (.ref b1219), .val (.ref b1290), .val (.int (Int32.ofNat (own_note (own_note (own_note [] (own_av l1_1288 0)) (own_av l1_1288 1)) (own_av l1_1288 2)).length)), .val (.int r0.1), .val (.int r1.1), .unset, .unset] [])) t
    refine XS.aloadN X1398.here hx rfl (hb hby at_172) rfl rfl ?_
    exact kt
  obtain ⟨cq1400, kq1400, qa1400, qb1400, qc1400⟩ := isOf hZ rfl b1_1398
  obtain ⟨_, _, ⟨T1400, L1400, k1400, n1400⟩, -, X1400, ⟨Lc1400, hQ1400, l1400, y1400, z1400⟩, st1400⟩ := X1398.virtualBack hx (y := (⟨"com/example/witness/witness/logic/StepSearch", "take", "()I"⟩ : MethodName)) (z := (⟨"com/example/witness/witness/logic/StepSearch", "take", "()I"⟩ : MethodName)) hown (mvT hZ (hw _ (List.mem_of_getElem? (i := 75) rfl))) (mvT hZ (hw _ (List.mem_of_getElem? (i := 76) rfl))) (notFace_of_selects (args := #[]) (mvT hZ (hw _ (List.mem_of_getElem? (i := 78) rfl)))) (mvT hZ (hw _ (List.mem_of_getElem? (i := 78) rfl))) (mvT hZ (hw _ (List.mem_of_getElem? (i := 77) rfl))) (by decide) (backOf (W := 0) (rm13 l Z a0 hw [] b1091 k11288 qa1101 n1_1288 fQ1_1288 p1398_ r1.2.1 r1.2.2 T1398.heap n0 Zs1398 b1_1398 b2_1398 b3_1398 b4_1398 b5_1398 gn1091 gka V1398 Vq1398 nks nqs nqk q1398 hm1398 j54 hl1398) hZ (hw _ (List.mem_of_getElem? (i := 79) rfl)) (hw _ (List.mem_of_getElem? (i := 2) rfl)) (by decide) (by decide)) qa1400 qc1400 (g := (mkF m 173 #[.val (.int xa), .val (.int xb), .val (.int xc), .val (.ref b1091), .val (.ref b1103), .val (.ref b1194), .val (.ref b1219), .val (.ref b1290), .val (.int (Int32.ofNat (own_note (own_note (own_note [] (own_av l1_1288 0)) (own_av l1_1288 1)) (own_av l1_1288 2)).length)), .val (.int r0.1), .val (.int r1.1), .unset, .unset] [(.ref b1091)])) rfl (by rw [hml]; rfl) (Steps.refl _) (argsL := []) (rest := []) (lenOf pd_ocI rfl) rfl (by show 2 * 0 + _ ≤ _; exact Nat.le_of_eq rfl) (hb hby at_173) (fun _ _ => ⟨rfl, rfl, (by decide : 22 + 0 ≤ _), (by decide : 689 + 0 ≤ _)⟩)
  dsimp only [Pt.U, Pt.locs, Pt.cells, Pt.slots] at X1400 l1400 y1400 z1400 st1400 hQ1400
  rw [l1400, y1400, z1400] at X1400
  obtain ⟨hv1400, N1400q, Kc1400, p1400_, b1_1400, b2_1400, b3_1400, b4_1400, b5_1400, V1400, q1400⟩ := hQ1400
  obtain ⟨r2, hr2⟩ : ∃ z, z = own_take r1.2.2 r1.2.1 := ⟨_, rfl⟩
  rw [← hr2] at hv1400 b5_1400 V1400 q1400
  rw [hv1400] at st1400
  have N1400 := Fr.app N1398 N1400q
  have Zs1400 : n0 ≤ T1400.heap.size := Nat.le_trans Zs1398 Kc1400.1
  have Ve1400 := Ve1398.keep Kc1400 (ninS (Ne.symm ne1291) (ninS (Ne.symm ne1292) nin0))
  have Vq1400 := Vq1398.keep Kc1400 (ninS nqs (ninS nqk nin0))
  obtain ⟨hm1400, hl1400⟩ := own_tmore hr2 hm1398 hl1398
  have s1401 : ∀ t, Steps p.tables e below (T1400.setTop (mkF m 179 #[.val (.int xa), .val (.int xb), .val (.int xc), .val (.ref b1091), .val (.ref b1103), .val (.ref b1194), .val (.ref b1219), .val (.ref b1290), .val (.int (Int32.ofNat (own_note (own_note (own_note [] (own_av l1_1288 0)) (own_av l1_1288 1)) (own_av l1_1288 2)).length)), .val (.int r0.1), .val (.int r1.1), .val (.int r2.1), .unset] [(.ref b1091)])) t → Steps p.tables e below (T1400.setTop (mkF m 176 #[.val (.int xa), .val (.int xb), .val (.int xc), .val (.ref b1091), .val (.ref b1103), .val (.ref b1194), .val (.ref b1219), .val (.ref b1290), .val (.int (Int32.ofNat (own_note (own_note (own_note [] (own_av l1_1288 0)) (own_av l1_1288 1)) (own_av l1_1288 2)).length)), .val (.int r0.1), .val (.int r1.1), .unset, .unset] [(.int r2.1)])) t := by
    intro t kt
    refine XS.istore X1400.here hx rfl (hb hby at_176) rfl (l' := #[.val (.int xa), .val (.int xb), .val (.int xc), .val (.ref b1091), .val (.ref b1103), .val (.ref b1194), .val (.ref b1219), .val (.ref b1290), .val (.int (Int32.ofNat (own_note (own_note (own_note [] (own_av l1_1288 0)) (own_av l1_1288 1)) (own_av l1_1288 2)).length)), .val (.int r0.1), .val (.int r1.1), .val (.int r2.1), .unset]) rfl ?_
    show Steps p.tables e below (T1400.setTop (mkF m 178 #[.val (.int xa), .val (.int xb), .val (.int xc), .val (.ref b1091), .val (.ref b1103), .val (.ref b1194), .val (.ref b1219), .val (.ref b1290), .val (.int (Int32.ofNat (own_note (own_note (own_note [] (own_av l1_1288 0)) (own_av l1_1288 1)) (own_av l1_1288 2)).length)), .val (.int r0.1), .val (.int r1.1), .val (.int r2.1), .unset] [])) t
    refine XS.aloadN X1400.here hx rfl (hb hby at_178) rfl rfl ?_
    exact kt
  obtain ⟨cq1402, kq1402, qa1402, qb1402, qc1402⟩ := isOf hZ rfl b1_1400
  obtain ⟨_, _, ⟨T1402, L1402, k1402, n1402⟩, -, X1402, ⟨Lc1402, hQ1402, l1402, y1402, z1402⟩, st1402⟩ := X1400.virtualBack hx (y := (⟨"com/example/witness/witness/logic/StepSearch", "take", "()I"⟩ : MethodName)) (z := (⟨"com/example/witness/witness/logic/StepSearch", "take", "()I"⟩ : MethodName)) hown (mvT hZ (hw _ (List.mem_of_getElem? (i := 75) rfl))) (mvT hZ (hw _ (List.mem_of_getElem? (i := 76) rfl))) (notFace_of_selects (args := #[]) (mvT hZ (hw _ (List.mem_of_getElem? (i := 78) rfl)))) (mvT hZ (hw _ (List.mem_of_getElem? (i := 78) rfl))) (mvT hZ (hw _ (List.mem_of_getElem? (i := 77) rfl))) (by decide) (backOf (W := 0) (rm13 l Z a0 hw [] b1091 k11288 qa1101 n1_1288 fQ1_1288 p1400_ r2.2.1 r2.2.2 T1400.heap n0 Zs1400 b1_1400 b2_1400 b3_1400 b4_1400 b5_1400 gn1091 gka V1400 Vq1400 nks nqs nqk q1400 hm1400 j54 hl1400) hZ (hw _ (List.mem_of_getElem? (i := 79) rfl)) (hw _ (List.mem_of_getElem? (i := 2) rfl)) (by decide) (by decide)) qa1402 qc1402 (g := (mkF m 179 #[.val (.int xa), .val (.int xb), .val (.int xc), .val (.ref b1091), .val (.ref b1103), .val (.ref b1194), .val (.ref b1219), .val (.ref b1290), .val (.int (Int32.ofNat (own_note (own_note (own_note [] (own_av l1_1288 0)) (own_av l1_1288 1)) (own_av l1_1288 2)).length)), .val (.int r0.1), .val (.int r1.1), .val (.int r2.1), .unset] [(.ref b1091)])) rfl (by rw [hml]; rfl) (Steps.refl _) (argsL := []) (rest := []) (lenOf pd_ocI rfl) rfl (by show 2 * 0 + _ ≤ _; exact Nat.le_of_eq rfl) (hb hby at_179) (fun _ _ => ⟨rfl, rfl, (by decide : 22 + 0 ≤ _), (by decide : 689 + 0 ≤ _)⟩)
  dsimp only [Pt.U, Pt.locs, Pt.cells, Pt.slots] at X1402 l1402 y1402 z1402 st1402 hQ1402
  rw [l1402, y1402, z1402] at X1402
  obtain ⟨hv1402, N1402q, Kc1402, p1402_, b1_1402, b2_1402, b3_1402, b4_1402, b5_1402, V1402, q1402⟩ := hQ1402
  obtain ⟨r3, hr3⟩ : ∃ z, z = own_take r2.2.2 r2.2.1 := ⟨_, rfl⟩
  rw [← hr3] at hv1402 b5_1402 V1402 q1402
  rw [hv1402] at st1402
  have N1402 := Fr.app N1400 N1402q
  have Zs1402 : n0 ≤ T1402.heap.size := Nat.le_trans Zs1400 Kc1402.1
  have Ve1402 := Ve1400.keep Kc1402 (ninS (Ne.symm ne1291) (ninS (Ne.symm ne1292) nin0))
  have Vq1402 := Vq1400.keep Kc1402 (ninS nqs (ninS nqk nin0))
  obtain ⟨hm1402, hl1402⟩ := own_tmore hr3 hm1400 hl1400
  have s1403 : ∀ t, Steps p.tables e below (T1402.setTop (mkF m 184 #[.val (.int xa), .val (.int xb), .val (.int xc), .val (.ref b1091), .val (.ref b1103), .val (.ref b1194), .val (.ref b1219), .val (.ref b1290), .val (.int (Int32.ofNat (own_note (own_note (own_note [] (own_av l1_1288 0)) (own_av l1_1288 1)) (own_av l1_1288 2)).length)), .val (.int r0.1), .val (.int r1.1), .val (.int r2.1), .val (.int r3.1)] [])) t → Steps p.tables e below (T1402.setTop (mkF m 182 #[.val (.int xa), .val (.int xb), .val (.int xc), .val (.ref b1091), .val (.ref b1103), .val (.ref b1194), .val (.ref b1219), .val (.ref b1290), .val (.int (Int32.ofNat (own_note (own_note (own_note [] (own_av l1_1288 0)) (own_av l1_1288 1)) (own_av l1_1288 2)).length)), .val (.int r0.1), .val (.int r1.1), .val (.int r2.1), .unset] [(.int r3.1)])) t := by
    intro t kt
    refine XS.istore X1402.here hx rfl (hb hby at_182) rfl (l' := #[.val (.int xa), .val (.int xb), .val (.int xc), .val (.ref b1091), .val (.ref b1103), .val (.ref b1194), .val (.ref b1219), .val (.ref b1290), .val (.int (Int32.ofNat (own_note (own_note (own_note [] (own_av l1_1288 0)) (own_av l1_1288 1)) (own_av l1_1288 2)).length)), .val (.int r0.1), .val (.int r1.1), .val (.int r2.1), .val (.int r3.1)]) rfl ?_
    exact kt
  obtain ⟨z0, z1, z2, z3⟩ := own_fin l1_1288 jL (fun k hk => (jM k hk).1) r0 r1 r2 r3 hr0 hr1 hr2 hr3
  have s1404 : ∀ t, Steps p.tables e below (T1402.setTop (mkF m 225 #[.val (.int xa), .val (.int xb), .val (.int xc), .val (.ref b1091), .val (.ref b1103), .val (.ref b1194), .val (.ref b1219), .val (.ref b1290), .val (.int (Int32.ofNat (own_note (own_note (own_note [] (own_av l1_1288 0)) (own_av l1_1288 1)) (own_av l1_1288 2)).length)), .val (.int r0.1), .val (.int r1.1), .val (.int r2.1), .val (.int r3.1)] [(.int (1 : Int32))])) t → Steps p.tables e below (T1402.setTop (mkF m 184 #[.val (.int xa), .val (.int xb), .val (.int xc), .val (.ref b1091), .val (.ref b1103), .val (.ref b1194), .val (.ref b1219), .val (.ref b1290), .val (.int (Int32.ofNat (own_note (own_note (own_note [] (own_av l1_1288 0)) (own_av l1_1288 1)) (own_av l1_1288 2)).length)), .val (.int r0.1), .val (.int r1.1), .val (.int r2.1), .val (.int r3.1)] [])) t := by
    intro t kt
    refine XS.iload X1402.here hx rfl (hb hby at_184) rfl ?_
    show Steps p.tables e below (T1402.setTop (mkF m 186 #[.val (.int xa), .val (.int xb), .val (.int xc), .val (.ref b1091), .val (.ref b1103), .val (.ref b1194), .val (.ref b1219), .val (.ref b1290), .val (.int (Int32.ofNat (own_note (own_note (own_note [] (own_av l1_1288 0)) (own_av l1_1288 1)) (own_av l1_1288 2)).length)), .val (.int r0.1), .val (.int r1.1), .val (.int r2.1), .val (.int r3.1)] [(.int r0.1)])) t
    refine XS.aload X1402.here hx rfl (hb hby at_186) rfl rfl ?_
    show Steps p.tables e below (T1402.setTop (mkF m 188 #[.val (.int xa), .val (.int xb), .val (.int xc), .val (.ref b1091), .val (.ref b1103), .val (.ref b1194), .val (.ref b1219), .val (.ref b1290), .val (.int (Int32.ofNat (own_note (own_note (own_note [] (own_av l1_1288 0)) (own_av l1_1288 1)) (own_av l1_1288 2)).length)), .val (.int r0.1), .val (.int r1.1), .val (.int r2.1), .val (.int r3.1)] [(.ref b1290), (.int r0.1)])) t
    refine XS.iconst X1402.here hx rfl (hb hby at_188) ?_
    show Steps p.tables e below (T1402.setTop (mkF m 189 #[.val (.int xa), .val (.int xb), .val (.int xc), .val (.ref b1091), .val (.ref b1103), .val (.ref b1194), .val (.ref b1219), .val (.ref b1290), .val (.int (Int32.ofNat (own_note (own_note (own_note [] (own_av l1_1288 0)) (own_av l1_1288 1)) (own_av l1_1288 2)).length)), .val (.int r0.1), .val (.int r1.1), .val (.int r2.1), .val (.int r3.1)] [(.int (0 : Int32)), (.ref b1290), (.int r0.1)])) t
    refine OwnKit.ldAI X1402 hx hZ rfl Ve1402 (j := (0 : Int32)) (by decide) (by decide) (w := (.int ((own_note (own_note (own_note [] (own_av l1_1288 0)) (own_av l1_1288 1)) (own_av l1_1288 2)).getD 0 (-1)))) rfl (g := (mkF m 189 #[.val (.int xa), .val (.int xb), .val (.int xc), .val (.ref b1091), .val (.ref b1103), .val (.ref b1194), .val (.ref b1219), .val (.ref b1290), .val (.int (Int32.ofNat (own_note (own_note (own_note [] (own_av l1_1288 0)) (own_av l1_1288 1)) (own_av l1_1288 2)).length)), .val (.int r0.1), .val (.int r1.1), .val (.int r2.1), .val (.int r3.1)] [(.int (0 : Int32)), (.ref b1290), (.int r0.1)])) rfl rfl (hb hby at_189) _ ?_
    show Steps p.tables e below (T1402.setTop (mkF m 190 #[.val (.int xa), .val (.int xb), .val (.int xc), .val (.ref b1091), .val (.ref b1103), .val (.ref b1194), .val (.ref b1219), .val (.ref b1290), .val (.int (Int32.ofNat (own_note (own_note (own_note [] (own_av l1_1288 0)) (own_av l1_1288 1)) (own_av l1_1288 2)).length)), .val (.int r0.1), .val (.int r1.1), .val (.int r2.1), .val (.int r3.1)] [(.int ((own_note (own_note (own_note [] (own_av l1_1288 0)) (own_av l1_1288 1)) (own_av l1_1288 2)).getD 0 (-1))), (.int r0.1)])) t
    refine XS.icmpNo X1402.here hx rfl (hb hby at_190) rfl (teq z0).2 ?_
    show Steps p.tables e below (T1402.setTop (mkF m 193 #[.val (.int xa), .val (.int xb), .val (.int xc), .val (.ref b1091), .val (.ref b1103), .val (.ref b1194), .val (.ref b1219), .val (.ref b1290), .val (.int (Int32.ofNat (own_note (own_note (own_note [] (own_av l1_1288 0)) (own_av l1_1288 1)) (own_av l1_1288 2)).length)), .val (.int r0.1), .val (.int r1.1), .val (.int r2.1), .val (.int r3.1)] [])) t
    refine XS.iload X1402.here hx rfl (hb hby at_193) rfl ?_
    show Steps p.tables e below (T1402.setTop (mkF m 195 #[.val (.int xa), .val (.int xb), .val (.int xc), .val (.ref b1091), .val (.ref b1103), .val (.ref b1194), .val (.ref b1219), .val (.ref b1290), .val (.int (Int32.ofNat (own_note (own_note (own_note [] (own_av l1_1288 0)) (own_av l1_1288 1)) (own_av l1_1288 2)).length)), .val (.int r0.1), .val (.int r1.1), .val (.int r2.1), .val (.int r3.1)] [(.int r1.1)])) t
    refine XS.aload X1402.here hx rfl (hb hby at_195) rfl rfl ?_
    show Steps p.tables e below (T1402.setTop (mkF m 197 #[.val (.int xa), .val (.int xb), .val (.int xc), .val (.ref b1091), .val (.ref b1103), .val (.ref b1194), .val (.ref b1219), .val (.ref b1290), .val (.int (Int32.ofNat (own_note (own_note (own_note [] (own_av l1_1288 0)) (own_av l1_1288 1)) (own_av l1_1288 2)).length)), .val (.int r0.1), .val (.int r1.1), .val (.int r2.1), .val (.int r3.1)] [(.ref b1290), (.int r1.1)])) t
    refine XS.iconst X1402.here hx rfl (hb hby at_197) ?_
    show Steps p.tables e below (T1402.setTop (mkF m 198 #[.val (.int xa), .val (.int xb), .val (.int xc), .val (.ref b1091), .val (.ref b1103), .val (.ref b1194), .val (.ref b1219), .val (.ref b1290), .val (.int (Int32.ofNat (own_note (own_note (own_note [] (own_av l1_1288 0)) (own_av l1_1288 1)) (own_av l1_1288 2)).length)), .val (.int r0.1), .val (.int r1.1), .val (.int r2.1), .val (.int r3.1)] [(.int (1 : Int32)), (.ref b1290), (.int r1.1)])) t
    refine OwnKit.ldAI X1402 hx hZ rfl Ve1402 (j := (1 : Int32)) (by decide) (by decide) (w := (.int ((own_note (own_note (own_note [] (own_av l1_1288 0)) (own_av l1_1288 1)) (own_av l1_1288 2)).getD 1 (-1)))) rfl (g := (mkF m 198 #[.val (.int xa), .val (.int xb), .val (.int xc), .val (.ref b1091), .val (.ref b1103), .val (.ref b1194), .val (.ref b1219), .val (.ref b1290), .val (.int (Int32.ofNat (own_note (own_note (own_note [] (own_av l1_1288 0)) (own_av l1_1288 1)) (own_av l1_1288 2)).length)), .val (.int r0.1), .val (.int r1.1), .val (.int r2.1), .val (.int r3.1)] [(.int (1 : Int32)), (.ref b1290), (.int r1.1)])) rfl rfl (hb hby at_198) _ ?_
    show Steps p.tables e below (T1402.setTop (mkF m 199 #[.val (.int xa), .val (.int xb), .val (.int xc), .val (.ref b1091), .val (.ref b1103), .val (.ref b1194), .val (.ref b1219), .val (.ref b1290), .val (.int (Int32.ofNat (own_note (own_note (own_note [] (own_av l1_1288 0)) (own_av l1_1288 1)) (own_av l1_1288 2)).length)), .val (.int r0.1), .val (.int r1.1), .val (.int r2.1), .val (.int r3.1)] [(.int ((own_note (own_note (own_note [] (own_av l1_1288 0)) (own_av l1_1288 1)) (own_av l1_1288 2)).getD 1 (-1))), (.int r1.1)])) t
    refine XS.icmpNo X1402.here hx rfl (hb hby at_199) rfl (teq z1).2 ?_
    show Steps p.tables e below (T1402.setTop (mkF m 202 #[.val (.int xa), .val (.int xb), .val (.int xc), .val (.ref b1091), .val (.ref b1103), .val (.ref b1194), .val (.ref b1219), .val (.ref b1290), .val (.int (Int32.ofNat (own_note (own_note (own_note [] (own_av l1_1288 0)) (own_av l1_1288 1)) (own_av l1_1288 2)).length)), .val (.int r0.1), .val (.int r1.1), .val (.int r2.1), .val (.int r3.1)] [])) t
    refine XS.iload X1402.here hx rfl (hb hby at_202) rfl ?_
    show Steps p.tables e below (T1402.setTop (mkF m 204 #[.val (.int xa), .val (.int xb), .val (.int xc), .val (.ref b1091), .val (.ref b1103), .val (.ref b1194), .val (.ref b1219), .val (.ref b1290), .val (.int (Int32.ofNat (own_note (own_note (own_note [] (own_av l1_1288 0)) (own_av l1_1288 1)) (own_av l1_1288 2)).length)), .val (.int r0.1), .val (.int r1.1), .val (.int r2.1), .val (.int r3.1)] [(.int r2.1)])) t
    refine XS.aload X1402.here hx rfl (hb hby at_204) rfl rfl ?_
    show Steps p.tables e below (T1402.setTop (mkF m 206 #[.val (.int xa), .val (.int xb), .val (.int xc), .val (.ref b1091), .val (.ref b1103), .val (.ref b1194), .val (.ref b1219), .val (.ref b1290), .val (.int (Int32.ofNat (own_note (own_note (own_note [] (own_av l1_1288 0)) (own_av l1_1288 1)) (own_av l1_1288 2)).length)), .val (.int r0.1), .val (.int r1.1), .val (.int r2.1), .val (.int r3.1)] [(.ref b1290), (.int r2.1)])) t
    refine XS.iconst X1402.here hx rfl (hb hby at_206) ?_
    show Steps p.tables e below (T1402.setTop (mkF m 207 #[.val (.int xa), .val (.int xb), .val (.int xc), .val (.ref b1091), .val (.ref b1103), .val (.ref b1194), .val (.ref b1219), .val (.ref b1290), .val (.int (Int32.ofNat (own_note (own_note (own_note [] (own_av l1_1288 0)) (own_av l1_1288 1)) (own_av l1_1288 2)).length)), .val (.int r0.1), .val (.int r1.1), .val (.int r2.1), .val (.int r3.1)] [(.int (2 : Int32)), (.ref b1290), (.int r2.1)])) t
    refine OwnKit.ldAI X1402 hx hZ rfl Ve1402 (j := (2 : Int32)) (by decide) (by decide) (w := (.int ((own_note (own_note (own_note [] (own_av l1_1288 0)) (own_av l1_1288 1)) (own_av l1_1288 2)).getD 2 (-1)))) rfl (g := (mkF m 207 #[.val (.int xa), .val (.int xb), .val (.int xc), .val (.ref b1091), .val (.ref b1103), .val (.ref b1194), .val (.ref b1219), .val (.ref b1290), .val (.int (Int32.ofNat (own_note (own_note (own_note [] (own_av l1_1288 0)) (own_av l1_1288 1)) (own_av l1_1288 2)).length)), .val (.int r0.1), .val (.int r1.1), .val (.int r2.1), .val (.int r3.1)] [(.int (2 : Int32)), (.ref b1290), (.int r2.1)])) rfl rfl (hb hby at_207) _ ?_
    show Steps p.tables e below (T1402.setTop (mkF m 208 #[.val (.int xa), .val (.int xb), .val (.int xc), .val (.ref b1091), .val (.ref b1103), .val (.ref b1194), .val (.ref b1219), .val (.ref b1290), .val (.int (Int32.ofNat (own_note (own_note (own_note [] (own_av l1_1288 0)) (own_av l1_1288 1)) (own_av l1_1288 2)).length)), .val (.int r0.1), .val (.int r1.1), .val (.int r2.1), .val (.int r3.1)] [(.int ((own_note (own_note (own_note [] (own_av l1_1288 0)) (own_av l1_1288 1)) (own_av l1_1288 2)).getD 2 (-1))), (.int r2.1)])) t
    refine XS.icmpNo X1402.here hx rfl (hb hby at_208) rfl (teq z2).2 ?_
    show Steps p.tables e below (T1402.setTop (mkF m 211 #[.val (.int xa), .val (.int xb), .val (.int xc), .val (.ref b1091), .val (.ref b1103), .val (.ref b1194), .val (.ref b1219), .val (.ref b1290), .val (.int (Int32.ofNat (own_note (own_note (own_note [] (own_av l1_1288 0)) (own_av l1_1288 1)) (own_av l1_1288 2)).length)), .val (.int r0.1), .val (.int r1.1), .val (.int r2.1), .val (.int r3.1)] [])) t
    refine XS.iload X1402.here hx rfl (hb hby at_211) rfl ?_
    show Steps p.tables e below (T1402.setTop (mkF m 213 #[.val (.int xa), .val (.int xb), .val (.int xc), .val (.ref b1091), .val (.ref b1103), .val (.ref b1194), .val (.ref b1219), .val (.ref b1290), .val (.int (Int32.ofNat (own_note (own_note (own_note [] (own_av l1_1288 0)) (own_av l1_1288 1)) (own_av l1_1288 2)).length)), .val (.int r0.1), .val (.int r1.1), .val (.int r2.1), .val (.int r3.1)] [(.int r3.1)])) t
    refine XS.aload X1402.here hx rfl (hb hby at_213) rfl rfl ?_
    show Steps p.tables e below (T1402.setTop (mkF m 215 #[.val (.int xa), .val (.int xb), .val (.int xc), .val (.ref b1091), .val (.ref b1103), .val (.ref b1194), .val (.ref b1219), .val (.ref b1290), .val (.int (Int32.ofNat (own_note (own_note (own_note [] (own_av l1_1288 0)) (own_av l1_1288 1)) (own_av l1_1288 2)).length)), .val (.int r0.1), .val (.int r1.1), .val (.int r2.1), .val (.int r3.1)] [(.ref b1290), (.int r3.1)])) t
    refine XS.iconst X1402.here hx rfl (hb hby at_215) ?_
    show Steps p.tables e below (T1402.setTop (mkF m 216 #[.val (.int xa), .val (.int xb), .val (.int xc), .val (.ref b1091), .val (.ref b1103), .val (.ref b1194), .val (.ref b1219), .val (.ref b1290), .val (.int (Int32.ofNat (own_note (own_note (own_note [] (own_av l1_1288 0)) (own_av l1_1288 1)) (own_av l1_1288 2)).length)), .val (.int r0.1), .val (.int r1.1), .val (.int r2.1), .val (.int r3.1)] [(.int (3 : Int32)), (.ref b1290), (.int r3.1)])) t
    refine OwnKit.ldAI X1402 hx hZ rfl Ve1402 (j := (3 : Int32)) (by decide) (by decide) (w := (.int ((own_note (own_note (own_note [] (own_av l1_1288 0)) (own_av l1_1288 1)) (own_av l1_1288 2)).getD 3 (-1)))) rfl (g := (mkF m 216 #[.val (.int xa), .val (.int xb), .val (.int xc), .val (.ref b1091), .val (.ref b1103), .val (.ref b1194), .val (.ref b1219), .val (.ref b1290), .val (.int (Int32.ofNat (own_note (own_note (own_note [] (own_av l1_1288 0)) (own_av l1_1288 1)) (own_av l1_1288 2)).length)), .val (.int r0.1), .val (.int r1.1), .val (.int r2.1), .val (.int r3.1)] [(.int (3 : Int32)), (.ref b1290), (.int r3.1)])) rfl rfl (hb hby at_216) _ ?_
    show Steps p.tables e below (T1402.setTop (mkF m 217 #[.val (.int xa), .val (.int xb), .val (.int xc), .val (.ref b1091), .val (.ref b1103), .val (.ref b1194), .val (.ref b1219), .val (.ref b1290), .val (.int (Int32.ofNat (own_note (own_note (own_note [] (own_av l1_1288 0)) (own_av l1_1288 1)) (own_av l1_1288 2)).length)), .val (.int r0.1), .val (.int r1.1), .val (.int r2.1), .val (.int r3.1)] [(.int ((own_note (own_note (own_note [] (own_av l1_1288 0)) (own_av l1_1288 1)) (own_av l1_1288 2)).getD 3 (-1))), (.int r3.1)])) t
    refine XS.icmpNo X1402.here hx rfl (hb hby at_217) rfl (teq z3).2 ?_
    show Steps p.tables e below (T1402.setTop (mkF m 220 #[.val (.int xa), .val (.int xb), .val (.int xc), .val (.ref b1091), .val (.ref b1103), .val (.ref b1194), .val (.ref b1219), .val (.ref b1290), .val (.int (Int32.ofNat (own_note (own_note (own_note [] (own_av l1_1288 0)) (own_av l1_1288 1)) (own_av l1_1288 2)).length)), .val (.int r0.1), .val (.int r1.1), .val (.int r2.1), .val (.int r3.1)] [])) t
    refine XS.iconst X1402.here hx rfl (hb hby at_220) ?_
    show Steps p.tables e below (T1402.setTop (mkF m 221 #[.val (.int xa), .val (.int xb), .val (.int xc), .val (.ref b1091), .val (.ref b1103), .val (.ref b1194), .val (.ref b1219), .val (.ref b1290), .val (.int (Int32.ofNat (own_note (own_note (own_note [] (own_av l1_1288 0)) (own_av l1_1288 1)) (own_av l1_1288 2)).length)), .val (.int r0.1), .val (.int r1.1), .val (.int r2.1), .val (.int r3.1)] [(.int (1 : Int32))])) t
    refine XS.goto X1402.here hx rfl (pc0 := 221) (pc' := 225) rfl (hb hby at_221) (by decide) (by decide) ?_
    exact kt
  obtain ⟨fs_, hr, hrun, hended, hW, hsame⟩ := X1402.leave (hlocks := BodyLoose.notSynchronized Bd) (v := some (.int (1 : Int32))) (fun h => by rw [Bd.returns] at h; cases h)
  refine ⟨_, _, pre0 _ (st1091 _ (s1100 _ (st1101.trans (s1102 _ (st1103 _ (s1125 _ (st1126 _ (s1142 _ (st1143 _ (s1159 _ (st1160 _ (s1176 _ (st1177 _ (s1193 _ (st1194 _ (s1218 _ (st1219 _ (s1245 _ (st1246 _ (s1264 _ (st1265 _ (s1283 _ (st1284 _ (s1285 _ (st1286 _ (s1287 _ (st1288 _ (s1289 _ (st1290 _ (s1306 _ (st1307 _ (s1318 _ (st1319 _ (s1330 _ (st1331 _ (s1342 _ (st1343 _ (s1354 _ (s1355 _ (st1356 _ (st1357 _ (s1368 _ (st1369 _ (st1370 _ (s1381 _ (st1382 _ (st1383 _ (s1394 _ (s1395 _ (st1396.trans (s1397 _ (st1398.trans (s1399 _ (st1400.trans (s1401 _ (st1402.trans (s1403 _ (s1404 _ (?_))))))))))))))))))))))))))))))))))))))))))))))))))))))))))), hrun, hended, _, _, rfl, ?_, ⟨_, rfl⟩, hW, hsame.mono (by decide) (by decide)⟩
  · show Steps p.tables e below (T1402.setTop (mkF m 225 #[.val (.int xa), .val (.int xb), .val (.int xc), .val (.ref b1091), .val (.ref b1103), .val (.ref b1194), .val (.ref b1219), .val (.ref b1290), .val (.int (Int32.ofNat (own_note (own_note (own_note [] (own_av l1_1288 0)) (own_av l1_1288 1)) (own_av l1_1288 2)).length)), .val (.int r0.1), .val (.int r1.1), .val (.int r2.1), .val (.int r3.1)] [(.int (1 : Int32))])) _
    exact retN X1402 hx (t := .boolean) Bd.returns (by simp) (hb hby at_225) hr
  · show Q0 Z xa xb xc h0 n0 _ T1402.heap _
    exact ⟨rfl, N1402⟩
set_option maxRecDepth 65536 in
set_option maxHeartbeats 40000000 in
theorem comes_1 {Post : Tables → Env → Array Value → State → Outcome → State → Prop} (hpost : ∀ tb e args s v u, (limb_1_1.after args s (.returned v) u = true ∧ limb_1_2.after args s (.returned v) u = true ∧ True) → FrameEnd s (.returned v) u (Jvm.fieldLocs frame_1_writes args s ++ Jvm.arrayLocs frame_1_arrays args s ++ Jvm.staticLocs frame_1_statics s) 56 768 → Post tb e args s (.returned v) u) :
    ArmFor flags0 classFile x code maxLocals ret World_1 tables_1 room_1 Calls_1 rest_1 Pre_1 Post := by
  intro l hfl _ _ p e ha hc hk s m args below hf hA hF happ hP
  obtain ⟨hcalls, hrest, hpre⟩ := hP
  obtain ⟨-, -, -, hnamed, -, -, -, hat⟩ := (Spec.applies_iff hf).mp happ
  obtain ⟨hg, hn⟩ := and_e (Cond.before_iff.mp (show (Jvm.Cond.and given_1 narrow_1).before args s = true from hpre))
  obtain ⟨ha0, hb0⟩ := and_e hg
  obtain ⟨ha1, hb1⟩ := and_e hb0
  obtain ⟨ha2, hb2⟩ := and_e hb1
  obtain ⟨w0, w1, w2, rfl⟩ : ∃ w0 w1 w2 : Value, args = #[w0, w1, w2] := by
    have hs : args.size = 3 := by simpa [Cond.value, given_1] using ha0
    obtain ⟨L⟩ := args
    match L, hs with
    | [w0, w1, w2], _ => exact ⟨w0, w1, w2, rfl⟩
  have hw := fun d (hd : d ∈ tables_1) => atoms_spec (ws := Jvm.Cond.code x code maxLocals ret :: tables_1) hat d (List.mem_cons_of_mem _ hd)
  obtain ⟨i0, ei0⟩ := is_v ha1
  obtain rfl : w0 = (.int i0) := Option.some.inj ei0
  obtain ⟨i1, ei1⟩ := is_v ha2
  obtain rfl : w1 = (.int i1) := Option.some.inj ei1
  obtain ⟨i2, ei2⟩ := is_v hb2
  obtain rfl : w2 = (.int i2) := Option.some.inj ei2
  obtain ⟨n, o, h1, h2, h3, _, L, rfl, ⟨rfl, N⟩, hq⟩ := rm0 l s _ hw tables_1 i0 i1 i2 s.heap s.heap.size (Nat.le_refl _)  p e ha hc hk s m _ below hf ((Spec.applies_iff_loose hf).mp happ).1 ⟨rfl, State.Warmed39.refl s, rfl⟩ trivial
  refine ⟨n, _, h1, h2, h3, hpost _ _ _ _ _ _ ⟨Cond.after_iff.mpr rfl, Cond.after_iff.mpr (eq_i res_at (Term.int_eval (1)) rfl), trivial⟩ ⟨hq.1, hq.2.1, (hq.2.2.sift fun y hy => Or.inr (N y hy)).mono (by decide) (by decide)⟩⟩
theorem main_1_1 : Claimed_1_1 := comes_1 fun _ _ _ _ _ _ h hF => ⟨h.1, hF⟩
theorem main_1_2 : Claimed_1_2 := comes_1 fun _ _ _ _ _ _ h hF => ⟨h.2.1, hF⟩
end Jvm.Pilot.@@N@@
namespace Jvm.Pilot.@@N@@
open Jvm Jvm.ClassFile Sem Op Lib Jvm.Free Jvm.Stand Jvm.Pilot.@@N@@.Jvm.D
/-! MADE BY PROGRAM (witnessworld.py) out of the Statement's table words and the real class files: 14 classes; the members and pool entries that the words name. The judged class is class 1, her method 4. -/
namespace start1
open Jvm.ClassFile
def u (s : String) : CpInfo := .utf8 (stringToUtf16 s)
/-- a pool by its gaps: so many unusable entries, then the entry; so many at the end -/
def gap : Nat → List CpInfo → List CpInfo
  | 0, r => r
  | n + 1, r => .unusable :: gap n r
def poolList (es : List (Nat × CpInfo)) (last : Nat) : List CpInfo := es.foldr (fun e r => gap e.1 (e.2 :: r)) (gap last [])
def pool (es : List (Nat × CpInfo)) (last : Nat) : Array CpInfo := ⟨poolList es last⟩
def fileOf (pool : Array CpInfo) (this : Nat) (attrs : Array Attribute := #[]) (ms : Array MethodInfo := #[]) (fl : Nat := 33) (sup : Nat := 0) (ifs : Array Nat := #[]) (fds : Array FieldInfo := #[]) : ClassFile where
  minorVersion := 0
  majorVersion := 65
  constantPool := pool
  accessFlags := fl
  thisClass := this
  superClass := sup
  interfaces := ifs
  fields := fds
  methods := ms
  attributes := attrs
def plain (name : String) (sup : Option ClassId) : Class where
  name := name
  kind := .ordinary
  loader := none
  accessFlags := 33
  super := sup
  interfaces := #[]
  cf := none
  fields := #[]
  methods := #[]
  instanceTypes := #[]
  staticTypes := #[]
  resolved := #[]
  callSites := []
  init := .initialized
  statics := none
  mirror := none

def pool0 : Array CpInfo := pool [(5, u "<init>"), (0, u "()V"), (1, .class_ 10), (1, u "java/lang/Object")] 113

def k0c0 : Code := { maxStack := 0, maxLocals := 1, code := object_method_1_code, exceptionTable := #[], attributes := #[] }
def k0m0 : Method := { name := "<init>", desc := "()V", sig := { parameters := [], returnType := none }, accessFlags := 1, code := some k0c0 }
/-- java/lang/Object -/
def k0 : Class := { plain "java/lang/Object" none with
  accessFlags := 33
  interfaces := #[]
  cf := some (fileOf pool0 8 #[] #[{ accessFlags := 1, nameIndex := 5, descriptorIndex := 6, attributes := #[] }] 33 0 #[] #[])
  fields := #[]
  methods := #[k0m0]
  instanceTypes := #[]
  staticTypes := #[]
  resolved := Array.replicate 124 none
  statics := none }

def pool1 : Array CpInfo := pool [(2, .class_ 4), (0, .nameAndType 5 6), (0, u "java/lang/Object"), (0, u "<init>"), (0, u "()V"), (0, .methodref 8 9), (0, .class_ 10), (0, .nameAndType 11 12), (0, u "com/example/witness/witness/logic/StepSearch"), (0, u "reach"), (0, u "(IIIIZ)V"), (0, .methodref 8 3), (2, .integer 2147483647), (0, .methodref 18 19), (0, .class_ 20), (0, .nameAndType 21 22), (0, u "com/example/witness/witness/logic/StepSearchTakePinLaw"), (0, u "step"), (0, u "(Lcom/example/witness/witness/logic/StepSearch;I[I[I[I)V"), (0, .methodref 18 24), (0, .nameAndType 25 26), (0, u "at"), (0, u "([I[II)I"), (0, .methodref 18 28), (0, .nameAndType 29 30), (0, u "note"), (0, u "([III)I"), (0, .methodref 8 32), (0, .nameAndType 33 34), (0, u "take"), (0, u "()I"), (3, u "law"), (0, u "(III)Z")] 4

def k1m0 : Method := { name := "<init>", desc := "()V", sig := { parameters := [], returnType := none }, accessFlags := 2, code := none }
def k1c1 : Code := { maxStack := 6, maxLocals := 9, code := method_2_code, exceptionTable := #[], attributes := #[] }
def k1m1 : Method := { name := "step", desc := "(Lcom/example/witness/witness/logic/StepSearch;I[I[I[I)V", sig := { parameters := [(.object "com/example/witness/witness/logic/StepSearch"), .int, (.array .int), (.array .int), (.array .int)], returnType := none }, accessFlags := 10, code := some k1c1 }
def k1c2 : Code := { maxStack := 3, maxLocals := 4, code := method_3_code, exceptionTable := #[], attributes := #[] }
def k1m2 : Method := { name := "at", desc := "([I[II)I", sig := { parameters := [(.array .int), (.array .int), .int], returnType := some .int }, accessFlags := 10, code := some k1c2 }
def k1c3 : Code := { maxStack := 3, maxLocals := 3, code := method_4_code, exceptionTable := #[], attributes := #[] }
def k1m3 : Method := { name := "note", desc := "([III)I", sig := { parameters := [(.array .int), .int, .int], returnType := some .int }, accessFlags := 10, code := some k1c3 }
def k1c4 : Code := { maxStack := 5, maxLocals := 13, code := code, exceptionTable := #[], attributes := #[] }
def k1m4 : Method := { name := "law", desc := "(III)Z", sig := { parameters := [.int, .int, .int], returnType := some .boolean }, accessFlags := 9, code := some k1c4 }
/-- com/example/witness/witness/logic/StepSearchTakePinLaw -/
def k1 : Class := { plain "com/example/witness/witness/logic/StepSearchTakePinLaw" (some 0) with
  accessFlags := 49
  interfaces := #[]
  cf := some (fileOf pool1 18 #[] #[{ accessFlags := 2, nameIndex := 5, descriptorIndex := 6, attributes := #[] }, { accessFlags := 10, nameIndex := 21, descriptorIndex := 22, attributes := #[] }, { accessFlags := 10, nameIndex := 25, descriptorIndex := 26, attributes := #[] }, { accessFlags := 10, nameIndex := 29, descriptorIndex := 30, attributes := #[] }, { accessFlags := 9, nameIndex := 38, descriptorIndex := 39, attributes := #[] }] 49 2 #[] #[])
  fields := #[]
  methods := #[k1m0, k1m1, k1m2, k1m3, k1m4]
  instanceTypes := #[]
  staticTypes := #[]
  resolved := Array.replicate 44 none
  statics := none }

def pool2 : Array CpInfo := pool [(3, .methodref 4 5), (0, .class_ 6), (0, .nameAndType 7 8), (0, u "com/example/witness/witness/logic/StepSearch"), (0, u "<init>"), (0, u "(Lcom/example/witness/witness/logic/IntStack;)V"), (0, .methodref 10 11), (0, .class_ 12), (0, .nameAndType 7 13), (0, u "java/lang/Object"), (0, u "()V"), (0, .fieldref 4 15), (0, .nameAndType 16 17), (0, u "costs"), (0, u "[I"), (0, .fieldref 4 19), (0, .nameAndType 20 17), (0, u "froms"), (0, .fieldref 4 22), (0, .nameAndType 23 17), (0, u "transitions"), (0, .fieldref 4 25), (0, .nameAndType 26 27), (0, u "taken"), (0, u "[Z"), (0, .fieldref 4 29), (0, .nameAndType 30 17), (0, u "queue"), (0, .fieldref 4 32), (0, .nameAndType 33 34), (0, u "reached"), (0, u "Lcom/example/witness/witness/logic/IntStack;"), (3, .methodref 4 39), (0, .nameAndType 40 41), (0, u "grow"), (0, u "(I)V"), (0, .integer 2147483647), (3, .fieldref 4 47), (0, .nameAndType 48 49), (0, u "queued"), (0, u "I"), (3, .fieldref 4 54), (0, .nameAndType 55 49), (0, u "head"), (0, .class_ 57), (0, u "com/example/witness/witness/logic/StepSearch$Trail"), (6, u "()I"), (3, .methodref 69 70), (0, .class_ 71), (0, .nameAndType 72 73), (0, u "java/lang/Math"), (0, u "max"), (0, u "(II)I"), (0, .methodref 75 76), (0, .class_ 77), (0, .nameAndType 78 79), (0, u "java/util/Arrays"), (0, u "copyOf"), (0, u "([II)[I"), (0, .methodref 75 81), (0, .nameAndType 82 83), (0, u "fill"), (0, u "([IIII)V"), (0, .methodref 75 85), (0, .nameAndType 78 86), (0, u "([ZI)[Z"), (0, u "NONE"), (2, u "FIRST_CAPACITY"), (1, u "UNREACHED"), (4, u "reach"), (0, u "(IIIIZ)V"), (1, u "take")] 11

def k2c0 : Code := { maxStack := 2, maxLocals := 1, code := prog_124_method_1_code, exceptionTable := #[], attributes := #[] }
def k2m0 : Method := { name := "<init>", desc := "()V", sig := { parameters := [], returnType := none }, accessFlags := 0, code := some k2c0 }
def k2c1 : Code := { maxStack := 2, maxLocals := 2, code := prog_124_method_2_code, exceptionTable := #[], attributes := #[] }
def k2m1 : Method := { name := "<init>", desc := "(Lcom/example/witness/witness/logic/IntStack;)V", sig := { parameters := [(.object "com/example/witness/witness/logic/IntStack")], returnType := none }, accessFlags := 2, code := some k2c1 }
def k2c2 : Code := { maxStack := 4, maxLocals := 6, code := prog_124_method_4_code, exceptionTable := #[], attributes := #[] }
def k2m2 : Method := { name := "reach", desc := "(IIIIZ)V", sig := { parameters := [.int, .int, .int, .int, .boolean], returnType := none }, accessFlags := 0, code := some k2c2 }
def k2c3 : Code := { maxStack := 4, maxLocals := 3, code := prog_124_method_5_code, exceptionTable := #[], attributes := #[] }
def k2m3 : Method := { name := "take", desc := "()I", sig := { parameters := [], returnType := some .int }, accessFlags := 0, code := some k2c3 }
def k2c4 : Code := { maxStack := 4, maxLocals := 4, code := prog_124_method_9_code, exceptionTable := #[], attributes := #[] }
def k2m4 : Method := { name := "grow", desc := "(I)V", sig := { parameters := [.int], returnType := none }, accessFlags := 2, code := some k2c4 }
/-- com/example/witness/witness/logic/StepSearch -/
def k2 : Class := { plain "com/example/witness/witness/logic/StepSearch" (some 0) with
  accessFlags := 32
  interfaces := #[]
  cf := some (fileOf pool2 4 #[.nestMembers #[56]] #[{ accessFlags := 0, nameIndex := 7, descriptorIndex := 13, attributes := #[] }, { accessFlags := 2, nameIndex := 7, descriptorIndex := 8, attributes := #[] }, { accessFlags := 0, nameIndex := 97, descriptorIndex := 98, attributes := #[] }, { accessFlags := 0, nameIndex := 100, descriptorIndex := 64, attributes := #[] }, { accessFlags := 2, nameIndex := 40, descriptorIndex := 41, attributes := #[] }] 32 10 #[] #[{ accessFlags := 24, nameIndex := 87, descriptorIndex := 49, attributes := #[] }, { accessFlags := 26, nameIndex := 90, descriptorIndex := 49, attributes := #[] }, { accessFlags := 26, nameIndex := 92, descriptorIndex := 49, attributes := #[] }, { accessFlags := 2, nameIndex := 16, descriptorIndex := 17, attributes := #[] }, { accessFlags := 2, nameIndex := 20, descriptorIndex := 17, attributes := #[] }, { accessFlags := 2, nameIndex := 23, descriptorIndex := 17, attributes := #[] }, { accessFlags := 2, nameIndex := 26, descriptorIndex := 27, attributes := #[] }, { accessFlags := 18, nameIndex := 33, descriptorIndex := 34, attributes := #[] }, { accessFlags := 2, nameIndex := 30, descriptorIndex := 17, attributes := #[] }, { accessFlags := 2, nameIndex := 55, descriptorIndex := 49, attributes := #[] }, { accessFlags := 2, nameIndex := 48, descriptorIndex := 49, attributes := #[] }])
  fields := #[{ name := "NONE", type := .int, accessFlags := 24, slot := 0, constantValue := 0 }, { name := "FIRST_CAPACITY", type := .int, accessFlags := 26, slot := 1, constantValue := 0 }, { name := "UNREACHED", type := .int, accessFlags := 26, slot := 2, constantValue := 0 }, { name := "costs", type := (.array .int), accessFlags := 2, slot := 0, constantValue := 0 }, { name := "froms", type := (.array .int), accessFlags := 2, slot := 1, constantValue := 0 }, { name := "transitions", type := (.array .int), accessFlags := 2, slot := 2, constantValue := 0 }, { name := "taken", type := (.array .boolean), accessFlags := 2, slot := 3, constantValue := 0 }, { name := "reached", type := (.object "com/example/witness/witness/logic/IntStack"), accessFlags := 18, slot := 4, constantValue := 0 }, { name := "queue", type := (.array .int), accessFlags := 2, slot := 5, constantValue := 0 }, { name := "head", type := .int, accessFlags := 2, slot := 6, constantValue := 0 }, { name := "queued", type := .int, accessFlags := 2, slot := 7, constantValue := 0 }]
  methods := #[k2m0, k2m1, k2m2, k2m3, k2m4]
  instanceTypes := #[(.array .int), (.array .int), (.array .int), (.array .boolean), (.object "com/example/witness/witness/logic/IntStack"), (.array .int), .int, .int]
  staticTypes := #[.int, .int, .int]
  resolved := Array.replicate 112 none
  statics := none }

def pool3 : Array CpInfo := pool [(1, .class_ 2), (0, u "java/lang/Math"), (1, .class_ 6), (1, u "java/lang/Object"), (0, u "<init>"), (0, u "()V"), (89, .class_ 100), (1, u "java/lang/Math$RandomNumberGeneratorHolder"), (71, u "negativeZeroFloatBits"), (0, u "J"), (2, u "negativeZeroDoubleBits"), (21, u "max"), (2, u "min"), (43, u "$assertionsDisabled"), (0, u "Z"), (88, u "(II)I"), (2, u "twoToTheDoubleScaleDown"), (0, u "D"), (4, u "twoToTheDoubleScaleUp"), (9, u "E"), (3, u "PI"), (2, u "TAU"), (2, u "DEGREES_TO_RADIANS"), (0, u "RADIANS_TO_DEGREES")] 94

def k3m0 : Method := { name := "<init>", desc := "()V", sig := { parameters := [], returnType := none }, accessFlags := 2, code := none }
def k3c1 : Code := { maxStack := 2, maxLocals := 2, code := jdk_29_method_65_code, exceptionTable := #[], attributes := #[] }
def k3m1 : Method := { name := "max", desc := "(II)I", sig := { parameters := [.int, .int], returnType := some .int }, accessFlags := 9, code := some k3c1 }
def k3c2 : Code := { maxStack := 2, maxLocals := 2, code := jdk_29_method_69_code, exceptionTable := #[], attributes := #[] }
def k3m2 : Method := { name := "min", desc := "(II)I", sig := { parameters := [.int, .int], returnType := some .int }, accessFlags := 9, code := some k3c2 }
/-- java/lang/Math -/
def k3 : Class := { plain "java/lang/Math" (some 0) with
  accessFlags := 49
  interfaces := #[]
  cf := some (fileOf pool3 1 #[.nestMembers #[98]] #[{ accessFlags := 2, nameIndex := 7, descriptorIndex := 8, attributes := #[] }, { accessFlags := 9, nameIndex := 198, descriptorIndex := 335, attributes := #[] }, { accessFlags := 9, nameIndex := 201, descriptorIndex := 335, attributes := #[] }] 49 4 #[] #[{ accessFlags := 25, nameIndex := 354, descriptorIndex := 339, attributes := #[] }, { accessFlags := 25, nameIndex := 358, descriptorIndex := 339, attributes := #[] }, { accessFlags := 25, nameIndex := 361, descriptorIndex := 339, attributes := #[] }, { accessFlags := 26, nameIndex := 364, descriptorIndex := 339, attributes := #[] }, { accessFlags := 26, nameIndex := 365, descriptorIndex := 339, attributes := #[] }, { accessFlags := 26, nameIndex := 172, descriptorIndex := 173, attributes := #[] }, { accessFlags := 26, nameIndex := 176, descriptorIndex := 173, attributes := #[] }, { accessFlags := 8, nameIndex := 344, descriptorIndex := 339, attributes := #[] }, { accessFlags := 8, nameIndex := 338, descriptorIndex := 339, attributes := #[] }, { accessFlags := 4120, nameIndex := 245, descriptorIndex := 246, attributes := #[] }])
  fields := #[{ name := "E", type := .double, accessFlags := 25, slot := 0, constantValue := 0 }, { name := "PI", type := .double, accessFlags := 25, slot := 1, constantValue := 0 }, { name := "TAU", type := .double, accessFlags := 25, slot := 2, constantValue := 0 }, { name := "DEGREES_TO_RADIANS", type := .double, accessFlags := 26, slot := 3, constantValue := 0 }, { name := "RADIANS_TO_DEGREES", type := .double, accessFlags := 26, slot := 4, constantValue := 0 }, { name := "negativeZeroFloatBits", type := .long, accessFlags := 26, slot := 5, constantValue := 0 }, { name := "negativeZeroDoubleBits", type := .long, accessFlags := 26, slot := 6, constantValue := 0 }, { name := "twoToTheDoubleScaleUp", type := .double, accessFlags := 8, slot := 7, constantValue := 0 }, { name := "twoToTheDoubleScaleDown", type := .double, accessFlags := 8, slot := 8, constantValue := 0 }, { name := "$assertionsDisabled", type := .boolean, accessFlags := 4120, slot := 9, constantValue := 0 }]
  methods := #[k3m0, k3m1, k3m2]
  instanceTypes := #[]
  staticTypes := #[.double, .double, .double, .double, .double, .long, .long, .double, .double, .boolean]
  resolved := Array.replicate 460 none
  statics := none }

def pool4 : Array CpInfo := pool [(2, .class_ 4), (1, u "java/lang/Object"), (0, u "<init>"), (0, u "()V"), (5, u "([IIII)V"), (0, .methodref 14 15), (0, .class_ 16), (0, .nameAndType 17 18), (0, u "java/util/Arrays"), (0, u "rangeCheck"), (0, u "(III)V"), (55, .class_ 76), (1, u "java/util/Arrays$NaturalOrder"), (36, .class_ 115), (1, u "java/util/Arrays$LegacyMergeSort"), (1, u "Z"), (32, .methodref 151 152), (0, .class_ 153), (0, .nameAndType 154 155), (0, u "java/lang/System"), (0, u "arraycopy"), (0, u "(Ljava/lang/Object;ILjava/lang/Object;II)V"), (146, u "copyOf"), (1, .methodref 305 306), (0, .class_ 307), (0, .nameAndType 308 309), (0, u "java/lang/Math"), (0, u "min"), (0, u "(II)I"), (65, .class_ 376), (0, u "java/util/Arrays$ArrayList"), (68, u "$assertionsDisabled"), (269, u "MIN_ARRAY_SORT_GRAN"), (0, u "I"), (2, u "INSERTIONSORT_THRESHOLD"), (120, u "fill"), (30, u "([II)[I"), (4, u "([ZI)[Z"), (98, .class_ 976), (0, u "java/util/Arrays$ArrayItr")] 52

def k4m0 : Method := { name := "<init>", desc := "()V", sig := { parameters := [], returnType := none }, accessFlags := 2, code := none }
def k4c1 : Code := { maxStack := 4, maxLocals := 3, code := jdk_65_method_30_code, exceptionTable := #[], attributes := #[] }
def k4m1 : Method := { name := "rangeCheck", desc := "(III)V", sig := { parameters := [.int, .int, .int], returnType := none }, accessFlags := 8, code := some k4c1 }
def k4c2 : Code := { maxStack := 3, maxLocals := 5, code := jdk_65_method_104_code, exceptionTable := #[], attributes := #[] }
def k4m2 : Method := { name := "fill", desc := "([IIII)V", sig := { parameters := [(.array .int), .int, .int, .int], returnType := none }, accessFlags := 9, code := some k4c2 }
def k4c3 : Code := { maxStack := 6, maxLocals := 3, code := jdk_65_method_123_code, exceptionTable := #[], attributes := #[] }
def k4m3 : Method := { name := "copyOf", desc := "([II)[I", sig := { parameters := [(.array .int), .int], returnType := some (.array .int) }, accessFlags := 9, code := some k4c3 }
def k4c4 : Code := { maxStack := 6, maxLocals := 3, code := jdk_65_method_128_code, exceptionTable := #[], attributes := #[] }
def k4m4 : Method := { name := "copyOf", desc := "([ZI)[Z", sig := { parameters := [(.array .boolean), .int], returnType := some (.array .boolean) }, accessFlags := 9, code := some k4c4 }
/-- java/util/Arrays -/
def k4 : Class := { plain "java/util/Arrays" (some 0) with
  accessFlags := 49
  interfaces := #[]
  cf := some (fileOf pool4 14 #[.nestMembers #[975, 375, 113, 74]] #[{ accessFlags := 2, nameIndex := 5, descriptorIndex := 6, attributes := #[] }, { accessFlags := 8, nameIndex := 17, descriptorIndex := 18, attributes := #[] }, { accessFlags := 9, nameIndex := 840, descriptorIndex := 12, attributes := #[] }, { accessFlags := 9, nameIndex := 302, descriptorIndex := 871, attributes := #[] }, { accessFlags := 9, nameIndex := 302, descriptorIndex := 876, attributes := #[] }] 49 2 #[] #[{ accessFlags := 26, nameIndex := 715, descriptorIndex := 716, attributes := #[] }, { accessFlags := 26, nameIndex := 719, descriptorIndex := 716, attributes := #[] }, { accessFlags := 4120, nameIndex := 445, descriptorIndex := 117, attributes := #[] }])
  fields := #[{ name := "MIN_ARRAY_SORT_GRAN", type := .int, accessFlags := 26, slot := 0, constantValue := 0 }, { name := "INSERTIONSORT_THRESHOLD", type := .int, accessFlags := 26, slot := 1, constantValue := 0 }, { name := "$assertionsDisabled", type := .boolean, accessFlags := 4120, slot := 2, constantValue := 0 }]
  methods := #[k4m0, k4m1, k4m2, k4m3, k4m4]
  instanceTypes := #[]
  staticTypes := #[.int, .int, .boolean]
  resolved := Array.replicate 1029 none
  statics := none }

def pool5 : Array CpInfo := pool [(2, .class_ 4), (1, u "java/lang/Object"), (0, u "<init>"), (0, u "()V"), (1, .class_ 10), (1, u "java/lang/System"), (0, u "allowSecurityManager"), (0, u "I"), (16, u "cons"), (0, u "Ljava/io/Console;"), (77, .class_ 110), (1, u "java/lang/System$CallersHolder"), (43, u "initialErrStream"), (0, u "Ljava/io/PrintStream;"), (19, u "security"), (0, u "Ljava/lang/SecurityManager;"), (31, .class_ 209), (0, u "java/lang/System$1"), (7, u "props"), (0, u "Ljava/util/Properties;"), (2, u "lineSeparator"), (0, u "Ljava/lang/String;"), (96, .class_ 321), (1, u "java/lang/System$LoggerFinder"), (5, .class_ 328), (0, u "java/lang/System$Logger"), (67, u "err"), (2, u "out"), (91, u "notSupportedJnuEncoding"), (15, u "in"), (17, u "initialIn"), (0, u "Ljava/io/InputStream;"), (35, u "bootLayer"), (0, u "Ljava/lang/ModuleLayer;"), (99, .class_ 664), (0, u "java/lang/System$2"), (9, u "NEVER"), (2, u "MAYBE"), (49, u "arraycopy"), (0, u "(Ljava/lang/Object;ILjava/lang/Object;II)V"), (72, .class_ 802), (0, u "java/lang/System$Logger$Level")] 31

def k5m0 : Method := { name := "<init>", desc := "()V", sig := { parameters := [], returnType := none }, accessFlags := 2, code := none }
def k5m1 : Method := { name := "arraycopy", desc := "(Ljava/lang/Object;ILjava/lang/Object;II)V", sig := { parameters := [(.object "java/lang/Object"), .int, (.object "java/lang/Object"), .int, .int], returnType := none }, accessFlags := 265, code := none }
/-- java/lang/System -/
def k5 : Class := { plain "java/lang/System" (some 0) with
  accessFlags := 49
  interfaces := #[]
  cf := some (fileOf pool5 8 #[.nestMembers #[319, 327, 801, 108, 663, 208]] #[{ accessFlags := 2, nameIndex := 5, descriptorIndex := 6, attributes := #[] }, { accessFlags := 265, nameIndex := 727, descriptorIndex := 728, attributes := #[] }] 49 2 #[] #[{ accessFlags := 25, nameIndex := 507, descriptorIndex := 526, attributes := #[] }, { accessFlags := 25, nameIndex := 399, descriptorIndex := 155, attributes := #[] }, { accessFlags := 25, nameIndex := 396, descriptorIndex := 155, attributes := #[] }, { accessFlags := 10, nameIndex := 525, descriptorIndex := 526, attributes := #[] }, { accessFlags := 26, nameIndex := 674, descriptorIndex := 12, attributes := #[] }, { accessFlags := 26, nameIndex := 677, descriptorIndex := 12, attributes := #[] }, { accessFlags := 10, nameIndex := 11, descriptorIndex := 12, attributes := #[] }, { accessFlags := 74, nameIndex := 175, descriptorIndex := 176, attributes := #[] }, { accessFlags := 10, nameIndex := 491, descriptorIndex := 222, attributes := #[] }, { accessFlags := 74, nameIndex := 29, descriptorIndex := 30, attributes := #[] }, { accessFlags := 74, nameIndex := 154, descriptorIndex := 155, attributes := #[] }, { accessFlags := 10, nameIndex := 217, descriptorIndex := 218, attributes := #[] }, { accessFlags := 10, nameIndex := 221, descriptorIndex := 222, attributes := #[] }, { accessFlags := 8, nameIndex := 562, descriptorIndex := 563, attributes := #[] }])
  fields := #[{ name := "in", type := (.object "java/io/InputStream"), accessFlags := 25, slot := 0, constantValue := 0 }, { name := "out", type := (.object "java/io/PrintStream"), accessFlags := 25, slot := 1, constantValue := 0 }, { name := "err", type := (.object "java/io/PrintStream"), accessFlags := 25, slot := 2, constantValue := 0 }, { name := "initialIn", type := (.object "java/io/InputStream"), accessFlags := 10, slot := 3, constantValue := 0 }, { name := "NEVER", type := .int, accessFlags := 26, slot := 4, constantValue := 0 }, { name := "MAYBE", type := .int, accessFlags := 26, slot := 5, constantValue := 0 }, { name := "allowSecurityManager", type := .int, accessFlags := 10, slot := 6, constantValue := 0 }, { name := "security", type := (.object "java/lang/SecurityManager"), accessFlags := 74, slot := 7, constantValue := 0 }, { name := "notSupportedJnuEncoding", type := (.object "java/lang/String"), accessFlags := 10, slot := 8, constantValue := 0 }, { name := "cons", type := (.object "java/io/Console"), accessFlags := 74, slot := 9, constantValue := 0 }, { name := "initialErrStream", type := (.object "java/io/PrintStream"), accessFlags := 74, slot := 10, constantValue := 0 }, { name := "props", type := (.object "java/util/Properties"), accessFlags := 10, slot := 11, constantValue := 0 }, { name := "lineSeparator", type := (.object "java/lang/String"), accessFlags := 10, slot := 12, constantValue := 0 }, { name := "bootLayer", type := (.object "java/lang/ModuleLayer"), accessFlags := 8, slot := 13, constantValue := 0 }]
  methods := #[k5m0, k5m1]
  instanceTypes := #[]
  staticTypes := #[(.object "java/io/InputStream"), (.object "java/io/PrintStream"), (.object "java/io/PrintStream"), (.object "java/io/InputStream"), .int, .int, .int, (.object "java/lang/SecurityManager"), (.object "java/lang/String"), (.object "java/io/Console"), (.object "java/io/PrintStream"), (.object "java/util/Properties"), (.object "java/lang/String"), (.object "java/lang/ModuleLayer")]
  resolved := Array.replicate 834 none
  statics := none }

def pool6 : Array CpInfo := pool [(1, u "java/lang/Cloneable"), (0, .class_ 1), (0, u "java/lang/Object"), (0, .class_ 3)] 3

/-- java/lang/Cloneable -/
def k6 : Class := { plain "java/lang/Cloneable" (some 0) with
  accessFlags := 1537
  interfaces := #[]
  cf := some (fileOf pool6 2 #[] #[] 1537 4 #[] #[])
  fields := #[]
  methods := #[]
  instanceTypes := #[]
  staticTypes := #[]
  resolved := Array.replicate 8 none
  statics := none }

def pool7 : Array CpInfo := pool [(1, u "java/io/Serializable"), (0, .class_ 1), (0, u "java/lang/Object"), (0, .class_ 3)] 3

/-- java/io/Serializable -/
def k7 : Class := { plain "java/io/Serializable" (some 0) with
  accessFlags := 1537
  interfaces := #[]
  cf := some (fileOf pool7 2 #[] #[] 1537 4 #[] #[])
  fields := #[]
  methods := #[]
  instanceTypes := #[]
  staticTypes := #[]
  resolved := Array.replicate 8 none
  statics := none }

/-- the primitive boolean -/
def k8 : Class := { plain "boolean" none with kind := .primitive 'Z', accessFlags := 0x411 }
/-- [Z -/
def k9 : Class := { plain "[Z" (some 0) with kind := .array 8 .boolean, interfaces := #[6, 7], accessFlags := 1041 }

/-- the primitive byte -/
def k10 : Class := { plain "byte" none with kind := .primitive 'B', accessFlags := 0x411 }
/-- [B -/
def k11 : Class := { plain "[B" (some 0) with kind := .array 10 .byte, interfaces := #[6, 7], accessFlags := 1041 }

/-- the primitive int -/
def k12 : Class := { plain "int" none with kind := .primitive 'I', accessFlags := 0x411 }
/-- [I -/
def k13 : Class := { plain "[I" (some 0) with kind := .array 12 .int, interfaces := #[6, 7], accessFlags := 1041 }

def heap : Heap := #[]
def classes : Array Class := #[k0, k1, k2, k3, k4, k5, k6, k7, k8, k9, k10, k11, k12, k13]
def interned : List (Array UInt16 × Addr) := []
def slotsUsed : Nat := 0
def theMethod : MethodId := ⟨1, 4⟩
def args0 : Array Value := #[.int 5, .int 6, .int 7]
def aboutOver (below : List Frame) : State where
  vm := { classes := classes, interned := interned.toArray }
  heap := heap
  slotsUsed := slotsUsed
  threads := #[{ frames := .invoking theMethod args0 :: below }]
def below0 : List Frame := [.native { method := ⟨0, 0⟩, args := #[] }]
def about1 : State := aboutOver below0
def p0 : Program := .bare "" "" ""
def e0 : Env := launch0.env 0 0 0
theorem w_frames : about1.frames = Frame.invoking theMethod args0 :: below0 := rfl
set_option maxRecDepth 65536 in
theorem w_args : argsFit about1.vm theMethod args0 = true := by decide +kernel
set_option maxRecDepth 65536 in
theorem w_heap : heapFits about1 = true := by decide +kernel
set_option maxRecDepth 65536 in
theorem w_runnable : about1.curStatus? = some .runnable := by decide +kernel
set_option maxRecDepth 65536 in
theorem w_alone : about1.alone = true := by decide +kernel
set_option maxRecDepth 65536 in
theorem w_named : about1.methodNamed? x = some theMethod := by decide +kernel
set_option maxRecDepth 65536 in
theorem w_hears : about1.hears theMethod below0 = true := by decide +kernel
set_option maxRecDepth 65536 in
theorem w_ripe : about1.ripe theMethod args0 below0 = true := by decide +kernel
theorem w_running : about1.status = .running := rfl
set_option maxRecDepth 65536 in
theorem w_room : about1.hasRoom e0.platform room_1 = true :=
  launch0.hasRoom_least _ room_1 (by decide +kernel) (by decide +kernel) (by decide +kernel) (by decide +kernel) (by decide +kernel) (by decide +kernel)
theorem allAtoms_all (ts : List Jvm.Cond) (a : Array Jvm.Value) (st : Jvm.State) : (allAtoms ts).before a st = ts.all (fun c => c.before a st) := by
  induction ts with
  | nil => rfl
  | cons c t ih =>
    show (Jvm.Cond.and c (allAtoms t)).before a st = _
    rw [Jvm.Cond.before_and, ih, List.all_cons]
def words1 : List Jvm.Cond := Jvm.Cond.code x code maxLocals ret :: tables_1
/-- a 'code' word, met by the world's own term for the bytes: nothing is compared byte by byte -/
theorem code_word {y : MethodName} {bytes : ByteArray} {mx : Nat} {rt : Option FieldType} {a : Array Value} {s : State} {m : MethodId} {meth : Method} {c : Code} (h1 : s.methodNamed? y = some m) (h2 : s.vm.method? m = some meth) (h3 : meth.code = some c) (h4 : c.code = bytes)
    (h5 : (c.maxLocals == mx && c.exceptionTable.isEmpty && decide (c.maxStack ≤ mostOperands) && decide (meth.sig.returnType = rt) && !meth.locks && decide (parseMethodDescriptor y.desc = some meth.sig)) = true) : (Jvm.Cond.code y bytes mx rt).before a s = true := by
  simp only [Bool.and_eq_true, beq_iff_eq, Bool.not_eq_true', decide_eq_true_eq] at h5
  obtain ⟨⟨⟨⟨⟨g1, g2⟩, g3⟩, g4⟩, g5⟩, g6⟩ := h5
  simp [Cond.before, Cond.holds, Cond.value, h1, h2, h3, h4, g1, g2, g3, g4, g5, g6]
def isCode : Jvm.Cond → Bool
  | .code _ _ _ _ => true
  | _ => false
theorem all_split {L : List Jvm.Cond} {P : Jvm.Cond → Bool} (h1 : L.all (fun c => isCode c || P c) = true) (h2 : ∀ c ∈ L.filter isCode, P c = true) : L.all P = true := by
  refine List.all_eq_true.mpr fun c hc => ?_
  have h := List.all_eq_true.mp h1 c hc
  rcases Bool.eq_false_or_eq_true (isCode c) with hi | hi
  · exact h2 c (List.mem_filter.mpr ⟨hc, hi⟩)
  · simpa [hi] using h
set_option maxRecDepth 65536 in
theorem w_c0 : (Jvm.Cond.code x code maxLocals ret).before args0 about1 = true := code_word (m := ⟨1, 4⟩) (meth := k1m4) (c := k1c4) (by decide +kernel) rfl rfl rfl (by decide +kernel)
set_option maxRecDepth 65536 in
theorem w_c1 : (Jvm.Cond.code ({ cls := "com/example/witness/witness/logic/StepSearch", name := "<init>", desc := "()V" } : Jvm.MethodName) prog_124_method_1_code (1 : Nat) (Option.none : Option Jvm.ClassFile.FieldType)).before args0 about1 = true := code_word (m := ⟨2, 0⟩) (meth := k2m0) (c := k2c0) (by decide +kernel) rfl rfl rfl (by decide +kernel)
set_option maxRecDepth 65536 in
theorem w_c2 : (Jvm.Cond.code ({ cls := "com/example/witness/witness/logic/StepSearch", name := "<init>", desc := "(Lcom/example/witness/witness/logic/IntStack;)V" } : Jvm.MethodName) prog_124_method_2_code (2 : Nat) (Option.none : Option Jvm.ClassFile.FieldType)).before args0 about1 = true := code_word (m := ⟨2, 1⟩) (meth := k2m1) (c := k2c1) (by decide +kernel) rfl rfl rfl (by decide +kernel)
set_option maxRecDepth 65536 in
theorem w_c3 : (Jvm.Cond.code ({ cls := "java/lang/Object", name := "<init>", desc := "()V" } : Jvm.MethodName) object_method_1_code (1 : Nat) (Option.none : Option Jvm.ClassFile.FieldType)).before args0 about1 = true := code_word (m := ⟨0, 0⟩) (meth := k0m0) (c := k0c0) (by decide +kernel) rfl rfl rfl (by decide +kernel)
set_option maxRecDepth 65536 in
theorem w_c4 : (Jvm.Cond.code ({ cls := "com/example/witness/witness/logic/StepSearchTakePinLaw", name := "step", desc := "(Lcom/example/witness/witness/logic/StepSearch;I[I[I[I)V" } : Jvm.MethodName) method_2_code (9 : Nat) (Option.none : Option Jvm.ClassFile.FieldType)).before args0 about1 = true := code_word (m := ⟨1, 1⟩) (meth := k1m1) (c := k1c1) (by decide +kernel) rfl rfl rfl (by decide +kernel)
set_option maxRecDepth 65536 in
theorem w_c5 : (Jvm.Cond.code ({ cls := "com/example/witness/witness/logic/StepSearch", name := "reach", desc := "(IIIIZ)V" } : Jvm.MethodName) prog_124_method_4_code (6 : Nat) (Option.none : Option Jvm.ClassFile.FieldType)).before args0 about1 = true := code_word (m := ⟨2, 2⟩) (meth := k2m2) (c := k2c2) (by decide +kernel) rfl rfl rfl (by decide +kernel)
set_option maxRecDepth 65536 in
theorem w_c6 : (Jvm.Cond.code ({ cls := "com/example/witness/witness/logic/StepSearch", name := "grow", desc := "(I)V" } : Jvm.MethodName) prog_124_method_9_code (4 : Nat) (Option.none : Option Jvm.ClassFile.FieldType)).before args0 about1 = true := code_word (m := ⟨2, 4⟩) (meth := k2m4) (c := k2c4) (by decide +kernel) rfl rfl rfl (by decide +kernel)
set_option maxRecDepth 65536 in
theorem w_c7 : (Jvm.Cond.code ({ cls := "java/lang/Math", name := "max", desc := "(II)I" } : Jvm.MethodName) jdk_29_method_65_code (2 : Nat) (Option.some Jvm.ClassFile.FieldType.int)).before args0 about1 = true := code_word (m := ⟨3, 1⟩) (meth := k3m1) (c := k3c1) (by decide +kernel) rfl rfl rfl (by decide +kernel)
set_option maxRecDepth 65536 in
theorem w_c8 : (Jvm.Cond.code ({ cls := "java/util/Arrays", name := "copyOf", desc := "([II)[I" } : Jvm.MethodName) jdk_65_method_123_code (3 : Nat) (Option.some (Jvm.ClassFile.FieldType.array Jvm.ClassFile.FieldType.int))).before args0 about1 = true := code_word (m := ⟨4, 3⟩) (meth := k4m3) (c := k4c3) (by decide +kernel) rfl rfl rfl (by decide +kernel)
set_option maxRecDepth 65536 in
theorem w_c9 : (Jvm.Cond.code ({ cls := "java/lang/Math", name := "min", desc := "(II)I" } : Jvm.MethodName) jdk_29_method_69_code (2 : Nat) (Option.some Jvm.ClassFile.FieldType.int)).before args0 about1 = true := code_word (m := ⟨3, 2⟩) (meth := k3m2) (c := k3c2) (by decide +kernel) rfl rfl rfl (by decide +kernel)
set_option maxRecDepth 65536 in
theorem w_c10 : (Jvm.Cond.code ({ cls := "java/util/Arrays", name := "fill", desc := "([IIII)V" } : Jvm.MethodName) jdk_65_method_104_code (5 : Nat) (Option.none : Option Jvm.ClassFile.FieldType)).before args0 about1 = true := code_word (m := ⟨4, 2⟩) (meth := k4m2) (c := k4c2) (by decide +kernel) rfl rfl rfl (by decide +kernel)
set_option maxRecDepth 65536 in
theorem w_c11 : (Jvm.Cond.code ({ cls := "java/util/Arrays", name := "rangeCheck", desc := "(III)V" } : Jvm.MethodName) jdk_65_method_30_code (3 : Nat) (Option.none : Option Jvm.ClassFile.FieldType)).before args0 about1 = true := code_word (m := ⟨4, 1⟩) (meth := k4m1) (c := k4c1) (by decide +kernel) rfl rfl rfl (by decide +kernel)
set_option maxRecDepth 65536 in
theorem w_c12 : (Jvm.Cond.code ({ cls := "java/util/Arrays", name := "copyOf", desc := "([ZI)[Z" } : Jvm.MethodName) jdk_65_method_128_code (3 : Nat) (Option.some (Jvm.ClassFile.FieldType.array Jvm.ClassFile.FieldType.boolean))).before args0 about1 = true := code_word (m := ⟨4, 4⟩) (meth := k4m4) (c := k4c4) (by decide +kernel) rfl rfl rfl (by decide +kernel)
set_option maxRecDepth 65536 in
theorem w_c13 : (Jvm.Cond.code ({ cls := "com/example/witness/witness/logic/StepSearchTakePinLaw", name := "at", desc := "([I[II)I" } : Jvm.MethodName) method_3_code (4 : Nat) (Option.some Jvm.ClassFile.FieldType.int)).before args0 about1 = true := code_word (m := ⟨1, 2⟩) (meth := k1m2) (c := k1c2) (by decide +kernel) rfl rfl rfl (by decide +kernel)
set_option maxRecDepth 65536 in
theorem w_c14 : (Jvm.Cond.code ({ cls := "com/example/witness/witness/logic/StepSearchTakePinLaw", name := "note", desc := "([III)I" } : Jvm.MethodName) method_4_code (3 : Nat) (Option.some Jvm.ClassFile.FieldType.int)).before args0 about1 = true := code_word (m := ⟨1, 3⟩) (meth := k1m3) (c := k1c3) (by decide +kernel) rfl rfl rfl (by decide +kernel)
set_option maxRecDepth 65536 in
theorem w_c15 : (Jvm.Cond.code ({ cls := "com/example/witness/witness/logic/StepSearch", name := "take", desc := "()I" } : Jvm.MethodName) prog_124_method_5_code (3 : Nat) (Option.some Jvm.ClassFile.FieldType.int)).before args0 about1 = true := code_word (m := ⟨2, 3⟩) (meth := k2m3) (c := k2c3) (by decide +kernel) rfl rfl rfl (by decide +kernel)
def codes1 : List Jvm.Cond := [Jvm.Cond.code x code maxLocals ret, Jvm.Cond.code ({ cls := "com/example/witness/witness/logic/StepSearch", name := "<init>", desc := "()V" } : Jvm.MethodName) prog_124_method_1_code (1 : Nat) (Option.none : Option Jvm.ClassFile.FieldType), Jvm.Cond.code ({ cls := "com/example/witness/witness/logic/StepSearch", name := "<init>", desc := "(Lcom/example/witness/witness/logic/IntStack;)V" } : Jvm.MethodName) prog_124_method_2_code (2 : Nat) (Option.none : Option Jvm.ClassFile.FieldType), Jvm.Cond.code ({ cls := "java/lang/Object", name := "<init>", desc := "()V" } : Jvm.MethodName) object_method_1_code (1 : Nat) (Option.none : Option Jvm.ClassFile.FieldType), Jvm.Cond.code ({ cls := "com/example/witness/witness/logic/StepSearchTakePinLaw", name := "step", desc := "(Lcom/example/witness/witness/logic/StepSearch;I[I[I[I)V" } : Jvm.MethodName) method_2_code (9 : Nat) (Option.none : Option Jvm.ClassFile.FieldType), Jvm.Cond.code ({ cls := "com/example/witness/witness/logic/StepSearch", name := "reach", desc := "(IIIIZ)V" } : Jvm.MethodName) prog_124_method_4_code (6 : Nat) (Option.none : Option Jvm.ClassFile.FieldType), Jvm.Cond.code ({ cls := "com/example/witness/witness/logic/StepSearch", name := "grow", desc := "(I)V" } : Jvm.MethodName) prog_124_method_9_code (4 : Nat) (Option.none : Option Jvm.ClassFile.FieldType), Jvm.Cond.code ({ cls := "java/lang/Math", name := "max", desc := "(II)I" } : Jvm.MethodName) jdk_29_method_65_code (2 : Nat) (Option.some Jvm.ClassFile.FieldType.int), Jvm.Cond.code ({ cls := "java/util/Arrays", name := "copyOf", desc := "([II)[I" } : Jvm.MethodName) jdk_65_method_123_code (3 : Nat) (Option.some (Jvm.ClassFile.FieldType.array Jvm.ClassFile.FieldType.int)), Jvm.Cond.code ({ cls := "java/lang/Math", name := "min", desc := "(II)I" } : Jvm.MethodName) jdk_29_method_69_code (2 : Nat) (Option.some Jvm.ClassFile.FieldType.int), Jvm.Cond.code ({ cls := "java/util/Arrays", name := "fill", desc := "([IIII)V" } : Jvm.MethodName) jdk_65_method_104_code (5 : Nat) (Option.none : Option Jvm.ClassFile.FieldType), Jvm.Cond.code ({ cls := "java/util/Arrays", name := "rangeCheck", desc := "(III)V" } : Jvm.MethodName) jdk_65_method_30_code (3 : Nat) (Option.none : Option Jvm.ClassFile.FieldType), Jvm.Cond.code ({ cls := "java/util/Arrays", name := "copyOf", desc := "([ZI)[Z" } : Jvm.MethodName) jdk_65_method_128_code (3 : Nat) (Option.some (Jvm.ClassFile.FieldType.array Jvm.ClassFile.FieldType.boolean)), Jvm.Cond.code ({ cls := "com/example/witness/witness/logic/StepSearchTakePinLaw", name := "at", desc := "([I[II)I" } : Jvm.MethodName) method_3_code (4 : Nat) (Option.some Jvm.ClassFile.FieldType.int), Jvm.Cond.code ({ cls := "com/example/witness/witness/logic/StepSearchTakePinLaw", name := "note", desc := "([III)I" } : Jvm.MethodName) method_4_code (3 : Nat) (Option.some Jvm.ClassFile.FieldType.int), Jvm.Cond.code ({ cls := "com/example/witness/witness/logic/StepSearch", name := "take", desc := "()I" } : Jvm.MethodName) prog_124_method_5_code (3 : Nat) (Option.some Jvm.ClassFile.FieldType.int)]
set_option maxRecDepth 65536 in
theorem codes_eq : words1.filter isCode = codes1 := rfl
theorem w_codes : ∀ c ∈ words1.filter isCode, c.before args0 about1 = true := by
  rw [codes_eq]
  intro c hc
  simp only [codes1, List.mem_cons, List.not_mem_nil, or_false] at hc
  rcases hc with rfl | rfl | rfl | rfl | rfl | rfl | rfl | rfl | rfl | rfl | rfl | rfl | rfl | rfl | rfl | rfl
  · exact w_c0
  · exact w_c1
  · exact w_c2
  · exact w_c3
  · exact w_c4
  · exact w_c5
  · exact w_c6
  · exact w_c7
  · exact w_c8
  · exact w_c9
  · exact w_c10
  · exact w_c11
  · exact w_c12
  · exact w_c13
  · exact w_c14
  · exact w_c15
set_option maxRecDepth 65536 in
theorem w_t1 : (words1.take 24).all (fun c => isCode c || c.before args0 about1) = true := by decide +kernel
set_option maxRecDepth 65536 in
theorem w_t2 : ((words1.drop 24).take 24).all (fun c => isCode c || c.before args0 about1) = true := by decide +kernel
set_option maxRecDepth 65536 in
theorem w_t3 : (((words1.drop 24).drop 24).take 24).all (fun c => isCode c || c.before args0 about1) = true := by decide +kernel
set_option maxRecDepth 65536 in
theorem w_t4 : (((words1.drop 24).drop 24).drop 24).all (fun c => isCode c || c.before args0 about1) = true := by decide +kernel
theorem w_tables : (allAtoms (Jvm.Cond.code x code maxLocals ret :: tables_1)).before args0 about1 = true := by
  rw [allAtoms_all]
  show words1.all (fun c => c.before args0 about1) = true
  refine all_split ?_ w_codes
  rw [← List.take_append_drop 24 words1, List.all_append, w_t1, ← List.take_append_drop 24 (words1.drop 24), List.all_append, w_t2, ← List.take_append_drop 24 ((words1.drop 24).drop 24), List.all_append, w_t3, w_t4]
  rfl
set_option maxRecDepth 65536 in
theorem w_case : (Jvm.Cond.and given_1 narrow_1).before args0 about1 = true := by decide +kernel
theorem w_applies : (headSpec (Jvm.Cond.code x code maxLocals ret :: tables_1) room_1).applies x e0.platform about1 = true :=
  (Spec.applies_iff w_frames).mpr ⟨w_running, w_runnable, w_alone, w_named, w_hears, w_ripe, w_room, w_tables⟩
theorem atStart : AtStart classFile x code maxLocals ret World_1 tables_1 room_1 Calls_1 rest_1 Pre_1 launch0 p0 e0 about1 theMethod args0 below0 :=
  ⟨lists_1, trivial, launch0.admits_env _ _ _, launch0.least_env, fairChoices_fair.cas, fairChoices_fair.clock, w_frames, w_args, w_heap, w_applies, trivial, trivial, w_case⟩
end start1
theorem witness_1 : WitnessClaimed_1 := ⟨start1.p0, start1.e0, start1.about1, start1.theMethod, start1.args0, start1.below0, start1.atStart⟩
end Jvm.Pilot.@@N@@
