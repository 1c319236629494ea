import JvmDerived
import JvmDerived.Pilot.@@N@@Statement
import JvmDerived.Pilot.@@N@@Code
set_option linter.unusedVariables false
set_option linter.unusedSimpArgs false
namespace Jvm.RoadKit
open Sem ClassFile Op Lib Jvm.Stand Jvm.Free Jvm.LawKit
section New
variable {p : Program} {l : Launch} {e : Env} {R : Room} {s : State} {m : MethodId} {args : Array Value} {below : List Frame} {meth : Method} {c : Code} {T : State} {locs : List Loc} {cells slots : Nat}
theorem retI (X : Stand p l e R s m args below meth c T locs cells slots) (hx : p.tables.exec = Jvm.exec) {pc : Nat} {Ls : Array Slot} {z : Int32} {rest : List Value} (hret : meth.sig.returnType = some .int) (hd : decode c.code pc = .ok (.ireturn, 1)) {fs : List Frame}
    (hl : ∀ (f : JFrame) (acts : List Action), f.method = m → f.locked = none → f.entered = [] → (doReturn e (T.setTop f) acts (some (.int z))).1 = T.setFrames fs) : Steps p.tables e below (T.setTop (mkF m pc Ls (.int z :: rest))) (T.setFrames fs) := by
  have hm' : T.vm.method? m = some meth := X.method'
  have hn : narrow .int (.int z) = .int z := rfl
  show Steps p.tables e below (T.setTop { method := m, pc := pc, locals := Ls, stack := _ :: rest, locked := none }) _
  jvm_step X.here [X.here.top, hx, hd, hm', hret, hn]
  first | (intro acts; rw [hl _ acts rfl rfl rfl]) | rw [hl _ _ rfl rfl rfl]
  exact Steps.refl _
end New
end Jvm.RoadKit
namespace Jvm.Pilot.@@N@@
open Jvm Jvm.ClassFile Sem Op Lib Jvm.Free Jvm.Stand Jvm.LawKit Jvm.RoadKit Bundle Jvm.Pilot.@@N@@.Jvm.D
def QP (r : Option Value) (h0 : Heap) (n0 : Nat) (v : Option Value) (h : Heap) (L : List Loc) : Prop := v = r ∧ Fr n0 L ∧ h = h0
def Ctx (p : Program) (s : State) (m : MethodId) (meth : Method) (c : Code) (Z : State) (a0 : Array Value) (own : String) (bytes : ByteArray) (ml : Nat) (rt : Option FieldType) (name : String) : Prop :=
  p.tables.exec = Jvm.exec ∧ Z.Warmed39 s.vm ∧ (∀ d ∈ tables_1, d.before a0 Z = true) ∧ c.code = bytes ∧ c.maxLocals = ml ∧ s.vm.findClass own = some m.cls ∧ meth.sig.returnType = rt ∧ meth.locks = false ∧ meth.name = name
/-- from T with the frame g on top the run comes to a return, of which Φ holds -/
def Runs (p : Program) (e : Env) (below : List Frame) (s : State) (Φ : Option Value → Heap → List Loc → Prop) (k n : Nat) (T : State) (g : JFrame) : Prop :=
  ∃ s₂ o, Steps p.tables e below (T.setTop g) s₂ ∧ s₂.status = .running ∧ Ended s₂ below o ∧ ∃ v L, o = .returned v ∧ Φ v s₂.heap L ∧ FrameEnd s o s₂ L k n
section Own
variable {p : Program} {l : Launch} {e : Env} {R : Room} {s : State} {m : MethodId} {args : Array Value} {below : List Frame} {meth : Method} {c : Code} {T T' T0 Z : State} {a0 : Array Value} {locs : List Loc} {cells slots k n n0 : Nat} {h0 : Heap} {g g' : JFrame} {Φ : Option Value → Heap → List Loc → Prop}
theorem Runs.via (h : ∀ t, Steps p.tables e below (T'.setTop g') t → Steps p.tables e below (T.setTop g) t) (r : Runs p e below s Φ k n T' g') : Runs p e below s Φ k n T g := by
  obtain ⟨s₂, o, h1, r⟩ := r
  exact ⟨s₂, o, h _ h1, r⟩
theorem QP.cast {r r' : Option Value} (h : r = r') (H : Runs p e below s (QP r' h0 n0) k n T g) : Runs p e below s (QP r h0 n0) k n T g := by rw [h]; exact H
theorem own_retI (X : Stand p l e R s m args below meth c T locs cells slots) (hx : p.tables.exec = Jvm.exec) (hlk : meth.locks = false) (hret : meth.sig.returnType = some .int) {pc : Nat} {Ls : Array Slot} {z : Int32} {rest : List Value} (hd : decode c.code pc = .ok (.ireturn, 1)) (hk : cells ≤ k) (hn : slots ≤ n) (hΦ : Φ (some (.int z)) T.heap locs) :
    Runs p e below s Φ k n T (mkF m pc Ls (.int z :: rest)) := by
  obtain ⟨fs, hr, hrun, hended, hW, hsame⟩ := X.leave (v := some (.int z)) (fun h => by rw [hret] at h; cases h) hlk
  exact ⟨_, _, retI X hx hret hd hr, hrun, hended, _, _, rfl, hΦ, ⟨_, rfl⟩, hW, hsame.mono hk hn⟩
theorem own_retN (X : Stand p l e R s m args below meth c T locs cells slots) (hx : p.tables.exec = Jvm.exec) (hlk : meth.locks = false) {t : FieldType} (hret : meth.sig.returnType = some t) (ht : t = .boolean ∨ t = .byte ∨ t = .char ∨ t = .short) {pc : Nat} {Ls : Array Slot} {z : Int32} {rest : List Value} (hd : decode c.code pc = .ok (.ireturn, 1)) (hk : cells ≤ k) (hn : slots ≤ n) (hΦ : Φ (some (.int (nar t z))) T.heap locs) :
    Runs p e below s Φ k n T (mkF m pc Ls (.int z :: rest)) := by
  obtain ⟨fs, hr, hrun, hended, hW, hsame⟩ := X.leave (v := some (.int (nar t z))) (fun h => by rw [hret] at h; cases h) hlk
  exact ⟨_, _, retN X hx hret ht hd hr, hrun, hended, _, _, rfl, hΦ, ⟨_, rfl⟩, hW, hsame.mono hk hn⟩
theorem own_retJ (X : Stand p l e R s m args below meth c T locs cells slots) (hx : p.tables.exec = Jvm.exec) (hlk : meth.locks = false) (hret : meth.sig.returnType = some .long) {pc : Nat} {Ls : Array Slot} {z : Int64} (hd : decode c.code pc = .ok (.lreturn, 1)) (hk : cells ≤ k) (hn : slots ≤ n) (hΦ : Φ (some (.long z)) T.heap locs) :
    Runs p e below s Φ k n T (mkF m pc Ls [.long z]) := by
  obtain ⟨fs, hr, hrun, hended, hW, hsame⟩ := X.leave (v := some (.long z)) (fun h => by rw [hret] at h; cases h) hlk
  exact ⟨_, _, X.lreturnOut hx hret hd hr, hrun, hended, _, _, rfl, hΦ, ⟨_, rfl⟩, hW, hsame.mono hk hn⟩
theorem own_privSel {s : State} {args : Array Value} {y : MethodName} {n : Nat} (hwi : (Cond.instantiable y.cls n).before args s = true) (hp : (Cond.privateMethod y).before args s = true) (hinst : (Cond.instanceMethod y).before args s = true) (hy : y.cls ≠ "java/lang/invoke/MethodHandle" ∧ y.cls ≠ "java/lang/invoke/VarHandle") : (Cond.selects y.cls y y).before args s = true := by
  obtain ⟨c, k, h1, h2, h3, h4, -⟩ := Cond.instantiable_spec hwi
  exact selects_self_of_private h1 h2 (by simp only [Bool.or_eq_false_iff] at h4; exact h4.1) (Cond.privateMethod_at hp) hinst hy
theorem own_retV (X : Stand p l e R s m args below meth c T locs cells slots) (hx : p.tables.exec = Jvm.exec) (hlk : meth.locks = false) (hret : meth.sig.returnType = none) {pc : Nat} {Ls : Array Slot} (hd : decode c.code pc = .ok (.return_, 1)) (hk : cells ≤ k) (hn : slots ≤ n) (hΦ : Φ none T.heap locs) :
    Runs p e below s Φ k n T (mkF m pc Ls []) := by
  obtain ⟨fs, hr, hrun, hended, hW, hsame⟩ := X.leave (v := none) (fun _ => rfl) hlk
  exact ⟨_, _, X.returnOut hx hret hd hr, hrun, hended, _, _, rfl, hΦ, ⟨_, rfl⟩, hW, hsame.mono hk hn⟩
theorem own_retR (X : Stand p l e R s m args below meth c T locs cells slots) (hx : p.tables.exec = Jvm.exec) (hlk : meth.locks = false) {t : FieldType} (hret : meth.sig.returnType = some t) (ht : t.isReference = true) {pc : Nat} {Ls : Array Slot} {a : Addr} {rest : List Value} (hd : decode c.code pc = .ok (.areturn, 1)) (hk : cells ≤ k) (hn : slots ≤ n) (hΦ : Φ (some (.ref a)) T.heap locs) :
    Runs p e below s Φ k n T (mkF m pc Ls (.ref a :: rest)) := by
  obtain ⟨fs, hr, hrun, hended, hW, hsame⟩ := X.leave (v := some (.ref a)) (fun h => by rw [hret] at h; cases h) hlk
  exact ⟨_, _, retOut X hx hret (by cases t <;> first | rfl | (cases ht; done)) (Or.inr (Or.inr (Or.inr (Or.inr ⟨rfl, ht, rfl⟩)))) hd hr, hrun, hended, _, _, rfl, hΦ, ⟨_, rfl⟩, hW, hsame.mono hk hn⟩
theorem bindE {α β : Type} {G : Prop} {x : Option α} {k : α → Option β} {r : β} (hr : x.bind k = some r) (H : ∀ v, x = some v → k v = some r → G) : G := by
  cases x with
  | none => exact nomatch hr
  | some v => exact H v rfl hr
def letO {α β : Type} (x : α) (k : α → β) : β := k x
theorem letE {α β : Type} {G : Prop} {x : α} {k : α → Option β} {r : β} (hr : letO x k = some r) (H : ∀ v, v = x → k v = some r → G) : G := H x rfl hr
theorem iteE {β : Type} {G P : Prop} [Decidable P] {a b : Option β} {r : β} (hr : (if P then a else b) = some r) (H1 : P → a = some r → G) (H2 : ¬ P → b = some r → G) : G := by
  by_cases h : P
  · rw [if_pos h] at hr; exact H1 h hr
  · rw [if_neg h] at hr; exact H2 h hr
/-- an array's place, a store, its length, a new array -/
def rdO {α : Type} (xs : List α) (j : Int32) : Option α := if j < 0 then none else xs[j.toNatClampNeg]?
def wrO {α : Type} (xs : List α) (j : Int32) (v : α) : Option (List α) := if j < 0 ∨ xs.length ≤ j.toNatClampNeg then none else some (xs.set j.toNatClampNeg v)
def lenO {α : Type} (xs : List α) : Int32 := xs.length.toInt32
def mkO (n : Int32) (cap : Nat) : Option (List Int32) := if n < 0 ∨ cap < n.toNatClampNeg then none else some (List.replicate n.toNatClampNeg 0)
def mkOJ (n : Int32) (cap : Nat) : Option (List Int64) := if n < 0 ∨ cap < n.toNatClampNeg then none else some (List.replicate n.toNatClampNeg 0)
def AI (Z : State) (h : Heap) (a : Addr) (ty : FieldType) (xs : List Int32) : Prop := ∃ c : Cell, Arr Z h a c ty ∧ c.slots = (xs.map Value.int).toArray
def AJ (Z : State) (h : Heap) (a : Addr) (ty : FieldType) (xs : List Int64) : Prop := ∃ c : Cell, Arr Z h a c ty ∧ c.slots = (xs.map Value.long).toArray
section Arrs
variable {p : Program} {l : Launch} {e : Env} {R : Room} {s : State} {m : MethodId} {args : Array Value} {below : List Frame} {meth : Method} {c : Code} {T Z : State} {a0 : Array Value} {locs : List Loc} {cells slots : Nat} {h h' : Heap} {a b : Addr} {ty : FieldType} {sl : Nat} {v : Value} {ws : List Addr}
theorem AI.lt {xs : List Int32} (F : AI Z h a ty xs) : a < h.size := by obtain ⟨c, A, -⟩ := F; exact A.lt
theorem AI.ext {xs : List Int32} (F : AI Z h a ty xs) (E : Ext h h') : AI Z h' a ty xs := by obtain ⟨c, A, q⟩ := F; exact ⟨c, A.ext E, q⟩
theorem AI.other {xs : List Int32} (F : AI Z h b ty xs) (W : Wr h h' a sl v) (q : b ≠ a) : AI Z h' b ty xs := by obtain ⟨c, A, r⟩ := F; exact ⟨c, A.other W q, r⟩
theorem AI.keep {xs : List Int32} (F : AI Z h a ty xs) (K : Keep h h' ws) (q : a ∉ ws) : AI Z h' a ty xs := by obtain ⟨c, A, r⟩ := F; exact ⟨c, ⟨K.2.1 a c A.1 q, A.2⟩, r⟩
theorem AJ.lt {xs : List Int64} (F : AJ Z h a ty xs) : a < h.size := by obtain ⟨c, A, -⟩ := F; exact A.lt
theorem AJ.ext {xs : List Int64} (F : AJ Z h a ty xs) (E : Ext h h') : AJ Z h' a ty xs := by obtain ⟨c, A, q⟩ := F; exact ⟨c, A.ext E, q⟩
theorem AJ.other {xs : List Int64} (F : AJ Z h b ty xs) (W : Wr h h' a sl v) (q : b ≠ a) : AJ Z h' b ty xs := by obtain ⟨c, A, r⟩ := F; exact ⟨c, A.other W q, r⟩
theorem AJ.keep {xs : List Int64} (F : AJ Z h a ty xs) (K : Keep h h' ws) (q : a ∉ ws) : AJ Z h' a ty xs := by obtain ⟨c, A, r⟩ := F; exact ⟨c, ⟨K.2.1 a c A.1 q, A.2⟩, r⟩
theorem rd_at {α : Type} {f : α → Value} {xs : List α} {j : Int32} {z : α} {cl : Cell} (q : cl.slots = (xs.map f).toArray) (hr : rdO xs j = some z) : ¬ (j < 0 ∨ cl.slots.size ≤ j.toNatClampNeg) ∧ cl.slots[j.toNatClampNeg]? = some (f z) := by
  unfold rdO at hr
  by_cases hj : j < 0
  · rw [if_pos hj] at hr; exact nomatch hr
  · rw [if_neg hj] at hr
    obtain ⟨hi, he⟩ := List.getElem?_eq_some_iff.mp hr
    rw [q]
    refine ⟨?_, by simp [hr]⟩
    rintro (h1 | h1)
    · exact hj h1
    · simp at h1; omega
theorem wr_at2 {α : Type} {f : α → Value} {xs xs' : List α} {j : Int32} {z : α} {cl : Cell} (q : cl.slots = (xs.map f).toArray) (hr : wrO xs j z = some xs') : ¬ (j < 0 ∨ cl.slots.size ≤ j.toNatClampNeg) ∧ (cl.setSlot j.toNatClampNeg (f z)).slots = (xs'.map f).toArray := by
  unfold wrO at hr
  by_cases hj : j < 0 ∨ xs.length ≤ j.toNatClampNeg
  · rw [if_pos hj] at hr; exact nomatch hr
  · rw [if_neg hj] at hr
    obtain rfl := Option.some.inj hr
    refine ⟨by rw [q]; simpa using hj, ?_⟩
    simp only [Cell.setSlot, q]
    simp [List.map_set]
theorem ldI (X : Stand p l e R s m args below meth c T locs cells slots) (hx : p.tables.exec = Jvm.exec) (hZ : Z.Warmed39 s.vm) (eT : T.heap = h) {xs : List Int32} (A : AI Z h a .int xs) {j z : Int32} (hr : rdO xs j = some z) {g : JFrame} (hg : g.method = m) {rest : List Value} (hs : g.stack = .int j :: .ref a :: rest) (hd : decode c.code g.pc = .ok (.iaload, 1)) :
    ∀ target, Steps p.tables e below (T.setTop { g with pc := g.pc + 1, stack := .int z :: rest }) target → Steps p.tables e below (T.setTop g) target := by
  obtain ⟨cl, A, q⟩ := A
  obtain ⟨h1, h2⟩ := rd_at q hr
  exact X.iaload hx (j := j) (v := .int z) (by rw [eT]; exact A.1) (State.isArrayOf_alike hZ.alike A.2.1) A.2.2 h1 h2 hg hs hd
theorem ldB (X : Stand p l e R s m args below meth c T locs cells slots) (hx : p.tables.exec = Jvm.exec) (hZ : Z.Warmed39 s.vm) (eT : T.heap = h) {xs : List Int32} (A : AI Z h a .byte xs) {j z : Int32} (hr : rdO xs j = some z) {g : JFrame} (hg : g.method = m) {rest : List Value} (hs : g.stack = .int j :: .ref a :: rest) (hd : decode c.code g.pc = .ok (.baload, 1)) :
    ∀ target, Steps p.tables e below (T.setTop { g with pc := g.pc + 1, stack := .int z :: rest }) target → Steps p.tables e below (T.setTop g) target := by
  obtain ⟨cl, A, q⟩ := A
  obtain ⟨h1, h2⟩ := rd_at q hr
  exact X.baloadBytes hx (j := j) (v := .int z) (by rw [eT]; exact A.1) (State.isArrayOf_alike hZ.alike A.2.1) A.2.2 h1 h2 hg hs hd
theorem ldJ (X : Stand p l e R s m args below meth c T locs cells slots) (hx : p.tables.exec = Jvm.exec) (hZ : Z.Warmed39 s.vm) (eT : T.heap = h) {xs : List Int64} (A : AJ Z h a .long xs) {j : Int32} {z : Int64} (hr : rdO xs j = some z) {g : JFrame} (hg : g.method = m) {rest : List Value} (hs : g.stack = .int j :: .ref a :: rest) (hd : decode c.code g.pc = .ok (.laload, 1)) :
    ∀ target, Steps p.tables e below (T.setTop { g with pc := g.pc + 1, stack := .long z :: rest }) target → Steps p.tables e below (T.setTop g) target := by
  obtain ⟨cl, A, q⟩ := A
  obtain ⟨h1, h2⟩ := rd_at q hr
  exact X.laload hx (j := j) (v := .long z) (by rw [eT]; exact A.1) (State.isArrayOf_alike hZ.alike A.2.1) A.2.2 h1 h2 hg hs hd
theorem soI (X : Stand p l e R s m args below meth c T locs cells slots) (hx : p.tables.exec = Jvm.exec) (hZ : Z.Warmed39 s.vm) (eT : T.heap = h) {xs xs' : List Int32} (A : AI Z h a .int xs) {j z : Int32} (hr : wrO xs j z = some xs') {g : JFrame} (hg : g.method = m) {rest : List Value} (hs : g.stack = .int z :: .int j :: .ref a :: rest) (hd : decode c.code g.pc = .ok (.iastore, 1)) :
    ∃ T' h', Stand p l e R s m args below meth c T' (locs ++ [⟨a, j.toNatClampNeg⟩]) cells slots ∧ T'.heap = h' ∧ Wr h h' a j.toNatClampNeg (.int z) ∧ AI Z h' a .int xs' ∧ ∀ target, Steps p.tables e below (T'.setTop { g with pc := g.pc + 1, stack := rest }) target → Steps p.tables e below (T.setTop g) target := by
  obtain ⟨cl, A, q⟩ := A
  obtain ⟨h1, h2⟩ := wr_at2 q hr
  obtain ⟨T', h', X', e', W, st⟩ := stI X hx hZ eT A h1 hg hs hd
  exact ⟨T', h', X', e', W, ⟨_, A.same W, h2⟩, st⟩
theorem soB (X : Stand p l e R s m args below meth c T locs cells slots) (hx : p.tables.exec = Jvm.exec) (hZ : Z.Warmed39 s.vm) (eT : T.heap = h) {xs xs' : List Int32} (A : AI Z h a .byte xs) {j z : Int32} (hr : wrO xs j (z.toInt8.toInt32) = some xs') {g : JFrame} (hg : g.method = m) {rest : List Value} (hs : g.stack = .int z :: .int j :: .ref a :: rest) (hd : decode c.code g.pc = .ok (.bastore, 1)) :
    ∃ T' h', Stand p l e R s m args below meth c T' (locs ++ [⟨a, j.toNatClampNeg⟩]) cells slots ∧ T'.heap = h' ∧ Wr h h' a j.toNatClampNeg (.int (z.toInt8.toInt32)) ∧ AI Z h' a .byte xs' ∧ ∀ target, Steps p.tables e below (T'.setTop { g with pc := g.pc + 1, stack := rest }) target → Steps p.tables e below (T.setTop g) target := by
  obtain ⟨cl, A, q⟩ := A
  obtain ⟨h1, h2⟩ := wr_at2 q hr
  obtain ⟨T', h', X', e', W, st⟩ := stB X hx hZ eT A h1 hg hs hd
  exact ⟨T', h', X', e', W, ⟨_, A.same W, h2⟩, st⟩
theorem soJ (X : Stand p l e R s m args below meth c T locs cells slots) (hx : p.tables.exec = Jvm.exec) (hZ : Z.Warmed39 s.vm) (eT : T.heap = h) {xs xs' : List Int64} (A : AJ Z h a .long xs) {j : Int32} {z : Int64} (hr : wrO xs j z = some xs') {g : JFrame} (hg : g.method = m) {rest : List Value} (hs : g.stack = .long z :: .int j :: .ref a :: rest) (hd : decode c.code g.pc = .ok (.lastore, 1)) :
    ∃ T' h', Stand p l e R s m args below meth c T' (locs ++ [⟨a, j.toNatClampNeg⟩]) cells slots ∧ T'.heap = h' ∧ Wr h h' a j.toNatClampNeg (.long z) ∧ AJ Z h' a .long xs' ∧ ∀ target, Steps p.tables e below (T'.setTop { g with pc := g.pc + 1, stack := rest }) target → Steps p.tables e below (T.setTop g) target := by
  obtain ⟨cl, A, q⟩ := A
  obtain ⟨h1, h2⟩ := wr_at2 q hr
  obtain ⟨T', h', X', e', W, st⟩ := stJ X hx hZ eT A h1 hg hs hd
  exact ⟨T', h', X', e', W, ⟨_, A.same W, h2⟩, st⟩
theorem lenAI (X : Stand p l e R s m args below meth c T locs cells slots) (hx : p.tables.exec = Jvm.exec) (hZ : Z.Warmed39 s.vm) (eT : T.heap = h) {xs : List Int32} (A : AI Z h a ty xs) {g : JFrame} (hg : g.method = m) {rest : List Value} (hs : g.stack = .ref a :: rest) (hd : decode c.code g.pc = .ok (.arraylength, 1)) :
    ∀ target, Steps p.tables e below (T.setTop { g with pc := g.pc + 1, stack := .int (lenO xs) :: rest }) target → Steps p.tables e below (T.setTop g) target := by
  obtain ⟨cl, A, q⟩ := A
  have e1 : cl.slots.size.toInt32 = lenO xs := by rw [q]; simp [lenO]
  intro t k
  refine X.arraylength hx (by rw [eT]; exact A.1) (State.isArrayOf_alike hZ.alike A.2.1) hg hs hd _ ?_
  rw [e1]; exact k
theorem lenAJ (X : Stand p l e R s m args below meth c T locs cells slots) (hx : p.tables.exec = Jvm.exec) (hZ : Z.Warmed39 s.vm) (eT : T.heap = h) {xs : List Int64} (A : AJ Z h a ty xs) {g : JFrame} (hg : g.method = m) {rest : List Value} (hs : g.stack = .ref a :: rest) (hd : decode c.code g.pc = .ok (.arraylength, 1)) :
    ∀ target, Steps p.tables e below (T.setTop { g with pc := g.pc + 1, stack := .int (lenO xs) :: rest }) target → Steps p.tables e below (T.setTop g) target := by
  obtain ⟨cl, A, q⟩ := A
  have e1 : cl.slots.size.toInt32 = lenO xs := by rw [q]; simp [lenO]
  intro t k
  refine X.arraylength hx (by rw [eT]; exact A.1) (State.isArrayOf_alike hZ.alike A.2.1) hg hs hd _ ?_
  rw [e1]; exact k
theorem newI (X : Stand p l e R s m args below meth c T locs cells slots) (hx : p.tables.exec = Jvm.exec) (hZ : Z.Warmed39 s.vm) {aty : ArrayType} (ht : newarray.typeOf aty = ty) (hdv : defaultValue ty = .int 0) (w : (Cond.arrayClass ty).before a0 Z = true) (eT : T.heap = h) {n : Int32} {cap : Nat} {xs : List Int32} (hr : mkO n cap = some xs) {g : JFrame} (hg : g.method = m) (hd : decode c.code g.pc = .ok (.newarray aty, 2)) {rest : List Value} (hs : g.stack = .int n :: rest) (hb : cap * 8 ≤ 536870912) (hc : cells + 1 ≤ R.cells) (hl : slots + cap ≤ R.slots) :
    ∃ T' h', Stand p l e R s m args below meth c T' locs (cells + 1) (slots + cap) ∧ T'.heap = h' ∧ Ext h h' ∧ AI Z h' h.size ty xs ∧ ∀ target, Steps p.tables e below (T'.setTop { g with pc := g.pc + 2, stack := .ref h.size :: rest }) target → Steps p.tables e below (T.setTop g) target := by
  subst ht
  unfold mkO at hr
  by_cases hn : n < 0 ∨ cap < n.toNatClampNeg
  · rw [if_pos hn] at hr; exact nomatch hr
  · rw [if_neg hn] at hr
    obtain rfl := Option.some.inj hr
    obtain ⟨T', h', cA, X', e', E, A, st⟩ := newP X hx hZ w eT hg hd hs (fun q => hn (Or.inl q)) (cap := cap) (Nat.le_of_not_lt fun q => hn (Or.inr q)) hb hc hl
    exact ⟨T', h', X', e', E, ⟨_, A, by simp [newA, hdv]⟩, st⟩
theorem newJ (X : Stand p l e R s m args below meth c T locs cells slots) (hx : p.tables.exec = Jvm.exec) (hZ : Z.Warmed39 s.vm) {aty : ArrayType} (ht : newarray.typeOf aty = .long) (w : (Cond.arrayClass .long).before a0 Z = true) (eT : T.heap = h) {n : Int32} {cap : Nat} {xs : List Int64} (hr : mkOJ n cap = some xs) {g : JFrame} (hg : g.method = m) (hd : decode c.code g.pc = .ok (.newarray aty, 2)) {rest : List Value} (hs : g.stack = .int n :: rest) (hb : cap * 8 ≤ 536870912) (hc : cells + 1 ≤ R.cells) (hl : slots + cap ≤ R.slots) :
    ∃ T' h', Stand p l e R s m args below meth c T' locs (cells + 1) (slots + cap) ∧ T'.heap = h' ∧ Ext h h' ∧ AJ Z h' h.size .long xs ∧ ∀ target, Steps p.tables e below (T'.setTop { g with pc := g.pc + 2, stack := .ref h.size :: rest }) target → Steps p.tables e below (T.setTop g) target := by
  unfold mkOJ at hr
  by_cases hn : n < 0 ∨ cap < n.toNatClampNeg
  · rw [if_pos hn] at hr; exact nomatch hr
  · rw [if_neg hn] at hr
    obtain rfl := Option.some.inj hr
    obtain ⟨T', h', cA, X', e', E, A, st⟩ := newP X hx hZ (by rw [ht]; exact w) eT hg hd hs (fun q => hn (Or.inl q)) (cap := cap) (Nat.le_of_not_lt fun q => hn (Or.inr q)) hb hc hl
    rw [ht] at A
    exact ⟨T', h', X', e', E, ⟨_, A, by simp [newA, defaultValue]⟩, st⟩
end Arrs
theorem d1_0 : decode prog_5_method_1_code 0 = .ok (.aload_n 0, 1) := by decide +kernel
theorem d1_1 : decode prog_5_method_1_code 1 = .ok (.invokespecial 1, 3) := by decide +kernel
theorem d1_4 : decode prog_5_method_1_code 4 = .ok (.aload_n 0, 1) := by decide +kernel
theorem d1_5 : decode prog_5_method_1_code 5 = .ok (.bipush 16, 2) := by decide +kernel
theorem d1_7 : decode prog_5_method_1_code 7 = .ok (.newarray .int, 2) := by decide +kernel
theorem d1_9 : decode prog_5_method_1_code 9 = .ok (.putfield 9, 3) := by decide +kernel
theorem d1_12 : decode prog_5_method_1_code 12 = .ok (.return_, 1) := by decide +kernel
def P1 (Z : State) (hE : Heap) (a1 : Addr) (q_a1_freeCount : Int32) (q_a1_next : Int32) (n0 : Nat) (r : List Int32) (v : Option Value) (h : Heap) (L : List Loc) : Prop := ∃ n1_1 : Addr, v = none ∧ Fr n0 L ∧ Keep hE h [a1] ∧ hE.size ≤ n1_1 ∧ Exa Z h a1 "com/example/postloop/postloop/IdPool" ∧ Fld Z h a1 "com/example/postloop/postloop/IdPool" "free" "[I" (.ref n1_1) ∧ Fld Z h a1 "com/example/postloop/postloop/IdPool" "freeCount" "I" (.int q_a1_freeCount) ∧ Fld Z h a1 "com/example/postloop/postloop/IdPool" "next" "I" (.int q_a1_next) ∧ AI Z h n1_1 .int r
def g1_0 (q_a1_freeCount : Int32) (q_a1_next : Int32) : Option (List Int32) := ((mkO (16 : Int32) 16).bind fun v2 => some v2)
set_option maxRecDepth 65536 in
set_option maxHeartbeats 4000000 in
theorem b1_0 {hE : Heap} {a1 : Addr} {q_a1_freeCount : Int32} {q_a1_next : Int32} {r : List Int32} (C : Ctx p s m meth c Z a0 "com/example/postloop/postloop/IdPool" prog_5_method_1_code 1 none "<init>") (X0 : Stand p l e ({ frames := 1, cells := 1, slots := 16, locals := 12 } : Room) s m args below meth c T0 locs cells slots) (e0 : T0.heap = h0) (N0 : Fr n0 locs) (hk : cells ≤ 0) (hn : slots ≤ 0) (Z1 : n0 ≤ h0.size) (KE : Keep hE h0 [a1]) (o0 : n0 ≤ a1) (E_a1_0 : Exa Z h0 a1 "com/example/postloop/postloop/IdPool") (F_a1_free_0 : Fld Z h0 a1 "com/example/postloop/postloop/IdPool" "free" "[I" .null) (F_a1_freeCount_0 : Fld Z h0 a1 "com/example/postloop/postloop/IdPool" "freeCount" "I" (.int q_a1_freeCount)) (F_a1_next_0 : Fld Z h0 a1 "com/example/postloop/postloop/IdPool" "next" "I" (.int q_a1_next)) (hr : g1_0 q_a1_freeCount q_a1_next = some r) :
    Runs p e below s (P1 Z hE a1 q_a1_freeCount q_a1_next n0 r) 1 16 T0 (mkF m 0 #[.val (.ref a1)] []) := by
  unfold g1_0 at hr
  have ⟨hx, hZ, hw, hby, hml, hown, hret, hlk, hnm⟩ := C
  refine Runs.via (T' := T0) (g' := (mkF m 1 #[.val (.ref a1)] [(.ref a1)])) (fun t k => ?_) ?_
  · show Steps p.tables e below (T0.setTop (mkF m 0 #[.val (.ref a1)] [])) t
    refine XS.aloadN X0.here hx rfl (hb hby d1_0) rfl rfl ?_
    exact k
  obtain ⟨T1, X1, e1, st1⟩ := initO X0 hx hZ hown (hw _ (List.mem_of_getElem? (i := 7) rfl)) (hw _ (List.mem_of_getElem? (i := 8) rfl)) (hw _ (List.mem_of_getElem? (i := 9) rfl)) e0 (g := (mkF m 1 #[.val (.ref a1)] [(.ref a1)])) rfl (by rw [hml]; rfl) rfl (hb hby d1_1) (by decide) (W := 0) (by show 2 * 0 + _ ≤ _; exact Nat.le_of_eq rfl) (by decide)
  refine Runs.via (T' := T1) (g' := (mkF m 4 #[.val (.ref a1)] [])) (fun t k => st1 _ k) ?_
  refine Runs.via (T' := T1) (g' := (mkF m 7 #[.val (.ref a1)] [(.int (16 : Int32)), (.ref a1)])) (fun t k => ?_) ?_
  · show Steps p.tables e below (T1.setTop (mkF m 4 #[.val (.ref a1)] [])) t
    refine XS.aloadN X1.here hx rfl (hb hby d1_4) rfl rfl ?_
    show Steps p.tables e below (T1.setTop (mkF m 5 #[.val (.ref a1)] [(.ref a1)])) t
    refine XS.bipush X1.here hx rfl (hb hby d1_5) ?_
    exact k
  refine bindE hr ?_; intro v2 hv2 hr
  obtain ⟨T2, h2, X2, e2, E2, A2, st2⟩ := newI X1 hx hZ (aty := .int) (ty := .int) rfl rfl (hw _ (List.mem_of_getElem? (i := 10) rfl)) e1 hv2 (g := (mkF m 7 #[.val (.ref a1)] [(.int (16 : Int32)), (.ref a1)])) rfl (hb hby d1_7) rfl (by decide) (by show cells + 1 ≤ 1; omega) (by show slots + 16 ≤ 16; omega)
  obtain ⟨c7_1, g2⟩ : ∃ z, z = h0.size := ⟨_, rfl⟩
  rw [← g2] at A2 st2
  have i2 := E2.1
  have E_a1_2 := E_a1_0.ext E2
  have F_a1_free_2 := F_a1_free_0.ext E2
  have F_a1_freeCount_2 := F_a1_freeCount_0.ext E2
  have F_a1_next_2 := F_a1_next_0.ext E2
  have K2 := KE.ext E2
  have zs2 : hE.size ≤ c7_1 := by have := KE.1; omega
  have zz2 : n0 ≤ h2.size := Nat.le_trans Z1 i2
  have A_c7_1_2 := A2
  have pc7_1 : @LT.lt Nat instLTNat a1 c7_1 := by have : @LT.lt Nat instLTNat _ _ := E_a1_0.lt; omega
  have sc7_1 : n0 ≤ c7_1 := by omega
  refine Runs.via (T' := T2) (g' := (mkF m 9 #[.val (.ref a1)] [(.ref c7_1), (.ref a1)])) (fun t k => st2 _ k) ?_
  obtain ⟨T3, h3, X3, e3, W3, st3⟩ := putF X2 hx hZ hown (host := "") (Or.inl (hw _ (List.mem_of_getElem? (i := 11) rfl))) Via.refl e2 F_a1_free_2 E_a1_2 (Or.inl (hw _ (List.mem_of_getElem? (i := 12) rfl))) (hw _ (List.mem_of_getElem? (i := 2) rfl)) (ty := (.array .int)) (by decide) rfl rfl (g := (mkF m 9 #[.val (.ref a1)] [(.ref c7_1), (.ref a1)])) rfl rfl (hb hby d1_9)
  have E_a1_3 : Exa Z h3 a1 "com/example/postloop/postloop/IdPool" := E_a1_2.wr W3
  have F_a1_free_3 : Fld Z h3 a1 "com/example/postloop/postloop/IdPool" "free" "[I" (.ref c7_1) := F_a1_free_2.same W3
  have F_a1_freeCount_3 : Fld Z h3 a1 "com/example/postloop/postloop/IdPool" "freeCount" "I" (.int q_a1_freeCount) := F_a1_freeCount_2.other W3 (Or.inr (slot_ne (Or.inl (hw _ (List.mem_of_getElem? (i := 19) rfl))) (Or.inl (hw _ (List.mem_of_getElem? (i := 12) rfl))) (by decide) (t := .int) (t' := (.array .int)) (by decide) (by decide)))
  have F_a1_next_3 : Fld Z h3 a1 "com/example/postloop/postloop/IdPool" "next" "I" (.int q_a1_next) := F_a1_next_2.other W3 (Or.inr (slot_ne (Or.inl (hw _ (List.mem_of_getElem? (i := 21) rfl))) (Or.inl (hw _ (List.mem_of_getElem? (i := 12) rfl))) (by decide) (t := .int) (t' := (.array .int)) (by decide) (by decide)))
  have A_c7_1_3 : AI Z h3 c7_1 .int v2 := A_c7_1_2.other W3 (by omega : @Ne Nat c7_1 a1)
  have N3 := Fr.snoc X3 N0 (by omega : n0 ≤ a1)
  have zz3 : n0 ≤ h3.size := Nat.le_trans zz2 (Keep.of_wr W3).1
  have K3 := K2.wr W3 (Or.inl (List.mem_of_getElem? (i := 0) rfl))
  refine Runs.via (T' := T3) (g' := (mkF m 12 #[.val (.ref a1)] [])) (fun t k => st3 _ k) ?_
  obtain rfl := Option.some.inj hr
  exact own_retV X3 hx hlk hret (hb hby d1_12) (by show (cells + 1) ≤ 1; omega) (by show (slots + 16) ≤ 16; omega) ⟨c7_1, rfl, N3, (by rw [e3]; exact K3), (by omega), (by rw [e3]; exact E_a1_3), (by rw [e3]; exact F_a1_free_3), (by rw [e3]; exact F_a1_freeCount_3), (by rw [e3]; exact F_a1_next_3), (by rw [e3]; exact A_c7_1_3)⟩
def f1 (q_a1_freeCount : Int32) (q_a1_next : Int32) : Option (List Int32) := g1_0 q_a1_freeCount q_a1_next
theorem pn_1 : plainName "com/example/postloop/postloop/IdPool" = true := by first | (simp [plainName, overriddenIn]; done) | decide +kernel
theorem ef_1 (m : MethodId) (a1 : Addr) : entryFrame m #[(.ref a1)] 1 = mkF m 0 #[.val (.ref a1)] [] := by first | (simp [entryFrame, mkF, argsToLocals, Value.category]; done) | rfl
set_option maxRecDepth 65536 in
set_option maxHeartbeats 4000000 in
theorem rm1 (l : Launch) (Z : State) (a0 : Array Value) (hw : ∀ d ∈ tables_1, d.before a0 Z = true) (ws : List Jvm.Cond) (a1 : Addr) (q_a1_freeCount : Int32) (q_a1_next : Int32) (hE : Heap) (n0 : Nat) (Z0 : n0 ≤ hE.size) (o0 : n0 ≤ a1) (E_a1_0 : Exa Z hE a1 "com/example/postloop/postloop/IdPool") (F_a1_free_0 : Fld Z hE a1 "com/example/postloop/postloop/IdPool" "free" "[I" .null) (F_a1_freeCount_0 : Fld Z hE a1 "com/example/postloop/postloop/IdPool" "freeCount" "I" (.int q_a1_freeCount)) (F_a1_next_0 : Fld Z hE a1 "com/example/postloop/postloop/IdPool" "next" "I" (.int q_a1_next)) (r : List Int32) (hr : f1 q_a1_freeCount q_a1_next = some r) :
    MetFree l (⟨"com/example/postloop/postloop/IdPool", "<init>", "()V"⟩ : MethodName) (head1 (Jvm.Cond.code (⟨"com/example/postloop/postloop/IdPool", "<init>", "()V"⟩ : MethodName) prog_5_method_1_code 1 none :: ws) ({ frames := 1, cells := 1, slots := 16, locals := 12 } : Room)) (fun a U => a = #[(.ref a1)] ∧ Z.Warmed39 U.vm ∧ U.heap = hE) (fun _ _ _ _ _ => True) (fun _ U o U' => ∃ v L, o = .returned v ∧ (P1 Z hE a1 q_a1_freeCount q_a1_next n0 r v U'.heap L) ∧ FrameEnd U o U' L ({ frames := 1, cells := 1, slots := 16, locals := 12 } : Room).cells ({ frames := 1, cells := 1, slots := 16, locals := 12 } : Room).slots) := by
  refine MetFree.of_bodySF (plainFor_of_name pn_1) hisR ?_
  intro p e s m args below meth c s₁ Bd hml0 hP hK
  obtain ⟨rfl, hZ, hh⟩ := hP
  have X0 : Stand p l e ({ frames := 1, cells := 1, slots := 16, locals := 12 } : Room) s m #[(.ref a1)] below meth c s₁ [] 0 0 := Stand.of_body Bd
  have e0 : s₁.heap = hE := by rw [← hh, Bd.state]; rfl
  have C : Ctx p s m meth c Z a0 "com/example/postloop/postloop/IdPool" prog_5_method_1_code 1 none "<init>" := ⟨Bd.exec, hZ, hw, Bd.bytes, hml0, findClass_of_methodNamed Bd.named, Bd.returns, BodyLoose.notSynchronized Bd, (name_of_methodNamed Bd.named Bd.method).1⟩
  refine Runs.via (fun t k => castTop (ef_1 m a1) k) (b1_0 C X0 e0 (Fr.nil n0) (by show 0 ≤ 0; omega) (by show 0 ≤ 0; omega) Z0 (Keep.refl hE [a1]) (by omega) E_a1_0 F_a1_free_0 F_a1_freeCount_0 F_a1_next_0 hr)
theorem pd_0 : parseMethodDescriptor "()V" = some ⟨[], none⟩ := by decide +kernel
theorem d3_0 : decode prog_5_method_2_code 0 = .ok (.aload_n 0, 1) := by decide +kernel
theorem d3_1 : decode prog_5_method_2_code 1 = .ok (.getfield 13, 3) := by decide +kernel
theorem d3_4 : decode prog_5_method_2_code 4 = .ok (.ifCond .le 26, 3) := by decide +kernel
theorem d3_7 : decode prog_5_method_2_code 7 = .ok (.aload_n 0, 1) := by decide +kernel
theorem d3_8 : decode prog_5_method_2_code 8 = .ok (.dup, 1) := by decide +kernel
theorem d3_9 : decode prog_5_method_2_code 9 = .ok (.getfield 13, 3) := by decide +kernel
theorem d3_12 : decode prog_5_method_2_code 12 = .ok (.iconst 1, 1) := by decide +kernel
theorem d3_13 : decode prog_5_method_2_code 13 = .ok (.isub, 1) := by decide +kernel
theorem d3_14 : decode prog_5_method_2_code 14 = .ok (.putfield 13, 3) := by decide +kernel
theorem d3_17 : decode prog_5_method_2_code 17 = .ok (.aload_n 0, 1) := by decide +kernel
theorem d3_18 : decode prog_5_method_2_code 18 = .ok (.getfield 9, 3) := by decide +kernel
theorem d3_21 : decode prog_5_method_2_code 21 = .ok (.aload_n 0, 1) := by decide +kernel
theorem d3_22 : decode prog_5_method_2_code 22 = .ok (.getfield 13, 3) := by decide +kernel
theorem d3_25 : decode prog_5_method_2_code 25 = .ok (.iaload, 1) := by decide +kernel
theorem d3_26 : decode prog_5_method_2_code 26 = .ok (.istore_n 1, 1) := by decide +kernel
theorem d3_27 : decode prog_5_method_2_code 27 = .ok (.goto 18, 3) := by decide +kernel
theorem d3_30 : decode prog_5_method_2_code 30 = .ok (.aload_n 0, 1) := by decide +kernel
theorem d3_31 : decode prog_5_method_2_code 31 = .ok (.getfield 17, 3) := by decide +kernel
theorem d3_34 : decode prog_5_method_2_code 34 = .ok (.istore_n 1, 1) := by decide +kernel
theorem d3_35 : decode prog_5_method_2_code 35 = .ok (.aload_n 0, 1) := by decide +kernel
theorem d3_36 : decode prog_5_method_2_code 36 = .ok (.dup, 1) := by decide +kernel
theorem d3_37 : decode prog_5_method_2_code 37 = .ok (.getfield 17, 3) := by decide +kernel
theorem d3_40 : decode prog_5_method_2_code 40 = .ok (.iconst 1, 1) := by decide +kernel
theorem d3_41 : decode prog_5_method_2_code 41 = .ok (.iadd, 1) := by decide +kernel
theorem d3_42 : decode prog_5_method_2_code 42 = .ok (.putfield 17, 3) := by decide +kernel
theorem d3_45 : decode prog_5_method_2_code 45 = .ok (.iload_n 1, 1) := by decide +kernel
theorem d3_46 : decode prog_5_method_2_code 46 = .ok (.ireturn, 1) := by decide +kernel
def P3 (Z : State) (hE : Heap) (a1 : Addr) (a2 : Addr) (q_a1_freeCount : Int32) (q_a1_next : Int32) (q_a2 : List Int32) (n0 : Nat) (r : Int32 × Int32 × Int32) (v : Option Value) (h : Heap) (L : List Loc) : Prop := v = some (.int r.1) ∧ Fr n0 L ∧ Keep hE h [a1] ∧ Exa Z h a1 "com/example/postloop/postloop/IdPool" ∧ Fld Z h a1 "com/example/postloop/postloop/IdPool" "free" "[I" (.ref a2) ∧ Fld Z h a1 "com/example/postloop/postloop/IdPool" "freeCount" "I" (.int r.2.1) ∧ Fld Z h a1 "com/example/postloop/postloop/IdPool" "next" "I" (.int r.2.2)
def g3_0 (q_a1_freeCount : Int32) (q_a1_next : Int32) (q_a2 : List Int32) : Option (Int32 × Int32 × Int32) := (if (0 : Int32) < q_a1_freeCount then (letO (q_a1_freeCount - (1 : Int32)) fun v4 => ((rdO q_a2 v4).bind fun v8 => some (v8, v4, q_a1_next))) else (letO (q_a1_next + (1 : Int32)) fun v11 => some (q_a1_next, q_a1_freeCount, v11)))
set_option maxRecDepth 65536 in
set_option maxHeartbeats 4000000 in
theorem b3_0 {hE : Heap} {a1 : Addr} {a2 : Addr} {q_a2 : List Int32} {q_a1_freeCount₀ : Int32} {q_a1_next₀ : Int32} {r : Int32 × Int32 × Int32} (C : Ctx p s m meth c Z a0 "com/example/postloop/postloop/IdPool" prog_5_method_2_code 2 (some .int) "take") (X0 : Stand p l e ({ frames := 0, cells := 0, slots := 0, locals := 0 } : Room) s m args below meth c T0 locs cells slots) (e0 : T0.heap = h0) (N0 : Fr n0 locs) (hk : cells ≤ 0) (hn : slots ≤ 0) (Z1 : n0 ≤ h0.size) (KE : Keep hE h0 [a1]) (o0 : n0 ≤ a1) (o1 : @LT.lt Nat instLTNat a1 a2) (q_a1_freeCount : Int32) (q_a1_next : Int32) (E_a1_0 : Exa Z h0 a1 "com/example/postloop/postloop/IdPool") (F_a1_free_0 : Fld Z h0 a1 "com/example/postloop/postloop/IdPool" "free" "[I" (.ref a2)) (F_a1_freeCount_0 : Fld Z h0 a1 "com/example/postloop/postloop/IdPool" "freeCount" "I" (.int q_a1_freeCount)) (F_a1_next_0 : Fld Z h0 a1 "com/example/postloop/postloop/IdPool" "next" "I" (.int q_a1_next)) (A_a2_0 : AI Z h0 a2 .int q_a2) (hr : g3_0 q_a1_freeCount q_a1_next q_a2 = some r) :
    Runs p e below s (P3 Z hE a1 a2 q_a1_freeCount₀ q_a1_next₀ q_a2 n0 r) 0 0 T0 (mkF m 0 #[.val (.ref a1), .unset] []) := by
  unfold g3_0 at hr
  have ⟨hx, hZ, hw, hby, hml, hown, hret, hlk, hnm⟩ := C
  refine Runs.via (T' := T0) (g' := (mkF m 1 #[.val (.ref a1), .unset] [(.ref a1)])) (fun t k => ?_) ?_
  · show Steps p.tables e below (T0.setTop (mkF m 0 #[.val (.ref a1), .unset] [])) t
    refine XS.aloadN X0.here hx rfl (hb hby d3_0) rfl rfl ?_
    exact k
  obtain ⟨T1, X1, e1, st1⟩ := getF X0 hx hZ hown (host := "") (Or.inl (hw _ (List.mem_of_getElem? (i := 18) rfl))) Via.refl e0 F_a1_freeCount_0 (g := (mkF m 1 #[.val (.ref a1), .unset] [(.ref a1)])) rfl rfl (hb hby d3_1)
  refine Runs.via (T' := T1) (g' := (mkF m 4 #[.val (.ref a1), .unset] [(.int q_a1_freeCount)])) (fun t k => st1 _ k) ?_
  refine iteE hr (fun hc2 hr => ?_) (fun hc2 hr => ?_)
  · refine Runs.via (T' := T1) (g' := (mkF m 7 #[.val (.ref a1), .unset] [])) (fun t k => ?_) ?_
    · show Steps p.tables e below (T1.setTop (mkF m 4 #[.val (.ref a1), .unset] [(.int q_a1_freeCount)])) t
      exact XS.ifNo X1.here hx rfl (hb hby d3_4) rfl ((if0 _ _).trans (tlt hc2).2.2.2) k
    refine Runs.via (T' := T1) (g' := (mkF m 9 #[.val (.ref a1), .unset] [(.ref a1), (.ref a1)])) (fun t k => ?_) ?_
    · show Steps p.tables e below (T1.setTop (mkF m 7 #[.val (.ref a1), .unset] [])) t
      refine XS.aloadN X1.here hx rfl (hb hby d3_7) rfl rfl ?_
      show Steps p.tables e below (T1.setTop (mkF m 8 #[.val (.ref a1), .unset] [(.ref a1)])) t
      refine XS.dup X1.here hx rfl (hb hby d3_8) rfl rfl ?_
      exact k
    obtain ⟨T3, X3, e3, st3⟩ := getF X1 hx hZ hown (host := "") (Or.inl (hw _ (List.mem_of_getElem? (i := 18) rfl))) Via.refl e1 F_a1_freeCount_0 (g := (mkF m 9 #[.val (.ref a1), .unset] [(.ref a1), (.ref a1)])) rfl rfl (hb hby d3_9)
    refine Runs.via (T' := T3) (g' := (mkF m 12 #[.val (.ref a1), .unset] [(.int q_a1_freeCount), (.ref a1)])) (fun t k => st3 _ k) ?_
    refine Runs.via (T' := T3) (g' := (mkF m 14 #[.val (.ref a1), .unset] [(.int (q_a1_freeCount - (1 : Int32))), (.ref a1)])) (fun t k => ?_) ?_
    · show Steps p.tables e below (T3.setTop (mkF m 12 #[.val (.ref a1), .unset] [(.int q_a1_freeCount), (.ref a1)])) t
      refine XS.iconst X3.here hx rfl (hb hby d3_12) ?_
      show Steps p.tables e below (T3.setTop (mkF m 13 #[.val (.ref a1), .unset] [(.int (1 : Int32)), (.int q_a1_freeCount), (.ref a1)])) t
      refine XS.isub X3.here hx rfl (hb hby d3_13) rfl ?_
      exact k
    refine letE hr ?_; intro v4 hv4 hr
    rw [← hv4]
    obtain ⟨T5, h5, X5, e5, W5, st5⟩ := putF X3 hx hZ hown (host := "") (Or.inl (hw _ (List.mem_of_getElem? (i := 18) rfl))) Via.refl e3 F_a1_freeCount_0 E_a1_0 (Or.inl (hw _ (List.mem_of_getElem? (i := 19) rfl))) (hw _ (List.mem_of_getElem? (i := 2) rfl)) (ty := .int) (by decide) rfl rfl (g := (mkF m 14 #[.val (.ref a1), .unset] [(.int v4), (.ref a1)])) rfl rfl (hb hby d3_14)
    have E_a1_5 : Exa Z h5 a1 "com/example/postloop/postloop/IdPool" := E_a1_0.wr W5
    have F_a1_free_5 : Fld Z h5 a1 "com/example/postloop/postloop/IdPool" "free" "[I" (.ref a2) := F_a1_free_0.other W5 (Or.inr (slot_ne (Or.inl (hw _ (List.mem_of_getElem? (i := 12) rfl))) (Or.inl (hw _ (List.mem_of_getElem? (i := 19) rfl))) (by decide) (t := (.array .int)) (t' := .int) (by decide) (by decide)))
    have F_a1_freeCount_5 : Fld Z h5 a1 "com/example/postloop/postloop/IdPool" "freeCount" "I" (.int v4) := F_a1_freeCount_0.same W5
    have F_a1_next_5 : Fld Z h5 a1 "com/example/postloop/postloop/IdPool" "next" "I" (.int q_a1_next) := F_a1_next_0.other W5 (Or.inr (slot_ne (Or.inl (hw _ (List.mem_of_getElem? (i := 21) rfl))) (Or.inl (hw _ (List.mem_of_getElem? (i := 19) rfl))) (by decide) (t := .int) (t' := .int) (by decide) (by decide)))
    have A_a2_5 : AI Z h5 a2 .int q_a2 := A_a2_0.other W5 (by omega : @Ne Nat a2 a1)
    have N5 := Fr.snoc X5 N0 (by omega : n0 ≤ a1)
    have zz5 : n0 ≤ h5.size := Nat.le_trans Z1 (Keep.of_wr W5).1
    have K5 := KE.wr W5 (Or.inl (List.mem_of_getElem? (i := 0) rfl))
    refine Runs.via (T' := T5) (g' := (mkF m 17 #[.val (.ref a1), .unset] [])) (fun t k => st5 _ k) ?_
    refine Runs.via (T' := T5) (g' := (mkF m 18 #[.val (.ref a1), .unset] [(.ref a1)])) (fun t k => ?_) ?_
    · show Steps p.tables e below (T5.setTop (mkF m 17 #[.val (.ref a1), .unset] [])) t
      refine XS.aloadN X5.here hx rfl (hb hby d3_17) rfl rfl ?_
      exact k
    obtain ⟨T6, X6, e6, st6⟩ := getF X5 hx hZ hown (host := "") (Or.inl (hw _ (List.mem_of_getElem? (i := 11) rfl))) Via.refl e5 F_a1_free_5 (g := (mkF m 18 #[.val (.ref a1), .unset] [(.ref a1)])) rfl rfl (hb hby d3_18)
    refine Runs.via (T' := T6) (g' := (mkF m 21 #[.val (.ref a1), .unset] [(.ref a2)])) (fun t k => st6 _ k) ?_
    refine Runs.via (T' := T6) (g' := (mkF m 22 #[.val (.ref a1), .unset] [(.ref a1), (.ref a2)])) (fun t k => ?_) ?_
    · show Steps p.tables e below (T6.setTop (mkF m 21 #[.val (.ref a1), .unset] [(.ref a2)])) t
      refine XS.aloadN X6.here hx rfl (hb hby d3_21) rfl rfl ?_
      exact k
    obtain ⟨T7, X7, e7, st7⟩ := getF X6 hx hZ hown (host := "") (Or.inl (hw _ (List.mem_of_getElem? (i := 18) rfl))) Via.refl e6 F_a1_freeCount_5 (g := (mkF m 22 #[.val (.ref a1), .unset] [(.ref a1), (.ref a2)])) rfl rfl (hb hby d3_22)
    refine Runs.via (T' := T7) (g' := (mkF m 25 #[.val (.ref a1), .unset] [(.int v4), (.ref a2)])) (fun t k => st7 _ k) ?_
    refine bindE hr ?_; intro v8 hv8 hr
    refine Runs.via (T' := T7) (g' := (mkF m 26 #[.val (.ref a1), .unset] [(.int v8)])) (fun t k => ldI X7 hx hZ e7 A_a2_5 hv8 (g := (mkF m 25 #[.val (.ref a1), .unset] [(.int v4), (.ref a2)])) rfl rfl (hb hby d3_25) _ k) ?_
    refine Runs.via (T' := T7) (g' := (mkF m 46 #[.val (.ref a1), .val (.int v8)] [(.int v8)])) (fun t k => ?_) ?_
    · show Steps p.tables e below (T7.setTop (mkF m 26 #[.val (.ref a1), .unset] [(.int v8)])) t
      refine XS.istoreN X7.here hx rfl (hb hby d3_26) rfl (l' := #[.val (.ref a1), .val (.int v8)]) rfl ?_
      show Steps p.tables e below (T7.setTop (mkF m 27 #[.val (.ref a1), .val (.int v8)] [])) t
      refine XS.goto X7.here hx rfl (pc0 := 27) (pc' := 45) rfl (hb hby d3_27) (by decide) (by decide) ?_
      show Steps p.tables e below (T7.setTop (mkF m 45 #[.val (.ref a1), .val (.int v8)] [])) t
      refine XS.iloadN X7.here hx rfl (hb hby d3_45) rfl ?_
      exact k
    obtain rfl := Option.some.inj hr
    exact own_retI X7 hx hlk hret (hb hby d3_46) (by show cells ≤ 0; omega) (by show slots ≤ 0; omega) ⟨rfl, N5, (by rw [e7]; exact K5), (by rw [e7]; exact E_a1_5), (by rw [e7]; exact F_a1_free_5), (by rw [e7]; exact F_a1_freeCount_5), (by rw [e7]; exact F_a1_next_5)⟩
  · refine Runs.via (T' := T1) (g' := (mkF m 30 #[.val (.ref a1), .unset] [])) (fun t k => ?_) ?_
    · show Steps p.tables e below (T1.setTop (mkF m 4 #[.val (.ref a1), .unset] [(.int q_a1_freeCount)])) t
      exact XS.ifYes X1.here hx rfl (pc0 := 4) (pc' := 30) rfl (hb hby d3_4) rfl ((if0 _ _).trans (flt hc2).2.2.2) (by decide) (by decide) k
    refine Runs.via (T' := T1) (g' := (mkF m 31 #[.val (.ref a1), .unset] [(.ref a1)])) (fun t k => ?_) ?_
    · show Steps p.tables e below (T1.setTop (mkF m 30 #[.val (.ref a1), .unset] [])) t
      refine XS.aloadN X1.here hx rfl (hb hby d3_30) rfl rfl ?_
      exact k
    obtain ⟨T9, X9, e9, st9⟩ := getF X1 hx hZ hown (host := "") (Or.inl (hw _ (List.mem_of_getElem? (i := 20) rfl))) Via.refl e1 F_a1_next_0 (g := (mkF m 31 #[.val (.ref a1), .unset] [(.ref a1)])) rfl rfl (hb hby d3_31)
    refine Runs.via (T' := T9) (g' := (mkF m 34 #[.val (.ref a1), .unset] [(.int q_a1_next)])) (fun t k => st9 _ k) ?_
    refine Runs.via (T' := T9) (g' := (mkF m 37 #[.val (.ref a1), .val (.int q_a1_next)] [(.ref a1), (.ref a1)])) (fun t k => ?_) ?_
    · show Steps p.tables e below (T9.setTop (mkF m 34 #[.val (.ref a1), .unset] [(.int q_a1_next)])) t
      refine XS.istoreN X9.here hx rfl (hb hby d3_34) rfl (l' := #[.val (.ref a1), .val (.int q_a1_next)]) rfl ?_
      show Steps p.tables e below (T9.setTop (mkF m 35 #[.val (.ref a1), .val (.int q_a1_next)] [])) t
      refine XS.aloadN X9.here hx rfl (hb hby d3_35) rfl rfl ?_
      show Steps p.tables e below (T9.setTop (mkF m 36 #[.val (.ref a1), .val (.int q_a1_next)] [(.ref a1)])) t
      refine XS.dup X9.here hx rfl (hb hby d3_36) rfl rfl ?_
      exact k
    obtain ⟨T10, X10, e10, st10⟩ := getF X9 hx hZ hown (host := "") (Or.inl (hw _ (List.mem_of_getElem? (i := 20) rfl))) Via.refl e9 F_a1_next_0 (g := (mkF m 37 #[.val (.ref a1), .val (.int q_a1_next)] [(.ref a1), (.ref a1)])) rfl rfl (hb hby d3_37)
    refine Runs.via (T' := T10) (g' := (mkF m 40 #[.val (.ref a1), .val (.int q_a1_next)] [(.int q_a1_next), (.ref a1)])) (fun t k => st10 _ k) ?_
    refine Runs.via (T' := T10) (g' := (mkF m 42 #[.val (.ref a1), .val (.int q_a1_next)] [(.int (q_a1_next + (1 : Int32))), (.ref a1)])) (fun t k => ?_) ?_
    · show Steps p.tables e below (T10.setTop (mkF m 40 #[.val (.ref a1), .val (.int q_a1_next)] [(.int q_a1_next), (.ref a1)])) t
      refine XS.iconst X10.here hx rfl (hb hby d3_40) ?_
      show Steps p.tables e below (T10.setTop (mkF m 41 #[.val (.ref a1), .val (.int q_a1_next)] [(.int (1 : Int32)), (.int q_a1_next), (.ref a1)])) t
      refine XS.iadd X10.here hx rfl (hb hby d3_41) rfl ?_
      exact k
    refine letE hr ?_; intro v11 hv11 hr
    rw [← hv11]
    obtain ⟨T12, h12, X12, e12, W12, st12⟩ := putF X10 hx hZ hown (host := "") (Or.inl (hw _ (List.mem_of_getElem? (i := 20) rfl))) Via.refl e10 F_a1_next_0 E_a1_0 (Or.inl (hw _ (List.mem_of_getElem? (i := 21) rfl))) (hw _ (List.mem_of_getElem? (i := 2) rfl)) (ty := .int) (by decide) rfl rfl (g := (mkF m 42 #[.val (.ref a1), .val (.int q_a1_next)] [(.int v11), (.ref a1)])) rfl rfl (hb hby d3_42)
    have E_a1_12 : Exa Z h12 a1 "com/example/postloop/postloop/IdPool" := E_a1_0.wr W12
    have F_a1_free_12 : Fld Z h12 a1 "com/example/postloop/postloop/IdPool" "free" "[I" (.ref a2) := F_a1_free_0.other W12 (Or.inr (slot_ne (Or.inl (hw _ (List.mem_of_getElem? (i := 12) rfl))) (Or.inl (hw _ (List.mem_of_getElem? (i := 21) rfl))) (by decide) (t := (.array .int)) (t' := .int) (by decide) (by decide)))
    have F_a1_freeCount_12 : Fld Z h12 a1 "com/example/postloop/postloop/IdPool" "freeCount" "I" (.int q_a1_freeCount) := F_a1_freeCount_0.other W12 (Or.inr (slot_ne (Or.inl (hw _ (List.mem_of_getElem? (i := 19) rfl))) (Or.inl (hw _ (List.mem_of_getElem? (i := 21) rfl))) (by decide) (t := .int) (t' := .int) (by decide) (by decide)))
    have F_a1_next_12 : Fld Z h12 a1 "com/example/postloop/postloop/IdPool" "next" "I" (.int v11) := F_a1_next_0.same W12
    have A_a2_12 : AI Z h12 a2 .int q_a2 := A_a2_0.other W12 (by omega : @Ne Nat a2 a1)
    have N12 := Fr.snoc X12 N0 (by omega : n0 ≤ a1)
    have zz12 : n0 ≤ h12.size := Nat.le_trans Z1 (Keep.of_wr W12).1
    have K12 := KE.wr W12 (Or.inl (List.mem_of_getElem? (i := 0) rfl))
    refine Runs.via (T' := T12) (g' := (mkF m 45 #[.val (.ref a1), .val (.int q_a1_next)] [])) (fun t k => st12 _ k) ?_
    refine Runs.via (T' := T12) (g' := (mkF m 46 #[.val (.ref a1), .val (.int q_a1_next)] [(.int q_a1_next)])) (fun t k => ?_) ?_
    · show Steps p.tables e below (T12.setTop (mkF m 45 #[.val (.ref a1), .val (.int q_a1_next)] [])) t
      refine XS.iloadN X12.here hx rfl (hb hby d3_45) rfl ?_
      exact k
    obtain rfl := Option.some.inj hr
    exact own_retI X12 hx hlk hret (hb hby d3_46) (by show cells ≤ 0; omega) (by show slots ≤ 0; omega) ⟨rfl, N12, (by rw [e12]; exact K12), (by rw [e12]; exact E_a1_12), (by rw [e12]; exact F_a1_free_12), (by rw [e12]; exact F_a1_freeCount_12), (by rw [e12]; exact F_a1_next_12)⟩
def f3 (q_a1_freeCount : Int32) (q_a1_next : Int32) (q_a2 : List Int32) : Option (Int32 × Int32 × Int32) := g3_0 q_a1_freeCount q_a1_next q_a2
theorem pn_3 : plainName "com/example/postloop/postloop/IdPool" = true := by first | (simp [plainName, overriddenIn]; done) | decide +kernel
theorem ef_3 (m : MethodId) (a1 : Addr) (a2 : Addr) : entryFrame m #[(.ref a1)] 2 = mkF m 0 #[.val (.ref a1), .unset] [] := by first | (simp [entryFrame, mkF, argsToLocals, Value.category]; done) | rfl
set_option maxRecDepth 65536 in
set_option maxHeartbeats 4000000 in
theorem rm3 (l : Launch) (Z : State) (a0 : Array Value) (hw : ∀ d ∈ tables_1, d.before a0 Z = true) (ws : List Jvm.Cond) (a1 : Addr) (a2 : Addr) (q_a1_freeCount : Int32) (q_a1_next : Int32) (q_a2 : List Int32) (hE : Heap) (n0 : Nat) (Z0 : n0 ≤ hE.size) (o0 : n0 ≤ a1) (o1 : @LT.lt Nat instLTNat a1 a2) (E_a1_0 : Exa Z hE a1 "com/example/postloop/postloop/IdPool") (F_a1_free_0 : Fld Z hE a1 "com/example/postloop/postloop/IdPool" "free" "[I" (.ref a2)) (F_a1_freeCount_0 : Fld Z hE a1 "com/example/postloop/postloop/IdPool" "freeCount" "I" (.int q_a1_freeCount)) (F_a1_next_0 : Fld Z hE a1 "com/example/postloop/postloop/IdPool" "next" "I" (.int q_a1_next)) (A_a2_0 : AI Z hE a2 .int q_a2) (r : Int32 × Int32 × Int32) (hr : f3 q_a1_freeCount q_a1_next q_a2 = some r) :
    MetFree l (⟨"com/example/postloop/postloop/IdPool", "take", "()I"⟩ : MethodName) (head1 (Jvm.Cond.code (⟨"com/example/postloop/postloop/IdPool", "take", "()I"⟩ : MethodName) prog_5_method_2_code 2 (some .int) :: ws) ({ frames := 0, cells := 0, slots := 0, locals := 0 } : Room)) (fun a U => a = #[(.ref a1)] ∧ Z.Warmed39 U.vm ∧ U.heap = hE) (fun _ _ _ _ _ => True) (fun _ U o U' => ∃ v L, o = .returned v ∧ (P3 Z hE a1 a2 q_a1_freeCount q_a1_next q_a2 n0 r v U'.heap L) ∧ FrameEnd U o U' L ({ frames := 0, cells := 0, slots := 0, locals := 0 } : Room).cells ({ frames := 0, cells := 0, slots := 0, locals := 0 } : Room).slots) := by
  refine MetFree.of_bodySF (plainFor_of_name pn_3) hisR ?_
  intro p e s m args below meth c s₁ Bd hml0 hP hK
  obtain ⟨rfl, hZ, hh⟩ := hP
  have X0 : Stand p l e ({ frames := 0, cells := 0, slots := 0, locals := 0 } : Room) s m #[(.ref a1)] below meth c s₁ [] 0 0 := Stand.of_body Bd
  have e0 : s₁.heap = hE := by rw [← hh, Bd.state]; rfl
  have C : Ctx p s m meth c Z a0 "com/example/postloop/postloop/IdPool" prog_5_method_2_code 2 (some .int) "take" := ⟨Bd.exec, hZ, hw, Bd.bytes, hml0, findClass_of_methodNamed Bd.named, Bd.returns, BodyLoose.notSynchronized Bd, (name_of_methodNamed Bd.named Bd.method).1⟩
  refine Runs.via (fun t k => castTop (ef_3 m a1 a2) k) (b3_0 C X0 e0 (Fr.nil n0) (by show 0 ≤ 0; omega) (by show 0 ≤ 0; omega) Z0 (Keep.refl hE [a1]) (by omega) (by omega) q_a1_freeCount q_a1_next E_a1_0 F_a1_free_0 F_a1_freeCount_0 F_a1_next_0 A_a2_0 hr)
theorem pd_1 : parseMethodDescriptor "()I" = some ⟨[], some .int⟩ := by decide +kernel
theorem d4_0 : decode prog_5_method_3_code 0 = .ok (.aload_n 0, 1) := by decide +kernel
theorem d4_1 : decode prog_5_method_3_code 1 = .ok (.getfield 13, 3) := by decide +kernel
theorem d4_4 : decode prog_5_method_3_code 4 = .ok (.aload_n 0, 1) := by decide +kernel
theorem d4_5 : decode prog_5_method_3_code 5 = .ok (.getfield 9, 3) := by decide +kernel
theorem d4_8 : decode prog_5_method_3_code 8 = .ok (.arraylength, 1) := by decide +kernel
theorem d4_9 : decode prog_5_method_3_code 9 = .ok (.if_icmp .ne 20, 3) := by decide +kernel
theorem d4_12 : decode prog_5_method_3_code 12 = .ok (.aload_n 0, 1) := by decide +kernel
theorem d4_13 : decode prog_5_method_3_code 13 = .ok (.aload_n 0, 1) := by decide +kernel
theorem d4_14 : decode prog_5_method_3_code 14 = .ok (.getfield 9, 3) := by decide +kernel
theorem d4_17 : decode prog_5_method_3_code 17 = .ok (.iconst 2, 1) := by decide +kernel
theorem d4_18 : decode prog_5_method_3_code 18 = .ok (.aload_n 0, 1) := by decide +kernel
theorem d4_19 : decode prog_5_method_3_code 19 = .ok (.getfield 13, 3) := by decide +kernel
theorem d4_22 : decode prog_5_method_3_code 22 = .ok (.imul, 1) := by decide +kernel
theorem d4_23 : decode prog_5_method_3_code 23 = .ok (.invokestatic 20, 3) := by decide +kernel
theorem d4_26 : decode prog_5_method_3_code 26 = .ok (.putfield 9, 3) := by decide +kernel
theorem d4_29 : decode prog_5_method_3_code 29 = .ok (.aload_n 0, 1) := by decide +kernel
theorem d4_30 : decode prog_5_method_3_code 30 = .ok (.getfield 9, 3) := by decide +kernel
theorem d4_33 : decode prog_5_method_3_code 33 = .ok (.aload_n 0, 1) := by decide +kernel
theorem d4_34 : decode prog_5_method_3_code 34 = .ok (.getfield 13, 3) := by decide +kernel
theorem d4_37 : decode prog_5_method_3_code 37 = .ok (.iload_n 1, 1) := by decide +kernel
theorem d4_38 : decode prog_5_method_3_code 38 = .ok (.iastore, 1) := by decide +kernel
theorem d4_39 : decode prog_5_method_3_code 39 = .ok (.aload_n 0, 1) := by decide +kernel
theorem d4_40 : decode prog_5_method_3_code 40 = .ok (.dup, 1) := by decide +kernel
theorem d4_41 : decode prog_5_method_3_code 41 = .ok (.getfield 13, 3) := by decide +kernel
theorem d4_44 : decode prog_5_method_3_code 44 = .ok (.iconst 1, 1) := by decide +kernel
theorem d4_45 : decode prog_5_method_3_code 45 = .ok (.iadd, 1) := by decide +kernel
theorem d4_46 : decode prog_5_method_3_code 46 = .ok (.putfield 13, 3) := by decide +kernel
theorem d4_49 : decode prog_5_method_3_code 49 = .ok (.return_, 1) := by decide +kernel
def P4 (Z : State) (hE : Heap) (a1 : Addr) (a2 : Addr) (q_a1_freeCount : Int32) (q_a1_next : Int32) (q_a2 : List Int32) (n0 : Nat) (r : Int32 × List Int32) (v : Option Value) (h : Heap) (L : List Loc) : Prop := v = none ∧ Fr n0 L ∧ Keep hE h [a1, a2] ∧ Exa Z h a1 "com/example/postloop/postloop/IdPool" ∧ Fld Z h a1 "com/example/postloop/postloop/IdPool" "free" "[I" (.ref a2) ∧ Fld Z h a1 "com/example/postloop/postloop/IdPool" "freeCount" "I" (.int r.1) ∧ Fld Z h a1 "com/example/postloop/postloop/IdPool" "next" "I" (.int q_a1_next) ∧ AI Z h a2 .int r.2
def g4_29 (x1 : Int32) (q_a1_freeCount : Int32) (q_a1_next : Int32) (q_a2 : List Int32) : Option (Int32 × List Int32) := ((wrO q_a2 q_a1_freeCount x1).bind fun v3 => (letO (q_a1_freeCount + (1 : Int32)) fun v5 => some (v5, v3)))
set_option maxRecDepth 65536 in
set_option maxHeartbeats 4000000 in
theorem b4_29 {hE : Heap} {a1 : Addr} {a2 : Addr} {q_a1_next : Int32} {q_a1_freeCount₀ : Int32} {q_a2₀ : List Int32} {r : Int32 × List Int32} (C : Ctx p s m meth c Z a0 "com/example/postloop/postloop/IdPool" prog_5_method_3_code 2 none "give") (X0 : Stand p l e ({ frames := 0, cells := 0, slots := 0, locals := 0 } : Room) s m args below meth c T0 locs cells slots) (e0 : T0.heap = h0) (N0 : Fr n0 locs) (hk : cells ≤ 0) (hn : slots ≤ 0) (Z1 : n0 ≤ h0.size) (KE : Keep hE h0 [a1, a2]) (o0 : n0 ≤ a1) (o1 : @LT.lt Nat instLTNat a1 a2) (q_a1_freeCount : Int32) (q_a2 : List Int32) (x1 : Int32) (E_a1_0 : Exa Z h0 a1 "com/example/postloop/postloop/IdPool") (F_a1_free_0 : Fld Z h0 a1 "com/example/postloop/postloop/IdPool" "free" "[I" (.ref a2)) (F_a1_freeCount_0 : Fld Z h0 a1 "com/example/postloop/postloop/IdPool" "freeCount" "I" (.int q_a1_freeCount)) (F_a1_next_0 : Fld Z h0 a1 "com/example/postloop/postloop/IdPool" "next" "I" (.int q_a1_next)) (A_a2_0 : AI Z h0 a2 .int q_a2) (hr : g4_29 x1 q_a1_freeCount q_a1_next q_a2 = some r) :
    Runs p e below s (P4 Z hE a1 a2 q_a1_freeCount₀ q_a1_next q_a2₀ n0 r) 0 0 T0 (mkF m 29 #[.val (.ref a1), .val (.int x1)] []) := by
  unfold g4_29 at hr
  have ⟨hx, hZ, hw, hby, hml, hown, hret, hlk, hnm⟩ := C
  refine Runs.via (T' := T0) (g' := (mkF m 30 #[.val (.ref a1), .val (.int x1)] [(.ref a1)])) (fun t k => ?_) ?_
  · show Steps p.tables e below (T0.setTop (mkF m 29 #[.val (.ref a1), .val (.int x1)] [])) t
    refine XS.aloadN X0.here hx rfl (hb hby d4_29) rfl rfl ?_
    exact k
  obtain ⟨T1, X1, e1, st1⟩ := getF X0 hx hZ hown (host := "") (Or.inl (hw _ (List.mem_of_getElem? (i := 11) rfl))) Via.refl e0 F_a1_free_0 (g := (mkF m 30 #[.val (.ref a1), .val (.int x1)] [(.ref a1)])) rfl rfl (hb hby d4_30)
  refine Runs.via (T' := T1) (g' := (mkF m 33 #[.val (.ref a1), .val (.int x1)] [(.ref a2)])) (fun t k => st1 _ k) ?_
  refine Runs.via (T' := T1) (g' := (mkF m 34 #[.val (.ref a1), .val (.int x1)] [(.ref a1), (.ref a2)])) (fun t k => ?_) ?_
  · show Steps p.tables e below (T1.setTop (mkF m 33 #[.val (.ref a1), .val (.int x1)] [(.ref a2)])) t
    refine XS.aloadN X1.here hx rfl (hb hby d4_33) rfl rfl ?_
    exact k
  obtain ⟨T2, X2, e2, st2⟩ := getF X1 hx hZ hown (host := "") (Or.inl (hw _ (List.mem_of_getElem? (i := 18) rfl))) Via.refl e1 F_a1_freeCount_0 (g := (mkF m 34 #[.val (.ref a1), .val (.int x1)] [(.ref a1), (.ref a2)])) rfl rfl (hb hby d4_34)
  refine Runs.via (T' := T2) (g' := (mkF m 37 #[.val (.ref a1), .val (.int x1)] [(.int q_a1_freeCount), (.ref a2)])) (fun t k => st2 _ k) ?_
  refine Runs.via (T' := T2) (g' := (mkF m 38 #[.val (.ref a1), .val (.int x1)] [(.int x1), (.int q_a1_freeCount), (.ref a2)])) (fun t k => ?_) ?_
  · show Steps p.tables e below (T2.setTop (mkF m 37 #[.val (.ref a1), .val (.int x1)] [(.int q_a1_freeCount), (.ref a2)])) t
    refine XS.iloadN X2.here hx rfl (hb hby d4_37) rfl ?_
    exact k
  refine bindE hr ?_; intro v3 hv3 hr
  obtain ⟨T3, h3, X3, e3, W3, A3, st3⟩ := soI X2 hx hZ e2 A_a2_0 hv3 (g := (mkF m 38 #[.val (.ref a1), .val (.int x1)] [(.int x1), (.int q_a1_freeCount), (.ref a2)])) rfl rfl (hb hby d4_38)
  have E_a1_3 : Exa Z h3 a1 "com/example/postloop/postloop/IdPool" := E_a1_0.wr W3
  have F_a1_free_3 : Fld Z h3 a1 "com/example/postloop/postloop/IdPool" "free" "[I" (.ref a2) := F_a1_free_0.other W3 (Or.inl (by omega : @Ne Nat a1 a2))
  have F_a1_freeCount_3 : Fld Z h3 a1 "com/example/postloop/postloop/IdPool" "freeCount" "I" (.int q_a1_freeCount) := F_a1_freeCount_0.other W3 (Or.inl (by omega : @Ne Nat a1 a2))
  have F_a1_next_3 : Fld Z h3 a1 "com/example/postloop/postloop/IdPool" "next" "I" (.int q_a1_next) := F_a1_next_0.other W3 (Or.inl (by omega : @Ne Nat a1 a2))
  have A_a2_3 : AI Z h3 a2 .int v3 := A3
  have N3 := Fr.snoc X3 N0 (by omega : n0 ≤ a2)
  have zz3 : n0 ≤ h3.size := Nat.le_trans Z1 (Keep.of_wr W3).1
  have K3 := KE.wr W3 (Or.inl (List.mem_of_getElem? (i := 1) rfl))
  refine Runs.via (T' := T3) (g' := (mkF m 39 #[.val (.ref a1), .val (.int x1)] [])) (fun t k => st3 _ k) ?_
  refine Runs.via (T' := T3) (g' := (mkF m 41 #[.val (.ref a1), .val (.int x1)] [(.ref a1), (.ref a1)])) (fun t k => ?_) ?_
  · show Steps p.tables e below (T3.setTop (mkF m 39 #[.val (.ref a1), .val (.int x1)] [])) t
    refine XS.aloadN X3.here hx rfl (hb hby d4_39) rfl rfl ?_
    show Steps p.tables e below (T3.setTop (mkF m 40 #[.val (.ref a1), .val (.int x1)] [(.ref a1)])) t
    refine XS.dup X3.here hx rfl (hb hby d4_40) rfl rfl ?_
    exact k
  obtain ⟨T4, X4, e4, st4⟩ := getF X3 hx hZ hown (host := "") (Or.inl (hw _ (List.mem_of_getElem? (i := 18) rfl))) Via.refl e3 F_a1_freeCount_3 (g := (mkF m 41 #[.val (.ref a1), .val (.int x1)] [(.ref a1), (.ref a1)])) rfl rfl (hb hby d4_41)
  refine Runs.via (T' := T4) (g' := (mkF m 44 #[.val (.ref a1), .val (.int x1)] [(.int q_a1_freeCount), (.ref a1)])) (fun t k => st4 _ k) ?_
  refine Runs.via (T' := T4) (g' := (mkF m 46 #[.val (.ref a1), .val (.int x1)] [(.int (q_a1_freeCount + (1 : Int32))), (.ref a1)])) (fun t k => ?_) ?_
  · show Steps p.tables e below (T4.setTop (mkF m 44 #[.val (.ref a1), .val (.int x1)] [(.int q_a1_freeCount), (.ref a1)])) t
    refine XS.iconst X4.here hx rfl (hb hby d4_44) ?_
    show Steps p.tables e below (T4.setTop (mkF m 45 #[.val (.ref a1), .val (.int x1)] [(.int (1 : Int32)), (.int q_a1_freeCount), (.ref a1)])) t
    refine XS.iadd X4.here hx rfl (hb hby d4_45) rfl ?_
    exact k
  refine letE hr ?_; intro v5 hv5 hr
  rw [← hv5]
  obtain ⟨T6, h6, X6, e6, W6, st6⟩ := putF X4 hx hZ hown (host := "") (Or.inl (hw _ (List.mem_of_getElem? (i := 18) rfl))) Via.refl e4 F_a1_freeCount_3 E_a1_3 (Or.inl (hw _ (List.mem_of_getElem? (i := 19) rfl))) (hw _ (List.mem_of_getElem? (i := 2) rfl)) (ty := .int) (by decide) rfl rfl (g := (mkF m 46 #[.val (.ref a1), .val (.int x1)] [(.int v5), (.ref a1)])) rfl rfl (hb hby d4_46)
  have E_a1_6 : Exa Z h6 a1 "com/example/postloop/postloop/IdPool" := E_a1_3.wr W6
  have F_a1_free_6 : Fld Z h6 a1 "com/example/postloop/postloop/IdPool" "free" "[I" (.ref a2) := F_a1_free_3.other W6 (Or.inr (slot_ne (Or.inl (hw _ (List.mem_of_getElem? (i := 12) rfl))) (Or.inl (hw _ (List.mem_of_getElem? (i := 19) rfl))) (by decide) (t := (.array .int)) (t' := .int) (by decide) (by decide)))
  have F_a1_freeCount_6 : Fld Z h6 a1 "com/example/postloop/postloop/IdPool" "freeCount" "I" (.int v5) := F_a1_freeCount_3.same W6
  have F_a1_next_6 : Fld Z h6 a1 "com/example/postloop/postloop/IdPool" "next" "I" (.int q_a1_next) := F_a1_next_3.other W6 (Or.inr (slot_ne (Or.inl (hw _ (List.mem_of_getElem? (i := 21) rfl))) (Or.inl (hw _ (List.mem_of_getElem? (i := 19) rfl))) (by decide) (t := .int) (t' := .int) (by decide) (by decide)))
  have A_a2_6 : AI Z h6 a2 .int v3 := A_a2_3.other W6 (by omega : @Ne Nat a2 a1)
  have N6 := Fr.snoc X6 N3 (by omega : n0 ≤ a1)
  have zz6 : n0 ≤ h6.size := Nat.le_trans zz3 (Keep.of_wr W6).1
  have K6 := K3.wr W6 (Or.inl (List.mem_of_getElem? (i := 0) rfl))
  refine Runs.via (T' := T6) (g' := (mkF m 49 #[.val (.ref a1), .val (.int x1)] [])) (fun t k => st6 _ k) ?_
  obtain rfl := Option.some.inj hr
  exact own_retV X6 hx hlk hret (hb hby d4_49) (by show cells ≤ 0; omega) (by show slots ≤ 0; omega) ⟨rfl, N6, (by rw [e6]; exact K6), (by rw [e6]; exact E_a1_6), (by rw [e6]; exact F_a1_free_6), (by rw [e6]; exact F_a1_freeCount_6), (by rw [e6]; exact F_a1_next_6), (by rw [e6]; exact A_a2_6)⟩
def g4_0 (x1 : Int32) (q_a1_freeCount : Int32) (q_a1_next : Int32) (q_a2 : List Int32) : Option (Int32 × List Int32) := (if q_a1_freeCount = (lenO q_a2) then none else (g4_29 x1 q_a1_freeCount q_a1_next q_a2))
set_option maxRecDepth 65536 in
set_option maxHeartbeats 4000000 in
theorem b4_0 {hE : Heap} {a1 : Addr} {a2 : Addr} {q_a1_next : Int32} {q_a1_freeCount₀ : Int32} {q_a2₀ : List Int32} {r : Int32 × List Int32} (C : Ctx p s m meth c Z a0 "com/example/postloop/postloop/IdPool" prog_5_method_3_code 2 none "give") (X0 : Stand p l e ({ frames := 0, cells := 0, slots := 0, locals := 0 } : Room) s m args below meth c T0 locs cells slots) (e0 : T0.heap = h0) (N0 : Fr n0 locs) (hk : cells ≤ 0) (hn : slots ≤ 0) (Z1 : n0 ≤ h0.size) (KE : Keep hE h0 [a1, a2]) (o0 : n0 ≤ a1) (o1 : @LT.lt Nat instLTNat a1 a2) (q_a1_freeCount : Int32) (q_a2 : List Int32) (x1 : Int32) (E_a1_0 : Exa Z h0 a1 "com/example/postloop/postloop/IdPool") (F_a1_free_0 : Fld Z h0 a1 "com/example/postloop/postloop/IdPool" "free" "[I" (.ref a2)) (F_a1_freeCount_0 : Fld Z h0 a1 "com/example/postloop/postloop/IdPool" "freeCount" "I" (.int q_a1_freeCount)) (F_a1_next_0 : Fld Z h0 a1 "com/example/postloop/postloop/IdPool" "next" "I" (.int q_a1_next)) (A_a2_0 : AI Z h0 a2 .int q_a2) (hr : g4_0 x1 q_a1_freeCount q_a1_next q_a2 = some r) :
    Runs p e below s (P4 Z hE a1 a2 q_a1_freeCount₀ q_a1_next q_a2₀ n0 r) 0 0 T0 (mkF m 0 #[.val (.ref a1), .val (.int x1)] []) := by
  unfold g4_0 at hr
  have ⟨hx, hZ, hw, hby, hml, hown, hret, hlk, hnm⟩ := C
  refine Runs.via (T' := T0) (g' := (mkF m 1 #[.val (.ref a1), .val (.int x1)] [(.ref a1)])) (fun t k => ?_) ?_
  · show Steps p.tables e below (T0.setTop (mkF m 0 #[.val (.ref a1), .val (.int x1)] [])) t
    refine XS.aloadN X0.here hx rfl (hb hby d4_0) rfl rfl ?_
    exact k
  obtain ⟨T1, X1, e1, st1⟩ := getF X0 hx hZ hown (host := "") (Or.inl (hw _ (List.mem_of_getElem? (i := 18) rfl))) Via.refl e0 F_a1_freeCount_0 (g := (mkF m 1 #[.val (.ref a1), .val (.int x1)] [(.ref a1)])) rfl rfl (hb hby d4_1)
  refine Runs.via (T' := T1) (g' := (mkF m 4 #[.val (.ref a1), .val (.int x1)] [(.int q_a1_freeCount)])) (fun t k => st1 _ k) ?_
  refine Runs.via (T' := T1) (g' := (mkF m 5 #[.val (.ref a1), .val (.int x1)] [(.ref a1), (.int q_a1_freeCount)])) (fun t k => ?_) ?_
  · show Steps p.tables e below (T1.setTop (mkF m 4 #[.val (.ref a1), .val (.int x1)] [(.int q_a1_freeCount)])) t
    refine XS.aloadN X1.here hx rfl (hb hby d4_4) rfl rfl ?_
    exact k
  obtain ⟨T2, X2, e2, st2⟩ := getF X1 hx hZ hown (host := "") (Or.inl (hw _ (List.mem_of_getElem? (i := 11) rfl))) Via.refl e1 F_a1_free_0 (g := (mkF m 5 #[.val (.ref a1), .val (.int x1)] [(.ref a1), (.int q_a1_freeCount)])) rfl rfl (hb hby d4_5)
  refine Runs.via (T' := T2) (g' := (mkF m 8 #[.val (.ref a1), .val (.int x1)] [(.ref a2), (.int q_a1_freeCount)])) (fun t k => st2 _ k) ?_
  refine Runs.via (T' := T2) (g' := (mkF m 9 #[.val (.ref a1), .val (.int x1)] [(.int (lenO q_a2)), (.int q_a1_freeCount)])) (fun t k => ?_) ?_
  · show Steps p.tables e below (T2.setTop (mkF m 8 #[.val (.ref a1), .val (.int x1)] [(.ref a2), (.int q_a1_freeCount)])) t
    refine lenAI X2 hx hZ e2 A_a2_0 rfl (g := (mkF m 8 #[.val (.ref a1), .val (.int x1)] [(.ref a2), (.int q_a1_freeCount)])) rfl (hb hby d4_8) _ ?_
    exact k
  refine iteE hr (fun hc3 hr => ?_) (fun hc3 hr => ?_)
  · refine Runs.via (T' := T2) (g' := (mkF m 12 #[.val (.ref a1), .val (.int x1)] [])) (fun t k => ?_) ?_
    · show Steps p.tables e below (T2.setTop (mkF m 9 #[.val (.ref a1), .val (.int x1)] [(.int (lenO q_a2)), (.int q_a1_freeCount)])) t
      exact XS.icmpNo X2.here hx rfl (hb hby d4_9) rfl (teq hc3).2 k
    refine Runs.via (T' := T2) (g' := (mkF m 14 #[.val (.ref a1), .val (.int x1)] [(.ref a1), (.ref a1)])) (fun t k => ?_) ?_
    · show Steps p.tables e below (T2.setTop (mkF m 12 #[.val (.ref a1), .val (.int x1)] [])) t
      refine XS.aloadN X2.here hx rfl (hb hby d4_12) rfl rfl ?_
      show Steps p.tables e below (T2.setTop (mkF m 13 #[.val (.ref a1), .val (.int x1)] [(.ref a1)])) t
      refine XS.aloadN X2.here hx rfl (hb hby d4_13) rfl rfl ?_
      exact k
    obtain ⟨T4, X4, e4, st4⟩ := getF X2 hx hZ hown (host := "") (Or.inl (hw _ (List.mem_of_getElem? (i := 11) rfl))) Via.refl e2 F_a1_free_0 (g := (mkF m 14 #[.val (.ref a1), .val (.int x1)] [(.ref a1), (.ref a1)])) rfl rfl (hb hby d4_14)
    refine Runs.via (T' := T4) (g' := (mkF m 17 #[.val (.ref a1), .val (.int x1)] [(.ref a2), (.ref a1)])) (fun t k => st4 _ k) ?_
    refine Runs.via (T' := T4) (g' := (mkF m 19 #[.val (.ref a1), .val (.int x1)] [(.ref a1), (.int (2 : Int32)), (.ref a2), (.ref a1)])) (fun t k => ?_) ?_
    · show Steps p.tables e below (T4.setTop (mkF m 17 #[.val (.ref a1), .val (.int x1)] [(.ref a2), (.ref a1)])) t
      refine XS.iconst X4.here hx rfl (hb hby d4_17) ?_
      show Steps p.tables e below (T4.setTop (mkF m 18 #[.val (.ref a1), .val (.int x1)] [(.int (2 : Int32)), (.ref a2), (.ref a1)])) t
      refine XS.aloadN X4.here hx rfl (hb hby d4_18) rfl rfl ?_
      exact k
    obtain ⟨T5, X5, e5, st5⟩ := getF X4 hx hZ hown (host := "") (Or.inl (hw _ (List.mem_of_getElem? (i := 18) rfl))) Via.refl e4 F_a1_freeCount_0 (g := (mkF m 19 #[.val (.ref a1), .val (.int x1)] [(.ref a1), (.int (2 : Int32)), (.ref a2), (.ref a1)])) rfl rfl (hb hby d4_19)
    refine Runs.via (T' := T5) (g' := (mkF m 22 #[.val (.ref a1), .val (.int x1)] [(.int q_a1_freeCount), (.int (2 : Int32)), (.ref a2), (.ref a1)])) (fun t k => st5 _ k) ?_
    refine Runs.via (T' := T5) (g' := (mkF m 23 #[.val (.ref a1), .val (.int x1)] [(.int ((2 : Int32) * q_a1_freeCount)), (.ref a2), (.ref a1)])) (fun t k => ?_) ?_
    · show Steps p.tables e below (T5.setTop (mkF m 22 #[.val (.ref a1), .val (.int x1)] [(.int q_a1_freeCount), (.int (2 : Int32)), (.ref a2), (.ref a1)])) t
      refine XS.imul X5.here hx rfl (hb hby d4_22) rfl ?_
      exact k
    exact nomatch hr
  · refine Runs.via (T' := T2) (g' := (mkF m 29 #[.val (.ref a1), .val (.int x1)] [])) (fun t k => ?_) ?_
    · show Steps p.tables e below (T2.setTop (mkF m 9 #[.val (.ref a1), .val (.int x1)] [(.int (lenO q_a2)), (.int q_a1_freeCount)])) t
      exact XS.icmpYes X2.here hx rfl (pc0 := 9) (pc' := 29) rfl (hb hby d4_9) rfl (feq hc3).2 (by decide) (by decide) k
    exact b4_29 C X2 e2 N0 (by show cells ≤ 0; omega) (by show slots ≤ 0; omega) Z1 KE (by omega) (by omega) q_a1_freeCount q_a2 x1 E_a1_0 F_a1_free_0 F_a1_freeCount_0 F_a1_next_0 A_a2_0 hr
def f4 (x1 : Int32) (q_a1_freeCount : Int32) (q_a1_next : Int32) (q_a2 : List Int32) : Option (Int32 × List Int32) := g4_0 x1 q_a1_freeCount q_a1_next q_a2
theorem pn_4 : plainName "com/example/postloop/postloop/IdPool" = true := by first | (simp [plainName, overriddenIn]; done) | decide +kernel
theorem ef_4 (m : MethodId) (x1 : Int32) (a1 : Addr) (a2 : Addr) : entryFrame m #[(.ref a1), (.int x1)] 2 = mkF m 0 #[.val (.ref a1), .val (.int x1)] [] := by first | (simp [entryFrame, mkF, argsToLocals, Value.category]; done) | rfl
set_option maxRecDepth 65536 in
set_option maxHeartbeats 4000000 in
theorem rm4 (l : Launch) (Z : State) (a0 : Array Value) (hw : ∀ d ∈ tables_1, d.before a0 Z = true) (ws : List Jvm.Cond) (x1 : Int32) (a1 : Addr) (a2 : Addr) (q_a1_freeCount : Int32) (q_a1_next : Int32) (q_a2 : List Int32) (hE : Heap) (n0 : Nat) (Z0 : n0 ≤ hE.size) (o0 : n0 ≤ a1) (o1 : @LT.lt Nat instLTNat a1 a2) (E_a1_0 : Exa Z hE a1 "com/example/postloop/postloop/IdPool") (F_a1_free_0 : Fld Z hE a1 "com/example/postloop/postloop/IdPool" "free" "[I" (.ref a2)) (F_a1_freeCount_0 : Fld Z hE a1 "com/example/postloop/postloop/IdPool" "freeCount" "I" (.int q_a1_freeCount)) (F_a1_next_0 : Fld Z hE a1 "com/example/postloop/postloop/IdPool" "next" "I" (.int q_a1_next)) (A_a2_0 : AI Z hE a2 .int q_a2) (r : Int32 × List Int32) (hr : f4 x1 q_a1_freeCount q_a1_next q_a2 = some r) :
    MetFree l (⟨"com/example/postloop/postloop/IdPool", "give", "(I)V"⟩ : MethodName) (head1 (Jvm.Cond.code (⟨"com/example/postloop/postloop/IdPool", "give", "(I)V"⟩ : MethodName) prog_5_method_3_code 2 none :: ws) ({ frames := 0, cells := 0, slots := 0, locals := 0 } : Room)) (fun a U => a = #[(.ref a1), (.int x1)] ∧ Z.Warmed39 U.vm ∧ U.heap = hE) (fun _ _ _ _ _ => True) (fun _ U o U' => ∃ v L, o = .returned v ∧ (P4 Z hE a1 a2 q_a1_freeCount q_a1_next q_a2 n0 r v U'.heap L) ∧ FrameEnd U o U' L ({ frames := 0, cells := 0, slots := 0, locals := 0 } : Room).cells ({ frames := 0, cells := 0, slots := 0, locals := 0 } : Room).slots) := by
  refine MetFree.of_bodySF (plainFor_of_name pn_4) hisR ?_
  intro p e s m args below meth c s₁ Bd hml0 hP hK
  obtain ⟨rfl, hZ, hh⟩ := hP
  have X0 : Stand p l e ({ frames := 0, cells := 0, slots := 0, locals := 0 } : Room) s m #[(.ref a1), (.int x1)] below meth c s₁ [] 0 0 := Stand.of_body Bd
  have e0 : s₁.heap = hE := by rw [← hh, Bd.state]; rfl
  have C : Ctx p s m meth c Z a0 "com/example/postloop/postloop/IdPool" prog_5_method_3_code 2 none "give" := ⟨Bd.exec, hZ, hw, Bd.bytes, hml0, findClass_of_methodNamed Bd.named, Bd.returns, BodyLoose.notSynchronized Bd, (name_of_methodNamed Bd.named Bd.method).1⟩
  refine Runs.via (fun t k => castTop (ef_4 m x1 a1 a2) k) (b4_0 C X0 e0 (Fr.nil n0) (by show 0 ≤ 0; omega) (by show 0 ≤ 0; omega) Z0 (Keep.refl hE [a1, a2]) (by omega) (by omega) q_a1_freeCount q_a2 x1 E_a1_0 F_a1_free_0 F_a1_freeCount_0 F_a1_next_0 A_a2_0 hr)
theorem pd_2 : parseMethodDescriptor "(I)V" = some ⟨[.int], none⟩ := by decide +kernel
def P0 (n0 : Nat) (r : Int32) (v : Option Value) (h : Heap) (L : List Loc) : Prop := v = some (.int r) ∧ Fr n0 L
def g0_280 (u0 : Int32) (q_n0_0_freeCount : Int32) (q_n0_0_next : Int32) (q_n1_0 : List Int32) (q_n2_0 : List Int32) : Option (Int32) := some (u0 &&& 1)
set_option maxRecDepth 65536 in
set_option maxHeartbeats 4000000 in
theorem b0_280 {r : Int32} (C : Ctx p s m meth c Z a0 "com/example/postloop/postloop/IdPoolTakePinLaw" code 14 (some .boolean) "law") (X0 : Stand p l e room_1 s m args below meth c T0 locs cells slots) (e0 : T0.heap = h0) (N0 : Fr n0 locs) (hk : cells ≤ 3) (hn : slots ≤ 22) (Z1 : n0 ≤ h0.size) (n0_0 : Addr) (n1_0 : Addr) (n2_0 : Addr) (o0 : n0 ≤ n0_0) (o1 : @LT.lt Nat instLTNat n0_0 n1_0) (o2 : @LT.lt Nat instLTNat n1_0 n2_0) (q_n0_0_freeCount : Int32) (q_n0_0_next : Int32) (q_n1_0 : List Int32) (q_n2_0 : List Int32) (x0 : Int32) (x1 : Int32) (x2 : Int32) (x3 : Int32) (x5 : Int32) (x6 : Int32) (x7 : Int32) (x8 : Int32) (x10 : Int32) (x11 : Int32) (x12 : Int32) (x13 : Int32) (u0 : Int32) (E_n0_0_0 : Exa Z h0 n0_0 "com/example/postloop/postloop/IdPool") (F_n0_0_free_0 : Fld Z h0 n0_0 "com/example/postloop/postloop/IdPool" "free" "[I" (.ref n1_0)) (F_n0_0_freeCount_0 : Fld Z h0 n0_0 "com/example/postloop/postloop/IdPool" "freeCount" "I" (.int q_n0_0_freeCount)) (F_n0_0_next_0 : Fld Z h0 n0_0 "com/example/postloop/postloop/IdPool" "next" "I" (.int q_n0_0_next)) (A_n1_0_0 : AI Z h0 n1_0 .int q_n1_0) (A_n2_0_0 : AI Z h0 n2_0 .int q_n2_0) (hr : g0_280 u0 q_n0_0_freeCount q_n0_0_next q_n1_0 q_n2_0 = some r) :
    Runs p e below s (P0 n0 r) 3 22 T0 (mkF m 280 #[.val (.int x0), .val (.int x1), .val (.int x2), .val (.int x3), .val (.ref n0_0), .val (.int x5), .val (.int x6), .val (.int x7), .val (.int x8), .val (.ref n2_0), .val (.int x10), .val (.int x11), .val (.int x12), .val (.int x13)] [(.int u0)]) := by
  unfold g0_280 at hr
  have ⟨hx, hZ, hw, hby, hml, hown, hret, hlk, hnm⟩ := C
  refine Runs.via (T' := T0) (g' := (mkF m 284 #[.val (.int x0), .val (.int x1), .val (.int x2), .val (.int x3), .val (.ref n0_0), .val (.int x5), .val (.int x6), .val (.int x7), .val (.int u0), .val (.ref n2_0), .val (.int x10), .val (.int x11), .val (.int x12), .val (.int x13)] [(.int u0)])) (fun t k => ?_) ?_
  · show Steps p.tables e below (T0.setTop (mkF m 280 #[.val (.int x0), .val (.int x1), .val (.int x2), .val (.int x3), .val (.ref n0_0), .val (.int x5), .val (.int x6), .val (.int x7), .val (.int x8), .val (.ref n2_0), .val (.int x10), .val (.int x11), .val (.int x12), .val (.int x13)] [(.int u0)])) t
    refine XS.istore X0.here hx rfl (hb hby at_280) rfl (l' := #[.val (.int x0), .val (.int x1), .val (.int x2), .val (.int x3), .val (.ref n0_0), .val (.int x5), .val (.int x6), .val (.int x7), .val (.int u0), .val (.ref n2_0), .val (.int x10), .val (.int x11), .val (.int x12), .val (.int x13)]) rfl ?_
    show Steps p.tables e below (T0.setTop (mkF m 282 #[.val (.int x0), .val (.int x1), .val (.int x2), .val (.int x3), .val (.ref n0_0), .val (.int x5), .val (.int x6), .val (.int x7), .val (.int u0), .val (.ref n2_0), .val (.int x10), .val (.int x11), .val (.int x12), .val (.int x13)] [])) t
    refine XS.iload X0.here hx rfl (hb hby at_282) rfl ?_
    exact k
  obtain rfl := Option.some.inj hr
  exact own_retN X0 hx hlk (t := .boolean) hret (by simp) (hb hby at_284) (by show cells ≤ 3; omega) (by show slots ≤ 22; omega) ⟨rfl, N0⟩
set_option maxRecDepth 65536 in
set_option maxHeartbeats 4000000 in
theorem b0_280w1 {r : Int32} (C : Ctx p s m meth c Z a0 "com/example/postloop/postloop/IdPoolTakePinLaw" code 14 (some .boolean) "law") (X0 : Stand p l e room_1 s m args below meth c T0 locs cells slots) (e0 : T0.heap = h0) (N0 : Fr n0 locs) (hk : cells ≤ 3) (hn : slots ≤ 22) (Z1 : n0 ≤ h0.size) (n0_0 : Addr) (n1_0 : Addr) (n2_0 : Addr) (o0 : n0 ≤ n0_0) (o1 : @LT.lt Nat instLTNat n0_0 n1_0) (o2 : @LT.lt Nat instLTNat n1_0 n2_0) (q_n0_0_freeCount : Int32) (q_n0_0_next : Int32) (q_n1_0 : List Int32) (q_n2_0 : List Int32) (x0 : Int32) (x1 : Int32) (x2 : Int32) (x3 : Int32) (x5 : Int32) (x6 : Int32) (x7 : Int32) (x8 : Int32) (x10 : Int32) (x11 : Int32) (x12 : Int32) (u0 : Int32) (E_n0_0_0 : Exa Z h0 n0_0 "com/example/postloop/postloop/IdPool") (F_n0_0_free_0 : Fld Z h0 n0_0 "com/example/postloop/postloop/IdPool" "free" "[I" (.ref n1_0)) (F_n0_0_freeCount_0 : Fld Z h0 n0_0 "com/example/postloop/postloop/IdPool" "freeCount" "I" (.int q_n0_0_freeCount)) (F_n0_0_next_0 : Fld Z h0 n0_0 "com/example/postloop/postloop/IdPool" "next" "I" (.int q_n0_0_next)) (A_n1_0_0 : AI Z h0 n1_0 .int q_n1_0) (A_n2_0_0 : AI Z h0 n2_0 .int q_n2_0) (hr : g0_280 u0 q_n0_0_freeCount q_n0_0_next q_n1_0 q_n2_0 = some r) :
    Runs p e below s (P0 n0 r) 3 22 T0 (mkF m 280 #[.val (.int x0), .val (.int x1), .val (.int x2), .val (.int x3), .val (.ref n0_0), .val (.int x5), .val (.int x6), .val (.int x7), .val (.int x8), .val (.ref n2_0), .val (.int x10), .val (.int x11), .val (.int x12), .unset] [(.int u0)]) := by
  unfold g0_280 at hr
  have ⟨hx, hZ, hw, hby, hml, hown, hret, hlk, hnm⟩ := C
  refine Runs.via (T' := T0) (g' := (mkF m 284 #[.val (.int x0), .val (.int x1), .val (.int x2), .val (.int x3), .val (.ref n0_0), .val (.int x5), .val (.int x6), .val (.int x7), .val (.int u0), .val (.ref n2_0), .val (.int x10), .val (.int x11), .val (.int x12), .unset] [(.int u0)])) (fun t k => ?_) ?_
  · show Steps p.tables e below (T0.setTop (mkF m 280 #[.val (.int x0), .val (.int x1), .val (.int x2), .val (.int x3), .val (.ref n0_0), .val (.int x5), .val (.int x6), .val (.int x7), .val (.int x8), .val (.ref n2_0), .val (.int x10), .val (.int x11), .val (.int x12), .unset] [(.int u0)])) t
    refine XS.istore X0.here hx rfl (hb hby at_280) rfl (l' := #[.val (.int x0), .val (.int x1), .val (.int x2), .val (.int x3), .val (.ref n0_0), .val (.int x5), .val (.int x6), .val (.int x7), .val (.int u0), .val (.ref n2_0), .val (.int x10), .val (.int x11), .val (.int x12), .unset]) rfl ?_
    show Steps p.tables e below (T0.setTop (mkF m 282 #[.val (.int x0), .val (.int x1), .val (.int x2), .val (.int x3), .val (.ref n0_0), .val (.int x5), .val (.int x6), .val (.int x7), .val (.int u0), .val (.ref n2_0), .val (.int x10), .val (.int x11), .val (.int x12), .unset] [])) t
    refine XS.iload X0.here hx rfl (hb hby at_282) rfl ?_
    exact k
  obtain rfl := Option.some.inj hr
  exact own_retN X0 hx hlk (t := .boolean) hret (by simp) (hb hby at_284) (by show cells ≤ 3; omega) (by show slots ≤ 22; omega) ⟨rfl, N0⟩
def g0_279 (q_n0_0_freeCount : Int32) (q_n0_0_next : Int32) (q_n1_0 : List Int32) (q_n2_0 : List Int32) : Option (Int32) := (g0_280 (0 : Int32) q_n0_0_freeCount q_n0_0_next q_n1_0 q_n2_0)
set_option maxRecDepth 65536 in
set_option maxHeartbeats 4000000 in
theorem b0_279 {r : Int32} (C : Ctx p s m meth c Z a0 "com/example/postloop/postloop/IdPoolTakePinLaw" code 14 (some .boolean) "law") (X0 : Stand p l e room_1 s m args below meth c T0 locs cells slots) (e0 : T0.heap = h0) (N0 : Fr n0 locs) (hk : cells ≤ 3) (hn : slots ≤ 22) (Z1 : n0 ≤ h0.size) (n0_0 : Addr) (n1_0 : Addr) (n2_0 : Addr) (o0 : n0 ≤ n0_0) (o1 : @LT.lt Nat instLTNat n0_0 n1_0) (o2 : @LT.lt Nat instLTNat n1_0 n2_0) (q_n0_0_freeCount : Int32) (q_n0_0_next : Int32) (q_n1_0 : List Int32) (q_n2_0 : List Int32) (x0 : Int32) (x1 : Int32) (x2 : Int32) (x3 : Int32) (x5 : Int32) (x6 : Int32) (x7 : Int32) (x8 : Int32) (x10 : Int32) (x11 : Int32) (x12 : Int32) (x13 : Int32) (E_n0_0_0 : Exa Z h0 n0_0 "com/example/postloop/postloop/IdPool") (F_n0_0_free_0 : Fld Z h0 n0_0 "com/example/postloop/postloop/IdPool" "free" "[I" (.ref n1_0)) (F_n0_0_freeCount_0 : Fld Z h0 n0_0 "com/example/postloop/postloop/IdPool" "freeCount" "I" (.int q_n0_0_freeCount)) (F_n0_0_next_0 : Fld Z h0 n0_0 "com/example/postloop/postloop/IdPool" "next" "I" (.int q_n0_0_next)) (A_n1_0_0 : AI Z h0 n1_0 .int q_n1_0) (A_n2_0_0 : AI Z h0 n2_0 .int q_n2_0) (hr : g0_279 q_n0_0_freeCount q_n0_0_next q_n1_0 q_n2_0 = some r) :
    Runs p e below s (P0 n0 r) 3 22 T0 (mkF m 279 #[.val (.int x0), .val (.int x1), .val (.int x2), .val (.int x3), .val (.ref n0_0), .val (.int x5), .val (.int x6), .val (.int x7), .val (.int x8), .val (.ref n2_0), .val (.int x10), .val (.int x11), .val (.int x12), .val (.int x13)] []) := by
  unfold g0_279 at hr
  have ⟨hx, hZ, hw, hby, hml, hown, hret, hlk, hnm⟩ := C
  refine Runs.via (T' := T0) (g' := (mkF m 280 #[.val (.int x0), .val (.int x1), .val (.int x2), .val (.int x3), .val (.ref n0_0), .val (.int x5), .val (.int x6), .val (.int x7), .val (.int x8), .val (.ref n2_0), .val (.int x10), .val (.int x11), .val (.int x12), .val (.int x13)] [(.int (0 : Int32))])) (fun t k => ?_) ?_
  · show Steps p.tables e below (T0.setTop (mkF m 279 #[.val (.int x0), .val (.int x1), .val (.int x2), .val (.int x3), .val (.ref n0_0), .val (.int x5), .val (.int x6), .val (.int x7), .val (.int x8), .val (.ref n2_0), .val (.int x10), .val (.int x11), .val (.int x12), .val (.int x13)] [])) t
    refine XS.iconst X0.here hx rfl (hb hby at_279) ?_
    exact k
  exact b0_280 C X0 e0 N0 (by show cells ≤ 3; omega) (by show slots ≤ 22; omega) Z1 n0_0 n1_0 n2_0 (by omega) (by omega) (by omega) q_n0_0_freeCount q_n0_0_next q_n1_0 q_n2_0 x0 x1 x2 x3 x5 x6 x7 x8 x10 x11 x12 x13 (0 : Int32) E_n0_0_0 F_n0_0_free_0 F_n0_0_freeCount_0 F_n0_0_next_0 A_n1_0_0 A_n2_0_0 hr
set_option maxRecDepth 65536 in
set_option maxHeartbeats 4000000 in
theorem b0_279w1 {r : Int32} (C : Ctx p s m meth c Z a0 "com/example/postloop/postloop/IdPoolTakePinLaw" code 14 (some .boolean) "law") (X0 : Stand p l e room_1 s m args below meth c T0 locs cells slots) (e0 : T0.heap = h0) (N0 : Fr n0 locs) (hk : cells ≤ 3) (hn : slots ≤ 22) (Z1 : n0 ≤ h0.size) (n0_0 : Addr) (n1_0 : Addr) (n2_0 : Addr) (o0 : n0 ≤ n0_0) (o1 : @LT.lt Nat instLTNat n0_0 n1_0) (o2 : @LT.lt Nat instLTNat n1_0 n2_0) (q_n0_0_freeCount : Int32) (q_n0_0_next : Int32) (q_n1_0 : List Int32) (q_n2_0 : List Int32) (x0 : Int32) (x1 : Int32) (x2 : Int32) (x3 : Int32) (x5 : Int32) (x6 : Int32) (x7 : Int32) (x8 : Int32) (x10 : Int32) (x11 : Int32) (x12 : Int32) (E_n0_0_0 : Exa Z h0 n0_0 "com/example/postloop/postloop/IdPool") (F_n0_0_free_0 : Fld Z h0 n0_0 "com/example/postloop/postloop/IdPool" "free" "[I" (.ref n1_0)) (F_n0_0_freeCount_0 : Fld Z h0 n0_0 "com/example/postloop/postloop/IdPool" "freeCount" "I" (.int q_n0_0_freeCount)) (F_n0_0_next_0 : Fld Z h0 n0_0 "com/example/postloop/postloop/IdPool" "next" "I" (.int q_n0_0_next)) (A_n1_0_0 : AI Z h0 n1_0 .int q_n1_0) (A_n2_0_0 : AI Z h0 n2_0 .int q_n2_0) (hr : g0_279 q_n0_0_freeCount q_n0_0_next q_n1_0 q_n2_0 = some r) :
    Runs p e below s (P0 n0 r) 3 22 T0 (mkF m 279 #[.val (.int x0), .val (.int x1), .val (.int x2), .val (.int x3), .val (.ref n0_0), .val (.int x5), .val (.int x6), .val (.int x7), .val (.int x8), .val (.ref n2_0), .val (.int x10), .val (.int x11), .val (.int x12), .unset] []) := by
  unfold g0_279 at hr
  have ⟨hx, hZ, hw, hby, hml, hown, hret, hlk, hnm⟩ := C
  refine Runs.via (T' := T0) (g' := (mkF m 280 #[.val (.int x0), .val (.int x1), .val (.int x2), .val (.int x3), .val (.ref n0_0), .val (.int x5), .val (.int x6), .val (.int x7), .val (.int x8), .val (.ref n2_0), .val (.int x10), .val (.int x11), .val (.int x12), .unset] [(.int (0 : Int32))])) (fun t k => ?_) ?_
  · show Steps p.tables e below (T0.setTop (mkF m 279 #[.val (.int x0), .val (.int x1), .val (.int x2), .val (.int x3), .val (.ref n0_0), .val (.int x5), .val (.int x6), .val (.int x7), .val (.int x8), .val (.ref n2_0), .val (.int x10), .val (.int x11), .val (.int x12), .unset] [])) t
    refine XS.iconst X0.here hx rfl (hb hby at_279) ?_
    exact k
  exact b0_280w1 C X0 e0 N0 (by show cells ≤ 3; omega) (by show slots ≤ 22; omega) Z1 n0_0 n1_0 n2_0 (by omega) (by omega) (by omega) q_n0_0_freeCount q_n0_0_next q_n1_0 q_n2_0 x0 x1 x2 x3 x5 x6 x7 x8 x10 x11 x12 (0 : Int32) E_n0_0_0 F_n0_0_free_0 F_n0_0_freeCount_0 F_n0_0_next_0 A_n1_0_0 A_n2_0_0 hr
def g0_261 (x8 : Int32) (q_n0_0_freeCount : Int32) (q_n0_0_next : Int32) (q_n1_0 : List Int32) (q_n2_0 : List Int32) : Option (Int32) := (if x8 = (0 : Int32) then (g0_279 q_n0_0_freeCount q_n0_0_next q_n1_0 q_n2_0) else ((f3 q_n0_0_freeCount q_n0_0_next q_n1_0).bind fun r2 => (if r2.1 = (3 : Int32) then (g0_280 (1 : Int32) r2.2.1 r2.2.2 q_n1_0 q_n2_0) else (g0_279 r2.2.1 r2.2.2 q_n1_0 q_n2_0))))
set_option maxRecDepth 65536 in
set_option maxHeartbeats 4000000 in
theorem b0_261 {r : Int32} (C : Ctx p s m meth c Z a0 "com/example/postloop/postloop/IdPoolTakePinLaw" code 14 (some .boolean) "law") (X0 : Stand p l e room_1 s m args below meth c T0 locs cells slots) (e0 : T0.heap = h0) (N0 : Fr n0 locs) (hk : cells ≤ 3) (hn : slots ≤ 22) (Z1 : n0 ≤ h0.size) (n0_0 : Addr) (n1_0 : Addr) (n2_0 : Addr) (o0 : n0 ≤ n0_0) (o1 : @LT.lt Nat instLTNat n0_0 n1_0) (o2 : @LT.lt Nat instLTNat n1_0 n2_0) (q_n0_0_freeCount : Int32) (q_n0_0_next : Int32) (q_n1_0 : List Int32) (q_n2_0 : List Int32) (x0 : Int32) (x1 : Int32) (x2 : Int32) (x3 : Int32) (x5 : Int32) (x6 : Int32) (x7 : Int32) (x8 : Int32) (x10 : Int32) (x11 : Int32) (x12 : Int32) (x13 : Int32) (E_n0_0_0 : Exa Z h0 n0_0 "com/example/postloop/postloop/IdPool") (F_n0_0_free_0 : Fld Z h0 n0_0 "com/example/postloop/postloop/IdPool" "free" "[I" (.ref n1_0)) (F_n0_0_freeCount_0 : Fld Z h0 n0_0 "com/example/postloop/postloop/IdPool" "freeCount" "I" (.int q_n0_0_freeCount)) (F_n0_0_next_0 : Fld Z h0 n0_0 "com/example/postloop/postloop/IdPool" "next" "I" (.int q_n0_0_next)) (A_n1_0_0 : AI Z h0 n1_0 .int q_n1_0) (A_n2_0_0 : AI Z h0 n2_0 .int q_n2_0) (hr : g0_261 x8 q_n0_0_freeCount q_n0_0_next q_n1_0 q_n2_0 = some r) :
    Runs p e below s (P0 n0 r) 3 22 T0 (mkF m 261 #[.val (.int x0), .val (.int x1), .val (.int x2), .val (.int x3), .val (.ref n0_0), .val (.int x5), .val (.int x6), .val (.int x7), .val (.int x8), .val (.ref n2_0), .val (.int x10), .val (.int x11), .val (.int x12), .val (.int x13)] []) := by
  unfold g0_261 at hr
  have ⟨hx, hZ, hw, hby, hml, hown, hret, hlk, hnm⟩ := C
  refine Runs.via (T' := T0) (g' := (mkF m 263 #[.val (.int x0), .val (.int x1), .val (.int x2), .val (.int x3), .val (.ref n0_0), .val (.int x5), .val (.int x6), .val (.int x7), .val (.int x8), .val (.ref n2_0), .val (.int x10), .val (.int x11), .val (.int x12), .val (.int x13)] [(.int x8)])) (fun t k => ?_) ?_
  · show Steps p.tables e below (T0.setTop (mkF m 261 #[.val (.int x0), .val (.int x1), .val (.int x2), .val (.int x3), .val (.ref n0_0), .val (.int x5), .val (.int x6), .val (.int x7), .val (.int x8), .val (.ref n2_0), .val (.int x10), .val (.int x11), .val (.int x12), .val (.int x13)] [])) t
    refine XS.iload X0.here hx rfl (hb hby at_261) rfl ?_
    exact k
  refine iteE hr (fun hc1 hr => ?_) (fun hc1 hr => ?_)
  · refine Runs.via (T' := T0) (g' := (mkF m 279 #[.val (.int x0), .val (.int x1), .val (.int x2), .val (.int x3), .val (.ref n0_0), .val (.int x5), .val (.int x6), .val (.int x7), .val (.int x8), .val (.ref n2_0), .val (.int x10), .val (.int x11), .val (.int x12), .val (.int x13)] [])) (fun t k => ?_) ?_
    · show Steps p.tables e below (T0.setTop (mkF m 263 #[.val (.int x0), .val (.int x1), .val (.int x2), .val (.int x3), .val (.ref n0_0), .val (.int x5), .val (.int x6), .val (.int x7), .val (.int x8), .val (.ref n2_0), .val (.int x10), .val (.int x11), .val (.int x12), .val (.int x13)] [(.int x8)])) t
      exact XS.ifYes X0.here hx rfl (pc0 := 263) (pc' := 279) rfl (hb hby at_263) rfl ((if0 _ _).trans (teq hc1).1) (by decide) (by decide) k
    exact b0_279 C X0 e0 N0 (by show cells ≤ 3; omega) (by show slots ≤ 22; omega) Z1 n0_0 n1_0 n2_0 (by omega) (by omega) (by omega) q_n0_0_freeCount q_n0_0_next q_n1_0 q_n2_0 x0 x1 x2 x3 x5 x6 x7 x8 x10 x11 x12 x13 E_n0_0_0 F_n0_0_free_0 F_n0_0_freeCount_0 F_n0_0_next_0 A_n1_0_0 A_n2_0_0 hr
  · refine Runs.via (T' := T0) (g' := (mkF m 266 #[.val (.int x0), .val (.int x1), .val (.int x2), .val (.int x3), .val (.ref n0_0), .val (.int x5), .val (.int x6), .val (.int x7), .val (.int x8), .val (.ref n2_0), .val (.int x10), .val (.int x11), .val (.int x12), .val (.int x13)] [])) (fun t k => ?_) ?_
    · show Steps p.tables e below (T0.setTop (mkF m 263 #[.val (.int x0), .val (.int x1), .val (.int x2), .val (.int x3), .val (.ref n0_0), .val (.int x5), .val (.int x6), .val (.int x7), .val (.int x8), .val (.ref n2_0), .val (.int x10), .val (.int x11), .val (.int x12), .val (.int x13)] [(.int x8)])) t
      exact XS.ifNo X0.here hx rfl (hb hby at_263) rfl ((if0 _ _).trans (feq hc1).1) k
    refine Runs.via (T' := T0) (g' := (mkF m 268 #[.val (.int x0), .val (.int x1), .val (.int x2), .val (.int x3), .val (.ref n0_0), .val (.int x5), .val (.int x6), .val (.int x7), .val (.int x8), .val (.ref n2_0), .val (.int x10), .val (.int x11), .val (.int x12), .val (.int x13)] [(.ref n0_0)])) (fun t k => ?_) ?_
    · show Steps p.tables e below (T0.setTop (mkF m 266 #[.val (.int x0), .val (.int x1), .val (.int x2), .val (.int x3), .val (.ref n0_0), .val (.int x5), .val (.int x6), .val (.int x7), .val (.int x8), .val (.ref n2_0), .val (.int x10), .val (.int x11), .val (.int x12), .val (.int x13)] [])) t
      refine XS.aload X0.here hx rfl (hb hby at_266) rfl rfl ?_
      exact k
    refine bindE hr ?_; intro r2 hr2m hr
    obtain ⟨cq2, kq2, q2a, q2b, q2c⟩ := isOf hZ e0 E_n0_0_0
    obtain ⟨_, _, ⟨T2, L2, k2, n2⟩, -, X2, ⟨Lc2, hQ2, l2, y2, z2⟩, st2⟩ := X0.virtualBack hx (y := (⟨"com/example/postloop/postloop/IdPool", "take", "()I"⟩ : MethodName)) (z := (⟨"com/example/postloop/postloop/IdPool", "take", "()I"⟩ : MethodName)) hown (mvT hZ (hw _ (List.mem_of_getElem? (i := 13) rfl))) (mvT hZ (hw _ (List.mem_of_getElem? (i := 14) rfl))) (notFace_of_selects (args := #[]) (mvT hZ (hw _ (List.mem_of_getElem? (i := 16) rfl)))) (mvT hZ (hw _ (List.mem_of_getElem? (i := 16) rfl))) (mvT hZ (hw _ (List.mem_of_getElem? (i := 15) rfl))) (by decide) (backOf (W := 0) (rm3 l Z a0 hw [] n0_0 n1_0 q_n0_0_freeCount q_n0_0_next q_n1_0 h0 n0 Z1 (by omega) (by omega) E_n0_0_0 F_n0_0_free_0 F_n0_0_freeCount_0 F_n0_0_next_0 A_n1_0_0 r2 hr2m) hZ (hw _ (List.mem_of_getElem? (i := 17) rfl)) (hw _ (List.mem_of_getElem? (i := 3) rfl)) (by decide) (by decide)) q2a q2c (g := (mkF m 268 #[.val (.int x0), .val (.int x1), .val (.int x2), .val (.int x3), .val (.ref n0_0), .val (.int x5), .val (.int x6), .val (.int x7), .val (.int x8), .val (.ref n2_0), .val (.int x10), .val (.int x11), .val (.int x12), .val (.int x13)] [(.ref n0_0)])) rfl (by rw [hml]; rfl) (Steps.refl _) (argsL := []) (rest := []) (lenOf pd_1 rfl) rfl (by show 2 * 0 + _ ≤ _; exact Nat.le_of_eq rfl) (hb hby at_268) (fun _ _ => ⟨rfl, e0, (by show cells + 0 ≤ 16; omega), (by show slots + 0 ≤ 128; omega)⟩)
    dsimp only [Pt.U, Pt.locs, Pt.cells, Pt.slots] at X2 l2 y2 z2 st2 hQ2
    replace y2 := y2.symm; replace z2 := z2.symm; subst l2 y2 z2
    obtain ⟨h2, e2⟩ : ∃ z, T2.heap = z := ⟨_, rfl⟩
    rw [e2] at hQ2
    obtain ⟨rfl, N2q, K2q, E_n0_0_2, F_n0_0_free_2, F_n0_0_freeCount_2, F_n0_0_next_2⟩ := hQ2
    have N2 := Fr.app N0 N2q
    have A_n1_0_2 := A_n1_0_0.keep K2q (ninS (by omega : @Ne Nat n1_0 n0_0) nin0)
    have A_n2_0_2 := A_n2_0_0.keep K2q (ninS (by omega : @Ne Nat n2_0 n0_0) nin0)
    have zz2 : n0 ≤ h2.size := Nat.le_trans Z1 K2q.1
    refine Runs.via (T' := T2) (g' := (mkF m 271 #[.val (.int x0), .val (.int x1), .val (.int x2), .val (.int x3), .val (.ref n0_0), .val (.int x5), .val (.int x6), .val (.int x7), .val (.int x8), .val (.ref n2_0), .val (.int x10), .val (.int x11), .val (.int x12), .val (.int x13)] [(.int r2.1)])) (fun t k => st2.trans k) ?_
    refine Runs.via (T' := T2) (g' := (mkF m 272 #[.val (.int x0), .val (.int x1), .val (.int x2), .val (.int x3), .val (.ref n0_0), .val (.int x5), .val (.int x6), .val (.int x7), .val (.int x8), .val (.ref n2_0), .val (.int x10), .val (.int x11), .val (.int x12), .val (.int x13)] [(.int (3 : Int32)), (.int r2.1)])) (fun t k => ?_) ?_
    · show Steps p.tables e below (T2.setTop (mkF m 271 #[.val (.int x0), .val (.int x1), .val (.int x2), .val (.int x3), .val (.ref n0_0), .val (.int x5), .val (.int x6), .val (.int x7), .val (.int x8), .val (.ref n2_0), .val (.int x10), .val (.int x11), .val (.int x12), .val (.int x13)] [(.int r2.1)])) t
      refine XS.iconst X2.here hx rfl (hb hby at_271) ?_
      exact k
    refine iteE hr (fun hc3 hr => ?_) (fun hc3 hr => ?_)
    · refine Runs.via (T' := T2) (g' := (mkF m 275 #[.val (.int x0), .val (.int x1), .val (.int x2), .val (.int x3), .val (.ref n0_0), .val (.int x5), .val (.int x6), .val (.int x7), .val (.int x8), .val (.ref n2_0), .val (.int x10), .val (.int x11), .val (.int x12), .val (.int x13)] [])) (fun t k => ?_) ?_
      · show Steps p.tables e below (T2.setTop (mkF m 272 #[.val (.int x0), .val (.int x1), .val (.int x2), .val (.int x3), .val (.ref n0_0), .val (.int x5), .val (.int x6), .val (.int x7), .val (.int x8), .val (.ref n2_0), .val (.int x10), .val (.int x11), .val (.int x12), .val (.int x13)] [(.int (3 : Int32)), (.int r2.1)])) t
        exact XS.icmpNo X2.here hx rfl (hb hby at_272) rfl (teq hc3).2 k
      refine Runs.via (T' := T2) (g' := (mkF m 280 #[.val (.int x0), .val (.int x1), .val (.int x2), .val (.int x3), .val (.ref n0_0), .val (.int x5), .val (.int x6), .val (.int x7), .val (.int x8), .val (.ref n2_0), .val (.int x10), .val (.int x11), .val (.int x12), .val (.int x13)] [(.int (1 : Int32))])) (fun t k => ?_) ?_
      · show Steps p.tables e below (T2.setTop (mkF m 275 #[.val (.int x0), .val (.int x1), .val (.int x2), .val (.int x3), .val (.ref n0_0), .val (.int x5), .val (.int x6), .val (.int x7), .val (.int x8), .val (.ref n2_0), .val (.int x10), .val (.int x11), .val (.int x12), .val (.int x13)] [])) t
        refine XS.iconst X2.here hx rfl (hb hby at_275) ?_
        show Steps p.tables e below (T2.setTop (mkF m 276 #[.val (.int x0), .val (.int x1), .val (.int x2), .val (.int x3), .val (.ref n0_0), .val (.int x5), .val (.int x6), .val (.int x7), .val (.int x8), .val (.ref n2_0), .val (.int x10), .val (.int x11), .val (.int x12), .val (.int x13)] [(.int (1 : Int32))])) t
        refine XS.goto X2.here hx rfl (pc0 := 276) (pc' := 280) rfl (hb hby at_276) (by decide) (by decide) ?_
        exact k
      exact b0_280 C X2 e2 N2 (by show (cells + 0) ≤ 3; omega) (by show (slots + 0) ≤ 22; omega) zz2 n0_0 n1_0 n2_0 (by omega) (by omega) (by omega) r2.2.1 r2.2.2 q_n1_0 q_n2_0 x0 x1 x2 x3 x5 x6 x7 x8 x10 x11 x12 x13 (1 : Int32) E_n0_0_2 F_n0_0_free_2 F_n0_0_freeCount_2 F_n0_0_next_2 A_n1_0_2 A_n2_0_2 hr
    · refine Runs.via (T' := T2) (g' := (mkF m 279 #[.val (.int x0), .val (.int x1), .val (.int x2), .val (.int x3), .val (.ref n0_0), .val (.int x5), .val (.int x6), .val (.int x7), .val (.int x8), .val (.ref n2_0), .val (.int x10), .val (.int x11), .val (.int x12), .val (.int x13)] [])) (fun t k => ?_) ?_
      · show Steps p.tables e below (T2.setTop (mkF m 272 #[.val (.int x0), .val (.int x1), .val (.int x2), .val (.int x3), .val (.ref n0_0), .val (.int x5), .val (.int x6), .val (.int x7), .val (.int x8), .val (.ref n2_0), .val (.int x10), .val (.int x11), .val (.int x12), .val (.int x13)] [(.int (3 : Int32)), (.int r2.1)])) t
        exact XS.icmpYes X2.here hx rfl (pc0 := 272) (pc' := 279) rfl (hb hby at_272) rfl (feq hc3).2 (by decide) (by decide) k
      exact b0_279 C X2 e2 N2 (by show (cells + 0) ≤ 3; omega) (by show (slots + 0) ≤ 22; omega) zz2 n0_0 n1_0 n2_0 (by omega) (by omega) (by omega) r2.2.1 r2.2.2 q_n1_0 q_n2_0 x0 x1 x2 x3 x5 x6 x7 x8 x10 x11 x12 x13 E_n0_0_2 F_n0_0_free_2 F_n0_0_freeCount_2 F_n0_0_next_2 A_n1_0_2 A_n2_0_2 hr
set_option maxRecDepth 65536 in
set_option maxHeartbeats 4000000 in
theorem b0_261w1 {r : Int32} (C : Ctx p s m meth c Z a0 "com/example/postloop/postloop/IdPoolTakePinLaw" code 14 (some .boolean) "law") (X0 : Stand p l e room_1 s m args below meth c T0 locs cells slots) (e0 : T0.heap = h0) (N0 : Fr n0 locs) (hk : cells ≤ 3) (hn : slots ≤ 22) (Z1 : n0 ≤ h0.size) (n0_0 : Addr) (n1_0 : Addr) (n2_0 : Addr) (o0 : n0 ≤ n0_0) (o1 : @LT.lt Nat instLTNat n0_0 n1_0) (o2 : @LT.lt Nat instLTNat n1_0 n2_0) (q_n0_0_freeCount : Int32) (q_n0_0_next : Int32) (q_n1_0 : List Int32) (q_n2_0 : List Int32) (x0 : Int32) (x1 : Int32) (x2 : Int32) (x3 : Int32) (x5 : Int32) (x6 : Int32) (x7 : Int32) (x8 : Int32) (x10 : Int32) (x11 : Int32) (x12 : Int32) (E_n0_0_0 : Exa Z h0 n0_0 "com/example/postloop/postloop/IdPool") (F_n0_0_free_0 : Fld Z h0 n0_0 "com/example/postloop/postloop/IdPool" "free" "[I" (.ref n1_0)) (F_n0_0_freeCount_0 : Fld Z h0 n0_0 "com/example/postloop/postloop/IdPool" "freeCount" "I" (.int q_n0_0_freeCount)) (F_n0_0_next_0 : Fld Z h0 n0_0 "com/example/postloop/postloop/IdPool" "next" "I" (.int q_n0_0_next)) (A_n1_0_0 : AI Z h0 n1_0 .int q_n1_0) (A_n2_0_0 : AI Z h0 n2_0 .int q_n2_0) (hr : g0_261 x8 q_n0_0_freeCount q_n0_0_next q_n1_0 q_n2_0 = some r) :
    Runs p e below s (P0 n0 r) 3 22 T0 (mkF m 261 #[.val (.int x0), .val (.int x1), .val (.int x2), .val (.int x3), .val (.ref n0_0), .val (.int x5), .val (.int x6), .val (.int x7), .val (.int x8), .val (.ref n2_0), .val (.int x10), .val (.int x11), .val (.int x12), .unset] []) := by
  unfold g0_261 at hr
  have ⟨hx, hZ, hw, hby, hml, hown, hret, hlk, hnm⟩ := C
  refine Runs.via (T' := T0) (g' := (mkF m 263 #[.val (.int x0), .val (.int x1), .val (.int x2), .val (.int x3), .val (.ref n0_0), .val (.int x5), .val (.int x6), .val (.int x7), .val (.int x8), .val (.ref n2_0), .val (.int x10), .val (.int x11), .val (.int x12), .unset] [(.int x8)])) (fun t k => ?_) ?_
  · show Steps p.tables e below (T0.setTop (mkF m 261 #[.val (.int x0), .val (.int x1), .val (.int x2), .val (.int x3), .val (.ref n0_0), .val (.int x5), .val (.int x6), .val (.int x7), .val (.int x8), .val (.ref n2_0), .val (.int x10), .val (.int x11), .val (.int x12), .unset] [])) t
    refine XS.iload X0.here hx rfl (hb hby at_261) rfl ?_
    exact k
  refine iteE hr (fun hc1 hr => ?_) (fun hc1 hr => ?_)
  · refine Runs.via (T' := T0) (g' := (mkF m 279 #[.val (.int x0), .val (.int x1), .val (.int x2), .val (.int x3), .val (.ref n0_0), .val (.int x5), .val (.int x6), .val (.int x7), .val (.int x8), .val (.ref n2_0), .val (.int x10), .val (.int x11), .val (.int x12), .unset] [])) (fun t k => ?_) ?_
    · show Steps p.tables e below (T0.setTop (mkF m 263 #[.val (.int x0), .val (.int x1), .val (.int x2), .val (.int x3), .val (.ref n0_0), .val (.int x5), .val (.int x6), .val (.int x7), .val (.int x8), .val (.ref n2_0), .val (.int x10), .val (.int x11), .val (.int x12), .unset] [(.int x8)])) t
      exact XS.ifYes X0.here hx rfl (pc0 := 263) (pc' := 279) rfl (hb hby at_263) rfl ((if0 _ _).trans (teq hc1).1) (by decide) (by decide) k
    exact b0_279w1 C X0 e0 N0 (by show cells ≤ 3; omega) (by show slots ≤ 22; omega) Z1 n0_0 n1_0 n2_0 (by omega) (by omega) (by omega) q_n0_0_freeCount q_n0_0_next q_n1_0 q_n2_0 x0 x1 x2 x3 x5 x6 x7 x8 x10 x11 x12 E_n0_0_0 F_n0_0_free_0 F_n0_0_freeCount_0 F_n0_0_next_0 A_n1_0_0 A_n2_0_0 hr
  · refine Runs.via (T' := T0) (g' := (mkF m 266 #[.val (.int x0), .val (.int x1), .val (.int x2), .val (.int x3), .val (.ref n0_0), .val (.int x5), .val (.int x6), .val (.int x7), .val (.int x8), .val (.ref n2_0), .val (.int x10), .val (.int x11), .val (.int x12), .unset] [])) (fun t k => ?_) ?_
    · show Steps p.tables e below (T0.setTop (mkF m 263 #[.val (.int x0), .val (.int x1), .val (.int x2), .val (.int x3), .val (.ref n0_0), .val (.int x5), .val (.int x6), .val (.int x7), .val (.int x8), .val (.ref n2_0), .val (.int x10), .val (.int x11), .val (.int x12), .unset] [(.int x8)])) t
      exact XS.ifNo X0.here hx rfl (hb hby at_263) rfl ((if0 _ _).trans (feq hc1).1) k
    refine Runs.via (T' := T0) (g' := (mkF m 268 #[.val (.int x0), .val (.int x1), .val (.int x2), .val (.int x3), .val (.ref n0_0), .val (.int x5), .val (.int x6), .val (.int x7), .val (.int x8), .val (.ref n2_0), .val (.int x10), .val (.int x11), .val (.int x12), .unset] [(.ref n0_0)])) (fun t k => ?_) ?_
    · show Steps p.tables e below (T0.setTop (mkF m 266 #[.val (.int x0), .val (.int x1), .val (.int x2), .val (.int x3), .val (.ref n0_0), .val (.int x5), .val (.int x6), .val (.int x7), .val (.int x8), .val (.ref n2_0), .val (.int x10), .val (.int x11), .val (.int x12), .unset] [])) t
      refine XS.aload X0.here hx rfl (hb hby at_266) rfl rfl ?_
      exact k
    refine bindE hr ?_; intro r2 hr2m hr
    obtain ⟨cq2, kq2, q2a, q2b, q2c⟩ := isOf hZ e0 E_n0_0_0
    obtain ⟨_, _, ⟨T2, L2, k2, n2⟩, -, X2, ⟨Lc2, hQ2, l2, y2, z2⟩, st2⟩ := X0.virtualBack hx (y := (⟨"com/example/postloop/postloop/IdPool", "take", "()I"⟩ : MethodName)) (z := (⟨"com/example/postloop/postloop/IdPool", "take", "()I"⟩ : MethodName)) hown (mvT hZ (hw _ (List.mem_of_getElem? (i := 13) rfl))) (mvT hZ (hw _ (List.mem_of_getElem? (i := 14) rfl))) (notFace_of_selects (args := #[]) (mvT hZ (hw _ (List.mem_of_getElem? (i := 16) rfl)))) (mvT hZ (hw _ (List.mem_of_getElem? (i := 16) rfl))) (mvT hZ (hw _ (List.mem_of_getElem? (i := 15) rfl))) (by decide) (backOf (W := 0) (rm3 l Z a0 hw [] n0_0 n1_0 q_n0_0_freeCount q_n0_0_next q_n1_0 h0 n0 Z1 (by omega) (by omega) E_n0_0_0 F_n0_0_free_0 F_n0_0_freeCount_0 F_n0_0_next_0 A_n1_0_0 r2 hr2m) hZ (hw _ (List.mem_of_getElem? (i := 17) rfl)) (hw _ (List.mem_of_getElem? (i := 3) rfl)) (by decide) (by decide)) q2a q2c (g := (mkF m 268 #[.val (.int x0), .val (.int x1), .val (.int x2), .val (.int x3), .val (.ref n0_0), .val (.int x5), .val (.int x6), .val (.int x7), .val (.int x8), .val (.ref n2_0), .val (.int x10), .val (.int x11), .val (.int x12), .unset] [(.ref n0_0)])) rfl (by rw [hml]; rfl) (Steps.refl _) (argsL := []) (rest := []) (lenOf pd_1 rfl) rfl (by show 2 * 0 + _ ≤ _; exact Nat.le_of_eq rfl) (hb hby at_268) (fun _ _ => ⟨rfl, e0, (by show cells + 0 ≤ 16; omega), (by show slots + 0 ≤ 128; omega)⟩)
    dsimp only [Pt.U, Pt.locs, Pt.cells, Pt.slots] at X2 l2 y2 z2 st2 hQ2
    replace y2 := y2.symm; replace z2 := z2.symm; subst l2 y2 z2
    obtain ⟨h2, e2⟩ : ∃ z, T2.heap = z := ⟨_, rfl⟩
    rw [e2] at hQ2
    obtain ⟨rfl, N2q, K2q, E_n0_0_2, F_n0_0_free_2, F_n0_0_freeCount_2, F_n0_0_next_2⟩ := hQ2
    have N2 := Fr.app N0 N2q
    have A_n1_0_2 := A_n1_0_0.keep K2q (ninS (by omega : @Ne Nat n1_0 n0_0) nin0)
    have A_n2_0_2 := A_n2_0_0.keep K2q (ninS (by omega : @Ne Nat n2_0 n0_0) nin0)
    have zz2 : n0 ≤ h2.size := Nat.le_trans Z1 K2q.1
    refine Runs.via (T' := T2) (g' := (mkF m 271 #[.val (.int x0), .val (.int x1), .val (.int x2), .val (.int x3), .val (.ref n0_0), .val (.int x5), .val (.int x6), .val (.int x7), .val (.int x8), .val (.ref n2_0), .val (.int x10), .val (.int x11), .val (.int x12), .unset] [(.int r2.1)])) (fun t k => st2.trans k) ?_
    refine Runs.via (T' := T2) (g' := (mkF m 272 #[.val (.int x0), .val (.int x1), .val (.int x2), .val (.int x3), .val (.ref n0_0), .val (.int x5), .val (.int x6), .val (.int x7), .val (.int x8), .val (.ref n2_0), .val (.int x10), .val (.int x11), .val (.int x12), .unset] [(.int (3 : Int32)), (.int r2.1)])) (fun t k => ?_) ?_
    · show Steps p.tables e below (T2.setTop (mkF m 271 #[.val (.int x0), .val (.int x1), .val (.int x2), .val (.int x3), .val (.ref n0_0), .val (.int x5), .val (.int x6), .val (.int x7), .val (.int x8), .val (.ref n2_0), .val (.int x10), .val (.int x11), .val (.int x12), .unset] [(.int r2.1)])) t
      refine XS.iconst X2.here hx rfl (hb hby at_271) ?_
      exact k
    refine iteE hr (fun hc3 hr => ?_) (fun hc3 hr => ?_)
    · refine Runs.via (T' := T2) (g' := (mkF m 275 #[.val (.int x0), .val (.int x1), .val (.int x2), .val (.int x3), .val (.ref n0_0), .val (.int x5), .val (.int x6), .val (.int x7), .val (.int x8), .val (.ref n2_0), .val (.int x10), .val (.int x11), .val (.int x12), .unset] [])) (fun t k => ?_) ?_
      · show Steps p.tables e below (T2.setTop (mkF m 272 #[.val (.int x0), .val (.int x1), .val (.int x2), .val (.int x3), .val (.ref n0_0), .val (.int x5), .val (.int x6), .val (.int x7), .val (.int x8), .val (.ref n2_0), .val (.int x10), .val (.int x11), .val (.int x12), .unset] [(.int (3 : Int32)), (.int r2.1)])) t
        exact XS.icmpNo X2.here hx rfl (hb hby at_272) rfl (teq hc3).2 k
      refine Runs.via (T' := T2) (g' := (mkF m 280 #[.val (.int x0), .val (.int x1), .val (.int x2), .val (.int x3), .val (.ref n0_0), .val (.int x5), .val (.int x6), .val (.int x7), .val (.int x8), .val (.ref n2_0), .val (.int x10), .val (.int x11), .val (.int x12), .unset] [(.int (1 : Int32))])) (fun t k => ?_) ?_
      · show Steps p.tables e below (T2.setTop (mkF m 275 #[.val (.int x0), .val (.int x1), .val (.int x2), .val (.int x3), .val (.ref n0_0), .val (.int x5), .val (.int x6), .val (.int x7), .val (.int x8), .val (.ref n2_0), .val (.int x10), .val (.int x11), .val (.int x12), .unset] [])) t
        refine XS.iconst X2.here hx rfl (hb hby at_275) ?_
        show Steps p.tables e below (T2.setTop (mkF m 276 #[.val (.int x0), .val (.int x1), .val (.int x2), .val (.int x3), .val (.ref n0_0), .val (.int x5), .val (.int x6), .val (.int x7), .val (.int x8), .val (.ref n2_0), .val (.int x10), .val (.int x11), .val (.int x12), .unset] [(.int (1 : Int32))])) t
        refine XS.goto X2.here hx rfl (pc0 := 276) (pc' := 280) rfl (hb hby at_276) (by decide) (by decide) ?_
        exact k
      exact b0_280w1 C X2 e2 N2 (by show (cells + 0) ≤ 3; omega) (by show (slots + 0) ≤ 22; omega) zz2 n0_0 n1_0 n2_0 (by omega) (by omega) (by omega) r2.2.1 r2.2.2 q_n1_0 q_n2_0 x0 x1 x2 x3 x5 x6 x7 x8 x10 x11 x12 (1 : Int32) E_n0_0_2 F_n0_0_free_2 F_n0_0_freeCount_2 F_n0_0_next_2 A_n1_0_2 A_n2_0_2 hr
    · refine Runs.via (T' := T2) (g' := (mkF m 279 #[.val (.int x0), .val (.int x1), .val (.int x2), .val (.int x3), .val (.ref n0_0), .val (.int x5), .val (.int x6), .val (.int x7), .val (.int x8), .val (.ref n2_0), .val (.int x10), .val (.int x11), .val (.int x12), .unset] [])) (fun t k => ?_) ?_
      · show Steps p.tables e below (T2.setTop (mkF m 272 #[.val (.int x0), .val (.int x1), .val (.int x2), .val (.int x3), .val (.ref n0_0), .val (.int x5), .val (.int x6), .val (.int x7), .val (.int x8), .val (.ref n2_0), .val (.int x10), .val (.int x11), .val (.int x12), .unset] [(.int (3 : Int32)), (.int r2.1)])) t
        exact XS.icmpYes X2.here hx rfl (pc0 := 272) (pc' := 279) rfl (hb hby at_272) rfl (feq hc3).2 (by decide) (by decide) k
      exact b0_279w1 C X2 e2 N2 (by show (cells + 0) ≤ 3; omega) (by show (slots + 0) ≤ 22; omega) zz2 n0_0 n1_0 n2_0 (by omega) (by omega) (by omega) r2.2.1 r2.2.2 q_n1_0 q_n2_0 x0 x1 x2 x3 x5 x6 x7 x8 x10 x11 x12 E_n0_0_2 F_n0_0_free_2 F_n0_0_freeCount_2 F_n0_0_next_2 A_n1_0_2 A_n2_0_2 hr
def g0_259 (u0 : Int32) (q_n0_0_freeCount : Int32) (q_n0_0_next : Int32) (q_n1_0 : List Int32) (q_n2_0 : List Int32) : Option (Int32) := (g0_261 u0 q_n0_0_freeCount q_n0_0_next q_n1_0 q_n2_0)
set_option maxRecDepth 65536 in
set_option maxHeartbeats 4000000 in
theorem b0_259 {r : Int32} (C : Ctx p s m meth c Z a0 "com/example/postloop/postloop/IdPoolTakePinLaw" code 14 (some .boolean) "law") (X0 : Stand p l e room_1 s m args below meth c T0 locs cells slots) (e0 : T0.heap = h0) (N0 : Fr n0 locs) (hk : cells ≤ 3) (hn : slots ≤ 22) (Z1 : n0 ≤ h0.size) (n0_0 : Addr) (n1_0 : Addr) (n2_0 : Addr) (o0 : n0 ≤ n0_0) (o1 : @LT.lt Nat instLTNat n0_0 n1_0) (o2 : @LT.lt Nat instLTNat n1_0 n2_0) (q_n0_0_freeCount : Int32) (q_n0_0_next : Int32) (q_n1_0 : List Int32) (q_n2_0 : List Int32) (x0 : Int32) (x1 : Int32) (x2 : Int32) (x3 : Int32) (x5 : Int32) (x6 : Int32) (x7 : Int32) (x8 : Int32) (x10 : Int32) (x11 : Int32) (x12 : Int32) (x13 : Int32) (u0 : Int32) (E_n0_0_0 : Exa Z h0 n0_0 "com/example/postloop/postloop/IdPool") (F_n0_0_free_0 : Fld Z h0 n0_0 "com/example/postloop/postloop/IdPool" "free" "[I" (.ref n1_0)) (F_n0_0_freeCount_0 : Fld Z h0 n0_0 "com/example/postloop/postloop/IdPool" "freeCount" "I" (.int q_n0_0_freeCount)) (F_n0_0_next_0 : Fld Z h0 n0_0 "com/example/postloop/postloop/IdPool" "next" "I" (.int q_n0_0_next)) (A_n1_0_0 : AI Z h0 n1_0 .int q_n1_0) (A_n2_0_0 : AI Z h0 n2_0 .int q_n2_0) (hr : g0_259 u0 q_n0_0_freeCount q_n0_0_next q_n1_0 q_n2_0 = some r) :
    Runs p e below s (P0 n0 r) 3 22 T0 (mkF m 259 #[.val (.int x0), .val (.int x1), .val (.int x2), .val (.int x3), .val (.ref n0_0), .val (.int x5), .val (.int x6), .val (.int x7), .val (.int x8), .val (.ref n2_0), .val (.int x10), .val (.int x11), .val (.int x12), .val (.int x13)] [(.int u0)]) := by
  unfold g0_259 at hr
  have ⟨hx, hZ, hw, hby, hml, hown, hret, hlk, hnm⟩ := C
  refine Runs.via (T' := T0) (g' := (mkF m 261 #[.val (.int x0), .val (.int x1), .val (.int x2), .val (.int x3), .val (.ref n0_0), .val (.int x5), .val (.int x6), .val (.int x7), .val (.int u0), .val (.ref n2_0), .val (.int x10), .val (.int x11), .val (.int x12), .val (.int x13)] [])) (fun t k => ?_) ?_
  · show Steps p.tables e below (T0.setTop (mkF m 259 #[.val (.int x0), .val (.int x1), .val (.int x2), .val (.int x3), .val (.ref n0_0), .val (.int x5), .val (.int x6), .val (.int x7), .val (.int x8), .val (.ref n2_0), .val (.int x10), .val (.int x11), .val (.int x12), .val (.int x13)] [(.int u0)])) t
    refine XS.istore X0.here hx rfl (hb hby at_259) rfl (l' := #[.val (.int x0), .val (.int x1), .val (.int x2), .val (.int x3), .val (.ref n0_0), .val (.int x5), .val (.int x6), .val (.int x7), .val (.int u0), .val (.ref n2_0), .val (.int x10), .val (.int x11), .val (.int x12), .val (.int x13)]) rfl ?_
    exact k
  exact b0_261 C X0 e0 N0 (by show cells ≤ 3; omega) (by show slots ≤ 22; omega) Z1 n0_0 n1_0 n2_0 (by omega) (by omega) (by omega) q_n0_0_freeCount q_n0_0_next q_n1_0 q_n2_0 x0 x1 x2 x3 x5 x6 x7 u0 x10 x11 x12 x13 E_n0_0_0 F_n0_0_free_0 F_n0_0_freeCount_0 F_n0_0_next_0 A_n1_0_0 A_n2_0_0 hr
set_option maxRecDepth 65536 in
set_option maxHeartbeats 4000000 in
theorem b0_259w1 {r : Int32} (C : Ctx p s m meth c Z a0 "com/example/postloop/postloop/IdPoolTakePinLaw" code 14 (some .boolean) "law") (X0 : Stand p l e room_1 s m args below meth c T0 locs cells slots) (e0 : T0.heap = h0) (N0 : Fr n0 locs) (hk : cells ≤ 3) (hn : slots ≤ 22) (Z1 : n0 ≤ h0.size) (n0_0 : Addr) (n1_0 : Addr) (n2_0 : Addr) (o0 : n0 ≤ n0_0) (o1 : @LT.lt Nat instLTNat n0_0 n1_0) (o2 : @LT.lt Nat instLTNat n1_0 n2_0) (q_n0_0_freeCount : Int32) (q_n0_0_next : Int32) (q_n1_0 : List Int32) (q_n2_0 : List Int32) (x0 : Int32) (x1 : Int32) (x2 : Int32) (x3 : Int32) (x5 : Int32) (x6 : Int32) (x7 : Int32) (x8 : Int32) (x10 : Int32) (x11 : Int32) (x12 : Int32) (u0 : Int32) (E_n0_0_0 : Exa Z h0 n0_0 "com/example/postloop/postloop/IdPool") (F_n0_0_free_0 : Fld Z h0 n0_0 "com/example/postloop/postloop/IdPool" "free" "[I" (.ref n1_0)) (F_n0_0_freeCount_0 : Fld Z h0 n0_0 "com/example/postloop/postloop/IdPool" "freeCount" "I" (.int q_n0_0_freeCount)) (F_n0_0_next_0 : Fld Z h0 n0_0 "com/example/postloop/postloop/IdPool" "next" "I" (.int q_n0_0_next)) (A_n1_0_0 : AI Z h0 n1_0 .int q_n1_0) (A_n2_0_0 : AI Z h0 n2_0 .int q_n2_0) (hr : g0_259 u0 q_n0_0_freeCount q_n0_0_next q_n1_0 q_n2_0 = some r) :
    Runs p e below s (P0 n0 r) 3 22 T0 (mkF m 259 #[.val (.int x0), .val (.int x1), .val (.int x2), .val (.int x3), .val (.ref n0_0), .val (.int x5), .val (.int x6), .val (.int x7), .val (.int x8), .val (.ref n2_0), .val (.int x10), .val (.int x11), .val (.int x12), .unset] [(.int u0)]) := by
  unfold g0_259 at hr
  have ⟨hx, hZ, hw, hby, hml, hown, hret, hlk, hnm⟩ := C
  refine Runs.via (T' := T0) (g' := (mkF m 261 #[.val (.int x0), .val (.int x1), .val (.int x2), .val (.int x3), .val (.ref n0_0), .val (.int x5), .val (.int x6), .val (.int x7), .val (.int u0), .val (.ref n2_0), .val (.int x10), .val (.int x11), .val (.int x12), .unset] [])) (fun t k => ?_) ?_
  · show Steps p.tables e below (T0.setTop (mkF m 259 #[.val (.int x0), .val (.int x1), .val (.int x2), .val (.int x3), .val (.ref n0_0), .val (.int x5), .val (.int x6), .val (.int x7), .val (.int x8), .val (.ref n2_0), .val (.int x10), .val (.int x11), .val (.int x12), .unset] [(.int u0)])) t
    refine XS.istore X0.here hx rfl (hb hby at_259) rfl (l' := #[.val (.int x0), .val (.int x1), .val (.int x2), .val (.int x3), .val (.ref n0_0), .val (.int x5), .val (.int x6), .val (.int x7), .val (.int u0), .val (.ref n2_0), .val (.int x10), .val (.int x11), .val (.int x12), .unset]) rfl ?_
    exact k
  exact b0_261w1 C X0 e0 N0 (by show cells ≤ 3; omega) (by show slots ≤ 22; omega) Z1 n0_0 n1_0 n2_0 (by omega) (by omega) (by omega) q_n0_0_freeCount q_n0_0_next q_n1_0 q_n2_0 x0 x1 x2 x3 x5 x6 x7 u0 x10 x11 x12 E_n0_0_0 F_n0_0_free_0 F_n0_0_freeCount_0 F_n0_0_next_0 A_n1_0_0 A_n2_0_0 hr
def g0_258 (q_n0_0_freeCount : Int32) (q_n0_0_next : Int32) (q_n1_0 : List Int32) (q_n2_0 : List Int32) : Option (Int32) := (g0_259 (0 : Int32) q_n0_0_freeCount q_n0_0_next q_n1_0 q_n2_0)
set_option maxRecDepth 65536 in
set_option maxHeartbeats 4000000 in
theorem b0_258 {r : Int32} (C : Ctx p s m meth c Z a0 "com/example/postloop/postloop/IdPoolTakePinLaw" code 14 (some .boolean) "law") (X0 : Stand p l e room_1 s m args below meth c T0 locs cells slots) (e0 : T0.heap = h0) (N0 : Fr n0 locs) (hk : cells ≤ 3) (hn : slots ≤ 22) (Z1 : n0 ≤ h0.size) (n0_0 : Addr) (n1_0 : Addr) (n2_0 : Addr) (o0 : n0 ≤ n0_0) (o1 : @LT.lt Nat instLTNat n0_0 n1_0) (o2 : @LT.lt Nat instLTNat n1_0 n2_0) (q_n0_0_freeCount : Int32) (q_n0_0_next : Int32) (q_n1_0 : List Int32) (q_n2_0 : List Int32) (x0 : Int32) (x1 : Int32) (x2 : Int32) (x3 : Int32) (x5 : Int32) (x6 : Int32) (x7 : Int32) (x8 : Int32) (x10 : Int32) (x11 : Int32) (x12 : Int32) (x13 : Int32) (E_n0_0_0 : Exa Z h0 n0_0 "com/example/postloop/postloop/IdPool") (F_n0_0_free_0 : Fld Z h0 n0_0 "com/example/postloop/postloop/IdPool" "free" "[I" (.ref n1_0)) (F_n0_0_freeCount_0 : Fld Z h0 n0_0 "com/example/postloop/postloop/IdPool" "freeCount" "I" (.int q_n0_0_freeCount)) (F_n0_0_next_0 : Fld Z h0 n0_0 "com/example/postloop/postloop/IdPool" "next" "I" (.int q_n0_0_next)) (A_n1_0_0 : AI Z h0 n1_0 .int q_n1_0) (A_n2_0_0 : AI Z h0 n2_0 .int q_n2_0) (hr : g0_258 q_n0_0_freeCount q_n0_0_next q_n1_0 q_n2_0 = some r) :
    Runs p e below s (P0 n0 r) 3 22 T0 (mkF m 258 #[.val (.int x0), .val (.int x1), .val (.int x2), .val (.int x3), .val (.ref n0_0), .val (.int x5), .val (.int x6), .val (.int x7), .val (.int x8), .val (.ref n2_0), .val (.int x10), .val (.int x11), .val (.int x12), .val (.int x13)] []) := by
  unfold g0_258 at hr
  have ⟨hx, hZ, hw, hby, hml, hown, hret, hlk, hnm⟩ := C
  refine Runs.via (T' := T0) (g' := (mkF m 259 #[.val (.int x0), .val (.int x1), .val (.int x2), .val (.int x3), .val (.ref n0_0), .val (.int x5), .val (.int x6), .val (.int x7), .val (.int x8), .val (.ref n2_0), .val (.int x10), .val (.int x11), .val (.int x12), .val (.int x13)] [(.int (0 : Int32))])) (fun t k => ?_) ?_
  · show Steps p.tables e below (T0.setTop (mkF m 258 #[.val (.int x0), .val (.int x1), .val (.int x2), .val (.int x3), .val (.ref n0_0), .val (.int x5), .val (.int x6), .val (.int x7), .val (.int x8), .val (.ref n2_0), .val (.int x10), .val (.int x11), .val (.int x12), .val (.int x13)] [])) t
    refine XS.iconst X0.here hx rfl (hb hby at_258) ?_
    exact k
  exact b0_259 C X0 e0 N0 (by show cells ≤ 3; omega) (by show slots ≤ 22; omega) Z1 n0_0 n1_0 n2_0 (by omega) (by omega) (by omega) q_n0_0_freeCount q_n0_0_next q_n1_0 q_n2_0 x0 x1 x2 x3 x5 x6 x7 x8 x10 x11 x12 x13 (0 : Int32) E_n0_0_0 F_n0_0_free_0 F_n0_0_freeCount_0 F_n0_0_next_0 A_n1_0_0 A_n2_0_0 hr
set_option maxRecDepth 65536 in
set_option maxHeartbeats 4000000 in
theorem b0_258w1 {r : Int32} (C : Ctx p s m meth c Z a0 "com/example/postloop/postloop/IdPoolTakePinLaw" code 14 (some .boolean) "law") (X0 : Stand p l e room_1 s m args below meth c T0 locs cells slots) (e0 : T0.heap = h0) (N0 : Fr n0 locs) (hk : cells ≤ 3) (hn : slots ≤ 22) (Z1 : n0 ≤ h0.size) (n0_0 : Addr) (n1_0 : Addr) (n2_0 : Addr) (o0 : n0 ≤ n0_0) (o1 : @LT.lt Nat instLTNat n0_0 n1_0) (o2 : @LT.lt Nat instLTNat n1_0 n2_0) (q_n0_0_freeCount : Int32) (q_n0_0_next : Int32) (q_n1_0 : List Int32) (q_n2_0 : List Int32) (x0 : Int32) (x1 : Int32) (x2 : Int32) (x3 : Int32) (x5 : Int32) (x6 : Int32) (x7 : Int32) (x8 : Int32) (x10 : Int32) (x11 : Int32) (x12 : Int32) (E_n0_0_0 : Exa Z h0 n0_0 "com/example/postloop/postloop/IdPool") (F_n0_0_free_0 : Fld Z h0 n0_0 "com/example/postloop/postloop/IdPool" "free" "[I" (.ref n1_0)) (F_n0_0_freeCount_0 : Fld Z h0 n0_0 "com/example/postloop/postloop/IdPool" "freeCount" "I" (.int q_n0_0_freeCount)) (F_n0_0_next_0 : Fld Z h0 n0_0 "com/example/postloop/postloop/IdPool" "next" "I" (.int q_n0_0_next)) (A_n1_0_0 : AI Z h0 n1_0 .int q_n1_0) (A_n2_0_0 : AI Z h0 n2_0 .int q_n2_0) (hr : g0_258 q_n0_0_freeCount q_n0_0_next q_n1_0 q_n2_0 = some r) :
    Runs p e below s (P0 n0 r) 3 22 T0 (mkF m 258 #[.val (.int x0), .val (.int x1), .val (.int x2), .val (.int x3), .val (.ref n0_0), .val (.int x5), .val (.int x6), .val (.int x7), .val (.int x8), .val (.ref n2_0), .val (.int x10), .val (.int x11), .val (.int x12), .unset] []) := by
  unfold g0_258 at hr
  have ⟨hx, hZ, hw, hby, hml, hown, hret, hlk, hnm⟩ := C
  refine Runs.via (T' := T0) (g' := (mkF m 259 #[.val (.int x0), .val (.int x1), .val (.int x2), .val (.int x3), .val (.ref n0_0), .val (.int x5), .val (.int x6), .val (.int x7), .val (.int x8), .val (.ref n2_0), .val (.int x10), .val (.int x11), .val (.int x12), .unset] [(.int (0 : Int32))])) (fun t k => ?_) ?_
  · show Steps p.tables e below (T0.setTop (mkF m 258 #[.val (.int x0), .val (.int x1), .val (.int x2), .val (.int x3), .val (.ref n0_0), .val (.int x5), .val (.int x6), .val (.int x7), .val (.int x8), .val (.ref n2_0), .val (.int x10), .val (.int x11), .val (.int x12), .unset] [])) t
    refine XS.iconst X0.here hx rfl (hb hby at_258) ?_
    exact k
  exact b0_259w1 C X0 e0 N0 (by show cells ≤ 3; omega) (by show slots ≤ 22; omega) Z1 n0_0 n1_0 n2_0 (by omega) (by omega) (by omega) q_n0_0_freeCount q_n0_0_next q_n1_0 q_n2_0 x0 x1 x2 x3 x5 x6 x7 x8 x10 x11 x12 (0 : Int32) E_n0_0_0 F_n0_0_free_0 F_n0_0_freeCount_0 F_n0_0_next_0 A_n1_0_0 A_n2_0_0 hr
def g0_234 (x2 : Int32) (x8 : Int32) (x10 : Int32) (q_n0_0_freeCount : Int32) (q_n0_0_next : Int32) (q_n1_0 : List Int32) (q_n2_0 : List Int32) : Option (Int32) := (if x2 < (1 : Int32) then (g0_261 x8 q_n0_0_freeCount q_n0_0_next q_n1_0 q_n2_0) else (if x8 = (0 : Int32) then (g0_258 q_n0_0_freeCount q_n0_0_next q_n1_0 q_n2_0) else ((f3 q_n0_0_freeCount q_n0_0_next q_n1_0).bind fun r3 => (if r3.1 = x10 then (g0_259 (1 : Int32) r3.2.1 r3.2.2 q_n1_0 q_n2_0) else (g0_258 r3.2.1 r3.2.2 q_n1_0 q_n2_0)))))
set_option maxRecDepth 65536 in
set_option maxHeartbeats 4000000 in
theorem b0_234 {r : Int32} (C : Ctx p s m meth c Z a0 "com/example/postloop/postloop/IdPoolTakePinLaw" code 14 (some .boolean) "law") (X0 : Stand p l e room_1 s m args below meth c T0 locs cells slots) (e0 : T0.heap = h0) (N0 : Fr n0 locs) (hk : cells ≤ 3) (hn : slots ≤ 22) (Z1 : n0 ≤ h0.size) (n0_0 : Addr) (n1_0 : Addr) (n2_0 : Addr) (o0 : n0 ≤ n0_0) (o1 : @LT.lt Nat instLTNat n0_0 n1_0) (o2 : @LT.lt Nat instLTNat n1_0 n2_0) (q_n0_0_freeCount : Int32) (q_n0_0_next : Int32) (q_n1_0 : List Int32) (q_n2_0 : List Int32) (x0 : Int32) (x1 : Int32) (x2 : Int32) (x3 : Int32) (x5 : Int32) (x6 : Int32) (x7 : Int32) (x8 : Int32) (x10 : Int32) (x11 : Int32) (x12 : Int32) (x13 : Int32) (E_n0_0_0 : Exa Z h0 n0_0 "com/example/postloop/postloop/IdPool") (F_n0_0_free_0 : Fld Z h0 n0_0 "com/example/postloop/postloop/IdPool" "free" "[I" (.ref n1_0)) (F_n0_0_freeCount_0 : Fld Z h0 n0_0 "com/example/postloop/postloop/IdPool" "freeCount" "I" (.int q_n0_0_freeCount)) (F_n0_0_next_0 : Fld Z h0 n0_0 "com/example/postloop/postloop/IdPool" "next" "I" (.int q_n0_0_next)) (A_n1_0_0 : AI Z h0 n1_0 .int q_n1_0) (A_n2_0_0 : AI Z h0 n2_0 .int q_n2_0) (hr : g0_234 x2 x8 x10 q_n0_0_freeCount q_n0_0_next q_n1_0 q_n2_0 = some r) :
    Runs p e below s (P0 n0 r) 3 22 T0 (mkF m 234 #[.val (.int x0), .val (.int x1), .val (.int x2), .val (.int x3), .val (.ref n0_0), .val (.int x5), .val (.int x6), .val (.int x7), .val (.int x8), .val (.ref n2_0), .val (.int x10), .val (.int x11), .val (.int x12), .val (.int x13)] []) := by
  unfold g0_234 at hr
  have ⟨hx, hZ, hw, hby, hml, hown, hret, hlk, hnm⟩ := C
  refine Runs.via (T' := T0) (g' := (mkF m 236 #[.val (.int x0), .val (.int x1), .val (.int x2), .val (.int x3), .val (.ref n0_0), .val (.int x5), .val (.int x6), .val (.int x7), .val (.int x8), .val (.ref n2_0), .val (.int x10), .val (.int x11), .val (.int x12), .val (.int x13)] [(.int (1 : Int32)), (.int x2)])) (fun t k => ?_) ?_
  · show Steps p.tables e below (T0.setTop (mkF m 234 #[.val (.int x0), .val (.int x1), .val (.int x2), .val (.int x3), .val (.ref n0_0), .val (.int x5), .val (.int x6), .val (.int x7), .val (.int x8), .val (.ref n2_0), .val (.int x10), .val (.int x11), .val (.int x12), .val (.int x13)] [])) t
    refine XS.iloadN X0.here hx rfl (hb hby at_234) rfl ?_
    show Steps p.tables e below (T0.setTop (mkF m 235 #[.val (.int x0), .val (.int x1), .val (.int x2), .val (.int x3), .val (.ref n0_0), .val (.int x5), .val (.int x6), .val (.int x7), .val (.int x8), .val (.ref n2_0), .val (.int x10), .val (.int x11), .val (.int x12), .val (.int x13)] [(.int x2)])) t
    refine XS.iconst X0.here hx rfl (hb hby at_235) ?_
    exact k
  refine iteE hr (fun hc1 hr => ?_) (fun hc1 hr => ?_)
  · refine Runs.via (T' := T0) (g' := (mkF m 261 #[.val (.int x0), .val (.int x1), .val (.int x2), .val (.int x3), .val (.ref n0_0), .val (.int x5), .val (.int x6), .val (.int x7), .val (.int x8), .val (.ref n2_0), .val (.int x10), .val (.int x11), .val (.int x12), .val (.int x13)] [])) (fun t k => ?_) ?_
    · show Steps p.tables e below (T0.setTop (mkF m 236 #[.val (.int x0), .val (.int x1), .val (.int x2), .val (.int x3), .val (.ref n0_0), .val (.int x5), .val (.int x6), .val (.int x7), .val (.int x8), .val (.ref n2_0), .val (.int x10), .val (.int x11), .val (.int x12), .val (.int x13)] [(.int (1 : Int32)), (.int x2)])) t
      exact XS.icmpYes X0.here hx rfl (pc0 := 236) (pc' := 261) rfl (hb hby at_236) rfl (tlt hc1).1 (by decide) (by decide) k
    exact b0_261 C X0 e0 N0 (by show cells ≤ 3; omega) (by show slots ≤ 22; omega) Z1 n0_0 n1_0 n2_0 (by omega) (by omega) (by omega) q_n0_0_freeCount q_n0_0_next q_n1_0 q_n2_0 x0 x1 x2 x3 x5 x6 x7 x8 x10 x11 x12 x13 E_n0_0_0 F_n0_0_free_0 F_n0_0_freeCount_0 F_n0_0_next_0 A_n1_0_0 A_n2_0_0 hr
  · refine Runs.via (T' := T0) (g' := (mkF m 239 #[.val (.int x0), .val (.int x1), .val (.int x2), .val (.int x3), .val (.ref n0_0), .val (.int x5), .val (.int x6), .val (.int x7), .val (.int x8), .val (.ref n2_0), .val (.int x10), .val (.int x11), .val (.int x12), .val (.int x13)] [])) (fun t k => ?_) ?_
    · show Steps p.tables e below (T0.setTop (mkF m 236 #[.val (.int x0), .val (.int x1), .val (.int x2), .val (.int x3), .val (.ref n0_0), .val (.int x5), .val (.int x6), .val (.int x7), .val (.int x8), .val (.ref n2_0), .val (.int x10), .val (.int x11), .val (.int x12), .val (.int x13)] [(.int (1 : Int32)), (.int x2)])) t
      exact XS.icmpNo X0.here hx rfl (hb hby at_236) rfl (flt hc1).1 k
    refine Runs.via (T' := T0) (g' := (mkF m 241 #[.val (.int x0), .val (.int x1), .val (.int x2), .val (.int x3), .val (.ref n0_0), .val (.int x5), .val (.int x6), .val (.int x7), .val (.int x8), .val (.ref n2_0), .val (.int x10), .val (.int x11), .val (.int x12), .val (.int x13)] [(.int x8)])) (fun t k => ?_) ?_
    · show Steps p.tables e below (T0.setTop (mkF m 239 #[.val (.int x0), .val (.int x1), .val (.int x2), .val (.int x3), .val (.ref n0_0), .val (.int x5), .val (.int x6), .val (.int x7), .val (.int x8), .val (.ref n2_0), .val (.int x10), .val (.int x11), .val (.int x12), .val (.int x13)] [])) t
      refine XS.iload X0.here hx rfl (hb hby at_239) rfl ?_
      exact k
    refine iteE hr (fun hc2 hr => ?_) (fun hc2 hr => ?_)
    · refine Runs.via (T' := T0) (g' := (mkF m 258 #[.val (.int x0), .val (.int x1), .val (.int x2), .val (.int x3), .val (.ref n0_0), .val (.int x5), .val (.int x6), .val (.int x7), .val (.int x8), .val (.ref n2_0), .val (.int x10), .val (.int x11), .val (.int x12), .val (.int x13)] [])) (fun t k => ?_) ?_
      · show Steps p.tables e below (T0.setTop (mkF m 241 #[.val (.int x0), .val (.int x1), .val (.int x2), .val (.int x3), .val (.ref n0_0), .val (.int x5), .val (.int x6), .val (.int x7), .val (.int x8), .val (.ref n2_0), .val (.int x10), .val (.int x11), .val (.int x12), .val (.int x13)] [(.int x8)])) t
        exact XS.ifYes X0.here hx rfl (pc0 := 241) (pc' := 258) rfl (hb hby at_241) rfl ((if0 _ _).trans (teq hc2).1) (by decide) (by decide) k
      exact b0_258 C X0 e0 N0 (by show cells ≤ 3; omega) (by show slots ≤ 22; omega) Z1 n0_0 n1_0 n2_0 (by omega) (by omega) (by omega) q_n0_0_freeCount q_n0_0_next q_n1_0 q_n2_0 x0 x1 x2 x3 x5 x6 x7 x8 x10 x11 x12 x13 E_n0_0_0 F_n0_0_free_0 F_n0_0_freeCount_0 F_n0_0_next_0 A_n1_0_0 A_n2_0_0 hr
    · refine Runs.via (T' := T0) (g' := (mkF m 244 #[.val (.int x0), .val (.int x1), .val (.int x2), .val (.int x3), .val (.ref n0_0), .val (.int x5), .val (.int x6), .val (.int x7), .val (.int x8), .val (.ref n2_0), .val (.int x10), .val (.int x11), .val (.int x12), .val (.int x13)] [])) (fun t k => ?_) ?_
      · show Steps p.tables e below (T0.setTop (mkF m 241 #[.val (.int x0), .val (.int x1), .val (.int x2), .val (.int x3), .val (.ref n0_0), .val (.int x5), .val (.int x6), .val (.int x7), .val (.int x8), .val (.ref n2_0), .val (.int x10), .val (.int x11), .val (.int x12), .val (.int x13)] [(.int x8)])) t
        exact XS.ifNo X0.here hx rfl (hb hby at_241) rfl ((if0 _ _).trans (feq hc2).1) k
      refine Runs.via (T' := T0) (g' := (mkF m 246 #[.val (.int x0), .val (.int x1), .val (.int x2), .val (.int x3), .val (.ref n0_0), .val (.int x5), .val (.int x6), .val (.int x7), .val (.int x8), .val (.ref n2_0), .val (.int x10), .val (.int x11), .val (.int x12), .val (.int x13)] [(.ref n0_0)])) (fun t k => ?_) ?_
      · show Steps p.tables e below (T0.setTop (mkF m 244 #[.val (.int x0), .val (.int x1), .val (.int x2), .val (.int x3), .val (.ref n0_0), .val (.int x5), .val (.int x6), .val (.int x7), .val (.int x8), .val (.ref n2_0), .val (.int x10), .val (.int x11), .val (.int x12), .val (.int x13)] [])) t
        refine XS.aload X0.here hx rfl (hb hby at_244) rfl rfl ?_
        exact k
      refine bindE hr ?_; intro r3 hr3m hr
      obtain ⟨cq3, kq3, q3a, q3b, q3c⟩ := isOf hZ e0 E_n0_0_0
      obtain ⟨_, _, ⟨T3, L3, k3, n3⟩, -, X3, ⟨Lc3, hQ3, l3, y3, z3⟩, st3⟩ := X0.virtualBack hx (y := (⟨"com/example/postloop/postloop/IdPool", "take", "()I"⟩ : MethodName)) (z := (⟨"com/example/postloop/postloop/IdPool", "take", "()I"⟩ : MethodName)) hown (mvT hZ (hw _ (List.mem_of_getElem? (i := 13) rfl))) (mvT hZ (hw _ (List.mem_of_getElem? (i := 14) rfl))) (notFace_of_selects (args := #[]) (mvT hZ (hw _ (List.mem_of_getElem? (i := 16) rfl)))) (mvT hZ (hw _ (List.mem_of_getElem? (i := 16) rfl))) (mvT hZ (hw _ (List.mem_of_getElem? (i := 15) rfl))) (by decide) (backOf (W := 0) (rm3 l Z a0 hw [] n0_0 n1_0 q_n0_0_freeCount q_n0_0_next q_n1_0 h0 n0 Z1 (by omega) (by omega) E_n0_0_0 F_n0_0_free_0 F_n0_0_freeCount_0 F_n0_0_next_0 A_n1_0_0 r3 hr3m) hZ (hw _ (List.mem_of_getElem? (i := 17) rfl)) (hw _ (List.mem_of_getElem? (i := 3) rfl)) (by decide) (by decide)) q3a q3c (g := (mkF m 246 #[.val (.int x0), .val (.int x1), .val (.int x2), .val (.int x3), .val (.ref n0_0), .val (.int x5), .val (.int x6), .val (.int x7), .val (.int x8), .val (.ref n2_0), .val (.int x10), .val (.int x11), .val (.int x12), .val (.int x13)] [(.ref n0_0)])) rfl (by rw [hml]; rfl) (Steps.refl _) (argsL := []) (rest := []) (lenOf pd_1 rfl) rfl (by show 2 * 0 + _ ≤ _; exact Nat.le_of_eq rfl) (hb hby at_246) (fun _ _ => ⟨rfl, e0, (by show cells + 0 ≤ 16; omega), (by show slots + 0 ≤ 128; omega)⟩)
      dsimp only [Pt.U, Pt.locs, Pt.cells, Pt.slots] at X3 l3 y3 z3 st3 hQ3
      replace y3 := y3.symm; replace z3 := z3.symm; subst l3 y3 z3
      obtain ⟨h3, e3⟩ : ∃ z, T3.heap = z := ⟨_, rfl⟩
      rw [e3] at hQ3
      obtain ⟨rfl, N3q, K3q, E_n0_0_3, F_n0_0_free_3, F_n0_0_freeCount_3, F_n0_0_next_3⟩ := hQ3
      have N3 := Fr.app N0 N3q
      have A_n1_0_3 := A_n1_0_0.keep K3q (ninS (by omega : @Ne Nat n1_0 n0_0) nin0)
      have A_n2_0_3 := A_n2_0_0.keep K3q (ninS (by omega : @Ne Nat n2_0 n0_0) nin0)
      have zz3 : n0 ≤ h3.size := Nat.le_trans Z1 K3q.1
      refine Runs.via (T' := T3) (g' := (mkF m 249 #[.val (.int x0), .val (.int x1), .val (.int x2), .val (.int x3), .val (.ref n0_0), .val (.int x5), .val (.int x6), .val (.int x7), .val (.int x8), .val (.ref n2_0), .val (.int x10), .val (.int x11), .val (.int x12), .val (.int x13)] [(.int r3.1)])) (fun t k => st3.trans k) ?_
      refine Runs.via (T' := T3) (g' := (mkF m 251 #[.val (.int x0), .val (.int x1), .val (.int x2), .val (.int x3), .val (.ref n0_0), .val (.int x5), .val (.int x6), .val (.int x7), .val (.int x8), .val (.ref n2_0), .val (.int x10), .val (.int x11), .val (.int x12), .val (.int x13)] [(.int x10), (.int r3.1)])) (fun t k => ?_) ?_
      · show Steps p.tables e below (T3.setTop (mkF m 249 #[.val (.int x0), .val (.int x1), .val (.int x2), .val (.int x3), .val (.ref n0_0), .val (.int x5), .val (.int x6), .val (.int x7), .val (.int x8), .val (.ref n2_0), .val (.int x10), .val (.int x11), .val (.int x12), .val (.int x13)] [(.int r3.1)])) t
        refine XS.iload X3.here hx rfl (hb hby at_249) rfl ?_
        exact k
      refine iteE hr (fun hc4 hr => ?_) (fun hc4 hr => ?_)
      · refine Runs.via (T' := T3) (g' := (mkF m 254 #[.val (.int x0), .val (.int x1), .val (.int x2), .val (.int x3), .val (.ref n0_0), .val (.int x5), .val (.int x6), .val (.int x7), .val (.int x8), .val (.ref n2_0), .val (.int x10), .val (.int x11), .val (.int x12), .val (.int x13)] [])) (fun t k => ?_) ?_
        · show Steps p.tables e below (T3.setTop (mkF m 251 #[.val (.int x0), .val (.int x1), .val (.int x2), .val (.int x3), .val (.ref n0_0), .val (.int x5), .val (.int x6), .val (.int x7), .val (.int x8), .val (.ref n2_0), .val (.int x10), .val (.int x11), .val (.int x12), .val (.int x13)] [(.int x10), (.int r3.1)])) t
          exact XS.icmpNo X3.here hx rfl (hb hby at_251) rfl (teq hc4).2 k
        refine Runs.via (T' := T3) (g' := (mkF m 259 #[.val (.int x0), .val (.int x1), .val (.int x2), .val (.int x3), .val (.ref n0_0), .val (.int x5), .val (.int x6), .val (.int x7), .val (.int x8), .val (.ref n2_0), .val (.int x10), .val (.int x11), .val (.int x12), .val (.int x13)] [(.int (1 : Int32))])) (fun t k => ?_) ?_
        · show Steps p.tables e below (T3.setTop (mkF m 254 #[.val (.int x0), .val (.int x1), .val (.int x2), .val (.int x3), .val (.ref n0_0), .val (.int x5), .val (.int x6), .val (.int x7), .val (.int x8), .val (.ref n2_0), .val (.int x10), .val (.int x11), .val (.int x12), .val (.int x13)] [])) t
          refine XS.iconst X3.here hx rfl (hb hby at_254) ?_
          show Steps p.tables e below (T3.setTop (mkF m 255 #[.val (.int x0), .val (.int x1), .val (.int x2), .val (.int x3), .val (.ref n0_0), .val (.int x5), .val (.int x6), .val (.int x7), .val (.int x8), .val (.ref n2_0), .val (.int x10), .val (.int x11), .val (.int x12), .val (.int x13)] [(.int (1 : Int32))])) t
          refine XS.goto X3.here hx rfl (pc0 := 255) (pc' := 259) rfl (hb hby at_255) (by decide) (by decide) ?_
          exact k
        exact b0_259 C X3 e3 N3 (by show (cells + 0) ≤ 3; omega) (by show (slots + 0) ≤ 22; omega) zz3 n0_0 n1_0 n2_0 (by omega) (by omega) (by omega) r3.2.1 r3.2.2 q_n1_0 q_n2_0 x0 x1 x2 x3 x5 x6 x7 x8 x10 x11 x12 x13 (1 : Int32) E_n0_0_3 F_n0_0_free_3 F_n0_0_freeCount_3 F_n0_0_next_3 A_n1_0_3 A_n2_0_3 hr
      · refine Runs.via (T' := T3) (g' := (mkF m 258 #[.val (.int x0), .val (.int x1), .val (.int x2), .val (.int x3), .val (.ref n0_0), .val (.int x5), .val (.int x6), .val (.int x7), .val (.int x8), .val (.ref n2_0), .val (.int x10), .val (.int x11), .val (.int x12), .val (.int x13)] [])) (fun t k => ?_) ?_
        · show Steps p.tables e below (T3.setTop (mkF m 251 #[.val (.int x0), .val (.int x1), .val (.int x2), .val (.int x3), .val (.ref n0_0), .val (.int x5), .val (.int x6), .val (.int x7), .val (.int x8), .val (.ref n2_0), .val (.int x10), .val (.int x11), .val (.int x12), .val (.int x13)] [(.int x10), (.int r3.1)])) t
          exact XS.icmpYes X3.here hx rfl (pc0 := 251) (pc' := 258) rfl (hb hby at_251) rfl (feq hc4).2 (by decide) (by decide) k
        exact b0_258 C X3 e3 N3 (by show (cells + 0) ≤ 3; omega) (by show (slots + 0) ≤ 22; omega) zz3 n0_0 n1_0 n2_0 (by omega) (by omega) (by omega) r3.2.1 r3.2.2 q_n1_0 q_n2_0 x0 x1 x2 x3 x5 x6 x7 x8 x10 x11 x12 x13 E_n0_0_3 F_n0_0_free_3 F_n0_0_freeCount_3 F_n0_0_next_3 A_n1_0_3 A_n2_0_3 hr
set_option maxRecDepth 65536 in
set_option maxHeartbeats 4000000 in
theorem b0_234w1 {r : Int32} (C : Ctx p s m meth c Z a0 "com/example/postloop/postloop/IdPoolTakePinLaw" code 14 (some .boolean) "law") (X0 : Stand p l e room_1 s m args below meth c T0 locs cells slots) (e0 : T0.heap = h0) (N0 : Fr n0 locs) (hk : cells ≤ 3) (hn : slots ≤ 22) (Z1 : n0 ≤ h0.size) (n0_0 : Addr) (n1_0 : Addr) (n2_0 : Addr) (o0 : n0 ≤ n0_0) (o1 : @LT.lt Nat instLTNat n0_0 n1_0) (o2 : @LT.lt Nat instLTNat n1_0 n2_0) (q_n0_0_freeCount : Int32) (q_n0_0_next : Int32) (q_n1_0 : List Int32) (q_n2_0 : List Int32) (x0 : Int32) (x1 : Int32) (x2 : Int32) (x3 : Int32) (x5 : Int32) (x6 : Int32) (x7 : Int32) (x8 : Int32) (x10 : Int32) (x11 : Int32) (x12 : Int32) (E_n0_0_0 : Exa Z h0 n0_0 "com/example/postloop/postloop/IdPool") (F_n0_0_free_0 : Fld Z h0 n0_0 "com/example/postloop/postloop/IdPool" "free" "[I" (.ref n1_0)) (F_n0_0_freeCount_0 : Fld Z h0 n0_0 "com/example/postloop/postloop/IdPool" "freeCount" "I" (.int q_n0_0_freeCount)) (F_n0_0_next_0 : Fld Z h0 n0_0 "com/example/postloop/postloop/IdPool" "next" "I" (.int q_n0_0_next)) (A_n1_0_0 : AI Z h0 n1_0 .int q_n1_0) (A_n2_0_0 : AI Z h0 n2_0 .int q_n2_0) (hr : g0_234 x2 x8 x10 q_n0_0_freeCount q_n0_0_next q_n1_0 q_n2_0 = some r) :
    Runs p e below s (P0 n0 r) 3 22 T0 (mkF m 234 #[.val (.int x0), .val (.int x1), .val (.int x2), .val (.int x3), .val (.ref n0_0), .val (.int x5), .val (.int x6), .val (.int x7), .val (.int x8), .val (.ref n2_0), .val (.int x10), .val (.int x11), .val (.int x12), .unset] []) := by
  unfold g0_234 at hr
  have ⟨hx, hZ, hw, hby, hml, hown, hret, hlk, hnm⟩ := C
  refine Runs.via (T' := T0) (g' := (mkF m 236 #[.val (.int x0), .val (.int x1), .val (.int x2), .val (.int x3), .val (.ref n0_0), .val (.int x5), .val (.int x6), .val (.int x7), .val (.int x8), .val (.ref n2_0), .val (.int x10), .val (.int x11), .val (.int x12), .unset] [(.int (1 : Int32)), (.int x2)])) (fun t k => ?_) ?_
  · show Steps p.tables e below (T0.setTop (mkF m 234 #[.val (.int x0), .val (.int x1), .val (.int x2), .val (.int x3), .val (.ref n0_0), .val (.int x5), .val (.int x6), .val (.int x7), .val (.int x8), .val (.ref n2_0), .val (.int x10), .val (.int x11), .val (.int x12), .unset] [])) t
    refine XS.iloadN X0.here hx rfl (hb hby at_234) rfl ?_
    show Steps p.tables e below (T0.setTop (mkF m 235 #[.val (.int x0), .val (.int x1), .val (.int x2), .val (.int x3), .val (.ref n0_0), .val (.int x5), .val (.int x6), .val (.int x7), .val (.int x8), .val (.ref n2_0), .val (.int x10), .val (.int x11), .val (.int x12), .unset] [(.int x2)])) t
    refine XS.iconst X0.here hx rfl (hb hby at_235) ?_
    exact k
  refine iteE hr (fun hc1 hr => ?_) (fun hc1 hr => ?_)
  · refine Runs.via (T' := T0) (g' := (mkF m 261 #[.val (.int x0), .val (.int x1), .val (.int x2), .val (.int x3), .val (.ref n0_0), .val (.int x5), .val (.int x6), .val (.int x7), .val (.int x8), .val (.ref n2_0), .val (.int x10), .val (.int x11), .val (.int x12), .unset] [])) (fun t k => ?_) ?_
    · show Steps p.tables e below (T0.setTop (mkF m 236 #[.val (.int x0), .val (.int x1), .val (.int x2), .val (.int x3), .val (.ref n0_0), .val (.int x5), .val (.int x6), .val (.int x7), .val (.int x8), .val (.ref n2_0), .val (.int x10), .val (.int x11), .val (.int x12), .unset] [(.int (1 : Int32)), (.int x2)])) t
      exact XS.icmpYes X0.here hx rfl (pc0 := 236) (pc' := 261) rfl (hb hby at_236) rfl (tlt hc1).1 (by decide) (by decide) k
    exact b0_261w1 C X0 e0 N0 (by show cells ≤ 3; omega) (by show slots ≤ 22; omega) Z1 n0_0 n1_0 n2_0 (by omega) (by omega) (by omega) q_n0_0_freeCount q_n0_0_next q_n1_0 q_n2_0 x0 x1 x2 x3 x5 x6 x7 x8 x10 x11 x12 E_n0_0_0 F_n0_0_free_0 F_n0_0_freeCount_0 F_n0_0_next_0 A_n1_0_0 A_n2_0_0 hr
  · refine Runs.via (T' := T0) (g' := (mkF m 239 #[.val (.int x0), .val (.int x1), .val (.int x2), .val (.int x3), .val (.ref n0_0), .val (.int x5), .val (.int x6), .val (.int x7), .val (.int x8), .val (.ref n2_0), .val (.int x10), .val (.int x11), .val (.int x12), .unset] [])) (fun t k => ?_) ?_
    · show Steps p.tables e below (T0.setTop (mkF m 236 #[.val (.int x0), .val (.int x1), .val (.int x2), .val (.int x3), .val (.ref n0_0), .val (.int x5), .val (.int x6), .val (.int x7), .val (.int x8), .val (.ref n2_0), .val (.int x10), .val (.int x11), .val (.int x12), .unset] [(.int (1 : Int32)), (.int x2)])) t
      exact XS.icmpNo X0.here hx rfl (hb hby at_236) rfl (flt hc1).1 k
    refine Runs.via (T' := T0) (g' := (mkF m 241 #[.val (.int x0), .val (.int x1), .val (.int x2), .val (.int x3), .val (.ref n0_0), .val (.int x5), .val (.int x6), .val (.int x7), .val (.int x8), .val (.ref n2_0), .val (.int x10), .val (.int x11), .val (.int x12), .unset] [(.int x8)])) (fun t k => ?_) ?_
    · show Steps p.tables e below (T0.setTop (mkF m 239 #[.val (.int x0), .val (.int x1), .val (.int x2), .val (.int x3), .val (.ref n0_0), .val (.int x5), .val (.int x6), .val (.int x7), .val (.int x8), .val (.ref n2_0), .val (.int x10), .val (.int x11), .val (.int x12), .unset] [])) t
      refine XS.iload X0.here hx rfl (hb hby at_239) rfl ?_
      exact k
    refine iteE hr (fun hc2 hr => ?_) (fun hc2 hr => ?_)
    · refine Runs.via (T' := T0) (g' := (mkF m 258 #[.val (.int x0), .val (.int x1), .val (.int x2), .val (.int x3), .val (.ref n0_0), .val (.int x5), .val (.int x6), .val (.int x7), .val (.int x8), .val (.ref n2_0), .val (.int x10), .val (.int x11), .val (.int x12), .unset] [])) (fun t k => ?_) ?_
      · show Steps p.tables e below (T0.setTop (mkF m 241 #[.val (.int x0), .val (.int x1), .val (.int x2), .val (.int x3), .val (.ref n0_0), .val (.int x5), .val (.int x6), .val (.int x7), .val (.int x8), .val (.ref n2_0), .val (.int x10), .val (.int x11), .val (.int x12), .unset] [(.int x8)])) t
        exact XS.ifYes X0.here hx rfl (pc0 := 241) (pc' := 258) rfl (hb hby at_241) rfl ((if0 _ _).trans (teq hc2).1) (by decide) (by decide) k
      exact b0_258w1 C X0 e0 N0 (by show cells ≤ 3; omega) (by show slots ≤ 22; omega) Z1 n0_0 n1_0 n2_0 (by omega) (by omega) (by omega) q_n0_0_freeCount q_n0_0_next q_n1_0 q_n2_0 x0 x1 x2 x3 x5 x6 x7 x8 x10 x11 x12 E_n0_0_0 F_n0_0_free_0 F_n0_0_freeCount_0 F_n0_0_next_0 A_n1_0_0 A_n2_0_0 hr
    · refine Runs.via (T' := T0) (g' := (mkF m 244 #[.val (.int x0), .val (.int x1), .val (.int x2), .val (.int x3), .val (.ref n0_0), .val (.int x5), .val (.int x6), .val (.int x7), .val (.int x8), .val (.ref n2_0), .val (.int x10), .val (.int x11), .val (.int x12), .unset] [])) (fun t k => ?_) ?_
      · show Steps p.tables e below (T0.setTop (mkF m 241 #[.val (.int x0), .val (.int x1), .val (.int x2), .val (.int x3), .val (.ref n0_0), .val (.int x5), .val (.int x6), .val (.int x7), .val (.int x8), .val (.ref n2_0), .val (.int x10), .val (.int x11), .val (.int x12), .unset] [(.int x8)])) t
        exact XS.ifNo X0.here hx rfl (hb hby at_241) rfl ((if0 _ _).trans (feq hc2).1) k
      refine Runs.via (T' := T0) (g' := (mkF m 246 #[.val (.int x0), .val (.int x1), .val (.int x2), .val (.int x3), .val (.ref n0_0), .val (.int x5), .val (.int x6), .val (.int x7), .val (.int x8), .val (.ref n2_0), .val (.int x10), .val (.int x11), .val (.int x12), .unset] [(.ref n0_0)])) (fun t k => ?_) ?_
      · show Steps p.tables e below (T0.setTop (mkF m 244 #[.val (.int x0), .val (.int x1), .val (.int x2), .val (.int x3), .val (.ref n0_0), .val (.int x5), .val (.int x6), .val (.int x7), .val (.int x8), .val (.ref n2_0), .val (.int x10), .val (.int x11), .val (.int x12), .unset] [])) t
        refine XS.aload X0.here hx rfl (hb hby at_244) rfl rfl ?_
        exact k
      refine bindE hr ?_; intro r3 hr3m hr
      obtain ⟨cq3, kq3, q3a, q3b, q3c⟩ := isOf hZ e0 E_n0_0_0
      obtain ⟨_, _, ⟨T3, L3, k3, n3⟩, -, X3, ⟨Lc3, hQ3, l3, y3, z3⟩, st3⟩ := X0.virtualBack hx (y := (⟨"com/example/postloop/postloop/IdPool", "take", "()I"⟩ : MethodName)) (z := (⟨"com/example/postloop/postloop/IdPool", "take", "()I"⟩ : MethodName)) hown (mvT hZ (hw _ (List.mem_of_getElem? (i := 13) rfl))) (mvT hZ (hw _ (List.mem_of_getElem? (i := 14) rfl))) (notFace_of_selects (args := #[]) (mvT hZ (hw _ (List.mem_of_getElem? (i := 16) rfl)))) (mvT hZ (hw _ (List.mem_of_getElem? (i := 16) rfl))) (mvT hZ (hw _ (List.mem_of_getElem? (i := 15) rfl))) (by decide) (backOf (W := 0) (rm3 l Z a0 hw [] n0_0 n1_0 q_n0_0_freeCount q_n0_0_next q_n1_0 h0 n0 Z1 (by omega) (by omega) E_n0_0_0 F_n0_0_free_0 F_n0_0_freeCount_0 F_n0_0_next_0 A_n1_0_0 r3 hr3m) hZ (hw _ (List.mem_of_getElem? (i := 17) rfl)) (hw _ (List.mem_of_getElem? (i := 3) rfl)) (by decide) (by decide)) q3a q3c (g := (mkF m 246 #[.val (.int x0), .val (.int x1), .val (.int x2), .val (.int x3), .val (.ref n0_0), .val (.int x5), .val (.int x6), .val (.int x7), .val (.int x8), .val (.ref n2_0), .val (.int x10), .val (.int x11), .val (.int x12), .unset] [(.ref n0_0)])) rfl (by rw [hml]; rfl) (Steps.refl _) (argsL := []) (rest := []) (lenOf pd_1 rfl) rfl (by show 2 * 0 + _ ≤ _; exact Nat.le_of_eq rfl) (hb hby at_246) (fun _ _ => ⟨rfl, e0, (by show cells + 0 ≤ 16; omega), (by show slots + 0 ≤ 128; omega)⟩)
      dsimp only [Pt.U, Pt.locs, Pt.cells, Pt.slots] at X3 l3 y3 z3 st3 hQ3
      replace y3 := y3.symm; replace z3 := z3.symm; subst l3 y3 z3
      obtain ⟨h3, e3⟩ : ∃ z, T3.heap = z := ⟨_, rfl⟩
      rw [e3] at hQ3
      obtain ⟨rfl, N3q, K3q, E_n0_0_3, F_n0_0_free_3, F_n0_0_freeCount_3, F_n0_0_next_3⟩ := hQ3
      have N3 := Fr.app N0 N3q
      have A_n1_0_3 := A_n1_0_0.keep K3q (ninS (by omega : @Ne Nat n1_0 n0_0) nin0)
      have A_n2_0_3 := A_n2_0_0.keep K3q (ninS (by omega : @Ne Nat n2_0 n0_0) nin0)
      have zz3 : n0 ≤ h3.size := Nat.le_trans Z1 K3q.1
      refine Runs.via (T' := T3) (g' := (mkF m 249 #[.val (.int x0), .val (.int x1), .val (.int x2), .val (.int x3), .val (.ref n0_0), .val (.int x5), .val (.int x6), .val (.int x7), .val (.int x8), .val (.ref n2_0), .val (.int x10), .val (.int x11), .val (.int x12), .unset] [(.int r3.1)])) (fun t k => st3.trans k) ?_
      refine Runs.via (T' := T3) (g' := (mkF m 251 #[.val (.int x0), .val (.int x1), .val (.int x2), .val (.int x3), .val (.ref n0_0), .val (.int x5), .val (.int x6), .val (.int x7), .val (.int x8), .val (.ref n2_0), .val (.int x10), .val (.int x11), .val (.int x12), .unset] [(.int x10), (.int r3.1)])) (fun t k => ?_) ?_
      · show Steps p.tables e below (T3.setTop (mkF m 249 #[.val (.int x0), .val (.int x1), .val (.int x2), .val (.int x3), .val (.ref n0_0), .val (.int x5), .val (.int x6), .val (.int x7), .val (.int x8), .val (.ref n2_0), .val (.int x10), .val (.int x11), .val (.int x12), .unset] [(.int r3.1)])) t
        refine XS.iload X3.here hx rfl (hb hby at_249) rfl ?_
        exact k
      refine iteE hr (fun hc4 hr => ?_) (fun hc4 hr => ?_)
      · refine Runs.via (T' := T3) (g' := (mkF m 254 #[.val (.int x0), .val (.int x1), .val (.int x2), .val (.int x3), .val (.ref n0_0), .val (.int x5), .val (.int x6), .val (.int x7), .val (.int x8), .val (.ref n2_0), .val (.int x10), .val (.int x11), .val (.int x12), .unset] [])) (fun t k => ?_) ?_
        · show Steps p.tables e below (T3.setTop (mkF m 251 #[.val (.int x0), .val (.int x1), .val (.int x2), .val (.int x3), .val (.ref n0_0), .val (.int x5), .val (.int x6), .val (.int x7), .val (.int x8), .val (.ref n2_0), .val (.int x10), .val (.int x11), .val (.int x12), .unset] [(.int x10), (.int r3.1)])) t
          exact XS.icmpNo X3.here hx rfl (hb hby at_251) rfl (teq hc4).2 k
        refine Runs.via (T' := T3) (g' := (mkF m 259 #[.val (.int x0), .val (.int x1), .val (.int x2), .val (.int x3), .val (.ref n0_0), .val (.int x5), .val (.int x6), .val (.int x7), .val (.int x8), .val (.ref n2_0), .val (.int x10), .val (.int x11), .val (.int x12), .unset] [(.int (1 : Int32))])) (fun t k => ?_) ?_
        · show Steps p.tables e below (T3.setTop (mkF m 254 #[.val (.int x0), .val (.int x1), .val (.int x2), .val (.int x3), .val (.ref n0_0), .val (.int x5), .val (.int x6), .val (.int x7), .val (.int x8), .val (.ref n2_0), .val (.int x10), .val (.int x11), .val (.int x12), .unset] [])) t
          refine XS.iconst X3.here hx rfl (hb hby at_254) ?_
          show Steps p.tables e below (T3.setTop (mkF m 255 #[.val (.int x0), .val (.int x1), .val (.int x2), .val (.int x3), .val (.ref n0_0), .val (.int x5), .val (.int x6), .val (.int x7), .val (.int x8), .val (.ref n2_0), .val (.int x10), .val (.int x11), .val (.int x12), .unset] [(.int (1 : Int32))])) t
          refine XS.goto X3.here hx rfl (pc0 := 255) (pc' := 259) rfl (hb hby at_255) (by decide) (by decide) ?_
          exact k
        exact b0_259w1 C X3 e3 N3 (by show (cells + 0) ≤ 3; omega) (by show (slots + 0) ≤ 22; omega) zz3 n0_0 n1_0 n2_0 (by omega) (by omega) (by omega) r3.2.1 r3.2.2 q_n1_0 q_n2_0 x0 x1 x2 x3 x5 x6 x7 x8 x10 x11 x12 (1 : Int32) E_n0_0_3 F_n0_0_free_3 F_n0_0_freeCount_3 F_n0_0_next_3 A_n1_0_3 A_n2_0_3 hr
      · refine Runs.via (T' := T3) (g' := (mkF m 258 #[.val (.int x0), .val (.int x1), .val (.int x2), .val (.int x3), .val (.ref n0_0), .val (.int x5), .val (.int x6), .val (.int x7), .val (.int x8), .val (.ref n2_0), .val (.int x10), .val (.int x11), .val (.int x12), .unset] [])) (fun t k => ?_) ?_
        · show Steps p.tables e below (T3.setTop (mkF m 251 #[.val (.int x0), .val (.int x1), .val (.int x2), .val (.int x3), .val (.ref n0_0), .val (.int x5), .val (.int x6), .val (.int x7), .val (.int x8), .val (.ref n2_0), .val (.int x10), .val (.int x11), .val (.int x12), .unset] [(.int x10), (.int r3.1)])) t
          exact XS.icmpYes X3.here hx rfl (pc0 := 251) (pc' := 258) rfl (hb hby at_251) rfl (feq hc4).2 (by decide) (by decide) k
        exact b0_258w1 C X3 e3 N3 (by show (cells + 0) ≤ 3; omega) (by show (slots + 0) ≤ 22; omega) zz3 n0_0 n1_0 n2_0 (by omega) (by omega) (by omega) r3.2.1 r3.2.2 q_n1_0 q_n2_0 x0 x1 x2 x3 x5 x6 x7 x8 x10 x11 x12 E_n0_0_3 F_n0_0_free_3 F_n0_0_freeCount_3 F_n0_0_next_3 A_n1_0_3 A_n2_0_3 hr
def g0_232 (x2 : Int32) (x10 : Int32) (u0 : Int32) (q_n0_0_freeCount : Int32) (q_n0_0_next : Int32) (q_n1_0 : List Int32) (q_n2_0 : List Int32) : Option (Int32) := (g0_234 x2 u0 x10 q_n0_0_freeCount q_n0_0_next q_n1_0 q_n2_0)
set_option maxRecDepth 65536 in
set_option maxHeartbeats 4000000 in
theorem b0_232 {r : Int32} (C : Ctx p s m meth c Z a0 "com/example/postloop/postloop/IdPoolTakePinLaw" code 14 (some .boolean) "law") (X0 : Stand p l e room_1 s m args below meth c T0 locs cells slots) (e0 : T0.heap = h0) (N0 : Fr n0 locs) (hk : cells ≤ 3) (hn : slots ≤ 22) (Z1 : n0 ≤ h0.size) (n0_0 : Addr) (n1_0 : Addr) (n2_0 : Addr) (o0 : n0 ≤ n0_0) (o1 : @LT.lt Nat instLTNat n0_0 n1_0) (o2 : @LT.lt Nat instLTNat n1_0 n2_0) (q_n0_0_freeCount : Int32) (q_n0_0_next : Int32) (q_n1_0 : List Int32) (q_n2_0 : List Int32) (x0 : Int32) (x1 : Int32) (x2 : Int32) (x3 : Int32) (x5 : Int32) (x6 : Int32) (x7 : Int32) (x8 : Int32) (x10 : Int32) (x11 : Int32) (x12 : Int32) (x13 : Int32) (u0 : Int32) (E_n0_0_0 : Exa Z h0 n0_0 "com/example/postloop/postloop/IdPool") (F_n0_0_free_0 : Fld Z h0 n0_0 "com/example/postloop/postloop/IdPool" "free" "[I" (.ref n1_0)) (F_n0_0_freeCount_0 : Fld Z h0 n0_0 "com/example/postloop/postloop/IdPool" "freeCount" "I" (.int q_n0_0_freeCount)) (F_n0_0_next_0 : Fld Z h0 n0_0 "com/example/postloop/postloop/IdPool" "next" "I" (.int q_n0_0_next)) (A_n1_0_0 : AI Z h0 n1_0 .int q_n1_0) (A_n2_0_0 : AI Z h0 n2_0 .int q_n2_0) (hr : g0_232 x2 x10 u0 q_n0_0_freeCount q_n0_0_next q_n1_0 q_n2_0 = some r) :
    Runs p e below s (P0 n0 r) 3 22 T0 (mkF m 232 #[.val (.int x0), .val (.int x1), .val (.int x2), .val (.int x3), .val (.ref n0_0), .val (.int x5), .val (.int x6), .val (.int x7), .val (.int x8), .val (.ref n2_0), .val (.int x10), .val (.int x11), .val (.int x12), .val (.int x13)] [(.int u0)]) := by
  unfold g0_232 at hr
  have ⟨hx, hZ, hw, hby, hml, hown, hret, hlk, hnm⟩ := C
  refine Runs.via (T' := T0) (g' := (mkF m 234 #[.val (.int x0), .val (.int x1), .val (.int x2), .val (.int x3), .val (.ref n0_0), .val (.int x5), .val (.int x6), .val (.int x7), .val (.int u0), .val (.ref n2_0), .val (.int x10), .val (.int x11), .val (.int x12), .val (.int x13)] [])) (fun t k => ?_) ?_
  · show Steps p.tables e below (T0.setTop (mkF m 232 #[.val (.int x0), .val (.int x1), .val (.int x2), .val (.int x3), .val (.ref n0_0), .val (.int x5), .val (.int x6), .val (.int x7), .val (.int x8), .val (.ref n2_0), .val (.int x10), .val (.int x11), .val (.int x12), .val (.int x13)] [(.int u0)])) t
    refine XS.istore X0.here hx rfl (hb hby at_232) rfl (l' := #[.val (.int x0), .val (.int x1), .val (.int x2), .val (.int x3), .val (.ref n0_0), .val (.int x5), .val (.int x6), .val (.int x7), .val (.int u0), .val (.ref n2_0), .val (.int x10), .val (.int x11), .val (.int x12), .val (.int x13)]) rfl ?_
    exact k
  exact b0_234 C X0 e0 N0 (by show cells ≤ 3; omega) (by show slots ≤ 22; omega) Z1 n0_0 n1_0 n2_0 (by omega) (by omega) (by omega) q_n0_0_freeCount q_n0_0_next q_n1_0 q_n2_0 x0 x1 x2 x3 x5 x6 x7 u0 x10 x11 x12 x13 E_n0_0_0 F_n0_0_free_0 F_n0_0_freeCount_0 F_n0_0_next_0 A_n1_0_0 A_n2_0_0 hr
set_option maxRecDepth 65536 in
set_option maxHeartbeats 4000000 in
theorem b0_232w1 {r : Int32} (C : Ctx p s m meth c Z a0 "com/example/postloop/postloop/IdPoolTakePinLaw" code 14 (some .boolean) "law") (X0 : Stand p l e room_1 s m args below meth c T0 locs cells slots) (e0 : T0.heap = h0) (N0 : Fr n0 locs) (hk : cells ≤ 3) (hn : slots ≤ 22) (Z1 : n0 ≤ h0.size) (n0_0 : Addr) (n1_0 : Addr) (n2_0 : Addr) (o0 : n0 ≤ n0_0) (o1 : @LT.lt Nat instLTNat n0_0 n1_0) (o2 : @LT.lt Nat instLTNat n1_0 n2_0) (q_n0_0_freeCount : Int32) (q_n0_0_next : Int32) (q_n1_0 : List Int32) (q_n2_0 : List Int32) (x0 : Int32) (x1 : Int32) (x2 : Int32) (x3 : Int32) (x5 : Int32) (x6 : Int32) (x7 : Int32) (x8 : Int32) (x10 : Int32) (x11 : Int32) (x12 : Int32) (u0 : Int32) (E_n0_0_0 : Exa Z h0 n0_0 "com/example/postloop/postloop/IdPool") (F_n0_0_free_0 : Fld Z h0 n0_0 "com/example/postloop/postloop/IdPool" "free" "[I" (.ref n1_0)) (F_n0_0_freeCount_0 : Fld Z h0 n0_0 "com/example/postloop/postloop/IdPool" "freeCount" "I" (.int q_n0_0_freeCount)) (F_n0_0_next_0 : Fld Z h0 n0_0 "com/example/postloop/postloop/IdPool" "next" "I" (.int q_n0_0_next)) (A_n1_0_0 : AI Z h0 n1_0 .int q_n1_0) (A_n2_0_0 : AI Z h0 n2_0 .int q_n2_0) (hr : g0_232 x2 x10 u0 q_n0_0_freeCount q_n0_0_next q_n1_0 q_n2_0 = some r) :
    Runs p e below s (P0 n0 r) 3 22 T0 (mkF m 232 #[.val (.int x0), .val (.int x1), .val (.int x2), .val (.int x3), .val (.ref n0_0), .val (.int x5), .val (.int x6), .val (.int x7), .val (.int x8), .val (.ref n2_0), .val (.int x10), .val (.int x11), .val (.int x12), .unset] [(.int u0)]) := by
  unfold g0_232 at hr
  have ⟨hx, hZ, hw, hby, hml, hown, hret, hlk, hnm⟩ := C
  refine Runs.via (T' := T0) (g' := (mkF m 234 #[.val (.int x0), .val (.int x1), .val (.int x2), .val (.int x3), .val (.ref n0_0), .val (.int x5), .val (.int x6), .val (.int x7), .val (.int u0), .val (.ref n2_0), .val (.int x10), .val (.int x11), .val (.int x12), .unset] [])) (fun t k => ?_) ?_
  · show Steps p.tables e below (T0.setTop (mkF m 232 #[.val (.int x0), .val (.int x1), .val (.int x2), .val (.int x3), .val (.ref n0_0), .val (.int x5), .val (.int x6), .val (.int x7), .val (.int x8), .val (.ref n2_0), .val (.int x10), .val (.int x11), .val (.int x12), .unset] [(.int u0)])) t
    refine XS.istore X0.here hx rfl (hb hby at_232) rfl (l' := #[.val (.int x0), .val (.int x1), .val (.int x2), .val (.int x3), .val (.ref n0_0), .val (.int x5), .val (.int x6), .val (.int x7), .val (.int u0), .val (.ref n2_0), .val (.int x10), .val (.int x11), .val (.int x12), .unset]) rfl ?_
    exact k
  exact b0_234w1 C X0 e0 N0 (by show cells ≤ 3; omega) (by show slots ≤ 22; omega) Z1 n0_0 n1_0 n2_0 (by omega) (by omega) (by omega) q_n0_0_freeCount q_n0_0_next q_n1_0 q_n2_0 x0 x1 x2 x3 x5 x6 x7 u0 x10 x11 x12 E_n0_0_0 F_n0_0_free_0 F_n0_0_freeCount_0 F_n0_0_next_0 A_n1_0_0 A_n2_0_0 hr
def g0_231 (x2 : Int32) (x10 : Int32) (q_n0_0_freeCount : Int32) (q_n0_0_next : Int32) (q_n1_0 : List Int32) (q_n2_0 : List Int32) : Option (Int32) := (g0_232 x2 x10 (0 : Int32) q_n0_0_freeCount q_n0_0_next q_n1_0 q_n2_0)
set_option maxRecDepth 65536 in
set_option maxHeartbeats 4000000 in
theorem b0_231 {r : Int32} (C : Ctx p s m meth c Z a0 "com/example/postloop/postloop/IdPoolTakePinLaw" code 14 (some .boolean) "law") (X0 : Stand p l e room_1 s m args below meth c T0 locs cells slots) (e0 : T0.heap = h0) (N0 : Fr n0 locs) (hk : cells ≤ 3) (hn : slots ≤ 22) (Z1 : n0 ≤ h0.size) (n0_0 : Addr) (n1_0 : Addr) (n2_0 : Addr) (o0 : n0 ≤ n0_0) (o1 : @LT.lt Nat instLTNat n0_0 n1_0) (o2 : @LT.lt Nat instLTNat n1_0 n2_0) (q_n0_0_freeCount : Int32) (q_n0_0_next : Int32) (q_n1_0 : List Int32) (q_n2_0 : List Int32) (x0 : Int32) (x1 : Int32) (x2 : Int32) (x3 : Int32) (x5 : Int32) (x6 : Int32) (x7 : Int32) (x8 : Int32) (x10 : Int32) (x11 : Int32) (x12 : Int32) (x13 : Int32) (E_n0_0_0 : Exa Z h0 n0_0 "com/example/postloop/postloop/IdPool") (F_n0_0_free_0 : Fld Z h0 n0_0 "com/example/postloop/postloop/IdPool" "free" "[I" (.ref n1_0)) (F_n0_0_freeCount_0 : Fld Z h0 n0_0 "com/example/postloop/postloop/IdPool" "freeCount" "I" (.int q_n0_0_freeCount)) (F_n0_0_next_0 : Fld Z h0 n0_0 "com/example/postloop/postloop/IdPool" "next" "I" (.int q_n0_0_next)) (A_n1_0_0 : AI Z h0 n1_0 .int q_n1_0) (A_n2_0_0 : AI Z h0 n2_0 .int q_n2_0) (hr : g0_231 x2 x10 q_n0_0_freeCount q_n0_0_next q_n1_0 q_n2_0 = some r) :
    Runs p e below s (P0 n0 r) 3 22 T0 (mkF m 231 #[.val (.int x0), .val (.int x1), .val (.int x2), .val (.int x3), .val (.ref n0_0), .val (.int x5), .val (.int x6), .val (.int x7), .val (.int x8), .val (.ref n2_0), .val (.int x10), .val (.int x11), .val (.int x12), .val (.int x13)] []) := by
  unfold g0_231 at hr
  have ⟨hx, hZ, hw, hby, hml, hown, hret, hlk, hnm⟩ := C
  refine Runs.via (T' := T0) (g' := (mkF m 232 #[.val (.int x0), .val (.int x1), .val (.int x2), .val (.int x3), .val (.ref n0_0), .val (.int x5), .val (.int x6), .val (.int x7), .val (.int x8), .val (.ref n2_0), .val (.int x10), .val (.int x11), .val (.int x12), .val (.int x13)] [(.int (0 : Int32))])) (fun t k => ?_) ?_
  · show Steps p.tables e below (T0.setTop (mkF m 231 #[.val (.int x0), .val (.int x1), .val (.int x2), .val (.int x3), .val (.ref n0_0), .val (.int x5), .val (.int x6), .val (.int x7), .val (.int x8), .val (.ref n2_0), .val (.int x10), .val (.int x11), .val (.int x12), .val (.int x13)] [])) t
    refine XS.iconst X0.here hx rfl (hb hby at_231) ?_
    exact k
  exact b0_232 C X0 e0 N0 (by show cells ≤ 3; omega) (by show slots ≤ 22; omega) Z1 n0_0 n1_0 n2_0 (by omega) (by omega) (by omega) q_n0_0_freeCount q_n0_0_next q_n1_0 q_n2_0 x0 x1 x2 x3 x5 x6 x7 x8 x10 x11 x12 x13 (0 : Int32) E_n0_0_0 F_n0_0_free_0 F_n0_0_freeCount_0 F_n0_0_next_0 A_n1_0_0 A_n2_0_0 hr
set_option maxRecDepth 65536 in
set_option maxHeartbeats 4000000 in
theorem b0_231w1 {r : Int32} (C : Ctx p s m meth c Z a0 "com/example/postloop/postloop/IdPoolTakePinLaw" code 14 (some .boolean) "law") (X0 : Stand p l e room_1 s m args below meth c T0 locs cells slots) (e0 : T0.heap = h0) (N0 : Fr n0 locs) (hk : cells ≤ 3) (hn : slots ≤ 22) (Z1 : n0 ≤ h0.size) (n0_0 : Addr) (n1_0 : Addr) (n2_0 : Addr) (o0 : n0 ≤ n0_0) (o1 : @LT.lt Nat instLTNat n0_0 n1_0) (o2 : @LT.lt Nat instLTNat n1_0 n2_0) (q_n0_0_freeCount : Int32) (q_n0_0_next : Int32) (q_n1_0 : List Int32) (q_n2_0 : List Int32) (x0 : Int32) (x1 : Int32) (x2 : Int32) (x3 : Int32) (x5 : Int32) (x6 : Int32) (x7 : Int32) (x8 : Int32) (x10 : Int32) (x11 : Int32) (x12 : Int32) (E_n0_0_0 : Exa Z h0 n0_0 "com/example/postloop/postloop/IdPool") (F_n0_0_free_0 : Fld Z h0 n0_0 "com/example/postloop/postloop/IdPool" "free" "[I" (.ref n1_0)) (F_n0_0_freeCount_0 : Fld Z h0 n0_0 "com/example/postloop/postloop/IdPool" "freeCount" "I" (.int q_n0_0_freeCount)) (F_n0_0_next_0 : Fld Z h0 n0_0 "com/example/postloop/postloop/IdPool" "next" "I" (.int q_n0_0_next)) (A_n1_0_0 : AI Z h0 n1_0 .int q_n1_0) (A_n2_0_0 : AI Z h0 n2_0 .int q_n2_0) (hr : g0_231 x2 x10 q_n0_0_freeCount q_n0_0_next q_n1_0 q_n2_0 = some r) :
    Runs p e below s (P0 n0 r) 3 22 T0 (mkF m 231 #[.val (.int x0), .val (.int x1), .val (.int x2), .val (.int x3), .val (.ref n0_0), .val (.int x5), .val (.int x6), .val (.int x7), .val (.int x8), .val (.ref n2_0), .val (.int x10), .val (.int x11), .val (.int x12), .unset] []) := by
  unfold g0_231 at hr
  have ⟨hx, hZ, hw, hby, hml, hown, hret, hlk, hnm⟩ := C
  refine Runs.via (T' := T0) (g' := (mkF m 232 #[.val (.int x0), .val (.int x1), .val (.int x2), .val (.int x3), .val (.ref n0_0), .val (.int x5), .val (.int x6), .val (.int x7), .val (.int x8), .val (.ref n2_0), .val (.int x10), .val (.int x11), .val (.int x12), .unset] [(.int (0 : Int32))])) (fun t k => ?_) ?_
  · show Steps p.tables e below (T0.setTop (mkF m 231 #[.val (.int x0), .val (.int x1), .val (.int x2), .val (.int x3), .val (.ref n0_0), .val (.int x5), .val (.int x6), .val (.int x7), .val (.int x8), .val (.ref n2_0), .val (.int x10), .val (.int x11), .val (.int x12), .unset] [])) t
    refine XS.iconst X0.here hx rfl (hb hby at_231) ?_
    exact k
  exact b0_232w1 C X0 e0 N0 (by show cells ≤ 3; omega) (by show slots ≤ 22; omega) Z1 n0_0 n1_0 n2_0 (by omega) (by omega) (by omega) q_n0_0_freeCount q_n0_0_next q_n1_0 q_n2_0 x0 x1 x2 x3 x5 x6 x7 x8 x10 x11 x12 (0 : Int32) E_n0_0_0 F_n0_0_free_0 F_n0_0_freeCount_0 F_n0_0_next_0 A_n1_0_0 A_n2_0_0 hr
def g0_207 (x2 : Int32) (x8 : Int32) (x10 : Int32) (x11 : Int32) (q_n0_0_freeCount : Int32) (q_n0_0_next : Int32) (q_n1_0 : List Int32) (q_n2_0 : List Int32) : Option (Int32) := (if x2 < (2 : Int32) then (g0_234 x2 x8 x10 q_n0_0_freeCount q_n0_0_next q_n1_0 q_n2_0) else (if x8 = (0 : Int32) then (g0_231 x2 x10 q_n0_0_freeCount q_n0_0_next q_n1_0 q_n2_0) else ((f3 q_n0_0_freeCount q_n0_0_next q_n1_0).bind fun r3 => (if r3.1 = x11 then (g0_232 x2 x10 (1 : Int32) r3.2.1 r3.2.2 q_n1_0 q_n2_0) else (g0_231 x2 x10 r3.2.1 r3.2.2 q_n1_0 q_n2_0)))))
set_option maxRecDepth 65536 in
set_option maxHeartbeats 4000000 in
theorem b0_207 {r : Int32} (C : Ctx p s m meth c Z a0 "com/example/postloop/postloop/IdPoolTakePinLaw" code 14 (some .boolean) "law") (X0 : Stand p l e room_1 s m args below meth c T0 locs cells slots) (e0 : T0.heap = h0) (N0 : Fr n0 locs) (hk : cells ≤ 3) (hn : slots ≤ 22) (Z1 : n0 ≤ h0.size) (n0_0 : Addr) (n1_0 : Addr) (n2_0 : Addr) (o0 : n0 ≤ n0_0) (o1 : @LT.lt Nat instLTNat n0_0 n1_0) (o2 : @LT.lt Nat instLTNat n1_0 n2_0) (q_n0_0_freeCount : Int32) (q_n0_0_next : Int32) (q_n1_0 : List Int32) (q_n2_0 : List Int32) (x0 : Int32) (x1 : Int32) (x2 : Int32) (x3 : Int32) (x5 : Int32) (x6 : Int32) (x7 : Int32) (x8 : Int32) (x10 : Int32) (x11 : Int32) (x12 : Int32) (x13 : Int32) (E_n0_0_0 : Exa Z h0 n0_0 "com/example/postloop/postloop/IdPool") (F_n0_0_free_0 : Fld Z h0 n0_0 "com/example/postloop/postloop/IdPool" "free" "[I" (.ref n1_0)) (F_n0_0_freeCount_0 : Fld Z h0 n0_0 "com/example/postloop/postloop/IdPool" "freeCount" "I" (.int q_n0_0_freeCount)) (F_n0_0_next_0 : Fld Z h0 n0_0 "com/example/postloop/postloop/IdPool" "next" "I" (.int q_n0_0_next)) (A_n1_0_0 : AI Z h0 n1_0 .int q_n1_0) (A_n2_0_0 : AI Z h0 n2_0 .int q_n2_0) (hr : g0_207 x2 x8 x10 x11 q_n0_0_freeCount q_n0_0_next q_n1_0 q_n2_0 = some r) :
    Runs p e below s (P0 n0 r) 3 22 T0 (mkF m 207 #[.val (.int x0), .val (.int x1), .val (.int x2), .val (.int x3), .val (.ref n0_0), .val (.int x5), .val (.int x6), .val (.int x7), .val (.int x8), .val (.ref n2_0), .val (.int x10), .val (.int x11), .val (.int x12), .val (.int x13)] []) := by
  unfold g0_207 at hr
  have ⟨hx, hZ, hw, hby, hml, hown, hret, hlk, hnm⟩ := C
  refine Runs.via (T' := T0) (g' := (mkF m 209 #[.val (.int x0), .val (.int x1), .val (.int x2), .val (.int x3), .val (.ref n0_0), .val (.int x5), .val (.int x6), .val (.int x7), .val (.int x8), .val (.ref n2_0), .val (.int x10), .val (.int x11), .val (.int x12), .val (.int x13)] [(.int (2 : Int32)), (.int x2)])) (fun t k => ?_) ?_
  · show Steps p.tables e below (T0.setTop (mkF m 207 #[.val (.int x0), .val (.int x1), .val (.int x2), .val (.int x3), .val (.ref n0_0), .val (.int x5), .val (.int x6), .val (.int x7), .val (.int x8), .val (.ref n2_0), .val (.int x10), .val (.int x11), .val (.int x12), .val (.int x13)] [])) t
    refine XS.iloadN X0.here hx rfl (hb hby at_207) rfl ?_
    show Steps p.tables e below (T0.setTop (mkF m 208 #[.val (.int x0), .val (.int x1), .val (.int x2), .val (.int x3), .val (.ref n0_0), .val (.int x5), .val (.int x6), .val (.int x7), .val (.int x8), .val (.ref n2_0), .val (.int x10), .val (.int x11), .val (.int x12), .val (.int x13)] [(.int x2)])) t
    refine XS.iconst X0.here hx rfl (hb hby at_208) ?_
    exact k
  refine iteE hr (fun hc1 hr => ?_) (fun hc1 hr => ?_)
  · refine Runs.via (T' := T0) (g' := (mkF m 234 #[.val (.int x0), .val (.int x1), .val (.int x2), .val (.int x3), .val (.ref n0_0), .val (.int x5), .val (.int x6), .val (.int x7), .val (.int x8), .val (.ref n2_0), .val (.int x10), .val (.int x11), .val (.int x12), .val (.int x13)] [])) (fun t k => ?_) ?_
    · show Steps p.tables e below (T0.setTop (mkF m 209 #[.val (.int x0), .val (.int x1), .val (.int x2), .val (.int x3), .val (.ref n0_0), .val (.int x5), .val (.int x6), .val (.int x7), .val (.int x8), .val (.ref n2_0), .val (.int x10), .val (.int x11), .val (.int x12), .val (.int x13)] [(.int (2 : Int32)), (.int x2)])) t
      exact XS.icmpYes X0.here hx rfl (pc0 := 209) (pc' := 234) rfl (hb hby at_209) rfl (tlt hc1).1 (by decide) (by decide) k
    exact b0_234 C X0 e0 N0 (by show cells ≤ 3; omega) (by show slots ≤ 22; omega) Z1 n0_0 n1_0 n2_0 (by omega) (by omega) (by omega) q_n0_0_freeCount q_n0_0_next q_n1_0 q_n2_0 x0 x1 x2 x3 x5 x6 x7 x8 x10 x11 x12 x13 E_n0_0_0 F_n0_0_free_0 F_n0_0_freeCount_0 F_n0_0_next_0 A_n1_0_0 A_n2_0_0 hr
  · refine Runs.via (T' := T0) (g' := (mkF m 212 #[.val (.int x0), .val (.int x1), .val (.int x2), .val (.int x3), .val (.ref n0_0), .val (.int x5), .val (.int x6), .val (.int x7), .val (.int x8), .val (.ref n2_0), .val (.int x10), .val (.int x11), .val (.int x12), .val (.int x13)] [])) (fun t k => ?_) ?_
    · show Steps p.tables e below (T0.setTop (mkF m 209 #[.val (.int x0), .val (.int x1), .val (.int x2), .val (.int x3), .val (.ref n0_0), .val (.int x5), .val (.int x6), .val (.int x7), .val (.int x8), .val (.ref n2_0), .val (.int x10), .val (.int x11), .val (.int x12), .val (.int x13)] [(.int (2 : Int32)), (.int x2)])) t
      exact XS.icmpNo X0.here hx rfl (hb hby at_209) rfl (flt hc1).1 k
    refine Runs.via (T' := T0) (g' := (mkF m 214 #[.val (.int x0), .val (.int x1), .val (.int x2), .val (.int x3), .val (.ref n0_0), .val (.int x5), .val (.int x6), .val (.int x7), .val (.int x8), .val (.ref n2_0), .val (.int x10), .val (.int x11), .val (.int x12), .val (.int x13)] [(.int x8)])) (fun t k => ?_) ?_
    · show Steps p.tables e below (T0.setTop (mkF m 212 #[.val (.int x0), .val (.int x1), .val (.int x2), .val (.int x3), .val (.ref n0_0), .val (.int x5), .val (.int x6), .val (.int x7), .val (.int x8), .val (.ref n2_0), .val (.int x10), .val (.int x11), .val (.int x12), .val (.int x13)] [])) t
      refine XS.iload X0.here hx rfl (hb hby at_212) rfl ?_
      exact k
    refine iteE hr (fun hc2 hr => ?_) (fun hc2 hr => ?_)
    · refine Runs.via (T' := T0) (g' := (mkF m 231 #[.val (.int x0), .val (.int x1), .val (.int x2), .val (.int x3), .val (.ref n0_0), .val (.int x5), .val (.int x6), .val (.int x7), .val (.int x8), .val (.ref n2_0), .val (.int x10), .val (.int x11), .val (.int x12), .val (.int x13)] [])) (fun t k => ?_) ?_
      · show Steps p.tables e below (T0.setTop (mkF m 214 #[.val (.int x0), .val (.int x1), .val (.int x2), .val (.int x3), .val (.ref n0_0), .val (.int x5), .val (.int x6), .val (.int x7), .val (.int x8), .val (.ref n2_0), .val (.int x10), .val (.int x11), .val (.int x12), .val (.int x13)] [(.int x8)])) t
        exact XS.ifYes X0.here hx rfl (pc0 := 214) (pc' := 231) rfl (hb hby at_214) rfl ((if0 _ _).trans (teq hc2).1) (by decide) (by decide) k
      exact b0_231 C X0 e0 N0 (by show cells ≤ 3; omega) (by show slots ≤ 22; omega) Z1 n0_0 n1_0 n2_0 (by omega) (by omega) (by omega) q_n0_0_freeCount q_n0_0_next q_n1_0 q_n2_0 x0 x1 x2 x3 x5 x6 x7 x8 x10 x11 x12 x13 E_n0_0_0 F_n0_0_free_0 F_n0_0_freeCount_0 F_n0_0_next_0 A_n1_0_0 A_n2_0_0 hr
    · refine Runs.via (T' := T0) (g' := (mkF m 217 #[.val (.int x0), .val (.int x1), .val (.int x2), .val (.int x3), .val (.ref n0_0), .val (.int x5), .val (.int x6), .val (.int x7), .val (.int x8), .val (.ref n2_0), .val (.int x10), .val (.int x11), .val (.int x12), .val (.int x13)] [])) (fun t k => ?_) ?_
      · show Steps p.tables e below (T0.setTop (mkF m 214 #[.val (.int x0), .val (.int x1), .val (.int x2), .val (.int x3), .val (.ref n0_0), .val (.int x5), .val (.int x6), .val (.int x7), .val (.int x8), .val (.ref n2_0), .val (.int x10), .val (.int x11), .val (.int x12), .val (.int x13)] [(.int x8)])) t
        exact XS.ifNo X0.here hx rfl (hb hby at_214) rfl ((if0 _ _).trans (feq hc2).1) k
      refine Runs.via (T' := T0) (g' := (mkF m 219 #[.val (.int x0), .val (.int x1), .val (.int x2), .val (.int x3), .val (.ref n0_0), .val (.int x5), .val (.int x6), .val (.int x7), .val (.int x8), .val (.ref n2_0), .val (.int x10), .val (.int x11), .val (.int x12), .val (.int x13)] [(.ref n0_0)])) (fun t k => ?_) ?_
      · show Steps p.tables e below (T0.setTop (mkF m 217 #[.val (.int x0), .val (.int x1), .val (.int x2), .val (.int x3), .val (.ref n0_0), .val (.int x5), .val (.int x6), .val (.int x7), .val (.int x8), .val (.ref n2_0), .val (.int x10), .val (.int x11), .val (.int x12), .val (.int x13)] [])) t
        refine XS.aload X0.here hx rfl (hb hby at_217) rfl rfl ?_
        exact k
      refine bindE hr ?_; intro r3 hr3m hr
      obtain ⟨cq3, kq3, q3a, q3b, q3c⟩ := isOf hZ e0 E_n0_0_0
      obtain ⟨_, _, ⟨T3, L3, k3, n3⟩, -, X3, ⟨Lc3, hQ3, l3, y3, z3⟩, st3⟩ := X0.virtualBack hx (y := (⟨"com/example/postloop/postloop/IdPool", "take", "()I"⟩ : MethodName)) (z := (⟨"com/example/postloop/postloop/IdPool", "take", "()I"⟩ : MethodName)) hown (mvT hZ (hw _ (List.mem_of_getElem? (i := 13) rfl))) (mvT hZ (hw _ (List.mem_of_getElem? (i := 14) rfl))) (notFace_of_selects (args := #[]) (mvT hZ (hw _ (List.mem_of_getElem? (i := 16) rfl)))) (mvT hZ (hw _ (List.mem_of_getElem? (i := 16) rfl))) (mvT hZ (hw _ (List.mem_of_getElem? (i := 15) rfl))) (by decide) (backOf (W := 0) (rm3 l Z a0 hw [] n0_0 n1_0 q_n0_0_freeCount q_n0_0_next q_n1_0 h0 n0 Z1 (by omega) (by omega) E_n0_0_0 F_n0_0_free_0 F_n0_0_freeCount_0 F_n0_0_next_0 A_n1_0_0 r3 hr3m) hZ (hw _ (List.mem_of_getElem? (i := 17) rfl)) (hw _ (List.mem_of_getElem? (i := 3) rfl)) (by decide) (by decide)) q3a q3c (g := (mkF m 219 #[.val (.int x0), .val (.int x1), .val (.int x2), .val (.int x3), .val (.ref n0_0), .val (.int x5), .val (.int x6), .val (.int x7), .val (.int x8), .val (.ref n2_0), .val (.int x10), .val (.int x11), .val (.int x12), .val (.int x13)] [(.ref n0_0)])) rfl (by rw [hml]; rfl) (Steps.refl _) (argsL := []) (rest := []) (lenOf pd_1 rfl) rfl (by show 2 * 0 + _ ≤ _; exact Nat.le_of_eq rfl) (hb hby at_219) (fun _ _ => ⟨rfl, e0, (by show cells + 0 ≤ 16; omega), (by show slots + 0 ≤ 128; omega)⟩)
      dsimp only [Pt.U, Pt.locs, Pt.cells, Pt.slots] at X3 l3 y3 z3 st3 hQ3
      replace y3 := y3.symm; replace z3 := z3.symm; subst l3 y3 z3
      obtain ⟨h3, e3⟩ : ∃ z, T3.heap = z := ⟨_, rfl⟩
      rw [e3] at hQ3
      obtain ⟨rfl, N3q, K3q, E_n0_0_3, F_n0_0_free_3, F_n0_0_freeCount_3, F_n0_0_next_3⟩ := hQ3
      have N3 := Fr.app N0 N3q
      have A_n1_0_3 := A_n1_0_0.keep K3q (ninS (by omega : @Ne Nat n1_0 n0_0) nin0)
      have A_n2_0_3 := A_n2_0_0.keep K3q (ninS (by omega : @Ne Nat n2_0 n0_0) nin0)
      have zz3 : n0 ≤ h3.size := Nat.le_trans Z1 K3q.1
      refine Runs.via (T' := T3) (g' := (mkF m 222 #[.val (.int x0), .val (.int x1), .val (.int x2), .val (.int x3), .val (.ref n0_0), .val (.int x5), .val (.int x6), .val (.int x7), .val (.int x8), .val (.ref n2_0), .val (.int x10), .val (.int x11), .val (.int x12), .val (.int x13)] [(.int r3.1)])) (fun t k => st3.trans k) ?_
      refine Runs.via (T' := T3) (g' := (mkF m 224 #[.val (.int x0), .val (.int x1), .val (.int x2), .val (.int x3), .val (.ref n0_0), .val (.int x5), .val (.int x6), .val (.int x7), .val (.int x8), .val (.ref n2_0), .val (.int x10), .val (.int x11), .val (.int x12), .val (.int x13)] [(.int x11), (.int r3.1)])) (fun t k => ?_) ?_
      · show Steps p.tables e below (T3.setTop (mkF m 222 #[.val (.int x0), .val (.int x1), .val (.int x2), .val (.int x3), .val (.ref n0_0), .val (.int x5), .val (.int x6), .val (.int x7), .val (.int x8), .val (.ref n2_0), .val (.int x10), .val (.int x11), .val (.int x12), .val (.int x13)] [(.int r3.1)])) t
        refine XS.iload X3.here hx rfl (hb hby at_222) rfl ?_
        exact k
      refine iteE hr (fun hc4 hr => ?_) (fun hc4 hr => ?_)
      · refine Runs.via (T' := T3) (g' := (mkF m 227 #[.val (.int x0), .val (.int x1), .val (.int x2), .val (.int x3), .val (.ref n0_0), .val (.int x5), .val (.int x6), .val (.int x7), .val (.int x8), .val (.ref n2_0), .val (.int x10), .val (.int x11), .val (.int x12), .val (.int x13)] [])) (fun t k => ?_) ?_
        · show Steps p.tables e below (T3.setTop (mkF m 224 #[.val (.int x0), .val (.int x1), .val (.int x2), .val (.int x3), .val (.ref n0_0), .val (.int x5), .val (.int x6), .val (.int x7), .val (.int x8), .val (.ref n2_0), .val (.int x10), .val (.int x11), .val (.int x12), .val (.int x13)] [(.int x11), (.int r3.1)])) t
          exact XS.icmpNo X3.here hx rfl (hb hby at_224) rfl (teq hc4).2 k
        refine Runs.via (T' := T3) (g' := (mkF m 232 #[.val (.int x0), .val (.int x1), .val (.int x2), .val (.int x3), .val (.ref n0_0), .val (.int x5), .val (.int x6), .val (.int x7), .val (.int x8), .val (.ref n2_0), .val (.int x10), .val (.int x11), .val (.int x12), .val (.int x13)] [(.int (1 : Int32))])) (fun t k => ?_) ?_
        · show Steps p.tables e below (T3.setTop (mkF m 227 #[.val (.int x0), .val (.int x1), .val (.int x2), .val (.int x3), .val (.ref n0_0), .val (.int x5), .val (.int x6), .val (.int x7), .val (.int x8), .val (.ref n2_0), .val (.int x10), .val (.int x11), .val (.int x12), .val (.int x13)] [])) t
          refine XS.iconst X3.here hx rfl (hb hby at_227) ?_
          show Steps p.tables e below (T3.setTop (mkF m 228 #[.val (.int x0), .val (.int x1), .val (.int x2), .val (.int x3), .val (.ref n0_0), .val (.int x5), .val (.int x6), .val (.int x7), .val (.int x8), .val (.ref n2_0), .val (.int x10), .val (.int x11), .val (.int x12), .val (.int x13)] [(.int (1 : Int32))])) t
          refine XS.goto X3.here hx rfl (pc0 := 228) (pc' := 232) rfl (hb hby at_228) (by decide) (by decide) ?_
          exact k
        exact b0_232 C X3 e3 N3 (by show (cells + 0) ≤ 3; omega) (by show (slots + 0) ≤ 22; omega) zz3 n0_0 n1_0 n2_0 (by omega) (by omega) (by omega) r3.2.1 r3.2.2 q_n1_0 q_n2_0 x0 x1 x2 x3 x5 x6 x7 x8 x10 x11 x12 x13 (1 : Int32) E_n0_0_3 F_n0_0_free_3 F_n0_0_freeCount_3 F_n0_0_next_3 A_n1_0_3 A_n2_0_3 hr
      · refine Runs.via (T' := T3) (g' := (mkF m 231 #[.val (.int x0), .val (.int x1), .val (.int x2), .val (.int x3), .val (.ref n0_0), .val (.int x5), .val (.int x6), .val (.int x7), .val (.int x8), .val (.ref n2_0), .val (.int x10), .val (.int x11), .val (.int x12), .val (.int x13)] [])) (fun t k => ?_) ?_
        · show Steps p.tables e below (T3.setTop (mkF m 224 #[.val (.int x0), .val (.int x1), .val (.int x2), .val (.int x3), .val (.ref n0_0), .val (.int x5), .val (.int x6), .val (.int x7), .val (.int x8), .val (.ref n2_0), .val (.int x10), .val (.int x11), .val (.int x12), .val (.int x13)] [(.int x11), (.int r3.1)])) t
          exact XS.icmpYes X3.here hx rfl (pc0 := 224) (pc' := 231) rfl (hb hby at_224) rfl (feq hc4).2 (by decide) (by decide) k
        exact b0_231 C X3 e3 N3 (by show (cells + 0) ≤ 3; omega) (by show (slots + 0) ≤ 22; omega) zz3 n0_0 n1_0 n2_0 (by omega) (by omega) (by omega) r3.2.1 r3.2.2 q_n1_0 q_n2_0 x0 x1 x2 x3 x5 x6 x7 x8 x10 x11 x12 x13 E_n0_0_3 F_n0_0_free_3 F_n0_0_freeCount_3 F_n0_0_next_3 A_n1_0_3 A_n2_0_3 hr
set_option maxRecDepth 65536 in
set_option maxHeartbeats 4000000 in
theorem b0_207w1 {r : Int32} (C : Ctx p s m meth c Z a0 "com/example/postloop/postloop/IdPoolTakePinLaw" code 14 (some .boolean) "law") (X0 : Stand p l e room_1 s m args below meth c T0 locs cells slots) (e0 : T0.heap = h0) (N0 : Fr n0 locs) (hk : cells ≤ 3) (hn : slots ≤ 22) (Z1 : n0 ≤ h0.size) (n0_0 : Addr) (n1_0 : Addr) (n2_0 : Addr) (o0 : n0 ≤ n0_0) (o1 : @LT.lt Nat instLTNat n0_0 n1_0) (o2 : @LT.lt Nat instLTNat n1_0 n2_0) (q_n0_0_freeCount : Int32) (q_n0_0_next : Int32) (q_n1_0 : List Int32) (q_n2_0 : List Int32) (x0 : Int32) (x1 : Int32) (x2 : Int32) (x3 : Int32) (x5 : Int32) (x6 : Int32) (x7 : Int32) (x8 : Int32) (x10 : Int32) (x11 : Int32) (x12 : Int32) (E_n0_0_0 : Exa Z h0 n0_0 "com/example/postloop/postloop/IdPool") (F_n0_0_free_0 : Fld Z h0 n0_0 "com/example/postloop/postloop/IdPool" "free" "[I" (.ref n1_0)) (F_n0_0_freeCount_0 : Fld Z h0 n0_0 "com/example/postloop/postloop/IdPool" "freeCount" "I" (.int q_n0_0_freeCount)) (F_n0_0_next_0 : Fld Z h0 n0_0 "com/example/postloop/postloop/IdPool" "next" "I" (.int q_n0_0_next)) (A_n1_0_0 : AI Z h0 n1_0 .int q_n1_0) (A_n2_0_0 : AI Z h0 n2_0 .int q_n2_0) (hr : g0_207 x2 x8 x10 x11 q_n0_0_freeCount q_n0_0_next q_n1_0 q_n2_0 = some r) :
    Runs p e below s (P0 n0 r) 3 22 T0 (mkF m 207 #[.val (.int x0), .val (.int x1), .val (.int x2), .val (.int x3), .val (.ref n0_0), .val (.int x5), .val (.int x6), .val (.int x7), .val (.int x8), .val (.ref n2_0), .val (.int x10), .val (.int x11), .val (.int x12), .unset] []) := by
  unfold g0_207 at hr
  have ⟨hx, hZ, hw, hby, hml, hown, hret, hlk, hnm⟩ := C
  refine Runs.via (T' := T0) (g' := (mkF m 209 #[.val (.int x0), .val (.int x1), .val (.int x2), .val (.int x3), .val (.ref n0_0), .val (.int x5), .val (.int x6), .val (.int x7), .val (.int x8), .val (.ref n2_0), .val (.int x10), .val (.int x11), .val (.int x12), .unset] [(.int (2 : Int32)), (.int x2)])) (fun t k => ?_) ?_
  · show Steps p.tables e below (T0.setTop (mkF m 207 #[.val (.int x0), .val (.int x1), .val (.int x2), .val (.int x3), .val (.ref n0_0), .val (.int x5), .val (.int x6), .val (.int x7), .val (.int x8), .val (.ref n2_0), .val (.int x10), .val (.int x11), .val (.int x12), .unset] [])) t
    refine XS.iloadN X0.here hx rfl (hb hby at_207) rfl ?_
    show Steps p.tables e below (T0.setTop (mkF m 208 #[.val (.int x0), .val (.int x1), .val (.int x2), .val (.int x3), .val (.ref n0_0), .val (.int x5), .val (.int x6), .val (.int x7), .val (.int x8), .val (.ref n2_0), .val (.int x10), .val (.int x11), .val (.int x12), .unset] [(.int x2)])) t
    refine XS.iconst X0.here hx rfl (hb hby at_208) ?_
    exact k
  refine iteE hr (fun hc1 hr => ?_) (fun hc1 hr => ?_)
  · refine Runs.via (T' := T0) (g' := (mkF m 234 #[.val (.int x0), .val (.int x1), .val (.int x2), .val (.int x3), .val (.ref n0_0), .val (.int x5), .val (.int x6), .val (.int x7), .val (.int x8), .val (.ref n2_0), .val (.int x10), .val (.int x11), .val (.int x12), .unset] [])) (fun t k => ?_) ?_
    · show Steps p.tables e below (T0.setTop (mkF m 209 #[.val (.int x0), .val (.int x1), .val (.int x2), .val (.int x3), .val (.ref n0_0), .val (.int x5), .val (.int x6), .val (.int x7), .val (.int x8), .val (.ref n2_0), .val (.int x10), .val (.int x11), .val (.int x12), .unset] [(.int (2 : Int32)), (.int x2)])) t
      exact XS.icmpYes X0.here hx rfl (pc0 := 209) (pc' := 234) rfl (hb hby at_209) rfl (tlt hc1).1 (by decide) (by decide) k
    exact b0_234w1 C X0 e0 N0 (by show cells ≤ 3; omega) (by show slots ≤ 22; omega) Z1 n0_0 n1_0 n2_0 (by omega) (by omega) (by omega) q_n0_0_freeCount q_n0_0_next q_n1_0 q_n2_0 x0 x1 x2 x3 x5 x6 x7 x8 x10 x11 x12 E_n0_0_0 F_n0_0_free_0 F_n0_0_freeCount_0 F_n0_0_next_0 A_n1_0_0 A_n2_0_0 hr
  · refine Runs.via (T' := T0) (g' := (mkF m 212 #[.val (.int x0), .val (.int x1), .val (.int x2), .val (.int x3), .val (.ref n0_0), .val (.int x5), .val (.int x6), .val (.int x7), .val (.int x8), .val (.ref n2_0), .val (.int x10), .val (.int x11), .val (.int x12), .unset] [])) (fun t k => ?_) ?_
    · show Steps p.tables e below (T0.setTop (mkF m 209 #[.val (.int x0), .val (.int x1), .val (.int x2), .val (.int x3), .val (.ref n0_0), .val (.int x5), .val (.int x6), .val (.int x7), .val (.int x8), .val (.ref n2_0), .val (.int x10), .val (.int x11), .val (.int x12), .unset] [(.int (2 : Int32)), (.int x2)])) t
      exact XS.icmpNo X0.here hx rfl (hb hby at_209) rfl (flt hc1).1 k
    refine Runs.via (T' := T0) (g' := (mkF m 214 #[.val (.int x0), .val (.int x1), .val (.int x2), .val (.int x3), .val (.ref n0_0), .val (.int x5), .val (.int x6), .val (.int x7), .val (.int x8), .val (.ref n2_0), .val (.int x10), .val (.int x11), .val (.int x12), .unset] [(.int x8)])) (fun t k => ?_) ?_
    · show Steps p.tables e below (T0.setTop (mkF m 212 #[.val (.int x0), .val (.int x1), .val (.int x2), .val (.int x3), .val (.ref n0_0), .val (.int x5), .val (.int x6), .val (.int x7), .val (.int x8), .val (.ref n2_0), .val (.int x10), .val (.int x11), .val (.int x12), .unset] [])) t
      refine XS.iload X0.here hx rfl (hb hby at_212) rfl ?_
      exact k
    refine iteE hr (fun hc2 hr => ?_) (fun hc2 hr => ?_)
    · refine Runs.via (T' := T0) (g' := (mkF m 231 #[.val (.int x0), .val (.int x1), .val (.int x2), .val (.int x3), .val (.ref n0_0), .val (.int x5), .val (.int x6), .val (.int x7), .val (.int x8), .val (.ref n2_0), .val (.int x10), .val (.int x11), .val (.int x12), .unset] [])) (fun t k => ?_) ?_
      · show Steps p.tables e below (T0.setTop (mkF m 214 #[.val (.int x0), .val (.int x1), .val (.int x2), .val (.int x3), .val (.ref n0_0), .val (.int x5), .val (.int x6), .val (.int x7), .val (.int x8), .val (.ref n2_0), .val (.int x10), .val (.int x11), .val (.int x12), .unset] [(.int x8)])) t
        exact XS.ifYes X0.here hx rfl (pc0 := 214) (pc' := 231) rfl (hb hby at_214) rfl ((if0 _ _).trans (teq hc2).1) (by decide) (by decide) k
      exact b0_231w1 C X0 e0 N0 (by show cells ≤ 3; omega) (by show slots ≤ 22; omega) Z1 n0_0 n1_0 n2_0 (by omega) (by omega) (by omega) q_n0_0_freeCount q_n0_0_next q_n1_0 q_n2_0 x0 x1 x2 x3 x5 x6 x7 x8 x10 x11 x12 E_n0_0_0 F_n0_0_free_0 F_n0_0_freeCount_0 F_n0_0_next_0 A_n1_0_0 A_n2_0_0 hr
    · refine Runs.via (T' := T0) (g' := (mkF m 217 #[.val (.int x0), .val (.int x1), .val (.int x2), .val (.int x3), .val (.ref n0_0), .val (.int x5), .val (.int x6), .val (.int x7), .val (.int x8), .val (.ref n2_0), .val (.int x10), .val (.int x11), .val (.int x12), .unset] [])) (fun t k => ?_) ?_
      · show Steps p.tables e below (T0.setTop (mkF m 214 #[.val (.int x0), .val (.int x1), .val (.int x2), .val (.int x3), .val (.ref n0_0), .val (.int x5), .val (.int x6), .val (.int x7), .val (.int x8), .val (.ref n2_0), .val (.int x10), .val (.int x11), .val (.int x12), .unset] [(.int x8)])) t
        exact XS.ifNo X0.here hx rfl (hb hby at_214) rfl ((if0 _ _).trans (feq hc2).1) k
      refine Runs.via (T' := T0) (g' := (mkF m 219 #[.val (.int x0), .val (.int x1), .val (.int x2), .val (.int x3), .val (.ref n0_0), .val (.int x5), .val (.int x6), .val (.int x7), .val (.int x8), .val (.ref n2_0), .val (.int x10), .val (.int x11), .val (.int x12), .unset] [(.ref n0_0)])) (fun t k => ?_) ?_
      · show Steps p.tables e below (T0.setTop (mkF m 217 #[.val (.int x0), .val (.int x1), .val (.int x2), .val (.int x3), .val (.ref n0_0), .val (.int x5), .val (.int x6), .val (.int x7), .val (.int x8), .val (.ref n2_0), .val (.int x10), .val (.int x11), .val (.int x12), .unset] [])) t
        refine XS.aload X0.here hx rfl (hb hby at_217) rfl rfl ?_
        exact k
      refine bindE hr ?_; intro r3 hr3m hr
      obtain ⟨cq3, kq3, q3a, q3b, q3c⟩ := isOf hZ e0 E_n0_0_0
      obtain ⟨_, _, ⟨T3, L3, k3, n3⟩, -, X3, ⟨Lc3, hQ3, l3, y3, z3⟩, st3⟩ := X0.virtualBack hx (y := (⟨"com/example/postloop/postloop/IdPool", "take", "()I"⟩ : MethodName)) (z := (⟨"com/example/postloop/postloop/IdPool", "take", "()I"⟩ : MethodName)) hown (mvT hZ (hw _ (List.mem_of_getElem? (i := 13) rfl))) (mvT hZ (hw _ (List.mem_of_getElem? (i := 14) rfl))) (notFace_of_selects (args := #[]) (mvT hZ (hw _ (List.mem_of_getElem? (i := 16) rfl)))) (mvT hZ (hw _ (List.mem_of_getElem? (i := 16) rfl))) (mvT hZ (hw _ (List.mem_of_getElem? (i := 15) rfl))) (by decide) (backOf (W := 0) (rm3 l Z a0 hw [] n0_0 n1_0 q_n0_0_freeCount q_n0_0_next q_n1_0 h0 n0 Z1 (by omega) (by omega) E_n0_0_0 F_n0_0_free_0 F_n0_0_freeCount_0 F_n0_0_next_0 A_n1_0_0 r3 hr3m) hZ (hw _ (List.mem_of_getElem? (i := 17) rfl)) (hw _ (List.mem_of_getElem? (i := 3) rfl)) (by decide) (by decide)) q3a q3c (g := (mkF m 219 #[.val (.int x0), .val (.int x1), .val (.int x2), .val (.int x3), .val (.ref n0_0), .val (.int x5), .val (.int x6), .val (.int x7), .val (.int x8), .val (.ref n2_0), .val (.int x10), .val (.int x11), .val (.int x12), .unset] [(.ref n0_0)])) rfl (by rw [hml]; rfl) (Steps.refl _) (argsL := []) (rest := []) (lenOf pd_1 rfl) rfl (by show 2 * 0 + _ ≤ _; exact Nat.le_of_eq rfl) (hb hby at_219) (fun _ _ => ⟨rfl, e0, (by show cells + 0 ≤ 16; omega), (by show slots + 0 ≤ 128; omega)⟩)
      dsimp only [Pt.U, Pt.locs, Pt.cells, Pt.slots] at X3 l3 y3 z3 st3 hQ3
      replace y3 := y3.symm; replace z3 := z3.symm; subst l3 y3 z3
      obtain ⟨h3, e3⟩ : ∃ z, T3.heap = z := ⟨_, rfl⟩
      rw [e3] at hQ3
      obtain ⟨rfl, N3q, K3q, E_n0_0_3, F_n0_0_free_3, F_n0_0_freeCount_3, F_n0_0_next_3⟩ := hQ3
      have N3 := Fr.app N0 N3q
      have A_n1_0_3 := A_n1_0_0.keep K3q (ninS (by omega : @Ne Nat n1_0 n0_0) nin0)
      have A_n2_0_3 := A_n2_0_0.keep K3q (ninS (by omega : @Ne Nat n2_0 n0_0) nin0)
      have zz3 : n0 ≤ h3.size := Nat.le_trans Z1 K3q.1
      refine Runs.via (T' := T3) (g' := (mkF m 222 #[.val (.int x0), .val (.int x1), .val (.int x2), .val (.int x3), .val (.ref n0_0), .val (.int x5), .val (.int x6), .val (.int x7), .val (.int x8), .val (.ref n2_0), .val (.int x10), .val (.int x11), .val (.int x12), .unset] [(.int r3.1)])) (fun t k => st3.trans k) ?_
      refine Runs.via (T' := T3) (g' := (mkF m 224 #[.val (.int x0), .val (.int x1), .val (.int x2), .val (.int x3), .val (.ref n0_0), .val (.int x5), .val (.int x6), .val (.int x7), .val (.int x8), .val (.ref n2_0), .val (.int x10), .val (.int x11), .val (.int x12), .unset] [(.int x11), (.int r3.1)])) (fun t k => ?_) ?_
      · show Steps p.tables e below (T3.setTop (mkF m 222 #[.val (.int x0), .val (.int x1), .val (.int x2), .val (.int x3), .val (.ref n0_0), .val (.int x5), .val (.int x6), .val (.int x7), .val (.int x8), .val (.ref n2_0), .val (.int x10), .val (.int x11), .val (.int x12), .unset] [(.int r3.1)])) t
        refine XS.iload X3.here hx rfl (hb hby at_222) rfl ?_
        exact k
      refine iteE hr (fun hc4 hr => ?_) (fun hc4 hr => ?_)
      · refine Runs.via (T' := T3) (g' := (mkF m 227 #[.val (.int x0), .val (.int x1), .val (.int x2), .val (.int x3), .val (.ref n0_0), .val (.int x5), .val (.int x6), .val (.int x7), .val (.int x8), .val (.ref n2_0), .val (.int x10), .val (.int x11), .val (.int x12), .unset] [])) (fun t k => ?_) ?_
        · show Steps p.tables e below (T3.setTop (mkF m 224 #[.val (.int x0), .val (.int x1), .val (.int x2), .val (.int x3), .val (.ref n0_0), .val (.int x5), .val (.int x6), .val (.int x7), .val (.int x8), .val (.ref n2_0), .val (.int x10), .val (.int x11), .val (.int x12), .unset] [(.int x11), (.int r3.1)])) t
          exact XS.icmpNo X3.here hx rfl (hb hby at_224) rfl (teq hc4).2 k
        refine Runs.via (T' := T3) (g' := (mkF m 232 #[.val (.int x0), .val (.int x1), .val (.int x2), .val (.int x3), .val (.ref n0_0), .val (.int x5), .val (.int x6), .val (.int x7), .val (.int x8), .val (.ref n2_0), .val (.int x10), .val (.int x11), .val (.int x12), .unset] [(.int (1 : Int32))])) (fun t k => ?_) ?_
        · show Steps p.tables e below (T3.setTop (mkF m 227 #[.val (.int x0), .val (.int x1), .val (.int x2), .val (.int x3), .val (.ref n0_0), .val (.int x5), .val (.int x6), .val (.int x7), .val (.int x8), .val (.ref n2_0), .val (.int x10), .val (.int x11), .val (.int x12), .unset] [])) t
          refine XS.iconst X3.here hx rfl (hb hby at_227) ?_
          show Steps p.tables e below (T3.setTop (mkF m 228 #[.val (.int x0), .val (.int x1), .val (.int x2), .val (.int x3), .val (.ref n0_0), .val (.int x5), .val (.int x6), .val (.int x7), .val (.int x8), .val (.ref n2_0), .val (.int x10), .val (.int x11), .val (.int x12), .unset] [(.int (1 : Int32))])) t
          refine XS.goto X3.here hx rfl (pc0 := 228) (pc' := 232) rfl (hb hby at_228) (by decide) (by decide) ?_
          exact k
        exact b0_232w1 C X3 e3 N3 (by show (cells + 0) ≤ 3; omega) (by show (slots + 0) ≤ 22; omega) zz3 n0_0 n1_0 n2_0 (by omega) (by omega) (by omega) r3.2.1 r3.2.2 q_n1_0 q_n2_0 x0 x1 x2 x3 x5 x6 x7 x8 x10 x11 x12 (1 : Int32) E_n0_0_3 F_n0_0_free_3 F_n0_0_freeCount_3 F_n0_0_next_3 A_n1_0_3 A_n2_0_3 hr
      · refine Runs.via (T' := T3) (g' := (mkF m 231 #[.val (.int x0), .val (.int x1), .val (.int x2), .val (.int x3), .val (.ref n0_0), .val (.int x5), .val (.int x6), .val (.int x7), .val (.int x8), .val (.ref n2_0), .val (.int x10), .val (.int x11), .val (.int x12), .unset] [])) (fun t k => ?_) ?_
        · show Steps p.tables e below (T3.setTop (mkF m 224 #[.val (.int x0), .val (.int x1), .val (.int x2), .val (.int x3), .val (.ref n0_0), .val (.int x5), .val (.int x6), .val (.int x7), .val (.int x8), .val (.ref n2_0), .val (.int x10), .val (.int x11), .val (.int x12), .unset] [(.int x11), (.int r3.1)])) t
          exact XS.icmpYes X3.here hx rfl (pc0 := 224) (pc' := 231) rfl (hb hby at_224) rfl (feq hc4).2 (by decide) (by decide) k
        exact b0_231w1 C X3 e3 N3 (by show (cells + 0) ≤ 3; omega) (by show (slots + 0) ≤ 22; omega) zz3 n0_0 n1_0 n2_0 (by omega) (by omega) (by omega) r3.2.1 r3.2.2 q_n1_0 q_n2_0 x0 x1 x2 x3 x5 x6 x7 x8 x10 x11 x12 E_n0_0_3 F_n0_0_free_3 F_n0_0_freeCount_3 F_n0_0_next_3 A_n1_0_3 A_n2_0_3 hr
def g0_205 (x2 : Int32) (x10 : Int32) (x11 : Int32) (u0 : Int32) (q_n0_0_freeCount : Int32) (q_n0_0_next : Int32) (q_n1_0 : List Int32) (q_n2_0 : List Int32) : Option (Int32) := (g0_207 x2 u0 x10 x11 q_n0_0_freeCount q_n0_0_next q_n1_0 q_n2_0)
set_option maxRecDepth 65536 in
set_option maxHeartbeats 4000000 in
theorem b0_205 {r : Int32} (C : Ctx p s m meth c Z a0 "com/example/postloop/postloop/IdPoolTakePinLaw" code 14 (some .boolean) "law") (X0 : Stand p l e room_1 s m args below meth c T0 locs cells slots) (e0 : T0.heap = h0) (N0 : Fr n0 locs) (hk : cells ≤ 3) (hn : slots ≤ 22) (Z1 : n0 ≤ h0.size) (n0_0 : Addr) (n1_0 : Addr) (n2_0 : Addr) (o0 : n0 ≤ n0_0) (o1 : @LT.lt Nat instLTNat n0_0 n1_0) (o2 : @LT.lt Nat instLTNat n1_0 n2_0) (q_n0_0_freeCount : Int32) (q_n0_0_next : Int32) (q_n1_0 : List Int32) (q_n2_0 : List Int32) (x0 : Int32) (x1 : Int32) (x2 : Int32) (x3 : Int32) (x5 : Int32) (x6 : Int32) (x7 : Int32) (x8 : Int32) (x10 : Int32) (x11 : Int32) (x12 : Int32) (x13 : Int32) (u0 : Int32) (E_n0_0_0 : Exa Z h0 n0_0 "com/example/postloop/postloop/IdPool") (F_n0_0_free_0 : Fld Z h0 n0_0 "com/example/postloop/postloop/IdPool" "free" "[I" (.ref n1_0)) (F_n0_0_freeCount_0 : Fld Z h0 n0_0 "com/example/postloop/postloop/IdPool" "freeCount" "I" (.int q_n0_0_freeCount)) (F_n0_0_next_0 : Fld Z h0 n0_0 "com/example/postloop/postloop/IdPool" "next" "I" (.int q_n0_0_next)) (A_n1_0_0 : AI Z h0 n1_0 .int q_n1_0) (A_n2_0_0 : AI Z h0 n2_0 .int q_n2_0) (hr : g0_205 x2 x10 x11 u0 q_n0_0_freeCount q_n0_0_next q_n1_0 q_n2_0 = some r) :
    Runs p e below s (P0 n0 r) 3 22 T0 (mkF m 205 #[.val (.int x0), .val (.int x1), .val (.int x2), .val (.int x3), .val (.ref n0_0), .val (.int x5), .val (.int x6), .val (.int x7), .val (.int x8), .val (.ref n2_0), .val (.int x10), .val (.int x11), .val (.int x12), .val (.int x13)] [(.int u0)]) := by
  unfold g0_205 at hr
  have ⟨hx, hZ, hw, hby, hml, hown, hret, hlk, hnm⟩ := C
  refine Runs.via (T' := T0) (g' := (mkF m 207 #[.val (.int x0), .val (.int x1), .val (.int x2), .val (.int x3), .val (.ref n0_0), .val (.int x5), .val (.int x6), .val (.int x7), .val (.int u0), .val (.ref n2_0), .val (.int x10), .val (.int x11), .val (.int x12), .val (.int x13)] [])) (fun t k => ?_) ?_
  · show Steps p.tables e below (T0.setTop (mkF m 205 #[.val (.int x0), .val (.int x1), .val (.int x2), .val (.int x3), .val (.ref n0_0), .val (.int x5), .val (.int x6), .val (.int x7), .val (.int x8), .val (.ref n2_0), .val (.int x10), .val (.int x11), .val (.int x12), .val (.int x13)] [(.int u0)])) t
    refine XS.istore X0.here hx rfl (hb hby at_205) rfl (l' := #[.val (.int x0), .val (.int x1), .val (.int x2), .val (.int x3), .val (.ref n0_0), .val (.int x5), .val (.int x6), .val (.int x7), .val (.int u0), .val (.ref n2_0), .val (.int x10), .val (.int x11), .val (.int x12), .val (.int x13)]) rfl ?_
    exact k
  exact b0_207 C X0 e0 N0 (by show cells ≤ 3; omega) (by show slots ≤ 22; omega) Z1 n0_0 n1_0 n2_0 (by omega) (by omega) (by omega) q_n0_0_freeCount q_n0_0_next q_n1_0 q_n2_0 x0 x1 x2 x3 x5 x6 x7 u0 x10 x11 x12 x13 E_n0_0_0 F_n0_0_free_0 F_n0_0_freeCount_0 F_n0_0_next_0 A_n1_0_0 A_n2_0_0 hr
set_option maxRecDepth 65536 in
set_option maxHeartbeats 4000000 in
theorem b0_205w1 {r : Int32} (C : Ctx p s m meth c Z a0 "com/example/postloop/postloop/IdPoolTakePinLaw" code 14 (some .boolean) "law") (X0 : Stand p l e room_1 s m args below meth c T0 locs cells slots) (e0 : T0.heap = h0) (N0 : Fr n0 locs) (hk : cells ≤ 3) (hn : slots ≤ 22) (Z1 : n0 ≤ h0.size) (n0_0 : Addr) (n1_0 : Addr) (n2_0 : Addr) (o0 : n0 ≤ n0_0) (o1 : @LT.lt Nat instLTNat n0_0 n1_0) (o2 : @LT.lt Nat instLTNat n1_0 n2_0) (q_n0_0_freeCount : Int32) (q_n0_0_next : Int32) (q_n1_0 : List Int32) (q_n2_0 : List Int32) (x0 : Int32) (x1 : Int32) (x2 : Int32) (x3 : Int32) (x5 : Int32) (x6 : Int32) (x7 : Int32) (x8 : Int32) (x10 : Int32) (x11 : Int32) (x12 : Int32) (u0 : Int32) (E_n0_0_0 : Exa Z h0 n0_0 "com/example/postloop/postloop/IdPool") (F_n0_0_free_0 : Fld Z h0 n0_0 "com/example/postloop/postloop/IdPool" "free" "[I" (.ref n1_0)) (F_n0_0_freeCount_0 : Fld Z h0 n0_0 "com/example/postloop/postloop/IdPool" "freeCount" "I" (.int q_n0_0_freeCount)) (F_n0_0_next_0 : Fld Z h0 n0_0 "com/example/postloop/postloop/IdPool" "next" "I" (.int q_n0_0_next)) (A_n1_0_0 : AI Z h0 n1_0 .int q_n1_0) (A_n2_0_0 : AI Z h0 n2_0 .int q_n2_0) (hr : g0_205 x2 x10 x11 u0 q_n0_0_freeCount q_n0_0_next q_n1_0 q_n2_0 = some r) :
    Runs p e below s (P0 n0 r) 3 22 T0 (mkF m 205 #[.val (.int x0), .val (.int x1), .val (.int x2), .val (.int x3), .val (.ref n0_0), .val (.int x5), .val (.int x6), .val (.int x7), .val (.int x8), .val (.ref n2_0), .val (.int x10), .val (.int x11), .val (.int x12), .unset] [(.int u0)]) := by
  unfold g0_205 at hr
  have ⟨hx, hZ, hw, hby, hml, hown, hret, hlk, hnm⟩ := C
  refine Runs.via (T' := T0) (g' := (mkF m 207 #[.val (.int x0), .val (.int x1), .val (.int x2), .val (.int x3), .val (.ref n0_0), .val (.int x5), .val (.int x6), .val (.int x7), .val (.int u0), .val (.ref n2_0), .val (.int x10), .val (.int x11), .val (.int x12), .unset] [])) (fun t k => ?_) ?_
  · show Steps p.tables e below (T0.setTop (mkF m 205 #[.val (.int x0), .val (.int x1), .val (.int x2), .val (.int x3), .val (.ref n0_0), .val (.int x5), .val (.int x6), .val (.int x7), .val (.int x8), .val (.ref n2_0), .val (.int x10), .val (.int x11), .val (.int x12), .unset] [(.int u0)])) t
    refine XS.istore X0.here hx rfl (hb hby at_205) rfl (l' := #[.val (.int x0), .val (.int x1), .val (.int x2), .val (.int x3), .val (.ref n0_0), .val (.int x5), .val (.int x6), .val (.int x7), .val (.int u0), .val (.ref n2_0), .val (.int x10), .val (.int x11), .val (.int x12), .unset]) rfl ?_
    exact k
  exact b0_207w1 C X0 e0 N0 (by show cells ≤ 3; omega) (by show slots ≤ 22; omega) Z1 n0_0 n1_0 n2_0 (by omega) (by omega) (by omega) q_n0_0_freeCount q_n0_0_next q_n1_0 q_n2_0 x0 x1 x2 x3 x5 x6 x7 u0 x10 x11 x12 E_n0_0_0 F_n0_0_free_0 F_n0_0_freeCount_0 F_n0_0_next_0 A_n1_0_0 A_n2_0_0 hr
def g0_204 (x2 : Int32) (x10 : Int32) (x11 : Int32) (q_n0_0_freeCount : Int32) (q_n0_0_next : Int32) (q_n1_0 : List Int32) (q_n2_0 : List Int32) : Option (Int32) := (g0_205 x2 x10 x11 (0 : Int32) q_n0_0_freeCount q_n0_0_next q_n1_0 q_n2_0)
set_option maxRecDepth 65536 in
set_option maxHeartbeats 4000000 in
theorem b0_204 {r : Int32} (C : Ctx p s m meth c Z a0 "com/example/postloop/postloop/IdPoolTakePinLaw" code 14 (some .boolean) "law") (X0 : Stand p l e room_1 s m args below meth c T0 locs cells slots) (e0 : T0.heap = h0) (N0 : Fr n0 locs) (hk : cells ≤ 3) (hn : slots ≤ 22) (Z1 : n0 ≤ h0.size) (n0_0 : Addr) (n1_0 : Addr) (n2_0 : Addr) (o0 : n0 ≤ n0_0) (o1 : @LT.lt Nat instLTNat n0_0 n1_0) (o2 : @LT.lt Nat instLTNat n1_0 n2_0) (q_n0_0_freeCount : Int32) (q_n0_0_next : Int32) (q_n1_0 : List Int32) (q_n2_0 : List Int32) (x0 : Int32) (x1 : Int32) (x2 : Int32) (x3 : Int32) (x5 : Int32) (x6 : Int32) (x7 : Int32) (x8 : Int32) (x10 : Int32) (x11 : Int32) (x12 : Int32) (x13 : Int32) (E_n0_0_0 : Exa Z h0 n0_0 "com/example/postloop/postloop/IdPool") (F_n0_0_free_0 : Fld Z h0 n0_0 "com/example/postloop/postloop/IdPool" "free" "[I" (.ref n1_0)) (F_n0_0_freeCount_0 : Fld Z h0 n0_0 "com/example/postloop/postloop/IdPool" "freeCount" "I" (.int q_n0_0_freeCount)) (F_n0_0_next_0 : Fld Z h0 n0_0 "com/example/postloop/postloop/IdPool" "next" "I" (.int q_n0_0_next)) (A_n1_0_0 : AI Z h0 n1_0 .int q_n1_0) (A_n2_0_0 : AI Z h0 n2_0 .int q_n2_0) (hr : g0_204 x2 x10 x11 q_n0_0_freeCount q_n0_0_next q_n1_0 q_n2_0 = some r) :
    Runs p e below s (P0 n0 r) 3 22 T0 (mkF m 204 #[.val (.int x0), .val (.int x1), .val (.int x2), .val (.int x3), .val (.ref n0_0), .val (.int x5), .val (.int x6), .val (.int x7), .val (.int x8), .val (.ref n2_0), .val (.int x10), .val (.int x11), .val (.int x12), .val (.int x13)] []) := by
  unfold g0_204 at hr
  have ⟨hx, hZ, hw, hby, hml, hown, hret, hlk, hnm⟩ := C
  refine Runs.via (T' := T0) (g' := (mkF m 205 #[.val (.int x0), .val (.int x1), .val (.int x2), .val (.int x3), .val (.ref n0_0), .val (.int x5), .val (.int x6), .val (.int x7), .val (.int x8), .val (.ref n2_0), .val (.int x10), .val (.int x11), .val (.int x12), .val (.int x13)] [(.int (0 : Int32))])) (fun t k => ?_) ?_
  · show Steps p.tables e below (T0.setTop (mkF m 204 #[.val (.int x0), .val (.int x1), .val (.int x2), .val (.int x3), .val (.ref n0_0), .val (.int x5), .val (.int x6), .val (.int x7), .val (.int x8), .val (.ref n2_0), .val (.int x10), .val (.int x11), .val (.int x12), .val (.int x13)] [])) t
    refine XS.iconst X0.here hx rfl (hb hby at_204) ?_
    exact k
  exact b0_205 C X0 e0 N0 (by show cells ≤ 3; omega) (by show slots ≤ 22; omega) Z1 n0_0 n1_0 n2_0 (by omega) (by omega) (by omega) q_n0_0_freeCount q_n0_0_next q_n1_0 q_n2_0 x0 x1 x2 x3 x5 x6 x7 x8 x10 x11 x12 x13 (0 : Int32) E_n0_0_0 F_n0_0_free_0 F_n0_0_freeCount_0 F_n0_0_next_0 A_n1_0_0 A_n2_0_0 hr
set_option maxRecDepth 65536 in
set_option maxHeartbeats 4000000 in
theorem b0_204w1 {r : Int32} (C : Ctx p s m meth c Z a0 "com/example/postloop/postloop/IdPoolTakePinLaw" code 14 (some .boolean) "law") (X0 : Stand p l e room_1 s m args below meth c T0 locs cells slots) (e0 : T0.heap = h0) (N0 : Fr n0 locs) (hk : cells ≤ 3) (hn : slots ≤ 22) (Z1 : n0 ≤ h0.size) (n0_0 : Addr) (n1_0 : Addr) (n2_0 : Addr) (o0 : n0 ≤ n0_0) (o1 : @LT.lt Nat instLTNat n0_0 n1_0) (o2 : @LT.lt Nat instLTNat n1_0 n2_0) (q_n0_0_freeCount : Int32) (q_n0_0_next : Int32) (q_n1_0 : List Int32) (q_n2_0 : List Int32) (x0 : Int32) (x1 : Int32) (x2 : Int32) (x3 : Int32) (x5 : Int32) (x6 : Int32) (x7 : Int32) (x8 : Int32) (x10 : Int32) (x11 : Int32) (x12 : Int32) (E_n0_0_0 : Exa Z h0 n0_0 "com/example/postloop/postloop/IdPool") (F_n0_0_free_0 : Fld Z h0 n0_0 "com/example/postloop/postloop/IdPool" "free" "[I" (.ref n1_0)) (F_n0_0_freeCount_0 : Fld Z h0 n0_0 "com/example/postloop/postloop/IdPool" "freeCount" "I" (.int q_n0_0_freeCount)) (F_n0_0_next_0 : Fld Z h0 n0_0 "com/example/postloop/postloop/IdPool" "next" "I" (.int q_n0_0_next)) (A_n1_0_0 : AI Z h0 n1_0 .int q_n1_0) (A_n2_0_0 : AI Z h0 n2_0 .int q_n2_0) (hr : g0_204 x2 x10 x11 q_n0_0_freeCount q_n0_0_next q_n1_0 q_n2_0 = some r) :
    Runs p e below s (P0 n0 r) 3 22 T0 (mkF m 204 #[.val (.int x0), .val (.int x1), .val (.int x2), .val (.int x3), .val (.ref n0_0), .val (.int x5), .val (.int x6), .val (.int x7), .val (.int x8), .val (.ref n2_0), .val (.int x10), .val (.int x11), .val (.int x12), .unset] []) := by
  unfold g0_204 at hr
  have ⟨hx, hZ, hw, hby, hml, hown, hret, hlk, hnm⟩ := C
  refine Runs.via (T' := T0) (g' := (mkF m 205 #[.val (.int x0), .val (.int x1), .val (.int x2), .val (.int x3), .val (.ref n0_0), .val (.int x5), .val (.int x6), .val (.int x7), .val (.int x8), .val (.ref n2_0), .val (.int x10), .val (.int x11), .val (.int x12), .unset] [(.int (0 : Int32))])) (fun t k => ?_) ?_
  · show Steps p.tables e below (T0.setTop (mkF m 204 #[.val (.int x0), .val (.int x1), .val (.int x2), .val (.int x3), .val (.ref n0_0), .val (.int x5), .val (.int x6), .val (.int x7), .val (.int x8), .val (.ref n2_0), .val (.int x10), .val (.int x11), .val (.int x12), .unset] [])) t
    refine XS.iconst X0.here hx rfl (hb hby at_204) ?_
    exact k
  exact b0_205w1 C X0 e0 N0 (by show cells ≤ 3; omega) (by show slots ≤ 22; omega) Z1 n0_0 n1_0 n2_0 (by omega) (by omega) (by omega) q_n0_0_freeCount q_n0_0_next q_n1_0 q_n2_0 x0 x1 x2 x3 x5 x6 x7 x8 x10 x11 x12 (0 : Int32) E_n0_0_0 F_n0_0_free_0 F_n0_0_freeCount_0 F_n0_0_next_0 A_n1_0_0 A_n2_0_0 hr
def g0_180 (x2 : Int32) (x8 : Int32) (x10 : Int32) (x11 : Int32) (x12 : Int32) (q_n0_0_freeCount : Int32) (q_n0_0_next : Int32) (q_n1_0 : List Int32) (q_n2_0 : List Int32) : Option (Int32) := (if x2 < (3 : Int32) then (g0_207 x2 x8 x10 x11 q_n0_0_freeCount q_n0_0_next q_n1_0 q_n2_0) else (if x8 = (0 : Int32) then (g0_204 x2 x10 x11 q_n0_0_freeCount q_n0_0_next q_n1_0 q_n2_0) else ((f3 q_n0_0_freeCount q_n0_0_next q_n1_0).bind fun r3 => (if r3.1 = x12 then (g0_205 x2 x10 x11 (1 : Int32) r3.2.1 r3.2.2 q_n1_0 q_n2_0) else (g0_204 x2 x10 x11 r3.2.1 r3.2.2 q_n1_0 q_n2_0)))))
set_option maxRecDepth 65536 in
set_option maxHeartbeats 4000000 in
theorem b0_180 {r : Int32} (C : Ctx p s m meth c Z a0 "com/example/postloop/postloop/IdPoolTakePinLaw" code 14 (some .boolean) "law") (X0 : Stand p l e room_1 s m args below meth c T0 locs cells slots) (e0 : T0.heap = h0) (N0 : Fr n0 locs) (hk : cells ≤ 3) (hn : slots ≤ 22) (Z1 : n0 ≤ h0.size) (n0_0 : Addr) (n1_0 : Addr) (n2_0 : Addr) (o0 : n0 ≤ n0_0) (o1 : @LT.lt Nat instLTNat n0_0 n1_0) (o2 : @LT.lt Nat instLTNat n1_0 n2_0) (q_n0_0_freeCount : Int32) (q_n0_0_next : Int32) (q_n1_0 : List Int32) (q_n2_0 : List Int32) (x0 : Int32) (x1 : Int32) (x2 : Int32) (x3 : Int32) (x5 : Int32) (x6 : Int32) (x7 : Int32) (x8 : Int32) (x10 : Int32) (x11 : Int32) (x12 : Int32) (x13 : Int32) (E_n0_0_0 : Exa Z h0 n0_0 "com/example/postloop/postloop/IdPool") (F_n0_0_free_0 : Fld Z h0 n0_0 "com/example/postloop/postloop/IdPool" "free" "[I" (.ref n1_0)) (F_n0_0_freeCount_0 : Fld Z h0 n0_0 "com/example/postloop/postloop/IdPool" "freeCount" "I" (.int q_n0_0_freeCount)) (F_n0_0_next_0 : Fld Z h0 n0_0 "com/example/postloop/postloop/IdPool" "next" "I" (.int q_n0_0_next)) (A_n1_0_0 : AI Z h0 n1_0 .int q_n1_0) (A_n2_0_0 : AI Z h0 n2_0 .int q_n2_0) (hr : g0_180 x2 x8 x10 x11 x12 q_n0_0_freeCount q_n0_0_next q_n1_0 q_n2_0 = some r) :
    Runs p e below s (P0 n0 r) 3 22 T0 (mkF m 180 #[.val (.int x0), .val (.int x1), .val (.int x2), .val (.int x3), .val (.ref n0_0), .val (.int x5), .val (.int x6), .val (.int x7), .val (.int x8), .val (.ref n2_0), .val (.int x10), .val (.int x11), .val (.int x12), .val (.int x13)] []) := by
  unfold g0_180 at hr
  have ⟨hx, hZ, hw, hby, hml, hown, hret, hlk, hnm⟩ := C
  refine Runs.via (T' := T0) (g' := (mkF m 182 #[.val (.int x0), .val (.int x1), .val (.int x2), .val (.int x3), .val (.ref n0_0), .val (.int x5), .val (.int x6), .val (.int x7), .val (.int x8), .val (.ref n2_0), .val (.int x10), .val (.int x11), .val (.int x12), .val (.int x13)] [(.int (3 : Int32)), (.int x2)])) (fun t k => ?_) ?_
  · show Steps p.tables e below (T0.setTop (mkF m 180 #[.val (.int x0), .val (.int x1), .val (.int x2), .val (.int x3), .val (.ref n0_0), .val (.int x5), .val (.int x6), .val (.int x7), .val (.int x8), .val (.ref n2_0), .val (.int x10), .val (.int x11), .val (.int x12), .val (.int x13)] [])) t
    refine XS.iloadN X0.here hx rfl (hb hby at_180) rfl ?_
    show Steps p.tables e below (T0.setTop (mkF m 181 #[.val (.int x0), .val (.int x1), .val (.int x2), .val (.int x3), .val (.ref n0_0), .val (.int x5), .val (.int x6), .val (.int x7), .val (.int x8), .val (.ref n2_0), .val (.int x10), .val (.int x11), .val (.int x12), .val (.int x13)] [(.int x2)])) t
    refine XS.iconst X0.here hx rfl (hb hby at_181) ?_
    exact k
  refine iteE hr (fun hc1 hr => ?_) (fun hc1 hr => ?_)
  · refine Runs.via (T' := T0) (g' := (mkF m 207 #[.val (.int x0), .val (.int x1), .val (.int x2), .val (.int x3), .val (.ref n0_0), .val (.int x5), .val (.int x6), .val (.int x7), .val (.int x8), .val (.ref n2_0), .val (.int x10), .val (.int x11), .val (.int x12), .val (.int x13)] [])) (fun t k => ?_) ?_
    · show Steps p.tables e below (T0.setTop (mkF m 182 #[.val (.int x0), .val (.int x1), .val (.int x2), .val (.int x3), .val (.ref n0_0), .val (.int x5), .val (.int x6), .val (.int x7), .val (.int x8), .val (.ref n2_0), .val (.int x10), .val (.int x11), .val (.int x12), .val (.int x13)] [(.int (3 : Int32)), (.int x2)])) t
      exact XS.icmpYes X0.here hx rfl (pc0 := 182) (pc' := 207) rfl (hb hby at_182) rfl (tlt hc1).1 (by decide) (by decide) k
    exact b0_207 C X0 e0 N0 (by show cells ≤ 3; omega) (by show slots ≤ 22; omega) Z1 n0_0 n1_0 n2_0 (by omega) (by omega) (by omega) q_n0_0_freeCount q_n0_0_next q_n1_0 q_n2_0 x0 x1 x2 x3 x5 x6 x7 x8 x10 x11 x12 x13 E_n0_0_0 F_n0_0_free_0 F_n0_0_freeCount_0 F_n0_0_next_0 A_n1_0_0 A_n2_0_0 hr
  · refine Runs.via (T' := T0) (g' := (mkF m 185 #[.val (.int x0), .val (.int x1), .val (.int x2), .val (.int x3), .val (.ref n0_0), .val (.int x5), .val (.int x6), .val (.int x7), .val (.int x8), .val (.ref n2_0), .val (.int x10), .val (.int x11), .val (.int x12), .val (.int x13)] [])) (fun t k => ?_) ?_
    · show Steps p.tables e below (T0.setTop (mkF m 182 #[.val (.int x0), .val (.int x1), .val (.int x2), .val (.int x3), .val (.ref n0_0), .val (.int x5), .val (.int x6), .val (.int x7), .val (.int x8), .val (.ref n2_0), .val (.int x10), .val (.int x11), .val (.int x12), .val (.int x13)] [(.int (3 : Int32)), (.int x2)])) t
      exact XS.icmpNo X0.here hx rfl (hb hby at_182) rfl (flt hc1).1 k
    refine Runs.via (T' := T0) (g' := (mkF m 187 #[.val (.int x0), .val (.int x1), .val (.int x2), .val (.int x3), .val (.ref n0_0), .val (.int x5), .val (.int x6), .val (.int x7), .val (.int x8), .val (.ref n2_0), .val (.int x10), .val (.int x11), .val (.int x12), .val (.int x13)] [(.int x8)])) (fun t k => ?_) ?_
    · show Steps p.tables e below (T0.setTop (mkF m 185 #[.val (.int x0), .val (.int x1), .val (.int x2), .val (.int x3), .val (.ref n0_0), .val (.int x5), .val (.int x6), .val (.int x7), .val (.int x8), .val (.ref n2_0), .val (.int x10), .val (.int x11), .val (.int x12), .val (.int x13)] [])) t
      refine XS.iload X0.here hx rfl (hb hby at_185) rfl ?_
      exact k
    refine iteE hr (fun hc2 hr => ?_) (fun hc2 hr => ?_)
    · refine Runs.via (T' := T0) (g' := (mkF m 204 #[.val (.int x0), .val (.int x1), .val (.int x2), .val (.int x3), .val (.ref n0_0), .val (.int x5), .val (.int x6), .val (.int x7), .val (.int x8), .val (.ref n2_0), .val (.int x10), .val (.int x11), .val (.int x12), .val (.int x13)] [])) (fun t k => ?_) ?_
      · show Steps p.tables e below (T0.setTop (mkF m 187 #[.val (.int x0), .val (.int x1), .val (.int x2), .val (.int x3), .val (.ref n0_0), .val (.int x5), .val (.int x6), .val (.int x7), .val (.int x8), .val (.ref n2_0), .val (.int x10), .val (.int x11), .val (.int x12), .val (.int x13)] [(.int x8)])) t
        exact XS.ifYes X0.here hx rfl (pc0 := 187) (pc' := 204) rfl (hb hby at_187) rfl ((if0 _ _).trans (teq hc2).1) (by decide) (by decide) k
      exact b0_204 C X0 e0 N0 (by show cells ≤ 3; omega) (by show slots ≤ 22; omega) Z1 n0_0 n1_0 n2_0 (by omega) (by omega) (by omega) q_n0_0_freeCount q_n0_0_next q_n1_0 q_n2_0 x0 x1 x2 x3 x5 x6 x7 x8 x10 x11 x12 x13 E_n0_0_0 F_n0_0_free_0 F_n0_0_freeCount_0 F_n0_0_next_0 A_n1_0_0 A_n2_0_0 hr
    · refine Runs.via (T' := T0) (g' := (mkF m 190 #[.val (.int x0), .val (.int x1), .val (.int x2), .val (.int x3), .val (.ref n0_0), .val (.int x5), .val (.int x6), .val (.int x7), .val (.int x8), .val (.ref n2_0), .val (.int x10), .val (.int x11), .val (.int x12), .val (.int x13)] [])) (fun t k => ?_) ?_
      · show Steps p.tables e below (T0.setTop (mkF m 187 #[.val (.int x0), .val (.int x1), .val (.int x2), .val (.int x3), .val (.ref n0_0), .val (.int x5), .val (.int x6), .val (.int x7), .val (.int x8), .val (.ref n2_0), .val (.int x10), .val (.int x11), .val (.int x12), .val (.int x13)] [(.int x8)])) t
        exact XS.ifNo X0.here hx rfl (hb hby at_187) rfl ((if0 _ _).trans (feq hc2).1) k
      refine Runs.via (T' := T0) (g' := (mkF m 192 #[.val (.int x0), .val (.int x1), .val (.int x2), .val (.int x3), .val (.ref n0_0), .val (.int x5), .val (.int x6), .val (.int x7), .val (.int x8), .val (.ref n2_0), .val (.int x10), .val (.int x11), .val (.int x12), .val (.int x13)] [(.ref n0_0)])) (fun t k => ?_) ?_
      · show Steps p.tables e below (T0.setTop (mkF m 190 #[.val (.int x0), .val (.int x1), .val (.int x2), .val (.int x3), .val (.ref n0_0), .val (.int x5), .val (.int x6), .val (.int x7), .val (.int x8), .val (.ref n2_0), .val (.int x10), .val (.int x11), .val (.int x12), .val (.int x13)] [])) t
        refine XS.aload X0.here hx rfl (hb hby at_190) rfl rfl ?_
        exact k
      refine bindE hr ?_; intro r3 hr3m hr
      obtain ⟨cq3, kq3, q3a, q3b, q3c⟩ := isOf hZ e0 E_n0_0_0
      obtain ⟨_, _, ⟨T3, L3, k3, n3⟩, -, X3, ⟨Lc3, hQ3, l3, y3, z3⟩, st3⟩ := X0.virtualBack hx (y := (⟨"com/example/postloop/postloop/IdPool", "take", "()I"⟩ : MethodName)) (z := (⟨"com/example/postloop/postloop/IdPool", "take", "()I"⟩ : MethodName)) hown (mvT hZ (hw _ (List.mem_of_getElem? (i := 13) rfl))) (mvT hZ (hw _ (List.mem_of_getElem? (i := 14) rfl))) (notFace_of_selects (args := #[]) (mvT hZ (hw _ (List.mem_of_getElem? (i := 16) rfl)))) (mvT hZ (hw _ (List.mem_of_getElem? (i := 16) rfl))) (mvT hZ (hw _ (List.mem_of_getElem? (i := 15) rfl))) (by decide) (backOf (W := 0) (rm3 l Z a0 hw [] n0_0 n1_0 q_n0_0_freeCount q_n0_0_next q_n1_0 h0 n0 Z1 (by omega) (by omega) E_n0_0_0 F_n0_0_free_0 F_n0_0_freeCount_0 F_n0_0_next_0 A_n1_0_0 r3 hr3m) hZ (hw _ (List.mem_of_getElem? (i := 17) rfl)) (hw _ (List.mem_of_getElem? (i := 3) rfl)) (by decide) (by decide)) q3a q3c (g := (mkF m 192 #[.val (.int x0), .val (.int x1), .val (.int x2), .val (.int x3), .val (.ref n0_0), .val (.int x5), .val (.int x6), .val (.int x7), .val (.int x8), .val (.ref n2_0), .val (.int x10), .val (.int x11), .val (.int x12), .val (.int x13)] [(.ref n0_0)])) rfl (by rw [hml]; rfl) (Steps.refl _) (argsL := []) (rest := []) (lenOf pd_1 rfl) rfl (by show 2 * 0 + _ ≤ _; exact Nat.le_of_eq rfl) (hb hby at_192) (fun _ _ => ⟨rfl, e0, (by show cells + 0 ≤ 16; omega), (by show slots + 0 ≤ 128; omega)⟩)
      dsimp only [Pt.U, Pt.locs, Pt.cells, Pt.slots] at X3 l3 y3 z3 st3 hQ3
      replace y3 := y3.symm; replace z3 := z3.symm; subst l3 y3 z3
      obtain ⟨h3, e3⟩ : ∃ z, T3.heap = z := ⟨_, rfl⟩
      rw [e3] at hQ3
      obtain ⟨rfl, N3q, K3q, E_n0_0_3, F_n0_0_free_3, F_n0_0_freeCount_3, F_n0_0_next_3⟩ := hQ3
      have N3 := Fr.app N0 N3q
      have A_n1_0_3 := A_n1_0_0.keep K3q (ninS (by omega : @Ne Nat n1_0 n0_0) nin0)
      have A_n2_0_3 := A_n2_0_0.keep K3q (ninS (by omega : @Ne Nat n2_0 n0_0) nin0)
      have zz3 : n0 ≤ h3.size := Nat.le_trans Z1 K3q.1
      refine Runs.via (T' := T3) (g' := (mkF m 195 #[.val (.int x0), .val (.int x1), .val (.int x2), .val (.int x3), .val (.ref n0_0), .val (.int x5), .val (.int x6), .val (.int x7), .val (.int x8), .val (.ref n2_0), .val (.int x10), .val (.int x11), .val (.int x12), .val (.int x13)] [(.int r3.1)])) (fun t k => st3.trans k) ?_
      refine Runs.via (T' := T3) (g' := (mkF m 197 #[.val (.int x0), .val (.int x1), .val (.int x2), .val (.int x3), .val (.ref n0_0), .val (.int x5), .val (.int x6), .val (.int x7), .val (.int x8), .val (.ref n2_0), .val (.int x10), .val (.int x11), .val (.int x12), .val (.int x13)] [(.int x12), (.int r3.1)])) (fun t k => ?_) ?_
      · show Steps p.tables e below (T3.setTop (mkF m 195 #[.val (.int x0), .val (.int x1), .val (.int x2), .val (.int x3), .val (.ref n0_0), .val (.int x5), .val (.int x6), .val (.int x7), .val (.int x8), .val (.ref n2_0), .val (.int x10), .val (.int x11), .val (.int x12), .val (.int x13)] [(.int r3.1)])) t
        refine XS.iload X3.here hx rfl (hb hby at_195) rfl ?_
        exact k
      refine iteE hr (fun hc4 hr => ?_) (fun hc4 hr => ?_)
      · refine Runs.via (T' := T3) (g' := (mkF m 200 #[.val (.int x0), .val (.int x1), .val (.int x2), .val (.int x3), .val (.ref n0_0), .val (.int x5), .val (.int x6), .val (.int x7), .val (.int x8), .val (.ref n2_0), .val (.int x10), .val (.int x11), .val (.int x12), .val (.int x13)] [])) (fun t k => ?_) ?_
        · show Steps p.tables e below (T3.setTop (mkF m 197 #[.val (.int x0), .val (.int x1), .val (.int x2), .val (.int x3), .val (.ref n0_0), .val (.int x5), .val (.int x6), .val (.int x7), .val (.int x8), .val (.ref n2_0), .val (.int x10), .val (.int x11), .val (.int x12), .val (.int x13)] [(.int x12), (.int r3.1)])) t
          exact XS.icmpNo X3.here hx rfl (hb hby at_197) rfl (teq hc4).2 k
        refine Runs.via (T' := T3) (g' := (mkF m 205 #[.val (.int x0), .val (.int x1), .val (.int x2), .val (.int x3), .val (.ref n0_0), .val (.int x5), .val (.int x6), .val (.int x7), .val (.int x8), .val (.ref n2_0), .val (.int x10), .val (.int x11), .val (.int x12), .val (.int x13)] [(.int (1 : Int32))])) (fun t k => ?_) ?_
        · show Steps p.tables e below (T3.setTop (mkF m 200 #[.val (.int x0), .val (.int x1), .val (.int x2), .val (.int x3), .val (.ref n0_0), .val (.int x5), .val (.int x6), .val (.int x7), .val (.int x8), .val (.ref n2_0), .val (.int x10), .val (.int x11), .val (.int x12), .val (.int x13)] [])) t
          refine XS.iconst X3.here hx rfl (hb hby at_200) ?_
          show Steps p.tables e below (T3.setTop (mkF m 201 #[.val (.int x0), .val (.int x1), .val (.int x2), .val (.int x3), .val (.ref n0_0), .val (.int x5), .val (.int x6), .val (.int x7), .val (.int x8), .val (.ref n2_0), .val (.int x10), .val (.int x11), .val (.int x12), .val (.int x13)] [(.int (1 : Int32))])) t
          refine XS.goto X3.here hx rfl (pc0 := 201) (pc' := 205) rfl (hb hby at_201) (by decide) (by decide) ?_
          exact k
        exact b0_205 C X3 e3 N3 (by show (cells + 0) ≤ 3; omega) (by show (slots + 0) ≤ 22; omega) zz3 n0_0 n1_0 n2_0 (by omega) (by omega) (by omega) r3.2.1 r3.2.2 q_n1_0 q_n2_0 x0 x1 x2 x3 x5 x6 x7 x8 x10 x11 x12 x13 (1 : Int32) E_n0_0_3 F_n0_0_free_3 F_n0_0_freeCount_3 F_n0_0_next_3 A_n1_0_3 A_n2_0_3 hr
      · refine Runs.via (T' := T3) (g' := (mkF m 204 #[.val (.int x0), .val (.int x1), .val (.int x2), .val (.int x3), .val (.ref n0_0), .val (.int x5), .val (.int x6), .val (.int x7), .val (.int x8), .val (.ref n2_0), .val (.int x10), .val (.int x11), .val (.int x12), .val (.int x13)] [])) (fun t k => ?_) ?_
        · show Steps p.tables e below (T3.setTop (mkF m 197 #[.val (.int x0), .val (.int x1), .val (.int x2), .val (.int x3), .val (.ref n0_0), .val (.int x5), .val (.int x6), .val (.int x7), .val (.int x8), .val (.ref n2_0), .val (.int x10), .val (.int x11), .val (.int x12), .val (.int x13)] [(.int x12), (.int r3.1)])) t
          exact XS.icmpYes X3.here hx rfl (pc0 := 197) (pc' := 204) rfl (hb hby at_197) rfl (feq hc4).2 (by decide) (by decide) k
        exact b0_204 C X3 e3 N3 (by show (cells + 0) ≤ 3; omega) (by show (slots + 0) ≤ 22; omega) zz3 n0_0 n1_0 n2_0 (by omega) (by omega) (by omega) r3.2.1 r3.2.2 q_n1_0 q_n2_0 x0 x1 x2 x3 x5 x6 x7 x8 x10 x11 x12 x13 E_n0_0_3 F_n0_0_free_3 F_n0_0_freeCount_3 F_n0_0_next_3 A_n1_0_3 A_n2_0_3 hr
set_option maxRecDepth 65536 in
set_option maxHeartbeats 4000000 in
theorem b0_180w1 {r : Int32} (C : Ctx p s m meth c Z a0 "com/example/postloop/postloop/IdPoolTakePinLaw" code 14 (some .boolean) "law") (X0 : Stand p l e room_1 s m args below meth c T0 locs cells slots) (e0 : T0.heap = h0) (N0 : Fr n0 locs) (hk : cells ≤ 3) (hn : slots ≤ 22) (Z1 : n0 ≤ h0.size) (n0_0 : Addr) (n1_0 : Addr) (n2_0 : Addr) (o0 : n0 ≤ n0_0) (o1 : @LT.lt Nat instLTNat n0_0 n1_0) (o2 : @LT.lt Nat instLTNat n1_0 n2_0) (q_n0_0_freeCount : Int32) (q_n0_0_next : Int32) (q_n1_0 : List Int32) (q_n2_0 : List Int32) (x0 : Int32) (x1 : Int32) (x2 : Int32) (x3 : Int32) (x5 : Int32) (x6 : Int32) (x7 : Int32) (x8 : Int32) (x10 : Int32) (x11 : Int32) (x12 : Int32) (E_n0_0_0 : Exa Z h0 n0_0 "com/example/postloop/postloop/IdPool") (F_n0_0_free_0 : Fld Z h0 n0_0 "com/example/postloop/postloop/IdPool" "free" "[I" (.ref n1_0)) (F_n0_0_freeCount_0 : Fld Z h0 n0_0 "com/example/postloop/postloop/IdPool" "freeCount" "I" (.int q_n0_0_freeCount)) (F_n0_0_next_0 : Fld Z h0 n0_0 "com/example/postloop/postloop/IdPool" "next" "I" (.int q_n0_0_next)) (A_n1_0_0 : AI Z h0 n1_0 .int q_n1_0) (A_n2_0_0 : AI Z h0 n2_0 .int q_n2_0) (hr : g0_180 x2 x8 x10 x11 x12 q_n0_0_freeCount q_n0_0_next q_n1_0 q_n2_0 = some r) :
    Runs p e below s (P0 n0 r) 3 22 T0 (mkF m 180 #[.val (.int x0), .val (.int x1), .val (.int x2), .val (.int x3), .val (.ref n0_0), .val (.int x5), .val (.int x6), .val (.int x7), .val (.int x8), .val (.ref n2_0), .val (.int x10), .val (.int x11), .val (.int x12), .unset] []) := by
  unfold g0_180 at hr
  have ⟨hx, hZ, hw, hby, hml, hown, hret, hlk, hnm⟩ := C
  refine Runs.via (T' := T0) (g' := (mkF m 182 #[.val (.int x0), .val (.int x1), .val (.int x2), .val (.int x3), .val (.ref n0_0), .val (.int x5), .val (.int x6), .val (.int x7), .val (.int x8), .val (.ref n2_0), .val (.int x10), .val (.int x11), .val (.int x12), .unset] [(.int (3 : Int32)), (.int x2)])) (fun t k => ?_) ?_
  · show Steps p.tables e below (T0.setTop (mkF m 180 #[.val (.int x0), .val (.int x1), .val (.int x2), .val (.int x3), .val (.ref n0_0), .val (.int x5), .val (.int x6), .val (.int x7), .val (.int x8), .val (.ref n2_0), .val (.int x10), .val (.int x11), .val (.int x12), .unset] [])) t
    refine XS.iloadN X0.here hx rfl (hb hby at_180) rfl ?_
    show Steps p.tables e below (T0.setTop (mkF m 181 #[.val (.int x0), .val (.int x1), .val (.int x2), .val (.int x3), .val (.ref n0_0), .val (.int x5), .val (.int x6), .val (.int x7), .val (.int x8), .val (.ref n2_0), .val (.int x10), .val (.int x11), .val (.int x12), .unset] [(.int x2)])) t
    refine XS.iconst X0.here hx rfl (hb hby at_181) ?_
    exact k
  refine iteE hr (fun hc1 hr => ?_) (fun hc1 hr => ?_)
  · refine Runs.via (T' := T0) (g' := (mkF m 207 #[.val (.int x0), .val (.int x1), .val (.int x2), .val (.int x3), .val (.ref n0_0), .val (.int x5), .val (.int x6), .val (.int x7), .val (.int x8), .val (.ref n2_0), .val (.int x10), .val (.int x11), .val (.int x12), .unset] [])) (fun t k => ?_) ?_
    · show Steps p.tables e below (T0.setTop (mkF m 182 #[.val (.int x0), .val (.int x1), .val (.int x2), .val (.int x3), .val (.ref n0_0), .val (.int x5), .val (.int x6), .val (.int x7), .val (.int x8), .val (.ref n2_0), .val (.int x10), .val (.int x11), .val (.int x12), .unset] [(.int (3 : Int32)), (.int x2)])) t
      exact XS.icmpYes X0.here hx rfl (pc0 := 182) (pc' := 207) rfl (hb hby at_182) rfl (tlt hc1).1 (by decide) (by decide) k
    exact b0_207w1 C X0 e0 N0 (by show cells ≤ 3; omega) (by show slots ≤ 22; omega) Z1 n0_0 n1_0 n2_0 (by omega) (by omega) (by omega) q_n0_0_freeCount q_n0_0_next q_n1_0 q_n2_0 x0 x1 x2 x3 x5 x6 x7 x8 x10 x11 x12 E_n0_0_0 F_n0_0_free_0 F_n0_0_freeCount_0 F_n0_0_next_0 A_n1_0_0 A_n2_0_0 hr
  · refine Runs.via (T' := T0) (g' := (mkF m 185 #[.val (.int x0), .val (.int x1), .val (.int x2), .val (.int x3), .val (.ref n0_0), .val (.int x5), .val (.int x6), .val (.int x7), .val (.int x8), .val (.ref n2_0), .val (.int x10), .val (.int x11), .val (.int x12), .unset] [])) (fun t k => ?_) ?_
    · show Steps p.tables e below (T0.setTop (mkF m 182 #[.val (.int x0), .val (.int x1), .val (.int x2), .val (.int x3), .val (.ref n0_0), .val (.int x5), .val (.int x6), .val (.int x7), .val (.int x8), .val (.ref n2_0), .val (.int x10), .val (.int x11), .val (.int x12), .unset] [(.int (3 : Int32)), (.int x2)])) t
      exact XS.icmpNo X0.here hx rfl (hb hby at_182) rfl (flt hc1).1 k
    refine Runs.via (T' := T0) (g' := (mkF m 187 #[.val (.int x0), .val (.int x1), .val (.int x2), .val (.int x3), .val (.ref n0_0), .val (.int x5), .val (.int x6), .val (.int x7), .val (.int x8), .val (.ref n2_0), .val (.int x10), .val (.int x11), .val (.int x12), .unset] [(.int x8)])) (fun t k => ?_) ?_
    · show Steps p.tables e below (T0.setTop (mkF m 185 #[.val (.int x0), .val (.int x1), .val (.int x2), .val (.int x3), .val (.ref n0_0), .val (.int x5), .val (.int x6), .val (.int x7), .val (.int x8), .val (.ref n2_0), .val (.int x10), .val (.int x11), .val (.int x12), .unset] [])) t
      refine XS.iload X0.here hx rfl (hb hby at_185) rfl ?_
      exact k
    refine iteE hr (fun hc2 hr => ?_) (fun hc2 hr => ?_)
    · refine Runs.via (T' := T0) (g' := (mkF m 204 #[.val (.int x0), .val (.int x1), .val (.int x2), .val (.int x3), .val (.ref n0_0), .val (.int x5), .val (.int x6), .val (.int x7), .val (.int x8), .val (.ref n2_0), .val (.int x10), .val (.int x11), .val (.int x12), .unset] [])) (fun t k => ?_) ?_
      · show Steps p.tables e below (T0.setTop (mkF m 187 #[.val (.int x0), .val (.int x1), .val (.int x2), .val (.int x3), .val (.ref n0_0), .val (.int x5), .val (.int x6), .val (.int x7), .val (.int x8), .val (.ref n2_0), .val (.int x10), .val (.int x11), .val (.int x12), .unset] [(.int x8)])) t
        exact XS.ifYes X0.here hx rfl (pc0 := 187) (pc' := 204) rfl (hb hby at_187) rfl ((if0 _ _).trans (teq hc2).1) (by decide) (by decide) k
      exact b0_204w1 C X0 e0 N0 (by show cells ≤ 3; omega) (by show slots ≤ 22; omega) Z1 n0_0 n1_0 n2_0 (by omega) (by omega) (by omega) q_n0_0_freeCount q_n0_0_next q_n1_0 q_n2_0 x0 x1 x2 x3 x5 x6 x7 x8 x10 x11 x12 E_n0_0_0 F_n0_0_free_0 F_n0_0_freeCount_0 F_n0_0_next_0 A_n1_0_0 A_n2_0_0 hr
    · refine Runs.via (T' := T0) (g' := (mkF m 190 #[.val (.int x0), .val (.int x1), .val (.int x2), .val (.int x3), .val (.ref n0_0), .val (.int x5), .val (.int x6), .val (.int x7), .val (.int x8), .val (.ref n2_0), .val (.int x10), .val (.int x11), .val (.int x12), .unset] [])) (fun t k => ?_) ?_
      · show Steps p.tables e below (T0.setTop (mkF m 187 #[.val (.int x0), .val (.int x1), .val (.int x2), .val (.int x3), .val (.ref n0_0), .val (.int x5), .val (.int x6), .val (.int x7), .val (.int x8), .val (.ref n2_0), .val (.int x10), .val (.int x11), .val (.int x12), .unset] [(.int x8)])) t
        exact XS.ifNo X0.here hx rfl (hb hby at_187) rfl ((if0 _ _).trans (feq hc2).1) k
      refine Runs.via (T' := T0) (g' := (mkF m 192 #[.val (.int x0), .val (.int x1), .val (.int x2), .val (.int x3), .val (.ref n0_0), .val (.int x5), .val (.int x6), .val (.int x7), .val (.int x8), .val (.ref n2_0), .val (.int x10), .val (.int x11), .val (.int x12), .unset] [(.ref n0_0)])) (fun t k => ?_) ?_
      · show Steps p.tables e below (T0.setTop (mkF m 190 #[.val (.int x0), .val (.int x1), .val (.int x2), .val (.int x3), .val (.ref n0_0), .val (.int x5), .val (.int x6), .val (.int x7), .val (.int x8), .val (.ref n2_0), .val (.int x10), .val (.int x11), .val (.int x12), .unset] [])) t
        refine XS.aload X0.here hx rfl (hb hby at_190) rfl rfl ?_
        exact k
      refine bindE hr ?_; intro r3 hr3m hr
      obtain ⟨cq3, kq3, q3a, q3b, q3c⟩ := isOf hZ e0 E_n0_0_0
      obtain ⟨_, _, ⟨T3, L3, k3, n3⟩, -, X3, ⟨Lc3, hQ3, l3, y3, z3⟩, st3⟩ := X0.virtualBack hx (y := (⟨"com/example/postloop/postloop/IdPool", "take", "()I"⟩ : MethodName)) (z := (⟨"com/example/postloop/postloop/IdPool", "take", "()I"⟩ : MethodName)) hown (mvT hZ (hw _ (List.mem_of_getElem? (i := 13) rfl))) (mvT hZ (hw _ (List.mem_of_getElem? (i := 14) rfl))) (notFace_of_selects (args := #[]) (mvT hZ (hw _ (List.mem_of_getElem? (i := 16) rfl)))) (mvT hZ (hw _ (List.mem_of_getElem? (i := 16) rfl))) (mvT hZ (hw _ (List.mem_of_getElem? (i := 15) rfl))) (by decide) (backOf (W := 0) (rm3 l Z a0 hw [] n0_0 n1_0 q_n0_0_freeCount q_n0_0_next q_n1_0 h0 n0 Z1 (by omega) (by omega) E_n0_0_0 F_n0_0_free_0 F_n0_0_freeCount_0 F_n0_0_next_0 A_n1_0_0 r3 hr3m) hZ (hw _ (List.mem_of_getElem? (i := 17) rfl)) (hw _ (List.mem_of_getElem? (i := 3) rfl)) (by decide) (by decide)) q3a q3c (g := (mkF m 192 #[.val (.int x0), .val (.int x1), .val (.int x2), .val (.int x3), .val (.ref n0_0), .val (.int x5), .val (.int x6), .val (.int x7), .val (.int x8), .val (.ref n2_0), .val (.int x10), .val (.int x11), .val (.int x12), .unset] [(.ref n0_0)])) rfl (by rw [hml]; rfl) (Steps.refl _) (argsL := []) (rest := []) (lenOf pd_1 rfl) rfl (by show 2 * 0 + _ ≤ _; exact Nat.le_of_eq rfl) (hb hby at_192) (fun _ _ => ⟨rfl, e0, (by show cells + 0 ≤ 16; omega), (by show slots + 0 ≤ 128; omega)⟩)
      dsimp only [Pt.U, Pt.locs, Pt.cells, Pt.slots] at X3 l3 y3 z3 st3 hQ3
      replace y3 := y3.symm; replace z3 := z3.symm; subst l3 y3 z3
      obtain ⟨h3, e3⟩ : ∃ z, T3.heap = z := ⟨_, rfl⟩
      rw [e3] at hQ3
      obtain ⟨rfl, N3q, K3q, E_n0_0_3, F_n0_0_free_3, F_n0_0_freeCount_3, F_n0_0_next_3⟩ := hQ3
      have N3 := Fr.app N0 N3q
      have A_n1_0_3 := A_n1_0_0.keep K3q (ninS (by omega : @Ne Nat n1_0 n0_0) nin0)
      have A_n2_0_3 := A_n2_0_0.keep K3q (ninS (by omega : @Ne Nat n2_0 n0_0) nin0)
      have zz3 : n0 ≤ h3.size := Nat.le_trans Z1 K3q.1
      refine Runs.via (T' := T3) (g' := (mkF m 195 #[.val (.int x0), .val (.int x1), .val (.int x2), .val (.int x3), .val (.ref n0_0), .val (.int x5), .val (.int x6), .val (.int x7), .val (.int x8), .val (.ref n2_0), .val (.int x10), .val (.int x11), .val (.int x12), .unset] [(.int r3.1)])) (fun t k => st3.trans k) ?_
      refine Runs.via (T' := T3) (g' := (mkF m 197 #[.val (.int x0), .val (.int x1), .val (.int x2), .val (.int x3), .val (.ref n0_0), .val (.int x5), .val (.int x6), .val (.int x7), .val (.int x8), .val (.ref n2_0), .val (.int x10), .val (.int x11), .val (.int x12), .unset] [(.int x12), (.int r3.1)])) (fun t k => ?_) ?_
      · show Steps p.tables e below (T3.setTop (mkF m 195 #[.val (.int x0), .val (.int x1), .val (.int x2), .val (.int x3), .val (.ref n0_0), .val (.int x5), .val (.int x6), .val (.int x7), .val (.int x8), .val (.ref n2_0), .val (.int x10), .val (.int x11), .val (.int x12), .unset] [(.int r3.1)])) t
        refine XS.iload X3.here hx rfl (hb hby at_195) rfl ?_
        exact k
      refine iteE hr (fun hc4 hr => ?_) (fun hc4 hr => ?_)
      · refine Runs.via (T' := T3) (g' := (mkF m 200 #[.val (.int x0), .val (.int x1), .val (.int x2), .val (.int x3), .val (.ref n0_0), .val (.int x5), .val (.int x6), .val (.int x7), .val (.int x8), .val (.ref n2_0), .val (.int x10), .val (.int x11), .val (.int x12), .unset] [])) (fun t k => ?_) ?_
        · show Steps p.tables e below (T3.setTop (mkF m 197 #[.val (.int x0), .val (.int x1), .val (.int x2), .val (.int x3), .val (.ref n0_0), .val (.int x5), .val (.int x6), .val (.int x7), .val (.int x8), .val (.ref n2_0), .val (.int x10), .val (.int x11), .val (.int x12), .unset] [(.int x12), (.int r3.1)])) t
          exact XS.icmpNo X3.here hx rfl (hb hby at_197) rfl (teq hc4).2 k
        refine Runs.via (T' := T3) (g' := (mkF m 205 #[.val (.int x0), .val (.int x1), .val (.int x2), .val (.int x3), .val (.ref n0_0), .val (.int x5), .val (.int x6), .val (.int x7), .val (.int x8), .val (.ref n2_0), .val (.int x10), .val (.int x11), .val (.int x12), .unset] [(.int (1 : Int32))])) (fun t k => ?_) ?_
        · show Steps p.tables e below (T3.setTop (mkF m 200 #[.val (.int x0), .val (.int x1), .val (.int x2), .val (.int x3), .val (.ref n0_0), .val (.int x5), .val (.int x6), .val (.int x7), .val (.int x8), .val (.ref n2_0), .val (.int x10), .val (.int x11), .val (.int x12), .unset] [])) t
          refine XS.iconst X3.here hx rfl (hb hby at_200) ?_
          show Steps p.tables e below (T3.setTop (mkF m 201 #[.val (.int x0), .val (.int x1), .val (.int x2), .val (.int x3), .val (.ref n0_0), .val (.int x5), .val (.int x6), .val (.int x7), .val (.int x8), .val (.ref n2_0), .val (.int x10), .val (.int x11), .val (.int x12), .unset] [(.int (1 : Int32))])) t
          refine XS.goto X3.here hx rfl (pc0 := 201) (pc' := 205) rfl (hb hby at_201) (by decide) (by decide) ?_
          exact k
        exact b0_205w1 C X3 e3 N3 (by show (cells + 0) ≤ 3; omega) (by show (slots + 0) ≤ 22; omega) zz3 n0_0 n1_0 n2_0 (by omega) (by omega) (by omega) r3.2.1 r3.2.2 q_n1_0 q_n2_0 x0 x1 x2 x3 x5 x6 x7 x8 x10 x11 x12 (1 : Int32) E_n0_0_3 F_n0_0_free_3 F_n0_0_freeCount_3 F_n0_0_next_3 A_n1_0_3 A_n2_0_3 hr
      · refine Runs.via (T' := T3) (g' := (mkF m 204 #[.val (.int x0), .val (.int x1), .val (.int x2), .val (.int x3), .val (.ref n0_0), .val (.int x5), .val (.int x6), .val (.int x7), .val (.int x8), .val (.ref n2_0), .val (.int x10), .val (.int x11), .val (.int x12), .unset] [])) (fun t k => ?_) ?_
        · show Steps p.tables e below (T3.setTop (mkF m 197 #[.val (.int x0), .val (.int x1), .val (.int x2), .val (.int x3), .val (.ref n0_0), .val (.int x5), .val (.int x6), .val (.int x7), .val (.int x8), .val (.ref n2_0), .val (.int x10), .val (.int x11), .val (.int x12), .unset] [(.int x12), (.int r3.1)])) t
          exact XS.icmpYes X3.here hx rfl (pc0 := 197) (pc' := 204) rfl (hb hby at_197) rfl (feq hc4).2 (by decide) (by decide) k
        exact b0_204w1 C X3 e3 N3 (by show (cells + 0) ≤ 3; omega) (by show (slots + 0) ≤ 22; omega) zz3 n0_0 n1_0 n2_0 (by omega) (by omega) (by omega) r3.2.1 r3.2.2 q_n1_0 q_n2_0 x0 x1 x2 x3 x5 x6 x7 x8 x10 x11 x12 E_n0_0_3 F_n0_0_free_3 F_n0_0_freeCount_3 F_n0_0_next_3 A_n1_0_3 A_n2_0_3 hr
def g0_165 (x2 : Int32) (x8 : Int32) (x10 : Int32) (x11 : Int32) (x12 : Int32) (q_n0_0_freeCount : Int32) (q_n0_0_next : Int32) (q_n1_0 : List Int32) (q_n2_0 : List Int32) : Option (Int32) := (if x2 < (3 : Int32) then (g0_180 x2 x8 x10 x11 x12 q_n0_0_freeCount q_n0_0_next q_n1_0 q_n2_0) else ((rdO q_n2_0 x12).bind fun v2 => ((f4 v2 q_n0_0_freeCount q_n0_0_next q_n1_0).bind fun r3 => (g0_180 x2 x8 x10 x11 x12 r3.1 q_n0_0_next r3.2 q_n2_0))))
set_option maxRecDepth 65536 in
set_option maxHeartbeats 4000000 in
theorem b0_165 {r : Int32} (C : Ctx p s m meth c Z a0 "com/example/postloop/postloop/IdPoolTakePinLaw" code 14 (some .boolean) "law") (X0 : Stand p l e room_1 s m args below meth c T0 locs cells slots) (e0 : T0.heap = h0) (N0 : Fr n0 locs) (hk : cells ≤ 3) (hn : slots ≤ 22) (Z1 : n0 ≤ h0.size) (n0_0 : Addr) (n1_0 : Addr) (n2_0 : Addr) (o0 : n0 ≤ n0_0) (o1 : @LT.lt Nat instLTNat n0_0 n1_0) (o2 : @LT.lt Nat instLTNat n1_0 n2_0) (q_n0_0_freeCount : Int32) (q_n0_0_next : Int32) (q_n1_0 : List Int32) (q_n2_0 : List Int32) (x0 : Int32) (x1 : Int32) (x2 : Int32) (x3 : Int32) (x5 : Int32) (x6 : Int32) (x7 : Int32) (x8 : Int32) (x10 : Int32) (x11 : Int32) (x12 : Int32) (x13 : Int32) (E_n0_0_0 : Exa Z h0 n0_0 "com/example/postloop/postloop/IdPool") (F_n0_0_free_0 : Fld Z h0 n0_0 "com/example/postloop/postloop/IdPool" "free" "[I" (.ref n1_0)) (F_n0_0_freeCount_0 : Fld Z h0 n0_0 "com/example/postloop/postloop/IdPool" "freeCount" "I" (.int q_n0_0_freeCount)) (F_n0_0_next_0 : Fld Z h0 n0_0 "com/example/postloop/postloop/IdPool" "next" "I" (.int q_n0_0_next)) (A_n1_0_0 : AI Z h0 n1_0 .int q_n1_0) (A_n2_0_0 : AI Z h0 n2_0 .int q_n2_0) (hr : g0_165 x2 x8 x10 x11 x12 q_n0_0_freeCount q_n0_0_next q_n1_0 q_n2_0 = some r) :
    Runs p e below s (P0 n0 r) 3 22 T0 (mkF m 165 #[.val (.int x0), .val (.int x1), .val (.int x2), .val (.int x3), .val (.ref n0_0), .val (.int x5), .val (.int x6), .val (.int x7), .val (.int x8), .val (.ref n2_0), .val (.int x10), .val (.int x11), .val (.int x12), .val (.int x13)] []) := by
  unfold g0_165 at hr
  have ⟨hx, hZ, hw, hby, hml, hown, hret, hlk, hnm⟩ := C
  refine Runs.via (T' := T0) (g' := (mkF m 167 #[.val (.int x0), .val (.int x1), .val (.int x2), .val (.int x3), .val (.ref n0_0), .val (.int x5), .val (.int x6), .val (.int x7), .val (.int x8), .val (.ref n2_0), .val (.int x10), .val (.int x11), .val (.int x12), .val (.int x13)] [(.int (3 : Int32)), (.int x2)])) (fun t k => ?_) ?_
  · show Steps p.tables e below (T0.setTop (mkF m 165 #[.val (.int x0), .val (.int x1), .val (.int x2), .val (.int x3), .val (.ref n0_0), .val (.int x5), .val (.int x6), .val (.int x7), .val (.int x8), .val (.ref n2_0), .val (.int x10), .val (.int x11), .val (.int x12), .val (.int x13)] [])) t
    refine XS.iloadN X0.here hx rfl (hb hby at_165) rfl ?_
    show Steps p.tables e below (T0.setTop (mkF m 166 #[.val (.int x0), .val (.int x1), .val (.int x2), .val (.int x3), .val (.ref n0_0), .val (.int x5), .val (.int x6), .val (.int x7), .val (.int x8), .val (.ref n2_0), .val (.int x10), .val (.int x11), .val (.int x12), .val (.int x13)] [(.int x2)])) t
    refine XS.iconst X0.here hx rfl (hb hby at_166) ?_
    exact k
  refine iteE hr (fun hc1 hr => ?_) (fun hc1 hr => ?_)
  · refine Runs.via (T' := T0) (g' := (mkF m 180 #[.val (.int x0), .val (.int x1), .val (.int x2), .val (.int x3), .val (.ref n0_0), .val (.int x5), .val (.int x6), .val (.int x7), .val (.int x8), .val (.ref n2_0), .val (.int x10), .val (.int x11), .val (.int x12), .val (.int x13)] [])) (fun t k => ?_) ?_
    · show Steps p.tables e below (T0.setTop (mkF m 167 #[.val (.int x0), .val (.int x1), .val (.int x2), .val (.int x3), .val (.ref n0_0), .val (.int x5), .val (.int x6), .val (.int x7), .val (.int x8), .val (.ref n2_0), .val (.int x10), .val (.int x11), .val (.int x12), .val (.int x13)] [(.int (3 : Int32)), (.int x2)])) t
      exact XS.icmpYes X0.here hx rfl (pc0 := 167) (pc' := 180) rfl (hb hby at_167) rfl (tlt hc1).1 (by decide) (by decide) k
    exact b0_180 C X0 e0 N0 (by show cells ≤ 3; omega) (by show slots ≤ 22; omega) Z1 n0_0 n1_0 n2_0 (by omega) (by omega) (by omega) q_n0_0_freeCount q_n0_0_next q_n1_0 q_n2_0 x0 x1 x2 x3 x5 x6 x7 x8 x10 x11 x12 x13 E_n0_0_0 F_n0_0_free_0 F_n0_0_freeCount_0 F_n0_0_next_0 A_n1_0_0 A_n2_0_0 hr
  · refine Runs.via (T' := T0) (g' := (mkF m 170 #[.val (.int x0), .val (.int x1), .val (.int x2), .val (.int x3), .val (.ref n0_0), .val (.int x5), .val (.int x6), .val (.int x7), .val (.int x8), .val (.ref n2_0), .val (.int x10), .val (.int x11), .val (.int x12), .val (.int x13)] [])) (fun t k => ?_) ?_
    · show Steps p.tables e below (T0.setTop (mkF m 167 #[.val (.int x0), .val (.int x1), .val (.int x2), .val (.int x3), .val (.ref n0_0), .val (.int x5), .val (.int x6), .val (.int x7), .val (.int x8), .val (.ref n2_0), .val (.int x10), .val (.int x11), .val (.int x12), .val (.int x13)] [(.int (3 : Int32)), (.int x2)])) t
      exact XS.icmpNo X0.here hx rfl (hb hby at_167) rfl (flt hc1).1 k
    refine Runs.via (T' := T0) (g' := (mkF m 176 #[.val (.int x0), .val (.int x1), .val (.int x2), .val (.int x3), .val (.ref n0_0), .val (.int x5), .val (.int x6), .val (.int x7), .val (.int x8), .val (.ref n2_0), .val (.int x10), .val (.int x11), .val (.int x12), .val (.int x13)] [(.int x12), (.ref n2_0), (.ref n0_0)])) (fun t k => ?_) ?_
    · show Steps p.tables e below (T0.setTop (mkF m 170 #[.val (.int x0), .val (.int x1), .val (.int x2), .val (.int x3), .val (.ref n0_0), .val (.int x5), .val (.int x6), .val (.int x7), .val (.int x8), .val (.ref n2_0), .val (.int x10), .val (.int x11), .val (.int x12), .val (.int x13)] [])) t
      refine XS.aload X0.here hx rfl (hb hby at_170) rfl rfl ?_
      show Steps p.tables e below (T0.setTop (mkF m 172 #[.val (.int x0), .val (.int x1), .val (.int x2), .val (.int x3), .val (.ref n0_0), .val (.int x5), .val (.int x6), .val (.int x7), .val (.int x8), .val (.ref n2_0), .val (.int x10), .val (.int x11), .val (.int x12), .val (.int x13)] [(.ref n0_0)])) t
      refine XS.aload X0.here hx rfl (hb hby at_172) rfl rfl ?_
      show Steps p.tables e below (T0.setTop (mkF m 174 #[.val (.int x0), .val (.int x1), .val (.int x2), .val (.int x3), .val (.ref n0_0), .val (.int x5), .val (.int x6), .val (.int x7), .val (.int x8), .val (.ref n2_0), .val (.int x10), .val (.int x11), .val (.int x12), .val (.int x13)] [(.ref n2_0), (.ref n0_0)])) t
      refine XS.iload X0.here hx rfl (hb hby at_174) rfl ?_
      exact k
    refine bindE hr ?_; intro v2 hv2 hr
    refine Runs.via (T' := T0) (g' := (mkF m 177 #[.val (.int x0), .val (.int x1), .val (.int x2), .val (.int x3), .val (.ref n0_0), .val (.int x5), .val (.int x6), .val (.int x7), .val (.int x8), .val (.ref n2_0), .val (.int x10), .val (.int x11), .val (.int x12), .val (.int x13)] [(.int v2), (.ref n0_0)])) (fun t k => ldI X0 hx hZ e0 A_n2_0_0 hv2 (g := (mkF m 176 #[.val (.int x0), .val (.int x1), .val (.int x2), .val (.int x3), .val (.ref n0_0), .val (.int x5), .val (.int x6), .val (.int x7), .val (.int x8), .val (.ref n2_0), .val (.int x10), .val (.int x11), .val (.int x12), .val (.int x13)] [(.int x12), (.ref n2_0), (.ref n0_0)])) rfl rfl (hb hby at_176) _ k) ?_
    refine bindE hr ?_; intro r3 hr3m hr
    obtain ⟨cq3, kq3, q3a, q3b, q3c⟩ := isOf hZ e0 E_n0_0_0
    obtain ⟨_, _, ⟨T3, L3, k3, n3⟩, -, X3, ⟨Lc3, hQ3, l3, y3, z3⟩, st3⟩ := X0.virtualBack hx (y := (⟨"com/example/postloop/postloop/IdPool", "give", "(I)V"⟩ : MethodName)) (z := (⟨"com/example/postloop/postloop/IdPool", "give", "(I)V"⟩ : MethodName)) hown (mvT hZ (hw _ (List.mem_of_getElem? (i := 22) rfl))) (mvT hZ (hw _ (List.mem_of_getElem? (i := 23) rfl))) (notFace_of_selects (args := #[]) (mvT hZ (hw _ (List.mem_of_getElem? (i := 25) rfl)))) (mvT hZ (hw _ (List.mem_of_getElem? (i := 25) rfl))) (mvT hZ (hw _ (List.mem_of_getElem? (i := 24) rfl))) (by decide) (backOf (W := 0) (rm4 l Z a0 hw [] v2 n0_0 n1_0 q_n0_0_freeCount q_n0_0_next q_n1_0 h0 n0 Z1 (by omega) (by omega) E_n0_0_0 F_n0_0_free_0 F_n0_0_freeCount_0 F_n0_0_next_0 A_n1_0_0 r3 hr3m) hZ (hw _ (List.mem_of_getElem? (i := 26) rfl)) (hw _ (List.mem_of_getElem? (i := 3) rfl)) (by decide) (by decide)) q3a q3c (g := (mkF m 177 #[.val (.int x0), .val (.int x1), .val (.int x2), .val (.int x3), .val (.ref n0_0), .val (.int x5), .val (.int x6), .val (.int x7), .val (.int x8), .val (.ref n2_0), .val (.int x10), .val (.int x11), .val (.int x12), .val (.int x13)] [(.int v2), (.ref n0_0)])) rfl (by rw [hml]; rfl) (Steps.refl _) (argsL := [(.int v2)]) (rest := []) (lenOf pd_2 rfl) rfl (by show 2 * 0 + _ ≤ _; exact Nat.le_of_eq rfl) (hb hby at_177) (fun _ _ => ⟨rfl, e0, (by show cells + 0 ≤ 16; omega), (by show slots + 0 ≤ 128; omega)⟩)
    dsimp only [Pt.U, Pt.locs, Pt.cells, Pt.slots] at X3 l3 y3 z3 st3 hQ3
    replace y3 := y3.symm; replace z3 := z3.symm; subst l3 y3 z3
    obtain ⟨h3, e3⟩ : ∃ z, T3.heap = z := ⟨_, rfl⟩
    rw [e3] at hQ3
    obtain ⟨rfl, N3q, K3q, E_n0_0_3, F_n0_0_free_3, F_n0_0_freeCount_3, F_n0_0_next_3, A_n1_0_3⟩ := hQ3
    have N3 := Fr.app N0 N3q
    have A_n2_0_3 := A_n2_0_0.keep K3q (ninS (by omega : @Ne Nat n2_0 n0_0) (ninS (by omega : @Ne Nat n2_0 n1_0) nin0))
    have zz3 : n0 ≤ h3.size := Nat.le_trans Z1 K3q.1
    refine Runs.via (T' := T3) (g' := (mkF m 180 #[.val (.int x0), .val (.int x1), .val (.int x2), .val (.int x3), .val (.ref n0_0), .val (.int x5), .val (.int x6), .val (.int x7), .val (.int x8), .val (.ref n2_0), .val (.int x10), .val (.int x11), .val (.int x12), .val (.int x13)] [])) (fun t k => st3.trans k) ?_
    exact b0_180 C X3 e3 N3 (by show (cells + 0) ≤ 3; omega) (by show (slots + 0) ≤ 22; omega) zz3 n0_0 n1_0 n2_0 (by omega) (by omega) (by omega) r3.1 q_n0_0_next r3.2 q_n2_0 x0 x1 x2 x3 x5 x6 x7 x8 x10 x11 x12 x13 E_n0_0_3 F_n0_0_free_3 F_n0_0_freeCount_3 F_n0_0_next_3 A_n1_0_3 A_n2_0_3 hr
set_option maxRecDepth 65536 in
set_option maxHeartbeats 4000000 in
theorem b0_165w1 {r : Int32} (C : Ctx p s m meth c Z a0 "com/example/postloop/postloop/IdPoolTakePinLaw" code 14 (some .boolean) "law") (X0 : Stand p l e room_1 s m args below meth c T0 locs cells slots) (e0 : T0.heap = h0) (N0 : Fr n0 locs) (hk : cells ≤ 3) (hn : slots ≤ 22) (Z1 : n0 ≤ h0.size) (n0_0 : Addr) (n1_0 : Addr) (n2_0 : Addr) (o0 : n0 ≤ n0_0) (o1 : @LT.lt Nat instLTNat n0_0 n1_0) (o2 : @LT.lt Nat instLTNat n1_0 n2_0) (q_n0_0_freeCount : Int32) (q_n0_0_next : Int32) (q_n1_0 : List Int32) (q_n2_0 : List Int32) (x0 : Int32) (x1 : Int32) (x2 : Int32) (x3 : Int32) (x5 : Int32) (x6 : Int32) (x7 : Int32) (x8 : Int32) (x10 : Int32) (x11 : Int32) (x12 : Int32) (E_n0_0_0 : Exa Z h0 n0_0 "com/example/postloop/postloop/IdPool") (F_n0_0_free_0 : Fld Z h0 n0_0 "com/example/postloop/postloop/IdPool" "free" "[I" (.ref n1_0)) (F_n0_0_freeCount_0 : Fld Z h0 n0_0 "com/example/postloop/postloop/IdPool" "freeCount" "I" (.int q_n0_0_freeCount)) (F_n0_0_next_0 : Fld Z h0 n0_0 "com/example/postloop/postloop/IdPool" "next" "I" (.int q_n0_0_next)) (A_n1_0_0 : AI Z h0 n1_0 .int q_n1_0) (A_n2_0_0 : AI Z h0 n2_0 .int q_n2_0) (hr : g0_165 x2 x8 x10 x11 x12 q_n0_0_freeCount q_n0_0_next q_n1_0 q_n2_0 = some r) :
    Runs p e below s (P0 n0 r) 3 22 T0 (mkF m 165 #[.val (.int x0), .val (.int x1), .val (.int x2), .val (.int x3), .val (.ref n0_0), .val (.int x5), .val (.int x6), .val (.int x7), .val (.int x8), .val (.ref n2_0), .val (.int x10), .val (.int x11), .val (.int x12), .unset] []) := by
  unfold g0_165 at hr
  have ⟨hx, hZ, hw, hby, hml, hown, hret, hlk, hnm⟩ := C
  refine Runs.via (T' := T0) (g' := (mkF m 167 #[.val (.int x0), .val (.int x1), .val (.int x2), .val (.int x3), .val (.ref n0_0), .val (.int x5), .val (.int x6), .val (.int x7), .val (.int x8), .val (.ref n2_0), .val (.int x10), .val (.int x11), .val (.int x12), .unset] [(.int (3 : Int32)), (.int x2)])) (fun t k => ?_) ?_
  · show Steps p.tables e below (T0.setTop (mkF m 165 #[.val (.int x0), .val (.int x1), .val (.int x2), .val (.int x3), .val (.ref n0_0), .val (.int x5), .val (.int x6), .val (.int x7), .val (.int x8), .val (.ref n2_0), .val (.int x10), .val (.int x11), .val (.int x12), .unset] [])) t
    refine XS.iloadN X0.here hx rfl (hb hby at_165) rfl ?_
    show Steps p.tables e below (T0.setTop (mkF m 166 #[.val (.int x0), .val (.int x1), .val (.int x2), .val (.int x3), .val (.ref n0_0), .val (.int x5), .val (.int x6), .val (.int x7), .val (.int x8), .val (.ref n2_0), .val (.int x10), .val (.int x11), .val (.int x12), .unset] [(.int x2)])) t
    refine XS.iconst X0.here hx rfl (hb hby at_166) ?_
    exact k
  refine iteE hr (fun hc1 hr => ?_) (fun hc1 hr => ?_)
  · refine Runs.via (T' := T0) (g' := (mkF m 180 #[.val (.int x0), .val (.int x1), .val (.int x2), .val (.int x3), .val (.ref n0_0), .val (.int x5), .val (.int x6), .val (.int x7), .val (.int x8), .val (.ref n2_0), .val (.int x10), .val (.int x11), .val (.int x12), .unset] [])) (fun t k => ?_) ?_
    · show Steps p.tables e below (T0.setTop (mkF m 167 #[.val (.int x0), .val (.int x1), .val (.int x2), .val (.int x3), .val (.ref n0_0), .val (.int x5), .val (.int x6), .val (.int x7), .val (.int x8), .val (.ref n2_0), .val (.int x10), .val (.int x11), .val (.int x12), .unset] [(.int (3 : Int32)), (.int x2)])) t
      exact XS.icmpYes X0.here hx rfl (pc0 := 167) (pc' := 180) rfl (hb hby at_167) rfl (tlt hc1).1 (by decide) (by decide) k
    exact b0_180w1 C X0 e0 N0 (by show cells ≤ 3; omega) (by show slots ≤ 22; omega) Z1 n0_0 n1_0 n2_0 (by omega) (by omega) (by omega) q_n0_0_freeCount q_n0_0_next q_n1_0 q_n2_0 x0 x1 x2 x3 x5 x6 x7 x8 x10 x11 x12 E_n0_0_0 F_n0_0_free_0 F_n0_0_freeCount_0 F_n0_0_next_0 A_n1_0_0 A_n2_0_0 hr
  · refine Runs.via (T' := T0) (g' := (mkF m 170 #[.val (.int x0), .val (.int x1), .val (.int x2), .val (.int x3), .val (.ref n0_0), .val (.int x5), .val (.int x6), .val (.int x7), .val (.int x8), .val (.ref n2_0), .val (.int x10), .val (.int x11), .val (.int x12), .unset] [])) (fun t k => ?_) ?_
    · show Steps p.tables e below (T0.setTop (mkF m 167 #[.val (.int x0), .val (.int x1), .val (.int x2), .val (.int x3), .val (.ref n0_0), .val (.int x5), .val (.int x6), .val (.int x7), .val (.int x8), .val (.ref n2_0), .val (.int x10), .val (.int x11), .val (.int x12), .unset] [(.int (3 : Int32)), (.int x2)])) t
      exact XS.icmpNo X0.here hx rfl (hb hby at_167) rfl (flt hc1).1 k
    refine Runs.via (T' := T0) (g' := (mkF m 176 #[.val (.int x0), .val (.int x1), .val (.int x2), .val (.int x3), .val (.ref n0_0), .val (.int x5), .val (.int x6), .val (.int x7), .val (.int x8), .val (.ref n2_0), .val (.int x10), .val (.int x11), .val (.int x12), .unset] [(.int x12), (.ref n2_0), (.ref n0_0)])) (fun t k => ?_) ?_
    · show Steps p.tables e below (T0.setTop (mkF m 170 #[.val (.int x0), .val (.int x1), .val (.int x2), .val (.int x3), .val (.ref n0_0), .val (.int x5), .val (.int x6), .val (.int x7), .val (.int x8), .val (.ref n2_0), .val (.int x10), .val (.int x11), .val (.int x12), .unset] [])) t
      refine XS.aload X0.here hx rfl (hb hby at_170) rfl rfl ?_
      show Steps p.tables e below (T0.setTop (mkF m 172 #[.val (.int x0), .val (.int x1), .val (.int x2), .val (.int x3), .val (.ref n0_0), .val (.int x5), .val (.int x6), .val (.int x7), .val (.int x8), .val (.ref n2_0), .val (.int x10), .val (.int x11), .val (.int x12), .unset] [(.ref n0_0)])) t
      refine XS.aload X0.here hx rfl (hb hby at_172) rfl rfl ?_
      show Steps p.tables e below (T0.setTop (mkF m 174 #[.val (.int x0), .val (.int x1), .val (.int x2), .val (.int x3), .val (.ref n0_0), .val (.int x5), .val (.int x6), .val (.int x7), .val (.int x8), .val (.ref n2_0), .val (.int x10), .val (.int x11), .val (.int x12), .unset] [(.ref n2_0), (.ref n0_0)])) t
      refine XS.iload X0.here hx rfl (hb hby at_174) rfl ?_
      exact k
    refine bindE hr ?_; intro v2 hv2 hr
    refine Runs.via (T' := T0) (g' := (mkF m 177 #[.val (.int x0), .val (.int x1), .val (.int x2), .val (.int x3), .val (.ref n0_0), .val (.int x5), .val (.int x6), .val (.int x7), .val (.int x8), .val (.ref n2_0), .val (.int x10), .val (.int x11), .val (.int x12), .unset] [(.int v2), (.ref n0_0)])) (fun t k => ldI X0 hx hZ e0 A_n2_0_0 hv2 (g := (mkF m 176 #[.val (.int x0), .val (.int x1), .val (.int x2), .val (.int x3), .val (.ref n0_0), .val (.int x5), .val (.int x6), .val (.int x7), .val (.int x8), .val (.ref n2_0), .val (.int x10), .val (.int x11), .val (.int x12), .unset] [(.int x12), (.ref n2_0), (.ref n0_0)])) rfl rfl (hb hby at_176) _ k) ?_
    refine bindE hr ?_; intro r3 hr3m hr
    obtain ⟨cq3, kq3, q3a, q3b, q3c⟩ := isOf hZ e0 E_n0_0_0
    obtain ⟨_, _, ⟨T3, L3, k3, n3⟩, -, X3, ⟨Lc3, hQ3, l3, y3, z3⟩, st3⟩ := X0.virtualBack hx (y := (⟨"com/example/postloop/postloop/IdPool", "give", "(I)V"⟩ : MethodName)) (z := (⟨"com/example/postloop/postloop/IdPool", "give", "(I)V"⟩ : MethodName)) hown (mvT hZ (hw _ (List.mem_of_getElem? (i := 22) rfl))) (mvT hZ (hw _ (List.mem_of_getElem? (i := 23) rfl))) (notFace_of_selects (args := #[]) (mvT hZ (hw _ (List.mem_of_getElem? (i := 25) rfl)))) (mvT hZ (hw _ (List.mem_of_getElem? (i := 25) rfl))) (mvT hZ (hw _ (List.mem_of_getElem? (i := 24) rfl))) (by decide) (backOf (W := 0) (rm4 l Z a0 hw [] v2 n0_0 n1_0 q_n0_0_freeCount q_n0_0_next q_n1_0 h0 n0 Z1 (by omega) (by omega) E_n0_0_0 F_n0_0_free_0 F_n0_0_freeCount_0 F_n0_0_next_0 A_n1_0_0 r3 hr3m) hZ (hw _ (List.mem_of_getElem? (i := 26) rfl)) (hw _ (List.mem_of_getElem? (i := 3) rfl)) (by decide) (by decide)) q3a q3c (g := (mkF m 177 #[.val (.int x0), .val (.int x1), .val (.int x2), .val (.int x3), .val (.ref n0_0), .val (.int x5), .val (.int x6), .val (.int x7), .val (.int x8), .val (.ref n2_0), .val (.int x10), .val (.int x11), .val (.int x12), .unset] [(.int v2), (.ref n0_0)])) rfl (by rw [hml]; rfl) (Steps.refl _) (argsL := [(.int v2)]) (rest := []) (lenOf pd_2 rfl) rfl (by show 2 * 0 + _ ≤ _; exact Nat.le_of_eq rfl) (hb hby at_177) (fun _ _ => ⟨rfl, e0, (by show cells + 0 ≤ 16; omega), (by show slots + 0 ≤ 128; omega)⟩)
    dsimp only [Pt.U, Pt.locs, Pt.cells, Pt.slots] at X3 l3 y3 z3 st3 hQ3
    replace y3 := y3.symm; replace z3 := z3.symm; subst l3 y3 z3
    obtain ⟨h3, e3⟩ : ∃ z, T3.heap = z := ⟨_, rfl⟩
    rw [e3] at hQ3
    obtain ⟨rfl, N3q, K3q, E_n0_0_3, F_n0_0_free_3, F_n0_0_freeCount_3, F_n0_0_next_3, A_n1_0_3⟩ := hQ3
    have N3 := Fr.app N0 N3q
    have A_n2_0_3 := A_n2_0_0.keep K3q (ninS (by omega : @Ne Nat n2_0 n0_0) (ninS (by omega : @Ne Nat n2_0 n1_0) nin0))
    have zz3 : n0 ≤ h3.size := Nat.le_trans Z1 K3q.1
    refine Runs.via (T' := T3) (g' := (mkF m 180 #[.val (.int x0), .val (.int x1), .val (.int x2), .val (.int x3), .val (.ref n0_0), .val (.int x5), .val (.int x6), .val (.int x7), .val (.int x8), .val (.ref n2_0), .val (.int x10), .val (.int x11), .val (.int x12), .unset] [])) (fun t k => st3.trans k) ?_
    exact b0_180w1 C X3 e3 N3 (by show (cells + 0) ≤ 3; omega) (by show (slots + 0) ≤ 22; omega) zz3 n0_0 n1_0 n2_0 (by omega) (by omega) (by omega) r3.1 q_n0_0_next r3.2 q_n2_0 x0 x1 x2 x3 x5 x6 x7 x8 x10 x11 x12 E_n0_0_3 F_n0_0_free_3 F_n0_0_freeCount_3 F_n0_0_next_3 A_n1_0_3 A_n2_0_3 hr
def g0_150 (x2 : Int32) (x8 : Int32) (x10 : Int32) (x11 : Int32) (x12 : Int32) (q_n0_0_freeCount : Int32) (q_n0_0_next : Int32) (q_n1_0 : List Int32) (q_n2_0 : List Int32) : Option (Int32) := (if x2 < (2 : Int32) then (g0_165 x2 x8 x10 x11 x12 q_n0_0_freeCount q_n0_0_next q_n1_0 q_n2_0) else ((rdO q_n2_0 x11).bind fun v2 => ((f4 v2 q_n0_0_freeCount q_n0_0_next q_n1_0).bind fun r3 => (g0_165 x2 x8 x10 x11 x12 r3.1 q_n0_0_next r3.2 q_n2_0))))
set_option maxRecDepth 65536 in
set_option maxHeartbeats 4000000 in
theorem b0_150 {r : Int32} (C : Ctx p s m meth c Z a0 "com/example/postloop/postloop/IdPoolTakePinLaw" code 14 (some .boolean) "law") (X0 : Stand p l e room_1 s m args below meth c T0 locs cells slots) (e0 : T0.heap = h0) (N0 : Fr n0 locs) (hk : cells ≤ 3) (hn : slots ≤ 22) (Z1 : n0 ≤ h0.size) (n0_0 : Addr) (n1_0 : Addr) (n2_0 : Addr) (o0 : n0 ≤ n0_0) (o1 : @LT.lt Nat instLTNat n0_0 n1_0) (o2 : @LT.lt Nat instLTNat n1_0 n2_0) (q_n0_0_freeCount : Int32) (q_n0_0_next : Int32) (q_n1_0 : List Int32) (q_n2_0 : List Int32) (x0 : Int32) (x1 : Int32) (x2 : Int32) (x3 : Int32) (x5 : Int32) (x6 : Int32) (x7 : Int32) (x8 : Int32) (x10 : Int32) (x11 : Int32) (x12 : Int32) (x13 : Int32) (E_n0_0_0 : Exa Z h0 n0_0 "com/example/postloop/postloop/IdPool") (F_n0_0_free_0 : Fld Z h0 n0_0 "com/example/postloop/postloop/IdPool" "free" "[I" (.ref n1_0)) (F_n0_0_freeCount_0 : Fld Z h0 n0_0 "com/example/postloop/postloop/IdPool" "freeCount" "I" (.int q_n0_0_freeCount)) (F_n0_0_next_0 : Fld Z h0 n0_0 "com/example/postloop/postloop/IdPool" "next" "I" (.int q_n0_0_next)) (A_n1_0_0 : AI Z h0 n1_0 .int q_n1_0) (A_n2_0_0 : AI Z h0 n2_0 .int q_n2_0) (hr : g0_150 x2 x8 x10 x11 x12 q_n0_0_freeCount q_n0_0_next q_n1_0 q_n2_0 = some r) :
    Runs p e below s (P0 n0 r) 3 22 T0 (mkF m 150 #[.val (.int x0), .val (.int x1), .val (.int x2), .val (.int x3), .val (.ref n0_0), .val (.int x5), .val (.int x6), .val (.int x7), .val (.int x8), .val (.ref n2_0), .val (.int x10), .val (.int x11), .val (.int x12), .val (.int x13)] []) := by
  unfold g0_150 at hr
  have ⟨hx, hZ, hw, hby, hml, hown, hret, hlk, hnm⟩ := C
  refine Runs.via (T' := T0) (g' := (mkF m 152 #[.val (.int x0), .val (.int x1), .val (.int x2), .val (.int x3), .val (.ref n0_0), .val (.int x5), .val (.int x6), .val (.int x7), .val (.int x8), .val (.ref n2_0), .val (.int x10), .val (.int x11), .val (.int x12), .val (.int x13)] [(.int (2 : Int32)), (.int x2)])) (fun t k => ?_) ?_
  · show Steps p.tables e below (T0.setTop (mkF m 150 #[.val (.int x0), .val (.int x1), .val (.int x2), .val (.int x3), .val (.ref n0_0), .val (.int x5), .val (.int x6), .val (.int x7), .val (.int x8), .val (.ref n2_0), .val (.int x10), .val (.int x11), .val (.int x12), .val (.int x13)] [])) t
    refine XS.iloadN X0.here hx rfl (hb hby at_150) rfl ?_
    show Steps p.tables e below (T0.setTop (mkF m 151 #[.val (.int x0), .val (.int x1), .val (.int x2), .val (.int x3), .val (.ref n0_0), .val (.int x5), .val (.int x6), .val (.int x7), .val (.int x8), .val (.ref n2_0), .val (.int x10), .val (.int x11), .val (.int x12), .val (.int x13)] [(.int x2)])) t
    refine XS.iconst X0.here hx rfl (hb hby at_151) ?_
    exact k
  refine iteE hr (fun hc1 hr => ?_) (fun hc1 hr => ?_)
  · refine Runs.via (T' := T0) (g' := (mkF m 165 #[.val (.int x0), .val (.int x1), .val (.int x2), .val (.int x3), .val (.ref n0_0), .val (.int x5), .val (.int x6), .val (.int x7), .val (.int x8), .val (.ref n2_0), .val (.int x10), .val (.int x11), .val (.int x12), .val (.int x13)] [])) (fun t k => ?_) ?_
    · show Steps p.tables e below (T0.setTop (mkF m 152 #[.val (.int x0), .val (.int x1), .val (.int x2), .val (.int x3), .val (.ref n0_0), .val (.int x5), .val (.int x6), .val (.int x7), .val (.int x8), .val (.ref n2_0), .val (.int x10), .val (.int x11), .val (.int x12), .val (.int x13)] [(.int (2 : Int32)), (.int x2)])) t
      exact XS.icmpYes X0.here hx rfl (pc0 := 152) (pc' := 165) rfl (hb hby at_152) rfl (tlt hc1).1 (by decide) (by decide) k
    exact b0_165 C X0 e0 N0 (by show cells ≤ 3; omega) (by show slots ≤ 22; omega) Z1 n0_0 n1_0 n2_0 (by omega) (by omega) (by omega) q_n0_0_freeCount q_n0_0_next q_n1_0 q_n2_0 x0 x1 x2 x3 x5 x6 x7 x8 x10 x11 x12 x13 E_n0_0_0 F_n0_0_free_0 F_n0_0_freeCount_0 F_n0_0_next_0 A_n1_0_0 A_n2_0_0 hr
  · refine Runs.via (T' := T0) (g' := (mkF m 155 #[.val (.int x0), .val (.int x1), .val (.int x2), .val (.int x3), .val (.ref n0_0), .val (.int x5), .val (.int x6), .val (.int x7), .val (.int x8), .val (.ref n2_0), .val (.int x10), .val (.int x11), .val (.int x12), .val (.int x13)] [])) (fun t k => ?_) ?_
    · show Steps p.tables e below (T0.setTop (mkF m 152 #[.val (.int x0), .val (.int x1), .val (.int x2), .val (.int x3), .val (.ref n0_0), .val (.int x5), .val (.int x6), .val (.int x7), .val (.int x8), .val (.ref n2_0), .val (.int x10), .val (.int x11), .val (.int x12), .val (.int x13)] [(.int (2 : Int32)), (.int x2)])) t
      exact XS.icmpNo X0.here hx rfl (hb hby at_152) rfl (flt hc1).1 k
    refine Runs.via (T' := T0) (g' := (mkF m 161 #[.val (.int x0), .val (.int x1), .val (.int x2), .val (.int x3), .val (.ref n0_0), .val (.int x5), .val (.int x6), .val (.int x7), .val (.int x8), .val (.ref n2_0), .val (.int x10), .val (.int x11), .val (.int x12), .val (.int x13)] [(.int x11), (.ref n2_0), (.ref n0_0)])) (fun t k => ?_) ?_
    · show Steps p.tables e below (T0.setTop (mkF m 155 #[.val (.int x0), .val (.int x1), .val (.int x2), .val (.int x3), .val (.ref n0_0), .val (.int x5), .val (.int x6), .val (.int x7), .val (.int x8), .val (.ref n2_0), .val (.int x10), .val (.int x11), .val (.int x12), .val (.int x13)] [])) t
      refine XS.aload X0.here hx rfl (hb hby at_155) rfl rfl ?_
      show Steps p.tables e below (T0.setTop (mkF m 157 #[.val (.int x0), .val (.int x1), .val (.int x2), .val (.int x3), .val (.ref n0_0), .val (.int x5), .val (.int x6), .val (.int x7), .val (.int x8), .val (.ref n2_0), .val (.int x10), .val (.int x11), .val (.int x12), .val (.int x13)] [(.ref n0_0)])) t
      refine XS.aload X0.here hx rfl (hb hby at_157) rfl rfl ?_
      show Steps p.tables e below (T0.setTop (mkF m 159 #[.val (.int x0), .val (.int x1), .val (.int x2), .val (.int x3), .val (.ref n0_0), .val (.int x5), .val (.int x6), .val (.int x7), .val (.int x8), .val (.ref n2_0), .val (.int x10), .val (.int x11), .val (.int x12), .val (.int x13)] [(.ref n2_0), (.ref n0_0)])) t
      refine XS.iload X0.here hx rfl (hb hby at_159) rfl ?_
      exact k
    refine bindE hr ?_; intro v2 hv2 hr
    refine Runs.via (T' := T0) (g' := (mkF m 162 #[.val (.int x0), .val (.int x1), .val (.int x2), .val (.int x3), .val (.ref n0_0), .val (.int x5), .val (.int x6), .val (.int x7), .val (.int x8), .val (.ref n2_0), .val (.int x10), .val (.int x11), .val (.int x12), .val (.int x13)] [(.int v2), (.ref n0_0)])) (fun t k => ldI X0 hx hZ e0 A_n2_0_0 hv2 (g := (mkF m 161 #[.val (.int x0), .val (.int x1), .val (.int x2), .val (.int x3), .val (.ref n0_0), .val (.int x5), .val (.int x6), .val (.int x7), .val (.int x8), .val (.ref n2_0), .val (.int x10), .val (.int x11), .val (.int x12), .val (.int x13)] [(.int x11), (.ref n2_0), (.ref n0_0)])) rfl rfl (hb hby at_161) _ k) ?_
    refine bindE hr ?_; intro r3 hr3m hr
    obtain ⟨cq3, kq3, q3a, q3b, q3c⟩ := isOf hZ e0 E_n0_0_0
    obtain ⟨_, _, ⟨T3, L3, k3, n3⟩, -, X3, ⟨Lc3, hQ3, l3, y3, z3⟩, st3⟩ := X0.virtualBack hx (y := (⟨"com/example/postloop/postloop/IdPool", "give", "(I)V"⟩ : MethodName)) (z := (⟨"com/example/postloop/postloop/IdPool", "give", "(I)V"⟩ : MethodName)) hown (mvT hZ (hw _ (List.mem_of_getElem? (i := 22) rfl))) (mvT hZ (hw _ (List.mem_of_getElem? (i := 23) rfl))) (notFace_of_selects (args := #[]) (mvT hZ (hw _ (List.mem_of_getElem? (i := 25) rfl)))) (mvT hZ (hw _ (List.mem_of_getElem? (i := 25) rfl))) (mvT hZ (hw _ (List.mem_of_getElem? (i := 24) rfl))) (by decide) (backOf (W := 0) (rm4 l Z a0 hw [] v2 n0_0 n1_0 q_n0_0_freeCount q_n0_0_next q_n1_0 h0 n0 Z1 (by omega) (by omega) E_n0_0_0 F_n0_0_free_0 F_n0_0_freeCount_0 F_n0_0_next_0 A_n1_0_0 r3 hr3m) hZ (hw _ (List.mem_of_getElem? (i := 26) rfl)) (hw _ (List.mem_of_getElem? (i := 3) rfl)) (by decide) (by decide)) q3a q3c (g := (mkF m 162 #[.val (.int x0), .val (.int x1), .val (.int x2), .val (.int x3), .val (.ref n0_0), .val (.int x5), .val (.int x6), .val (.int x7), .val (.int x8), .val (.ref n2_0), .val (.int x10), .val (.int x11), .val (.int x12), .val (.int x13)] [(.int v2), (.ref n0_0)])) rfl (by rw [hml]; rfl) (Steps.refl _) (argsL := [(.int v2)]) (rest := []) (lenOf pd_2 rfl) rfl (by show 2 * 0 + _ ≤ _; exact Nat.le_of_eq rfl) (hb hby at_162) (fun _ _ => ⟨rfl, e0, (by show cells + 0 ≤ 16; omega), (by show slots + 0 ≤ 128; omega)⟩)
    dsimp only [Pt.U, Pt.locs, Pt.cells, Pt.slots] at X3 l3 y3 z3 st3 hQ3
    replace y3 := y3.symm; replace z3 := z3.symm; subst l3 y3 z3
    obtain ⟨h3, e3⟩ : ∃ z, T3.heap = z := ⟨_, rfl⟩
    rw [e3] at hQ3
    obtain ⟨rfl, N3q, K3q, E_n0_0_3, F_n0_0_free_3, F_n0_0_freeCount_3, F_n0_0_next_3, A_n1_0_3⟩ := hQ3
    have N3 := Fr.app N0 N3q
    have A_n2_0_3 := A_n2_0_0.keep K3q (ninS (by omega : @Ne Nat n2_0 n0_0) (ninS (by omega : @Ne Nat n2_0 n1_0) nin0))
    have zz3 : n0 ≤ h3.size := Nat.le_trans Z1 K3q.1
    refine Runs.via (T' := T3) (g' := (mkF m 165 #[.val (.int x0), .val (.int x1), .val (.int x2), .val (.int x3), .val (.ref n0_0), .val (.int x5), .val (.int x6), .val (.int x7), .val (.int x8), .val (.ref n2_0), .val (.int x10), .val (.int x11), .val (.int x12), .val (.int x13)] [])) (fun t k => st3.trans k) ?_
    exact b0_165 C X3 e3 N3 (by show (cells + 0) ≤ 3; omega) (by show (slots + 0) ≤ 22; omega) zz3 n0_0 n1_0 n2_0 (by omega) (by omega) (by omega) r3.1 q_n0_0_next r3.2 q_n2_0 x0 x1 x2 x3 x5 x6 x7 x8 x10 x11 x12 x13 E_n0_0_3 F_n0_0_free_3 F_n0_0_freeCount_3 F_n0_0_next_3 A_n1_0_3 A_n2_0_3 hr
set_option maxRecDepth 65536 in
set_option maxHeartbeats 4000000 in
theorem b0_150w1 {r : Int32} (C : Ctx p s m meth c Z a0 "com/example/postloop/postloop/IdPoolTakePinLaw" code 14 (some .boolean) "law") (X0 : Stand p l e room_1 s m args below meth c T0 locs cells slots) (e0 : T0.heap = h0) (N0 : Fr n0 locs) (hk : cells ≤ 3) (hn : slots ≤ 22) (Z1 : n0 ≤ h0.size) (n0_0 : Addr) (n1_0 : Addr) (n2_0 : Addr) (o0 : n0 ≤ n0_0) (o1 : @LT.lt Nat instLTNat n0_0 n1_0) (o2 : @LT.lt Nat instLTNat n1_0 n2_0) (q_n0_0_freeCount : Int32) (q_n0_0_next : Int32) (q_n1_0 : List Int32) (q_n2_0 : List Int32) (x0 : Int32) (x1 : Int32) (x2 : Int32) (x3 : Int32) (x5 : Int32) (x6 : Int32) (x7 : Int32) (x8 : Int32) (x10 : Int32) (x11 : Int32) (x12 : Int32) (E_n0_0_0 : Exa Z h0 n0_0 "com/example/postloop/postloop/IdPool") (F_n0_0_free_0 : Fld Z h0 n0_0 "com/example/postloop/postloop/IdPool" "free" "[I" (.ref n1_0)) (F_n0_0_freeCount_0 : Fld Z h0 n0_0 "com/example/postloop/postloop/IdPool" "freeCount" "I" (.int q_n0_0_freeCount)) (F_n0_0_next_0 : Fld Z h0 n0_0 "com/example/postloop/postloop/IdPool" "next" "I" (.int q_n0_0_next)) (A_n1_0_0 : AI Z h0 n1_0 .int q_n1_0) (A_n2_0_0 : AI Z h0 n2_0 .int q_n2_0) (hr : g0_150 x2 x8 x10 x11 x12 q_n0_0_freeCount q_n0_0_next q_n1_0 q_n2_0 = some r) :
    Runs p e below s (P0 n0 r) 3 22 T0 (mkF m 150 #[.val (.int x0), .val (.int x1), .val (.int x2), .val (.int x3), .val (.ref n0_0), .val (.int x5), .val (.int x6), .val (.int x7), .val (.int x8), .val (.ref n2_0), .val (.int x10), .val (.int x11), .val (.int x12), .unset] []) := by
  unfold g0_150 at hr
  have ⟨hx, hZ, hw, hby, hml, hown, hret, hlk, hnm⟩ := C
  refine Runs.via (T' := T0) (g' := (mkF m 152 #[.val (.int x0), .val (.int x1), .val (.int x2), .val (.int x3), .val (.ref n0_0), .val (.int x5), .val (.int x6), .val (.int x7), .val (.int x8), .val (.ref n2_0), .val (.int x10), .val (.int x11), .val (.int x12), .unset] [(.int (2 : Int32)), (.int x2)])) (fun t k => ?_) ?_
  · show Steps p.tables e below (T0.setTop (mkF m 150 #[.val (.int x0), .val (.int x1), .val (.int x2), .val (.int x3), .val (.ref n0_0), .val (.int x5), .val (.int x6), .val (.int x7), .val (.int x8), .val (.ref n2_0), .val (.int x10), .val (.int x11), .val (.int x12), .unset] [])) t
    refine XS.iloadN X0.here hx rfl (hb hby at_150) rfl ?_
    show Steps p.tables e below (T0.setTop (mkF m 151 #[.val (.int x0), .val (.int x1), .val (.int x2), .val (.int x3), .val (.ref n0_0), .val (.int x5), .val (.int x6), .val (.int x7), .val (.int x8), .val (.ref n2_0), .val (.int x10), .val (.int x11), .val (.int x12), .unset] [(.int x2)])) t
    refine XS.iconst X0.here hx rfl (hb hby at_151) ?_
    exact k
  refine iteE hr (fun hc1 hr => ?_) (fun hc1 hr => ?_)
  · refine Runs.via (T' := T0) (g' := (mkF m 165 #[.val (.int x0), .val (.int x1), .val (.int x2), .val (.int x3), .val (.ref n0_0), .val (.int x5), .val (.int x6), .val (.int x7), .val (.int x8), .val (.ref n2_0), .val (.int x10), .val (.int x11), .val (.int x12), .unset] [])) (fun t k => ?_) ?_
    · show Steps p.tables e below (T0.setTop (mkF m 152 #[.val (.int x0), .val (.int x1), .val (.int x2), .val (.int x3), .val (.ref n0_0), .val (.int x5), .val (.int x6), .val (.int x7), .val (.int x8), .val (.ref n2_0), .val (.int x10), .val (.int x11), .val (.int x12), .unset] [(.int (2 : Int32)), (.int x2)])) t
      exact XS.icmpYes X0.here hx rfl (pc0 := 152) (pc' := 165) rfl (hb hby at_152) rfl (tlt hc1).1 (by decide) (by decide) k
    exact b0_165w1 C X0 e0 N0 (by show cells ≤ 3; omega) (by show slots ≤ 22; omega) Z1 n0_0 n1_0 n2_0 (by omega) (by omega) (by omega) q_n0_0_freeCount q_n0_0_next q_n1_0 q_n2_0 x0 x1 x2 x3 x5 x6 x7 x8 x10 x11 x12 E_n0_0_0 F_n0_0_free_0 F_n0_0_freeCount_0 F_n0_0_next_0 A_n1_0_0 A_n2_0_0 hr
  · refine Runs.via (T' := T0) (g' := (mkF m 155 #[.val (.int x0), .val (.int x1), .val (.int x2), .val (.int x3), .val (.ref n0_0), .val (.int x5), .val (.int x6), .val (.int x7), .val (.int x8), .val (.ref n2_0), .val (.int x10), .val (.int x11), .val (.int x12), .unset] [])) (fun t k => ?_) ?_
    · show Steps p.tables e below (T0.setTop (mkF m 152 #[.val (.int x0), .val (.int x1), .val (.int x2), .val (.int x3), .val (.ref n0_0), .val (.int x5), .val (.int x6), .val (.int x7), .val (.int x8), .val (.ref n2_0), .val (.int x10), .val (.int x11), .val (.int x12), .unset] [(.int (2 : Int32)), (.int x2)])) t
      exact XS.icmpNo X0.here hx rfl (hb hby at_152) rfl (flt hc1).1 k
    refine Runs.via (T' := T0) (g' := (mkF m 161 #[.val (.int x0), .val (.int x1), .val (.int x2), .val (.int x3), .val (.ref n0_0), .val (.int x5), .val (.int x6), .val (.int x7), .val (.int x8), .val (.ref n2_0), .val (.int x10), .val (.int x11), .val (.int x12), .unset] [(.int x11), (.ref n2_0), (.ref n0_0)])) (fun t k => ?_) ?_
    · show Steps p.tables e below (T0.setTop (mkF m 155 #[.val (.int x0), .val (.int x1), .val (.int x2), .val (.int x3), .val (.ref n0_0), .val (.int x5), .val (.int x6), .val (.int x7), .val (.int x8), .val (.ref n2_0), .val (.int x10), .val (.int x11), .val (.int x12), .unset] [])) t
      refine XS.aload X0.here hx rfl (hb hby at_155) rfl rfl ?_
      show Steps p.tables e below (T0.setTop (mkF m 157 #[.val (.int x0), .val (.int x1), .val (.int x2), .val (.int x3), .val (.ref n0_0), .val (.int x5), .val (.int x6), .val (.int x7), .val (.int x8), .val (.ref n2_0), .val (.int x10), .val (.int x11), .val (.int x12), .unset] [(.ref n0_0)])) t
      refine XS.aload X0.here hx rfl (hb hby at_157) rfl rfl ?_
      show Steps p.tables e below (T0.setTop (mkF m 159 #[.val (.int x0), .val (.int x1), .val (.int x2), .val (.int x3), .val (.ref n0_0), .val (.int x5), .val (.int x6), .val (.int x7), .val (.int x8), .val (.ref n2_0), .val (.int x10), .val (.int x11), .val (.int x12), .unset] [(.ref n2_0), (.ref n0_0)])) t
      refine XS.iload X0.here hx rfl (hb hby at_159) rfl ?_
      exact k
    refine bindE hr ?_; intro v2 hv2 hr
    refine Runs.via (T' := T0) (g' := (mkF m 162 #[.val (.int x0), .val (.int x1), .val (.int x2), .val (.int x3), .val (.ref n0_0), .val (.int x5), .val (.int x6), .val (.int x7), .val (.int x8), .val (.ref n2_0), .val (.int x10), .val (.int x11), .val (.int x12), .unset] [(.int v2), (.ref n0_0)])) (fun t k => ldI X0 hx hZ e0 A_n2_0_0 hv2 (g := (mkF m 161 #[.val (.int x0), .val (.int x1), .val (.int x2), .val (.int x3), .val (.ref n0_0), .val (.int x5), .val (.int x6), .val (.int x7), .val (.int x8), .val (.ref n2_0), .val (.int x10), .val (.int x11), .val (.int x12), .unset] [(.int x11), (.ref n2_0), (.ref n0_0)])) rfl rfl (hb hby at_161) _ k) ?_
    refine bindE hr ?_; intro r3 hr3m hr
    obtain ⟨cq3, kq3, q3a, q3b, q3c⟩ := isOf hZ e0 E_n0_0_0
    obtain ⟨_, _, ⟨T3, L3, k3, n3⟩, -, X3, ⟨Lc3, hQ3, l3, y3, z3⟩, st3⟩ := X0.virtualBack hx (y := (⟨"com/example/postloop/postloop/IdPool", "give", "(I)V"⟩ : MethodName)) (z := (⟨"com/example/postloop/postloop/IdPool", "give", "(I)V"⟩ : MethodName)) hown (mvT hZ (hw _ (List.mem_of_getElem? (i := 22) rfl))) (mvT hZ (hw _ (List.mem_of_getElem? (i := 23) rfl))) (notFace_of_selects (args := #[]) (mvT hZ (hw _ (List.mem_of_getElem? (i := 25) rfl)))) (mvT hZ (hw _ (List.mem_of_getElem? (i := 25) rfl))) (mvT hZ (hw _ (List.mem_of_getElem? (i := 24) rfl))) (by decide) (backOf (W := 0) (rm4 l Z a0 hw [] v2 n0_0 n1_0 q_n0_0_freeCount q_n0_0_next q_n1_0 h0 n0 Z1 (by omega) (by omega) E_n0_0_0 F_n0_0_free_0 F_n0_0_freeCount_0 F_n0_0_next_0 A_n1_0_0 r3 hr3m) hZ (hw _ (List.mem_of_getElem? (i := 26) rfl)) (hw _ (List.mem_of_getElem? (i := 3) rfl)) (by decide) (by decide)) q3a q3c (g := (mkF m 162 #[.val (.int x0), .val (.int x1), .val (.int x2), .val (.int x3), .val (.ref n0_0), .val (.int x5), .val (.int x6), .val (.int x7), .val (.int x8), .val (.ref n2_0), .val (.int x10), .val (.int x11), .val (.int x12), .unset] [(.int v2), (.ref n0_0)])) rfl (by rw [hml]; rfl) (Steps.refl _) (argsL := [(.int v2)]) (rest := []) (lenOf pd_2 rfl) rfl (by show 2 * 0 + _ ≤ _; exact Nat.le_of_eq rfl) (hb hby at_162) (fun _ _ => ⟨rfl, e0, (by show cells + 0 ≤ 16; omega), (by show slots + 0 ≤ 128; omega)⟩)
    dsimp only [Pt.U, Pt.locs, Pt.cells, Pt.slots] at X3 l3 y3 z3 st3 hQ3
    replace y3 := y3.symm; replace z3 := z3.symm; subst l3 y3 z3
    obtain ⟨h3, e3⟩ : ∃ z, T3.heap = z := ⟨_, rfl⟩
    rw [e3] at hQ3
    obtain ⟨rfl, N3q, K3q, E_n0_0_3, F_n0_0_free_3, F_n0_0_freeCount_3, F_n0_0_next_3, A_n1_0_3⟩ := hQ3
    have N3 := Fr.app N0 N3q
    have A_n2_0_3 := A_n2_0_0.keep K3q (ninS (by omega : @Ne Nat n2_0 n0_0) (ninS (by omega : @Ne Nat n2_0 n1_0) nin0))
    have zz3 : n0 ≤ h3.size := Nat.le_trans Z1 K3q.1
    refine Runs.via (T' := T3) (g' := (mkF m 165 #[.val (.int x0), .val (.int x1), .val (.int x2), .val (.int x3), .val (.ref n0_0), .val (.int x5), .val (.int x6), .val (.int x7), .val (.int x8), .val (.ref n2_0), .val (.int x10), .val (.int x11), .val (.int x12), .unset] [])) (fun t k => st3.trans k) ?_
    exact b0_165w1 C X3 e3 N3 (by show (cells + 0) ≤ 3; omega) (by show (slots + 0) ≤ 22; omega) zz3 n0_0 n1_0 n2_0 (by omega) (by omega) (by omega) r3.1 q_n0_0_next r3.2 q_n2_0 x0 x1 x2 x3 x5 x6 x7 x8 x10 x11 x12 E_n0_0_3 F_n0_0_free_3 F_n0_0_freeCount_3 F_n0_0_next_3 A_n1_0_3 A_n2_0_3 hr
def g0_135 (x2 : Int32) (x8 : Int32) (x10 : Int32) (x11 : Int32) (x12 : Int32) (q_n0_0_freeCount : Int32) (q_n0_0_next : Int32) (q_n1_0 : List Int32) (q_n2_0 : List Int32) : Option (Int32) := (if x2 < (1 : Int32) then (g0_150 x2 x8 x10 x11 x12 q_n0_0_freeCount q_n0_0_next q_n1_0 q_n2_0) else ((rdO q_n2_0 x10).bind fun v2 => ((f4 v2 q_n0_0_freeCount q_n0_0_next q_n1_0).bind fun r3 => (g0_150 x2 x8 x10 x11 x12 r3.1 q_n0_0_next r3.2 q_n2_0))))
set_option maxRecDepth 65536 in
set_option maxHeartbeats 4000000 in
theorem b0_135 {r : Int32} (C : Ctx p s m meth c Z a0 "com/example/postloop/postloop/IdPoolTakePinLaw" code 14 (some .boolean) "law") (X0 : Stand p l e room_1 s m args below meth c T0 locs cells slots) (e0 : T0.heap = h0) (N0 : Fr n0 locs) (hk : cells ≤ 3) (hn : slots ≤ 22) (Z1 : n0 ≤ h0.size) (n0_0 : Addr) (n1_0 : Addr) (n2_0 : Addr) (o0 : n0 ≤ n0_0) (o1 : @LT.lt Nat instLTNat n0_0 n1_0) (o2 : @LT.lt Nat instLTNat n1_0 n2_0) (q_n0_0_freeCount : Int32) (q_n0_0_next : Int32) (q_n1_0 : List Int32) (q_n2_0 : List Int32) (x0 : Int32) (x1 : Int32) (x2 : Int32) (x3 : Int32) (x5 : Int32) (x6 : Int32) (x7 : Int32) (x8 : Int32) (x10 : Int32) (x11 : Int32) (x12 : Int32) (x13 : Int32) (E_n0_0_0 : Exa Z h0 n0_0 "com/example/postloop/postloop/IdPool") (F_n0_0_free_0 : Fld Z h0 n0_0 "com/example/postloop/postloop/IdPool" "free" "[I" (.ref n1_0)) (F_n0_0_freeCount_0 : Fld Z h0 n0_0 "com/example/postloop/postloop/IdPool" "freeCount" "I" (.int q_n0_0_freeCount)) (F_n0_0_next_0 : Fld Z h0 n0_0 "com/example/postloop/postloop/IdPool" "next" "I" (.int q_n0_0_next)) (A_n1_0_0 : AI Z h0 n1_0 .int q_n1_0) (A_n2_0_0 : AI Z h0 n2_0 .int q_n2_0) (hr : g0_135 x2 x8 x10 x11 x12 q_n0_0_freeCount q_n0_0_next q_n1_0 q_n2_0 = some r) :
    Runs p e below s (P0 n0 r) 3 22 T0 (mkF m 135 #[.val (.int x0), .val (.int x1), .val (.int x2), .val (.int x3), .val (.ref n0_0), .val (.int x5), .val (.int x6), .val (.int x7), .val (.int x8), .val (.ref n2_0), .val (.int x10), .val (.int x11), .val (.int x12), .val (.int x13)] []) := by
  unfold g0_135 at hr
  have ⟨hx, hZ, hw, hby, hml, hown, hret, hlk, hnm⟩ := C
  refine Runs.via (T' := T0) (g' := (mkF m 137 #[.val (.int x0), .val (.int x1), .val (.int x2), .val (.int x3), .val (.ref n0_0), .val (.int x5), .val (.int x6), .val (.int x7), .val (.int x8), .val (.ref n2_0), .val (.int x10), .val (.int x11), .val (.int x12), .val (.int x13)] [(.int (1 : Int32)), (.int x2)])) (fun t k => ?_) ?_
  · show Steps p.tables e below (T0.setTop (mkF m 135 #[.val (.int x0), .val (.int x1), .val (.int x2), .val (.int x3), .val (.ref n0_0), .val (.int x5), .val (.int x6), .val (.int x7), .val (.int x8), .val (.ref n2_0), .val (.int x10), .val (.int x11), .val (.int x12), .val (.int x13)] [])) t
    refine XS.iloadN X0.here hx rfl (hb hby at_135) rfl ?_
    show Steps p.tables e below (T0.setTop (mkF m 136 #[.val (.int x0), .val (.int x1), .val (.int x2), .val (.int x3), .val (.ref n0_0), .val (.int x5), .val (.int x6), .val (.int x7), .val (.int x8), .val (.ref n2_0), .val (.int x10), .val (.int x11), .val (.int x12), .val (.int x13)] [(.int x2)])) t
    refine XS.iconst X0.here hx rfl (hb hby at_136) ?_
    exact k
  refine iteE hr (fun hc1 hr => ?_) (fun hc1 hr => ?_)
  · refine Runs.via (T' := T0) (g' := (mkF m 150 #[.val (.int x0), .val (.int x1), .val (.int x2), .val (.int x3), .val (.ref n0_0), .val (.int x5), .val (.int x6), .val (.int x7), .val (.int x8), .val (.ref n2_0), .val (.int x10), .val (.int x11), .val (.int x12), .val (.int x13)] [])) (fun t k => ?_) ?_
    · show Steps p.tables e below (T0.setTop (mkF m 137 #[.val (.int x0), .val (.int x1), .val (.int x2), .val (.int x3), .val (.ref n0_0), .val (.int x5), .val (.int x6), .val (.int x7), .val (.int x8), .val (.ref n2_0), .val (.int x10), .val (.int x11), .val (.int x12), .val (.int x13)] [(.int (1 : Int32)), (.int x2)])) t
      exact XS.icmpYes X0.here hx rfl (pc0 := 137) (pc' := 150) rfl (hb hby at_137) rfl (tlt hc1).1 (by decide) (by decide) k
    exact b0_150 C X0 e0 N0 (by show cells ≤ 3; omega) (by show slots ≤ 22; omega) Z1 n0_0 n1_0 n2_0 (by omega) (by omega) (by omega) q_n0_0_freeCount q_n0_0_next q_n1_0 q_n2_0 x0 x1 x2 x3 x5 x6 x7 x8 x10 x11 x12 x13 E_n0_0_0 F_n0_0_free_0 F_n0_0_freeCount_0 F_n0_0_next_0 A_n1_0_0 A_n2_0_0 hr
  · refine Runs.via (T' := T0) (g' := (mkF m 140 #[.val (.int x0), .val (.int x1), .val (.int x2), .val (.int x3), .val (.ref n0_0), .val (.int x5), .val (.int x6), .val (.int x7), .val (.int x8), .val (.ref n2_0), .val (.int x10), .val (.int x11), .val (.int x12), .val (.int x13)] [])) (fun t k => ?_) ?_
    · show Steps p.tables e below (T0.setTop (mkF m 137 #[.val (.int x0), .val (.int x1), .val (.int x2), .val (.int x3), .val (.ref n0_0), .val (.int x5), .val (.int x6), .val (.int x7), .val (.int x8), .val (.ref n2_0), .val (.int x10), .val (.int x11), .val (.int x12), .val (.int x13)] [(.int (1 : Int32)), (.int x2)])) t
      exact XS.icmpNo X0.here hx rfl (hb hby at_137) rfl (flt hc1).1 k
    refine Runs.via (T' := T0) (g' := (mkF m 146 #[.val (.int x0), .val (.int x1), .val (.int x2), .val (.int x3), .val (.ref n0_0), .val (.int x5), .val (.int x6), .val (.int x7), .val (.int x8), .val (.ref n2_0), .val (.int x10), .val (.int x11), .val (.int x12), .val (.int x13)] [(.int x10), (.ref n2_0), (.ref n0_0)])) (fun t k => ?_) ?_
    · show Steps p.tables e below (T0.setTop (mkF m 140 #[.val (.int x0), .val (.int x1), .val (.int x2), .val (.int x3), .val (.ref n0_0), .val (.int x5), .val (.int x6), .val (.int x7), .val (.int x8), .val (.ref n2_0), .val (.int x10), .val (.int x11), .val (.int x12), .val (.int x13)] [])) t
      refine XS.aload X0.here hx rfl (hb hby at_140) rfl rfl ?_
      show Steps p.tables e below (T0.setTop (mkF m 142 #[.val (.int x0), .val (.int x1), .val (.int x2), .val (.int x3), .val (.ref n0_0), .val (.int x5), .val (.int x6), .val (.int x7), .val (.int x8), .val (.ref n2_0), .val (.int x10), .val (.int x11), .val (.int x12), .val (.int x13)] [(.ref n0_0)])) t
      refine XS.aload X0.here hx rfl (hb hby at_142) rfl rfl ?_
      show Steps p.tables e below (T0.setTop (mkF m 144 #[.val (.int x0), .val (.int x1), .val (.int x2), .val (.int x3), .val (.ref n0_0), .val (.int x5), .val (.int x6), .val (.int x7), .val (.int x8), .val (.ref n2_0), .val (.int x10), .val (.int x11), .val (.int x12), .val (.int x13)] [(.ref n2_0), (.ref n0_0)])) t
      refine XS.iload X0.here hx rfl (hb hby at_144) rfl ?_
      exact k
    refine bindE hr ?_; intro v2 hv2 hr
    refine Runs.via (T' := T0) (g' := (mkF m 147 #[.val (.int x0), .val (.int x1), .val (.int x2), .val (.int x3), .val (.ref n0_0), .val (.int x5), .val (.int x6), .val (.int x7), .val (.int x8), .val (.ref n2_0), .val (.int x10), .val (.int x11), .val (.int x12), .val (.int x13)] [(.int v2), (.ref n0_0)])) (fun t k => ldI X0 hx hZ e0 A_n2_0_0 hv2 (g := (mkF m 146 #[.val (.int x0), .val (.int x1), .val (.int x2), .val (.int x3), .val (.ref n0_0), .val (.int x5), .val (.int x6), .val (.int x7), .val (.int x8), .val (.ref n2_0), .val (.int x10), .val (.int x11), .val (.int x12), .val (.int x13)] [(.int x10), (.ref n2_0), (.ref n0_0)])) rfl rfl (hb hby at_146) _ k) ?_
    refine bindE hr ?_; intro r3 hr3m hr
    obtain ⟨cq3, kq3, q3a, q3b, q3c⟩ := isOf hZ e0 E_n0_0_0
    obtain ⟨_, _, ⟨T3, L3, k3, n3⟩, -, X3, ⟨Lc3, hQ3, l3, y3, z3⟩, st3⟩ := X0.virtualBack hx (y := (⟨"com/example/postloop/postloop/IdPool", "give", "(I)V"⟩ : MethodName)) (z := (⟨"com/example/postloop/postloop/IdPool", "give", "(I)V"⟩ : MethodName)) hown (mvT hZ (hw _ (List.mem_of_getElem? (i := 22) rfl))) (mvT hZ (hw _ (List.mem_of_getElem? (i := 23) rfl))) (notFace_of_selects (args := #[]) (mvT hZ (hw _ (List.mem_of_getElem? (i := 25) rfl)))) (mvT hZ (hw _ (List.mem_of_getElem? (i := 25) rfl))) (mvT hZ (hw _ (List.mem_of_getElem? (i := 24) rfl))) (by decide) (backOf (W := 0) (rm4 l Z a0 hw [] v2 n0_0 n1_0 q_n0_0_freeCount q_n0_0_next q_n1_0 h0 n0 Z1 (by omega) (by omega) E_n0_0_0 F_n0_0_free_0 F_n0_0_freeCount_0 F_n0_0_next_0 A_n1_0_0 r3 hr3m) hZ (hw _ (List.mem_of_getElem? (i := 26) rfl)) (hw _ (List.mem_of_getElem? (i := 3) rfl)) (by decide) (by decide)) q3a q3c (g := (mkF m 147 #[.val (.int x0), .val (.int x1), .val (.int x2), .val (.int x3), .val (.ref n0_0), .val (.int x5), .val (.int x6), .val (.int x7), .val (.int x8), .val (.ref n2_0), .val (.int x10), .val (.int x11), .val (.int x12), .val (.int x13)] [(.int v2), (.ref n0_0)])) rfl (by rw [hml]; rfl) (Steps.refl _) (argsL := [(.int v2)]) (rest := []) (lenOf pd_2 rfl) rfl (by show 2 * 0 + _ ≤ _; exact Nat.le_of_eq rfl) (hb hby at_147) (fun _ _ => ⟨rfl, e0, (by show cells + 0 ≤ 16; omega), (by show slots + 0 ≤ 128; omega)⟩)
    dsimp only [Pt.U, Pt.locs, Pt.cells, Pt.slots] at X3 l3 y3 z3 st3 hQ3
    replace y3 := y3.symm; replace z3 := z3.symm; subst l3 y3 z3
    obtain ⟨h3, e3⟩ : ∃ z, T3.heap = z := ⟨_, rfl⟩
    rw [e3] at hQ3
    obtain ⟨rfl, N3q, K3q, E_n0_0_3, F_n0_0_free_3, F_n0_0_freeCount_3, F_n0_0_next_3, A_n1_0_3⟩ := hQ3
    have N3 := Fr.app N0 N3q
    have A_n2_0_3 := A_n2_0_0.keep K3q (ninS (by omega : @Ne Nat n2_0 n0_0) (ninS (by omega : @Ne Nat n2_0 n1_0) nin0))
    have zz3 : n0 ≤ h3.size := Nat.le_trans Z1 K3q.1
    refine Runs.via (T' := T3) (g' := (mkF m 150 #[.val (.int x0), .val (.int x1), .val (.int x2), .val (.int x3), .val (.ref n0_0), .val (.int x5), .val (.int x6), .val (.int x7), .val (.int x8), .val (.ref n2_0), .val (.int x10), .val (.int x11), .val (.int x12), .val (.int x13)] [])) (fun t k => st3.trans k) ?_
    exact b0_150 C X3 e3 N3 (by show (cells + 0) ≤ 3; omega) (by show (slots + 0) ≤ 22; omega) zz3 n0_0 n1_0 n2_0 (by omega) (by omega) (by omega) r3.1 q_n0_0_next r3.2 q_n2_0 x0 x1 x2 x3 x5 x6 x7 x8 x10 x11 x12 x13 E_n0_0_3 F_n0_0_free_3 F_n0_0_freeCount_3 F_n0_0_next_3 A_n1_0_3 A_n2_0_3 hr
set_option maxRecDepth 65536 in
set_option maxHeartbeats 4000000 in
theorem b0_135w1 {r : Int32} (C : Ctx p s m meth c Z a0 "com/example/postloop/postloop/IdPoolTakePinLaw" code 14 (some .boolean) "law") (X0 : Stand p l e room_1 s m args below meth c T0 locs cells slots) (e0 : T0.heap = h0) (N0 : Fr n0 locs) (hk : cells ≤ 3) (hn : slots ≤ 22) (Z1 : n0 ≤ h0.size) (n0_0 : Addr) (n1_0 : Addr) (n2_0 : Addr) (o0 : n0 ≤ n0_0) (o1 : @LT.lt Nat instLTNat n0_0 n1_0) (o2 : @LT.lt Nat instLTNat n1_0 n2_0) (q_n0_0_freeCount : Int32) (q_n0_0_next : Int32) (q_n1_0 : List Int32) (q_n2_0 : List Int32) (x0 : Int32) (x1 : Int32) (x2 : Int32) (x3 : Int32) (x5 : Int32) (x6 : Int32) (x7 : Int32) (x8 : Int32) (x10 : Int32) (x11 : Int32) (x12 : Int32) (E_n0_0_0 : Exa Z h0 n0_0 "com/example/postloop/postloop/IdPool") (F_n0_0_free_0 : Fld Z h0 n0_0 "com/example/postloop/postloop/IdPool" "free" "[I" (.ref n1_0)) (F_n0_0_freeCount_0 : Fld Z h0 n0_0 "com/example/postloop/postloop/IdPool" "freeCount" "I" (.int q_n0_0_freeCount)) (F_n0_0_next_0 : Fld Z h0 n0_0 "com/example/postloop/postloop/IdPool" "next" "I" (.int q_n0_0_next)) (A_n1_0_0 : AI Z h0 n1_0 .int q_n1_0) (A_n2_0_0 : AI Z h0 n2_0 .int q_n2_0) (hr : g0_135 x2 x8 x10 x11 x12 q_n0_0_freeCount q_n0_0_next q_n1_0 q_n2_0 = some r) :
    Runs p e below s (P0 n0 r) 3 22 T0 (mkF m 135 #[.val (.int x0), .val (.int x1), .val (.int x2), .val (.int x3), .val (.ref n0_0), .val (.int x5), .val (.int x6), .val (.int x7), .val (.int x8), .val (.ref n2_0), .val (.int x10), .val (.int x11), .val (.int x12), .unset] []) := by
  unfold g0_135 at hr
  have ⟨hx, hZ, hw, hby, hml, hown, hret, hlk, hnm⟩ := C
  refine Runs.via (T' := T0) (g' := (mkF m 137 #[.val (.int x0), .val (.int x1), .val (.int x2), .val (.int x3), .val (.ref n0_0), .val (.int x5), .val (.int x6), .val (.int x7), .val (.int x8), .val (.ref n2_0), .val (.int x10), .val (.int x11), .val (.int x12), .unset] [(.int (1 : Int32)), (.int x2)])) (fun t k => ?_) ?_
  · show Steps p.tables e below (T0.setTop (mkF m 135 #[.val (.int x0), .val (.int x1), .val (.int x2), .val (.int x3), .val (.ref n0_0), .val (.int x5), .val (.int x6), .val (.int x7), .val (.int x8), .val (.ref n2_0), .val (.int x10), .val (.int x11), .val (.int x12), .unset] [])) t
    refine XS.iloadN X0.here hx rfl (hb hby at_135) rfl ?_
    show Steps p.tables e below (T0.setTop (mkF m 136 #[.val (.int x0), .val (.int x1), .val (.int x2), .val (.int x3), .val (.ref n0_0), .val (.int x5), .val (.int x6), .val (.int x7), .val (.int x8), .val (.ref n2_0), .val (.int x10), .val (.int x11), .val (.int x12), .unset] [(.int x2)])) t
    refine XS.iconst X0.here hx rfl (hb hby at_136) ?_
    exact k
  refine iteE hr (fun hc1 hr => ?_) (fun hc1 hr => ?_)
  · refine Runs.via (T' := T0) (g' := (mkF m 150 #[.val (.int x0), .val (.int x1), .val (.int x2), .val (.int x3), .val (.ref n0_0), .val (.int x5), .val (.int x6), .val (.int x7), .val (.int x8), .val (.ref n2_0), .val (.int x10), .val (.int x11), .val (.int x12), .unset] [])) (fun t k => ?_) ?_
    · show Steps p.tables e below (T0.setTop (mkF m 137 #[.val (.int x0), .val (.int x1), .val (.int x2), .val (.int x3), .val (.ref n0_0), .val (.int x5), .val (.int x6), .val (.int x7), .val (.int x8), .val (.ref n2_0), .val (.int x10), .val (.int x11), .val (.int x12), .unset] [(.int (1 : Int32)), (.int x2)])) t
      exact XS.icmpYes X0.here hx rfl (pc0 := 137) (pc' := 150) rfl (hb hby at_137) rfl (tlt hc1).1 (by decide) (by decide) k
    exact b0_150w1 C X0 e0 N0 (by show cells ≤ 3; omega) (by show slots ≤ 22; omega) Z1 n0_0 n1_0 n2_0 (by omega) (by omega) (by omega) q_n0_0_freeCount q_n0_0_next q_n1_0 q_n2_0 x0 x1 x2 x3 x5 x6 x7 x8 x10 x11 x12 E_n0_0_0 F_n0_0_free_0 F_n0_0_freeCount_0 F_n0_0_next_0 A_n1_0_0 A_n2_0_0 hr
  · refine Runs.via (T' := T0) (g' := (mkF m 140 #[.val (.int x0), .val (.int x1), .val (.int x2), .val (.int x3), .val (.ref n0_0), .val (.int x5), .val (.int x6), .val (.int x7), .val (.int x8), .val (.ref n2_0), .val (.int x10), .val (.int x11), .val (.int x12), .unset] [])) (fun t k => ?_) ?_
    · show Steps p.tables e below (T0.setTop (mkF m 137 #[.val (.int x0), .val (.int x1), .val (.int x2), .val (.int x3), .val (.ref n0_0), .val (.int x5), .val (.int x6), .val (.int x7), .val (.int x8), .val (.ref n2_0), .val (.int x10), .val (.int x11), .val (.int x12), .unset] [(.int (1 : Int32)), (.int x2)])) t
      exact XS.icmpNo X0.here hx rfl (hb hby at_137) rfl (flt hc1).1 k
    refine Runs.via (T' := T0) (g' := (mkF m 146 #[.val (.int x0), .val (.int x1), .val (.int x2), .val (.int x3), .val (.ref n0_0), .val (.int x5), .val (.int x6), .val (.int x7), .val (.int x8), .val (.ref n2_0), .val (.int x10), .val (.int x11), .val (.int x12), .unset] [(.int x10), (.ref n2_0), (.ref n0_0)])) (fun t k => ?_) ?_
    · show Steps p.tables e below (T0.setTop (mkF m 140 #[.val (.int x0), .val (.int x1), .val (.int x2), .val (.int x3), .val (.ref n0_0), .val (.int x5), .val (.int x6), .val (.int x7), .val (.int x8), .val (.ref n2_0), .val (.int x10), .val (.int x11), .val (.int x12), .unset] [])) t
      refine XS.aload X0.here hx rfl (hb hby at_140) rfl rfl ?_
      show Steps p.tables e below (T0.setTop (mkF m 142 #[.val (.int x0), .val (.int x1), .val (.int x2), .val (.int x3), .val (.ref n0_0), .val (.int x5), .val (.int x6), .val (.int x7), .val (.int x8), .val (.ref n2_0), .val (.int x10), .val (.int x11), .val (.int x12), .unset] [(.ref n0_0)])) t
      refine XS.aload X0.here hx rfl (hb hby at_142) rfl rfl ?_
      show Steps p.tables e below (T0.setTop (mkF m 144 #[.val (.int x0), .val (.int x1), .val (.int x2), .val (.int x3), .val (.ref n0_0), .val (.int x5), .val (.int x6), .val (.int x7), .val (.int x8), .val (.ref n2_0), .val (.int x10), .val (.int x11), .val (.int x12), .unset] [(.ref n2_0), (.ref n0_0)])) t
      refine XS.iload X0.here hx rfl (hb hby at_144) rfl ?_
      exact k
    refine bindE hr ?_; intro v2 hv2 hr
    refine Runs.via (T' := T0) (g' := (mkF m 147 #[.val (.int x0), .val (.int x1), .val (.int x2), .val (.int x3), .val (.ref n0_0), .val (.int x5), .val (.int x6), .val (.int x7), .val (.int x8), .val (.ref n2_0), .val (.int x10), .val (.int x11), .val (.int x12), .unset] [(.int v2), (.ref n0_0)])) (fun t k => ldI X0 hx hZ e0 A_n2_0_0 hv2 (g := (mkF m 146 #[.val (.int x0), .val (.int x1), .val (.int x2), .val (.int x3), .val (.ref n0_0), .val (.int x5), .val (.int x6), .val (.int x7), .val (.int x8), .val (.ref n2_0), .val (.int x10), .val (.int x11), .val (.int x12), .unset] [(.int x10), (.ref n2_0), (.ref n0_0)])) rfl rfl (hb hby at_146) _ k) ?_
    refine bindE hr ?_; intro r3 hr3m hr
    obtain ⟨cq3, kq3, q3a, q3b, q3c⟩ := isOf hZ e0 E_n0_0_0
    obtain ⟨_, _, ⟨T3, L3, k3, n3⟩, -, X3, ⟨Lc3, hQ3, l3, y3, z3⟩, st3⟩ := X0.virtualBack hx (y := (⟨"com/example/postloop/postloop/IdPool", "give", "(I)V"⟩ : MethodName)) (z := (⟨"com/example/postloop/postloop/IdPool", "give", "(I)V"⟩ : MethodName)) hown (mvT hZ (hw _ (List.mem_of_getElem? (i := 22) rfl))) (mvT hZ (hw _ (List.mem_of_getElem? (i := 23) rfl))) (notFace_of_selects (args := #[]) (mvT hZ (hw _ (List.mem_of_getElem? (i := 25) rfl)))) (mvT hZ (hw _ (List.mem_of_getElem? (i := 25) rfl))) (mvT hZ (hw _ (List.mem_of_getElem? (i := 24) rfl))) (by decide) (backOf (W := 0) (rm4 l Z a0 hw [] v2 n0_0 n1_0 q_n0_0_freeCount q_n0_0_next q_n1_0 h0 n0 Z1 (by omega) (by omega) E_n0_0_0 F_n0_0_free_0 F_n0_0_freeCount_0 F_n0_0_next_0 A_n1_0_0 r3 hr3m) hZ (hw _ (List.mem_of_getElem? (i := 26) rfl)) (hw _ (List.mem_of_getElem? (i := 3) rfl)) (by decide) (by decide)) q3a q3c (g := (mkF m 147 #[.val (.int x0), .val (.int x1), .val (.int x2), .val (.int x3), .val (.ref n0_0), .val (.int x5), .val (.int x6), .val (.int x7), .val (.int x8), .val (.ref n2_0), .val (.int x10), .val (.int x11), .val (.int x12), .unset] [(.int v2), (.ref n0_0)])) rfl (by rw [hml]; rfl) (Steps.refl _) (argsL := [(.int v2)]) (rest := []) (lenOf pd_2 rfl) rfl (by show 2 * 0 + _ ≤ _; exact Nat.le_of_eq rfl) (hb hby at_147) (fun _ _ => ⟨rfl, e0, (by show cells + 0 ≤ 16; omega), (by show slots + 0 ≤ 128; omega)⟩)
    dsimp only [Pt.U, Pt.locs, Pt.cells, Pt.slots] at X3 l3 y3 z3 st3 hQ3
    replace y3 := y3.symm; replace z3 := z3.symm; subst l3 y3 z3
    obtain ⟨h3, e3⟩ : ∃ z, T3.heap = z := ⟨_, rfl⟩
    rw [e3] at hQ3
    obtain ⟨rfl, N3q, K3q, E_n0_0_3, F_n0_0_free_3, F_n0_0_freeCount_3, F_n0_0_next_3, A_n1_0_3⟩ := hQ3
    have N3 := Fr.app N0 N3q
    have A_n2_0_3 := A_n2_0_0.keep K3q (ninS (by omega : @Ne Nat n2_0 n0_0) (ninS (by omega : @Ne Nat n2_0 n1_0) nin0))
    have zz3 : n0 ≤ h3.size := Nat.le_trans Z1 K3q.1
    refine Runs.via (T' := T3) (g' := (mkF m 150 #[.val (.int x0), .val (.int x1), .val (.int x2), .val (.int x3), .val (.ref n0_0), .val (.int x5), .val (.int x6), .val (.int x7), .val (.int x8), .val (.ref n2_0), .val (.int x10), .val (.int x11), .val (.int x12), .unset] [])) (fun t k => st3.trans k) ?_
    exact b0_150w1 C X3 e3 N3 (by show (cells + 0) ≤ 3; omega) (by show (slots + 0) ≤ 22; omega) zz3 n0_0 n1_0 n2_0 (by omega) (by omega) (by omega) r3.1 q_n0_0_next r3.2 q_n2_0 x0 x1 x2 x3 x5 x6 x7 x8 x10 x11 x12 E_n0_0_3 F_n0_0_free_3 F_n0_0_freeCount_3 F_n0_0_next_3 A_n1_0_3 A_n2_0_3 hr
def g0_114 (x2 : Int32) (x3 : Int32) (x8 : Int32) (x10 : Int32) (x11 : Int32) (u0 : Int32) (q_n0_0_freeCount : Int32) (q_n0_0_next : Int32) (q_n1_0 : List Int32) (q_n2_0 : List Int32) : Option (Int32) := (if (x3 &&& (1 : Int32)) = (1 : Int32) then (g0_135 x2 x8 x10 u0 x11 q_n0_0_freeCount q_n0_0_next q_n1_0 q_n2_0) else (g0_135 x2 x8 x10 x11 u0 q_n0_0_freeCount q_n0_0_next q_n1_0 q_n2_0))
set_option maxRecDepth 65536 in
set_option maxHeartbeats 4000000 in
theorem b0_114 {r : Int32} (C : Ctx p s m meth c Z a0 "com/example/postloop/postloop/IdPoolTakePinLaw" code 14 (some .boolean) "law") (X0 : Stand p l e room_1 s m args below meth c T0 locs cells slots) (e0 : T0.heap = h0) (N0 : Fr n0 locs) (hk : cells ≤ 3) (hn : slots ≤ 22) (Z1 : n0 ≤ h0.size) (n0_0 : Addr) (n1_0 : Addr) (n2_0 : Addr) (o0 : n0 ≤ n0_0) (o1 : @LT.lt Nat instLTNat n0_0 n1_0) (o2 : @LT.lt Nat instLTNat n1_0 n2_0) (q_n0_0_freeCount : Int32) (q_n0_0_next : Int32) (q_n1_0 : List Int32) (q_n2_0 : List Int32) (x0 : Int32) (x1 : Int32) (x2 : Int32) (x3 : Int32) (x5 : Int32) (x6 : Int32) (x7 : Int32) (x8 : Int32) (x10 : Int32) (x11 : Int32) (u0 : Int32) (E_n0_0_0 : Exa Z h0 n0_0 "com/example/postloop/postloop/IdPool") (F_n0_0_free_0 : Fld Z h0 n0_0 "com/example/postloop/postloop/IdPool" "free" "[I" (.ref n1_0)) (F_n0_0_freeCount_0 : Fld Z h0 n0_0 "com/example/postloop/postloop/IdPool" "freeCount" "I" (.int q_n0_0_freeCount)) (F_n0_0_next_0 : Fld Z h0 n0_0 "com/example/postloop/postloop/IdPool" "next" "I" (.int q_n0_0_next)) (A_n1_0_0 : AI Z h0 n1_0 .int q_n1_0) (A_n2_0_0 : AI Z h0 n2_0 .int q_n2_0) (hr : g0_114 x2 x3 x8 x10 x11 u0 q_n0_0_freeCount q_n0_0_next q_n1_0 q_n2_0 = some r) :
    Runs p e below s (P0 n0 r) 3 22 T0 (mkF m 114 #[.val (.int x0), .val (.int x1), .val (.int x2), .val (.int x3), .val (.ref n0_0), .val (.int x5), .val (.int x6), .val (.int x7), .val (.int x8), .val (.ref n2_0), .val (.int x10), .val (.int x11), .unset, .unset] [(.int u0)]) := by
  unfold g0_114 at hr
  have ⟨hx, hZ, hw, hby, hml, hown, hret, hlk, hnm⟩ := C
  refine Runs.via (T' := T0) (g' := (mkF m 120 #[.val (.int x0), .val (.int x1), .val (.int x2), .val (.int x3), .val (.ref n0_0), .val (.int x5), .val (.int x6), .val (.int x7), .val (.int x8), .val (.ref n2_0), .val (.int x10), .val (.int x11), .val (.int u0), .unset] [(.int (1 : Int32)), (.int (x3 &&& (1 : Int32)))])) (fun t k => ?_) ?_
  · show Steps p.tables e below (T0.setTop (mkF m 114 #[.val (.int x0), .val (.int x1), .val (.int x2), .val (.int x3), .val (.ref n0_0), .val (.int x5), .val (.int x6), .val (.int x7), .val (.int x8), .val (.ref n2_0), .val (.int x10), .val (.int x11), .unset, .unset] [(.int u0)])) t
    refine XS.istore X0.here hx rfl (hb hby at_114) rfl (l' := #[.val (.int x0), .val (.int x1), .val (.int x2), .val (.int x3), .val (.ref n0_0), .val (.int x5), .val (.int x6), .val (.int x7), .val (.int x8), .val (.ref n2_0), .val (.int x10), .val (.int x11), .val (.int u0), .unset]) rfl ?_
    show Steps p.tables e below (T0.setTop (mkF m 116 #[.val (.int x0), .val (.int x1), .val (.int x2), .val (.int x3), .val (.ref n0_0), .val (.int x5), .val (.int x6), .val (.int x7), .val (.int x8), .val (.ref n2_0), .val (.int x10), .val (.int x11), .val (.int u0), .unset] [])) t
    refine XS.iloadN X0.here hx rfl (hb hby at_116) rfl ?_
    show Steps p.tables e below (T0.setTop (mkF m 117 #[.val (.int x0), .val (.int x1), .val (.int x2), .val (.int x3), .val (.ref n0_0), .val (.int x5), .val (.int x6), .val (.int x7), .val (.int x8), .val (.ref n2_0), .val (.int x10), .val (.int x11), .val (.int u0), .unset] [(.int x3)])) t
    refine XS.iconst X0.here hx rfl (hb hby at_117) ?_
    show Steps p.tables e below (T0.setTop (mkF m 118 #[.val (.int x0), .val (.int x1), .val (.int x2), .val (.int x3), .val (.ref n0_0), .val (.int x5), .val (.int x6), .val (.int x7), .val (.int x8), .val (.ref n2_0), .val (.int x10), .val (.int x11), .val (.int u0), .unset] [(.int (1 : Int32)), (.int x3)])) t
    refine XS.iand X0.here hx rfl (hb hby at_118) rfl ?_
    show Steps p.tables e below (T0.setTop (mkF m 119 #[.val (.int x0), .val (.int x1), .val (.int x2), .val (.int x3), .val (.ref n0_0), .val (.int x5), .val (.int x6), .val (.int x7), .val (.int x8), .val (.ref n2_0), .val (.int x10), .val (.int x11), .val (.int u0), .unset] [(.int (x3 &&& (1 : Int32)))])) t
    refine XS.iconst X0.here hx rfl (hb hby at_119) ?_
    exact k
  refine iteE hr (fun hc1 hr => ?_) (fun hc1 hr => ?_)
  · refine Runs.via (T' := T0) (g' := (mkF m 123 #[.val (.int x0), .val (.int x1), .val (.int x2), .val (.int x3), .val (.ref n0_0), .val (.int x5), .val (.int x6), .val (.int x7), .val (.int x8), .val (.ref n2_0), .val (.int x10), .val (.int x11), .val (.int u0), .unset] [])) (fun t k => ?_) ?_
    · show Steps p.tables e below (T0.setTop (mkF m 120 #[.val (.int x0), .val (.int x1), .val (.int x2), .val (.int x3), .val (.ref n0_0), .val (.int x5), .val (.int x6), .val (.int x7), .val (.int x8), .val (.ref n2_0), .val (.int x10), .val (.int x11), .val (.int u0), .unset] [(.int (1 : Int32)), (.int (x3 &&& (1 : Int32)))])) t
      exact XS.icmpNo X0.here hx rfl (hb hby at_120) rfl (teq hc1).2 k
    refine Runs.via (T' := T0) (g' := (mkF m 135 #[.val (.int x0), .val (.int x1), .val (.int x2), .val (.int x3), .val (.ref n0_0), .val (.int x5), .val (.int x6), .val (.int x7), .val (.int x8), .val (.ref n2_0), .val (.int x10), .val (.int u0), .val (.int x11), .val (.int x11)] [])) (fun t k => ?_) ?_
    · show Steps p.tables e below (T0.setTop (mkF m 123 #[.val (.int x0), .val (.int x1), .val (.int x2), .val (.int x3), .val (.ref n0_0), .val (.int x5), .val (.int x6), .val (.int x7), .val (.int x8), .val (.ref n2_0), .val (.int x10), .val (.int x11), .val (.int u0), .unset] [])) t
      refine XS.iload X0.here hx rfl (hb hby at_123) rfl ?_
      show Steps p.tables e below (T0.setTop (mkF m 125 #[.val (.int x0), .val (.int x1), .val (.int x2), .val (.int x3), .val (.ref n0_0), .val (.int x5), .val (.int x6), .val (.int x7), .val (.int x8), .val (.ref n2_0), .val (.int x10), .val (.int x11), .val (.int u0), .unset] [(.int x11)])) t
      refine XS.istore X0.here hx rfl (hb hby at_125) rfl (l' := #[.val (.int x0), .val (.int x1), .val (.int x2), .val (.int x3), .val (.ref n0_0), .val (.int x5), .val (.int x6), .val (.int x7), .val (.int x8), .val (.ref n2_0), .val (.int x10), .val (.int x11), .val (.int u0), .val (.int x11)]) rfl ?_
      show Steps p.tables e below (T0.setTop (mkF m 127 #[.val (.int x0), .val (.int x1), .val (.int x2), .val (.int x3), .val (.ref n0_0), .val (.int x5), .val (.int x6), .val (.int x7), .val (.int x8), .val (.ref n2_0), .val (.int x10), .val (.int x11), .val (.int u0), .val (.int x11)] [])) t
      refine XS.iload X0.here hx rfl (hb hby at_127) rfl ?_
      show Steps p.tables e below (T0.setTop (mkF m 129 #[.val (.int x0), .val (.int x1), .val (.int x2), .val (.int x3), .val (.ref n0_0), .val (.int x5), .val (.int x6), .val (.int x7), .val (.int x8), .val (.ref n2_0), .val (.int x10), .val (.int x11), .val (.int u0), .val (.int x11)] [(.int u0)])) t
      refine XS.istore X0.here hx rfl (hb hby at_129) rfl (l' := #[.val (.int x0), .val (.int x1), .val (.int x2), .val (.int x3), .val (.ref n0_0), .val (.int x5), .val (.int x6), .val (.int x7), .val (.int x8), .val (.ref n2_0), .val (.int x10), .val (.int u0), .val (.int u0), .val (.int x11)]) rfl ?_
      show Steps p.tables e below (T0.setTop (mkF m 131 #[.val (.int x0), .val (.int x1), .val (.int x2), .val (.int x3), .val (.ref n0_0), .val (.int x5), .val (.int x6), .val (.int x7), .val (.int x8), .val (.ref n2_0), .val (.int x10), .val (.int u0), .val (.int u0), .val (.int x11)] [])) t
      refine XS.iload X0.here hx rfl (hb hby at_131) rfl ?_
      show Steps p.tables e below (T0.setTop (mkF m 133 #[.val (.int x0), .val (.int x1), .val (.int x2), .val (.int x3), .val (.ref n0_0), .val (.int x5), .val (.int x6), .val (.int x7), .val (.int x8), .val (.ref n2_0), .val (.int x10), .val (.int u0), .val (.int u0), .val (.int x11)] [(.int x11)])) t
      refine XS.istore X0.here hx rfl (hb hby at_133) rfl (l' := #[.val (.int x0), .val (.int x1), .val (.int x2), .val (.int x3), .val (.ref n0_0), .val (.int x5), .val (.int x6), .val (.int x7), .val (.int x8), .val (.ref n2_0), .val (.int x10), .val (.int u0), .val (.int x11), .val (.int x11)]) rfl ?_
      exact k
    exact b0_135 C X0 e0 N0 (by show cells ≤ 3; omega) (by show slots ≤ 22; omega) Z1 n0_0 n1_0 n2_0 (by omega) (by omega) (by omega) q_n0_0_freeCount q_n0_0_next q_n1_0 q_n2_0 x0 x1 x2 x3 x5 x6 x7 x8 x10 u0 x11 x11 E_n0_0_0 F_n0_0_free_0 F_n0_0_freeCount_0 F_n0_0_next_0 A_n1_0_0 A_n2_0_0 hr
  · refine Runs.via (T' := T0) (g' := (mkF m 135 #[.val (.int x0), .val (.int x1), .val (.int x2), .val (.int x3), .val (.ref n0_0), .val (.int x5), .val (.int x6), .val (.int x7), .val (.int x8), .val (.ref n2_0), .val (.int x10), .val (.int x11), .val (.int u0), .unset] [])) (fun t k => ?_) ?_
    · show Steps p.tables e below (T0.setTop (mkF m 120 #[.val (.int x0), .val (.int x1), .val (.int x2), .val (.int x3), .val (.ref n0_0), .val (.int x5), .val (.int x6), .val (.int x7), .val (.int x8), .val (.ref n2_0), .val (.int x10), .val (.int x11), .val (.int u0), .unset] [(.int (1 : Int32)), (.int (x3 &&& (1 : Int32)))])) t
      exact XS.icmpYes X0.here hx rfl (pc0 := 120) (pc' := 135) rfl (hb hby at_120) rfl (feq hc1).2 (by decide) (by decide) k
    exact b0_135w1 C X0 e0 N0 (by show cells ≤ 3; omega) (by show slots ≤ 22; omega) Z1 n0_0 n1_0 n2_0 (by omega) (by omega) (by omega) q_n0_0_freeCount q_n0_0_next q_n1_0 q_n2_0 x0 x1 x2 x3 x5 x6 x7 x8 x10 x11 u0 E_n0_0_0 F_n0_0_free_0 F_n0_0_freeCount_0 F_n0_0_next_0 A_n1_0_0 A_n2_0_0 hr
def g0_101 (x2 : Int32) (x3 : Int32) (x8 : Int32) (x10 : Int32) (u0 : Int32) (q_n0_0_freeCount : Int32) (q_n0_0_next : Int32) (q_n1_0 : List Int32) (q_n2_0 : List Int32) : Option (Int32) := (if x10 = (2 : Int32) then (g0_114 x2 x3 x8 x10 u0 (1 : Int32) q_n0_0_freeCount q_n0_0_next q_n1_0 q_n2_0) else (g0_114 x2 x3 x8 x10 u0 (2 : Int32) q_n0_0_freeCount q_n0_0_next q_n1_0 q_n2_0))
set_option maxRecDepth 65536 in
set_option maxHeartbeats 4000000 in
theorem b0_101 {r : Int32} (C : Ctx p s m meth c Z a0 "com/example/postloop/postloop/IdPoolTakePinLaw" code 14 (some .boolean) "law") (X0 : Stand p l e room_1 s m args below meth c T0 locs cells slots) (e0 : T0.heap = h0) (N0 : Fr n0 locs) (hk : cells ≤ 3) (hn : slots ≤ 22) (Z1 : n0 ≤ h0.size) (n0_0 : Addr) (n1_0 : Addr) (n2_0 : Addr) (o0 : n0 ≤ n0_0) (o1 : @LT.lt Nat instLTNat n0_0 n1_0) (o2 : @LT.lt Nat instLTNat n1_0 n2_0) (q_n0_0_freeCount : Int32) (q_n0_0_next : Int32) (q_n1_0 : List Int32) (q_n2_0 : List Int32) (x0 : Int32) (x1 : Int32) (x2 : Int32) (x3 : Int32) (x5 : Int32) (x6 : Int32) (x7 : Int32) (x8 : Int32) (x10 : Int32) (u0 : Int32) (E_n0_0_0 : Exa Z h0 n0_0 "com/example/postloop/postloop/IdPool") (F_n0_0_free_0 : Fld Z h0 n0_0 "com/example/postloop/postloop/IdPool" "free" "[I" (.ref n1_0)) (F_n0_0_freeCount_0 : Fld Z h0 n0_0 "com/example/postloop/postloop/IdPool" "freeCount" "I" (.int q_n0_0_freeCount)) (F_n0_0_next_0 : Fld Z h0 n0_0 "com/example/postloop/postloop/IdPool" "next" "I" (.int q_n0_0_next)) (A_n1_0_0 : AI Z h0 n1_0 .int q_n1_0) (A_n2_0_0 : AI Z h0 n2_0 .int q_n2_0) (hr : g0_101 x2 x3 x8 x10 u0 q_n0_0_freeCount q_n0_0_next q_n1_0 q_n2_0 = some r) :
    Runs p e below s (P0 n0 r) 3 22 T0 (mkF m 101 #[.val (.int x0), .val (.int x1), .val (.int x2), .val (.int x3), .val (.ref n0_0), .val (.int x5), .val (.int x6), .val (.int x7), .val (.int x8), .val (.ref n2_0), .val (.int x10), .unset, .unset, .unset] [(.int u0)]) := by
  unfold g0_101 at hr
  have ⟨hx, hZ, hw, hby, hml, hown, hret, hlk, hnm⟩ := C
  refine Runs.via (T' := T0) (g' := (mkF m 106 #[.val (.int x0), .val (.int x1), .val (.int x2), .val (.int x3), .val (.ref n0_0), .val (.int x5), .val (.int x6), .val (.int x7), .val (.int x8), .val (.ref n2_0), .val (.int x10), .val (.int u0), .unset, .unset] [(.int (2 : Int32)), (.int x10)])) (fun t k => ?_) ?_
  · show Steps p.tables e below (T0.setTop (mkF m 101 #[.val (.int x0), .val (.int x1), .val (.int x2), .val (.int x3), .val (.ref n0_0), .val (.int x5), .val (.int x6), .val (.int x7), .val (.int x8), .val (.ref n2_0), .val (.int x10), .unset, .unset, .unset] [(.int u0)])) t
    refine XS.istore X0.here hx rfl (hb hby at_101) rfl (l' := #[.val (.int x0), .val (.int x1), .val (.int x2), .val (.int x3), .val (.ref n0_0), .val (.int x5), .val (.int x6), .val (.int x7), .val (.int x8), .val (.ref n2_0), .val (.int x10), .val (.int u0), .unset, .unset]) rfl ?_
    show Steps p.tables e below (T0.setTop (mkF m 103 #[.val (.int x0), .val (.int x1), .val (.int x2), .val (.int x3), .val (.ref n0_0), .val (.int x5), .val (.int x6), .val (.int x7), .val (.int x8), .val (.ref n2_0), .val (.int x10), .val (.int u0), .unset, .unset] [])) t
    refine XS.iload X0.here hx rfl (hb hby at_103) rfl ?_
    show Steps p.tables e below (T0.setTop (mkF m 105 #[.val (.int x0), .val (.int x1), .val (.int x2), .val (.int x3), .val (.ref n0_0), .val (.int x5), .val (.int x6), .val (.int x7), .val (.int x8), .val (.ref n2_0), .val (.int x10), .val (.int u0), .unset, .unset] [(.int x10)])) t
    refine XS.iconst X0.here hx rfl (hb hby at_105) ?_
    exact k
  refine iteE hr (fun hc1 hr => ?_) (fun hc1 hr => ?_)
  · refine Runs.via (T' := T0) (g' := (mkF m 109 #[.val (.int x0), .val (.int x1), .val (.int x2), .val (.int x3), .val (.ref n0_0), .val (.int x5), .val (.int x6), .val (.int x7), .val (.int x8), .val (.ref n2_0), .val (.int x10), .val (.int u0), .unset, .unset] [])) (fun t k => ?_) ?_
    · show Steps p.tables e below (T0.setTop (mkF m 106 #[.val (.int x0), .val (.int x1), .val (.int x2), .val (.int x3), .val (.ref n0_0), .val (.int x5), .val (.int x6), .val (.int x7), .val (.int x8), .val (.ref n2_0), .val (.int x10), .val (.int u0), .unset, .unset] [(.int (2 : Int32)), (.int x10)])) t
      exact XS.icmpNo X0.here hx rfl (hb hby at_106) rfl (teq hc1).2 k
    refine Runs.via (T' := T0) (g' := (mkF m 114 #[.val (.int x0), .val (.int x1), .val (.int x2), .val (.int x3), .val (.ref n0_0), .val (.int x5), .val (.int x6), .val (.int x7), .val (.int x8), .val (.ref n2_0), .val (.int x10), .val (.int u0), .unset, .unset] [(.int (1 : Int32))])) (fun t k => ?_) ?_
    · show Steps p.tables e below (T0.setTop (mkF m 109 #[.val (.int x0), .val (.int x1), .val (.int x2), .val (.int x3), .val (.ref n0_0), .val (.int x5), .val (.int x6), .val (.int x7), .val (.int x8), .val (.ref n2_0), .val (.int x10), .val (.int u0), .unset, .unset] [])) t
      refine XS.iconst X0.here hx rfl (hb hby at_109) ?_
      show Steps p.tables e below (T0.setTop (mkF m 110 #[.val (.int x0), .val (.int x1), .val (.int x2), .val (.int x3), .val (.ref n0_0), .val (.int x5), .val (.int x6), .val (.int x7), .val (.int x8), .val (.ref n2_0), .val (.int x10), .val (.int u0), .unset, .unset] [(.int (1 : Int32))])) t
      refine XS.goto X0.here hx rfl (pc0 := 110) (pc' := 114) rfl (hb hby at_110) (by decide) (by decide) ?_
      exact k
    exact b0_114 C X0 e0 N0 (by show cells ≤ 3; omega) (by show slots ≤ 22; omega) Z1 n0_0 n1_0 n2_0 (by omega) (by omega) (by omega) q_n0_0_freeCount q_n0_0_next q_n1_0 q_n2_0 x0 x1 x2 x3 x5 x6 x7 x8 x10 u0 (1 : Int32) E_n0_0_0 F_n0_0_free_0 F_n0_0_freeCount_0 F_n0_0_next_0 A_n1_0_0 A_n2_0_0 hr
  · refine Runs.via (T' := T0) (g' := (mkF m 113 #[.val (.int x0), .val (.int x1), .val (.int x2), .val (.int x3), .val (.ref n0_0), .val (.int x5), .val (.int x6), .val (.int x7), .val (.int x8), .val (.ref n2_0), .val (.int x10), .val (.int u0), .unset, .unset] [])) (fun t k => ?_) ?_
    · show Steps p.tables e below (T0.setTop (mkF m 106 #[.val (.int x0), .val (.int x1), .val (.int x2), .val (.int x3), .val (.ref n0_0), .val (.int x5), .val (.int x6), .val (.int x7), .val (.int x8), .val (.ref n2_0), .val (.int x10), .val (.int u0), .unset, .unset] [(.int (2 : Int32)), (.int x10)])) t
      exact XS.icmpYes X0.here hx rfl (pc0 := 106) (pc' := 113) rfl (hb hby at_106) rfl (feq hc1).2 (by decide) (by decide) k
    refine Runs.via (T' := T0) (g' := (mkF m 114 #[.val (.int x0), .val (.int x1), .val (.int x2), .val (.int x3), .val (.ref n0_0), .val (.int x5), .val (.int x6), .val (.int x7), .val (.int x8), .val (.ref n2_0), .val (.int x10), .val (.int u0), .unset, .unset] [(.int (2 : Int32))])) (fun t k => ?_) ?_
    · show Steps p.tables e below (T0.setTop (mkF m 113 #[.val (.int x0), .val (.int x1), .val (.int x2), .val (.int x3), .val (.ref n0_0), .val (.int x5), .val (.int x6), .val (.int x7), .val (.int x8), .val (.ref n2_0), .val (.int x10), .val (.int u0), .unset, .unset] [])) t
      refine XS.iconst X0.here hx rfl (hb hby at_113) ?_
      exact k
    exact b0_114 C X0 e0 N0 (by show cells ≤ 3; omega) (by show slots ≤ 22; omega) Z1 n0_0 n1_0 n2_0 (by omega) (by omega) (by omega) q_n0_0_freeCount q_n0_0_next q_n1_0 q_n2_0 x0 x1 x2 x3 x5 x6 x7 x8 x10 u0 (2 : Int32) E_n0_0_0 F_n0_0_free_0 F_n0_0_freeCount_0 F_n0_0_next_0 A_n1_0_0 A_n2_0_0 hr
def g0_64 (x2 : Int32) (x3 : Int32) (x5 : Int32) (x6 : Int32) (x7 : Int32) (u0 : Int32) (q_n0_0_freeCount : Int32) (q_n0_0_next : Int32) (q_n1_0 : List Int32) : Option (Int32) := ((mkO (3 : Int32) 3).bind fun v1 => ((wrO v1 (0 : Int32) x5).bind fun v2 => ((wrO v2 (1 : Int32) x6).bind fun v3 => ((wrO v3 (2 : Int32) x7).bind fun v4 => (letO (x3 / (2 : Int32)) fun v5 => (if v5 = (0 : Int32) then (g0_101 x2 x3 u0 v5 (1 : Int32) q_n0_0_freeCount q_n0_0_next q_n1_0 v4) else (g0_101 x2 x3 u0 v5 (0 : Int32) q_n0_0_freeCount q_n0_0_next q_n1_0 v4)))))))
set_option maxRecDepth 65536 in
set_option maxHeartbeats 4000000 in
theorem b0_64 {r : Int32} (C : Ctx p s m meth c Z a0 "com/example/postloop/postloop/IdPoolTakePinLaw" code 14 (some .boolean) "law") (X0 : Stand p l e room_1 s m args below meth c T0 locs cells slots) (e0 : T0.heap = h0) (N0 : Fr n0 locs) (hk : cells ≤ 2) (hn : slots ≤ 19) (Z1 : n0 ≤ h0.size) (n0_0 : Addr) (n1_0 : Addr) (o0 : n0 ≤ n0_0) (o1 : @LT.lt Nat instLTNat n0_0 n1_0) (q_n0_0_freeCount : Int32) (q_n0_0_next : Int32) (q_n1_0 : List Int32) (x0 : Int32) (x1 : Int32) (x2 : Int32) (x3 : Int32) (x5 : Int32) (x6 : Int32) (x7 : Int32) (u0 : Int32) (E_n0_0_0 : Exa Z h0 n0_0 "com/example/postloop/postloop/IdPool") (F_n0_0_free_0 : Fld Z h0 n0_0 "com/example/postloop/postloop/IdPool" "free" "[I" (.ref n1_0)) (F_n0_0_freeCount_0 : Fld Z h0 n0_0 "com/example/postloop/postloop/IdPool" "freeCount" "I" (.int q_n0_0_freeCount)) (F_n0_0_next_0 : Fld Z h0 n0_0 "com/example/postloop/postloop/IdPool" "next" "I" (.int q_n0_0_next)) (A_n1_0_0 : AI Z h0 n1_0 .int q_n1_0) (hr : g0_64 x2 x3 x5 x6 x7 u0 q_n0_0_freeCount q_n0_0_next q_n1_0 = some r) :
    Runs p e below s (P0 n0 r) 3 22 T0 (mkF m 64 #[.val (.int x0), .val (.int x1), .val (.int x2), .val (.int x3), .val (.ref n0_0), .val (.int x5), .val (.int x6), .val (.int x7), .unset, .unset, .unset, .unset, .unset, .unset] [(.int u0)]) := by
  unfold g0_64 at hr
  have ⟨hx, hZ, hw, hby, hml, hown, hret, hlk, hnm⟩ := C
  refine Runs.via (T' := T0) (g' := (mkF m 67 #[.val (.int x0), .val (.int x1), .val (.int x2), .val (.int x3), .val (.ref n0_0), .val (.int x5), .val (.int x6), .val (.int x7), .val (.int u0), .unset, .unset, .unset, .unset, .unset] [(.int (3 : Int32))])) (fun t k => ?_) ?_
  · show Steps p.tables e below (T0.setTop (mkF m 64 #[.val (.int x0), .val (.int x1), .val (.int x2), .val (.int x3), .val (.ref n0_0), .val (.int x5), .val (.int x6), .val (.int x7), .unset, .unset, .unset, .unset, .unset, .unset] [(.int u0)])) t
    refine XS.istore X0.here hx rfl (hb hby at_64) rfl (l' := #[.val (.int x0), .val (.int x1), .val (.int x2), .val (.int x3), .val (.ref n0_0), .val (.int x5), .val (.int x6), .val (.int x7), .val (.int u0), .unset, .unset, .unset, .unset, .unset]) rfl ?_
    show Steps p.tables e below (T0.setTop (mkF m 66 #[.val (.int x0), .val (.int x1), .val (.int x2), .val (.int x3), .val (.ref n0_0), .val (.int x5), .val (.int x6), .val (.int x7), .val (.int u0), .unset, .unset, .unset, .unset, .unset] [])) t
    refine XS.iconst X0.here hx rfl (hb hby at_66) ?_
    exact k
  refine bindE hr ?_; intro v1 hv1 hr
  obtain ⟨T1, h1, X1, e1, E1, A1, st1⟩ := newI X0 hx hZ (aty := .int) (ty := .int) rfl rfl (hw _ (List.mem_of_getElem? (i := 10) rfl)) e0 hv1 (g := (mkF m 67 #[.val (.int x0), .val (.int x1), .val (.int x2), .val (.int x3), .val (.ref n0_0), .val (.int x5), .val (.int x6), .val (.int x7), .val (.int u0), .unset, .unset, .unset, .unset, .unset] [(.int (3 : Int32))])) rfl (hb hby at_67) rfl (by decide) (by show cells + 1 ≤ 16; omega) (by show slots + 3 ≤ 128; omega)
  obtain ⟨b67, g1⟩ : ∃ z, z = h0.size := ⟨_, rfl⟩
  rw [← g1] at A1 st1
  have i1 := E1.1
  have E_n0_0_1 := E_n0_0_0.ext E1
  have F_n0_0_free_1 := F_n0_0_free_0.ext E1
  have F_n0_0_freeCount_1 := F_n0_0_freeCount_0.ext E1
  have F_n0_0_next_1 := F_n0_0_next_0.ext E1
  have A_n1_0_1 := A_n1_0_0.ext E1
  have zz1 : n0 ≤ h1.size := Nat.le_trans Z1 i1
  have A_b67_1 := A1
  have pb67 : @LT.lt Nat instLTNat n1_0 b67 := by have : @LT.lt Nat instLTNat _ _ := A_n1_0_0.lt; omega
  have sb67 : n0 ≤ b67 := by omega
  refine Runs.via (T' := T1) (g' := (mkF m 69 #[.val (.int x0), .val (.int x1), .val (.int x2), .val (.int x3), .val (.ref n0_0), .val (.int x5), .val (.int x6), .val (.int x7), .val (.int u0), .unset, .unset, .unset, .unset, .unset] [(.ref b67)])) (fun t k => st1 _ k) ?_
  refine Runs.via (T' := T1) (g' := (mkF m 73 #[.val (.int x0), .val (.int x1), .val (.int x2), .val (.int x3), .val (.ref n0_0), .val (.int x5), .val (.int x6), .val (.int x7), .val (.int u0), .unset, .unset, .unset, .unset, .unset] [(.int x5), (.int (0 : Int32)), (.ref b67), (.ref b67)])) (fun t k => ?_) ?_
  · show Steps p.tables e below (T1.setTop (mkF m 69 #[.val (.int x0), .val (.int x1), .val (.int x2), .val (.int x3), .val (.ref n0_0), .val (.int x5), .val (.int x6), .val (.int x7), .val (.int u0), .unset, .unset, .unset, .unset, .unset] [(.ref b67)])) t
    refine XS.dup X1.here hx rfl (hb hby at_69) rfl rfl ?_
    show Steps p.tables e below (T1.setTop (mkF m 70 #[.val (.int x0), .val (.int x1), .val (.int x2), .val (.int x3), .val (.ref n0_0), .val (.int x5), .val (.int x6), .val (.int x7), .val (.int u0), .unset, .unset, .unset, .unset, .unset] [(.ref b67), (.ref b67)])) t
    refine XS.iconst X1.here hx rfl (hb hby at_70) ?_
    show Steps p.tables e below (T1.setTop (mkF m 71 #[.val (.int x0), .val (.int x1), .val (.int x2), .val (.int x3), .val (.ref n0_0), .val (.int x5), .val (.int x6), .val (.int x7), .val (.int u0), .unset, .unset, .unset, .unset, .unset] [(.int (0 : Int32)), (.ref b67), (.ref b67)])) t
    refine XS.iload X1.here hx rfl (hb hby at_71) rfl ?_
    exact k
  refine bindE hr ?_; intro v2 hv2 hr
  obtain ⟨T2, h2, X2, e2, W2, A2, st2⟩ := soI X1 hx hZ e1 A_b67_1 hv2 (g := (mkF m 73 #[.val (.int x0), .val (.int x1), .val (.int x2), .val (.int x3), .val (.ref n0_0), .val (.int x5), .val (.int x6), .val (.int x7), .val (.int u0), .unset, .unset, .unset, .unset, .unset] [(.int x5), (.int (0 : Int32)), (.ref b67), (.ref b67)])) rfl rfl (hb hby at_73)
  have E_n0_0_2 : Exa Z h2 n0_0 "com/example/postloop/postloop/IdPool" := E_n0_0_1.wr W2
  have F_n0_0_free_2 : Fld Z h2 n0_0 "com/example/postloop/postloop/IdPool" "free" "[I" (.ref n1_0) := F_n0_0_free_1.other W2 (Or.inl (by omega : @Ne Nat n0_0 b67))
  have F_n0_0_freeCount_2 : Fld Z h2 n0_0 "com/example/postloop/postloop/IdPool" "freeCount" "I" (.int q_n0_0_freeCount) := F_n0_0_freeCount_1.other W2 (Or.inl (by omega : @Ne Nat n0_0 b67))
  have F_n0_0_next_2 : Fld Z h2 n0_0 "com/example/postloop/postloop/IdPool" "next" "I" (.int q_n0_0_next) := F_n0_0_next_1.other W2 (Or.inl (by omega : @Ne Nat n0_0 b67))
  have A_n1_0_2 : AI Z h2 n1_0 .int q_n1_0 := A_n1_0_1.other W2 (by omega : @Ne Nat n1_0 b67)
  have A_b67_2 : AI Z h2 b67 .int v2 := A2
  have N2 := Fr.snoc X2 N0 (by omega : n0 ≤ b67)
  have zz2 : n0 ≤ h2.size := Nat.le_trans zz1 (Keep.of_wr W2).1
  refine Runs.via (T' := T2) (g' := (mkF m 74 #[.val (.int x0), .val (.int x1), .val (.int x2), .val (.int x3), .val (.ref n0_0), .val (.int x5), .val (.int x6), .val (.int x7), .val (.int u0), .unset, .unset, .unset, .unset, .unset] [(.ref b67)])) (fun t k => st2 _ k) ?_
  refine Runs.via (T' := T2) (g' := (mkF m 78 #[.val (.int x0), .val (.int x1), .val (.int x2), .val (.int x3), .val (.ref n0_0), .val (.int x5), .val (.int x6), .val (.int x7), .val (.int u0), .unset, .unset, .unset, .unset, .unset] [(.int x6), (.int (1 : Int32)), (.ref b67), (.ref b67)])) (fun t k => ?_) ?_
  · show Steps p.tables e below (T2.setTop (mkF m 74 #[.val (.int x0), .val (.int x1), .val (.int x2), .val (.int x3), .val (.ref n0_0), .val (.int x5), .val (.int x6), .val (.int x7), .val (.int u0), .unset, .unset, .unset, .unset, .unset] [(.ref b67)])) t
    refine XS.dup X2.here hx rfl (hb hby at_74) rfl rfl ?_
    show Steps p.tables e below (T2.setTop (mkF m 75 #[.val (.int x0), .val (.int x1), .val (.int x2), .val (.int x3), .val (.ref n0_0), .val (.int x5), .val (.int x6), .val (.int x7), .val (.int u0), .unset, .unset, .unset, .unset, .unset] [(.ref b67), (.ref b67)])) t
    refine XS.iconst X2.here hx rfl (hb hby at_75) ?_
    show Steps p.tables e below (T2.setTop (mkF m 76 #[.val (.int x0), .val (.int x1), .val (.int x2), .val (.int x3), .val (.ref n0_0), .val (.int x5), .val (.int x6), .val (.int x7), .val (.int u0), .unset, .unset, .unset, .unset, .unset] [(.int (1 : Int32)), (.ref b67), (.ref b67)])) t
    refine XS.iload X2.here hx rfl (hb hby at_76) rfl ?_
    exact k
  refine bindE hr ?_; intro v3 hv3 hr
  obtain ⟨T3, h3, X3, e3, W3, A3, st3⟩ := soI X2 hx hZ e2 A_b67_2 hv3 (g := (mkF m 78 #[.val (.int x0), .val (.int x1), .val (.int x2), .val (.int x3), .val (.ref n0_0), .val (.int x5), .val (.int x6), .val (.int x7), .val (.int u0), .unset, .unset, .unset, .unset, .unset] [(.int x6), (.int (1 : Int32)), (.ref b67), (.ref b67)])) rfl rfl (hb hby at_78)
  have E_n0_0_3 : Exa Z h3 n0_0 "com/example/postloop/postloop/IdPool" := E_n0_0_2.wr W3
  have F_n0_0_free_3 : Fld Z h3 n0_0 "com/example/postloop/postloop/IdPool" "free" "[I" (.ref n1_0) := F_n0_0_free_2.other W3 (Or.inl (by omega : @Ne Nat n0_0 b67))
  have F_n0_0_freeCount_3 : Fld Z h3 n0_0 "com/example/postloop/postloop/IdPool" "freeCount" "I" (.int q_n0_0_freeCount) := F_n0_0_freeCount_2.other W3 (Or.inl (by omega : @Ne Nat n0_0 b67))
  have F_n0_0_next_3 : Fld Z h3 n0_0 "com/example/postloop/postloop/IdPool" "next" "I" (.int q_n0_0_next) := F_n0_0_next_2.other W3 (Or.inl (by omega : @Ne Nat n0_0 b67))
  have A_n1_0_3 : AI Z h3 n1_0 .int q_n1_0 := A_n1_0_2.other W3 (by omega : @Ne Nat n1_0 b67)
  have A_b67_3 : AI Z h3 b67 .int v3 := A3
  have N3 := Fr.snoc X3 N2 (by omega : n0 ≤ b67)
  have zz3 : n0 ≤ h3.size := Nat.le_trans zz2 (Keep.of_wr W3).1
  refine Runs.via (T' := T3) (g' := (mkF m 79 #[.val (.int x0), .val (.int x1), .val (.int x2), .val (.int x3), .val (.ref n0_0), .val (.int x5), .val (.int x6), .val (.int x7), .val (.int u0), .unset, .unset, .unset, .unset, .unset] [(.ref b67)])) (fun t k => st3 _ k) ?_
  refine Runs.via (T' := T3) (g' := (mkF m 83 #[.val (.int x0), .val (.int x1), .val (.int x2), .val (.int x3), .val (.ref n0_0), .val (.int x5), .val (.int x6), .val (.int x7), .val (.int u0), .unset, .unset, .unset, .unset, .unset] [(.int x7), (.int (2 : Int32)), (.ref b67), (.ref b67)])) (fun t k => ?_) ?_
  · show Steps p.tables e below (T3.setTop (mkF m 79 #[.val (.int x0), .val (.int x1), .val (.int x2), .val (.int x3), .val (.ref n0_0), .val (.int x5), .val (.int x6), .val (.int x7), .val (.int u0), .unset, .unset, .unset, .unset, .unset] [(.ref b67)])) t
    refine XS.dup X3.here hx rfl (hb hby at_79) rfl rfl ?_
    show Steps p.tables e below (T3.setTop (mkF m 80 #[.val (.int x0), .val (.int x1), .val (.int x2), .val (.int x3), .val (.ref n0_0), .val (.int x5), .val (.int x6), .val (.int x7), .val (.int u0), .unset, .unset, .unset, .unset, .unset] [(.ref b67), (.ref b67)])) t
    refine XS.iconst X3.here hx rfl (hb hby at_80) ?_
    show Steps p.tables e below (T3.setTop (mkF m 81 #[.val (.int x0), .val (.int x1), .val (.int x2), .val (.int x3), .val (.ref n0_0), .val (.int x5), .val (.int x6), .val (.int x7), .val (.int u0), .unset, .unset, .unset, .unset, .unset] [(.int (2 : Int32)), (.ref b67), (.ref b67)])) t
    refine XS.iload X3.here hx rfl (hb hby at_81) rfl ?_
    exact k
  refine bindE hr ?_; intro v4 hv4 hr
  obtain ⟨T4, h4, X4, e4, W4, A4, st4⟩ := soI X3 hx hZ e3 A_b67_3 hv4 (g := (mkF m 83 #[.val (.int x0), .val (.int x1), .val (.int x2), .val (.int x3), .val (.ref n0_0), .val (.int x5), .val (.int x6), .val (.int x7), .val (.int u0), .unset, .unset, .unset, .unset, .unset] [(.int x7), (.int (2 : Int32)), (.ref b67), (.ref b67)])) rfl rfl (hb hby at_83)
  have E_n0_0_4 : Exa Z h4 n0_0 "com/example/postloop/postloop/IdPool" := E_n0_0_3.wr W4
  have F_n0_0_free_4 : Fld Z h4 n0_0 "com/example/postloop/postloop/IdPool" "free" "[I" (.ref n1_0) := F_n0_0_free_3.other W4 (Or.inl (by omega : @Ne Nat n0_0 b67))
  have F_n0_0_freeCount_4 : Fld Z h4 n0_0 "com/example/postloop/postloop/IdPool" "freeCount" "I" (.int q_n0_0_freeCount) := F_n0_0_freeCount_3.other W4 (Or.inl (by omega : @Ne Nat n0_0 b67))
  have F_n0_0_next_4 : Fld Z h4 n0_0 "com/example/postloop/postloop/IdPool" "next" "I" (.int q_n0_0_next) := F_n0_0_next_3.other W4 (Or.inl (by omega : @Ne Nat n0_0 b67))
  have A_n1_0_4 : AI Z h4 n1_0 .int q_n1_0 := A_n1_0_3.other W4 (by omega : @Ne Nat n1_0 b67)
  have A_b67_4 : AI Z h4 b67 .int v4 := A4
  have N4 := Fr.snoc X4 N3 (by omega : n0 ≤ b67)
  have zz4 : n0 ≤ h4.size := Nat.le_trans zz3 (Keep.of_wr W4).1
  refine Runs.via (T' := T4) (g' := (mkF m 84 #[.val (.int x0), .val (.int x1), .val (.int x2), .val (.int x3), .val (.ref n0_0), .val (.int x5), .val (.int x6), .val (.int x7), .val (.int u0), .unset, .unset, .unset, .unset, .unset] [(.ref b67)])) (fun t k => st4 _ k) ?_
  refine Runs.via (T' := T4) (g' := (mkF m 89 #[.val (.int x0), .val (.int x1), .val (.int x2), .val (.int x3), .val (.ref n0_0), .val (.int x5), .val (.int x6), .val (.int x7), .val (.int u0), .val (.ref b67), .unset, .unset, .unset, .unset] [(.int (x3 / (2 : Int32)))])) (fun t k => ?_) ?_
  · show Steps p.tables e below (T4.setTop (mkF m 84 #[.val (.int x0), .val (.int x1), .val (.int x2), .val (.int x3), .val (.ref n0_0), .val (.int x5), .val (.int x6), .val (.int x7), .val (.int u0), .unset, .unset, .unset, .unset, .unset] [(.ref b67)])) t
    refine XS.astore X4.here hx rfl (hb hby at_84) rfl rfl (l' := #[.val (.int x0), .val (.int x1), .val (.int x2), .val (.int x3), .val (.ref n0_0), .val (.int x5), .val (.int x6), .val (.int x7), .val (.int u0), .val (.ref b67), .unset, .unset, .unset, .unset]) rfl ?_
    show Steps p.tables e below (T4.setTop (mkF m 86 #[.val (.int x0), .val (.int x1), .val (.int x2), .val (.int x3), .val (.ref n0_0), .val (.int x5), .val (.int x6), .val (.int x7), .val (.int u0), .val (.ref b67), .unset, .unset, .unset, .unset] [])) t
    refine XS.iloadN X4.here hx rfl (hb hby at_86) rfl ?_
    show Steps p.tables e below (T4.setTop (mkF m 87 #[.val (.int x0), .val (.int x1), .val (.int x2), .val (.int x3), .val (.ref n0_0), .val (.int x5), .val (.int x6), .val (.int x7), .val (.int u0), .val (.ref b67), .unset, .unset, .unset, .unset] [(.int x3)])) t
    refine XS.iconst X4.here hx rfl (hb hby at_87) ?_
    show Steps p.tables e below (T4.setTop (mkF m 88 #[.val (.int x0), .val (.int x1), .val (.int x2), .val (.int x3), .val (.ref n0_0), .val (.int x5), .val (.int x6), .val (.int x7), .val (.int u0), .val (.ref b67), .unset, .unset, .unset, .unset] [(.int (2 : Int32)), (.int x3)])) t
    refine XS.idiv X4.here hx rfl (hb hby at_88) rfl (by decide) ?_
    exact k
  refine letE hr ?_; intro v5 hv5 hr
  rw [← hv5]
  refine Runs.via (T' := T4) (g' := (mkF m 93 #[.val (.int x0), .val (.int x1), .val (.int x2), .val (.int x3), .val (.ref n0_0), .val (.int x5), .val (.int x6), .val (.int x7), .val (.int u0), .val (.ref b67), .val (.int v5), .unset, .unset, .unset] [(.int v5)])) (fun t k => ?_) ?_
  · show Steps p.tables e below (T4.setTop (mkF m 89 #[.val (.int x0), .val (.int x1), .val (.int x2), .val (.int x3), .val (.ref n0_0), .val (.int x5), .val (.int x6), .val (.int x7), .val (.int u0), .val (.ref b67), .unset, .unset, .unset, .unset] [(.int v5)])) t
    refine XS.istore X4.here hx rfl (hb hby at_89) rfl (l' := #[.val (.int x0), .val (.int x1), .val (.int x2), .val (.int x3), .val (.ref n0_0), .val (.int x5), .val (.int x6), .val (.int x7), .val (.int u0), .val (.ref b67), .val (.int v5), .unset, .unset, .unset]) rfl ?_
    show Steps p.tables e below (T4.setTop (mkF m 91 #[.val (.int x0), .val (.int x1), .val (.int x2), .val (.int x3), .val (.ref n0_0), .val (.int x5), .val (.int x6), .val (.int x7), .val (.int u0), .val (.ref b67), .val (.int v5), .unset, .unset, .unset] [])) t
    refine XS.iload X4.here hx rfl (hb hby at_91) rfl ?_
    exact k
  refine iteE hr (fun hc6 hr => ?_) (fun hc6 hr => ?_)
  · refine Runs.via (T' := T4) (g' := (mkF m 96 #[.val (.int x0), .val (.int x1), .val (.int x2), .val (.int x3), .val (.ref n0_0), .val (.int x5), .val (.int x6), .val (.int x7), .val (.int u0), .val (.ref b67), .val (.int v5), .unset, .unset, .unset] [])) (fun t k => ?_) ?_
    · show Steps p.tables e below (T4.setTop (mkF m 93 #[.val (.int x0), .val (.int x1), .val (.int x2), .val (.int x3), .val (.ref n0_0), .val (.int x5), .val (.int x6), .val (.int x7), .val (.int u0), .val (.ref b67), .val (.int v5), .unset, .unset, .unset] [(.int v5)])) t
      exact XS.ifNo X4.here hx rfl (hb hby at_93) rfl ((if0 _ _).trans (teq hc6).2) k
    refine Runs.via (T' := T4) (g' := (mkF m 101 #[.val (.int x0), .val (.int x1), .val (.int x2), .val (.int x3), .val (.ref n0_0), .val (.int x5), .val (.int x6), .val (.int x7), .val (.int u0), .val (.ref b67), .val (.int v5), .unset, .unset, .unset] [(.int (1 : Int32))])) (fun t k => ?_) ?_
    · show Steps p.tables e below (T4.setTop (mkF m 96 #[.val (.int x0), .val (.int x1), .val (.int x2), .val (.int x3), .val (.ref n0_0), .val (.int x5), .val (.int x6), .val (.int x7), .val (.int u0), .val (.ref b67), .val (.int v5), .unset, .unset, .unset] [])) t
      refine XS.iconst X4.here hx rfl (hb hby at_96) ?_
      show Steps p.tables e below (T4.setTop (mkF m 97 #[.val (.int x0), .val (.int x1), .val (.int x2), .val (.int x3), .val (.ref n0_0), .val (.int x5), .val (.int x6), .val (.int x7), .val (.int u0), .val (.ref b67), .val (.int v5), .unset, .unset, .unset] [(.int (1 : Int32))])) t
      refine XS.goto X4.here hx rfl (pc0 := 97) (pc' := 101) rfl (hb hby at_97) (by decide) (by decide) ?_
      exact k
    exact b0_101 C X4 e4 N4 (by show (cells + 1) ≤ 3; omega) (by show (slots + 3) ≤ 22; omega) zz4 n0_0 n1_0 b67 (by omega) (by omega) (by omega) q_n0_0_freeCount q_n0_0_next q_n1_0 v4 x0 x1 x2 x3 x5 x6 x7 u0 v5 (1 : Int32) E_n0_0_4 F_n0_0_free_4 F_n0_0_freeCount_4 F_n0_0_next_4 A_n1_0_4 A_b67_4 hr
  · refine Runs.via (T' := T4) (g' := (mkF m 100 #[.val (.int x0), .val (.int x1), .val (.int x2), .val (.int x3), .val (.ref n0_0), .val (.int x5), .val (.int x6), .val (.int x7), .val (.int u0), .val (.ref b67), .val (.int v5), .unset, .unset, .unset] [])) (fun t k => ?_) ?_
    · show Steps p.tables e below (T4.setTop (mkF m 93 #[.val (.int x0), .val (.int x1), .val (.int x2), .val (.int x3), .val (.ref n0_0), .val (.int x5), .val (.int x6), .val (.int x7), .val (.int u0), .val (.ref b67), .val (.int v5), .unset, .unset, .unset] [(.int v5)])) t
      exact XS.ifYes X4.here hx rfl (pc0 := 93) (pc' := 100) rfl (hb hby at_93) rfl ((if0 _ _).trans (feq hc6).2) (by decide) (by decide) k
    refine Runs.via (T' := T4) (g' := (mkF m 101 #[.val (.int x0), .val (.int x1), .val (.int x2), .val (.int x3), .val (.ref n0_0), .val (.int x5), .val (.int x6), .val (.int x7), .val (.int u0), .val (.ref b67), .val (.int v5), .unset, .unset, .unset] [(.int (0 : Int32))])) (fun t k => ?_) ?_
    · show Steps p.tables e below (T4.setTop (mkF m 100 #[.val (.int x0), .val (.int x1), .val (.int x2), .val (.int x3), .val (.ref n0_0), .val (.int x5), .val (.int x6), .val (.int x7), .val (.int u0), .val (.ref b67), .val (.int v5), .unset, .unset, .unset] [])) t
      refine XS.iconst X4.here hx rfl (hb hby at_100) ?_
      exact k
    exact b0_101 C X4 e4 N4 (by show (cells + 1) ≤ 3; omega) (by show (slots + 3) ≤ 22; omega) zz4 n0_0 n1_0 b67 (by omega) (by omega) (by omega) q_n0_0_freeCount q_n0_0_next q_n1_0 v4 x0 x1 x2 x3 x5 x6 x7 u0 v5 (0 : Int32) E_n0_0_4 F_n0_0_free_4 F_n0_0_freeCount_4 F_n0_0_next_4 A_n1_0_4 A_b67_4 hr
def g0_63 (x2 : Int32) (x3 : Int32) (x5 : Int32) (x6 : Int32) (x7 : Int32) (q_n0_0_freeCount : Int32) (q_n0_0_next : Int32) (q_n1_0 : List Int32) : Option (Int32) := (g0_64 x2 x3 x5 x6 x7 (0 : Int32) q_n0_0_freeCount q_n0_0_next q_n1_0)
set_option maxRecDepth 65536 in
set_option maxHeartbeats 4000000 in
theorem b0_63 {r : Int32} (C : Ctx p s m meth c Z a0 "com/example/postloop/postloop/IdPoolTakePinLaw" code 14 (some .boolean) "law") (X0 : Stand p l e room_1 s m args below meth c T0 locs cells slots) (e0 : T0.heap = h0) (N0 : Fr n0 locs) (hk : cells ≤ 2) (hn : slots ≤ 19) (Z1 : n0 ≤ h0.size) (n0_0 : Addr) (n1_0 : Addr) (o0 : n0 ≤ n0_0) (o1 : @LT.lt Nat instLTNat n0_0 n1_0) (q_n0_0_freeCount : Int32) (q_n0_0_next : Int32) (q_n1_0 : List Int32) (x0 : Int32) (x1 : Int32) (x2 : Int32) (x3 : Int32) (x5 : Int32) (x6 : Int32) (x7 : Int32) (E_n0_0_0 : Exa Z h0 n0_0 "com/example/postloop/postloop/IdPool") (F_n0_0_free_0 : Fld Z h0 n0_0 "com/example/postloop/postloop/IdPool" "free" "[I" (.ref n1_0)) (F_n0_0_freeCount_0 : Fld Z h0 n0_0 "com/example/postloop/postloop/IdPool" "freeCount" "I" (.int q_n0_0_freeCount)) (F_n0_0_next_0 : Fld Z h0 n0_0 "com/example/postloop/postloop/IdPool" "next" "I" (.int q_n0_0_next)) (A_n1_0_0 : AI Z h0 n1_0 .int q_n1_0) (hr : g0_63 x2 x3 x5 x6 x7 q_n0_0_freeCount q_n0_0_next q_n1_0 = some r) :
    Runs p e below s (P0 n0 r) 3 22 T0 (mkF m 63 #[.val (.int x0), .val (.int x1), .val (.int x2), .val (.int x3), .val (.ref n0_0), .val (.int x5), .val (.int x6), .val (.int x7), .unset, .unset, .unset, .unset, .unset, .unset] []) := by
  unfold g0_63 at hr
  have ⟨hx, hZ, hw, hby, hml, hown, hret, hlk, hnm⟩ := C
  refine Runs.via (T' := T0) (g' := (mkF m 64 #[.val (.int x0), .val (.int x1), .val (.int x2), .val (.int x3), .val (.ref n0_0), .val (.int x5), .val (.int x6), .val (.int x7), .unset, .unset, .unset, .unset, .unset, .unset] [(.int (0 : Int32))])) (fun t k => ?_) ?_
  · show Steps p.tables e below (T0.setTop (mkF m 63 #[.val (.int x0), .val (.int x1), .val (.int x2), .val (.int x3), .val (.ref n0_0), .val (.int x5), .val (.int x6), .val (.int x7), .unset, .unset, .unset, .unset, .unset, .unset] [])) t
    refine XS.iconst X0.here hx rfl (hb hby at_63) ?_
    exact k
  exact b0_64 C X0 e0 N0 (by show cells ≤ 2; omega) (by show slots ≤ 19; omega) Z1 n0_0 n1_0 (by omega) (by omega) q_n0_0_freeCount q_n0_0_next q_n1_0 x0 x1 x2 x3 x5 x6 x7 (0 : Int32) E_n0_0_0 F_n0_0_free_0 F_n0_0_freeCount_0 F_n0_0_next_0 A_n1_0_0 hr
def g0_0 (x0 : Int32) (x1 : Int32) : Option (Int32) := (letO (x0 &&& (3 : Int32)) fun v1 => (letO ((x1 &&& (2147483647 : Int32)) - ((x1 &&& (2147483647 : Int32)) / (6 : Int32)) * (6 : Int32)) fun v2 => ((f1 (0 : Int32) (0 : Int32)).bind fun r4 => ((f3 (0 : Int32) (0 : Int32) r4).bind fun r5 => ((f3 r5.2.1 r5.2.2 r4).bind fun r6 => ((f3 r6.2.1 r6.2.2 r4).bind fun r7 => (if r5.1 = (0 : Int32) then (if r6.1 = (1 : Int32) then (if r7.1 = (2 : Int32) then (g0_64 v1 v2 r5.1 r6.1 r7.1 (1 : Int32) r7.2.1 r7.2.2 r4) else (g0_63 v1 v2 r5.1 r6.1 r7.1 r7.2.1 r7.2.2 r4)) else (g0_63 v1 v2 r5.1 r6.1 r7.1 r7.2.1 r7.2.2 r4)) else (g0_63 v1 v2 r5.1 r6.1 r7.1 r7.2.1 r7.2.2 r4))))))))
set_option maxRecDepth 65536 in
set_option maxHeartbeats 4000000 in
theorem b0_0 {r : Int32} (C : Ctx p s m meth c Z a0 "com/example/postloop/postloop/IdPoolTakePinLaw" code 14 (some .boolean) "law") (X0 : Stand p l e room_1 s m args below meth c T0 locs cells slots) (e0 : T0.heap = h0) (N0 : Fr n0 locs) (hk : cells ≤ 0) (hn : slots ≤ 0) (Z1 : n0 ≤ h0.size) (x0 : Int32) (x1 : Int32) (hr : g0_0 x0 x1 = some r) :
    Runs p e below s (P0 n0 r) 3 22 T0 (mkF m 0 #[.val (.int x0), .val (.int x1), .unset, .unset, .unset, .unset, .unset, .unset, .unset, .unset, .unset, .unset, .unset, .unset] []) := by
  unfold g0_0 at hr
  have ⟨hx, hZ, hw, hby, hml, hown, hret, hlk, hnm⟩ := C
  refine Runs.via (T' := T0) (g' := (mkF m 3 #[.val (.int x0), .val (.int x1), .unset, .unset, .unset, .unset, .unset, .unset, .unset, .unset, .unset, .unset, .unset, .unset] [(.int (x0 &&& (3 : Int32)))])) (fun t k => ?_) ?_
  · show Steps p.tables e below (T0.setTop (mkF m 0 #[.val (.int x0), .val (.int x1), .unset, .unset, .unset, .unset, .unset, .unset, .unset, .unset, .unset, .unset, .unset, .unset] [])) t
    refine XS.iloadN X0.here hx rfl (hb hby at_0) rfl ?_
    show Steps p.tables e below (T0.setTop (mkF m 1 #[.val (.int x0), .val (.int x1), .unset, .unset, .unset, .unset, .unset, .unset, .unset, .unset, .unset, .unset, .unset, .unset] [(.int x0)])) t
    refine XS.iconst X0.here hx rfl (hb hby at_1) ?_
    show Steps p.tables e below (T0.setTop (mkF m 2 #[.val (.int x0), .val (.int x1), .unset, .unset, .unset, .unset, .unset, .unset, .unset, .unset, .unset, .unset, .unset, .unset] [(.int (3 : Int32)), (.int x0)])) t
    refine XS.iand X0.here hx rfl (hb hby at_2) rfl ?_
    exact k
  refine letE hr ?_; intro v1 hv1 hr
  rw [← hv1]
  refine Runs.via (T' := T0) (g' := (mkF m 11 #[.val (.int x0), .val (.int x1), .val (.int v1), .unset, .unset, .unset, .unset, .unset, .unset, .unset, .unset, .unset, .unset, .unset] [(.int ((x1 &&& (2147483647 : Int32)) - ((x1 &&& (2147483647 : Int32)) / (6 : Int32)) * (6 : Int32)))])) (fun t k => ?_) ?_
  · show Steps p.tables e below (T0.setTop (mkF m 3 #[.val (.int x0), .val (.int x1), .unset, .unset, .unset, .unset, .unset, .unset, .unset, .unset, .unset, .unset, .unset, .unset] [(.int v1)])) t
    refine XS.istoreN X0.here hx rfl (hb hby at_3) rfl (l' := #[.val (.int x0), .val (.int x1), .val (.int v1), .unset, .unset, .unset, .unset, .unset, .unset, .unset, .unset, .unset, .unset, .unset]) rfl ?_
    show Steps p.tables e below (T0.setTop (mkF m 4 #[.val (.int x0), .val (.int x1), .val (.int v1), .unset, .unset, .unset, .unset, .unset, .unset, .unset, .unset, .unset, .unset, .unset] [])) t
    refine XS.iloadN X0.here hx rfl (hb hby at_4) rfl ?_
    show Steps p.tables e below (T0.setTop (mkF m 5 #[.val (.int x0), .val (.int x1), .val (.int v1), .unset, .unset, .unset, .unset, .unset, .unset, .unset, .unset, .unset, .unset, .unset] [(.int x1)])) t
    refine X0.ldcInt hx hown (mvT hZ (hw _ (List.mem_of_getElem? (i := 0) rfl))) (g := (mkF m 5 #[.val (.int x0), .val (.int x1), .val (.int v1), .unset, .unset, .unset, .unset, .unset, .unset, .unset, .unset, .unset, .unset, .unset] [(.int x1)])) rfl (hb hby at_5) _ ?_
    show Steps p.tables e below (T0.setTop (mkF m 7 #[.val (.int x0), .val (.int x1), .val (.int v1), .unset, .unset, .unset, .unset, .unset, .unset, .unset, .unset, .unset, .unset, .unset] [(.int (2147483647 : Int32)), (.int x1)])) t
    refine XS.iand X0.here hx rfl (hb hby at_7) rfl ?_
    show Steps p.tables e below (T0.setTop (mkF m 8 #[.val (.int x0), .val (.int x1), .val (.int v1), .unset, .unset, .unset, .unset, .unset, .unset, .unset, .unset, .unset, .unset, .unset] [(.int (x1 &&& (2147483647 : Int32)))])) t
    refine XS.bipush X0.here hx rfl (hb hby at_8) ?_
    show Steps p.tables e below (T0.setTop (mkF m 10 #[.val (.int x0), .val (.int x1), .val (.int v1), .unset, .unset, .unset, .unset, .unset, .unset, .unset, .unset, .unset, .unset, .unset] [(.int (6 : Int32)), (.int (x1 &&& (2147483647 : Int32)))])) t
    refine XS.irem X0.here hx rfl (hb hby at_10) rfl (by decide) ?_
    exact k
  refine letE hr ?_; intro v2 hv2 hr
  rw [← hv2]
  refine Runs.via (T' := T0) (g' := (mkF m 12 #[.val (.int x0), .val (.int x1), .val (.int v1), .val (.int v2), .unset, .unset, .unset, .unset, .unset, .unset, .unset, .unset, .unset, .unset] [])) (fun t k => ?_) ?_
  · show Steps p.tables e below (T0.setTop (mkF m 11 #[.val (.int x0), .val (.int x1), .val (.int v1), .unset, .unset, .unset, .unset, .unset, .unset, .unset, .unset, .unset, .unset, .unset] [(.int v2)])) t
    refine XS.istoreN X0.here hx rfl (hb hby at_11) rfl (l' := #[.val (.int x0), .val (.int x1), .val (.int v1), .val (.int v2), .unset, .unset, .unset, .unset, .unset, .unset, .unset, .unset, .unset, .unset]) rfl ?_
    exact k
  obtain ⟨T3, h3, X3, e3, E3, A3, D3, -, st3⟩ := newO X0 hx hZ hown (hw _ (List.mem_of_getElem? (i := 1) rfl)) (hw _ (List.mem_of_getElem? (i := 2) rfl)) (hw _ (List.mem_of_getElem? (i := 3) rfl)) e0 (g := (mkF m 12 #[.val (.int x0), .val (.int x1), .val (.int v1), .val (.int v2), .unset, .unset, .unset, .unset, .unset, .unset, .unset, .unset, .unset, .unset] [])) rfl (hb hby at_12) (by show cells + 1 ≤ 16; omega) (by show slots + 3 ≤ 128; omega)
  obtain ⟨b12, g3⟩ : ∃ z, z = h0.size := ⟨_, rfl⟩
  rw [← g3] at A3 D3 st3
  have i3 := E3.1
  have zz3 : n0 ≤ h3.size := Nat.le_trans Z1 i3
  have E_b12_3 := A3
  have F_b12_free_3 : Fld Z h3 b12 "com/example/postloop/postloop/IdPool" "free" "[I" .null := D3 (Or.inl (hw _ (List.mem_of_getElem? (i := 12) rfl))) (ty := (.array .int)) (by decide)
  have F_b12_freeCount_3 : Fld Z h3 b12 "com/example/postloop/postloop/IdPool" "freeCount" "I" (.int (0 : Int32)) := D3 (Or.inl (hw _ (List.mem_of_getElem? (i := 19) rfl))) (ty := .int) (by decide)
  have F_b12_next_3 : Fld Z h3 b12 "com/example/postloop/postloop/IdPool" "next" "I" (.int (0 : Int32)) := D3 (Or.inl (hw _ (List.mem_of_getElem? (i := 21) rfl))) (ty := .int) (by decide)
  have sb12 : n0 ≤ b12 := by omega
  refine Runs.via (T' := T3) (g' := (mkF m 15 #[.val (.int x0), .val (.int x1), .val (.int v1), .val (.int v2), .unset, .unset, .unset, .unset, .unset, .unset, .unset, .unset, .unset, .unset] [(.ref b12)])) (fun t k => st3 _ k) ?_
  refine Runs.via (T' := T3) (g' := (mkF m 16 #[.val (.int x0), .val (.int x1), .val (.int v1), .val (.int v2), .unset, .unset, .unset, .unset, .unset, .unset, .unset, .unset, .unset, .unset] [(.ref b12), (.ref b12)])) (fun t k => ?_) ?_
  · show Steps p.tables e below (T3.setTop (mkF m 15 #[.val (.int x0), .val (.int x1), .val (.int v1), .val (.int v2), .unset, .unset, .unset, .unset, .unset, .unset, .unset, .unset, .unset, .unset] [(.ref b12)])) t
    refine XS.dup X3.here hx rfl (hb hby at_15) rfl rfl ?_
    exact k
  refine bindE hr ?_; intro r4 hr4m hr
  obtain ⟨_, _, ⟨T4, L4, k4, n4⟩, -, X4, ⟨Lc4, hQ4, l4, y4, z4⟩, st4⟩ := X3.specialBack hx (y := (⟨"com/example/postloop/postloop/IdPool", "<init>", "()V"⟩ : MethodName)) rfl hown (mvT hZ (hw _ (List.mem_of_getElem? (i := 4) rfl))) (mvT hZ (hw _ (List.mem_of_getElem? (i := 5) rfl))) (mvT hZ (hw _ (List.mem_of_getElem? (i := 6) rfl))) (by decide) (backOf (W := 1) (rm1 l Z a0 hw [] b12 (0 : Int32) (0 : Int32) h3 n0 zz3 (by omega) E_b12_3 F_b12_free_3 F_b12_freeCount_3 F_b12_next_3 r4 hr4m) hZ (hw _ (List.mem_of_getElem? (i := 6) rfl)) (hw _ (List.mem_of_getElem? (i := 3) rfl)) (by decide) (by decide)) (g := (mkF m 16 #[.val (.int x0), .val (.int x1), .val (.int v1), .val (.int v2), .unset, .unset, .unset, .unset, .unset, .unset, .unset, .unset, .unset, .unset] [(.ref b12), (.ref b12)])) rfl (by rw [hml]; rfl) (Steps.refl _) (a := b12) (argsL := []) (rest := [(.ref b12)]) (lenOf pd_0 rfl) rfl (by show 2 * 0 + _ ≤ _; exact Nat.le_of_eq rfl) (hb hby at_16) (fun _ _ => ⟨rfl, e3, (by show (cells + 1) + 1 ≤ 16; omega), (by show (slots + 3) + 16 ≤ 128; omega)⟩)
  dsimp only [Pt.U, Pt.locs, Pt.cells, Pt.slots] at X4 l4 y4 z4 st4 hQ4
  replace y4 := y4.symm; replace z4 := z4.symm; subst l4 y4 z4
  obtain ⟨h4, e4⟩ : ∃ z, T4.heap = z := ⟨_, rfl⟩
  rw [e4] at hQ4
  obtain ⟨b16_0, rfl, N4q, K4q, zn4_0, E_b12_4, F_b12_free_4, F_b12_freeCount_4, F_b12_next_4, A_b16_0_4⟩ := hQ4
  have N4 := Fr.app N0 N4q
  have pn4 : @LT.lt Nat instLTNat b12 b16_0 := by have : @LT.lt Nat instLTNat _ _ := E_b12_3.lt; omega
  have sn4_0 : n0 ≤ b16_0 := by omega
  have zz4 : n0 ≤ h4.size := Nat.le_trans zz3 K4q.1
  refine Runs.via (T' := T4) (g' := (mkF m 19 #[.val (.int x0), .val (.int x1), .val (.int v1), .val (.int v2), .unset, .unset, .unset, .unset, .unset, .unset, .unset, .unset, .unset, .unset] [(.ref b12)])) (fun t k => st4.trans k) ?_
  refine Runs.via (T' := T4) (g' := (mkF m 23 #[.val (.int x0), .val (.int x1), .val (.int v1), .val (.int v2), .val (.ref b12), .unset, .unset, .unset, .unset, .unset, .unset, .unset, .unset, .unset] [(.ref b12)])) (fun t k => ?_) ?_
  · show Steps p.tables e below (T4.setTop (mkF m 19 #[.val (.int x0), .val (.int x1), .val (.int v1), .val (.int v2), .unset, .unset, .unset, .unset, .unset, .unset, .unset, .unset, .unset, .unset] [(.ref b12)])) t
    refine XS.astore X4.here hx rfl (hb hby at_19) rfl rfl (l' := #[.val (.int x0), .val (.int x1), .val (.int v1), .val (.int v2), .val (.ref b12), .unset, .unset, .unset, .unset, .unset, .unset, .unset, .unset, .unset]) rfl ?_
    show Steps p.tables e below (T4.setTop (mkF m 21 #[.val (.int x0), .val (.int x1), .val (.int v1), .val (.int v2), .val (.ref b12), .unset, .unset, .unset, .unset, .unset, .unset, .unset, .unset, .unset] [])) t
    refine XS.aload X4.here hx rfl (hb hby at_21) rfl rfl ?_
    exact k
  refine bindE hr ?_; intro r5 hr5m hr
  obtain ⟨cq5, kq5, q5a, q5b, q5c⟩ := isOf hZ e4 E_b12_4
  obtain ⟨_, _, ⟨T5, L5, k5, n5⟩, -, X5, ⟨Lc5, hQ5, l5, y5, z5⟩, st5⟩ := X4.virtualBack hx (y := (⟨"com/example/postloop/postloop/IdPool", "take", "()I"⟩ : MethodName)) (z := (⟨"com/example/postloop/postloop/IdPool", "take", "()I"⟩ : MethodName)) hown (mvT hZ (hw _ (List.mem_of_getElem? (i := 13) rfl))) (mvT hZ (hw _ (List.mem_of_getElem? (i := 14) rfl))) (notFace_of_selects (args := #[]) (mvT hZ (hw _ (List.mem_of_getElem? (i := 16) rfl)))) (mvT hZ (hw _ (List.mem_of_getElem? (i := 16) rfl))) (mvT hZ (hw _ (List.mem_of_getElem? (i := 15) rfl))) (by decide) (backOf (W := 0) (rm3 l Z a0 hw [] b12 b16_0 (0 : Int32) (0 : Int32) r4 h4 n0 zz4 (by omega) (by omega) E_b12_4 F_b12_free_4 F_b12_freeCount_4 F_b12_next_4 A_b16_0_4 r5 hr5m) hZ (hw _ (List.mem_of_getElem? (i := 17) rfl)) (hw _ (List.mem_of_getElem? (i := 3) rfl)) (by decide) (by decide)) q5a q5c (g := (mkF m 23 #[.val (.int x0), .val (.int x1), .val (.int v1), .val (.int v2), .val (.ref b12), .unset, .unset, .unset, .unset, .unset, .unset, .unset, .unset, .unset] [(.ref b12)])) rfl (by rw [hml]; rfl) (Steps.refl _) (argsL := []) (rest := []) (lenOf pd_1 rfl) rfl (by show 2 * 0 + _ ≤ _; exact Nat.le_of_eq rfl) (hb hby at_23) (fun _ _ => ⟨rfl, e4, (by show ((cells + 1) + 1) + 0 ≤ 16; omega), (by show ((slots + 3) + 16) + 0 ≤ 128; omega)⟩)
  dsimp only [Pt.U, Pt.locs, Pt.cells, Pt.slots] at X5 l5 y5 z5 st5 hQ5
  replace y5 := y5.symm; replace z5 := z5.symm; subst l5 y5 z5
  obtain ⟨h5, e5⟩ : ∃ z, T5.heap = z := ⟨_, rfl⟩
  rw [e5] at hQ5
  obtain ⟨rfl, N5q, K5q, E_b12_5, F_b12_free_5, F_b12_freeCount_5, F_b12_next_5⟩ := hQ5
  have N5 := Fr.app N4 N5q
  have A_b16_0_5 := A_b16_0_4.keep K5q (ninS (by omega : @Ne Nat b16_0 b12) nin0)
  have zz5 : n0 ≤ h5.size := Nat.le_trans zz4 K5q.1
  refine Runs.via (T' := T5) (g' := (mkF m 26 #[.val (.int x0), .val (.int x1), .val (.int v1), .val (.int v2), .val (.ref b12), .unset, .unset, .unset, .unset, .unset, .unset, .unset, .unset, .unset] [(.int r5.1)])) (fun t k => st5.trans k) ?_
  refine Runs.via (T' := T5) (g' := (mkF m 30 #[.val (.int x0), .val (.int x1), .val (.int v1), .val (.int v2), .val (.ref b12), .val (.int r5.1), .unset, .unset, .unset, .unset, .unset, .unset, .unset, .unset] [(.ref b12)])) (fun t k => ?_) ?_
  · show Steps p.tables e below (T5.setTop (mkF m 26 #[.val (.int x0), .val (.int x1), .val (.int v1), .val (.int v2), .val (.ref b12), .unset, .unset, .unset, .unset, .unset, .unset, .unset, .unset, .unset] [(.int r5.1)])) t
    refine XS.istore X5.here hx rfl (hb hby at_26) rfl (l' := #[.val (.int x0), .val (.int x1), .val (.int v1), .val (.int v2), .val (.ref b12), .val (.int r5.1), .unset, .unset, .unset, .unset, .unset, .unset, .unset, .unset]) rfl ?_
    show Steps p.tables e below (T5.setTop (mkF m 28 #[.val (.int x0), .val (.int x1), .val (.int v1), .val (.int v2), .val (.ref b12), .val (.int r5.1), .unset, .unset, .unset, .unset, .unset, .unset, .unset, .unset] [])) t
    refine XS.aload X5.here hx rfl (hb hby at_28) rfl rfl ?_
    exact k
  refine bindE hr ?_; intro r6 hr6m hr
  obtain ⟨cq6, kq6, q6a, q6b, q6c⟩ := isOf hZ e5 E_b12_5
  obtain ⟨_, _, ⟨T6, L6, k6, n6⟩, -, X6, ⟨Lc6, hQ6, l6, y6, z6⟩, st6⟩ := X5.virtualBack hx (y := (⟨"com/example/postloop/postloop/IdPool", "take", "()I"⟩ : MethodName)) (z := (⟨"com/example/postloop/postloop/IdPool", "take", "()I"⟩ : MethodName)) hown (mvT hZ (hw _ (List.mem_of_getElem? (i := 13) rfl))) (mvT hZ (hw _ (List.mem_of_getElem? (i := 14) rfl))) (notFace_of_selects (args := #[]) (mvT hZ (hw _ (List.mem_of_getElem? (i := 16) rfl)))) (mvT hZ (hw _ (List.mem_of_getElem? (i := 16) rfl))) (mvT hZ (hw _ (List.mem_of_getElem? (i := 15) rfl))) (by decide) (backOf (W := 0) (rm3 l Z a0 hw [] b12 b16_0 r5.2.1 r5.2.2 r4 h5 n0 zz5 (by omega) (by omega) E_b12_5 F_b12_free_5 F_b12_freeCount_5 F_b12_next_5 A_b16_0_5 r6 hr6m) hZ (hw _ (List.mem_of_getElem? (i := 17) rfl)) (hw _ (List.mem_of_getElem? (i := 3) rfl)) (by decide) (by decide)) q6a q6c (g := (mkF m 30 #[.val (.int x0), .val (.int x1), .val (.int v1), .val (.int v2), .val (.ref b12), .val (.int r5.1), .unset, .unset, .unset, .unset, .unset, .unset, .unset, .unset] [(.ref b12)])) rfl (by rw [hml]; rfl) (Steps.refl _) (argsL := []) (rest := []) (lenOf pd_1 rfl) rfl (by show 2 * 0 + _ ≤ _; exact Nat.le_of_eq rfl) (hb hby at_30) (fun _ _ => ⟨rfl, e5, (by show (((cells + 1) + 1) + 0) + 0 ≤ 16; omega), (by show (((slots + 3) + 16) + 0) + 0 ≤ 128; omega)⟩)
  dsimp only [Pt.U, Pt.locs, Pt.cells, Pt.slots] at X6 l6 y6 z6 st6 hQ6
  replace y6 := y6.symm; replace z6 := z6.symm; subst l6 y6 z6
  obtain ⟨h6, e6⟩ : ∃ z, T6.heap = z := ⟨_, rfl⟩
  rw [e6] at hQ6
  obtain ⟨rfl, N6q, K6q, E_b12_6, F_b12_free_6, F_b12_freeCount_6, F_b12_next_6⟩ := hQ6
  have N6 := Fr.app N5 N6q
  have A_b16_0_6 := A_b16_0_5.keep K6q (ninS (by omega : @Ne Nat b16_0 b12) nin0)
  have zz6 : n0 ≤ h6.size := Nat.le_trans zz5 K6q.1
  refine Runs.via (T' := T6) (g' := (mkF m 33 #[.val (.int x0), .val (.int x1), .val (.int v1), .val (.int v2), .val (.ref b12), .val (.int r5.1), .unset, .unset, .unset, .unset, .unset, .unset, .unset, .unset] [(.int r6.1)])) (fun t k => st6.trans k) ?_
  refine Runs.via (T' := T6) (g' := (mkF m 37 #[.val (.int x0), .val (.int x1), .val (.int v1), .val (.int v2), .val (.ref b12), .val (.int r5.1), .val (.int r6.1), .unset, .unset, .unset, .unset, .unset, .unset, .unset] [(.ref b12)])) (fun t k => ?_) ?_
  · show Steps p.tables e below (T6.setTop (mkF m 33 #[.val (.int x0), .val (.int x1), .val (.int v1), .val (.int v2), .val (.ref b12), .val (.int r5.1), .unset, .unset, .unset, .unset, .unset, .unset, .unset, .unset] [(.int r6.1)])) t
    refine XS.istore X6.here hx rfl (hb hby at_33) rfl (l' := #[.val (.int x0), .val (.int x1), .val (.int v1), .val (.int v2), .val (.ref b12), .val (.int r5.1), .val (.int r6.1), .unset, .unset, .unset, .unset, .unset, .unset, .unset]) rfl ?_
    show Steps p.tables e below (T6.setTop (mkF m 35 #[.val (.int x0), .val (.int x1), .val (.int v1), .val (.int v2), .val (.ref b12), .val (.int r5.1), .val (.int r6.1), .unset, .unset, .unset, .unset, .unset, .unset, .unset] [])) t
    refine XS.aload X6.here hx rfl (hb hby at_35) rfl rfl ?_
    exact k
  refine bindE hr ?_; intro r7 hr7m hr
  obtain ⟨cq7, kq7, q7a, q7b, q7c⟩ := isOf hZ e6 E_b12_6
  obtain ⟨_, _, ⟨T7, L7, k7, n7⟩, -, X7, ⟨Lc7, hQ7, l7, y7, z7⟩, st7⟩ := X6.virtualBack hx (y := (⟨"com/example/postloop/postloop/IdPool", "take", "()I"⟩ : MethodName)) (z := (⟨"com/example/postloop/postloop/IdPool", "take", "()I"⟩ : MethodName)) hown (mvT hZ (hw _ (List.mem_of_getElem? (i := 13) rfl))) (mvT hZ (hw _ (List.mem_of_getElem? (i := 14) rfl))) (notFace_of_selects (args := #[]) (mvT hZ (hw _ (List.mem_of_getElem? (i := 16) rfl)))) (mvT hZ (hw _ (List.mem_of_getElem? (i := 16) rfl))) (mvT hZ (hw _ (List.mem_of_getElem? (i := 15) rfl))) (by decide) (backOf (W := 0) (rm3 l Z a0 hw [] b12 b16_0 r6.2.1 r6.2.2 r4 h6 n0 zz6 (by omega) (by omega) E_b12_6 F_b12_free_6 F_b12_freeCount_6 F_b12_next_6 A_b16_0_6 r7 hr7m) hZ (hw _ (List.mem_of_getElem? (i := 17) rfl)) (hw _ (List.mem_of_getElem? (i := 3) rfl)) (by decide) (by decide)) q7a q7c (g := (mkF m 37 #[.val (.int x0), .val (.int x1), .val (.int v1), .val (.int v2), .val (.ref b12), .val (.int r5.1), .val (.int r6.1), .unset, .unset, .unset, .unset, .unset, .unset, .unset] [(.ref b12)])) rfl (by rw [hml]; rfl) (Steps.refl _) (argsL := []) (rest := []) (lenOf pd_1 rfl) rfl (by show 2 * 0 + _ ≤ _; exact Nat.le_of_eq rfl) (hb hby at_37) (fun _ _ => ⟨rfl, e6, (by show ((((cells + 1) + 1) + 0) + 0) + 0 ≤ 16; omega), (by show ((((slots + 3) + 16) + 0) + 0) + 0 ≤ 128; omega)⟩)
  dsimp only [Pt.U, Pt.locs, Pt.cells, Pt.slots] at X7 l7 y7 z7 st7 hQ7
  replace y7 := y7.symm; replace z7 := z7.symm; subst l7 y7 z7
  obtain ⟨h7, e7⟩ : ∃ z, T7.heap = z := ⟨_, rfl⟩
  rw [e7] at hQ7
  obtain ⟨rfl, N7q, K7q, E_b12_7, F_b12_free_7, F_b12_freeCount_7, F_b12_next_7⟩ := hQ7
  have N7 := Fr.app N6 N7q
  have A_b16_0_7 := A_b16_0_6.keep K7q (ninS (by omega : @Ne Nat b16_0 b12) nin0)
  have zz7 : n0 ≤ h7.size := Nat.le_trans zz6 K7q.1
  refine Runs.via (T' := T7) (g' := (mkF m 40 #[.val (.int x0), .val (.int x1), .val (.int v1), .val (.int v2), .val (.ref b12), .val (.int r5.1), .val (.int r6.1), .unset, .unset, .unset, .unset, .unset, .unset, .unset] [(.int r7.1)])) (fun t k => st7.trans k) ?_
  refine Runs.via (T' := T7) (g' := (mkF m 44 #[.val (.int x0), .val (.int x1), .val (.int v1), .val (.int v2), .val (.ref b12), .val (.int r5.1), .val (.int r6.1), .val (.int r7.1), .unset, .unset, .unset, .unset, .unset, .unset] [(.int r5.1)])) (fun t k => ?_) ?_
  · show Steps p.tables e below (T7.setTop (mkF m 40 #[.val (.int x0), .val (.int x1), .val (.int v1), .val (.int v2), .val (.ref b12), .val (.int r5.1), .val (.int r6.1), .unset, .unset, .unset, .unset, .unset, .unset, .unset] [(.int r7.1)])) t
    refine XS.istore X7.here hx rfl (hb hby at_40) rfl (l' := #[.val (.int x0), .val (.int x1), .val (.int v1), .val (.int v2), .val (.ref b12), .val (.int r5.1), .val (.int r6.1), .val (.int r7.1), .unset, .unset, .unset, .unset, .unset, .unset]) rfl ?_
    show Steps p.tables e below (T7.setTop (mkF m 42 #[.val (.int x0), .val (.int x1), .val (.int v1), .val (.int v2), .val (.ref b12), .val (.int r5.1), .val (.int r6.1), .val (.int r7.1), .unset, .unset, .unset, .unset, .unset, .unset] [])) t
    refine XS.iload X7.here hx rfl (hb hby at_42) rfl ?_
    exact k
  refine iteE hr (fun hc8 hr => ?_) (fun hc8 hr => ?_)
  · refine Runs.via (T' := T7) (g' := (mkF m 47 #[.val (.int x0), .val (.int x1), .val (.int v1), .val (.int v2), .val (.ref b12), .val (.int r5.1), .val (.int r6.1), .val (.int r7.1), .unset, .unset, .unset, .unset, .unset, .unset] [])) (fun t k => ?_) ?_
    · show Steps p.tables e below (T7.setTop (mkF m 44 #[.val (.int x0), .val (.int x1), .val (.int v1), .val (.int v2), .val (.ref b12), .val (.int r5.1), .val (.int r6.1), .val (.int r7.1), .unset, .unset, .unset, .unset, .unset, .unset] [(.int r5.1)])) t
      exact XS.ifNo X7.here hx rfl (hb hby at_44) rfl ((if0 _ _).trans (teq hc8).2) k
    refine Runs.via (T' := T7) (g' := (mkF m 50 #[.val (.int x0), .val (.int x1), .val (.int v1), .val (.int v2), .val (.ref b12), .val (.int r5.1), .val (.int r6.1), .val (.int r7.1), .unset, .unset, .unset, .unset, .unset, .unset] [(.int (1 : Int32)), (.int r6.1)])) (fun t k => ?_) ?_
    · show Steps p.tables e below (T7.setTop (mkF m 47 #[.val (.int x0), .val (.int x1), .val (.int v1), .val (.int v2), .val (.ref b12), .val (.int r5.1), .val (.int r6.1), .val (.int r7.1), .unset, .unset, .unset, .unset, .unset, .unset] [])) t
      refine XS.iload X7.here hx rfl (hb hby at_47) rfl ?_
      show Steps p.tables e below (T7.setTop (mkF m 49 #[.val (.int x0), .val (.int x1), .val (.int v1), .val (.int v2), .val (.ref b12), .val (.int r5.1), .val (.int r6.1), .val (.int r7.1), .unset, .unset, .unset, .unset, .unset, .unset] [(.int r6.1)])) t
      refine XS.iconst X7.here hx rfl (hb hby at_49) ?_
      exact k
    refine iteE hr (fun hc9 hr => ?_) (fun hc9 hr => ?_)
    · refine Runs.via (T' := T7) (g' := (mkF m 53 #[.val (.int x0), .val (.int x1), .val (.int v1), .val (.int v2), .val (.ref b12), .val (.int r5.1), .val (.int r6.1), .val (.int r7.1), .unset, .unset, .unset, .unset, .unset, .unset] [])) (fun t k => ?_) ?_
      · show Steps p.tables e below (T7.setTop (mkF m 50 #[.val (.int x0), .val (.int x1), .val (.int v1), .val (.int v2), .val (.ref b12), .val (.int r5.1), .val (.int r6.1), .val (.int r7.1), .unset, .unset, .unset, .unset, .unset, .unset] [(.int (1 : Int32)), (.int r6.1)])) t
        exact XS.icmpNo X7.here hx rfl (hb hby at_50) rfl (teq hc9).2 k
      refine Runs.via (T' := T7) (g' := (mkF m 56 #[.val (.int x0), .val (.int x1), .val (.int v1), .val (.int v2), .val (.ref b12), .val (.int r5.1), .val (.int r6.1), .val (.int r7.1), .unset, .unset, .unset, .unset, .unset, .unset] [(.int (2 : Int32)), (.int r7.1)])) (fun t k => ?_) ?_
      · show Steps p.tables e below (T7.setTop (mkF m 53 #[.val (.int x0), .val (.int x1), .val (.int v1), .val (.int v2), .val (.ref b12), .val (.int r5.1), .val (.int r6.1), .val (.int r7.1), .unset, .unset, .unset, .unset, .unset, .unset] [])) t
        refine XS.iload X7.here hx rfl (hb hby at_53) rfl ?_
        show Steps p.tables e below (T7.setTop (mkF m 55 #[.val (.int x0), .val (.int x1), .val (.int v1), .val (.int v2), .val (.ref b12), .val (.int r5.1), .val (.int r6.1), .val (.int r7.1), .unset, .unset, .unset, .unset, .unset, .unset] [(.int r7.1)])) t
        refine XS.iconst X7.here hx rfl (hb hby at_55) ?_
        exact k
      refine iteE hr (fun hc10 hr => ?_) (fun hc10 hr => ?_)
      · refine Runs.via (T' := T7) (g' := (mkF m 59 #[.val (.int x0), .val (.int x1), .val (.int v1), .val (.int v2), .val (.ref b12), .val (.int r5.1), .val (.int r6.1), .val (.int r7.1), .unset, .unset, .unset, .unset, .unset, .unset] [])) (fun t k => ?_) ?_
        · show Steps p.tables e below (T7.setTop (mkF m 56 #[.val (.int x0), .val (.int x1), .val (.int v1), .val (.int v2), .val (.ref b12), .val (.int r5.1), .val (.int r6.1), .val (.int r7.1), .unset, .unset, .unset, .unset, .unset, .unset] [(.int (2 : Int32)), (.int r7.1)])) t
          exact XS.icmpNo X7.here hx rfl (hb hby at_56) rfl (teq hc10).2 k
        refine Runs.via (T' := T7) (g' := (mkF m 64 #[.val (.int x0), .val (.int x1), .val (.int v1), .val (.int v2), .val (.ref b12), .val (.int r5.1), .val (.int r6.1), .val (.int r7.1), .unset, .unset, .unset, .unset, .unset, .unset] [(.int (1 : Int32))])) (fun t k => ?_) ?_
        · show Steps p.tables e below (T7.setTop (mkF m 59 #[.val (.int x0), .val (.int x1), .val (.int v1), .val (.int v2), .val (.ref b12), .val (.int r5.1), .val (.int r6.1), .val (.int r7.1), .unset, .unset, .unset, .unset, .unset, .unset] [])) t
          refine XS.iconst X7.here hx rfl (hb hby at_59) ?_
          show Steps p.tables e below (T7.setTop (mkF m 60 #[.val (.int x0), .val (.int x1), .val (.int v1), .val (.int v2), .val (.ref b12), .val (.int r5.1), .val (.int r6.1), .val (.int r7.1), .unset, .unset, .unset, .unset, .unset, .unset] [(.int (1 : Int32))])) t
          refine XS.goto X7.here hx rfl (pc0 := 60) (pc' := 64) rfl (hb hby at_60) (by decide) (by decide) ?_
          exact k
        exact b0_64 C X7 e7 N7 (by show (((((cells + 1) + 1) + 0) + 0) + 0) ≤ 2; omega) (by show (((((slots + 3) + 16) + 0) + 0) + 0) ≤ 19; omega) zz7 b12 b16_0 (by omega) (by omega) r7.2.1 r7.2.2 r4 x0 x1 v1 v2 r5.1 r6.1 r7.1 (1 : Int32) E_b12_7 F_b12_free_7 F_b12_freeCount_7 F_b12_next_7 A_b16_0_7 hr
      · refine Runs.via (T' := T7) (g' := (mkF m 63 #[.val (.int x0), .val (.int x1), .val (.int v1), .val (.int v2), .val (.ref b12), .val (.int r5.1), .val (.int r6.1), .val (.int r7.1), .unset, .unset, .unset, .unset, .unset, .unset] [])) (fun t k => ?_) ?_
        · show Steps p.tables e below (T7.setTop (mkF m 56 #[.val (.int x0), .val (.int x1), .val (.int v1), .val (.int v2), .val (.ref b12), .val (.int r5.1), .val (.int r6.1), .val (.int r7.1), .unset, .unset, .unset, .unset, .unset, .unset] [(.int (2 : Int32)), (.int r7.1)])) t
          exact XS.icmpYes X7.here hx rfl (pc0 := 56) (pc' := 63) rfl (hb hby at_56) rfl (feq hc10).2 (by decide) (by decide) k
        exact b0_63 C X7 e7 N7 (by show (((((cells + 1) + 1) + 0) + 0) + 0) ≤ 2; omega) (by show (((((slots + 3) + 16) + 0) + 0) + 0) ≤ 19; omega) zz7 b12 b16_0 (by omega) (by omega) r7.2.1 r7.2.2 r4 x0 x1 v1 v2 r5.1 r6.1 r7.1 E_b12_7 F_b12_free_7 F_b12_freeCount_7 F_b12_next_7 A_b16_0_7 hr
    · refine Runs.via (T' := T7) (g' := (mkF m 63 #[.val (.int x0), .val (.int x1), .val (.int v1), .val (.int v2), .val (.ref b12), .val (.int r5.1), .val (.int r6.1), .val (.int r7.1), .unset, .unset, .unset, .unset, .unset, .unset] [])) (fun t k => ?_) ?_
      · show Steps p.tables e below (T7.setTop (mkF m 50 #[.val (.int x0), .val (.int x1), .val (.int v1), .val (.int v2), .val (.ref b12), .val (.int r5.1), .val (.int r6.1), .val (.int r7.1), .unset, .unset, .unset, .unset, .unset, .unset] [(.int (1 : Int32)), (.int r6.1)])) t
        exact XS.icmpYes X7.here hx rfl (pc0 := 50) (pc' := 63) rfl (hb hby at_50) rfl (feq hc9).2 (by decide) (by decide) k
      exact b0_63 C X7 e7 N7 (by show (((((cells + 1) + 1) + 0) + 0) + 0) ≤ 2; omega) (by show (((((slots + 3) + 16) + 0) + 0) + 0) ≤ 19; omega) zz7 b12 b16_0 (by omega) (by omega) r7.2.1 r7.2.2 r4 x0 x1 v1 v2 r5.1 r6.1 r7.1 E_b12_7 F_b12_free_7 F_b12_freeCount_7 F_b12_next_7 A_b16_0_7 hr
  · refine Runs.via (T' := T7) (g' := (mkF m 63 #[.val (.int x0), .val (.int x1), .val (.int v1), .val (.int v2), .val (.ref b12), .val (.int r5.1), .val (.int r6.1), .val (.int r7.1), .unset, .unset, .unset, .unset, .unset, .unset] [])) (fun t k => ?_) ?_
    · show Steps p.tables e below (T7.setTop (mkF m 44 #[.val (.int x0), .val (.int x1), .val (.int v1), .val (.int v2), .val (.ref b12), .val (.int r5.1), .val (.int r6.1), .val (.int r7.1), .unset, .unset, .unset, .unset, .unset, .unset] [(.int r5.1)])) t
      exact XS.ifYes X7.here hx rfl (pc0 := 44) (pc' := 63) rfl (hb hby at_44) rfl ((if0 _ _).trans (feq hc8).2) (by decide) (by decide) k
    exact b0_63 C X7 e7 N7 (by show (((((cells + 1) + 1) + 0) + 0) + 0) ≤ 2; omega) (by show (((((slots + 3) + 16) + 0) + 0) + 0) ≤ 19; omega) zz7 b12 b16_0 (by omega) (by omega) r7.2.1 r7.2.2 r4 x0 x1 v1 v2 r5.1 r6.1 r7.1 E_b12_7 F_b12_free_7 F_b12_freeCount_7 F_b12_next_7 A_b16_0_7 hr
def f0 (x0 : Int32) (x1 : Int32) : Option (Int32) := g0_0 x0 x1
theorem pn_0 : plainName "com/example/postloop/postloop/IdPoolTakePinLaw" = true := by first | (simp [plainName, overriddenIn]; done) | decide +kernel
theorem ef_0 (m : MethodId) (x0 : Int32) (x1 : Int32) : entryFrame m #[(.int x0), (.int x1)] maxLocals = mkF m 0 #[.val (.int x0), .val (.int x1), .unset, .unset, .unset, .unset, .unset, .unset, .unset, .unset, .unset, .unset, .unset, .unset] [] := by first | (simp [entryFrame, mkF, argsToLocals, Value.category, maxLocals]; done) | rfl
set_option maxRecDepth 65536 in
set_option maxHeartbeats 4000000 in
theorem rm0 (l : Launch) (Z : State) (a0 : Array Value) (hw : ∀ d ∈ tables_1, d.before a0 Z = true) (ws : List Jvm.Cond) (x0 : Int32) (x1 : Int32) (hE : Heap) (n0 : Nat) (Z0 : n0 ≤ hE.size) (r : Int32) (hr : f0 x0 x1 = some r) :
    MetFree l x (head1 (Jvm.Cond.code x code maxLocals ret :: ws) room_1) (fun a U => a = #[(.int x0), (.int x1)] ∧ Z.Warmed39 U.vm ∧ U.heap = hE) (fun _ _ _ _ _ => True) (fun _ U o U' => ∃ v L, o = .returned v ∧ (P0 n0 r v U'.heap L) ∧ FrameEnd U o U' L 3 22) := by
  refine MetFree.of_bodySF (plainFor_of_name pn_0) hisR ?_
  intro p e s m args below meth c s₁ Bd hml0 hP hK
  obtain ⟨rfl, hZ, hh⟩ := hP
  have X0 : Stand p l e room_1 s m #[(.int x0), (.int x1)] below meth c s₁ [] 0 0 := Stand.of_body Bd
  have e0 : s₁.heap = hE := by rw [← hh, Bd.state]; rfl
  have C : Ctx p s m meth c Z a0 "com/example/postloop/postloop/IdPoolTakePinLaw" code 14 (some .boolean) "law" := ⟨Bd.exec, hZ, hw, Bd.bytes, hml0, findClass_of_methodNamed Bd.named, Bd.returns, BodyLoose.notSynchronized Bd, (name_of_methodNamed Bd.named Bd.method).1⟩
  refine Runs.via (fun t k => castTop (ef_0 m x0 x1) k) (b0_0 C X0 e0 (Fr.nil n0) (by show 0 ≤ 0; omega) (by show 0 ≤ 0; omega) Z0 x0 x1 hr)
end Own
theorem letS {α β : Type} {x : α} {k : α → β} {r : β} (H : k x = r) : letO x k = r := H
theorem own_irem (u d : Int32) (D : Int) (hd : d.toInt = D) (hD : 0 < D) (h0 : 0 ≤ u.toInt) : (u - (u / d) * d).toInt = u.toInt % D := by
  have hn : d ≠ -1 := fun q => by rw [q] at hd; have : (-1 : Int32).toInt = -1 := by decide
                                  omega
  have e1 := (c_idiv u d D hd hn).1 h0
  have e2 := c_imul (u / d) d
  have e3 := c_isub u ((u / d) * d)
  have r1 := rng32 u
  have r2 := rng32 ((u / d) * d)
  have r3 := rng32 (u - (u / d) * d)
  rw [hd, e1] at e2
  have e4 := Int.emod_add_mul_ediv u.toInt D
  have e5 := Int.emod_nonneg u.toInt (by omega : D ≠ 0)
  have e6 := Int.emod_lt_of_pos u.toInt hD
  have e7 : u.toInt / D * D = D * (u.toInt / D) := Int.mul_comm _ _
  rw [e7] at e2
  have e8 : 0 ≤ D * (u.toInt / D) := Int.mul_nonneg (by omega) (Int.ediv_nonneg h0 (by omega))
  omega
theorem own_pos (x : Int32) : 0 ≤ (x &&& (2147483647 : Int32)).toInt := by rw [c_mask x 2147483647 31 (by decide) (by decide)]; exact Int.emod_nonneg _ (by decide)
def own_core (v1 v2 : Int32) : Option Int32 := f0 v1 v2
theorem own_fin : ∀ a : Fin 4, ∀ b : Fin 6, f0 (Int32.ofNat a.val) (Int32.ofNat b.val) = some 1 := by decide +kernel
theorem own_nat (x : Int32) (h : 0 ≤ x.toInt) : Int32.ofNat x.toInt.toNat = x := by
  have r := rng32 x
  have e := len_toInt (n := x.toInt.toNat) (by omega)
  apply Int32.toInt_inj.mp
  show (Nat.toInt32 x.toInt.toNat).toInt = x.toInt
  rw [e]; omega
theorem own_law (x0 x1 : Int32) : f0 x0 x1 = some 1 := by
  have h1 := c_mask x0 3 2 (by decide) (by decide)
  have h2 := own_irem (x1 &&& (2147483647 : Int32)) 6 6 (by decide) (by decide) (own_pos x1)
  have b1 : 0 ≤ (x0 &&& (3 : Int32)).toInt ∧ (x0 &&& (3 : Int32)).toInt < 4 := by rw [h1]; exact ⟨Int.emod_nonneg _ (by decide), Int.emod_lt_of_pos _ (by decide)⟩
  have b2 : 0 ≤ ((x1 &&& (2147483647 : Int32)) - ((x1 &&& (2147483647 : Int32)) / 6) * 6).toInt ∧ ((x1 &&& (2147483647 : Int32)) - ((x1 &&& (2147483647 : Int32)) / 6) * 6).toInt < 6 := by rw [h2]; exact ⟨Int.emod_nonneg _ (by decide), Int.emod_lt_of_pos _ (by decide)⟩
  have e1 := own_nat _ b1.1
  have e2 := own_nat _ b2.1
  have hf := own_fin ⟨(x0 &&& (3 : Int32)).toInt.toNat, by omega⟩ ⟨((x1 &&& (2147483647 : Int32)) - ((x1 &&& (2147483647 : Int32)) / 6) * 6).toInt.toNat, by omega⟩
  simp only [e1, e2] at hf
  have same : ∀ a b a' b' : Int32, (a &&& (3 : Int32)) = (a' &&& (3 : Int32)) → ((b &&& (2147483647 : Int32)) - ((b &&& (2147483647 : Int32)) / 6) * 6) = ((b' &&& (2147483647 : Int32)) - ((b' &&& (2147483647 : Int32)) / 6) * 6) → f0 a b = f0 a' b' := by
    intro a b a' b' q1 q2
    unfold f0 g0_0
    rw [q1, q2]
  rw [← hf]
  refine same _ _ _ _ ?_ ?_
  · apply Int32.toInt_inj.mp
    have g1 := c_mask (x0 &&& (3 : Int32)) 3 2 (by decide) (by decide)
    rw [g1, h1]; simp
  · have g0 := c_mask ((x1 &&& (2147483647 : Int32)) - ((x1 &&& (2147483647 : Int32)) / 6) * 6) 2147483647 31 (by decide) (by decide)
    have g2 := own_irem (((x1 &&& (2147483647 : Int32)) - ((x1 &&& (2147483647 : Int32)) / 6) * 6) &&& (2147483647 : Int32)) 6 6 (by decide) (by decide) (own_pos _)
    apply Int32.toInt_inj.mp
    rw [g2, g0]
    have g3 : ((x1 &&& (2147483647 : Int32)) - ((x1 &&& (2147483647 : Int32)) / 6) * 6).toInt % ((2 ^ 31 : Nat) : Int) = ((x1 &&& (2147483647 : Int32)) - ((x1 &&& (2147483647 : Int32)) / 6) * 6).toInt := Int.emod_eq_of_lt b2.1 (by have := b2.2; omega)
    rw [g3]
    exact (Int.emod_eq_of_lt b2.1 b2.2).symm
set_option maxRecDepth 65536 in
set_option maxHeartbeats 40000000 in
theorem comes_1 {Post : Tables → Env → Array Value → State → Outcome → State → Prop} (hpost : ∀ tb e args s v u, (limb_1_1.after args s (.returned v) u = true ∧ limb_1_2.after args s (.returned v) u = true ∧ True) → FrameEnd s (.returned v) u (Jvm.fieldLocs frame_1_writes args s ++ Jvm.arrayLocs frame_1_arrays args s ++ Jvm.staticLocs frame_1_statics s) 16 128 → Post tb e args s (.returned v) u) :
    ArmFor flags0 classFile x code maxLocals ret World_1 tables_1 room_1 Calls_1 rest_1 Pre_1 Post := by
  intro l hfl _ _ p e ha hc hk s m args below hf hA hF happ hP
  obtain ⟨hcalls, hrest, hpre⟩ := hP
  obtain ⟨-, -, -, hnamed, -, -, -, hat⟩ := (Spec.applies_iff hf).mp happ
  obtain ⟨hg, hn⟩ := and_e (Cond.before_iff.mp (show (Jvm.Cond.and given_1 narrow_1).before args s = true from hpre))
  obtain ⟨g1, g2⟩ := and_e hg
  obtain ⟨g3, g4⟩ := and_e g2
  obtain ⟨w0, w1, rfl⟩ : ∃ w0 w1 : Value, args = #[w0, w1] := by
    have hs : args.size = 2 := by simpa [Cond.value, given_1] using g1
    obtain ⟨L⟩ := args
    match L, hs with
    | [w0, w1], _ => exact ⟨w0, w1, rfl⟩
  have hw := fun d (hd : d ∈ tables_1) => atoms_spec (ws := Jvm.Cond.code x code maxLocals ret :: tables_1) hat d (List.mem_cons_of_mem _ hd)
  obtain ⟨i0, ei0⟩ := is_v g3
  obtain rfl : w0 = (.int i0) := Option.some.inj ei0
  obtain ⟨i1, ei1⟩ := is_v g4
  obtain rfl : w1 = (.int i1) := Option.some.inj ei1
  have hone := own_law i0 i1
  obtain ⟨n, o, h1, h2, h3, _, L, rfl, ⟨rfl, N⟩, hq⟩ := rm0 l s _ hw tables_1 i0 i1 s.heap s.heap.size (Nat.le_refl _) _ hone p e ha hc hk s m _ below hf ((Spec.applies_iff_loose hf).mp happ).1 ⟨rfl, State.Warmed39.refl s, rfl⟩ trivial
  refine ⟨n, _, h1, h2, h3, hpost _ _ _ _ _ _ ⟨Cond.after_iff.mpr rfl, Cond.after_iff.mpr (eq_i res_at (Term.int_eval (1)) rfl), trivial⟩ ⟨hq.1, hq.2.1, (hq.2.2.sift fun y hy => Or.inr (N y hy)).mono (by decide) (by decide)⟩⟩
theorem main_1_1 : Claimed_1_1 := comes_1 fun _ _ _ _ _ _ h hF => ⟨h.1, hF⟩
theorem main_1_2 : Claimed_1_2 := comes_1 fun _ _ _ _ _ _ h hF => ⟨h.2.1, hF⟩
end Jvm.Pilot.@@N@@
namespace Jvm.Pilot.@@N@@
open Jvm Jvm.ClassFile Sem Op Lib Jvm.Free Jvm.Stand Jvm.Pilot.@@N@@.Jvm.D
/-! MADE BY PROGRAM (witnessworld.py) out of the Statement's table words and the real class files: 9 classes; the members and pool entries that the words name. The judged class is class 1, her method 1. -/
namespace start1
open Jvm.ClassFile
def u (s : String) : CpInfo := .utf8 (stringToUtf16 s)
/-- a pool by its gaps: so many unusable entries, then the entry; so many at the end -/
def gap : Nat → List CpInfo → List CpInfo
  | 0, r => r
  | n + 1, r => .unusable :: gap n r
def poolList (es : List (Nat × CpInfo)) (last : Nat) : List CpInfo := es.foldr (fun e r => gap e.1 (e.2 :: r)) (gap last [])
def pool (es : List (Nat × CpInfo)) (last : Nat) : Array CpInfo := ⟨poolList es last⟩
def fileOf (pool : Array CpInfo) (this : Nat) (attrs : Array Attribute := #[]) (ms : Array MethodInfo := #[]) (fl : Nat := 33) (sup : Nat := 0) (ifs : Array Nat := #[]) (fds : Array FieldInfo := #[]) : ClassFile where
  minorVersion := 0
  majorVersion := 65
  constantPool := pool
  accessFlags := fl
  thisClass := this
  superClass := sup
  interfaces := ifs
  fields := fds
  methods := ms
  attributes := attrs
def plain (name : String) (sup : Option ClassId) : Class where
  name := name
  kind := .ordinary
  loader := none
  accessFlags := 33
  super := sup
  interfaces := #[]
  cf := none
  fields := #[]
  methods := #[]
  instanceTypes := #[]
  staticTypes := #[]
  resolved := #[]
  callSites := []
  init := .initialized
  statics := none
  mirror := none

def pool0 : Array CpInfo := pool [(5, u "<init>"), (0, u "()V"), (1, .class_ 10), (1, u "java/lang/Object")] 113

def k0c0 : Code := { maxStack := 0, maxLocals := 1, code := object_method_1_code, exceptionTable := #[], attributes := #[] }
def k0m0 : Method := { name := "<init>", desc := "()V", sig := { parameters := [], returnType := none }, accessFlags := 1, code := some k0c0 }
/-- java/lang/Object -/
def k0 : Class := { plain "java/lang/Object" none with
  accessFlags := 33
  interfaces := #[]
  cf := some (fileOf pool0 8 #[] #[{ accessFlags := 1, nameIndex := 5, descriptorIndex := 6, attributes := #[] }] 33 0 #[] #[])
  fields := #[]
  methods := #[k0m0]
  instanceTypes := #[]
  staticTypes := #[]
  resolved := Array.replicate 124 none
  statics := none }

def pool1 : Array CpInfo := pool [(2, .class_ 4), (0, .nameAndType 5 6), (0, u "java/lang/Object"), (0, u "<init>"), (0, u "()V"), (0, .integer 2147483647), (0, .class_ 9), (0, u "com/example/postloop/postloop/IdPool"), (0, .methodref 8 3), (0, .methodref 8 12), (0, .nameAndType 13 14), (0, u "take"), (0, u "()I"), (0, .methodref 8 16), (0, .nameAndType 17 18), (0, u "give"), (0, u "(I)V"), (0, .class_ 20), (0, u "com/example/postloop/postloop/IdPoolTakePinLaw"), (2, u "law"), (0, u "(II)Z")] 5

def k1m0 : Method := { name := "<init>", desc := "()V", sig := { parameters := [], returnType := none }, accessFlags := 1, code := none }
def k1c1 : Code := { maxStack := 4, maxLocals := 14, code := code, exceptionTable := #[], attributes := #[] }
def k1m1 : Method := { name := "law", desc := "(II)Z", sig := { parameters := [.int, .int], returnType := some .boolean }, accessFlags := 9, code := some k1c1 }
/-- com/example/postloop/postloop/IdPoolTakePinLaw -/
def k1 : Class := { plain "com/example/postloop/postloop/IdPoolTakePinLaw" (some 0) with
  accessFlags := 49
  interfaces := #[]
  cf := some (fileOf pool1 19 #[] #[{ accessFlags := 1, nameIndex := 5, descriptorIndex := 6, attributes := #[] }, { accessFlags := 9, nameIndex := 23, descriptorIndex := 24, attributes := #[] }] 49 2 #[] #[])
  fields := #[]
  methods := #[k1m0, k1m1]
  instanceTypes := #[]
  staticTypes := #[]
  resolved := Array.replicate 30 none
  statics := none }

def pool2 : Array CpInfo := pool [(1, .methodref 2 3), (0, .class_ 4), (0, .nameAndType 5 6), (0, u "java/lang/Object"), (0, u "<init>"), (0, u "()V"), (0, .class_ 8), (0, u "com/example/postloop/postloop/IdPool"), (0, .fieldref 7 10), (0, .nameAndType 11 12), (0, u "free"), (0, u "[I"), (0, .fieldref 7 14), (0, .nameAndType 15 16), (0, u "freeCount"), (0, u "I"), (0, .fieldref 7 18), (0, .nameAndType 19 16), (0, u "next"), (6, u "NONE"), (2, u "INITIAL_FREE"), (3, u "take"), (0, u "()I"), (1, u "give"), (0, u "(I)V")] 2

def k2c0 : Code := { maxStack := 2, maxLocals := 1, code := prog_5_method_1_code, exceptionTable := #[], attributes := #[] }
def k2m0 : Method := { name := "<init>", desc := "()V", sig := { parameters := [], returnType := none }, accessFlags := 0, code := some k2c0 }
def k2c1 : Code := { maxStack := 3, maxLocals := 2, code := prog_5_method_2_code, exceptionTable := #[], attributes := #[] }
def k2m1 : Method := { name := "take", desc := "()I", sig := { parameters := [], returnType := some .int }, accessFlags := 0, code := some k2c1 }
def k2c2 : Code := { maxStack := 4, maxLocals := 2, code := prog_5_method_3_code, exceptionTable := #[], attributes := #[] }
def k2m2 : Method := { name := "give", desc := "(I)V", sig := { parameters := [.int], returnType := none }, accessFlags := 0, code := some k2c2 }
/-- com/example/postloop/postloop/IdPool -/
def k2 : Class := { plain "com/example/postloop/postloop/IdPool" (some 0) with
  accessFlags := 32
  interfaces := #[]
  cf := some (fileOf pool2 7 #[] #[{ accessFlags := 0, nameIndex := 5, descriptorIndex := 6, attributes := #[] }, { accessFlags := 0, nameIndex := 33, descriptorIndex := 34, attributes := #[] }, { accessFlags := 0, nameIndex := 36, descriptorIndex := 37, attributes := #[] }] 32 2 #[] #[{ accessFlags := 24, nameIndex := 26, descriptorIndex := 16, attributes := #[] }, { accessFlags := 26, nameIndex := 29, descriptorIndex := 16, attributes := #[] }, { accessFlags := 2, nameIndex := 11, descriptorIndex := 12, attributes := #[] }, { accessFlags := 2, nameIndex := 15, descriptorIndex := 16, attributes := #[] }, { accessFlags := 2, nameIndex := 19, descriptorIndex := 16, attributes := #[] }])
  fields := #[{ name := "NONE", type := .int, accessFlags := 24, slot := 0, constantValue := 0 }, { name := "INITIAL_FREE", type := .int, accessFlags := 26, slot := 1, constantValue := 0 }, { name := "free", type := (.array .int), accessFlags := 2, slot := 0, constantValue := 0 }, { name := "freeCount", type := .int, accessFlags := 2, slot := 1, constantValue := 0 }, { name := "next", type := .int, accessFlags := 2, slot := 2, constantValue := 0 }]
  methods := #[k2m0, k2m1, k2m2]
  instanceTypes := #[(.array .int), .int, .int]
  staticTypes := #[.int, .int]
  resolved := Array.replicate 40 none
  statics := none }

def pool3 : Array CpInfo := pool [(1, u "java/lang/Cloneable"), (0, .class_ 1), (0, u "java/lang/Object"), (0, .class_ 3)] 3

/-- java/lang/Cloneable -/
def k3 : Class := { plain "java/lang/Cloneable" (some 0) with
  accessFlags := 1537
  interfaces := #[]
  cf := some (fileOf pool3 2 #[] #[] 1537 4 #[] #[])
  fields := #[]
  methods := #[]
  instanceTypes := #[]
  staticTypes := #[]
  resolved := Array.replicate 8 none
  statics := none }

def pool4 : Array CpInfo := pool [(1, u "java/io/Serializable"), (0, .class_ 1), (0, u "java/lang/Object"), (0, .class_ 3)] 3

/-- java/io/Serializable -/
def k4 : Class := { plain "java/io/Serializable" (some 0) with
  accessFlags := 1537
  interfaces := #[]
  cf := some (fileOf pool4 2 #[] #[] 1537 4 #[] #[])
  fields := #[]
  methods := #[]
  instanceTypes := #[]
  staticTypes := #[]
  resolved := Array.replicate 8 none
  statics := none }

/-- the primitive byte -/
def k5 : Class := { plain "byte" none with kind := .primitive 'B', accessFlags := 0x411 }
/-- [B -/
def k6 : Class := { plain "[B" (some 0) with kind := .array 5 .byte, interfaces := #[3, 4], accessFlags := 1041 }

/-- the primitive int -/
def k7 : Class := { plain "int" none with kind := .primitive 'I', accessFlags := 0x411 }
/-- [I -/
def k8 : Class := { plain "[I" (some 0) with kind := .array 7 .int, interfaces := #[3, 4], accessFlags := 1041 }

def heap : Heap := #[]
def classes : Array Class := #[k0, k1, k2, k3, k4, k5, k6, k7, k8]
def interned : List (Array UInt16 × Addr) := []
def slotsUsed : Nat := 0
def theMethod : MethodId := ⟨1, 1⟩
def args0 : Array Value := #[.int 2, .int 3]
def aboutOver (below : List Frame) : State where
  vm := { classes := classes, interned := interned.toArray }
  heap := heap
  slotsUsed := slotsUsed
  threads := #[{ frames := .invoking theMethod args0 :: below }]
def below0 : List Frame := [.native { method := ⟨0, 0⟩, args := #[] }]
def about1 : State := aboutOver below0
def p0 : Program := .bare "" "" ""
def e0 : Env := launch0.env 0 0 0
theorem w_frames : about1.frames = Frame.invoking theMethod args0 :: below0 := rfl
set_option maxRecDepth 65536 in
theorem w_args : argsFit about1.vm theMethod args0 = true := by decide +kernel
set_option maxRecDepth 65536 in
theorem w_heap : heapFits about1 = true := by decide +kernel
set_option maxRecDepth 65536 in
theorem w_runnable : about1.curStatus? = some .runnable := by decide +kernel
set_option maxRecDepth 65536 in
theorem w_alone : about1.alone = true := by decide +kernel
set_option maxRecDepth 65536 in
theorem w_named : about1.methodNamed? x = some theMethod := by decide +kernel
set_option maxRecDepth 65536 in
theorem w_hears : about1.hears theMethod below0 = true := by decide +kernel
set_option maxRecDepth 65536 in
theorem w_ripe : about1.ripe theMethod args0 below0 = true := by decide +kernel
theorem w_running : about1.status = .running := rfl
set_option maxRecDepth 65536 in
theorem w_room : about1.hasRoom e0.platform room_1 = true :=
  launch0.hasRoom_least _ room_1 (by decide +kernel) (by decide +kernel) (by decide +kernel) (by decide +kernel) (by decide +kernel) (by decide +kernel)
theorem allAtoms_all (ts : List Jvm.Cond) (a : Array Jvm.Value) (st : Jvm.State) : (allAtoms ts).before a st = ts.all (fun c => c.before a st) := by
  induction ts with
  | nil => rfl
  | cons c t ih =>
    show (Jvm.Cond.and c (allAtoms t)).before a st = _
    rw [Jvm.Cond.before_and, ih, List.all_cons]
def words1 : List Jvm.Cond := Jvm.Cond.code x code maxLocals ret :: tables_1
/-- a 'code' word, met by the world's own term for the bytes: nothing is compared byte by byte -/
theorem code_word {y : MethodName} {bytes : ByteArray} {mx : Nat} {rt : Option FieldType} {a : Array Value} {s : State} {m : MethodId} {meth : Method} {c : Code} (h1 : s.methodNamed? y = some m) (h2 : s.vm.method? m = some meth) (h3 : meth.code = some c) (h4 : c.code = bytes)
    (h5 : (c.maxLocals == mx && c.exceptionTable.isEmpty && decide (c.maxStack ≤ mostOperands) && decide (meth.sig.returnType = rt) && !meth.locks && decide (parseMethodDescriptor y.desc = some meth.sig)) = true) : (Jvm.Cond.code y bytes mx rt).before a s = true := by
  simp only [Bool.and_eq_true, beq_iff_eq, Bool.not_eq_true', decide_eq_true_eq] at h5
  obtain ⟨⟨⟨⟨⟨g1, g2⟩, g3⟩, g4⟩, g5⟩, g6⟩ := h5
  simp [Cond.before, Cond.holds, Cond.value, h1, h2, h3, h4, g1, g2, g3, g4, g5, g6]
def isCode : Jvm.Cond → Bool
  | .code _ _ _ _ => true
  | _ => false
theorem all_split {L : List Jvm.Cond} {P : Jvm.Cond → Bool} (h1 : L.all (fun c => isCode c || P c) = true) (h2 : ∀ c ∈ L.filter isCode, P c = true) : L.all P = true := by
  refine List.all_eq_true.mpr fun c hc => ?_
  have h := List.all_eq_true.mp h1 c hc
  rcases Bool.eq_false_or_eq_true (isCode c) with hi | hi
  · exact h2 c (List.mem_filter.mpr ⟨hc, hi⟩)
  · simpa [hi] using h
set_option maxRecDepth 65536 in
theorem w_c0 : (Jvm.Cond.code x code maxLocals ret).before args0 about1 = true := code_word (m := ⟨1, 1⟩) (meth := k1m1) (c := k1c1) (by decide +kernel) rfl rfl rfl (by decide +kernel)
set_option maxRecDepth 65536 in
theorem w_c1 : (Jvm.Cond.code ({ cls := "com/example/postloop/postloop/IdPool", name := "<init>", desc := "()V" } : Jvm.MethodName) prog_5_method_1_code (1 : Nat) (Option.none : Option Jvm.ClassFile.FieldType)).before args0 about1 = true := code_word (m := ⟨2, 0⟩) (meth := k2m0) (c := k2c0) (by decide +kernel) rfl rfl rfl (by decide +kernel)
set_option maxRecDepth 65536 in
theorem w_c2 : (Jvm.Cond.code ({ cls := "java/lang/Object", name := "<init>", desc := "()V" } : Jvm.MethodName) object_method_1_code (1 : Nat) (Option.none : Option Jvm.ClassFile.FieldType)).before args0 about1 = true := code_word (m := ⟨0, 0⟩) (meth := k0m0) (c := k0c0) (by decide +kernel) rfl rfl rfl (by decide +kernel)
set_option maxRecDepth 65536 in
theorem w_c3 : (Jvm.Cond.code ({ cls := "com/example/postloop/postloop/IdPool", name := "take", desc := "()I" } : Jvm.MethodName) prog_5_method_2_code (2 : Nat) (Option.some Jvm.ClassFile.FieldType.int)).before args0 about1 = true := code_word (m := ⟨2, 1⟩) (meth := k2m1) (c := k2c1) (by decide +kernel) rfl rfl rfl (by decide +kernel)
set_option maxRecDepth 65536 in
theorem w_c4 : (Jvm.Cond.code ({ cls := "com/example/postloop/postloop/IdPool", name := "give", desc := "(I)V" } : Jvm.MethodName) prog_5_method_3_code (2 : Nat) (Option.none : Option Jvm.ClassFile.FieldType)).before args0 about1 = true := code_word (m := ⟨2, 2⟩) (meth := k2m2) (c := k2c2) (by decide +kernel) rfl rfl rfl (by decide +kernel)
def codes1 : List Jvm.Cond := [Jvm.Cond.code x code maxLocals ret, Jvm.Cond.code ({ cls := "com/example/postloop/postloop/IdPool", name := "<init>", desc := "()V" } : Jvm.MethodName) prog_5_method_1_code (1 : Nat) (Option.none : Option Jvm.ClassFile.FieldType), Jvm.Cond.code ({ cls := "java/lang/Object", name := "<init>", desc := "()V" } : Jvm.MethodName) object_method_1_code (1 : Nat) (Option.none : Option Jvm.ClassFile.FieldType), Jvm.Cond.code ({ cls := "com/example/postloop/postloop/IdPool", name := "take", desc := "()I" } : Jvm.MethodName) prog_5_method_2_code (2 : Nat) (Option.some Jvm.ClassFile.FieldType.int), Jvm.Cond.code ({ cls := "com/example/postloop/postloop/IdPool", name := "give", desc := "(I)V" } : Jvm.MethodName) prog_5_method_3_code (2 : Nat) (Option.none : Option Jvm.ClassFile.FieldType)]
set_option maxRecDepth 65536 in
theorem codes_eq : words1.filter isCode = codes1 := rfl
theorem w_codes : ∀ c ∈ words1.filter isCode, c.before args0 about1 = true := by
  rw [codes_eq]
  intro c hc
  simp only [codes1, List.mem_cons, List.not_mem_nil, or_false] at hc
  rcases hc with rfl | rfl | rfl | rfl | rfl
  · exact w_c0
  · exact w_c1
  · exact w_c2
  · exact w_c3
  · exact w_c4
set_option maxRecDepth 65536 in
theorem w_t1 : (words1.take 24).all (fun c => isCode c || c.before args0 about1) = true := by decide +kernel
set_option maxRecDepth 65536 in
theorem w_t2 : (words1.drop 24).all (fun c => isCode c || c.before args0 about1) = true := by decide +kernel
theorem w_tables : (allAtoms (Jvm.Cond.code x code maxLocals ret :: tables_1)).before args0 about1 = true := by
  rw [allAtoms_all]
  show words1.all (fun c => c.before args0 about1) = true
  refine all_split ?_ w_codes
  rw [← List.take_append_drop 24 words1, List.all_append, w_t1, w_t2]
  rfl
set_option maxRecDepth 65536 in
theorem w_case : (Jvm.Cond.and given_1 narrow_1).before args0 about1 = true := by decide +kernel
theorem w_applies : (headSpec (Jvm.Cond.code x code maxLocals ret :: tables_1) room_1).applies x e0.platform about1 = true :=
  (Spec.applies_iff w_frames).mpr ⟨w_running, w_runnable, w_alone, w_named, w_hears, w_ripe, w_room, w_tables⟩
theorem atStart : AtStart classFile x code maxLocals ret World_1 tables_1 room_1 Calls_1 rest_1 Pre_1 launch0 p0 e0 about1 theMethod args0 below0 :=
  ⟨lists_1, trivial, launch0.admits_env _ _ _, launch0.least_env, fairChoices_fair.cas, fairChoices_fair.clock, w_frames, w_args, w_heap, w_applies, trivial, trivial, w_case⟩
end start1
theorem witness_1 : WitnessClaimed_1 := ⟨start1.p0, start1.e0, start1.about1, start1.theMethod, start1.args0, start1.below0, start1.atStart⟩
end Jvm.Pilot.@@N@@
