import JvmDerived
import JvmDerived.Pilot.@@N@@Statement
import JvmDerived.Pilot.@@N@@Code
set_option linter.unusedVariables false
set_option linter.unusedSimpArgs false
namespace Jvm.RoadKit
open Sem ClassFile Op Lib Jvm.Stand Jvm.Free Jvm.LawKit
section New
variable {p : Program} {l : Launch} {e : Env} {R : Room} {s : State} {m : MethodId} {args : Array Value} {below : List Frame} {meth : Method} {c : Code} {T : State} {locs : List Loc} {cells slots : Nat}
theorem retI (X : Stand p l e R s m args below meth c T locs cells slots) (hx : p.tables.exec = Jvm.exec) {pc : Nat} {Ls : Array Slot} {z : Int32} {rest : List Value} (hret : meth.sig.returnType = some .int) (hd : decode c.code pc = .ok (.ireturn, 1)) {fs : List Frame}
    (hl : ∀ (f : JFrame) (acts : List Action), f.method = m → f.locked = none → f.entered = [] → (doReturn e (T.setTop f) acts (some (.int z))).1 = T.setFrames fs) : Steps p.tables e below (T.setTop (mkF m pc Ls (.int z :: rest))) (T.setFrames fs) := by
  have hm' : T.vm.method? m = some meth := X.method'
  have hn : narrow .int (.int z) = .int z := rfl
  show Steps p.tables e below (T.setTop { method := m, pc := pc, locals := Ls, stack := _ :: rest, locked := none }) _
  jvm_step X.here [X.here.top, hx, hd, hm', hret, hn]
  first | (intro acts; rw [hl _ acts rfl rfl rfl]) | rw [hl _ _ rfl rfl rfl]
  exact Steps.refl _
end New
end Jvm.RoadKit
namespace Jvm.Pilot.@@N@@
open Jvm Jvm.ClassFile Sem Op Lib Jvm.Free Jvm.Stand Jvm.LawKit Jvm.RoadKit Bundle Jvm.Pilot.@@N@@.Jvm.D
def QP (r : Option Value) (h0 : Heap) (n0 : Nat) (v : Option Value) (h : Heap) (L : List Loc) : Prop := v = r ∧ Fr n0 L ∧ h = h0
def Ctx (p : Program) (s : State) (m : MethodId) (meth : Method) (c : Code) (Z : State) (a0 : Array Value) (own : String) (bytes : ByteArray) (ml : Nat) (rt : Option FieldType) (name : String) : Prop :=
  p.tables.exec = Jvm.exec ∧ Z.Warmed39 s.vm ∧ (∀ d ∈ tables_1, d.before a0 Z = true) ∧ c.code = bytes ∧ c.maxLocals = ml ∧ s.vm.findClass own = some m.cls ∧ meth.sig.returnType = rt ∧ meth.locks = false ∧ meth.name = name
/-- from T with the frame g on top the run comes to a return, of which Φ holds -/
def Runs (p : Program) (e : Env) (below : List Frame) (s : State) (Φ : Option Value → Heap → List Loc → Prop) (k n : Nat) (T : State) (g : JFrame) : Prop :=
  ∃ s₂ o, Steps p.tables e below (T.setTop g) s₂ ∧ s₂.status = .running ∧ Ended s₂ below o ∧ ∃ v L, o = .returned v ∧ Φ v s₂.heap L ∧ FrameEnd s o s₂ L k n
section Own
variable {p : Program} {l : Launch} {e : Env} {R : Room} {s : State} {m : MethodId} {args : Array Value} {below : List Frame} {meth : Method} {c : Code} {T T' T0 Z : State} {a0 : Array Value} {locs : List Loc} {cells slots k n n0 : Nat} {h0 : Heap} {g g' : JFrame} {Φ : Option Value → Heap → List Loc → Prop}
theorem Runs.via (h : ∀ t, Steps p.tables e below (T'.setTop g') t → Steps p.tables e below (T.setTop g) t) (r : Runs p e below s Φ k n T' g') : Runs p e below s Φ k n T g := by
  obtain ⟨s₂, o, h1, r⟩ := r
  exact ⟨s₂, o, h _ h1, r⟩
theorem QP.cast {r r' : Option Value} (h : r = r') (H : Runs p e below s (QP r' h0 n0) k n T g) : Runs p e below s (QP r h0 n0) k n T g := by rw [h]; exact H
theorem own_retI (X : Stand p l e R s m args below meth c T locs cells slots) (hx : p.tables.exec = Jvm.exec) (hlk : meth.locks = false) (hret : meth.sig.returnType = some .int) {pc : Nat} {Ls : Array Slot} {z : Int32} {rest : List Value} (hd : decode c.code pc = .ok (.ireturn, 1)) (hk : cells ≤ k) (hn : slots ≤ n) (hΦ : Φ (some (.int z)) T.heap locs) :
    Runs p e below s Φ k n T (mkF m pc Ls (.int z :: rest)) := by
  obtain ⟨fs, hr, hrun, hended, hW, hsame⟩ := X.leave (v := some (.int z)) (fun h => by rw [hret] at h; cases h) hlk
  exact ⟨_, _, retI X hx hret hd hr, hrun, hended, _, _, rfl, hΦ, ⟨_, rfl⟩, hW, hsame.mono hk hn⟩
theorem own_retN (X : Stand p l e R s m args below meth c T locs cells slots) (hx : p.tables.exec = Jvm.exec) (hlk : meth.locks = false) {t : FieldType} (hret : meth.sig.returnType = some t) (ht : t = .boolean ∨ t = .byte ∨ t = .char ∨ t = .short) {pc : Nat} {Ls : Array Slot} {z : Int32} {rest : List Value} (hd : decode c.code pc = .ok (.ireturn, 1)) (hk : cells ≤ k) (hn : slots ≤ n) (hΦ : Φ (some (.int (nar t z))) T.heap locs) :
    Runs p e below s Φ k n T (mkF m pc Ls (.int z :: rest)) := by
  obtain ⟨fs, hr, hrun, hended, hW, hsame⟩ := X.leave (v := some (.int (nar t z))) (fun h => by rw [hret] at h; cases h) hlk
  exact ⟨_, _, retN X hx hret ht hd hr, hrun, hended, _, _, rfl, hΦ, ⟨_, rfl⟩, hW, hsame.mono hk hn⟩
theorem own_retJ (X : Stand p l e R s m args below meth c T locs cells slots) (hx : p.tables.exec = Jvm.exec) (hlk : meth.locks = false) (hret : meth.sig.returnType = some .long) {pc : Nat} {Ls : Array Slot} {z : Int64} (hd : decode c.code pc = .ok (.lreturn, 1)) (hk : cells ≤ k) (hn : slots ≤ n) (hΦ : Φ (some (.long z)) T.heap locs) :
    Runs p e below s Φ k n T (mkF m pc Ls [.long z]) := by
  obtain ⟨fs, hr, hrun, hended, hW, hsame⟩ := X.leave (v := some (.long z)) (fun h => by rw [hret] at h; cases h) hlk
  exact ⟨_, _, X.lreturnOut hx hret hd hr, hrun, hended, _, _, rfl, hΦ, ⟨_, rfl⟩, hW, hsame.mono hk hn⟩
theorem own_privSel {s : State} {args : Array Value} {y : MethodName} {n : Nat} (hwi : (Cond.instantiable y.cls n).before args s = true) (hp : (Cond.privateMethod y).before args s = true) (hinst : (Cond.instanceMethod y).before args s = true) (hy : y.cls ≠ "java/lang/invoke/MethodHandle" ∧ y.cls ≠ "java/lang/invoke/VarHandle") : (Cond.selects y.cls y y).before args s = true := by
  obtain ⟨c, k, h1, h2, h3, h4, -⟩ := Cond.instantiable_spec hwi
  exact selects_self_of_private h1 h2 (by simp only [Bool.or_eq_false_iff] at h4; exact h4.1) (Cond.privateMethod_at hp) hinst hy
theorem own_retV (X : Stand p l e R s m args below meth c T locs cells slots) (hx : p.tables.exec = Jvm.exec) (hlk : meth.locks = false) (hret : meth.sig.returnType = none) {pc : Nat} {Ls : Array Slot} (hd : decode c.code pc = .ok (.return_, 1)) (hk : cells ≤ k) (hn : slots ≤ n) (hΦ : Φ none T.heap locs) :
    Runs p e below s Φ k n T (mkF m pc Ls []) := by
  obtain ⟨fs, hr, hrun, hended, hW, hsame⟩ := X.leave (v := none) (fun _ => rfl) hlk
  exact ⟨_, _, X.returnOut hx hret hd hr, hrun, hended, _, _, rfl, hΦ, ⟨_, rfl⟩, hW, hsame.mono hk hn⟩
theorem own_retR (X : Stand p l e R s m args below meth c T locs cells slots) (hx : p.tables.exec = Jvm.exec) (hlk : meth.locks = false) {t : FieldType} (hret : meth.sig.returnType = some t) (ht : t.isReference = true) {pc : Nat} {Ls : Array Slot} {a : Addr} {rest : List Value} (hd : decode c.code pc = .ok (.areturn, 1)) (hk : cells ≤ k) (hn : slots ≤ n) (hΦ : Φ (some (.ref a)) T.heap locs) :
    Runs p e below s Φ k n T (mkF m pc Ls (.ref a :: rest)) := by
  obtain ⟨fs, hr, hrun, hended, hW, hsame⟩ := X.leave (v := some (.ref a)) (fun h => by rw [hret] at h; cases h) hlk
  exact ⟨_, _, retOut X hx hret (by cases t <;> first | rfl | (cases ht; done)) (Or.inr (Or.inr (Or.inr (Or.inr ⟨rfl, ht, rfl⟩)))) hd hr, hrun, hended, _, _, rfl, hΦ, ⟨_, rfl⟩, hW, hsame.mono hk hn⟩
theorem bindE {α β : Type} {G : Prop} {x : Option α} {k : α → Option β} {r : β} (hr : x.bind k = some r) (H : ∀ v, x = some v → k v = some r → G) : G := by
  cases x with
  | none => exact nomatch hr
  | some v => exact H v rfl hr
def letO {α β : Type} (x : α) (k : α → β) : β := k x
theorem letE {α β : Type} {G : Prop} {x : α} {k : α → Option β} {r : β} (hr : letO x k = some r) (H : ∀ v, v = x → k v = some r → G) : G := H x rfl hr
theorem iteE {β : Type} {G P : Prop} [Decidable P] {a b : Option β} {r : β} (hr : (if P then a else b) = some r) (H1 : P → a = some r → G) (H2 : ¬ P → b = some r → G) : G := by
  by_cases h : P
  · rw [if_pos h] at hr; exact H1 h hr
  · rw [if_neg h] at hr; exact H2 h hr
/-- an array's place, a store, its length, a new array -/
def rdO {α : Type} (xs : List α) (j : Int32) : Option α := if j < 0 then none else xs[j.toNatClampNeg]?
def wrO {α : Type} (xs : List α) (j : Int32) (v : α) : Option (List α) := if j < 0 ∨ xs.length ≤ j.toNatClampNeg then none else some (xs.set j.toNatClampNeg v)
def lenO {α : Type} (xs : List α) : Int32 := xs.length.toInt32
def mkO (n : Int32) (cap : Nat) : Option (List Int32) := if n < 0 ∨ cap < n.toNatClampNeg then none else some (List.replicate n.toNatClampNeg 0)
def mkOJ (n : Int32) (cap : Nat) : Option (List Int64) := if n < 0 ∨ cap < n.toNatClampNeg then none else some (List.replicate n.toNatClampNeg 0)
def AI (Z : State) (h : Heap) (a : Addr) (ty : FieldType) (xs : List Int32) : Prop := ∃ c : Cell, Arr Z h a c ty ∧ c.slots = (xs.map Value.int).toArray
def AJ (Z : State) (h : Heap) (a : Addr) (ty : FieldType) (xs : List Int64) : Prop := ∃ c : Cell, Arr Z h a c ty ∧ c.slots = (xs.map Value.long).toArray
section Arrs
variable {p : Program} {l : Launch} {e : Env} {R : Room} {s : State} {m : MethodId} {args : Array Value} {below : List Frame} {meth : Method} {c : Code} {T Z : State} {a0 : Array Value} {locs : List Loc} {cells slots : Nat} {h h' : Heap} {a b : Addr} {ty : FieldType} {sl : Nat} {v : Value} {ws : List Addr}
theorem AI.lt {xs : List Int32} (F : AI Z h a ty xs) : a < h.size := by obtain ⟨c, A, -⟩ := F; exact A.lt
theorem AI.ext {xs : List Int32} (F : AI Z h a ty xs) (E : Ext h h') : AI Z h' a ty xs := by obtain ⟨c, A, q⟩ := F; exact ⟨c, A.ext E, q⟩
theorem AI.other {xs : List Int32} (F : AI Z h b ty xs) (W : Wr h h' a sl v) (q : b ≠ a) : AI Z h' b ty xs := by obtain ⟨c, A, r⟩ := F; exact ⟨c, A.other W q, r⟩
theorem AI.keep {xs : List Int32} (F : AI Z h a ty xs) (K : Keep h h' ws) (q : a ∉ ws) : AI Z h' a ty xs := by obtain ⟨c, A, r⟩ := F; exact ⟨c, ⟨K.2.1 a c A.1 q, A.2⟩, r⟩
theorem AJ.lt {xs : List Int64} (F : AJ Z h a ty xs) : a < h.size := by obtain ⟨c, A, -⟩ := F; exact A.lt
theorem AJ.ext {xs : List Int64} (F : AJ Z h a ty xs) (E : Ext h h') : AJ Z h' a ty xs := by obtain ⟨c, A, q⟩ := F; exact ⟨c, A.ext E, q⟩
theorem AJ.other {xs : List Int64} (F : AJ Z h b ty xs) (W : Wr h h' a sl v) (q : b ≠ a) : AJ Z h' b ty xs := by obtain ⟨c, A, r⟩ := F; exact ⟨c, A.other W q, r⟩
theorem AJ.keep {xs : List Int64} (F : AJ Z h a ty xs) (K : Keep h h' ws) (q : a ∉ ws) : AJ Z h' a ty xs := by obtain ⟨c, A, r⟩ := F; exact ⟨c, ⟨K.2.1 a c A.1 q, A.2⟩, r⟩
theorem rd_at {α : Type} {f : α → Value} {xs : List α} {j : Int32} {z : α} {cl : Cell} (q : cl.slots = (xs.map f).toArray) (hr : rdO xs j = some z) : ¬ (j < 0 ∨ cl.slots.size ≤ j.toNatClampNeg) ∧ cl.slots[j.toNatClampNeg]? = some (f z) := by
  unfold rdO at hr
  by_cases hj : j < 0
  · rw [if_pos hj] at hr; exact nomatch hr
  · rw [if_neg hj] at hr
    obtain ⟨hi, he⟩ := List.getElem?_eq_some_iff.mp hr
    rw [q]
    refine ⟨?_, by simp [hr]⟩
    rintro (h1 | h1)
    · exact hj h1
    · simp at h1; omega
theorem wr_at2 {α : Type} {f : α → Value} {xs xs' : List α} {j : Int32} {z : α} {cl : Cell} (q : cl.slots = (xs.map f).toArray) (hr : wrO xs j z = some xs') : ¬ (j < 0 ∨ cl.slots.size ≤ j.toNatClampNeg) ∧ (cl.setSlot j.toNatClampNeg (f z)).slots = (xs'.map f).toArray := by
  unfold wrO at hr
  by_cases hj : j < 0 ∨ xs.length ≤ j.toNatClampNeg
  · rw [if_pos hj] at hr; exact nomatch hr
  · rw [if_neg hj] at hr
    obtain rfl := Option.some.inj hr
    refine ⟨by rw [q]; simpa using hj, ?_⟩
    simp only [Cell.setSlot, q]
    simp [List.map_set]
theorem ldI (X : Stand p l e R s m args below meth c T locs cells slots) (hx : p.tables.exec = Jvm.exec) (hZ : Z.Warmed39 s.vm) (eT : T.heap = h) {xs : List Int32} (A : AI Z h a .int xs) {j z : Int32} (hr : rdO xs j = some z) {g : JFrame} (hg : g.method = m) {rest : List Value} (hs : g.stack = .int j :: .ref a :: rest) (hd : decode c.code g.pc = .ok (.iaload, 1)) :
    ∀ target, Steps p.tables e below (T.setTop { g with pc := g.pc + 1, stack := .int z :: rest }) target → Steps p.tables e below (T.setTop g) target := by
  obtain ⟨cl, A, q⟩ := A
  obtain ⟨h1, h2⟩ := rd_at q hr
  exact X.iaload hx (j := j) (v := .int z) (by rw [eT]; exact A.1) (State.isArrayOf_alike hZ.alike A.2.1) A.2.2 h1 h2 hg hs hd
theorem ldB (X : Stand p l e R s m args below meth c T locs cells slots) (hx : p.tables.exec = Jvm.exec) (hZ : Z.Warmed39 s.vm) (eT : T.heap = h) {xs : List Int32} (A : AI Z h a .byte xs) {j z : Int32} (hr : rdO xs j = some z) {g : JFrame} (hg : g.method = m) {rest : List Value} (hs : g.stack = .int j :: .ref a :: rest) (hd : decode c.code g.pc = .ok (.baload, 1)) :
    ∀ target, Steps p.tables e below (T.setTop { g with pc := g.pc + 1, stack := .int z :: rest }) target → Steps p.tables e below (T.setTop g) target := by
  obtain ⟨cl, A, q⟩ := A
  obtain ⟨h1, h2⟩ := rd_at q hr
  exact X.baloadBytes hx (j := j) (v := .int z) (by rw [eT]; exact A.1) (State.isArrayOf_alike hZ.alike A.2.1) A.2.2 h1 h2 hg hs hd
theorem ldJ (X : Stand p l e R s m args below meth c T locs cells slots) (hx : p.tables.exec = Jvm.exec) (hZ : Z.Warmed39 s.vm) (eT : T.heap = h) {xs : List Int64} (A : AJ Z h a .long xs) {j : Int32} {z : Int64} (hr : rdO xs j = some z) {g : JFrame} (hg : g.method = m) {rest : List Value} (hs : g.stack = .int j :: .ref a :: rest) (hd : decode c.code g.pc = .ok (.laload, 1)) :
    ∀ target, Steps p.tables e below (T.setTop { g with pc := g.pc + 1, stack := .long z :: rest }) target → Steps p.tables e below (T.setTop g) target := by
  obtain ⟨cl, A, q⟩ := A
  obtain ⟨h1, h2⟩ := rd_at q hr
  exact X.laload hx (j := j) (v := .long z) (by rw [eT]; exact A.1) (State.isArrayOf_alike hZ.alike A.2.1) A.2.2 h1 h2 hg hs hd
theorem soI (X : Stand p l e R s m args below meth c T locs cells slots) (hx : p.tables.exec = Jvm.exec) (hZ : Z.Warmed39 s.vm) (eT : T.heap = h) {xs xs' : List Int32} (A : AI Z h a .int xs) {j z : Int32} (hr : wrO xs j z = some xs') {g : JFrame} (hg : g.method = m) {rest : List Value} (hs : g.stack = .int z :: .int j :: .ref a :: rest) (hd : decode c.code g.pc = .ok (.iastore, 1)) :
    ∃ T' h', Stand p l e R s m args below meth c T' (locs ++ [⟨a, j.toNatClampNeg⟩]) cells slots ∧ T'.heap = h' ∧ Wr h h' a j.toNatClampNeg (.int z) ∧ AI Z h' a .int xs' ∧ ∀ target, Steps p.tables e below (T'.setTop { g with pc := g.pc + 1, stack := rest }) target → Steps p.tables e below (T.setTop g) target := by
  obtain ⟨cl, A, q⟩ := A
  obtain ⟨h1, h2⟩ := wr_at2 q hr
  obtain ⟨T', h', X', e', W, st⟩ := stI X hx hZ eT A h1 hg hs hd
  exact ⟨T', h', X', e', W, ⟨_, A.same W, h2⟩, st⟩
theorem soB (X : Stand p l e R s m args below meth c T locs cells slots) (hx : p.tables.exec = Jvm.exec) (hZ : Z.Warmed39 s.vm) (eT : T.heap = h) {xs xs' : List Int32} (A : AI Z h a .byte xs) {j z : Int32} (hr : wrO xs j (z.toInt8.toInt32) = some xs') {g : JFrame} (hg : g.method = m) {rest : List Value} (hs : g.stack = .int z :: .int j :: .ref a :: rest) (hd : decode c.code g.pc = .ok (.bastore, 1)) :
    ∃ T' h', Stand p l e R s m args below meth c T' (locs ++ [⟨a, j.toNatClampNeg⟩]) cells slots ∧ T'.heap = h' ∧ Wr h h' a j.toNatClampNeg (.int (z.toInt8.toInt32)) ∧ AI Z h' a .byte xs' ∧ ∀ target, Steps p.tables e below (T'.setTop { g with pc := g.pc + 1, stack := rest }) target → Steps p.tables e below (T.setTop g) target := by
  obtain ⟨cl, A, q⟩ := A
  obtain ⟨h1, h2⟩ := wr_at2 q hr
  obtain ⟨T', h', X', e', W, st⟩ := stB X hx hZ eT A h1 hg hs hd
  exact ⟨T', h', X', e', W, ⟨_, A.same W, h2⟩, st⟩
theorem soJ (X : Stand p l e R s m args below meth c T locs cells slots) (hx : p.tables.exec = Jvm.exec) (hZ : Z.Warmed39 s.vm) (eT : T.heap = h) {xs xs' : List Int64} (A : AJ Z h a .long xs) {j : Int32} {z : Int64} (hr : wrO xs j z = some xs') {g : JFrame} (hg : g.method = m) {rest : List Value} (hs : g.stack = .long z :: .int j :: .ref a :: rest) (hd : decode c.code g.pc = .ok (.lastore, 1)) :
    ∃ T' h', Stand p l e R s m args below meth c T' (locs ++ [⟨a, j.toNatClampNeg⟩]) cells slots ∧ T'.heap = h' ∧ Wr h h' a j.toNatClampNeg (.long z) ∧ AJ Z h' a .long xs' ∧ ∀ target, Steps p.tables e below (T'.setTop { g with pc := g.pc + 1, stack := rest }) target → Steps p.tables e below (T.setTop g) target := by
  obtain ⟨cl, A, q⟩ := A
  obtain ⟨h1, h2⟩ := wr_at2 q hr
  obtain ⟨T', h', X', e', W, st⟩ := stJ X hx hZ eT A h1 hg hs hd
  exact ⟨T', h', X', e', W, ⟨_, A.same W, h2⟩, st⟩
theorem lenAI (X : Stand p l e R s m args below meth c T locs cells slots) (hx : p.tables.exec = Jvm.exec) (hZ : Z.Warmed39 s.vm) (eT : T.heap = h) {xs : List Int32} (A : AI Z h a ty xs) {g : JFrame} (hg : g.method = m) {rest : List Value} (hs : g.stack = .ref a :: rest) (hd : decode c.code g.pc = .ok (.arraylength, 1)) :
    ∀ target, Steps p.tables e below (T.setTop { g with pc := g.pc + 1, stack := .int (lenO xs) :: rest }) target → Steps p.tables e below (T.setTop g) target := by
  obtain ⟨cl, A, q⟩ := A
  have e1 : cl.slots.size.toInt32 = lenO xs := by rw [q]; simp [lenO]
  intro t k
  refine X.arraylength hx (by rw [eT]; exact A.1) (State.isArrayOf_alike hZ.alike A.2.1) hg hs hd _ ?_
  rw [e1]; exact k
theorem lenAJ (X : Stand p l e R s m args below meth c T locs cells slots) (hx : p.tables.exec = Jvm.exec) (hZ : Z.Warmed39 s.vm) (eT : T.heap = h) {xs : List Int64} (A : AJ Z h a ty xs) {g : JFrame} (hg : g.method = m) {rest : List Value} (hs : g.stack = .ref a :: rest) (hd : decode c.code g.pc = .ok (.arraylength, 1)) :
    ∀ target, Steps p.tables e below (T.setTop { g with pc := g.pc + 1, stack := .int (lenO xs) :: rest }) target → Steps p.tables e below (T.setTop g) target := by
  obtain ⟨cl, A, q⟩ := A
  have e1 : cl.slots.size.toInt32 = lenO xs := by rw [q]; simp [lenO]
  intro t k
  refine X.arraylength hx (by rw [eT]; exact A.1) (State.isArrayOf_alike hZ.alike A.2.1) hg hs hd _ ?_
  rw [e1]; exact k
theorem newI (X : Stand p l e R s m args below meth c T locs cells slots) (hx : p.tables.exec = Jvm.exec) (hZ : Z.Warmed39 s.vm) {aty : ArrayType} (ht : newarray.typeOf aty = ty) (hdv : defaultValue ty = .int 0) (w : (Cond.arrayClass ty).before a0 Z = true) (eT : T.heap = h) {n : Int32} {cap : Nat} {xs : List Int32} (hr : mkO n cap = some xs) {g : JFrame} (hg : g.method = m) (hd : decode c.code g.pc = .ok (.newarray aty, 2)) {rest : List Value} (hs : g.stack = .int n :: rest) (hb : cap * 8 ≤ 536870912) (hc : cells + 1 ≤ R.cells) (hl : slots + cap ≤ R.slots) :
    ∃ T' h', Stand p l e R s m args below meth c T' locs (cells + 1) (slots + cap) ∧ T'.heap = h' ∧ Ext h h' ∧ AI Z h' h.size ty xs ∧ ∀ target, Steps p.tables e below (T'.setTop { g with pc := g.pc + 2, stack := .ref h.size :: rest }) target → Steps p.tables e below (T.setTop g) target := by
  subst ht
  unfold mkO at hr
  by_cases hn : n < 0 ∨ cap < n.toNatClampNeg
  · rw [if_pos hn] at hr; exact nomatch hr
  · rw [if_neg hn] at hr
    obtain rfl := Option.some.inj hr
    obtain ⟨T', h', cA, X', e', E, A, st⟩ := newP X hx hZ w eT hg hd hs (fun q => hn (Or.inl q)) (cap := cap) (Nat.le_of_not_lt fun q => hn (Or.inr q)) hb hc hl
    exact ⟨T', h', X', e', E, ⟨_, A, by simp [newA, hdv]⟩, st⟩
theorem newJ (X : Stand p l e R s m args below meth c T locs cells slots) (hx : p.tables.exec = Jvm.exec) (hZ : Z.Warmed39 s.vm) {aty : ArrayType} (ht : newarray.typeOf aty = .long) (w : (Cond.arrayClass .long).before a0 Z = true) (eT : T.heap = h) {n : Int32} {cap : Nat} {xs : List Int64} (hr : mkOJ n cap = some xs) {g : JFrame} (hg : g.method = m) (hd : decode c.code g.pc = .ok (.newarray aty, 2)) {rest : List Value} (hs : g.stack = .int n :: rest) (hb : cap * 8 ≤ 536870912) (hc : cells + 1 ≤ R.cells) (hl : slots + cap ≤ R.slots) :
    ∃ T' h', Stand p l e R s m args below meth c T' locs (cells + 1) (slots + cap) ∧ T'.heap = h' ∧ Ext h h' ∧ AJ Z h' h.size .long xs ∧ ∀ target, Steps p.tables e below (T'.setTop { g with pc := g.pc + 2, stack := .ref h.size :: rest }) target → Steps p.tables e below (T.setTop g) target := by
  unfold mkOJ at hr
  by_cases hn : n < 0 ∨ cap < n.toNatClampNeg
  · rw [if_pos hn] at hr; exact nomatch hr
  · rw [if_neg hn] at hr
    obtain rfl := Option.some.inj hr
    obtain ⟨T', h', cA, X', e', E, A, st⟩ := newP X hx hZ (by rw [ht]; exact w) eT hg hd hs (fun q => hn (Or.inl q)) (cap := cap) (Nat.le_of_not_lt fun q => hn (Or.inr q)) hb hc hl
    rw [ht] at A
    exact ⟨T', h', X', e', E, ⟨_, A, by simp [newA, defaultValue]⟩, st⟩
end Arrs
theorem d2_0 : decode prog_39_method_41_code 0 = .ok (.iload_n 0, 1) := by decide +kernel
theorem d2_1 : decode prog_39_method_41_code 1 = .ok (.bipush 65, 2) := by decide +kernel
theorem d2_3 : decode prog_39_method_41_code 3 = .ok (.if_icmp .lt 9, 3) := by decide +kernel
theorem d2_6 : decode prog_39_method_41_code 6 = .ok (.iload_n 0, 1) := by decide +kernel
theorem d2_7 : decode prog_39_method_41_code 7 = .ok (.bipush 90, 2) := by decide +kernel
theorem d2_9 : decode prog_39_method_41_code 9 = .ok (.if_icmp .le 183, 3) := by decide +kernel
theorem d2_12 : decode prog_39_method_41_code 12 = .ok (.iload_n 0, 1) := by decide +kernel
theorem d2_13 : decode prog_39_method_41_code 13 = .ok (.bipush 97, 2) := by decide +kernel
theorem d2_15 : decode prog_39_method_41_code 15 = .ok (.if_icmp .lt 9, 3) := by decide +kernel
theorem d2_18 : decode prog_39_method_41_code 18 = .ok (.iload_n 0, 1) := by decide +kernel
theorem d2_19 : decode prog_39_method_41_code 19 = .ok (.bipush 122, 2) := by decide +kernel
theorem d2_21 : decode prog_39_method_41_code 21 = .ok (.if_icmp .le 171, 3) := by decide +kernel
theorem d2_24 : decode prog_39_method_41_code 24 = .ok (.iload_n 0, 1) := by decide +kernel
theorem d2_25 : decode prog_39_method_41_code 25 = .ok (.sipush 192, 3) := by decide +kernel
theorem d2_28 : decode prog_39_method_41_code 28 = .ok (.if_icmp .lt 10, 3) := by decide +kernel
theorem d2_31 : decode prog_39_method_41_code 31 = .ok (.iload_n 0, 1) := by decide +kernel
theorem d2_32 : decode prog_39_method_41_code 32 = .ok (.sipush 214, 3) := by decide +kernel
theorem d2_35 : decode prog_39_method_41_code 35 = .ok (.if_icmp .le 157, 3) := by decide +kernel
theorem d2_38 : decode prog_39_method_41_code 38 = .ok (.iload_n 0, 1) := by decide +kernel
theorem d2_39 : decode prog_39_method_41_code 39 = .ok (.sipush 216, 3) := by decide +kernel
theorem d2_42 : decode prog_39_method_41_code 42 = .ok (.if_icmp .lt 10, 3) := by decide +kernel
theorem d2_45 : decode prog_39_method_41_code 45 = .ok (.iload_n 0, 1) := by decide +kernel
theorem d2_46 : decode prog_39_method_41_code 46 = .ok (.sipush 246, 3) := by decide +kernel
theorem d2_49 : decode prog_39_method_41_code 49 = .ok (.if_icmp .le 143, 3) := by decide +kernel
theorem d2_52 : decode prog_39_method_41_code 52 = .ok (.iload_n 0, 1) := by decide +kernel
theorem d2_53 : decode prog_39_method_41_code 53 = .ok (.sipush 248, 3) := by decide +kernel
theorem d2_56 : decode prog_39_method_41_code 56 = .ok (.if_icmp .lt 10, 3) := by decide +kernel
theorem d2_59 : decode prog_39_method_41_code 59 = .ok (.iload_n 0, 1) := by decide +kernel
theorem d2_60 : decode prog_39_method_41_code 60 = .ok (.sipush 767, 3) := by decide +kernel
theorem d2_63 : decode prog_39_method_41_code 63 = .ok (.if_icmp .le 129, 3) := by decide +kernel
theorem d2_66 : decode prog_39_method_41_code 66 = .ok (.iload_n 0, 1) := by decide +kernel
theorem d2_67 : decode prog_39_method_41_code 67 = .ok (.sipush 880, 3) := by decide +kernel
theorem d2_70 : decode prog_39_method_41_code 70 = .ok (.if_icmp .lt 10, 3) := by decide +kernel
theorem d2_73 : decode prog_39_method_41_code 73 = .ok (.iload_n 0, 1) := by decide +kernel
theorem d2_74 : decode prog_39_method_41_code 74 = .ok (.sipush 893, 3) := by decide +kernel
theorem d2_77 : decode prog_39_method_41_code 77 = .ok (.if_icmp .le 115, 3) := by decide +kernel
theorem d2_80 : decode prog_39_method_41_code 80 = .ok (.iload_n 0, 1) := by decide +kernel
theorem d2_81 : decode prog_39_method_41_code 81 = .ok (.sipush 895, 3) := by decide +kernel
theorem d2_84 : decode prog_39_method_41_code 84 = .ok (.if_icmp .lt 10, 3) := by decide +kernel
theorem d2_87 : decode prog_39_method_41_code 87 = .ok (.iload_n 0, 1) := by decide +kernel
theorem d2_88 : decode prog_39_method_41_code 88 = .ok (.sipush 8191, 3) := by decide +kernel
theorem d2_91 : decode prog_39_method_41_code 91 = .ok (.if_icmp .le 101, 3) := by decide +kernel
theorem d2_94 : decode prog_39_method_41_code 94 = .ok (.iload_n 0, 1) := by decide +kernel
theorem d2_95 : decode prog_39_method_41_code 95 = .ok (.sipush 8204, 3) := by decide +kernel
theorem d2_98 : decode prog_39_method_41_code 98 = .ok (.if_icmp .lt 10, 3) := by decide +kernel
theorem d2_101 : decode prog_39_method_41_code 101 = .ok (.iload_n 0, 1) := by decide +kernel
theorem d2_102 : decode prog_39_method_41_code 102 = .ok (.sipush 8205, 3) := by decide +kernel
theorem d2_105 : decode prog_39_method_41_code 105 = .ok (.if_icmp .le 87, 3) := by decide +kernel
theorem d2_108 : decode prog_39_method_41_code 108 = .ok (.iload_n 0, 1) := by decide +kernel
theorem d2_109 : decode prog_39_method_41_code 109 = .ok (.sipush 8304, 3) := by decide +kernel
theorem d2_112 : decode prog_39_method_41_code 112 = .ok (.if_icmp .lt 10, 3) := by decide +kernel
theorem d2_115 : decode prog_39_method_41_code 115 = .ok (.iload_n 0, 1) := by decide +kernel
theorem d2_116 : decode prog_39_method_41_code 116 = .ok (.sipush 8591, 3) := by decide +kernel
theorem d2_119 : decode prog_39_method_41_code 119 = .ok (.if_icmp .le 73, 3) := by decide +kernel
theorem d2_122 : decode prog_39_method_41_code 122 = .ok (.iload_n 0, 1) := by decide +kernel
theorem d2_123 : decode prog_39_method_41_code 123 = .ok (.sipush 11264, 3) := by decide +kernel
theorem d2_126 : decode prog_39_method_41_code 126 = .ok (.if_icmp .lt 10, 3) := by decide +kernel
theorem d2_129 : decode prog_39_method_41_code 129 = .ok (.iload_n 0, 1) := by decide +kernel
theorem d2_130 : decode prog_39_method_41_code 130 = .ok (.sipush 12271, 3) := by decide +kernel
theorem d2_133 : decode prog_39_method_41_code 133 = .ok (.if_icmp .le 59, 3) := by decide +kernel
theorem d2_136 : decode prog_39_method_41_code 136 = .ok (.iload_n 0, 1) := by decide +kernel
theorem d2_137 : decode prog_39_method_41_code 137 = .ok (.sipush 12289, 3) := by decide +kernel
theorem d2_140 : decode prog_39_method_41_code 140 = .ok (.if_icmp .lt 10, 3) := by decide +kernel
theorem d2_143 : decode prog_39_method_41_code 143 = .ok (.iload_n 0, 1) := by decide +kernel
theorem d2_144 : decode prog_39_method_41_code 144 = .ok (.ldc_w 373, 3) := by decide +kernel
theorem d2_147 : decode prog_39_method_41_code 147 = .ok (.if_icmp .le 45, 3) := by decide +kernel
theorem d2_150 : decode prog_39_method_41_code 150 = .ok (.iload_n 0, 1) := by decide +kernel
theorem d2_151 : decode prog_39_method_41_code 151 = .ok (.ldc_w 374, 3) := by decide +kernel
theorem d2_154 : decode prog_39_method_41_code 154 = .ok (.if_icmp .lt 10, 3) := by decide +kernel
theorem d2_157 : decode prog_39_method_41_code 157 = .ok (.iload_n 0, 1) := by decide +kernel
theorem d2_158 : decode prog_39_method_41_code 158 = .ok (.ldc_w 375, 3) := by decide +kernel
theorem d2_161 : decode prog_39_method_41_code 161 = .ok (.if_icmp .le 31, 3) := by decide +kernel
theorem d2_164 : decode prog_39_method_41_code 164 = .ok (.iload_n 0, 1) := by decide +kernel
theorem d2_165 : decode prog_39_method_41_code 165 = .ok (.ldc_w 376, 3) := by decide +kernel
theorem d2_168 : decode prog_39_method_41_code 168 = .ok (.if_icmp .lt 10, 3) := by decide +kernel
theorem d2_171 : decode prog_39_method_41_code 171 = .ok (.iload_n 0, 1) := by decide +kernel
theorem d2_172 : decode prog_39_method_41_code 172 = .ok (.ldc_w 377, 3) := by decide +kernel
theorem d2_175 : decode prog_39_method_41_code 175 = .ok (.if_icmp .le 17, 3) := by decide +kernel
theorem d2_178 : decode prog_39_method_41_code 178 = .ok (.iload_n 0, 1) := by decide +kernel
theorem d2_179 : decode prog_39_method_41_code 179 = .ok (.ldc_w 378, 3) := by decide +kernel
theorem d2_182 : decode prog_39_method_41_code 182 = .ok (.if_icmp .lt 14, 3) := by decide +kernel
theorem d2_185 : decode prog_39_method_41_code 185 = .ok (.iload_n 0, 1) := by decide +kernel
theorem d2_186 : decode prog_39_method_41_code 186 = .ok (.ldc_w 379, 3) := by decide +kernel
theorem d2_189 : decode prog_39_method_41_code 189 = .ok (.if_icmp .gt 7, 3) := by decide +kernel
theorem d2_192 : decode prog_39_method_41_code 192 = .ok (.iconst 1, 1) := by decide +kernel
theorem d2_193 : decode prog_39_method_41_code 193 = .ok (.goto 4, 3) := by decide +kernel
theorem d2_196 : decode prog_39_method_41_code 196 = .ok (.iconst 0, 1) := by decide +kernel
theorem d2_197 : decode prog_39_method_41_code 197 = .ok (.ireturn, 1) := by decide +kernel
def g2_178 (x0 : Int32) : Int32 := (if x0 < (65536 : Int32) then (0 : Int32) else (if (983039 : Int32) < x0 then (0 : Int32) else (1 : Int32)))
set_option maxRecDepth 65536 in
set_option maxHeartbeats 4000000 in
theorem b2_178 (C : Ctx p s m meth c Z a0 "com/example/onto3/onto3/rdf/TermScanner" prog_39_method_41_code 1 (some .boolean) "isBaseChar") (X0 : Stand p l e ({ frames := 0, cells := 0, slots := 0, locals := 0 } : Room) s m args below meth c T0 locs cells slots) (e0 : T0.heap = h0) (N0 : Fr n0 locs) (hk : cells ≤ 0) (hn : slots ≤ 0) (x0 : Int32) :
    Runs p e below s (QP (some (.int (g2_178 x0))) h0 n0) 0 0 T0 (mkF m 178 #[.val (.int x0)] []) := by
  have ⟨hx, hZ, hw, hby, hml, hown, hret, hlk, hnm⟩ := C
  refine Runs.via (T' := T0) (g' := (mkF m 182 #[.val (.int x0)] [(.int (65536 : Int32)), (.int x0)])) (fun t k => ?_) ?_
  · show Steps p.tables e below (T0.setTop (mkF m 178 #[.val (.int x0)] [])) t
    refine XS.iloadN X0.here hx rfl (hb hby d2_178) rfl ?_
    show Steps p.tables e below (T0.setTop (mkF m 179 #[.val (.int x0)] [(.int x0)])) t
    refine X0.ldcwInt hx hown (mvT hZ (hw _ (List.mem_of_getElem? (i := 18) rfl))) (g := (mkF m 179 #[.val (.int x0)] [(.int x0)])) rfl (hb hby d2_179) _ ?_
    exact k
  by_cases hc1 : x0 < (65536 : Int32)
  · refine Runs.via (T' := T0) (g' := (mkF m 196 #[.val (.int x0)] [])) (fun t k => ?_) ?_
    · show Steps p.tables e below (T0.setTop (mkF m 182 #[.val (.int x0)] [(.int (65536 : Int32)), (.int x0)])) t
      exact XS.icmpYes X0.here hx rfl (pc0 := 182) (pc' := 196) rfl (hb hby d2_182) rfl (tlt hc1).1 (by decide) (by decide) k
    refine Runs.via (T' := T0) (g' := (mkF m 197 #[.val (.int x0)] [(.int (0 : Int32))])) (fun t k => ?_) ?_
    · show Steps p.tables e below (T0.setTop (mkF m 196 #[.val (.int x0)] [])) t
      refine XS.iconst X0.here hx rfl (hb hby d2_196) ?_
      exact k
    refine QP.cast (congrArg (fun z => some (Value.int z)) (show (g2_178 x0) = (0 : Int32) from (if_pos hc1))) ?_
    exact own_retN X0 hx hlk (t := .boolean) hret (by simp) (hb hby d2_197) hk hn ⟨rfl, N0, e0⟩
  · refine Runs.via (T' := T0) (g' := (mkF m 185 #[.val (.int x0)] [])) (fun t k => ?_) ?_
    · show Steps p.tables e below (T0.setTop (mkF m 182 #[.val (.int x0)] [(.int (65536 : Int32)), (.int x0)])) t
      exact XS.icmpNo X0.here hx rfl (hb hby d2_182) rfl (flt hc1).1 k
    refine Runs.via (T' := T0) (g' := (mkF m 189 #[.val (.int x0)] [(.int (983039 : Int32)), (.int x0)])) (fun t k => ?_) ?_
    · show Steps p.tables e below (T0.setTop (mkF m 185 #[.val (.int x0)] [])) t
      refine XS.iloadN X0.here hx rfl (hb hby d2_185) rfl ?_
      show Steps p.tables e below (T0.setTop (mkF m 186 #[.val (.int x0)] [(.int x0)])) t
      refine X0.ldcwInt hx hown (mvT hZ (hw _ (List.mem_of_getElem? (i := 30) rfl))) (g := (mkF m 186 #[.val (.int x0)] [(.int x0)])) rfl (hb hby d2_186) _ ?_
      exact k
    by_cases hc2 : (983039 : Int32) < x0
    · refine Runs.via (T' := T0) (g' := (mkF m 196 #[.val (.int x0)] [])) (fun t k => ?_) ?_
      · show Steps p.tables e below (T0.setTop (mkF m 189 #[.val (.int x0)] [(.int (983039 : Int32)), (.int x0)])) t
        exact XS.icmpYes X0.here hx rfl (pc0 := 189) (pc' := 196) rfl (hb hby d2_189) rfl (tlt hc2).2.2.1 (by decide) (by decide) k
      refine Runs.via (T' := T0) (g' := (mkF m 197 #[.val (.int x0)] [(.int (0 : Int32))])) (fun t k => ?_) ?_
      · show Steps p.tables e below (T0.setTop (mkF m 196 #[.val (.int x0)] [])) t
        refine XS.iconst X0.here hx rfl (hb hby d2_196) ?_
        exact k
      refine QP.cast (congrArg (fun z => some (Value.int z)) (show (g2_178 x0) = (0 : Int32) from ((if_neg hc1).trans (if_pos hc2)))) ?_
      exact own_retN X0 hx hlk (t := .boolean) hret (by simp) (hb hby d2_197) hk hn ⟨rfl, N0, e0⟩
    · refine Runs.via (T' := T0) (g' := (mkF m 192 #[.val (.int x0)] [])) (fun t k => ?_) ?_
      · show Steps p.tables e below (T0.setTop (mkF m 189 #[.val (.int x0)] [(.int (983039 : Int32)), (.int x0)])) t
        exact XS.icmpNo X0.here hx rfl (hb hby d2_189) rfl (flt hc2).2.2.1 k
      refine Runs.via (T' := T0) (g' := (mkF m 197 #[.val (.int x0)] [(.int (1 : Int32))])) (fun t k => ?_) ?_
      · show Steps p.tables e below (T0.setTop (mkF m 192 #[.val (.int x0)] [])) t
        refine XS.iconst X0.here hx rfl (hb hby d2_192) ?_
        show Steps p.tables e below (T0.setTop (mkF m 193 #[.val (.int x0)] [(.int (1 : Int32))])) t
        refine XS.goto X0.here hx rfl (pc0 := 193) (pc' := 197) rfl (hb hby d2_193) (by decide) (by decide) ?_
        exact k
      refine QP.cast (congrArg (fun z => some (Value.int z)) (show (g2_178 x0) = (1 : Int32) from ((if_neg hc1).trans (if_neg hc2)))) ?_
      exact own_retN X0 hx hlk (t := .boolean) hret (by simp) (hb hby d2_197) hk hn ⟨rfl, N0, e0⟩
def g2_164 (x0 : Int32) : Int32 := (if x0 < (65008 : Int32) then (g2_178 x0) else (if (65533 : Int32) < x0 then (g2_178 x0) else (1 : Int32)))
set_option maxRecDepth 65536 in
set_option maxHeartbeats 4000000 in
theorem b2_164 (C : Ctx p s m meth c Z a0 "com/example/onto3/onto3/rdf/TermScanner" prog_39_method_41_code 1 (some .boolean) "isBaseChar") (X0 : Stand p l e ({ frames := 0, cells := 0, slots := 0, locals := 0 } : Room) s m args below meth c T0 locs cells slots) (e0 : T0.heap = h0) (N0 : Fr n0 locs) (hk : cells ≤ 0) (hn : slots ≤ 0) (x0 : Int32) :
    Runs p e below s (QP (some (.int (g2_164 x0))) h0 n0) 0 0 T0 (mkF m 164 #[.val (.int x0)] []) := by
  have ⟨hx, hZ, hw, hby, hml, hown, hret, hlk, hnm⟩ := C
  refine Runs.via (T' := T0) (g' := (mkF m 168 #[.val (.int x0)] [(.int (65008 : Int32)), (.int x0)])) (fun t k => ?_) ?_
  · show Steps p.tables e below (T0.setTop (mkF m 164 #[.val (.int x0)] [])) t
    refine XS.iloadN X0.here hx rfl (hb hby d2_164) rfl ?_
    show Steps p.tables e below (T0.setTop (mkF m 165 #[.val (.int x0)] [(.int x0)])) t
    refine X0.ldcwInt hx hown (mvT hZ (hw _ (List.mem_of_getElem? (i := 17) rfl))) (g := (mkF m 165 #[.val (.int x0)] [(.int x0)])) rfl (hb hby d2_165) _ ?_
    exact k
  by_cases hc1 : x0 < (65008 : Int32)
  · refine Runs.via (T' := T0) (g' := (mkF m 178 #[.val (.int x0)] [])) (fun t k => ?_) ?_
    · show Steps p.tables e below (T0.setTop (mkF m 168 #[.val (.int x0)] [(.int (65008 : Int32)), (.int x0)])) t
      exact XS.icmpYes X0.here hx rfl (pc0 := 168) (pc' := 178) rfl (hb hby d2_168) rfl (tlt hc1).1 (by decide) (by decide) k
    refine QP.cast (congrArg (fun z => some (Value.int z)) (show (g2_164 x0) = (g2_178 x0) from (if_pos hc1))) ?_
    exact b2_178 C X0 e0 N0 hk hn x0
  · refine Runs.via (T' := T0) (g' := (mkF m 171 #[.val (.int x0)] [])) (fun t k => ?_) ?_
    · show Steps p.tables e below (T0.setTop (mkF m 168 #[.val (.int x0)] [(.int (65008 : Int32)), (.int x0)])) t
      exact XS.icmpNo X0.here hx rfl (hb hby d2_168) rfl (flt hc1).1 k
    refine Runs.via (T' := T0) (g' := (mkF m 175 #[.val (.int x0)] [(.int (65533 : Int32)), (.int x0)])) (fun t k => ?_) ?_
    · show Steps p.tables e below (T0.setTop (mkF m 171 #[.val (.int x0)] [])) t
      refine XS.iloadN X0.here hx rfl (hb hby d2_171) rfl ?_
      show Steps p.tables e below (T0.setTop (mkF m 172 #[.val (.int x0)] [(.int x0)])) t
      refine X0.ldcwInt hx hown (mvT hZ (hw _ (List.mem_of_getElem? (i := 29) rfl))) (g := (mkF m 172 #[.val (.int x0)] [(.int x0)])) rfl (hb hby d2_172) _ ?_
      exact k
    by_cases hc2 : (65533 : Int32) < x0
    · refine Runs.via (T' := T0) (g' := (mkF m 178 #[.val (.int x0)] [])) (fun t k => ?_) ?_
      · show Steps p.tables e below (T0.setTop (mkF m 175 #[.val (.int x0)] [(.int (65533 : Int32)), (.int x0)])) t
        exact XS.icmpNo X0.here hx rfl (hb hby d2_175) rfl (tlt hc2).2.2.2 k
      refine QP.cast (congrArg (fun z => some (Value.int z)) (show (g2_164 x0) = (g2_178 x0) from ((if_neg hc1).trans (if_pos hc2)))) ?_
      exact b2_178 C X0 e0 N0 hk hn x0
    · refine Runs.via (T' := T0) (g' := (mkF m 192 #[.val (.int x0)] [])) (fun t k => ?_) ?_
      · show Steps p.tables e below (T0.setTop (mkF m 175 #[.val (.int x0)] [(.int (65533 : Int32)), (.int x0)])) t
        exact XS.icmpYes X0.here hx rfl (pc0 := 175) (pc' := 192) rfl (hb hby d2_175) rfl (flt hc2).2.2.2 (by decide) (by decide) k
      refine Runs.via (T' := T0) (g' := (mkF m 197 #[.val (.int x0)] [(.int (1 : Int32))])) (fun t k => ?_) ?_
      · show Steps p.tables e below (T0.setTop (mkF m 192 #[.val (.int x0)] [])) t
        refine XS.iconst X0.here hx rfl (hb hby d2_192) ?_
        show Steps p.tables e below (T0.setTop (mkF m 193 #[.val (.int x0)] [(.int (1 : Int32))])) t
        refine XS.goto X0.here hx rfl (pc0 := 193) (pc' := 197) rfl (hb hby d2_193) (by decide) (by decide) ?_
        exact k
      refine QP.cast (congrArg (fun z => some (Value.int z)) (show (g2_164 x0) = (1 : Int32) from ((if_neg hc1).trans (if_neg hc2)))) ?_
      exact own_retN X0 hx hlk (t := .boolean) hret (by simp) (hb hby d2_197) hk hn ⟨rfl, N0, e0⟩
def g2_150 (x0 : Int32) : Int32 := (if x0 < (63744 : Int32) then (g2_164 x0) else (if (64975 : Int32) < x0 then (g2_164 x0) else (1 : Int32)))
set_option maxRecDepth 65536 in
set_option maxHeartbeats 4000000 in
theorem b2_150 (C : Ctx p s m meth c Z a0 "com/example/onto3/onto3/rdf/TermScanner" prog_39_method_41_code 1 (some .boolean) "isBaseChar") (X0 : Stand p l e ({ frames := 0, cells := 0, slots := 0, locals := 0 } : Room) s m args below meth c T0 locs cells slots) (e0 : T0.heap = h0) (N0 : Fr n0 locs) (hk : cells ≤ 0) (hn : slots ≤ 0) (x0 : Int32) :
    Runs p e below s (QP (some (.int (g2_150 x0))) h0 n0) 0 0 T0 (mkF m 150 #[.val (.int x0)] []) := by
  have ⟨hx, hZ, hw, hby, hml, hown, hret, hlk, hnm⟩ := C
  refine Runs.via (T' := T0) (g' := (mkF m 154 #[.val (.int x0)] [(.int (63744 : Int32)), (.int x0)])) (fun t k => ?_) ?_
  · show Steps p.tables e below (T0.setTop (mkF m 150 #[.val (.int x0)] [])) t
    refine XS.iloadN X0.here hx rfl (hb hby d2_150) rfl ?_
    show Steps p.tables e below (T0.setTop (mkF m 151 #[.val (.int x0)] [(.int x0)])) t
    refine X0.ldcwInt hx hown (mvT hZ (hw _ (List.mem_of_getElem? (i := 16) rfl))) (g := (mkF m 151 #[.val (.int x0)] [(.int x0)])) rfl (hb hby d2_151) _ ?_
    exact k
  by_cases hc1 : x0 < (63744 : Int32)
  · refine Runs.via (T' := T0) (g' := (mkF m 164 #[.val (.int x0)] [])) (fun t k => ?_) ?_
    · show Steps p.tables e below (T0.setTop (mkF m 154 #[.val (.int x0)] [(.int (63744 : Int32)), (.int x0)])) t
      exact XS.icmpYes X0.here hx rfl (pc0 := 154) (pc' := 164) rfl (hb hby d2_154) rfl (tlt hc1).1 (by decide) (by decide) k
    refine QP.cast (congrArg (fun z => some (Value.int z)) (show (g2_150 x0) = (g2_164 x0) from (if_pos hc1))) ?_
    exact b2_164 C X0 e0 N0 hk hn x0
  · refine Runs.via (T' := T0) (g' := (mkF m 157 #[.val (.int x0)] [])) (fun t k => ?_) ?_
    · show Steps p.tables e below (T0.setTop (mkF m 154 #[.val (.int x0)] [(.int (63744 : Int32)), (.int x0)])) t
      exact XS.icmpNo X0.here hx rfl (hb hby d2_154) rfl (flt hc1).1 k
    refine Runs.via (T' := T0) (g' := (mkF m 161 #[.val (.int x0)] [(.int (64975 : Int32)), (.int x0)])) (fun t k => ?_) ?_
    · show Steps p.tables e below (T0.setTop (mkF m 157 #[.val (.int x0)] [])) t
      refine XS.iloadN X0.here hx rfl (hb hby d2_157) rfl ?_
      show Steps p.tables e below (T0.setTop (mkF m 158 #[.val (.int x0)] [(.int x0)])) t
      refine X0.ldcwInt hx hown (mvT hZ (hw _ (List.mem_of_getElem? (i := 28) rfl))) (g := (mkF m 158 #[.val (.int x0)] [(.int x0)])) rfl (hb hby d2_158) _ ?_
      exact k
    by_cases hc2 : (64975 : Int32) < x0
    · refine Runs.via (T' := T0) (g' := (mkF m 164 #[.val (.int x0)] [])) (fun t k => ?_) ?_
      · show Steps p.tables e below (T0.setTop (mkF m 161 #[.val (.int x0)] [(.int (64975 : Int32)), (.int x0)])) t
        exact XS.icmpNo X0.here hx rfl (hb hby d2_161) rfl (tlt hc2).2.2.2 k
      refine QP.cast (congrArg (fun z => some (Value.int z)) (show (g2_150 x0) = (g2_164 x0) from ((if_neg hc1).trans (if_pos hc2)))) ?_
      exact b2_164 C X0 e0 N0 hk hn x0
    · refine Runs.via (T' := T0) (g' := (mkF m 192 #[.val (.int x0)] [])) (fun t k => ?_) ?_
      · show Steps p.tables e below (T0.setTop (mkF m 161 #[.val (.int x0)] [(.int (64975 : Int32)), (.int x0)])) t
        exact XS.icmpYes X0.here hx rfl (pc0 := 161) (pc' := 192) rfl (hb hby d2_161) rfl (flt hc2).2.2.2 (by decide) (by decide) k
      refine Runs.via (T' := T0) (g' := (mkF m 197 #[.val (.int x0)] [(.int (1 : Int32))])) (fun t k => ?_) ?_
      · show Steps p.tables e below (T0.setTop (mkF m 192 #[.val (.int x0)] [])) t
        refine XS.iconst X0.here hx rfl (hb hby d2_192) ?_
        show Steps p.tables e below (T0.setTop (mkF m 193 #[.val (.int x0)] [(.int (1 : Int32))])) t
        refine XS.goto X0.here hx rfl (pc0 := 193) (pc' := 197) rfl (hb hby d2_193) (by decide) (by decide) ?_
        exact k
      refine QP.cast (congrArg (fun z => some (Value.int z)) (show (g2_150 x0) = (1 : Int32) from ((if_neg hc1).trans (if_neg hc2)))) ?_
      exact own_retN X0 hx hlk (t := .boolean) hret (by simp) (hb hby d2_197) hk hn ⟨rfl, N0, e0⟩
def g2_136 (x0 : Int32) : Int32 := (if x0 < (12289 : Int32) then (g2_150 x0) else (if (55295 : Int32) < x0 then (g2_150 x0) else (1 : Int32)))
set_option maxRecDepth 65536 in
set_option maxHeartbeats 4000000 in
theorem b2_136 (C : Ctx p s m meth c Z a0 "com/example/onto3/onto3/rdf/TermScanner" prog_39_method_41_code 1 (some .boolean) "isBaseChar") (X0 : Stand p l e ({ frames := 0, cells := 0, slots := 0, locals := 0 } : Room) s m args below meth c T0 locs cells slots) (e0 : T0.heap = h0) (N0 : Fr n0 locs) (hk : cells ≤ 0) (hn : slots ≤ 0) (x0 : Int32) :
    Runs p e below s (QP (some (.int (g2_136 x0))) h0 n0) 0 0 T0 (mkF m 136 #[.val (.int x0)] []) := by
  have ⟨hx, hZ, hw, hby, hml, hown, hret, hlk, hnm⟩ := C
  refine Runs.via (T' := T0) (g' := (mkF m 140 #[.val (.int x0)] [(.int (12289 : Int32)), (.int x0)])) (fun t k => ?_) ?_
  · show Steps p.tables e below (T0.setTop (mkF m 136 #[.val (.int x0)] [])) t
    refine XS.iloadN X0.here hx rfl (hb hby d2_136) rfl ?_
    show Steps p.tables e below (T0.setTop (mkF m 137 #[.val (.int x0)] [(.int x0)])) t
    refine XS.sipush X0.here hx rfl (hb hby d2_137) ?_
    exact k
  by_cases hc1 : x0 < (12289 : Int32)
  · refine Runs.via (T' := T0) (g' := (mkF m 150 #[.val (.int x0)] [])) (fun t k => ?_) ?_
    · show Steps p.tables e below (T0.setTop (mkF m 140 #[.val (.int x0)] [(.int (12289 : Int32)), (.int x0)])) t
      exact XS.icmpYes X0.here hx rfl (pc0 := 140) (pc' := 150) rfl (hb hby d2_140) rfl (tlt hc1).1 (by decide) (by decide) k
    refine QP.cast (congrArg (fun z => some (Value.int z)) (show (g2_136 x0) = (g2_150 x0) from (if_pos hc1))) ?_
    exact b2_150 C X0 e0 N0 hk hn x0
  · refine Runs.via (T' := T0) (g' := (mkF m 143 #[.val (.int x0)] [])) (fun t k => ?_) ?_
    · show Steps p.tables e below (T0.setTop (mkF m 140 #[.val (.int x0)] [(.int (12289 : Int32)), (.int x0)])) t
      exact XS.icmpNo X0.here hx rfl (hb hby d2_140) rfl (flt hc1).1 k
    refine Runs.via (T' := T0) (g' := (mkF m 147 #[.val (.int x0)] [(.int (55295 : Int32)), (.int x0)])) (fun t k => ?_) ?_
    · show Steps p.tables e below (T0.setTop (mkF m 143 #[.val (.int x0)] [])) t
      refine XS.iloadN X0.here hx rfl (hb hby d2_143) rfl ?_
      show Steps p.tables e below (T0.setTop (mkF m 144 #[.val (.int x0)] [(.int x0)])) t
      refine X0.ldcwInt hx hown (mvT hZ (hw _ (List.mem_of_getElem? (i := 27) rfl))) (g := (mkF m 144 #[.val (.int x0)] [(.int x0)])) rfl (hb hby d2_144) _ ?_
      exact k
    by_cases hc2 : (55295 : Int32) < x0
    · refine Runs.via (T' := T0) (g' := (mkF m 150 #[.val (.int x0)] [])) (fun t k => ?_) ?_
      · show Steps p.tables e below (T0.setTop (mkF m 147 #[.val (.int x0)] [(.int (55295 : Int32)), (.int x0)])) t
        exact XS.icmpNo X0.here hx rfl (hb hby d2_147) rfl (tlt hc2).2.2.2 k
      refine QP.cast (congrArg (fun z => some (Value.int z)) (show (g2_136 x0) = (g2_150 x0) from ((if_neg hc1).trans (if_pos hc2)))) ?_
      exact b2_150 C X0 e0 N0 hk hn x0
    · refine Runs.via (T' := T0) (g' := (mkF m 192 #[.val (.int x0)] [])) (fun t k => ?_) ?_
      · show Steps p.tables e below (T0.setTop (mkF m 147 #[.val (.int x0)] [(.int (55295 : Int32)), (.int x0)])) t
        exact XS.icmpYes X0.here hx rfl (pc0 := 147) (pc' := 192) rfl (hb hby d2_147) rfl (flt hc2).2.2.2 (by decide) (by decide) k
      refine Runs.via (T' := T0) (g' := (mkF m 197 #[.val (.int x0)] [(.int (1 : Int32))])) (fun t k => ?_) ?_
      · show Steps p.tables e below (T0.setTop (mkF m 192 #[.val (.int x0)] [])) t
        refine XS.iconst X0.here hx rfl (hb hby d2_192) ?_
        show Steps p.tables e below (T0.setTop (mkF m 193 #[.val (.int x0)] [(.int (1 : Int32))])) t
        refine XS.goto X0.here hx rfl (pc0 := 193) (pc' := 197) rfl (hb hby d2_193) (by decide) (by decide) ?_
        exact k
      refine QP.cast (congrArg (fun z => some (Value.int z)) (show (g2_136 x0) = (1 : Int32) from ((if_neg hc1).trans (if_neg hc2)))) ?_
      exact own_retN X0 hx hlk (t := .boolean) hret (by simp) (hb hby d2_197) hk hn ⟨rfl, N0, e0⟩
def g2_122 (x0 : Int32) : Int32 := (if x0 < (11264 : Int32) then (g2_136 x0) else (if (12271 : Int32) < x0 then (g2_136 x0) else (1 : Int32)))
set_option maxRecDepth 65536 in
set_option maxHeartbeats 4000000 in
theorem b2_122 (C : Ctx p s m meth c Z a0 "com/example/onto3/onto3/rdf/TermScanner" prog_39_method_41_code 1 (some .boolean) "isBaseChar") (X0 : Stand p l e ({ frames := 0, cells := 0, slots := 0, locals := 0 } : Room) s m args below meth c T0 locs cells slots) (e0 : T0.heap = h0) (N0 : Fr n0 locs) (hk : cells ≤ 0) (hn : slots ≤ 0) (x0 : Int32) :
    Runs p e below s (QP (some (.int (g2_122 x0))) h0 n0) 0 0 T0 (mkF m 122 #[.val (.int x0)] []) := by
  have ⟨hx, hZ, hw, hby, hml, hown, hret, hlk, hnm⟩ := C
  refine Runs.via (T' := T0) (g' := (mkF m 126 #[.val (.int x0)] [(.int (11264 : Int32)), (.int x0)])) (fun t k => ?_) ?_
  · show Steps p.tables e below (T0.setTop (mkF m 122 #[.val (.int x0)] [])) t
    refine XS.iloadN X0.here hx rfl (hb hby d2_122) rfl ?_
    show Steps p.tables e below (T0.setTop (mkF m 123 #[.val (.int x0)] [(.int x0)])) t
    refine XS.sipush X0.here hx rfl (hb hby d2_123) ?_
    exact k
  by_cases hc1 : x0 < (11264 : Int32)
  · refine Runs.via (T' := T0) (g' := (mkF m 136 #[.val (.int x0)] [])) (fun t k => ?_) ?_
    · show Steps p.tables e below (T0.setTop (mkF m 126 #[.val (.int x0)] [(.int (11264 : Int32)), (.int x0)])) t
      exact XS.icmpYes X0.here hx rfl (pc0 := 126) (pc' := 136) rfl (hb hby d2_126) rfl (tlt hc1).1 (by decide) (by decide) k
    refine QP.cast (congrArg (fun z => some (Value.int z)) (show (g2_122 x0) = (g2_136 x0) from (if_pos hc1))) ?_
    exact b2_136 C X0 e0 N0 hk hn x0
  · refine Runs.via (T' := T0) (g' := (mkF m 129 #[.val (.int x0)] [])) (fun t k => ?_) ?_
    · show Steps p.tables e below (T0.setTop (mkF m 126 #[.val (.int x0)] [(.int (11264 : Int32)), (.int x0)])) t
      exact XS.icmpNo X0.here hx rfl (hb hby d2_126) rfl (flt hc1).1 k
    refine Runs.via (T' := T0) (g' := (mkF m 133 #[.val (.int x0)] [(.int (12271 : Int32)), (.int x0)])) (fun t k => ?_) ?_
    · show Steps p.tables e below (T0.setTop (mkF m 129 #[.val (.int x0)] [])) t
      refine XS.iloadN X0.here hx rfl (hb hby d2_129) rfl ?_
      show Steps p.tables e below (T0.setTop (mkF m 130 #[.val (.int x0)] [(.int x0)])) t
      refine XS.sipush X0.here hx rfl (hb hby d2_130) ?_
      exact k
    by_cases hc2 : (12271 : Int32) < x0
    · refine Runs.via (T' := T0) (g' := (mkF m 136 #[.val (.int x0)] [])) (fun t k => ?_) ?_
      · show Steps p.tables e below (T0.setTop (mkF m 133 #[.val (.int x0)] [(.int (12271 : Int32)), (.int x0)])) t
        exact XS.icmpNo X0.here hx rfl (hb hby d2_133) rfl (tlt hc2).2.2.2 k
      refine QP.cast (congrArg (fun z => some (Value.int z)) (show (g2_122 x0) = (g2_136 x0) from ((if_neg hc1).trans (if_pos hc2)))) ?_
      exact b2_136 C X0 e0 N0 hk hn x0
    · refine Runs.via (T' := T0) (g' := (mkF m 192 #[.val (.int x0)] [])) (fun t k => ?_) ?_
      · show Steps p.tables e below (T0.setTop (mkF m 133 #[.val (.int x0)] [(.int (12271 : Int32)), (.int x0)])) t
        exact XS.icmpYes X0.here hx rfl (pc0 := 133) (pc' := 192) rfl (hb hby d2_133) rfl (flt hc2).2.2.2 (by decide) (by decide) k
      refine Runs.via (T' := T0) (g' := (mkF m 197 #[.val (.int x0)] [(.int (1 : Int32))])) (fun t k => ?_) ?_
      · show Steps p.tables e below (T0.setTop (mkF m 192 #[.val (.int x0)] [])) t
        refine XS.iconst X0.here hx rfl (hb hby d2_192) ?_
        show Steps p.tables e below (T0.setTop (mkF m 193 #[.val (.int x0)] [(.int (1 : Int32))])) t
        refine XS.goto X0.here hx rfl (pc0 := 193) (pc' := 197) rfl (hb hby d2_193) (by decide) (by decide) ?_
        exact k
      refine QP.cast (congrArg (fun z => some (Value.int z)) (show (g2_122 x0) = (1 : Int32) from ((if_neg hc1).trans (if_neg hc2)))) ?_
      exact own_retN X0 hx hlk (t := .boolean) hret (by simp) (hb hby d2_197) hk hn ⟨rfl, N0, e0⟩
def g2_108 (x0 : Int32) : Int32 := (if x0 < (8304 : Int32) then (g2_122 x0) else (if (8591 : Int32) < x0 then (g2_122 x0) else (1 : Int32)))
set_option maxRecDepth 65536 in
set_option maxHeartbeats 4000000 in
theorem b2_108 (C : Ctx p s m meth c Z a0 "com/example/onto3/onto3/rdf/TermScanner" prog_39_method_41_code 1 (some .boolean) "isBaseChar") (X0 : Stand p l e ({ frames := 0, cells := 0, slots := 0, locals := 0 } : Room) s m args below meth c T0 locs cells slots) (e0 : T0.heap = h0) (N0 : Fr n0 locs) (hk : cells ≤ 0) (hn : slots ≤ 0) (x0 : Int32) :
    Runs p e below s (QP (some (.int (g2_108 x0))) h0 n0) 0 0 T0 (mkF m 108 #[.val (.int x0)] []) := by
  have ⟨hx, hZ, hw, hby, hml, hown, hret, hlk, hnm⟩ := C
  refine Runs.via (T' := T0) (g' := (mkF m 112 #[.val (.int x0)] [(.int (8304 : Int32)), (.int x0)])) (fun t k => ?_) ?_
  · show Steps p.tables e below (T0.setTop (mkF m 108 #[.val (.int x0)] [])) t
    refine XS.iloadN X0.here hx rfl (hb hby d2_108) rfl ?_
    show Steps p.tables e below (T0.setTop (mkF m 109 #[.val (.int x0)] [(.int x0)])) t
    refine XS.sipush X0.here hx rfl (hb hby d2_109) ?_
    exact k
  by_cases hc1 : x0 < (8304 : Int32)
  · refine Runs.via (T' := T0) (g' := (mkF m 122 #[.val (.int x0)] [])) (fun t k => ?_) ?_
    · show Steps p.tables e below (T0.setTop (mkF m 112 #[.val (.int x0)] [(.int (8304 : Int32)), (.int x0)])) t
      exact XS.icmpYes X0.here hx rfl (pc0 := 112) (pc' := 122) rfl (hb hby d2_112) rfl (tlt hc1).1 (by decide) (by decide) k
    refine QP.cast (congrArg (fun z => some (Value.int z)) (show (g2_108 x0) = (g2_122 x0) from (if_pos hc1))) ?_
    exact b2_122 C X0 e0 N0 hk hn x0
  · refine Runs.via (T' := T0) (g' := (mkF m 115 #[.val (.int x0)] [])) (fun t k => ?_) ?_
    · show Steps p.tables e below (T0.setTop (mkF m 112 #[.val (.int x0)] [(.int (8304 : Int32)), (.int x0)])) t
      exact XS.icmpNo X0.here hx rfl (hb hby d2_112) rfl (flt hc1).1 k
    refine Runs.via (T' := T0) (g' := (mkF m 119 #[.val (.int x0)] [(.int (8591 : Int32)), (.int x0)])) (fun t k => ?_) ?_
    · show Steps p.tables e below (T0.setTop (mkF m 115 #[.val (.int x0)] [])) t
      refine XS.iloadN X0.here hx rfl (hb hby d2_115) rfl ?_
      show Steps p.tables e below (T0.setTop (mkF m 116 #[.val (.int x0)] [(.int x0)])) t
      refine XS.sipush X0.here hx rfl (hb hby d2_116) ?_
      exact k
    by_cases hc2 : (8591 : Int32) < x0
    · refine Runs.via (T' := T0) (g' := (mkF m 122 #[.val (.int x0)] [])) (fun t k => ?_) ?_
      · show Steps p.tables e below (T0.setTop (mkF m 119 #[.val (.int x0)] [(.int (8591 : Int32)), (.int x0)])) t
        exact XS.icmpNo X0.here hx rfl (hb hby d2_119) rfl (tlt hc2).2.2.2 k
      refine QP.cast (congrArg (fun z => some (Value.int z)) (show (g2_108 x0) = (g2_122 x0) from ((if_neg hc1).trans (if_pos hc2)))) ?_
      exact b2_122 C X0 e0 N0 hk hn x0
    · refine Runs.via (T' := T0) (g' := (mkF m 192 #[.val (.int x0)] [])) (fun t k => ?_) ?_
      · show Steps p.tables e below (T0.setTop (mkF m 119 #[.val (.int x0)] [(.int (8591 : Int32)), (.int x0)])) t
        exact XS.icmpYes X0.here hx rfl (pc0 := 119) (pc' := 192) rfl (hb hby d2_119) rfl (flt hc2).2.2.2 (by decide) (by decide) k
      refine Runs.via (T' := T0) (g' := (mkF m 197 #[.val (.int x0)] [(.int (1 : Int32))])) (fun t k => ?_) ?_
      · show Steps p.tables e below (T0.setTop (mkF m 192 #[.val (.int x0)] [])) t
        refine XS.iconst X0.here hx rfl (hb hby d2_192) ?_
        show Steps p.tables e below (T0.setTop (mkF m 193 #[.val (.int x0)] [(.int (1 : Int32))])) t
        refine XS.goto X0.here hx rfl (pc0 := 193) (pc' := 197) rfl (hb hby d2_193) (by decide) (by decide) ?_
        exact k
      refine QP.cast (congrArg (fun z => some (Value.int z)) (show (g2_108 x0) = (1 : Int32) from ((if_neg hc1).trans (if_neg hc2)))) ?_
      exact own_retN X0 hx hlk (t := .boolean) hret (by simp) (hb hby d2_197) hk hn ⟨rfl, N0, e0⟩
def g2_94 (x0 : Int32) : Int32 := (if x0 < (8204 : Int32) then (g2_108 x0) else (if (8205 : Int32) < x0 then (g2_108 x0) else (1 : Int32)))
set_option maxRecDepth 65536 in
set_option maxHeartbeats 4000000 in
theorem b2_94 (C : Ctx p s m meth c Z a0 "com/example/onto3/onto3/rdf/TermScanner" prog_39_method_41_code 1 (some .boolean) "isBaseChar") (X0 : Stand p l e ({ frames := 0, cells := 0, slots := 0, locals := 0 } : Room) s m args below meth c T0 locs cells slots) (e0 : T0.heap = h0) (N0 : Fr n0 locs) (hk : cells ≤ 0) (hn : slots ≤ 0) (x0 : Int32) :
    Runs p e below s (QP (some (.int (g2_94 x0))) h0 n0) 0 0 T0 (mkF m 94 #[.val (.int x0)] []) := by
  have ⟨hx, hZ, hw, hby, hml, hown, hret, hlk, hnm⟩ := C
  refine Runs.via (T' := T0) (g' := (mkF m 98 #[.val (.int x0)] [(.int (8204 : Int32)), (.int x0)])) (fun t k => ?_) ?_
  · show Steps p.tables e below (T0.setTop (mkF m 94 #[.val (.int x0)] [])) t
    refine XS.iloadN X0.here hx rfl (hb hby d2_94) rfl ?_
    show Steps p.tables e below (T0.setTop (mkF m 95 #[.val (.int x0)] [(.int x0)])) t
    refine XS.sipush X0.here hx rfl (hb hby d2_95) ?_
    exact k
  by_cases hc1 : x0 < (8204 : Int32)
  · refine Runs.via (T' := T0) (g' := (mkF m 108 #[.val (.int x0)] [])) (fun t k => ?_) ?_
    · show Steps p.tables e below (T0.setTop (mkF m 98 #[.val (.int x0)] [(.int (8204 : Int32)), (.int x0)])) t
      exact XS.icmpYes X0.here hx rfl (pc0 := 98) (pc' := 108) rfl (hb hby d2_98) rfl (tlt hc1).1 (by decide) (by decide) k
    refine QP.cast (congrArg (fun z => some (Value.int z)) (show (g2_94 x0) = (g2_108 x0) from (if_pos hc1))) ?_
    exact b2_108 C X0 e0 N0 hk hn x0
  · refine Runs.via (T' := T0) (g' := (mkF m 101 #[.val (.int x0)] [])) (fun t k => ?_) ?_
    · show Steps p.tables e below (T0.setTop (mkF m 98 #[.val (.int x0)] [(.int (8204 : Int32)), (.int x0)])) t
      exact XS.icmpNo X0.here hx rfl (hb hby d2_98) rfl (flt hc1).1 k
    refine Runs.via (T' := T0) (g' := (mkF m 105 #[.val (.int x0)] [(.int (8205 : Int32)), (.int x0)])) (fun t k => ?_) ?_
    · show Steps p.tables e below (T0.setTop (mkF m 101 #[.val (.int x0)] [])) t
      refine XS.iloadN X0.here hx rfl (hb hby d2_101) rfl ?_
      show Steps p.tables e below (T0.setTop (mkF m 102 #[.val (.int x0)] [(.int x0)])) t
      refine XS.sipush X0.here hx rfl (hb hby d2_102) ?_
      exact k
    by_cases hc2 : (8205 : Int32) < x0
    · refine Runs.via (T' := T0) (g' := (mkF m 108 #[.val (.int x0)] [])) (fun t k => ?_) ?_
      · show Steps p.tables e below (T0.setTop (mkF m 105 #[.val (.int x0)] [(.int (8205 : Int32)), (.int x0)])) t
        exact XS.icmpNo X0.here hx rfl (hb hby d2_105) rfl (tlt hc2).2.2.2 k
      refine QP.cast (congrArg (fun z => some (Value.int z)) (show (g2_94 x0) = (g2_108 x0) from ((if_neg hc1).trans (if_pos hc2)))) ?_
      exact b2_108 C X0 e0 N0 hk hn x0
    · refine Runs.via (T' := T0) (g' := (mkF m 192 #[.val (.int x0)] [])) (fun t k => ?_) ?_
      · show Steps p.tables e below (T0.setTop (mkF m 105 #[.val (.int x0)] [(.int (8205 : Int32)), (.int x0)])) t
        exact XS.icmpYes X0.here hx rfl (pc0 := 105) (pc' := 192) rfl (hb hby d2_105) rfl (flt hc2).2.2.2 (by decide) (by decide) k
      refine Runs.via (T' := T0) (g' := (mkF m 197 #[.val (.int x0)] [(.int (1 : Int32))])) (fun t k => ?_) ?_
      · show Steps p.tables e below (T0.setTop (mkF m 192 #[.val (.int x0)] [])) t
        refine XS.iconst X0.here hx rfl (hb hby d2_192) ?_
        show Steps p.tables e below (T0.setTop (mkF m 193 #[.val (.int x0)] [(.int (1 : Int32))])) t
        refine XS.goto X0.here hx rfl (pc0 := 193) (pc' := 197) rfl (hb hby d2_193) (by decide) (by decide) ?_
        exact k
      refine QP.cast (congrArg (fun z => some (Value.int z)) (show (g2_94 x0) = (1 : Int32) from ((if_neg hc1).trans (if_neg hc2)))) ?_
      exact own_retN X0 hx hlk (t := .boolean) hret (by simp) (hb hby d2_197) hk hn ⟨rfl, N0, e0⟩
def g2_80 (x0 : Int32) : Int32 := (if x0 < (895 : Int32) then (g2_94 x0) else (if (8191 : Int32) < x0 then (g2_94 x0) else (1 : Int32)))
set_option maxRecDepth 65536 in
set_option maxHeartbeats 4000000 in
theorem b2_80 (C : Ctx p s m meth c Z a0 "com/example/onto3/onto3/rdf/TermScanner" prog_39_method_41_code 1 (some .boolean) "isBaseChar") (X0 : Stand p l e ({ frames := 0, cells := 0, slots := 0, locals := 0 } : Room) s m args below meth c T0 locs cells slots) (e0 : T0.heap = h0) (N0 : Fr n0 locs) (hk : cells ≤ 0) (hn : slots ≤ 0) (x0 : Int32) :
    Runs p e below s (QP (some (.int (g2_80 x0))) h0 n0) 0 0 T0 (mkF m 80 #[.val (.int x0)] []) := by
  have ⟨hx, hZ, hw, hby, hml, hown, hret, hlk, hnm⟩ := C
  refine Runs.via (T' := T0) (g' := (mkF m 84 #[.val (.int x0)] [(.int (895 : Int32)), (.int x0)])) (fun t k => ?_) ?_
  · show Steps p.tables e below (T0.setTop (mkF m 80 #[.val (.int x0)] [])) t
    refine XS.iloadN X0.here hx rfl (hb hby d2_80) rfl ?_
    show Steps p.tables e below (T0.setTop (mkF m 81 #[.val (.int x0)] [(.int x0)])) t
    refine XS.sipush X0.here hx rfl (hb hby d2_81) ?_
    exact k
  by_cases hc1 : x0 < (895 : Int32)
  · refine Runs.via (T' := T0) (g' := (mkF m 94 #[.val (.int x0)] [])) (fun t k => ?_) ?_
    · show Steps p.tables e below (T0.setTop (mkF m 84 #[.val (.int x0)] [(.int (895 : Int32)), (.int x0)])) t
      exact XS.icmpYes X0.here hx rfl (pc0 := 84) (pc' := 94) rfl (hb hby d2_84) rfl (tlt hc1).1 (by decide) (by decide) k
    refine QP.cast (congrArg (fun z => some (Value.int z)) (show (g2_80 x0) = (g2_94 x0) from (if_pos hc1))) ?_
    exact b2_94 C X0 e0 N0 hk hn x0
  · refine Runs.via (T' := T0) (g' := (mkF m 87 #[.val (.int x0)] [])) (fun t k => ?_) ?_
    · show Steps p.tables e below (T0.setTop (mkF m 84 #[.val (.int x0)] [(.int (895 : Int32)), (.int x0)])) t
      exact XS.icmpNo X0.here hx rfl (hb hby d2_84) rfl (flt hc1).1 k
    refine Runs.via (T' := T0) (g' := (mkF m 91 #[.val (.int x0)] [(.int (8191 : Int32)), (.int x0)])) (fun t k => ?_) ?_
    · show Steps p.tables e below (T0.setTop (mkF m 87 #[.val (.int x0)] [])) t
      refine XS.iloadN X0.here hx rfl (hb hby d2_87) rfl ?_
      show Steps p.tables e below (T0.setTop (mkF m 88 #[.val (.int x0)] [(.int x0)])) t
      refine XS.sipush X0.here hx rfl (hb hby d2_88) ?_
      exact k
    by_cases hc2 : (8191 : Int32) < x0
    · refine Runs.via (T' := T0) (g' := (mkF m 94 #[.val (.int x0)] [])) (fun t k => ?_) ?_
      · show Steps p.tables e below (T0.setTop (mkF m 91 #[.val (.int x0)] [(.int (8191 : Int32)), (.int x0)])) t
        exact XS.icmpNo X0.here hx rfl (hb hby d2_91) rfl (tlt hc2).2.2.2 k
      refine QP.cast (congrArg (fun z => some (Value.int z)) (show (g2_80 x0) = (g2_94 x0) from ((if_neg hc1).trans (if_pos hc2)))) ?_
      exact b2_94 C X0 e0 N0 hk hn x0
    · refine Runs.via (T' := T0) (g' := (mkF m 192 #[.val (.int x0)] [])) (fun t k => ?_) ?_
      · show Steps p.tables e below (T0.setTop (mkF m 91 #[.val (.int x0)] [(.int (8191 : Int32)), (.int x0)])) t
        exact XS.icmpYes X0.here hx rfl (pc0 := 91) (pc' := 192) rfl (hb hby d2_91) rfl (flt hc2).2.2.2 (by decide) (by decide) k
      refine Runs.via (T' := T0) (g' := (mkF m 197 #[.val (.int x0)] [(.int (1 : Int32))])) (fun t k => ?_) ?_
      · show Steps p.tables e below (T0.setTop (mkF m 192 #[.val (.int x0)] [])) t
        refine XS.iconst X0.here hx rfl (hb hby d2_192) ?_
        show Steps p.tables e below (T0.setTop (mkF m 193 #[.val (.int x0)] [(.int (1 : Int32))])) t
        refine XS.goto X0.here hx rfl (pc0 := 193) (pc' := 197) rfl (hb hby d2_193) (by decide) (by decide) ?_
        exact k
      refine QP.cast (congrArg (fun z => some (Value.int z)) (show (g2_80 x0) = (1 : Int32) from ((if_neg hc1).trans (if_neg hc2)))) ?_
      exact own_retN X0 hx hlk (t := .boolean) hret (by simp) (hb hby d2_197) hk hn ⟨rfl, N0, e0⟩
def g2_66 (x0 : Int32) : Int32 := (if x0 < (880 : Int32) then (g2_80 x0) else (if (893 : Int32) < x0 then (g2_80 x0) else (1 : Int32)))
set_option maxRecDepth 65536 in
set_option maxHeartbeats 4000000 in
theorem b2_66 (C : Ctx p s m meth c Z a0 "com/example/onto3/onto3/rdf/TermScanner" prog_39_method_41_code 1 (some .boolean) "isBaseChar") (X0 : Stand p l e ({ frames := 0, cells := 0, slots := 0, locals := 0 } : Room) s m args below meth c T0 locs cells slots) (e0 : T0.heap = h0) (N0 : Fr n0 locs) (hk : cells ≤ 0) (hn : slots ≤ 0) (x0 : Int32) :
    Runs p e below s (QP (some (.int (g2_66 x0))) h0 n0) 0 0 T0 (mkF m 66 #[.val (.int x0)] []) := by
  have ⟨hx, hZ, hw, hby, hml, hown, hret, hlk, hnm⟩ := C
  refine Runs.via (T' := T0) (g' := (mkF m 70 #[.val (.int x0)] [(.int (880 : Int32)), (.int x0)])) (fun t k => ?_) ?_
  · show Steps p.tables e below (T0.setTop (mkF m 66 #[.val (.int x0)] [])) t
    refine XS.iloadN X0.here hx rfl (hb hby d2_66) rfl ?_
    show Steps p.tables e below (T0.setTop (mkF m 67 #[.val (.int x0)] [(.int x0)])) t
    refine XS.sipush X0.here hx rfl (hb hby d2_67) ?_
    exact k
  by_cases hc1 : x0 < (880 : Int32)
  · refine Runs.via (T' := T0) (g' := (mkF m 80 #[.val (.int x0)] [])) (fun t k => ?_) ?_
    · show Steps p.tables e below (T0.setTop (mkF m 70 #[.val (.int x0)] [(.int (880 : Int32)), (.int x0)])) t
      exact XS.icmpYes X0.here hx rfl (pc0 := 70) (pc' := 80) rfl (hb hby d2_70) rfl (tlt hc1).1 (by decide) (by decide) k
    refine QP.cast (congrArg (fun z => some (Value.int z)) (show (g2_66 x0) = (g2_80 x0) from (if_pos hc1))) ?_
    exact b2_80 C X0 e0 N0 hk hn x0
  · refine Runs.via (T' := T0) (g' := (mkF m 73 #[.val (.int x0)] [])) (fun t k => ?_) ?_
    · show Steps p.tables e below (T0.setTop (mkF m 70 #[.val (.int x0)] [(.int (880 : Int32)), (.int x0)])) t
      exact XS.icmpNo X0.here hx rfl (hb hby d2_70) rfl (flt hc1).1 k
    refine Runs.via (T' := T0) (g' := (mkF m 77 #[.val (.int x0)] [(.int (893 : Int32)), (.int x0)])) (fun t k => ?_) ?_
    · show Steps p.tables e below (T0.setTop (mkF m 73 #[.val (.int x0)] [])) t
      refine XS.iloadN X0.here hx rfl (hb hby d2_73) rfl ?_
      show Steps p.tables e below (T0.setTop (mkF m 74 #[.val (.int x0)] [(.int x0)])) t
      refine XS.sipush X0.here hx rfl (hb hby d2_74) ?_
      exact k
    by_cases hc2 : (893 : Int32) < x0
    · refine Runs.via (T' := T0) (g' := (mkF m 80 #[.val (.int x0)] [])) (fun t k => ?_) ?_
      · show Steps p.tables e below (T0.setTop (mkF m 77 #[.val (.int x0)] [(.int (893 : Int32)), (.int x0)])) t
        exact XS.icmpNo X0.here hx rfl (hb hby d2_77) rfl (tlt hc2).2.2.2 k
      refine QP.cast (congrArg (fun z => some (Value.int z)) (show (g2_66 x0) = (g2_80 x0) from ((if_neg hc1).trans (if_pos hc2)))) ?_
      exact b2_80 C X0 e0 N0 hk hn x0
    · refine Runs.via (T' := T0) (g' := (mkF m 192 #[.val (.int x0)] [])) (fun t k => ?_) ?_
      · show Steps p.tables e below (T0.setTop (mkF m 77 #[.val (.int x0)] [(.int (893 : Int32)), (.int x0)])) t
        exact XS.icmpYes X0.here hx rfl (pc0 := 77) (pc' := 192) rfl (hb hby d2_77) rfl (flt hc2).2.2.2 (by decide) (by decide) k
      refine Runs.via (T' := T0) (g' := (mkF m 197 #[.val (.int x0)] [(.int (1 : Int32))])) (fun t k => ?_) ?_
      · show Steps p.tables e below (T0.setTop (mkF m 192 #[.val (.int x0)] [])) t
        refine XS.iconst X0.here hx rfl (hb hby d2_192) ?_
        show Steps p.tables e below (T0.setTop (mkF m 193 #[.val (.int x0)] [(.int (1 : Int32))])) t
        refine XS.goto X0.here hx rfl (pc0 := 193) (pc' := 197) rfl (hb hby d2_193) (by decide) (by decide) ?_
        exact k
      refine QP.cast (congrArg (fun z => some (Value.int z)) (show (g2_66 x0) = (1 : Int32) from ((if_neg hc1).trans (if_neg hc2)))) ?_
      exact own_retN X0 hx hlk (t := .boolean) hret (by simp) (hb hby d2_197) hk hn ⟨rfl, N0, e0⟩
def g2_52 (x0 : Int32) : Int32 := (if x0 < (248 : Int32) then (g2_66 x0) else (if (767 : Int32) < x0 then (g2_66 x0) else (1 : Int32)))
set_option maxRecDepth 65536 in
set_option maxHeartbeats 4000000 in
theorem b2_52 (C : Ctx p s m meth c Z a0 "com/example/onto3/onto3/rdf/TermScanner" prog_39_method_41_code 1 (some .boolean) "isBaseChar") (X0 : Stand p l e ({ frames := 0, cells := 0, slots := 0, locals := 0 } : Room) s m args below meth c T0 locs cells slots) (e0 : T0.heap = h0) (N0 : Fr n0 locs) (hk : cells ≤ 0) (hn : slots ≤ 0) (x0 : Int32) :
    Runs p e below s (QP (some (.int (g2_52 x0))) h0 n0) 0 0 T0 (mkF m 52 #[.val (.int x0)] []) := by
  have ⟨hx, hZ, hw, hby, hml, hown, hret, hlk, hnm⟩ := C
  refine Runs.via (T' := T0) (g' := (mkF m 56 #[.val (.int x0)] [(.int (248 : Int32)), (.int x0)])) (fun t k => ?_) ?_
  · show Steps p.tables e below (T0.setTop (mkF m 52 #[.val (.int x0)] [])) t
    refine XS.iloadN X0.here hx rfl (hb hby d2_52) rfl ?_
    show Steps p.tables e below (T0.setTop (mkF m 53 #[.val (.int x0)] [(.int x0)])) t
    refine XS.sipush X0.here hx rfl (hb hby d2_53) ?_
    exact k
  by_cases hc1 : x0 < (248 : Int32)
  · refine Runs.via (T' := T0) (g' := (mkF m 66 #[.val (.int x0)] [])) (fun t k => ?_) ?_
    · show Steps p.tables e below (T0.setTop (mkF m 56 #[.val (.int x0)] [(.int (248 : Int32)), (.int x0)])) t
      exact XS.icmpYes X0.here hx rfl (pc0 := 56) (pc' := 66) rfl (hb hby d2_56) rfl (tlt hc1).1 (by decide) (by decide) k
    refine QP.cast (congrArg (fun z => some (Value.int z)) (show (g2_52 x0) = (g2_66 x0) from (if_pos hc1))) ?_
    exact b2_66 C X0 e0 N0 hk hn x0
  · refine Runs.via (T' := T0) (g' := (mkF m 59 #[.val (.int x0)] [])) (fun t k => ?_) ?_
    · show Steps p.tables e below (T0.setTop (mkF m 56 #[.val (.int x0)] [(.int (248 : Int32)), (.int x0)])) t
      exact XS.icmpNo X0.here hx rfl (hb hby d2_56) rfl (flt hc1).1 k
    refine Runs.via (T' := T0) (g' := (mkF m 63 #[.val (.int x0)] [(.int (767 : Int32)), (.int x0)])) (fun t k => ?_) ?_
    · show Steps p.tables e below (T0.setTop (mkF m 59 #[.val (.int x0)] [])) t
      refine XS.iloadN X0.here hx rfl (hb hby d2_59) rfl ?_
      show Steps p.tables e below (T0.setTop (mkF m 60 #[.val (.int x0)] [(.int x0)])) t
      refine XS.sipush X0.here hx rfl (hb hby d2_60) ?_
      exact k
    by_cases hc2 : (767 : Int32) < x0
    · refine Runs.via (T' := T0) (g' := (mkF m 66 #[.val (.int x0)] [])) (fun t k => ?_) ?_
      · show Steps p.tables e below (T0.setTop (mkF m 63 #[.val (.int x0)] [(.int (767 : Int32)), (.int x0)])) t
        exact XS.icmpNo X0.here hx rfl (hb hby d2_63) rfl (tlt hc2).2.2.2 k
      refine QP.cast (congrArg (fun z => some (Value.int z)) (show (g2_52 x0) = (g2_66 x0) from ((if_neg hc1).trans (if_pos hc2)))) ?_
      exact b2_66 C X0 e0 N0 hk hn x0
    · refine Runs.via (T' := T0) (g' := (mkF m 192 #[.val (.int x0)] [])) (fun t k => ?_) ?_
      · show Steps p.tables e below (T0.setTop (mkF m 63 #[.val (.int x0)] [(.int (767 : Int32)), (.int x0)])) t
        exact XS.icmpYes X0.here hx rfl (pc0 := 63) (pc' := 192) rfl (hb hby d2_63) rfl (flt hc2).2.2.2 (by decide) (by decide) k
      refine Runs.via (T' := T0) (g' := (mkF m 197 #[.val (.int x0)] [(.int (1 : Int32))])) (fun t k => ?_) ?_
      · show Steps p.tables e below (T0.setTop (mkF m 192 #[.val (.int x0)] [])) t
        refine XS.iconst X0.here hx rfl (hb hby d2_192) ?_
        show Steps p.tables e below (T0.setTop (mkF m 193 #[.val (.int x0)] [(.int (1 : Int32))])) t
        refine XS.goto X0.here hx rfl (pc0 := 193) (pc' := 197) rfl (hb hby d2_193) (by decide) (by decide) ?_
        exact k
      refine QP.cast (congrArg (fun z => some (Value.int z)) (show (g2_52 x0) = (1 : Int32) from ((if_neg hc1).trans (if_neg hc2)))) ?_
      exact own_retN X0 hx hlk (t := .boolean) hret (by simp) (hb hby d2_197) hk hn ⟨rfl, N0, e0⟩
def g2_38 (x0 : Int32) : Int32 := (if x0 < (216 : Int32) then (g2_52 x0) else (if (246 : Int32) < x0 then (g2_52 x0) else (1 : Int32)))
set_option maxRecDepth 65536 in
set_option maxHeartbeats 4000000 in
theorem b2_38 (C : Ctx p s m meth c Z a0 "com/example/onto3/onto3/rdf/TermScanner" prog_39_method_41_code 1 (some .boolean) "isBaseChar") (X0 : Stand p l e ({ frames := 0, cells := 0, slots := 0, locals := 0 } : Room) s m args below meth c T0 locs cells slots) (e0 : T0.heap = h0) (N0 : Fr n0 locs) (hk : cells ≤ 0) (hn : slots ≤ 0) (x0 : Int32) :
    Runs p e below s (QP (some (.int (g2_38 x0))) h0 n0) 0 0 T0 (mkF m 38 #[.val (.int x0)] []) := by
  have ⟨hx, hZ, hw, hby, hml, hown, hret, hlk, hnm⟩ := C
  refine Runs.via (T' := T0) (g' := (mkF m 42 #[.val (.int x0)] [(.int (216 : Int32)), (.int x0)])) (fun t k => ?_) ?_
  · show Steps p.tables e below (T0.setTop (mkF m 38 #[.val (.int x0)] [])) t
    refine XS.iloadN X0.here hx rfl (hb hby d2_38) rfl ?_
    show Steps p.tables e below (T0.setTop (mkF m 39 #[.val (.int x0)] [(.int x0)])) t
    refine XS.sipush X0.here hx rfl (hb hby d2_39) ?_
    exact k
  by_cases hc1 : x0 < (216 : Int32)
  · refine Runs.via (T' := T0) (g' := (mkF m 52 #[.val (.int x0)] [])) (fun t k => ?_) ?_
    · show Steps p.tables e below (T0.setTop (mkF m 42 #[.val (.int x0)] [(.int (216 : Int32)), (.int x0)])) t
      exact XS.icmpYes X0.here hx rfl (pc0 := 42) (pc' := 52) rfl (hb hby d2_42) rfl (tlt hc1).1 (by decide) (by decide) k
    refine QP.cast (congrArg (fun z => some (Value.int z)) (show (g2_38 x0) = (g2_52 x0) from (if_pos hc1))) ?_
    exact b2_52 C X0 e0 N0 hk hn x0
  · refine Runs.via (T' := T0) (g' := (mkF m 45 #[.val (.int x0)] [])) (fun t k => ?_) ?_
    · show Steps p.tables e below (T0.setTop (mkF m 42 #[.val (.int x0)] [(.int (216 : Int32)), (.int x0)])) t
      exact XS.icmpNo X0.here hx rfl (hb hby d2_42) rfl (flt hc1).1 k
    refine Runs.via (T' := T0) (g' := (mkF m 49 #[.val (.int x0)] [(.int (246 : Int32)), (.int x0)])) (fun t k => ?_) ?_
    · show Steps p.tables e below (T0.setTop (mkF m 45 #[.val (.int x0)] [])) t
      refine XS.iloadN X0.here hx rfl (hb hby d2_45) rfl ?_
      show Steps p.tables e below (T0.setTop (mkF m 46 #[.val (.int x0)] [(.int x0)])) t
      refine XS.sipush X0.here hx rfl (hb hby d2_46) ?_
      exact k
    by_cases hc2 : (246 : Int32) < x0
    · refine Runs.via (T' := T0) (g' := (mkF m 52 #[.val (.int x0)] [])) (fun t k => ?_) ?_
      · show Steps p.tables e below (T0.setTop (mkF m 49 #[.val (.int x0)] [(.int (246 : Int32)), (.int x0)])) t
        exact XS.icmpNo X0.here hx rfl (hb hby d2_49) rfl (tlt hc2).2.2.2 k
      refine QP.cast (congrArg (fun z => some (Value.int z)) (show (g2_38 x0) = (g2_52 x0) from ((if_neg hc1).trans (if_pos hc2)))) ?_
      exact b2_52 C X0 e0 N0 hk hn x0
    · refine Runs.via (T' := T0) (g' := (mkF m 192 #[.val (.int x0)] [])) (fun t k => ?_) ?_
      · show Steps p.tables e below (T0.setTop (mkF m 49 #[.val (.int x0)] [(.int (246 : Int32)), (.int x0)])) t
        exact XS.icmpYes X0.here hx rfl (pc0 := 49) (pc' := 192) rfl (hb hby d2_49) rfl (flt hc2).2.2.2 (by decide) (by decide) k
      refine Runs.via (T' := T0) (g' := (mkF m 197 #[.val (.int x0)] [(.int (1 : Int32))])) (fun t k => ?_) ?_
      · show Steps p.tables e below (T0.setTop (mkF m 192 #[.val (.int x0)] [])) t
        refine XS.iconst X0.here hx rfl (hb hby d2_192) ?_
        show Steps p.tables e below (T0.setTop (mkF m 193 #[.val (.int x0)] [(.int (1 : Int32))])) t
        refine XS.goto X0.here hx rfl (pc0 := 193) (pc' := 197) rfl (hb hby d2_193) (by decide) (by decide) ?_
        exact k
      refine QP.cast (congrArg (fun z => some (Value.int z)) (show (g2_38 x0) = (1 : Int32) from ((if_neg hc1).trans (if_neg hc2)))) ?_
      exact own_retN X0 hx hlk (t := .boolean) hret (by simp) (hb hby d2_197) hk hn ⟨rfl, N0, e0⟩
def g2_24 (x0 : Int32) : Int32 := (if x0 < (192 : Int32) then (g2_38 x0) else (if (214 : Int32) < x0 then (g2_38 x0) else (1 : Int32)))
set_option maxRecDepth 65536 in
set_option maxHeartbeats 4000000 in
theorem b2_24 (C : Ctx p s m meth c Z a0 "com/example/onto3/onto3/rdf/TermScanner" prog_39_method_41_code 1 (some .boolean) "isBaseChar") (X0 : Stand p l e ({ frames := 0, cells := 0, slots := 0, locals := 0 } : Room) s m args below meth c T0 locs cells slots) (e0 : T0.heap = h0) (N0 : Fr n0 locs) (hk : cells ≤ 0) (hn : slots ≤ 0) (x0 : Int32) :
    Runs p e below s (QP (some (.int (g2_24 x0))) h0 n0) 0 0 T0 (mkF m 24 #[.val (.int x0)] []) := by
  have ⟨hx, hZ, hw, hby, hml, hown, hret, hlk, hnm⟩ := C
  refine Runs.via (T' := T0) (g' := (mkF m 28 #[.val (.int x0)] [(.int (192 : Int32)), (.int x0)])) (fun t k => ?_) ?_
  · show Steps p.tables e below (T0.setTop (mkF m 24 #[.val (.int x0)] [])) t
    refine XS.iloadN X0.here hx rfl (hb hby d2_24) rfl ?_
    show Steps p.tables e below (T0.setTop (mkF m 25 #[.val (.int x0)] [(.int x0)])) t
    refine XS.sipush X0.here hx rfl (hb hby d2_25) ?_
    exact k
  by_cases hc1 : x0 < (192 : Int32)
  · refine Runs.via (T' := T0) (g' := (mkF m 38 #[.val (.int x0)] [])) (fun t k => ?_) ?_
    · show Steps p.tables e below (T0.setTop (mkF m 28 #[.val (.int x0)] [(.int (192 : Int32)), (.int x0)])) t
      exact XS.icmpYes X0.here hx rfl (pc0 := 28) (pc' := 38) rfl (hb hby d2_28) rfl (tlt hc1).1 (by decide) (by decide) k
    refine QP.cast (congrArg (fun z => some (Value.int z)) (show (g2_24 x0) = (g2_38 x0) from (if_pos hc1))) ?_
    exact b2_38 C X0 e0 N0 hk hn x0
  · refine Runs.via (T' := T0) (g' := (mkF m 31 #[.val (.int x0)] [])) (fun t k => ?_) ?_
    · show Steps p.tables e below (T0.setTop (mkF m 28 #[.val (.int x0)] [(.int (192 : Int32)), (.int x0)])) t
      exact XS.icmpNo X0.here hx rfl (hb hby d2_28) rfl (flt hc1).1 k
    refine Runs.via (T' := T0) (g' := (mkF m 35 #[.val (.int x0)] [(.int (214 : Int32)), (.int x0)])) (fun t k => ?_) ?_
    · show Steps p.tables e below (T0.setTop (mkF m 31 #[.val (.int x0)] [])) t
      refine XS.iloadN X0.here hx rfl (hb hby d2_31) rfl ?_
      show Steps p.tables e below (T0.setTop (mkF m 32 #[.val (.int x0)] [(.int x0)])) t
      refine XS.sipush X0.here hx rfl (hb hby d2_32) ?_
      exact k
    by_cases hc2 : (214 : Int32) < x0
    · refine Runs.via (T' := T0) (g' := (mkF m 38 #[.val (.int x0)] [])) (fun t k => ?_) ?_
      · show Steps p.tables e below (T0.setTop (mkF m 35 #[.val (.int x0)] [(.int (214 : Int32)), (.int x0)])) t
        exact XS.icmpNo X0.here hx rfl (hb hby d2_35) rfl (tlt hc2).2.2.2 k
      refine QP.cast (congrArg (fun z => some (Value.int z)) (show (g2_24 x0) = (g2_38 x0) from ((if_neg hc1).trans (if_pos hc2)))) ?_
      exact b2_38 C X0 e0 N0 hk hn x0
    · refine Runs.via (T' := T0) (g' := (mkF m 192 #[.val (.int x0)] [])) (fun t k => ?_) ?_
      · show Steps p.tables e below (T0.setTop (mkF m 35 #[.val (.int x0)] [(.int (214 : Int32)), (.int x0)])) t
        exact XS.icmpYes X0.here hx rfl (pc0 := 35) (pc' := 192) rfl (hb hby d2_35) rfl (flt hc2).2.2.2 (by decide) (by decide) k
      refine Runs.via (T' := T0) (g' := (mkF m 197 #[.val (.int x0)] [(.int (1 : Int32))])) (fun t k => ?_) ?_
      · show Steps p.tables e below (T0.setTop (mkF m 192 #[.val (.int x0)] [])) t
        refine XS.iconst X0.here hx rfl (hb hby d2_192) ?_
        show Steps p.tables e below (T0.setTop (mkF m 193 #[.val (.int x0)] [(.int (1 : Int32))])) t
        refine XS.goto X0.here hx rfl (pc0 := 193) (pc' := 197) rfl (hb hby d2_193) (by decide) (by decide) ?_
        exact k
      refine QP.cast (congrArg (fun z => some (Value.int z)) (show (g2_24 x0) = (1 : Int32) from ((if_neg hc1).trans (if_neg hc2)))) ?_
      exact own_retN X0 hx hlk (t := .boolean) hret (by simp) (hb hby d2_197) hk hn ⟨rfl, N0, e0⟩
def g2_12 (x0 : Int32) : Int32 := (if x0 < (97 : Int32) then (g2_24 x0) else (if (122 : Int32) < x0 then (g2_24 x0) else (1 : Int32)))
set_option maxRecDepth 65536 in
set_option maxHeartbeats 4000000 in
theorem b2_12 (C : Ctx p s m meth c Z a0 "com/example/onto3/onto3/rdf/TermScanner" prog_39_method_41_code 1 (some .boolean) "isBaseChar") (X0 : Stand p l e ({ frames := 0, cells := 0, slots := 0, locals := 0 } : Room) s m args below meth c T0 locs cells slots) (e0 : T0.heap = h0) (N0 : Fr n0 locs) (hk : cells ≤ 0) (hn : slots ≤ 0) (x0 : Int32) :
    Runs p e below s (QP (some (.int (g2_12 x0))) h0 n0) 0 0 T0 (mkF m 12 #[.val (.int x0)] []) := by
  have ⟨hx, hZ, hw, hby, hml, hown, hret, hlk, hnm⟩ := C
  refine Runs.via (T' := T0) (g' := (mkF m 15 #[.val (.int x0)] [(.int (97 : Int32)), (.int x0)])) (fun t k => ?_) ?_
  · show Steps p.tables e below (T0.setTop (mkF m 12 #[.val (.int x0)] [])) t
    refine XS.iloadN X0.here hx rfl (hb hby d2_12) rfl ?_
    show Steps p.tables e below (T0.setTop (mkF m 13 #[.val (.int x0)] [(.int x0)])) t
    refine XS.bipush X0.here hx rfl (hb hby d2_13) ?_
    exact k
  by_cases hc1 : x0 < (97 : Int32)
  · refine Runs.via (T' := T0) (g' := (mkF m 24 #[.val (.int x0)] [])) (fun t k => ?_) ?_
    · show Steps p.tables e below (T0.setTop (mkF m 15 #[.val (.int x0)] [(.int (97 : Int32)), (.int x0)])) t
      exact XS.icmpYes X0.here hx rfl (pc0 := 15) (pc' := 24) rfl (hb hby d2_15) rfl (tlt hc1).1 (by decide) (by decide) k
    refine QP.cast (congrArg (fun z => some (Value.int z)) (show (g2_12 x0) = (g2_24 x0) from (if_pos hc1))) ?_
    exact b2_24 C X0 e0 N0 hk hn x0
  · refine Runs.via (T' := T0) (g' := (mkF m 18 #[.val (.int x0)] [])) (fun t k => ?_) ?_
    · show Steps p.tables e below (T0.setTop (mkF m 15 #[.val (.int x0)] [(.int (97 : Int32)), (.int x0)])) t
      exact XS.icmpNo X0.here hx rfl (hb hby d2_15) rfl (flt hc1).1 k
    refine Runs.via (T' := T0) (g' := (mkF m 21 #[.val (.int x0)] [(.int (122 : Int32)), (.int x0)])) (fun t k => ?_) ?_
    · show Steps p.tables e below (T0.setTop (mkF m 18 #[.val (.int x0)] [])) t
      refine XS.iloadN X0.here hx rfl (hb hby d2_18) rfl ?_
      show Steps p.tables e below (T0.setTop (mkF m 19 #[.val (.int x0)] [(.int x0)])) t
      refine XS.bipush X0.here hx rfl (hb hby d2_19) ?_
      exact k
    by_cases hc2 : (122 : Int32) < x0
    · refine Runs.via (T' := T0) (g' := (mkF m 24 #[.val (.int x0)] [])) (fun t k => ?_) ?_
      · show Steps p.tables e below (T0.setTop (mkF m 21 #[.val (.int x0)] [(.int (122 : Int32)), (.int x0)])) t
        exact XS.icmpNo X0.here hx rfl (hb hby d2_21) rfl (tlt hc2).2.2.2 k
      refine QP.cast (congrArg (fun z => some (Value.int z)) (show (g2_12 x0) = (g2_24 x0) from ((if_neg hc1).trans (if_pos hc2)))) ?_
      exact b2_24 C X0 e0 N0 hk hn x0
    · refine Runs.via (T' := T0) (g' := (mkF m 192 #[.val (.int x0)] [])) (fun t k => ?_) ?_
      · show Steps p.tables e below (T0.setTop (mkF m 21 #[.val (.int x0)] [(.int (122 : Int32)), (.int x0)])) t
        exact XS.icmpYes X0.here hx rfl (pc0 := 21) (pc' := 192) rfl (hb hby d2_21) rfl (flt hc2).2.2.2 (by decide) (by decide) k
      refine Runs.via (T' := T0) (g' := (mkF m 197 #[.val (.int x0)] [(.int (1 : Int32))])) (fun t k => ?_) ?_
      · show Steps p.tables e below (T0.setTop (mkF m 192 #[.val (.int x0)] [])) t
        refine XS.iconst X0.here hx rfl (hb hby d2_192) ?_
        show Steps p.tables e below (T0.setTop (mkF m 193 #[.val (.int x0)] [(.int (1 : Int32))])) t
        refine XS.goto X0.here hx rfl (pc0 := 193) (pc' := 197) rfl (hb hby d2_193) (by decide) (by decide) ?_
        exact k
      refine QP.cast (congrArg (fun z => some (Value.int z)) (show (g2_12 x0) = (1 : Int32) from ((if_neg hc1).trans (if_neg hc2)))) ?_
      exact own_retN X0 hx hlk (t := .boolean) hret (by simp) (hb hby d2_197) hk hn ⟨rfl, N0, e0⟩
def g2_0 (x0 : Int32) : Int32 := (if x0 < (65 : Int32) then (g2_12 x0) else (if (90 : Int32) < x0 then (g2_12 x0) else (1 : Int32)))
set_option maxRecDepth 65536 in
set_option maxHeartbeats 4000000 in
theorem b2_0 (C : Ctx p s m meth c Z a0 "com/example/onto3/onto3/rdf/TermScanner" prog_39_method_41_code 1 (some .boolean) "isBaseChar") (X0 : Stand p l e ({ frames := 0, cells := 0, slots := 0, locals := 0 } : Room) s m args below meth c T0 locs cells slots) (e0 : T0.heap = h0) (N0 : Fr n0 locs) (hk : cells ≤ 0) (hn : slots ≤ 0) (x0 : Int32) :
    Runs p e below s (QP (some (.int (g2_0 x0))) h0 n0) 0 0 T0 (mkF m 0 #[.val (.int x0)] []) := by
  have ⟨hx, hZ, hw, hby, hml, hown, hret, hlk, hnm⟩ := C
  refine Runs.via (T' := T0) (g' := (mkF m 3 #[.val (.int x0)] [(.int (65 : Int32)), (.int x0)])) (fun t k => ?_) ?_
  · show Steps p.tables e below (T0.setTop (mkF m 0 #[.val (.int x0)] [])) t
    refine XS.iloadN X0.here hx rfl (hb hby d2_0) rfl ?_
    show Steps p.tables e below (T0.setTop (mkF m 1 #[.val (.int x0)] [(.int x0)])) t
    refine XS.bipush X0.here hx rfl (hb hby d2_1) ?_
    exact k
  by_cases hc1 : x0 < (65 : Int32)
  · refine Runs.via (T' := T0) (g' := (mkF m 12 #[.val (.int x0)] [])) (fun t k => ?_) ?_
    · show Steps p.tables e below (T0.setTop (mkF m 3 #[.val (.int x0)] [(.int (65 : Int32)), (.int x0)])) t
      exact XS.icmpYes X0.here hx rfl (pc0 := 3) (pc' := 12) rfl (hb hby d2_3) rfl (tlt hc1).1 (by decide) (by decide) k
    refine QP.cast (congrArg (fun z => some (Value.int z)) (show (g2_0 x0) = (g2_12 x0) from (if_pos hc1))) ?_
    exact b2_12 C X0 e0 N0 hk hn x0
  · refine Runs.via (T' := T0) (g' := (mkF m 6 #[.val (.int x0)] [])) (fun t k => ?_) ?_
    · show Steps p.tables e below (T0.setTop (mkF m 3 #[.val (.int x0)] [(.int (65 : Int32)), (.int x0)])) t
      exact XS.icmpNo X0.here hx rfl (hb hby d2_3) rfl (flt hc1).1 k
    refine Runs.via (T' := T0) (g' := (mkF m 9 #[.val (.int x0)] [(.int (90 : Int32)), (.int x0)])) (fun t k => ?_) ?_
    · show Steps p.tables e below (T0.setTop (mkF m 6 #[.val (.int x0)] [])) t
      refine XS.iloadN X0.here hx rfl (hb hby d2_6) rfl ?_
      show Steps p.tables e below (T0.setTop (mkF m 7 #[.val (.int x0)] [(.int x0)])) t
      refine XS.bipush X0.here hx rfl (hb hby d2_7) ?_
      exact k
    by_cases hc2 : (90 : Int32) < x0
    · refine Runs.via (T' := T0) (g' := (mkF m 12 #[.val (.int x0)] [])) (fun t k => ?_) ?_
      · show Steps p.tables e below (T0.setTop (mkF m 9 #[.val (.int x0)] [(.int (90 : Int32)), (.int x0)])) t
        exact XS.icmpNo X0.here hx rfl (hb hby d2_9) rfl (tlt hc2).2.2.2 k
      refine QP.cast (congrArg (fun z => some (Value.int z)) (show (g2_0 x0) = (g2_12 x0) from ((if_neg hc1).trans (if_pos hc2)))) ?_
      exact b2_12 C X0 e0 N0 hk hn x0
    · refine Runs.via (T' := T0) (g' := (mkF m 192 #[.val (.int x0)] [])) (fun t k => ?_) ?_
      · show Steps p.tables e below (T0.setTop (mkF m 9 #[.val (.int x0)] [(.int (90 : Int32)), (.int x0)])) t
        exact XS.icmpYes X0.here hx rfl (pc0 := 9) (pc' := 192) rfl (hb hby d2_9) rfl (flt hc2).2.2.2 (by decide) (by decide) k
      refine Runs.via (T' := T0) (g' := (mkF m 197 #[.val (.int x0)] [(.int (1 : Int32))])) (fun t k => ?_) ?_
      · show Steps p.tables e below (T0.setTop (mkF m 192 #[.val (.int x0)] [])) t
        refine XS.iconst X0.here hx rfl (hb hby d2_192) ?_
        show Steps p.tables e below (T0.setTop (mkF m 193 #[.val (.int x0)] [(.int (1 : Int32))])) t
        refine XS.goto X0.here hx rfl (pc0 := 193) (pc' := 197) rfl (hb hby d2_193) (by decide) (by decide) ?_
        exact k
      refine QP.cast (congrArg (fun z => some (Value.int z)) (show (g2_0 x0) = (1 : Int32) from ((if_neg hc1).trans (if_neg hc2)))) ?_
      exact own_retN X0 hx hlk (t := .boolean) hret (by simp) (hb hby d2_197) hk hn ⟨rfl, N0, e0⟩
def f2 (x0 : Int32) : Int32 := g2_0 x0
theorem pn_2 : plainName "com/example/onto3/onto3/rdf/TermScanner" = true := by first | (simp [plainName, overriddenIn]; done) | decide +kernel
theorem ef_2 (m : MethodId) (x0 : Int32) : entryFrame m #[(.int x0)] 1 = mkF m 0 #[.val (.int x0)] [] := by first | (simp [entryFrame, mkF, argsToLocals, Value.category]; done) | rfl
set_option maxRecDepth 65536 in
set_option maxHeartbeats 4000000 in
theorem rm2 (l : Launch) (Z : State) (a0 : Array Value) (hw : ∀ d ∈ tables_1, d.before a0 Z = true) (ws : List Jvm.Cond) (x0 : Int32) (h0 : Heap) (n0 : Nat) :
    MetFree l (⟨"com/example/onto3/onto3/rdf/TermScanner", "isBaseChar", "(I)Z"⟩ : MethodName) (head1 (Jvm.Cond.code (⟨"com/example/onto3/onto3/rdf/TermScanner", "isBaseChar", "(I)Z"⟩ : MethodName) prog_39_method_41_code 1 (some .boolean) :: ws) ({ frames := 0, cells := 0, slots := 0, locals := 0 } : Room)) (fun a U => a = #[(.int x0)] ∧ Z.Warmed39 U.vm ∧ U.heap = h0) (fun _ _ _ _ _ => True) (fun _ U o U' => ∃ v L, o = .returned v ∧ QP (some (.int (f2 x0))) h0 n0 v U'.heap L ∧ FrameEnd U o U' L ({ frames := 0, cells := 0, slots := 0, locals := 0 } : Room).cells ({ frames := 0, cells := 0, slots := 0, locals := 0 } : Room).slots) := by
  refine MetFree.of_bodySF (plainFor_of_name pn_2) hisR ?_
  intro p e s m args below meth c s₁ Bd hml0 hP hK
  obtain ⟨rfl, hZ, hh⟩ := hP
  have X0 : Stand p l e ({ frames := 0, cells := 0, slots := 0, locals := 0 } : Room) s m #[(.int x0)] below meth c s₁ [] 0 0 := Stand.of_body Bd
  have e0 : s₁.heap = h0 := by rw [← hh, Bd.state]; rfl
  have C : Ctx p s m meth c Z a0 "com/example/onto3/onto3/rdf/TermScanner" prog_39_method_41_code 1 (some .boolean) "isBaseChar" := ⟨Bd.exec, hZ, hw, Bd.bytes, hml0, findClass_of_methodNamed Bd.named, Bd.returns, BodyLoose.notSynchronized Bd, (name_of_methodNamed Bd.named Bd.method).1⟩
  refine Runs.via (fun t k => castTop (ef_2 m x0) k) (b2_0 C X0 e0 (Fr.nil n0) (Nat.le_refl 0) (Nat.le_refl 0) x0)
theorem pd_0 : parseMethodDescriptor "(I)Z" = some ⟨[.int], some .boolean⟩ := by decide +kernel
theorem d1_0 : decode prog_39_method_42_code 0 = .ok (.iload_n 0, 1) := by decide +kernel
theorem d1_1 : decode prog_39_method_42_code 1 = .ok (.invokestatic 209, 3) := by decide +kernel
theorem d1_4 : decode prog_39_method_42_code 4 = .ok (.ifCond .ne 9, 3) := by decide +kernel
theorem d1_7 : decode prog_39_method_42_code 7 = .ok (.iload_n 0, 1) := by decide +kernel
theorem d1_8 : decode prog_39_method_42_code 8 = .ok (.bipush 95, 2) := by decide +kernel
theorem d1_10 : decode prog_39_method_42_code 10 = .ok (.if_icmp .ne 7, 3) := by decide +kernel
theorem d1_13 : decode prog_39_method_42_code 13 = .ok (.iconst 1, 1) := by decide +kernel
theorem d1_14 : decode prog_39_method_42_code 14 = .ok (.goto 4, 3) := by decide +kernel
theorem d1_17 : decode prog_39_method_42_code 17 = .ok (.iconst 0, 1) := by decide +kernel
theorem d1_18 : decode prog_39_method_42_code 18 = .ok (.ireturn, 1) := by decide +kernel
def g1_0 (x0 : Int32) : Int32 := (if (f2 x0) = (0 : Int32) then (if x0 = (95 : Int32) then (1 : Int32) else (0 : Int32)) else (1 : Int32))
set_option maxRecDepth 65536 in
set_option maxHeartbeats 4000000 in
theorem b1_0 (C : Ctx p s m meth c Z a0 "com/example/onto3/onto3/rdf/TermScanner" prog_39_method_42_code 1 (some .boolean) "isNameStartChar") (X0 : Stand p l e ({ frames := 1, cells := 0, slots := 0, locals := 12 } : Room) s m args below meth c T0 locs cells slots) (e0 : T0.heap = h0) (N0 : Fr n0 locs) (hk : cells ≤ 0) (hn : slots ≤ 0) (x0 : Int32) :
    Runs p e below s (QP (some (.int (g1_0 x0))) h0 n0) 0 0 T0 (mkF m 0 #[.val (.int x0)] []) := by
  have ⟨hx, hZ, hw, hby, hml, hown, hret, hlk, hnm⟩ := C
  refine Runs.via (T' := T0) (g' := (mkF m 1 #[.val (.int x0)] [(.int x0)])) (fun t k => ?_) ?_
  · show Steps p.tables e below (T0.setTop (mkF m 0 #[.val (.int x0)] [])) t
    refine XS.iloadN X0.here hx rfl (hb hby d1_0) rfl ?_
    exact k
  obtain ⟨_, _, ⟨T1, L1, k1, n1⟩, -, X1, ⟨Lc1, hQ1, l1, y1, z1⟩, st1⟩ := Jvm.LawKit.callS X0 hx (y := (⟨"com/example/onto3/onto3/rdf/TermScanner", "isBaseChar", "(I)Z"⟩ : MethodName)) hown (mvT hZ (hw _ (List.mem_of_getElem? (i := 13) rfl))) (mvT hZ (hw _ (List.mem_of_getElem? (i := 14) rfl))) (mvT hZ (hw _ (List.mem_of_getElem? (i := 11) rfl))) (mvT hZ (hw _ (List.mem_of_getElem? (i := 15) rfl))) (by decide) (backOf (W := 0) (rm2 l Z a0 hw [] x0 h0 n0) hZ (hw _ (List.mem_of_getElem? (i := 15) rfl)) (hw _ (List.mem_of_getElem? (i := 11) rfl)) (by decide) (by decide)) (g := (mkF m 1 #[.val (.int x0)] [(.int x0)])) rfl (by rw [hml]; rfl) (argsL := [(.int x0)]) (rest := []) (lenOf pd_0 rfl) rfl (by show 2 * 0 + _ ≤ _; exact Nat.le_of_eq rfl) (hb hby d1_1) (fun _ _ => ⟨rfl, e0, (Nat.le_trans hk (by decide)), (Nat.le_trans hn (by decide))⟩)
  dsimp only [Pt.U, Pt.locs, Pt.cells, Pt.slots] at X1 l1 y1 z1 st1 hQ1
  subst l1 y1 z1
  obtain ⟨rfl, N1q, e1⟩ := hQ1
  have N1 := Fr.app N0 N1q
  refine Runs.via (T' := T1) (g' := (mkF m 4 #[.val (.int x0)] [(.int (f2 x0))])) (fun t k => st1 _ k) ?_
  by_cases hc2 : (f2 x0) = (0 : Int32)
  · refine Runs.via (T' := T1) (g' := (mkF m 7 #[.val (.int x0)] [])) (fun t k => ?_) ?_
    · show Steps p.tables e below (T1.setTop (mkF m 4 #[.val (.int x0)] [(.int (f2 x0))])) t
      exact XS.ifNo X1.here hx rfl (hb hby d1_4) rfl ((if0 _ _).trans (teq hc2).2) k
    refine Runs.via (T' := T1) (g' := (mkF m 10 #[.val (.int x0)] [(.int (95 : Int32)), (.int x0)])) (fun t k => ?_) ?_
    · show Steps p.tables e below (T1.setTop (mkF m 7 #[.val (.int x0)] [])) t
      refine XS.iloadN X1.here hx rfl (hb hby d1_7) rfl ?_
      show Steps p.tables e below (T1.setTop (mkF m 8 #[.val (.int x0)] [(.int x0)])) t
      refine XS.bipush X1.here hx rfl (hb hby d1_8) ?_
      exact k
    by_cases hc3 : x0 = (95 : Int32)
    · refine Runs.via (T' := T1) (g' := (mkF m 13 #[.val (.int x0)] [])) (fun t k => ?_) ?_
      · show Steps p.tables e below (T1.setTop (mkF m 10 #[.val (.int x0)] [(.int (95 : Int32)), (.int x0)])) t
        exact XS.icmpNo X1.here hx rfl (hb hby d1_10) rfl (teq hc3).2 k
      refine Runs.via (T' := T1) (g' := (mkF m 18 #[.val (.int x0)] [(.int (1 : Int32))])) (fun t k => ?_) ?_
      · show Steps p.tables e below (T1.setTop (mkF m 13 #[.val (.int x0)] [])) t
        refine XS.iconst X1.here hx rfl (hb hby d1_13) ?_
        show Steps p.tables e below (T1.setTop (mkF m 14 #[.val (.int x0)] [(.int (1 : Int32))])) t
        refine XS.goto X1.here hx rfl (pc0 := 14) (pc' := 18) rfl (hb hby d1_14) (by decide) (by decide) ?_
        exact k
      refine QP.cast (congrArg (fun z => some (Value.int z)) (show (g1_0 x0) = (1 : Int32) from ((if_pos hc2).trans (if_pos hc3)))) ?_
      exact own_retN X1 hx hlk (t := .boolean) hret (by simp) (hb hby d1_18) hk hn ⟨rfl, N1, e1⟩
    · refine Runs.via (T' := T1) (g' := (mkF m 17 #[.val (.int x0)] [])) (fun t k => ?_) ?_
      · show Steps p.tables e below (T1.setTop (mkF m 10 #[.val (.int x0)] [(.int (95 : Int32)), (.int x0)])) t
        exact XS.icmpYes X1.here hx rfl (pc0 := 10) (pc' := 17) rfl (hb hby d1_10) rfl (feq hc3).2 (by decide) (by decide) k
      refine Runs.via (T' := T1) (g' := (mkF m 18 #[.val (.int x0)] [(.int (0 : Int32))])) (fun t k => ?_) ?_
      · show Steps p.tables e below (T1.setTop (mkF m 17 #[.val (.int x0)] [])) t
        refine XS.iconst X1.here hx rfl (hb hby d1_17) ?_
        exact k
      refine QP.cast (congrArg (fun z => some (Value.int z)) (show (g1_0 x0) = (0 : Int32) from ((if_pos hc2).trans (if_neg hc3)))) ?_
      exact own_retN X1 hx hlk (t := .boolean) hret (by simp) (hb hby d1_18) hk hn ⟨rfl, N1, e1⟩
  · refine Runs.via (T' := T1) (g' := (mkF m 13 #[.val (.int x0)] [])) (fun t k => ?_) ?_
    · show Steps p.tables e below (T1.setTop (mkF m 4 #[.val (.int x0)] [(.int (f2 x0))])) t
      exact XS.ifYes X1.here hx rfl (pc0 := 4) (pc' := 13) rfl (hb hby d1_4) rfl ((if0 _ _).trans (feq hc2).2) (by decide) (by decide) k
    refine Runs.via (T' := T1) (g' := (mkF m 18 #[.val (.int x0)] [(.int (1 : Int32))])) (fun t k => ?_) ?_
    · show Steps p.tables e below (T1.setTop (mkF m 13 #[.val (.int x0)] [])) t
      refine XS.iconst X1.here hx rfl (hb hby d1_13) ?_
      show Steps p.tables e below (T1.setTop (mkF m 14 #[.val (.int x0)] [(.int (1 : Int32))])) t
      refine XS.goto X1.here hx rfl (pc0 := 14) (pc' := 18) rfl (hb hby d1_14) (by decide) (by decide) ?_
      exact k
    refine QP.cast (congrArg (fun z => some (Value.int z)) (show (g1_0 x0) = (1 : Int32) from (if_neg hc2))) ?_
    exact own_retN X1 hx hlk (t := .boolean) hret (by simp) (hb hby d1_18) hk hn ⟨rfl, N1, e1⟩
def f1 (x0 : Int32) : Int32 := g1_0 x0
theorem pn_1 : plainName "com/example/onto3/onto3/rdf/TermScanner" = true := by first | (simp [plainName, overriddenIn]; done) | decide +kernel
theorem ef_1 (m : MethodId) (x0 : Int32) : entryFrame m #[(.int x0)] 1 = mkF m 0 #[.val (.int x0)] [] := by first | (simp [entryFrame, mkF, argsToLocals, Value.category]; done) | rfl
set_option maxRecDepth 65536 in
set_option maxHeartbeats 4000000 in
theorem rm1 (l : Launch) (Z : State) (a0 : Array Value) (hw : ∀ d ∈ tables_1, d.before a0 Z = true) (ws : List Jvm.Cond) (x0 : Int32) (h0 : Heap) (n0 : Nat) :
    MetFree l (⟨"com/example/onto3/onto3/rdf/TermScanner", "isNameStartChar", "(I)Z"⟩ : MethodName) (head1 (Jvm.Cond.code (⟨"com/example/onto3/onto3/rdf/TermScanner", "isNameStartChar", "(I)Z"⟩ : MethodName) prog_39_method_42_code 1 (some .boolean) :: ws) ({ frames := 1, cells := 0, slots := 0, locals := 12 } : Room)) (fun a U => a = #[(.int x0)] ∧ Z.Warmed39 U.vm ∧ U.heap = h0) (fun _ _ _ _ _ => True) (fun _ U o U' => ∃ v L, o = .returned v ∧ QP (some (.int (f1 x0))) h0 n0 v U'.heap L ∧ FrameEnd U o U' L ({ frames := 1, cells := 0, slots := 0, locals := 12 } : Room).cells ({ frames := 1, cells := 0, slots := 0, locals := 12 } : Room).slots) := by
  refine MetFree.of_bodySF (plainFor_of_name pn_1) hisR ?_
  intro p e s m args below meth c s₁ Bd hml0 hP hK
  obtain ⟨rfl, hZ, hh⟩ := hP
  have X0 : Stand p l e ({ frames := 1, cells := 0, slots := 0, locals := 12 } : Room) s m #[(.int x0)] below meth c s₁ [] 0 0 := Stand.of_body Bd
  have e0 : s₁.heap = h0 := by rw [← hh, Bd.state]; rfl
  have C : Ctx p s m meth c Z a0 "com/example/onto3/onto3/rdf/TermScanner" prog_39_method_42_code 1 (some .boolean) "isNameStartChar" := ⟨Bd.exec, hZ, hw, Bd.bytes, hml0, findClass_of_methodNamed Bd.named, Bd.returns, BodyLoose.notSynchronized Bd, (name_of_methodNamed Bd.named Bd.method).1⟩
  refine Runs.via (fun t k => castTop (ef_1 m x0) k) (b1_0 C X0 e0 (Fr.nil n0) (Nat.le_refl 0) (Nat.le_refl 0) x0)
theorem d3_0 : decode method_2_code 0 = .ok (.iload_n 0, 1) := by decide +kernel
theorem d3_1 : decode method_2_code 1 = .ok (.bipush 65, 2) := by decide +kernel
theorem d3_3 : decode method_2_code 3 = .ok (.if_icmp .lt 9, 3) := by decide +kernel
theorem d3_6 : decode method_2_code 6 = .ok (.iload_n 0, 1) := by decide +kernel
theorem d3_7 : decode method_2_code 7 = .ok (.ldc 7, 2) := by decide +kernel
theorem d3_9 : decode method_2_code 9 = .ok (.if_icmp .le 5, 3) := by decide +kernel
theorem d3_12 : decode method_2_code 12 = .ok (.iconst 0, 1) := by decide +kernel
theorem d3_13 : decode method_2_code 13 = .ok (.ireturn, 1) := by decide +kernel
theorem d3_14 : decode method_2_code 14 = .ok (.iload_n 0, 1) := by decide +kernel
theorem d3_15 : decode method_2_code 15 = .ok (.bipush 91, 2) := by decide +kernel
theorem d3_17 : decode method_2_code 17 = .ok (.if_icmp .lt 11, 3) := by decide +kernel
theorem d3_20 : decode method_2_code 20 = .ok (.iload_n 0, 1) := by decide +kernel
theorem d3_21 : decode method_2_code 21 = .ok (.bipush 94, 2) := by decide +kernel
theorem d3_23 : decode method_2_code 23 = .ok (.if_icmp .gt 5, 3) := by decide +kernel
theorem d3_26 : decode method_2_code 26 = .ok (.iconst 0, 1) := by decide +kernel
theorem d3_27 : decode method_2_code 27 = .ok (.ireturn, 1) := by decide +kernel
theorem d3_28 : decode method_2_code 28 = .ok (.iload_n 0, 1) := by decide +kernel
theorem d3_29 : decode method_2_code 29 = .ok (.bipush 96, 2) := by decide +kernel
theorem d3_31 : decode method_2_code 31 = .ok (.if_icmp .ne 5, 3) := by decide +kernel
theorem d3_34 : decode method_2_code 34 = .ok (.iconst 0, 1) := by decide +kernel
theorem d3_35 : decode method_2_code 35 = .ok (.ireturn, 1) := by decide +kernel
theorem d3_36 : decode method_2_code 36 = .ok (.iload_n 0, 1) := by decide +kernel
theorem d3_37 : decode method_2_code 37 = .ok (.bipush 123, 2) := by decide +kernel
theorem d3_39 : decode method_2_code 39 = .ok (.if_icmp .lt 12, 3) := by decide +kernel
theorem d3_42 : decode method_2_code 42 = .ok (.iload_n 0, 1) := by decide +kernel
theorem d3_43 : decode method_2_code 43 = .ok (.sipush 191, 3) := by decide +kernel
theorem d3_46 : decode method_2_code 46 = .ok (.if_icmp .gt 5, 3) := by decide +kernel
theorem d3_49 : decode method_2_code 49 = .ok (.iconst 0, 1) := by decide +kernel
theorem d3_50 : decode method_2_code 50 = .ok (.ireturn, 1) := by decide +kernel
theorem d3_51 : decode method_2_code 51 = .ok (.iload_n 0, 1) := by decide +kernel
theorem d3_52 : decode method_2_code 52 = .ok (.sipush 215, 3) := by decide +kernel
theorem d3_55 : decode method_2_code 55 = .ok (.if_icmp .eq 10, 3) := by decide +kernel
theorem d3_58 : decode method_2_code 58 = .ok (.iload_n 0, 1) := by decide +kernel
theorem d3_59 : decode method_2_code 59 = .ok (.sipush 247, 3) := by decide +kernel
theorem d3_62 : decode method_2_code 62 = .ok (.if_icmp .ne 5, 3) := by decide +kernel
theorem d3_65 : decode method_2_code 65 = .ok (.iconst 0, 1) := by decide +kernel
theorem d3_66 : decode method_2_code 66 = .ok (.ireturn, 1) := by decide +kernel
theorem d3_67 : decode method_2_code 67 = .ok (.iload_n 0, 1) := by decide +kernel
theorem d3_68 : decode method_2_code 68 = .ok (.sipush 768, 3) := by decide +kernel
theorem d3_71 : decode method_2_code 71 = .ok (.if_icmp .lt 12, 3) := by decide +kernel
theorem d3_74 : decode method_2_code 74 = .ok (.iload_n 0, 1) := by decide +kernel
theorem d3_75 : decode method_2_code 75 = .ok (.sipush 879, 3) := by decide +kernel
theorem d3_78 : decode method_2_code 78 = .ok (.if_icmp .gt 5, 3) := by decide +kernel
theorem d3_81 : decode method_2_code 81 = .ok (.iconst 0, 1) := by decide +kernel
theorem d3_82 : decode method_2_code 82 = .ok (.ireturn, 1) := by decide +kernel
theorem d3_83 : decode method_2_code 83 = .ok (.iload_n 0, 1) := by decide +kernel
theorem d3_84 : decode method_2_code 84 = .ok (.sipush 894, 3) := by decide +kernel
theorem d3_87 : decode method_2_code 87 = .ok (.if_icmp .ne 5, 3) := by decide +kernel
theorem d3_90 : decode method_2_code 90 = .ok (.iconst 0, 1) := by decide +kernel
theorem d3_91 : decode method_2_code 91 = .ok (.ireturn, 1) := by decide +kernel
theorem d3_92 : decode method_2_code 92 = .ok (.iload_n 0, 1) := by decide +kernel
theorem d3_93 : decode method_2_code 93 = .ok (.sipush 8192, 3) := by decide +kernel
theorem d3_96 : decode method_2_code 96 = .ok (.if_icmp .lt 12, 3) := by decide +kernel
theorem d3_99 : decode method_2_code 99 = .ok (.iload_n 0, 1) := by decide +kernel
theorem d3_100 : decode method_2_code 100 = .ok (.sipush 8203, 3) := by decide +kernel
theorem d3_103 : decode method_2_code 103 = .ok (.if_icmp .gt 5, 3) := by decide +kernel
theorem d3_106 : decode method_2_code 106 = .ok (.iconst 0, 1) := by decide +kernel
theorem d3_107 : decode method_2_code 107 = .ok (.ireturn, 1) := by decide +kernel
theorem d3_108 : decode method_2_code 108 = .ok (.iload_n 0, 1) := by decide +kernel
theorem d3_109 : decode method_2_code 109 = .ok (.sipush 8206, 3) := by decide +kernel
theorem d3_112 : decode method_2_code 112 = .ok (.if_icmp .lt 12, 3) := by decide +kernel
theorem d3_115 : decode method_2_code 115 = .ok (.iload_n 0, 1) := by decide +kernel
theorem d3_116 : decode method_2_code 116 = .ok (.sipush 8303, 3) := by decide +kernel
theorem d3_119 : decode method_2_code 119 = .ok (.if_icmp .gt 5, 3) := by decide +kernel
theorem d3_122 : decode method_2_code 122 = .ok (.iconst 0, 1) := by decide +kernel
theorem d3_123 : decode method_2_code 123 = .ok (.ireturn, 1) := by decide +kernel
theorem d3_124 : decode method_2_code 124 = .ok (.iload_n 0, 1) := by decide +kernel
theorem d3_125 : decode method_2_code 125 = .ok (.sipush 8592, 3) := by decide +kernel
theorem d3_128 : decode method_2_code 128 = .ok (.if_icmp .lt 12, 3) := by decide +kernel
theorem d3_131 : decode method_2_code 131 = .ok (.iload_n 0, 1) := by decide +kernel
theorem d3_132 : decode method_2_code 132 = .ok (.sipush 11263, 3) := by decide +kernel
theorem d3_135 : decode method_2_code 135 = .ok (.if_icmp .gt 5, 3) := by decide +kernel
theorem d3_138 : decode method_2_code 138 = .ok (.iconst 0, 1) := by decide +kernel
theorem d3_139 : decode method_2_code 139 = .ok (.ireturn, 1) := by decide +kernel
theorem d3_140 : decode method_2_code 140 = .ok (.iload_n 0, 1) := by decide +kernel
theorem d3_141 : decode method_2_code 141 = .ok (.sipush 12272, 3) := by decide +kernel
theorem d3_144 : decode method_2_code 144 = .ok (.if_icmp .lt 12, 3) := by decide +kernel
theorem d3_147 : decode method_2_code 147 = .ok (.iload_n 0, 1) := by decide +kernel
theorem d3_148 : decode method_2_code 148 = .ok (.sipush 12288, 3) := by decide +kernel
theorem d3_151 : decode method_2_code 151 = .ok (.if_icmp .gt 5, 3) := by decide +kernel
theorem d3_154 : decode method_2_code 154 = .ok (.iconst 0, 1) := by decide +kernel
theorem d3_155 : decode method_2_code 155 = .ok (.ireturn, 1) := by decide +kernel
theorem d3_156 : decode method_2_code 156 = .ok (.iload_n 0, 1) := by decide +kernel
theorem d3_157 : decode method_2_code 157 = .ok (.ldc 8, 2) := by decide +kernel
theorem d3_159 : decode method_2_code 159 = .ok (.if_icmp .lt 11, 3) := by decide +kernel
theorem d3_162 : decode method_2_code 162 = .ok (.iload_n 0, 1) := by decide +kernel
theorem d3_163 : decode method_2_code 163 = .ok (.ldc 9, 2) := by decide +kernel
theorem d3_165 : decode method_2_code 165 = .ok (.if_icmp .gt 5, 3) := by decide +kernel
theorem d3_168 : decode method_2_code 168 = .ok (.iconst 0, 1) := by decide +kernel
theorem d3_169 : decode method_2_code 169 = .ok (.ireturn, 1) := by decide +kernel
theorem d3_170 : decode method_2_code 170 = .ok (.iload_n 0, 1) := by decide +kernel
theorem d3_171 : decode method_2_code 171 = .ok (.ldc 10, 2) := by decide +kernel
theorem d3_173 : decode method_2_code 173 = .ok (.if_icmp .lt 11, 3) := by decide +kernel
theorem d3_176 : decode method_2_code 176 = .ok (.iload_n 0, 1) := by decide +kernel
theorem d3_177 : decode method_2_code 177 = .ok (.ldc 11, 2) := by decide +kernel
theorem d3_179 : decode method_2_code 179 = .ok (.if_icmp .gt 5, 3) := by decide +kernel
theorem d3_182 : decode method_2_code 182 = .ok (.iconst 0, 1) := by decide +kernel
theorem d3_183 : decode method_2_code 183 = .ok (.ireturn, 1) := by decide +kernel
theorem d3_184 : decode method_2_code 184 = .ok (.iload_n 0, 1) := by decide +kernel
theorem d3_185 : decode method_2_code 185 = .ok (.ldc 12, 2) := by decide +kernel
theorem d3_187 : decode method_2_code 187 = .ok (.if_icmp .eq 9, 3) := by decide +kernel
theorem d3_190 : decode method_2_code 190 = .ok (.iload_n 0, 1) := by decide +kernel
theorem d3_191 : decode method_2_code 191 = .ok (.ldc 13, 2) := by decide +kernel
theorem d3_193 : decode method_2_code 193 = .ok (.if_icmp .ne 5, 3) := by decide +kernel
theorem d3_196 : decode method_2_code 196 = .ok (.iconst 0, 1) := by decide +kernel
theorem d3_197 : decode method_2_code 197 = .ok (.ireturn, 1) := by decide +kernel
theorem d3_198 : decode method_2_code 198 = .ok (.iconst 1, 1) := by decide +kernel
theorem d3_199 : decode method_2_code 199 = .ok (.ireturn, 1) := by decide +kernel
def g3_184 (x0 : Int32) : Int32 := (if x0 = (65534 : Int32) then (0 : Int32) else (if x0 = (65535 : Int32) then (0 : Int32) else (1 : Int32)))
set_option maxRecDepth 65536 in
set_option maxHeartbeats 4000000 in
theorem b3_184 (C : Ctx p s m meth c Z a0 "com/example/onto3/onto3/rdf/TermScannerIsNameStartCharPinLaw" method_2_code 1 (some .boolean) "reference") (X0 : Stand p l e ({ frames := 0, cells := 0, slots := 0, locals := 0 } : Room) s m args below meth c T0 locs cells slots) (e0 : T0.heap = h0) (N0 : Fr n0 locs) (hk : cells ≤ 0) (hn : slots ≤ 0) (x0 : Int32) :
    Runs p e below s (QP (some (.int (g3_184 x0))) h0 n0) 0 0 T0 (mkF m 184 #[.val (.int x0)] []) := by
  have ⟨hx, hZ, hw, hby, hml, hown, hret, hlk, hnm⟩ := C
  refine Runs.via (T' := T0) (g' := (mkF m 187 #[.val (.int x0)] [(.int (65534 : Int32)), (.int x0)])) (fun t k => ?_) ?_
  · show Steps p.tables e below (T0.setTop (mkF m 184 #[.val (.int x0)] [])) t
    refine XS.iloadN X0.here hx rfl (hb hby d3_184) rfl ?_
    show Steps p.tables e below (T0.setTop (mkF m 185 #[.val (.int x0)] [(.int x0)])) t
    refine X0.ldcInt hx hown (mvT hZ (hw _ (List.mem_of_getElem? (i := 25) rfl))) (g := (mkF m 185 #[.val (.int x0)] [(.int x0)])) rfl (hb hby d3_185) _ ?_
    exact k
  by_cases hc1 : x0 = (65534 : Int32)
  · refine Runs.via (T' := T0) (g' := (mkF m 196 #[.val (.int x0)] [])) (fun t k => ?_) ?_
    · show Steps p.tables e below (T0.setTop (mkF m 187 #[.val (.int x0)] [(.int (65534 : Int32)), (.int x0)])) t
      exact XS.icmpYes X0.here hx rfl (pc0 := 187) (pc' := 196) rfl (hb hby d3_187) rfl (teq hc1).1 (by decide) (by decide) k
    refine Runs.via (T' := T0) (g' := (mkF m 197 #[.val (.int x0)] [(.int (0 : Int32))])) (fun t k => ?_) ?_
    · show Steps p.tables e below (T0.setTop (mkF m 196 #[.val (.int x0)] [])) t
      refine XS.iconst X0.here hx rfl (hb hby d3_196) ?_
      exact k
    refine QP.cast (congrArg (fun z => some (Value.int z)) (show (g3_184 x0) = (0 : Int32) from (if_pos hc1))) ?_
    exact own_retN X0 hx hlk (t := .boolean) hret (by simp) (hb hby d3_197) hk hn ⟨rfl, N0, e0⟩
  · refine Runs.via (T' := T0) (g' := (mkF m 190 #[.val (.int x0)] [])) (fun t k => ?_) ?_
    · show Steps p.tables e below (T0.setTop (mkF m 187 #[.val (.int x0)] [(.int (65534 : Int32)), (.int x0)])) t
      exact XS.icmpNo X0.here hx rfl (hb hby d3_187) rfl (feq hc1).1 k
    refine Runs.via (T' := T0) (g' := (mkF m 193 #[.val (.int x0)] [(.int (65535 : Int32)), (.int x0)])) (fun t k => ?_) ?_
    · show Steps p.tables e below (T0.setTop (mkF m 190 #[.val (.int x0)] [])) t
      refine XS.iloadN X0.here hx rfl (hb hby d3_190) rfl ?_
      show Steps p.tables e below (T0.setTop (mkF m 191 #[.val (.int x0)] [(.int x0)])) t
      refine X0.ldcInt hx hown (mvT hZ (hw _ (List.mem_of_getElem? (i := 26) rfl))) (g := (mkF m 191 #[.val (.int x0)] [(.int x0)])) rfl (hb hby d3_191) _ ?_
      exact k
    by_cases hc2 : x0 = (65535 : Int32)
    · refine Runs.via (T' := T0) (g' := (mkF m 196 #[.val (.int x0)] [])) (fun t k => ?_) ?_
      · show Steps p.tables e below (T0.setTop (mkF m 193 #[.val (.int x0)] [(.int (65535 : Int32)), (.int x0)])) t
        exact XS.icmpNo X0.here hx rfl (hb hby d3_193) rfl (teq hc2).2 k
      refine Runs.via (T' := T0) (g' := (mkF m 197 #[.val (.int x0)] [(.int (0 : Int32))])) (fun t k => ?_) ?_
      · show Steps p.tables e below (T0.setTop (mkF m 196 #[.val (.int x0)] [])) t
        refine XS.iconst X0.here hx rfl (hb hby d3_196) ?_
        exact k
      refine QP.cast (congrArg (fun z => some (Value.int z)) (show (g3_184 x0) = (0 : Int32) from ((if_neg hc1).trans (if_pos hc2)))) ?_
      exact own_retN X0 hx hlk (t := .boolean) hret (by simp) (hb hby d3_197) hk hn ⟨rfl, N0, e0⟩
    · refine Runs.via (T' := T0) (g' := (mkF m 198 #[.val (.int x0)] [])) (fun t k => ?_) ?_
      · show Steps p.tables e below (T0.setTop (mkF m 193 #[.val (.int x0)] [(.int (65535 : Int32)), (.int x0)])) t
        exact XS.icmpYes X0.here hx rfl (pc0 := 193) (pc' := 198) rfl (hb hby d3_193) rfl (feq hc2).2 (by decide) (by decide) k
      refine Runs.via (T' := T0) (g' := (mkF m 199 #[.val (.int x0)] [(.int (1 : Int32))])) (fun t k => ?_) ?_
      · show Steps p.tables e below (T0.setTop (mkF m 198 #[.val (.int x0)] [])) t
        refine XS.iconst X0.here hx rfl (hb hby d3_198) ?_
        exact k
      refine QP.cast (congrArg (fun z => some (Value.int z)) (show (g3_184 x0) = (1 : Int32) from ((if_neg hc1).trans (if_neg hc2)))) ?_
      exact own_retN X0 hx hlk (t := .boolean) hret (by simp) (hb hby d3_199) hk hn ⟨rfl, N0, e0⟩
def g3_170 (x0 : Int32) : Int32 := (if x0 < (64976 : Int32) then (g3_184 x0) else (if (65007 : Int32) < x0 then (g3_184 x0) else (0 : Int32)))
set_option maxRecDepth 65536 in
set_option maxHeartbeats 4000000 in
theorem b3_170 (C : Ctx p s m meth c Z a0 "com/example/onto3/onto3/rdf/TermScannerIsNameStartCharPinLaw" method_2_code 1 (some .boolean) "reference") (X0 : Stand p l e ({ frames := 0, cells := 0, slots := 0, locals := 0 } : Room) s m args below meth c T0 locs cells slots) (e0 : T0.heap = h0) (N0 : Fr n0 locs) (hk : cells ≤ 0) (hn : slots ≤ 0) (x0 : Int32) :
    Runs p e below s (QP (some (.int (g3_170 x0))) h0 n0) 0 0 T0 (mkF m 170 #[.val (.int x0)] []) := by
  have ⟨hx, hZ, hw, hby, hml, hown, hret, hlk, hnm⟩ := C
  refine Runs.via (T' := T0) (g' := (mkF m 173 #[.val (.int x0)] [(.int (64976 : Int32)), (.int x0)])) (fun t k => ?_) ?_
  · show Steps p.tables e below (T0.setTop (mkF m 170 #[.val (.int x0)] [])) t
    refine XS.iloadN X0.here hx rfl (hb hby d3_170) rfl ?_
    show Steps p.tables e below (T0.setTop (mkF m 171 #[.val (.int x0)] [(.int x0)])) t
    refine X0.ldcInt hx hown (mvT hZ (hw _ (List.mem_of_getElem? (i := 24) rfl))) (g := (mkF m 171 #[.val (.int x0)] [(.int x0)])) rfl (hb hby d3_171) _ ?_
    exact k
  by_cases hc1 : x0 < (64976 : Int32)
  · refine Runs.via (T' := T0) (g' := (mkF m 184 #[.val (.int x0)] [])) (fun t k => ?_) ?_
    · show Steps p.tables e below (T0.setTop (mkF m 173 #[.val (.int x0)] [(.int (64976 : Int32)), (.int x0)])) t
      exact XS.icmpYes X0.here hx rfl (pc0 := 173) (pc' := 184) rfl (hb hby d3_173) rfl (tlt hc1).1 (by decide) (by decide) k
    refine QP.cast (congrArg (fun z => some (Value.int z)) (show (g3_170 x0) = (g3_184 x0) from (if_pos hc1))) ?_
    exact b3_184 C X0 e0 N0 hk hn x0
  · refine Runs.via (T' := T0) (g' := (mkF m 176 #[.val (.int x0)] [])) (fun t k => ?_) ?_
    · show Steps p.tables e below (T0.setTop (mkF m 173 #[.val (.int x0)] [(.int (64976 : Int32)), (.int x0)])) t
      exact XS.icmpNo X0.here hx rfl (hb hby d3_173) rfl (flt hc1).1 k
    refine Runs.via (T' := T0) (g' := (mkF m 179 #[.val (.int x0)] [(.int (65007 : Int32)), (.int x0)])) (fun t k => ?_) ?_
    · show Steps p.tables e below (T0.setTop (mkF m 176 #[.val (.int x0)] [])) t
      refine XS.iloadN X0.here hx rfl (hb hby d3_176) rfl ?_
      show Steps p.tables e below (T0.setTop (mkF m 177 #[.val (.int x0)] [(.int x0)])) t
      refine X0.ldcInt hx hown (mvT hZ (hw _ (List.mem_of_getElem? (i := 32) rfl))) (g := (mkF m 177 #[.val (.int x0)] [(.int x0)])) rfl (hb hby d3_177) _ ?_
      exact k
    by_cases hc2 : (65007 : Int32) < x0
    · refine Runs.via (T' := T0) (g' := (mkF m 184 #[.val (.int x0)] [])) (fun t k => ?_) ?_
      · show Steps p.tables e below (T0.setTop (mkF m 179 #[.val (.int x0)] [(.int (65007 : Int32)), (.int x0)])) t
        exact XS.icmpYes X0.here hx rfl (pc0 := 179) (pc' := 184) rfl (hb hby d3_179) rfl (tlt hc2).2.2.1 (by decide) (by decide) k
      refine QP.cast (congrArg (fun z => some (Value.int z)) (show (g3_170 x0) = (g3_184 x0) from ((if_neg hc1).trans (if_pos hc2)))) ?_
      exact b3_184 C X0 e0 N0 hk hn x0
    · refine Runs.via (T' := T0) (g' := (mkF m 182 #[.val (.int x0)] [])) (fun t k => ?_) ?_
      · show Steps p.tables e below (T0.setTop (mkF m 179 #[.val (.int x0)] [(.int (65007 : Int32)), (.int x0)])) t
        exact XS.icmpNo X0.here hx rfl (hb hby d3_179) rfl (flt hc2).2.2.1 k
      refine Runs.via (T' := T0) (g' := (mkF m 183 #[.val (.int x0)] [(.int (0 : Int32))])) (fun t k => ?_) ?_
      · show Steps p.tables e below (T0.setTop (mkF m 182 #[.val (.int x0)] [])) t
        refine XS.iconst X0.here hx rfl (hb hby d3_182) ?_
        exact k
      refine QP.cast (congrArg (fun z => some (Value.int z)) (show (g3_170 x0) = (0 : Int32) from ((if_neg hc1).trans (if_neg hc2)))) ?_
      exact own_retN X0 hx hlk (t := .boolean) hret (by simp) (hb hby d3_183) hk hn ⟨rfl, N0, e0⟩
def g3_156 (x0 : Int32) : Int32 := (if x0 < (55296 : Int32) then (g3_170 x0) else (if (63743 : Int32) < x0 then (g3_170 x0) else (0 : Int32)))
set_option maxRecDepth 65536 in
set_option maxHeartbeats 4000000 in
theorem b3_156 (C : Ctx p s m meth c Z a0 "com/example/onto3/onto3/rdf/TermScannerIsNameStartCharPinLaw" method_2_code 1 (some .boolean) "reference") (X0 : Stand p l e ({ frames := 0, cells := 0, slots := 0, locals := 0 } : Room) s m args below meth c T0 locs cells slots) (e0 : T0.heap = h0) (N0 : Fr n0 locs) (hk : cells ≤ 0) (hn : slots ≤ 0) (x0 : Int32) :
    Runs p e below s (QP (some (.int (g3_156 x0))) h0 n0) 0 0 T0 (mkF m 156 #[.val (.int x0)] []) := by
  have ⟨hx, hZ, hw, hby, hml, hown, hret, hlk, hnm⟩ := C
  refine Runs.via (T' := T0) (g' := (mkF m 159 #[.val (.int x0)] [(.int (55296 : Int32)), (.int x0)])) (fun t k => ?_) ?_
  · show Steps p.tables e below (T0.setTop (mkF m 156 #[.val (.int x0)] [])) t
    refine XS.iloadN X0.here hx rfl (hb hby d3_156) rfl ?_
    show Steps p.tables e below (T0.setTop (mkF m 157 #[.val (.int x0)] [(.int x0)])) t
    refine X0.ldcInt hx hown (mvT hZ (hw _ (List.mem_of_getElem? (i := 23) rfl))) (g := (mkF m 157 #[.val (.int x0)] [(.int x0)])) rfl (hb hby d3_157) _ ?_
    exact k
  by_cases hc1 : x0 < (55296 : Int32)
  · refine Runs.via (T' := T0) (g' := (mkF m 170 #[.val (.int x0)] [])) (fun t k => ?_) ?_
    · show Steps p.tables e below (T0.setTop (mkF m 159 #[.val (.int x0)] [(.int (55296 : Int32)), (.int x0)])) t
      exact XS.icmpYes X0.here hx rfl (pc0 := 159) (pc' := 170) rfl (hb hby d3_159) rfl (tlt hc1).1 (by decide) (by decide) k
    refine QP.cast (congrArg (fun z => some (Value.int z)) (show (g3_156 x0) = (g3_170 x0) from (if_pos hc1))) ?_
    exact b3_170 C X0 e0 N0 hk hn x0
  · refine Runs.via (T' := T0) (g' := (mkF m 162 #[.val (.int x0)] [])) (fun t k => ?_) ?_
    · show Steps p.tables e below (T0.setTop (mkF m 159 #[.val (.int x0)] [(.int (55296 : Int32)), (.int x0)])) t
      exact XS.icmpNo X0.here hx rfl (hb hby d3_159) rfl (flt hc1).1 k
    refine Runs.via (T' := T0) (g' := (mkF m 165 #[.val (.int x0)] [(.int (63743 : Int32)), (.int x0)])) (fun t k => ?_) ?_
    · show Steps p.tables e below (T0.setTop (mkF m 162 #[.val (.int x0)] [])) t
      refine XS.iloadN X0.here hx rfl (hb hby d3_162) rfl ?_
      show Steps p.tables e below (T0.setTop (mkF m 163 #[.val (.int x0)] [(.int x0)])) t
      refine X0.ldcInt hx hown (mvT hZ (hw _ (List.mem_of_getElem? (i := 31) rfl))) (g := (mkF m 163 #[.val (.int x0)] [(.int x0)])) rfl (hb hby d3_163) _ ?_
      exact k
    by_cases hc2 : (63743 : Int32) < x0
    · refine Runs.via (T' := T0) (g' := (mkF m 170 #[.val (.int x0)] [])) (fun t k => ?_) ?_
      · show Steps p.tables e below (T0.setTop (mkF m 165 #[.val (.int x0)] [(.int (63743 : Int32)), (.int x0)])) t
        exact XS.icmpYes X0.here hx rfl (pc0 := 165) (pc' := 170) rfl (hb hby d3_165) rfl (tlt hc2).2.2.1 (by decide) (by decide) k
      refine QP.cast (congrArg (fun z => some (Value.int z)) (show (g3_156 x0) = (g3_170 x0) from ((if_neg hc1).trans (if_pos hc2)))) ?_
      exact b3_170 C X0 e0 N0 hk hn x0
    · refine Runs.via (T' := T0) (g' := (mkF m 168 #[.val (.int x0)] [])) (fun t k => ?_) ?_
      · show Steps p.tables e below (T0.setTop (mkF m 165 #[.val (.int x0)] [(.int (63743 : Int32)), (.int x0)])) t
        exact XS.icmpNo X0.here hx rfl (hb hby d3_165) rfl (flt hc2).2.2.1 k
      refine Runs.via (T' := T0) (g' := (mkF m 169 #[.val (.int x0)] [(.int (0 : Int32))])) (fun t k => ?_) ?_
      · show Steps p.tables e below (T0.setTop (mkF m 168 #[.val (.int x0)] [])) t
        refine XS.iconst X0.here hx rfl (hb hby d3_168) ?_
        exact k
      refine QP.cast (congrArg (fun z => some (Value.int z)) (show (g3_156 x0) = (0 : Int32) from ((if_neg hc1).trans (if_neg hc2)))) ?_
      exact own_retN X0 hx hlk (t := .boolean) hret (by simp) (hb hby d3_169) hk hn ⟨rfl, N0, e0⟩
def g3_140 (x0 : Int32) : Int32 := (if x0 < (12272 : Int32) then (g3_156 x0) else (if (12288 : Int32) < x0 then (g3_156 x0) else (0 : Int32)))
set_option maxRecDepth 65536 in
set_option maxHeartbeats 4000000 in
theorem b3_140 (C : Ctx p s m meth c Z a0 "com/example/onto3/onto3/rdf/TermScannerIsNameStartCharPinLaw" method_2_code 1 (some .boolean) "reference") (X0 : Stand p l e ({ frames := 0, cells := 0, slots := 0, locals := 0 } : Room) s m args below meth c T0 locs cells slots) (e0 : T0.heap = h0) (N0 : Fr n0 locs) (hk : cells ≤ 0) (hn : slots ≤ 0) (x0 : Int32) :
    Runs p e below s (QP (some (.int (g3_140 x0))) h0 n0) 0 0 T0 (mkF m 140 #[.val (.int x0)] []) := by
  have ⟨hx, hZ, hw, hby, hml, hown, hret, hlk, hnm⟩ := C
  refine Runs.via (T' := T0) (g' := (mkF m 144 #[.val (.int x0)] [(.int (12272 : Int32)), (.int x0)])) (fun t k => ?_) ?_
  · show Steps p.tables e below (T0.setTop (mkF m 140 #[.val (.int x0)] [])) t
    refine XS.iloadN X0.here hx rfl (hb hby d3_140) rfl ?_
    show Steps p.tables e below (T0.setTop (mkF m 141 #[.val (.int x0)] [(.int x0)])) t
    refine XS.sipush X0.here hx rfl (hb hby d3_141) ?_
    exact k
  by_cases hc1 : x0 < (12272 : Int32)
  · refine Runs.via (T' := T0) (g' := (mkF m 156 #[.val (.int x0)] [])) (fun t k => ?_) ?_
    · show Steps p.tables e below (T0.setTop (mkF m 144 #[.val (.int x0)] [(.int (12272 : Int32)), (.int x0)])) t
      exact XS.icmpYes X0.here hx rfl (pc0 := 144) (pc' := 156) rfl (hb hby d3_144) rfl (tlt hc1).1 (by decide) (by decide) k
    refine QP.cast (congrArg (fun z => some (Value.int z)) (show (g3_140 x0) = (g3_156 x0) from (if_pos hc1))) ?_
    exact b3_156 C X0 e0 N0 hk hn x0
  · refine Runs.via (T' := T0) (g' := (mkF m 147 #[.val (.int x0)] [])) (fun t k => ?_) ?_
    · show Steps p.tables e below (T0.setTop (mkF m 144 #[.val (.int x0)] [(.int (12272 : Int32)), (.int x0)])) t
      exact XS.icmpNo X0.here hx rfl (hb hby d3_144) rfl (flt hc1).1 k
    refine Runs.via (T' := T0) (g' := (mkF m 151 #[.val (.int x0)] [(.int (12288 : Int32)), (.int x0)])) (fun t k => ?_) ?_
    · show Steps p.tables e below (T0.setTop (mkF m 147 #[.val (.int x0)] [])) t
      refine XS.iloadN X0.here hx rfl (hb hby d3_147) rfl ?_
      show Steps p.tables e below (T0.setTop (mkF m 148 #[.val (.int x0)] [(.int x0)])) t
      refine XS.sipush X0.here hx rfl (hb hby d3_148) ?_
      exact k
    by_cases hc2 : (12288 : Int32) < x0
    · refine Runs.via (T' := T0) (g' := (mkF m 156 #[.val (.int x0)] [])) (fun t k => ?_) ?_
      · show Steps p.tables e below (T0.setTop (mkF m 151 #[.val (.int x0)] [(.int (12288 : Int32)), (.int x0)])) t
        exact XS.icmpYes X0.here hx rfl (pc0 := 151) (pc' := 156) rfl (hb hby d3_151) rfl (tlt hc2).2.2.1 (by decide) (by decide) k
      refine QP.cast (congrArg (fun z => some (Value.int z)) (show (g3_140 x0) = (g3_156 x0) from ((if_neg hc1).trans (if_pos hc2)))) ?_
      exact b3_156 C X0 e0 N0 hk hn x0
    · refine Runs.via (T' := T0) (g' := (mkF m 154 #[.val (.int x0)] [])) (fun t k => ?_) ?_
      · show Steps p.tables e below (T0.setTop (mkF m 151 #[.val (.int x0)] [(.int (12288 : Int32)), (.int x0)])) t
        exact XS.icmpNo X0.here hx rfl (hb hby d3_151) rfl (flt hc2).2.2.1 k
      refine Runs.via (T' := T0) (g' := (mkF m 155 #[.val (.int x0)] [(.int (0 : Int32))])) (fun t k => ?_) ?_
      · show Steps p.tables e below (T0.setTop (mkF m 154 #[.val (.int x0)] [])) t
        refine XS.iconst X0.here hx rfl (hb hby d3_154) ?_
        exact k
      refine QP.cast (congrArg (fun z => some (Value.int z)) (show (g3_140 x0) = (0 : Int32) from ((if_neg hc1).trans (if_neg hc2)))) ?_
      exact own_retN X0 hx hlk (t := .boolean) hret (by simp) (hb hby d3_155) hk hn ⟨rfl, N0, e0⟩
def g3_124 (x0 : Int32) : Int32 := (if x0 < (8592 : Int32) then (g3_140 x0) else (if (11263 : Int32) < x0 then (g3_140 x0) else (0 : Int32)))
set_option maxRecDepth 65536 in
set_option maxHeartbeats 4000000 in
theorem b3_124 (C : Ctx p s m meth c Z a0 "com/example/onto3/onto3/rdf/TermScannerIsNameStartCharPinLaw" method_2_code 1 (some .boolean) "reference") (X0 : Stand p l e ({ frames := 0, cells := 0, slots := 0, locals := 0 } : Room) s m args below meth c T0 locs cells slots) (e0 : T0.heap = h0) (N0 : Fr n0 locs) (hk : cells ≤ 0) (hn : slots ≤ 0) (x0 : Int32) :
    Runs p e below s (QP (some (.int (g3_124 x0))) h0 n0) 0 0 T0 (mkF m 124 #[.val (.int x0)] []) := by
  have ⟨hx, hZ, hw, hby, hml, hown, hret, hlk, hnm⟩ := C
  refine Runs.via (T' := T0) (g' := (mkF m 128 #[.val (.int x0)] [(.int (8592 : Int32)), (.int x0)])) (fun t k => ?_) ?_
  · show Steps p.tables e below (T0.setTop (mkF m 124 #[.val (.int x0)] [])) t
    refine XS.iloadN X0.here hx rfl (hb hby d3_124) rfl ?_
    show Steps p.tables e below (T0.setTop (mkF m 125 #[.val (.int x0)] [(.int x0)])) t
    refine XS.sipush X0.here hx rfl (hb hby d3_125) ?_
    exact k
  by_cases hc1 : x0 < (8592 : Int32)
  · refine Runs.via (T' := T0) (g' := (mkF m 140 #[.val (.int x0)] [])) (fun t k => ?_) ?_
    · show Steps p.tables e below (T0.setTop (mkF m 128 #[.val (.int x0)] [(.int (8592 : Int32)), (.int x0)])) t
      exact XS.icmpYes X0.here hx rfl (pc0 := 128) (pc' := 140) rfl (hb hby d3_128) rfl (tlt hc1).1 (by decide) (by decide) k
    refine QP.cast (congrArg (fun z => some (Value.int z)) (show (g3_124 x0) = (g3_140 x0) from (if_pos hc1))) ?_
    exact b3_140 C X0 e0 N0 hk hn x0
  · refine Runs.via (T' := T0) (g' := (mkF m 131 #[.val (.int x0)] [])) (fun t k => ?_) ?_
    · show Steps p.tables e below (T0.setTop (mkF m 128 #[.val (.int x0)] [(.int (8592 : Int32)), (.int x0)])) t
      exact XS.icmpNo X0.here hx rfl (hb hby d3_128) rfl (flt hc1).1 k
    refine Runs.via (T' := T0) (g' := (mkF m 135 #[.val (.int x0)] [(.int (11263 : Int32)), (.int x0)])) (fun t k => ?_) ?_
    · show Steps p.tables e below (T0.setTop (mkF m 131 #[.val (.int x0)] [])) t
      refine XS.iloadN X0.here hx rfl (hb hby d3_131) rfl ?_
      show Steps p.tables e below (T0.setTop (mkF m 132 #[.val (.int x0)] [(.int x0)])) t
      refine XS.sipush X0.here hx rfl (hb hby d3_132) ?_
      exact k
    by_cases hc2 : (11263 : Int32) < x0
    · refine Runs.via (T' := T0) (g' := (mkF m 140 #[.val (.int x0)] [])) (fun t k => ?_) ?_
      · show Steps p.tables e below (T0.setTop (mkF m 135 #[.val (.int x0)] [(.int (11263 : Int32)), (.int x0)])) t
        exact XS.icmpYes X0.here hx rfl (pc0 := 135) (pc' := 140) rfl (hb hby d3_135) rfl (tlt hc2).2.2.1 (by decide) (by decide) k
      refine QP.cast (congrArg (fun z => some (Value.int z)) (show (g3_124 x0) = (g3_140 x0) from ((if_neg hc1).trans (if_pos hc2)))) ?_
      exact b3_140 C X0 e0 N0 hk hn x0
    · refine Runs.via (T' := T0) (g' := (mkF m 138 #[.val (.int x0)] [])) (fun t k => ?_) ?_
      · show Steps p.tables e below (T0.setTop (mkF m 135 #[.val (.int x0)] [(.int (11263 : Int32)), (.int x0)])) t
        exact XS.icmpNo X0.here hx rfl (hb hby d3_135) rfl (flt hc2).2.2.1 k
      refine Runs.via (T' := T0) (g' := (mkF m 139 #[.val (.int x0)] [(.int (0 : Int32))])) (fun t k => ?_) ?_
      · show Steps p.tables e below (T0.setTop (mkF m 138 #[.val (.int x0)] [])) t
        refine XS.iconst X0.here hx rfl (hb hby d3_138) ?_
        exact k
      refine QP.cast (congrArg (fun z => some (Value.int z)) (show (g3_124 x0) = (0 : Int32) from ((if_neg hc1).trans (if_neg hc2)))) ?_
      exact own_retN X0 hx hlk (t := .boolean) hret (by simp) (hb hby d3_139) hk hn ⟨rfl, N0, e0⟩
def g3_108 (x0 : Int32) : Int32 := (if x0 < (8206 : Int32) then (g3_124 x0) else (if (8303 : Int32) < x0 then (g3_124 x0) else (0 : Int32)))
set_option maxRecDepth 65536 in
set_option maxHeartbeats 4000000 in
theorem b3_108 (C : Ctx p s m meth c Z a0 "com/example/onto3/onto3/rdf/TermScannerIsNameStartCharPinLaw" method_2_code 1 (some .boolean) "reference") (X0 : Stand p l e ({ frames := 0, cells := 0, slots := 0, locals := 0 } : Room) s m args below meth c T0 locs cells slots) (e0 : T0.heap = h0) (N0 : Fr n0 locs) (hk : cells ≤ 0) (hn : slots ≤ 0) (x0 : Int32) :
    Runs p e below s (QP (some (.int (g3_108 x0))) h0 n0) 0 0 T0 (mkF m 108 #[.val (.int x0)] []) := by
  have ⟨hx, hZ, hw, hby, hml, hown, hret, hlk, hnm⟩ := C
  refine Runs.via (T' := T0) (g' := (mkF m 112 #[.val (.int x0)] [(.int (8206 : Int32)), (.int x0)])) (fun t k => ?_) ?_
  · show Steps p.tables e below (T0.setTop (mkF m 108 #[.val (.int x0)] [])) t
    refine XS.iloadN X0.here hx rfl (hb hby d3_108) rfl ?_
    show Steps p.tables e below (T0.setTop (mkF m 109 #[.val (.int x0)] [(.int x0)])) t
    refine XS.sipush X0.here hx rfl (hb hby d3_109) ?_
    exact k
  by_cases hc1 : x0 < (8206 : Int32)
  · refine Runs.via (T' := T0) (g' := (mkF m 124 #[.val (.int x0)] [])) (fun t k => ?_) ?_
    · show Steps p.tables e below (T0.setTop (mkF m 112 #[.val (.int x0)] [(.int (8206 : Int32)), (.int x0)])) t
      exact XS.icmpYes X0.here hx rfl (pc0 := 112) (pc' := 124) rfl (hb hby d3_112) rfl (tlt hc1).1 (by decide) (by decide) k
    refine QP.cast (congrArg (fun z => some (Value.int z)) (show (g3_108 x0) = (g3_124 x0) from (if_pos hc1))) ?_
    exact b3_124 C X0 e0 N0 hk hn x0
  · refine Runs.via (T' := T0) (g' := (mkF m 115 #[.val (.int x0)] [])) (fun t k => ?_) ?_
    · show Steps p.tables e below (T0.setTop (mkF m 112 #[.val (.int x0)] [(.int (8206 : Int32)), (.int x0)])) t
      exact XS.icmpNo X0.here hx rfl (hb hby d3_112) rfl (flt hc1).1 k
    refine Runs.via (T' := T0) (g' := (mkF m 119 #[.val (.int x0)] [(.int (8303 : Int32)), (.int x0)])) (fun t k => ?_) ?_
    · show Steps p.tables e below (T0.setTop (mkF m 115 #[.val (.int x0)] [])) t
      refine XS.iloadN X0.here hx rfl (hb hby d3_115) rfl ?_
      show Steps p.tables e below (T0.setTop (mkF m 116 #[.val (.int x0)] [(.int x0)])) t
      refine XS.sipush X0.here hx rfl (hb hby d3_116) ?_
      exact k
    by_cases hc2 : (8303 : Int32) < x0
    · refine Runs.via (T' := T0) (g' := (mkF m 124 #[.val (.int x0)] [])) (fun t k => ?_) ?_
      · show Steps p.tables e below (T0.setTop (mkF m 119 #[.val (.int x0)] [(.int (8303 : Int32)), (.int x0)])) t
        exact XS.icmpYes X0.here hx rfl (pc0 := 119) (pc' := 124) rfl (hb hby d3_119) rfl (tlt hc2).2.2.1 (by decide) (by decide) k
      refine QP.cast (congrArg (fun z => some (Value.int z)) (show (g3_108 x0) = (g3_124 x0) from ((if_neg hc1).trans (if_pos hc2)))) ?_
      exact b3_124 C X0 e0 N0 hk hn x0
    · refine Runs.via (T' := T0) (g' := (mkF m 122 #[.val (.int x0)] [])) (fun t k => ?_) ?_
      · show Steps p.tables e below (T0.setTop (mkF m 119 #[.val (.int x0)] [(.int (8303 : Int32)), (.int x0)])) t
        exact XS.icmpNo X0.here hx rfl (hb hby d3_119) rfl (flt hc2).2.2.1 k
      refine Runs.via (T' := T0) (g' := (mkF m 123 #[.val (.int x0)] [(.int (0 : Int32))])) (fun t k => ?_) ?_
      · show Steps p.tables e below (T0.setTop (mkF m 122 #[.val (.int x0)] [])) t
        refine XS.iconst X0.here hx rfl (hb hby d3_122) ?_
        exact k
      refine QP.cast (congrArg (fun z => some (Value.int z)) (show (g3_108 x0) = (0 : Int32) from ((if_neg hc1).trans (if_neg hc2)))) ?_
      exact own_retN X0 hx hlk (t := .boolean) hret (by simp) (hb hby d3_123) hk hn ⟨rfl, N0, e0⟩
def g3_83 (x0 : Int32) : Int32 := (if x0 = (894 : Int32) then (0 : Int32) else (if x0 < (8192 : Int32) then (g3_108 x0) else (if (8203 : Int32) < x0 then (g3_108 x0) else (0 : Int32))))
set_option maxRecDepth 65536 in
set_option maxHeartbeats 4000000 in
theorem b3_83 (C : Ctx p s m meth c Z a0 "com/example/onto3/onto3/rdf/TermScannerIsNameStartCharPinLaw" method_2_code 1 (some .boolean) "reference") (X0 : Stand p l e ({ frames := 0, cells := 0, slots := 0, locals := 0 } : Room) s m args below meth c T0 locs cells slots) (e0 : T0.heap = h0) (N0 : Fr n0 locs) (hk : cells ≤ 0) (hn : slots ≤ 0) (x0 : Int32) :
    Runs p e below s (QP (some (.int (g3_83 x0))) h0 n0) 0 0 T0 (mkF m 83 #[.val (.int x0)] []) := by
  have ⟨hx, hZ, hw, hby, hml, hown, hret, hlk, hnm⟩ := C
  refine Runs.via (T' := T0) (g' := (mkF m 87 #[.val (.int x0)] [(.int (894 : Int32)), (.int x0)])) (fun t k => ?_) ?_
  · show Steps p.tables e below (T0.setTop (mkF m 83 #[.val (.int x0)] [])) t
    refine XS.iloadN X0.here hx rfl (hb hby d3_83) rfl ?_
    show Steps p.tables e below (T0.setTop (mkF m 84 #[.val (.int x0)] [(.int x0)])) t
    refine XS.sipush X0.here hx rfl (hb hby d3_84) ?_
    exact k
  by_cases hc1 : x0 = (894 : Int32)
  · refine Runs.via (T' := T0) (g' := (mkF m 90 #[.val (.int x0)] [])) (fun t k => ?_) ?_
    · show Steps p.tables e below (T0.setTop (mkF m 87 #[.val (.int x0)] [(.int (894 : Int32)), (.int x0)])) t
      exact XS.icmpNo X0.here hx rfl (hb hby d3_87) rfl (teq hc1).2 k
    refine Runs.via (T' := T0) (g' := (mkF m 91 #[.val (.int x0)] [(.int (0 : Int32))])) (fun t k => ?_) ?_
    · show Steps p.tables e below (T0.setTop (mkF m 90 #[.val (.int x0)] [])) t
      refine XS.iconst X0.here hx rfl (hb hby d3_90) ?_
      exact k
    refine QP.cast (congrArg (fun z => some (Value.int z)) (show (g3_83 x0) = (0 : Int32) from (if_pos hc1))) ?_
    exact own_retN X0 hx hlk (t := .boolean) hret (by simp) (hb hby d3_91) hk hn ⟨rfl, N0, e0⟩
  · refine Runs.via (T' := T0) (g' := (mkF m 92 #[.val (.int x0)] [])) (fun t k => ?_) ?_
    · show Steps p.tables e below (T0.setTop (mkF m 87 #[.val (.int x0)] [(.int (894 : Int32)), (.int x0)])) t
      exact XS.icmpYes X0.here hx rfl (pc0 := 87) (pc' := 92) rfl (hb hby d3_87) rfl (feq hc1).2 (by decide) (by decide) k
    refine Runs.via (T' := T0) (g' := (mkF m 96 #[.val (.int x0)] [(.int (8192 : Int32)), (.int x0)])) (fun t k => ?_) ?_
    · show Steps p.tables e below (T0.setTop (mkF m 92 #[.val (.int x0)] [])) t
      refine XS.iloadN X0.here hx rfl (hb hby d3_92) rfl ?_
      show Steps p.tables e below (T0.setTop (mkF m 93 #[.val (.int x0)] [(.int x0)])) t
      refine XS.sipush X0.here hx rfl (hb hby d3_93) ?_
      exact k
    by_cases hc2 : x0 < (8192 : Int32)
    · refine Runs.via (T' := T0) (g' := (mkF m 108 #[.val (.int x0)] [])) (fun t k => ?_) ?_
      · show Steps p.tables e below (T0.setTop (mkF m 96 #[.val (.int x0)] [(.int (8192 : Int32)), (.int x0)])) t
        exact XS.icmpYes X0.here hx rfl (pc0 := 96) (pc' := 108) rfl (hb hby d3_96) rfl (tlt hc2).1 (by decide) (by decide) k
      refine QP.cast (congrArg (fun z => some (Value.int z)) (show (g3_83 x0) = (g3_108 x0) from ((if_neg hc1).trans (if_pos hc2)))) ?_
      exact b3_108 C X0 e0 N0 hk hn x0
    · refine Runs.via (T' := T0) (g' := (mkF m 99 #[.val (.int x0)] [])) (fun t k => ?_) ?_
      · show Steps p.tables e below (T0.setTop (mkF m 96 #[.val (.int x0)] [(.int (8192 : Int32)), (.int x0)])) t
        exact XS.icmpNo X0.here hx rfl (hb hby d3_96) rfl (flt hc2).1 k
      refine Runs.via (T' := T0) (g' := (mkF m 103 #[.val (.int x0)] [(.int (8203 : Int32)), (.int x0)])) (fun t k => ?_) ?_
      · show Steps p.tables e below (T0.setTop (mkF m 99 #[.val (.int x0)] [])) t
        refine XS.iloadN X0.here hx rfl (hb hby d3_99) rfl ?_
        show Steps p.tables e below (T0.setTop (mkF m 100 #[.val (.int x0)] [(.int x0)])) t
        refine XS.sipush X0.here hx rfl (hb hby d3_100) ?_
        exact k
      by_cases hc3 : (8203 : Int32) < x0
      · refine Runs.via (T' := T0) (g' := (mkF m 108 #[.val (.int x0)] [])) (fun t k => ?_) ?_
        · show Steps p.tables e below (T0.setTop (mkF m 103 #[.val (.int x0)] [(.int (8203 : Int32)), (.int x0)])) t
          exact XS.icmpYes X0.here hx rfl (pc0 := 103) (pc' := 108) rfl (hb hby d3_103) rfl (tlt hc3).2.2.1 (by decide) (by decide) k
        refine QP.cast (congrArg (fun z => some (Value.int z)) (show (g3_83 x0) = (g3_108 x0) from ((if_neg hc1).trans ((if_neg hc2).trans (if_pos hc3))))) ?_
        exact b3_108 C X0 e0 N0 hk hn x0
      · refine Runs.via (T' := T0) (g' := (mkF m 106 #[.val (.int x0)] [])) (fun t k => ?_) ?_
        · show Steps p.tables e below (T0.setTop (mkF m 103 #[.val (.int x0)] [(.int (8203 : Int32)), (.int x0)])) t
          exact XS.icmpNo X0.here hx rfl (hb hby d3_103) rfl (flt hc3).2.2.1 k
        refine Runs.via (T' := T0) (g' := (mkF m 107 #[.val (.int x0)] [(.int (0 : Int32))])) (fun t k => ?_) ?_
        · show Steps p.tables e below (T0.setTop (mkF m 106 #[.val (.int x0)] [])) t
          refine XS.iconst X0.here hx rfl (hb hby d3_106) ?_
          exact k
        refine QP.cast (congrArg (fun z => some (Value.int z)) (show (g3_83 x0) = (0 : Int32) from ((if_neg hc1).trans ((if_neg hc2).trans (if_neg hc3))))) ?_
        exact own_retN X0 hx hlk (t := .boolean) hret (by simp) (hb hby d3_107) hk hn ⟨rfl, N0, e0⟩
def g3_51 (x0 : Int32) : Int32 := (if x0 = (215 : Int32) then (0 : Int32) else (if x0 = (247 : Int32) then (0 : Int32) else (if x0 < (768 : Int32) then (g3_83 x0) else (if (879 : Int32) < x0 then (g3_83 x0) else (0 : Int32)))))
set_option maxRecDepth 65536 in
set_option maxHeartbeats 4000000 in
theorem b3_51 (C : Ctx p s m meth c Z a0 "com/example/onto3/onto3/rdf/TermScannerIsNameStartCharPinLaw" method_2_code 1 (some .boolean) "reference") (X0 : Stand p l e ({ frames := 0, cells := 0, slots := 0, locals := 0 } : Room) s m args below meth c T0 locs cells slots) (e0 : T0.heap = h0) (N0 : Fr n0 locs) (hk : cells ≤ 0) (hn : slots ≤ 0) (x0 : Int32) :
    Runs p e below s (QP (some (.int (g3_51 x0))) h0 n0) 0 0 T0 (mkF m 51 #[.val (.int x0)] []) := by
  have ⟨hx, hZ, hw, hby, hml, hown, hret, hlk, hnm⟩ := C
  refine Runs.via (T' := T0) (g' := (mkF m 55 #[.val (.int x0)] [(.int (215 : Int32)), (.int x0)])) (fun t k => ?_) ?_
  · show Steps p.tables e below (T0.setTop (mkF m 51 #[.val (.int x0)] [])) t
    refine XS.iloadN X0.here hx rfl (hb hby d3_51) rfl ?_
    show Steps p.tables e below (T0.setTop (mkF m 52 #[.val (.int x0)] [(.int x0)])) t
    refine XS.sipush X0.here hx rfl (hb hby d3_52) ?_
    exact k
  by_cases hc1 : x0 = (215 : Int32)
  · refine Runs.via (T' := T0) (g' := (mkF m 65 #[.val (.int x0)] [])) (fun t k => ?_) ?_
    · show Steps p.tables e below (T0.setTop (mkF m 55 #[.val (.int x0)] [(.int (215 : Int32)), (.int x0)])) t
      exact XS.icmpYes X0.here hx rfl (pc0 := 55) (pc' := 65) rfl (hb hby d3_55) rfl (teq hc1).1 (by decide) (by decide) k
    refine Runs.via (T' := T0) (g' := (mkF m 66 #[.val (.int x0)] [(.int (0 : Int32))])) (fun t k => ?_) ?_
    · show Steps p.tables e below (T0.setTop (mkF m 65 #[.val (.int x0)] [])) t
      refine XS.iconst X0.here hx rfl (hb hby d3_65) ?_
      exact k
    refine QP.cast (congrArg (fun z => some (Value.int z)) (show (g3_51 x0) = (0 : Int32) from (if_pos hc1))) ?_
    exact own_retN X0 hx hlk (t := .boolean) hret (by simp) (hb hby d3_66) hk hn ⟨rfl, N0, e0⟩
  · refine Runs.via (T' := T0) (g' := (mkF m 58 #[.val (.int x0)] [])) (fun t k => ?_) ?_
    · show Steps p.tables e below (T0.setTop (mkF m 55 #[.val (.int x0)] [(.int (215 : Int32)), (.int x0)])) t
      exact XS.icmpNo X0.here hx rfl (hb hby d3_55) rfl (feq hc1).1 k
    refine Runs.via (T' := T0) (g' := (mkF m 62 #[.val (.int x0)] [(.int (247 : Int32)), (.int x0)])) (fun t k => ?_) ?_
    · show Steps p.tables e below (T0.setTop (mkF m 58 #[.val (.int x0)] [])) t
      refine XS.iloadN X0.here hx rfl (hb hby d3_58) rfl ?_
      show Steps p.tables e below (T0.setTop (mkF m 59 #[.val (.int x0)] [(.int x0)])) t
      refine XS.sipush X0.here hx rfl (hb hby d3_59) ?_
      exact k
    by_cases hc2 : x0 = (247 : Int32)
    · refine Runs.via (T' := T0) (g' := (mkF m 65 #[.val (.int x0)] [])) (fun t k => ?_) ?_
      · show Steps p.tables e below (T0.setTop (mkF m 62 #[.val (.int x0)] [(.int (247 : Int32)), (.int x0)])) t
        exact XS.icmpNo X0.here hx rfl (hb hby d3_62) rfl (teq hc2).2 k
      refine Runs.via (T' := T0) (g' := (mkF m 66 #[.val (.int x0)] [(.int (0 : Int32))])) (fun t k => ?_) ?_
      · show Steps p.tables e below (T0.setTop (mkF m 65 #[.val (.int x0)] [])) t
        refine XS.iconst X0.here hx rfl (hb hby d3_65) ?_
        exact k
      refine QP.cast (congrArg (fun z => some (Value.int z)) (show (g3_51 x0) = (0 : Int32) from ((if_neg hc1).trans (if_pos hc2)))) ?_
      exact own_retN X0 hx hlk (t := .boolean) hret (by simp) (hb hby d3_66) hk hn ⟨rfl, N0, e0⟩
    · refine Runs.via (T' := T0) (g' := (mkF m 67 #[.val (.int x0)] [])) (fun t k => ?_) ?_
      · show Steps p.tables e below (T0.setTop (mkF m 62 #[.val (.int x0)] [(.int (247 : Int32)), (.int x0)])) t
        exact XS.icmpYes X0.here hx rfl (pc0 := 62) (pc' := 67) rfl (hb hby d3_62) rfl (feq hc2).2 (by decide) (by decide) k
      refine Runs.via (T' := T0) (g' := (mkF m 71 #[.val (.int x0)] [(.int (768 : Int32)), (.int x0)])) (fun t k => ?_) ?_
      · show Steps p.tables e below (T0.setTop (mkF m 67 #[.val (.int x0)] [])) t
        refine XS.iloadN X0.here hx rfl (hb hby d3_67) rfl ?_
        show Steps p.tables e below (T0.setTop (mkF m 68 #[.val (.int x0)] [(.int x0)])) t
        refine XS.sipush X0.here hx rfl (hb hby d3_68) ?_
        exact k
      by_cases hc3 : x0 < (768 : Int32)
      · refine Runs.via (T' := T0) (g' := (mkF m 83 #[.val (.int x0)] [])) (fun t k => ?_) ?_
        · show Steps p.tables e below (T0.setTop (mkF m 71 #[.val (.int x0)] [(.int (768 : Int32)), (.int x0)])) t
          exact XS.icmpYes X0.here hx rfl (pc0 := 71) (pc' := 83) rfl (hb hby d3_71) rfl (tlt hc3).1 (by decide) (by decide) k
        refine QP.cast (congrArg (fun z => some (Value.int z)) (show (g3_51 x0) = (g3_83 x0) from ((if_neg hc1).trans ((if_neg hc2).trans (if_pos hc3))))) ?_
        exact b3_83 C X0 e0 N0 hk hn x0
      · refine Runs.via (T' := T0) (g' := (mkF m 74 #[.val (.int x0)] [])) (fun t k => ?_) ?_
        · show Steps p.tables e below (T0.setTop (mkF m 71 #[.val (.int x0)] [(.int (768 : Int32)), (.int x0)])) t
          exact XS.icmpNo X0.here hx rfl (hb hby d3_71) rfl (flt hc3).1 k
        refine Runs.via (T' := T0) (g' := (mkF m 78 #[.val (.int x0)] [(.int (879 : Int32)), (.int x0)])) (fun t k => ?_) ?_
        · show Steps p.tables e below (T0.setTop (mkF m 74 #[.val (.int x0)] [])) t
          refine XS.iloadN X0.here hx rfl (hb hby d3_74) rfl ?_
          show Steps p.tables e below (T0.setTop (mkF m 75 #[.val (.int x0)] [(.int x0)])) t
          refine XS.sipush X0.here hx rfl (hb hby d3_75) ?_
          exact k
        by_cases hc4 : (879 : Int32) < x0
        · refine Runs.via (T' := T0) (g' := (mkF m 83 #[.val (.int x0)] [])) (fun t k => ?_) ?_
          · show Steps p.tables e below (T0.setTop (mkF m 78 #[.val (.int x0)] [(.int (879 : Int32)), (.int x0)])) t
            exact XS.icmpYes X0.here hx rfl (pc0 := 78) (pc' := 83) rfl (hb hby d3_78) rfl (tlt hc4).2.2.1 (by decide) (by decide) k
          refine QP.cast (congrArg (fun z => some (Value.int z)) (show (g3_51 x0) = (g3_83 x0) from ((if_neg hc1).trans ((if_neg hc2).trans ((if_neg hc3).trans (if_pos hc4)))))) ?_
          exact b3_83 C X0 e0 N0 hk hn x0
        · refine Runs.via (T' := T0) (g' := (mkF m 81 #[.val (.int x0)] [])) (fun t k => ?_) ?_
          · show Steps p.tables e below (T0.setTop (mkF m 78 #[.val (.int x0)] [(.int (879 : Int32)), (.int x0)])) t
            exact XS.icmpNo X0.here hx rfl (hb hby d3_78) rfl (flt hc4).2.2.1 k
          refine Runs.via (T' := T0) (g' := (mkF m 82 #[.val (.int x0)] [(.int (0 : Int32))])) (fun t k => ?_) ?_
          · show Steps p.tables e below (T0.setTop (mkF m 81 #[.val (.int x0)] [])) t
            refine XS.iconst X0.here hx rfl (hb hby d3_81) ?_
            exact k
          refine QP.cast (congrArg (fun z => some (Value.int z)) (show (g3_51 x0) = (0 : Int32) from ((if_neg hc1).trans ((if_neg hc2).trans ((if_neg hc3).trans (if_neg hc4)))))) ?_
          exact own_retN X0 hx hlk (t := .boolean) hret (by simp) (hb hby d3_82) hk hn ⟨rfl, N0, e0⟩
def g3_28 (x0 : Int32) : Int32 := (if x0 = (96 : Int32) then (0 : Int32) else (if x0 < (123 : Int32) then (g3_51 x0) else (if (191 : Int32) < x0 then (g3_51 x0) else (0 : Int32))))
set_option maxRecDepth 65536 in
set_option maxHeartbeats 4000000 in
theorem b3_28 (C : Ctx p s m meth c Z a0 "com/example/onto3/onto3/rdf/TermScannerIsNameStartCharPinLaw" method_2_code 1 (some .boolean) "reference") (X0 : Stand p l e ({ frames := 0, cells := 0, slots := 0, locals := 0 } : Room) s m args below meth c T0 locs cells slots) (e0 : T0.heap = h0) (N0 : Fr n0 locs) (hk : cells ≤ 0) (hn : slots ≤ 0) (x0 : Int32) :
    Runs p e below s (QP (some (.int (g3_28 x0))) h0 n0) 0 0 T0 (mkF m 28 #[.val (.int x0)] []) := by
  have ⟨hx, hZ, hw, hby, hml, hown, hret, hlk, hnm⟩ := C
  refine Runs.via (T' := T0) (g' := (mkF m 31 #[.val (.int x0)] [(.int (96 : Int32)), (.int x0)])) (fun t k => ?_) ?_
  · show Steps p.tables e below (T0.setTop (mkF m 28 #[.val (.int x0)] [])) t
    refine XS.iloadN X0.here hx rfl (hb hby d3_28) rfl ?_
    show Steps p.tables e below (T0.setTop (mkF m 29 #[.val (.int x0)] [(.int x0)])) t
    refine XS.bipush X0.here hx rfl (hb hby d3_29) ?_
    exact k
  by_cases hc1 : x0 = (96 : Int32)
  · refine Runs.via (T' := T0) (g' := (mkF m 34 #[.val (.int x0)] [])) (fun t k => ?_) ?_
    · show Steps p.tables e below (T0.setTop (mkF m 31 #[.val (.int x0)] [(.int (96 : Int32)), (.int x0)])) t
      exact XS.icmpNo X0.here hx rfl (hb hby d3_31) rfl (teq hc1).2 k
    refine Runs.via (T' := T0) (g' := (mkF m 35 #[.val (.int x0)] [(.int (0 : Int32))])) (fun t k => ?_) ?_
    · show Steps p.tables e below (T0.setTop (mkF m 34 #[.val (.int x0)] [])) t
      refine XS.iconst X0.here hx rfl (hb hby d3_34) ?_
      exact k
    refine QP.cast (congrArg (fun z => some (Value.int z)) (show (g3_28 x0) = (0 : Int32) from (if_pos hc1))) ?_
    exact own_retN X0 hx hlk (t := .boolean) hret (by simp) (hb hby d3_35) hk hn ⟨rfl, N0, e0⟩
  · refine Runs.via (T' := T0) (g' := (mkF m 36 #[.val (.int x0)] [])) (fun t k => ?_) ?_
    · show Steps p.tables e below (T0.setTop (mkF m 31 #[.val (.int x0)] [(.int (96 : Int32)), (.int x0)])) t
      exact XS.icmpYes X0.here hx rfl (pc0 := 31) (pc' := 36) rfl (hb hby d3_31) rfl (feq hc1).2 (by decide) (by decide) k
    refine Runs.via (T' := T0) (g' := (mkF m 39 #[.val (.int x0)] [(.int (123 : Int32)), (.int x0)])) (fun t k => ?_) ?_
    · show Steps p.tables e below (T0.setTop (mkF m 36 #[.val (.int x0)] [])) t
      refine XS.iloadN X0.here hx rfl (hb hby d3_36) rfl ?_
      show Steps p.tables e below (T0.setTop (mkF m 37 #[.val (.int x0)] [(.int x0)])) t
      refine XS.bipush X0.here hx rfl (hb hby d3_37) ?_
      exact k
    by_cases hc2 : x0 < (123 : Int32)
    · refine Runs.via (T' := T0) (g' := (mkF m 51 #[.val (.int x0)] [])) (fun t k => ?_) ?_
      · show Steps p.tables e below (T0.setTop (mkF m 39 #[.val (.int x0)] [(.int (123 : Int32)), (.int x0)])) t
        exact XS.icmpYes X0.here hx rfl (pc0 := 39) (pc' := 51) rfl (hb hby d3_39) rfl (tlt hc2).1 (by decide) (by decide) k
      refine QP.cast (congrArg (fun z => some (Value.int z)) (show (g3_28 x0) = (g3_51 x0) from ((if_neg hc1).trans (if_pos hc2)))) ?_
      exact b3_51 C X0 e0 N0 hk hn x0
    · refine Runs.via (T' := T0) (g' := (mkF m 42 #[.val (.int x0)] [])) (fun t k => ?_) ?_
      · show Steps p.tables e below (T0.setTop (mkF m 39 #[.val (.int x0)] [(.int (123 : Int32)), (.int x0)])) t
        exact XS.icmpNo X0.here hx rfl (hb hby d3_39) rfl (flt hc2).1 k
      refine Runs.via (T' := T0) (g' := (mkF m 46 #[.val (.int x0)] [(.int (191 : Int32)), (.int x0)])) (fun t k => ?_) ?_
      · show Steps p.tables e below (T0.setTop (mkF m 42 #[.val (.int x0)] [])) t
        refine XS.iloadN X0.here hx rfl (hb hby d3_42) rfl ?_
        show Steps p.tables e below (T0.setTop (mkF m 43 #[.val (.int x0)] [(.int x0)])) t
        refine XS.sipush X0.here hx rfl (hb hby d3_43) ?_
        exact k
      by_cases hc3 : (191 : Int32) < x0
      · refine Runs.via (T' := T0) (g' := (mkF m 51 #[.val (.int x0)] [])) (fun t k => ?_) ?_
        · show Steps p.tables e below (T0.setTop (mkF m 46 #[.val (.int x0)] [(.int (191 : Int32)), (.int x0)])) t
          exact XS.icmpYes X0.here hx rfl (pc0 := 46) (pc' := 51) rfl (hb hby d3_46) rfl (tlt hc3).2.2.1 (by decide) (by decide) k
        refine QP.cast (congrArg (fun z => some (Value.int z)) (show (g3_28 x0) = (g3_51 x0) from ((if_neg hc1).trans ((if_neg hc2).trans (if_pos hc3))))) ?_
        exact b3_51 C X0 e0 N0 hk hn x0
      · refine Runs.via (T' := T0) (g' := (mkF m 49 #[.val (.int x0)] [])) (fun t k => ?_) ?_
        · show Steps p.tables e below (T0.setTop (mkF m 46 #[.val (.int x0)] [(.int (191 : Int32)), (.int x0)])) t
          exact XS.icmpNo X0.here hx rfl (hb hby d3_46) rfl (flt hc3).2.2.1 k
        refine Runs.via (T' := T0) (g' := (mkF m 50 #[.val (.int x0)] [(.int (0 : Int32))])) (fun t k => ?_) ?_
        · show Steps p.tables e below (T0.setTop (mkF m 49 #[.val (.int x0)] [])) t
          refine XS.iconst X0.here hx rfl (hb hby d3_49) ?_
          exact k
        refine QP.cast (congrArg (fun z => some (Value.int z)) (show (g3_28 x0) = (0 : Int32) from ((if_neg hc1).trans ((if_neg hc2).trans (if_neg hc3))))) ?_
        exact own_retN X0 hx hlk (t := .boolean) hret (by simp) (hb hby d3_50) hk hn ⟨rfl, N0, e0⟩
def g3_0 (x0 : Int32) : Int32 := (if x0 < (65 : Int32) then (0 : Int32) else (if (983039 : Int32) < x0 then (0 : Int32) else (if x0 < (91 : Int32) then (g3_28 x0) else (if (94 : Int32) < x0 then (g3_28 x0) else (0 : Int32)))))
set_option maxRecDepth 65536 in
set_option maxHeartbeats 4000000 in
theorem b3_0 (C : Ctx p s m meth c Z a0 "com/example/onto3/onto3/rdf/TermScannerIsNameStartCharPinLaw" method_2_code 1 (some .boolean) "reference") (X0 : Stand p l e ({ frames := 0, cells := 0, slots := 0, locals := 0 } : Room) s m args below meth c T0 locs cells slots) (e0 : T0.heap = h0) (N0 : Fr n0 locs) (hk : cells ≤ 0) (hn : slots ≤ 0) (x0 : Int32) :
    Runs p e below s (QP (some (.int (g3_0 x0))) h0 n0) 0 0 T0 (mkF m 0 #[.val (.int x0)] []) := by
  have ⟨hx, hZ, hw, hby, hml, hown, hret, hlk, hnm⟩ := C
  refine Runs.via (T' := T0) (g' := (mkF m 3 #[.val (.int x0)] [(.int (65 : Int32)), (.int x0)])) (fun t k => ?_) ?_
  · show Steps p.tables e below (T0.setTop (mkF m 0 #[.val (.int x0)] [])) t
    refine XS.iloadN X0.here hx rfl (hb hby d3_0) rfl ?_
    show Steps p.tables e below (T0.setTop (mkF m 1 #[.val (.int x0)] [(.int x0)])) t
    refine XS.bipush X0.here hx rfl (hb hby d3_1) ?_
    exact k
  by_cases hc1 : x0 < (65 : Int32)
  · refine Runs.via (T' := T0) (g' := (mkF m 12 #[.val (.int x0)] [])) (fun t k => ?_) ?_
    · show Steps p.tables e below (T0.setTop (mkF m 3 #[.val (.int x0)] [(.int (65 : Int32)), (.int x0)])) t
      exact XS.icmpYes X0.here hx rfl (pc0 := 3) (pc' := 12) rfl (hb hby d3_3) rfl (tlt hc1).1 (by decide) (by decide) k
    refine Runs.via (T' := T0) (g' := (mkF m 13 #[.val (.int x0)] [(.int (0 : Int32))])) (fun t k => ?_) ?_
    · show Steps p.tables e below (T0.setTop (mkF m 12 #[.val (.int x0)] [])) t
      refine XS.iconst X0.here hx rfl (hb hby d3_12) ?_
      exact k
    refine QP.cast (congrArg (fun z => some (Value.int z)) (show (g3_0 x0) = (0 : Int32) from (if_pos hc1))) ?_
    exact own_retN X0 hx hlk (t := .boolean) hret (by simp) (hb hby d3_13) hk hn ⟨rfl, N0, e0⟩
  · refine Runs.via (T' := T0) (g' := (mkF m 6 #[.val (.int x0)] [])) (fun t k => ?_) ?_
    · show Steps p.tables e below (T0.setTop (mkF m 3 #[.val (.int x0)] [(.int (65 : Int32)), (.int x0)])) t
      exact XS.icmpNo X0.here hx rfl (hb hby d3_3) rfl (flt hc1).1 k
    refine Runs.via (T' := T0) (g' := (mkF m 9 #[.val (.int x0)] [(.int (983039 : Int32)), (.int x0)])) (fun t k => ?_) ?_
    · show Steps p.tables e below (T0.setTop (mkF m 6 #[.val (.int x0)] [])) t
      refine XS.iloadN X0.here hx rfl (hb hby d3_6) rfl ?_
      show Steps p.tables e below (T0.setTop (mkF m 7 #[.val (.int x0)] [(.int x0)])) t
      refine X0.ldcInt hx hown (mvT hZ (hw _ (List.mem_of_getElem? (i := 7) rfl))) (g := (mkF m 7 #[.val (.int x0)] [(.int x0)])) rfl (hb hby d3_7) _ ?_
      exact k
    by_cases hc2 : (983039 : Int32) < x0
    · refine Runs.via (T' := T0) (g' := (mkF m 12 #[.val (.int x0)] [])) (fun t k => ?_) ?_
      · show Steps p.tables e below (T0.setTop (mkF m 9 #[.val (.int x0)] [(.int (983039 : Int32)), (.int x0)])) t
        exact XS.icmpNo X0.here hx rfl (hb hby d3_9) rfl (tlt hc2).2.2.2 k
      refine Runs.via (T' := T0) (g' := (mkF m 13 #[.val (.int x0)] [(.int (0 : Int32))])) (fun t k => ?_) ?_
      · show Steps p.tables e below (T0.setTop (mkF m 12 #[.val (.int x0)] [])) t
        refine XS.iconst X0.here hx rfl (hb hby d3_12) ?_
        exact k
      refine QP.cast (congrArg (fun z => some (Value.int z)) (show (g3_0 x0) = (0 : Int32) from ((if_neg hc1).trans (if_pos hc2)))) ?_
      exact own_retN X0 hx hlk (t := .boolean) hret (by simp) (hb hby d3_13) hk hn ⟨rfl, N0, e0⟩
    · refine Runs.via (T' := T0) (g' := (mkF m 14 #[.val (.int x0)] [])) (fun t k => ?_) ?_
      · show Steps p.tables e below (T0.setTop (mkF m 9 #[.val (.int x0)] [(.int (983039 : Int32)), (.int x0)])) t
        exact XS.icmpYes X0.here hx rfl (pc0 := 9) (pc' := 14) rfl (hb hby d3_9) rfl (flt hc2).2.2.2 (by decide) (by decide) k
      refine Runs.via (T' := T0) (g' := (mkF m 17 #[.val (.int x0)] [(.int (91 : Int32)), (.int x0)])) (fun t k => ?_) ?_
      · show Steps p.tables e below (T0.setTop (mkF m 14 #[.val (.int x0)] [])) t
        refine XS.iloadN X0.here hx rfl (hb hby d3_14) rfl ?_
        show Steps p.tables e below (T0.setTop (mkF m 15 #[.val (.int x0)] [(.int x0)])) t
        refine XS.bipush X0.here hx rfl (hb hby d3_15) ?_
        exact k
      by_cases hc3 : x0 < (91 : Int32)
      · refine Runs.via (T' := T0) (g' := (mkF m 28 #[.val (.int x0)] [])) (fun t k => ?_) ?_
        · show Steps p.tables e below (T0.setTop (mkF m 17 #[.val (.int x0)] [(.int (91 : Int32)), (.int x0)])) t
          exact XS.icmpYes X0.here hx rfl (pc0 := 17) (pc' := 28) rfl (hb hby d3_17) rfl (tlt hc3).1 (by decide) (by decide) k
        refine QP.cast (congrArg (fun z => some (Value.int z)) (show (g3_0 x0) = (g3_28 x0) from ((if_neg hc1).trans ((if_neg hc2).trans (if_pos hc3))))) ?_
        exact b3_28 C X0 e0 N0 hk hn x0
      · refine Runs.via (T' := T0) (g' := (mkF m 20 #[.val (.int x0)] [])) (fun t k => ?_) ?_
        · show Steps p.tables e below (T0.setTop (mkF m 17 #[.val (.int x0)] [(.int (91 : Int32)), (.int x0)])) t
          exact XS.icmpNo X0.here hx rfl (hb hby d3_17) rfl (flt hc3).1 k
        refine Runs.via (T' := T0) (g' := (mkF m 23 #[.val (.int x0)] [(.int (94 : Int32)), (.int x0)])) (fun t k => ?_) ?_
        · show Steps p.tables e below (T0.setTop (mkF m 20 #[.val (.int x0)] [])) t
          refine XS.iloadN X0.here hx rfl (hb hby d3_20) rfl ?_
          show Steps p.tables e below (T0.setTop (mkF m 21 #[.val (.int x0)] [(.int x0)])) t
          refine XS.bipush X0.here hx rfl (hb hby d3_21) ?_
          exact k
        by_cases hc4 : (94 : Int32) < x0
        · refine Runs.via (T' := T0) (g' := (mkF m 28 #[.val (.int x0)] [])) (fun t k => ?_) ?_
          · show Steps p.tables e below (T0.setTop (mkF m 23 #[.val (.int x0)] [(.int (94 : Int32)), (.int x0)])) t
            exact XS.icmpYes X0.here hx rfl (pc0 := 23) (pc' := 28) rfl (hb hby d3_23) rfl (tlt hc4).2.2.1 (by decide) (by decide) k
          refine QP.cast (congrArg (fun z => some (Value.int z)) (show (g3_0 x0) = (g3_28 x0) from ((if_neg hc1).trans ((if_neg hc2).trans ((if_neg hc3).trans (if_pos hc4)))))) ?_
          exact b3_28 C X0 e0 N0 hk hn x0
        · refine Runs.via (T' := T0) (g' := (mkF m 26 #[.val (.int x0)] [])) (fun t k => ?_) ?_
          · show Steps p.tables e below (T0.setTop (mkF m 23 #[.val (.int x0)] [(.int (94 : Int32)), (.int x0)])) t
            exact XS.icmpNo X0.here hx rfl (hb hby d3_23) rfl (flt hc4).2.2.1 k
          refine Runs.via (T' := T0) (g' := (mkF m 27 #[.val (.int x0)] [(.int (0 : Int32))])) (fun t k => ?_) ?_
          · show Steps p.tables e below (T0.setTop (mkF m 26 #[.val (.int x0)] [])) t
            refine XS.iconst X0.here hx rfl (hb hby d3_26) ?_
            exact k
          refine QP.cast (congrArg (fun z => some (Value.int z)) (show (g3_0 x0) = (0 : Int32) from ((if_neg hc1).trans ((if_neg hc2).trans ((if_neg hc3).trans (if_neg hc4)))))) ?_
          exact own_retN X0 hx hlk (t := .boolean) hret (by simp) (hb hby d3_27) hk hn ⟨rfl, N0, e0⟩
def f3 (x0 : Int32) : Int32 := g3_0 x0
theorem pn_3 : plainName "com/example/onto3/onto3/rdf/TermScannerIsNameStartCharPinLaw" = true := by first | (simp [plainName, overriddenIn]; done) | decide +kernel
theorem ef_3 (m : MethodId) (x0 : Int32) : entryFrame m #[(.int x0)] 1 = mkF m 0 #[.val (.int x0)] [] := by first | (simp [entryFrame, mkF, argsToLocals, Value.category]; done) | rfl
set_option maxRecDepth 65536 in
set_option maxHeartbeats 4000000 in
theorem rm3 (l : Launch) (Z : State) (a0 : Array Value) (hw : ∀ d ∈ tables_1, d.before a0 Z = true) (ws : List Jvm.Cond) (x0 : Int32) (h0 : Heap) (n0 : Nat) :
    MetFree l (⟨"com/example/onto3/onto3/rdf/TermScannerIsNameStartCharPinLaw", "reference", "(I)Z"⟩ : MethodName) (head1 (Jvm.Cond.code (⟨"com/example/onto3/onto3/rdf/TermScannerIsNameStartCharPinLaw", "reference", "(I)Z"⟩ : MethodName) method_2_code 1 (some .boolean) :: ws) ({ frames := 0, cells := 0, slots := 0, locals := 0 } : Room)) (fun a U => a = #[(.int x0)] ∧ Z.Warmed39 U.vm ∧ U.heap = h0) (fun _ _ _ _ _ => True) (fun _ U o U' => ∃ v L, o = .returned v ∧ QP (some (.int (f3 x0))) h0 n0 v U'.heap L ∧ FrameEnd U o U' L ({ frames := 0, cells := 0, slots := 0, locals := 0 } : Room).cells ({ frames := 0, cells := 0, slots := 0, locals := 0 } : Room).slots) := by
  refine MetFree.of_bodySF (plainFor_of_name pn_3) hisR ?_
  intro p e s m args below meth c s₁ Bd hml0 hP hK
  obtain ⟨rfl, hZ, hh⟩ := hP
  have X0 : Stand p l e ({ frames := 0, cells := 0, slots := 0, locals := 0 } : Room) s m #[(.int x0)] below meth c s₁ [] 0 0 := Stand.of_body Bd
  have e0 : s₁.heap = h0 := by rw [← hh, Bd.state]; rfl
  have C : Ctx p s m meth c Z a0 "com/example/onto3/onto3/rdf/TermScannerIsNameStartCharPinLaw" method_2_code 1 (some .boolean) "reference" := ⟨Bd.exec, hZ, hw, Bd.bytes, hml0, findClass_of_methodNamed Bd.named, Bd.returns, BodyLoose.notSynchronized Bd, (name_of_methodNamed Bd.named Bd.method).1⟩
  refine Runs.via (fun t k => castTop (ef_3 m x0) k) (b3_0 C X0 e0 (Fr.nil n0) (Nat.le_refl 0) (Nat.le_refl 0) x0)
def P0 (n0 : Nat) (r : Int32) (v : Option Value) (h : Heap) (L : List Loc) : Prop := v = some (.int r) ∧ Fr n0 L
def g0_246 (x5 : Int32) (u0 : Int32) (q_n0_0 : List Int32) : Option (Int32) := (if x5 = (0 : Int32) then some (0 : Int32) else (if u0 = (0 : Int32) then some (0 : Int32) else some (1 : Int32)))
set_option maxRecDepth 65536 in
set_option maxHeartbeats 4000000 in
theorem b0_246 {r : Int32} (C : Ctx p s m meth c Z a0 "com/example/onto3/onto3/rdf/TermScannerIsNameStartCharPinLaw" code 7 (some .boolean) "law") (X0 : Stand p l e room_1 s m args below meth c T0 locs cells slots) (e0 : T0.heap = h0) (N0 : Fr n0 locs) (hk : cells ≤ 1) (hn : slots ≤ 29) (Z1 : n0 ≤ h0.size) (n0_0 : Addr) (o0 : n0 ≤ n0_0) (q_n0_0 : List Int32) (x0 : Int32) (x1 : Int32) (x2 : Int32) (x4 : Int32) (x5 : Int32) (u0 : Int32) (A_n0_0_0 : AI Z h0 n0_0 .int q_n0_0) (hr : g0_246 x5 u0 q_n0_0 = some r) :
    Runs p e below s (P0 n0 r) 1 29 T0 (mkF m 246 #[.val (.int x0), .val (.int x1), .val (.int x2), .val (.ref n0_0), .val (.int x4), .val (.int x5), .unset] [(.int u0)]) := by
  unfold g0_246 at hr
  have ⟨hx, hZ, hw, hby, hml, hown, hret, hlk, hnm⟩ := C
  refine Runs.via (T' := T0) (g' := (mkF m 250 #[.val (.int x0), .val (.int x1), .val (.int x2), .val (.ref n0_0), .val (.int x4), .val (.int x5), .val (.int u0)] [(.int x5)])) (fun t k => ?_) ?_
  · show Steps p.tables e below (T0.setTop (mkF m 246 #[.val (.int x0), .val (.int x1), .val (.int x2), .val (.ref n0_0), .val (.int x4), .val (.int x5), .unset] [(.int u0)])) t
    refine XS.istore X0.here hx rfl (hb hby at_246) rfl (l' := #[.val (.int x0), .val (.int x1), .val (.int x2), .val (.ref n0_0), .val (.int x4), .val (.int x5), .val (.int u0)]) rfl ?_
    show Steps p.tables e below (T0.setTop (mkF m 248 #[.val (.int x0), .val (.int x1), .val (.int x2), .val (.ref n0_0), .val (.int x4), .val (.int x5), .val (.int u0)] [])) t
    refine XS.iload X0.here hx rfl (hb hby at_248) rfl ?_
    exact k
  refine iteE hr (fun hc1 hr => ?_) (fun hc1 hr => ?_)
  · refine Runs.via (T' := T0) (g' := (mkF m 262 #[.val (.int x0), .val (.int x1), .val (.int x2), .val (.ref n0_0), .val (.int x4), .val (.int x5), .val (.int u0)] [])) (fun t k => ?_) ?_
    · show Steps p.tables e below (T0.setTop (mkF m 250 #[.val (.int x0), .val (.int x1), .val (.int x2), .val (.ref n0_0), .val (.int x4), .val (.int x5), .val (.int u0)] [(.int x5)])) t
      exact XS.ifYes X0.here hx rfl (pc0 := 250) (pc' := 262) rfl (hb hby at_250) rfl ((if0 _ _).trans (teq hc1).1) (by decide) (by decide) k
    refine Runs.via (T' := T0) (g' := (mkF m 263 #[.val (.int x0), .val (.int x1), .val (.int x2), .val (.ref n0_0), .val (.int x4), .val (.int x5), .val (.int u0)] [(.int (0 : Int32))])) (fun t k => ?_) ?_
    · show Steps p.tables e below (T0.setTop (mkF m 262 #[.val (.int x0), .val (.int x1), .val (.int x2), .val (.ref n0_0), .val (.int x4), .val (.int x5), .val (.int u0)] [])) t
      refine XS.iconst X0.here hx rfl (hb hby at_262) ?_
      exact k
    obtain rfl := Option.some.inj hr
    exact own_retN X0 hx hlk (t := .boolean) hret (by simp) (hb hby at_263) (by show cells ≤ 1; omega) (by show slots ≤ 29; omega) ⟨rfl, N0⟩
  · refine Runs.via (T' := T0) (g' := (mkF m 253 #[.val (.int x0), .val (.int x1), .val (.int x2), .val (.ref n0_0), .val (.int x4), .val (.int x5), .val (.int u0)] [])) (fun t k => ?_) ?_
    · show Steps p.tables e below (T0.setTop (mkF m 250 #[.val (.int x0), .val (.int x1), .val (.int x2), .val (.ref n0_0), .val (.int x4), .val (.int x5), .val (.int u0)] [(.int x5)])) t
      exact XS.ifNo X0.here hx rfl (hb hby at_250) rfl ((if0 _ _).trans (feq hc1).1) k
    refine Runs.via (T' := T0) (g' := (mkF m 255 #[.val (.int x0), .val (.int x1), .val (.int x2), .val (.ref n0_0), .val (.int x4), .val (.int x5), .val (.int u0)] [(.int u0)])) (fun t k => ?_) ?_
    · show Steps p.tables e below (T0.setTop (mkF m 253 #[.val (.int x0), .val (.int x1), .val (.int x2), .val (.ref n0_0), .val (.int x4), .val (.int x5), .val (.int u0)] [])) t
      refine XS.iload X0.here hx rfl (hb hby at_253) rfl ?_
      exact k
    refine iteE hr (fun hc2 hr => ?_) (fun hc2 hr => ?_)
    · refine Runs.via (T' := T0) (g' := (mkF m 262 #[.val (.int x0), .val (.int x1), .val (.int x2), .val (.ref n0_0), .val (.int x4), .val (.int x5), .val (.int u0)] [])) (fun t k => ?_) ?_
      · show Steps p.tables e below (T0.setTop (mkF m 255 #[.val (.int x0), .val (.int x1), .val (.int x2), .val (.ref n0_0), .val (.int x4), .val (.int x5), .val (.int u0)] [(.int u0)])) t
        exact XS.ifYes X0.here hx rfl (pc0 := 255) (pc' := 262) rfl (hb hby at_255) rfl ((if0 _ _).trans (teq hc2).1) (by decide) (by decide) k
      refine Runs.via (T' := T0) (g' := (mkF m 263 #[.val (.int x0), .val (.int x1), .val (.int x2), .val (.ref n0_0), .val (.int x4), .val (.int x5), .val (.int u0)] [(.int (0 : Int32))])) (fun t k => ?_) ?_
      · show Steps p.tables e below (T0.setTop (mkF m 262 #[.val (.int x0), .val (.int x1), .val (.int x2), .val (.ref n0_0), .val (.int x4), .val (.int x5), .val (.int u0)] [])) t
        refine XS.iconst X0.here hx rfl (hb hby at_262) ?_
        exact k
      obtain rfl := Option.some.inj hr
      exact own_retN X0 hx hlk (t := .boolean) hret (by simp) (hb hby at_263) (by show cells ≤ 1; omega) (by show slots ≤ 29; omega) ⟨rfl, N0⟩
    · refine Runs.via (T' := T0) (g' := (mkF m 258 #[.val (.int x0), .val (.int x1), .val (.int x2), .val (.ref n0_0), .val (.int x4), .val (.int x5), .val (.int u0)] [])) (fun t k => ?_) ?_
      · show Steps p.tables e below (T0.setTop (mkF m 255 #[.val (.int x0), .val (.int x1), .val (.int x2), .val (.ref n0_0), .val (.int x4), .val (.int x5), .val (.int u0)] [(.int u0)])) t
        exact XS.ifNo X0.here hx rfl (hb hby at_255) rfl ((if0 _ _).trans (feq hc2).1) k
      refine Runs.via (T' := T0) (g' := (mkF m 263 #[.val (.int x0), .val (.int x1), .val (.int x2), .val (.ref n0_0), .val (.int x4), .val (.int x5), .val (.int u0)] [(.int (1 : Int32))])) (fun t k => ?_) ?_
      · show Steps p.tables e below (T0.setTop (mkF m 258 #[.val (.int x0), .val (.int x1), .val (.int x2), .val (.ref n0_0), .val (.int x4), .val (.int x5), .val (.int u0)] [])) t
        refine XS.iconst X0.here hx rfl (hb hby at_258) ?_
        show Steps p.tables e below (T0.setTop (mkF m 259 #[.val (.int x0), .val (.int x1), .val (.int x2), .val (.ref n0_0), .val (.int x4), .val (.int x5), .val (.int u0)] [(.int (1 : Int32))])) t
        refine XS.goto X0.here hx rfl (pc0 := 259) (pc' := 263) rfl (hb hby at_259) (by decide) (by decide) ?_
        exact k
      obtain rfl := Option.some.inj hr
      exact own_retN X0 hx hlk (t := .boolean) hret (by simp) (hb hby at_263) (by show cells ≤ 1; omega) (by show slots ≤ 29; omega) ⟨rfl, N0⟩
def g0_226 (x4 : Int32) (u0 : Int32) (q_n0_0 : List Int32) : Option (Int32) := (if (f1 x4) = (f3 x4) then (g0_246 u0 (1 : Int32) q_n0_0) else (g0_246 u0 (0 : Int32) q_n0_0))
set_option maxRecDepth 65536 in
set_option maxHeartbeats 4000000 in
theorem b0_226 {r : Int32} (C : Ctx p s m meth c Z a0 "com/example/onto3/onto3/rdf/TermScannerIsNameStartCharPinLaw" code 7 (some .boolean) "law") (X0 : Stand p l e room_1 s m args below meth c T0 locs cells slots) (e0 : T0.heap = h0) (N0 : Fr n0 locs) (hk : cells ≤ 1) (hn : slots ≤ 29) (Z1 : n0 ≤ h0.size) (n0_0 : Addr) (o0 : n0 ≤ n0_0) (q_n0_0 : List Int32) (x0 : Int32) (x1 : Int32) (x2 : Int32) (x4 : Int32) (u0 : Int32) (A_n0_0_0 : AI Z h0 n0_0 .int q_n0_0) (hr : g0_226 x4 u0 q_n0_0 = some r) :
    Runs p e below s (P0 n0 r) 1 29 T0 (mkF m 226 #[.val (.int x0), .val (.int x1), .val (.int x2), .val (.ref n0_0), .val (.int x4), .unset, .unset] [(.int u0)]) := by
  unfold g0_226 at hr
  have ⟨hx, hZ, hw, hby, hml, hown, hret, hlk, hnm⟩ := C
  refine Runs.via (T' := T0) (g' := (mkF m 230 #[.val (.int x0), .val (.int x1), .val (.int x2), .val (.ref n0_0), .val (.int x4), .val (.int u0), .unset] [(.int x4)])) (fun t k => ?_) ?_
  · show Steps p.tables e below (T0.setTop (mkF m 226 #[.val (.int x0), .val (.int x1), .val (.int x2), .val (.ref n0_0), .val (.int x4), .unset, .unset] [(.int u0)])) t
    refine XS.istore X0.here hx rfl (hb hby at_226) rfl (l' := #[.val (.int x0), .val (.int x1), .val (.int x2), .val (.ref n0_0), .val (.int x4), .val (.int u0), .unset]) rfl ?_
    show Steps p.tables e below (T0.setTop (mkF m 228 #[.val (.int x0), .val (.int x1), .val (.int x2), .val (.ref n0_0), .val (.int x4), .val (.int u0), .unset] [])) t
    refine XS.iload X0.here hx rfl (hb hby at_228) rfl ?_
    exact k
  obtain ⟨_, _, ⟨T1, L1, k1, n1⟩, -, X1, ⟨Lc1, hQ1, l1, y1, z1⟩, st1⟩ := Jvm.LawKit.callS X0 hx (y := (⟨"com/example/onto3/onto3/rdf/TermScanner", "isNameStartChar", "(I)Z"⟩ : MethodName)) hown (mvT hZ (hw _ (List.mem_of_getElem? (i := 9) rfl))) (mvT hZ (hw _ (List.mem_of_getElem? (i := 10) rfl))) (mvT hZ (hw _ (List.mem_of_getElem? (i := 11) rfl))) (mvT hZ (hw _ (List.mem_of_getElem? (i := 12) rfl))) (by decide) (backOf (W := 0) (rm1 l Z a0 hw [] x4 h0 n0) hZ (hw _ (List.mem_of_getElem? (i := 12) rfl)) (hw _ (List.mem_of_getElem? (i := 11) rfl)) (by decide) (by decide)) (g := (mkF m 230 #[.val (.int x0), .val (.int x1), .val (.int x2), .val (.ref n0_0), .val (.int x4), .val (.int u0), .unset] [(.int x4)])) rfl (by rw [hml]; rfl) (argsL := [(.int x4)]) (rest := []) (lenOf pd_0 rfl) rfl (by show 2 * 0 + _ ≤ _; exact Nat.le_of_eq rfl) (hb hby at_230) (fun _ _ => ⟨rfl, e0, (by show cells + 0 ≤ 16; omega), (by show slots + 0 ≤ 128; omega)⟩)
  dsimp only [Pt.U, Pt.locs, Pt.cells, Pt.slots] at X1 l1 y1 z1 st1 hQ1
  replace y1 := y1.symm; replace z1 := z1.symm; subst l1 y1 z1
  obtain ⟨rfl, N1q, e1⟩ := hQ1
  have N1 := Fr.app N0 N1q
  refine Runs.via (T' := T1) (g' := (mkF m 233 #[.val (.int x0), .val (.int x1), .val (.int x2), .val (.ref n0_0), .val (.int x4), .val (.int u0), .unset] [(.int (f1 x4))])) (fun t k => st1 _ k) ?_
  refine Runs.via (T' := T1) (g' := (mkF m 235 #[.val (.int x0), .val (.int x1), .val (.int x2), .val (.ref n0_0), .val (.int x4), .val (.int u0), .unset] [(.int x4), (.int (f1 x4))])) (fun t k => ?_) ?_
  · show Steps p.tables e below (T1.setTop (mkF m 233 #[.val (.int x0), .val (.int x1), .val (.int x2), .val (.ref n0_0), .val (.int x4), .val (.int u0), .unset] [(.int (f1 x4))])) t
    refine XS.iload X1.here hx rfl (hb hby at_233) rfl ?_
    exact k
  obtain ⟨_, _, ⟨T2, L2, k2, n2⟩, -, X2, ⟨Lc2, hQ2, l2, y2, z2⟩, st2⟩ := Jvm.LawKit.callS X1 hx (y := (⟨"com/example/onto3/onto3/rdf/TermScannerIsNameStartCharPinLaw", "reference", "(I)Z"⟩ : MethodName)) hown (mvT hZ (hw _ (List.mem_of_getElem? (i := 19) rfl))) (mvT hZ (hw _ (List.mem_of_getElem? (i := 20) rfl))) (mvT hZ (hw _ (List.mem_of_getElem? (i := 21) rfl))) (mvT hZ (hw _ (List.mem_of_getElem? (i := 22) rfl))) (by decide) (backOf (W := 1) (rm3 l Z a0 hw [] x4 h0 n0) hZ (hw _ (List.mem_of_getElem? (i := 22) rfl)) (hw _ (List.mem_of_getElem? (i := 21) rfl)) (by decide) (by decide)) (g := (mkF m 235 #[.val (.int x0), .val (.int x1), .val (.int x2), .val (.ref n0_0), .val (.int x4), .val (.int u0), .unset] [(.int x4), (.int (f1 x4))])) rfl (by rw [hml]; rfl) (argsL := [(.int x4)]) (rest := [(.int (f1 x4))]) (lenOf pd_0 rfl) rfl (by show 2 * 0 + _ ≤ _; exact Nat.le_of_eq rfl) (hb hby at_235) (fun _ _ => ⟨rfl, e1, (by show (cells + 0) + 0 ≤ 16; omega), (by show (slots + 0) + 0 ≤ 128; omega)⟩)
  dsimp only [Pt.U, Pt.locs, Pt.cells, Pt.slots] at X2 l2 y2 z2 st2 hQ2
  replace y2 := y2.symm; replace z2 := z2.symm; subst l2 y2 z2
  obtain ⟨rfl, N2q, e2⟩ := hQ2
  have N2 := Fr.app N1 N2q
  refine Runs.via (T' := T2) (g' := (mkF m 238 #[.val (.int x0), .val (.int x1), .val (.int x2), .val (.ref n0_0), .val (.int x4), .val (.int u0), .unset] [(.int (f3 x4)), (.int (f1 x4))])) (fun t k => st2 _ k) ?_
  refine iteE hr (fun hc3 hr => ?_) (fun hc3 hr => ?_)
  · refine Runs.via (T' := T2) (g' := (mkF m 241 #[.val (.int x0), .val (.int x1), .val (.int x2), .val (.ref n0_0), .val (.int x4), .val (.int u0), .unset] [])) (fun t k => ?_) ?_
    · show Steps p.tables e below (T2.setTop (mkF m 238 #[.val (.int x0), .val (.int x1), .val (.int x2), .val (.ref n0_0), .val (.int x4), .val (.int u0), .unset] [(.int (f3 x4)), (.int (f1 x4))])) t
      exact XS.icmpNo X2.here hx rfl (hb hby at_238) rfl (teq hc3).2 k
    refine Runs.via (T' := T2) (g' := (mkF m 246 #[.val (.int x0), .val (.int x1), .val (.int x2), .val (.ref n0_0), .val (.int x4), .val (.int u0), .unset] [(.int (1 : Int32))])) (fun t k => ?_) ?_
    · show Steps p.tables e below (T2.setTop (mkF m 241 #[.val (.int x0), .val (.int x1), .val (.int x2), .val (.ref n0_0), .val (.int x4), .val (.int u0), .unset] [])) t
      refine XS.iconst X2.here hx rfl (hb hby at_241) ?_
      show Steps p.tables e below (T2.setTop (mkF m 242 #[.val (.int x0), .val (.int x1), .val (.int x2), .val (.ref n0_0), .val (.int x4), .val (.int u0), .unset] [(.int (1 : Int32))])) t
      refine XS.goto X2.here hx rfl (pc0 := 242) (pc' := 246) rfl (hb hby at_242) (by decide) (by decide) ?_
      exact k
    exact b0_246 C X2 e2 N2 (by show ((cells + 0) + 0) ≤ 1; omega) (by show ((slots + 0) + 0) ≤ 29; omega) Z1 n0_0 (by omega) q_n0_0 x0 x1 x2 x4 u0 (1 : Int32) A_n0_0_0 hr
  · refine Runs.via (T' := T2) (g' := (mkF m 245 #[.val (.int x0), .val (.int x1), .val (.int x2), .val (.ref n0_0), .val (.int x4), .val (.int u0), .unset] [])) (fun t k => ?_) ?_
    · show Steps p.tables e below (T2.setTop (mkF m 238 #[.val (.int x0), .val (.int x1), .val (.int x2), .val (.ref n0_0), .val (.int x4), .val (.int u0), .unset] [(.int (f3 x4)), (.int (f1 x4))])) t
      exact XS.icmpYes X2.here hx rfl (pc0 := 238) (pc' := 245) rfl (hb hby at_238) rfl (feq hc3).2 (by decide) (by decide) k
    refine Runs.via (T' := T2) (g' := (mkF m 246 #[.val (.int x0), .val (.int x1), .val (.int x2), .val (.ref n0_0), .val (.int x4), .val (.int u0), .unset] [(.int (0 : Int32))])) (fun t k => ?_) ?_
    · show Steps p.tables e below (T2.setTop (mkF m 245 #[.val (.int x0), .val (.int x1), .val (.int x2), .val (.ref n0_0), .val (.int x4), .val (.int u0), .unset] [])) t
      refine XS.iconst X2.here hx rfl (hb hby at_245) ?_
      exact k
    exact b0_246 C X2 e2 N2 (by show ((cells + 0) + 0) ≤ 1; omega) (by show ((slots + 0) + 0) ≤ 29; omega) Z1 n0_0 (by omega) q_n0_0 x0 x1 x2 x4 u0 (0 : Int32) A_n0_0_0 hr
def g0_165 (x0 : Int32) (x1 : Int32) (x2 : Int32) (q_n0_0 : List Int32) : Option (Int32) := ((wrO q_n0_0 (25 : Int32) (65008 : Int32)).bind fun v1 => ((wrO v1 (26 : Int32) (65533 : Int32)).bind fun v2 => ((wrO v2 (27 : Int32) (65536 : Int32)).bind fun v3 => ((wrO v3 (28 : Int32) (983039 : Int32)).bind fun v4 => (if (lenO v4) = (0 : Int32) then none else ((rdO v4 ((x1 &&& (2147483647 : Int32)) - ((x1 &&& (2147483647 : Int32)) / (lenO v4)) * (lenO v4))).bind fun v6 => (letO ((v6 + ((x2 &&& (2147483647 : Int32)) - ((x2 &&& (2147483647 : Int32)) / (3 : Int32)) * (3 : Int32))) - (1 : Int32)) fun v7 => (if (f1 x0) = (f3 x0) then (g0_226 v7 (1 : Int32) v4) else (g0_226 v7 (0 : Int32) v4)))))))))
set_option maxRecDepth 65536 in
set_option maxHeartbeats 4000000 in
theorem b0_165 {r : Int32} (C : Ctx p s m meth c Z a0 "com/example/onto3/onto3/rdf/TermScannerIsNameStartCharPinLaw" code 7 (some .boolean) "law") (X0 : Stand p l e room_1 s m args below meth c T0 locs cells slots) (e0 : T0.heap = h0) (N0 : Fr n0 locs) (hk : cells ≤ 1) (hn : slots ≤ 29) (Z1 : n0 ≤ h0.size) (n0_0 : Addr) (o0 : n0 ≤ n0_0) (q_n0_0 : List Int32) (x0 : Int32) (x1 : Int32) (x2 : Int32) (A_n0_0_0 : AI Z h0 n0_0 .int q_n0_0) (hr : g0_165 x0 x1 x2 q_n0_0 = some r) :
    Runs p e below s (P0 n0 r) 1 29 T0 (mkF m 165 #[.val (.int x0), .val (.int x1), .val (.int x2), .unset, .unset, .unset, .unset] [(.ref n0_0)]) := by
  unfold g0_165 at hr
  have ⟨hx, hZ, hw, hby, hml, hown, hret, hlk, hnm⟩ := C
  refine Runs.via (T' := T0) (g' := (mkF m 170 #[.val (.int x0), .val (.int x1), .val (.int x2), .unset, .unset, .unset, .unset] [(.int (65008 : Int32)), (.int (25 : Int32)), (.ref n0_0), (.ref n0_0)])) (fun t k => ?_) ?_
  · show Steps p.tables e below (T0.setTop (mkF m 165 #[.val (.int x0), .val (.int x1), .val (.int x2), .unset, .unset, .unset, .unset] [(.ref n0_0)])) t
    refine XS.dup X0.here hx rfl (hb hby at_165) rfl rfl ?_
    show Steps p.tables e below (T0.setTop (mkF m 166 #[.val (.int x0), .val (.int x1), .val (.int x2), .unset, .unset, .unset, .unset] [(.ref n0_0), (.ref n0_0)])) t
    refine XS.bipush X0.here hx rfl (hb hby at_166) ?_
    show Steps p.tables e below (T0.setTop (mkF m 168 #[.val (.int x0), .val (.int x1), .val (.int x2), .unset, .unset, .unset, .unset] [(.int (25 : Int32)), (.ref n0_0), (.ref n0_0)])) t
    refine X0.ldcInt hx hown (mvT hZ (hw _ (List.mem_of_getElem? (i := 4) rfl))) (g := (mkF m 168 #[.val (.int x0), .val (.int x1), .val (.int x2), .unset, .unset, .unset, .unset] [(.int (25 : Int32)), (.ref n0_0), (.ref n0_0)])) rfl (hb hby at_168) _ ?_
    exact k
  refine bindE hr ?_; intro v1 hv1 hr
  obtain ⟨T1, h1, X1, e1, W1, A1, st1⟩ := soI X0 hx hZ e0 A_n0_0_0 hv1 (g := (mkF m 170 #[.val (.int x0), .val (.int x1), .val (.int x2), .unset, .unset, .unset, .unset] [(.int (65008 : Int32)), (.int (25 : Int32)), (.ref n0_0), (.ref n0_0)])) rfl rfl (hb hby at_170)
  have A_n0_0_1 : AI Z h1 n0_0 .int v1 := A1
  have N1 := Fr.snoc X1 N0 (by omega : n0 ≤ n0_0)
  have zz1 : n0 ≤ h1.size := Nat.le_trans Z1 (Keep.of_wr W1).1
  refine Runs.via (T' := T1) (g' := (mkF m 171 #[.val (.int x0), .val (.int x1), .val (.int x2), .unset, .unset, .unset, .unset] [(.ref n0_0)])) (fun t k => st1 _ k) ?_
  refine Runs.via (T' := T1) (g' := (mkF m 176 #[.val (.int x0), .val (.int x1), .val (.int x2), .unset, .unset, .unset, .unset] [(.int (65533 : Int32)), (.int (26 : Int32)), (.ref n0_0), (.ref n0_0)])) (fun t k => ?_) ?_
  · show Steps p.tables e below (T1.setTop (mkF m 171 #[.val (.int x0), .val (.int x1), .val (.int x2), .unset, .unset, .unset, .unset] [(.ref n0_0)])) t
    refine XS.dup X1.here hx rfl (hb hby at_171) rfl rfl ?_
    show Steps p.tables e below (T1.setTop (mkF m 172 #[.val (.int x0), .val (.int x1), .val (.int x2), .unset, .unset, .unset, .unset] [(.ref n0_0), (.ref n0_0)])) t
    refine XS.bipush X1.here hx rfl (hb hby at_172) ?_
    show Steps p.tables e below (T1.setTop (mkF m 174 #[.val (.int x0), .val (.int x1), .val (.int x2), .unset, .unset, .unset, .unset] [(.int (26 : Int32)), (.ref n0_0), (.ref n0_0)])) t
    refine X1.ldcInt hx hown (mvT hZ (hw _ (List.mem_of_getElem? (i := 5) rfl))) (g := (mkF m 174 #[.val (.int x0), .val (.int x1), .val (.int x2), .unset, .unset, .unset, .unset] [(.int (26 : Int32)), (.ref n0_0), (.ref n0_0)])) rfl (hb hby at_174) _ ?_
    exact k
  refine bindE hr ?_; intro v2 hv2 hr
  obtain ⟨T2, h2, X2, e2, W2, A2, st2⟩ := soI X1 hx hZ e1 A_n0_0_1 hv2 (g := (mkF m 176 #[.val (.int x0), .val (.int x1), .val (.int x2), .unset, .unset, .unset, .unset] [(.int (65533 : Int32)), (.int (26 : Int32)), (.ref n0_0), (.ref n0_0)])) rfl rfl (hb hby at_176)
  have A_n0_0_2 : AI Z h2 n0_0 .int v2 := A2
  have N2 := Fr.snoc X2 N1 (by omega : n0 ≤ n0_0)
  have zz2 : n0 ≤ h2.size := Nat.le_trans zz1 (Keep.of_wr W2).1
  refine Runs.via (T' := T2) (g' := (mkF m 177 #[.val (.int x0), .val (.int x1), .val (.int x2), .unset, .unset, .unset, .unset] [(.ref n0_0)])) (fun t k => st2 _ k) ?_
  refine Runs.via (T' := T2) (g' := (mkF m 182 #[.val (.int x0), .val (.int x1), .val (.int x2), .unset, .unset, .unset, .unset] [(.int (65536 : Int32)), (.int (27 : Int32)), (.ref n0_0), (.ref n0_0)])) (fun t k => ?_) ?_
  · show Steps p.tables e below (T2.setTop (mkF m 177 #[.val (.int x0), .val (.int x1), .val (.int x2), .unset, .unset, .unset, .unset] [(.ref n0_0)])) t
    refine XS.dup X2.here hx rfl (hb hby at_177) rfl rfl ?_
    show Steps p.tables e below (T2.setTop (mkF m 178 #[.val (.int x0), .val (.int x1), .val (.int x2), .unset, .unset, .unset, .unset] [(.ref n0_0), (.ref n0_0)])) t
    refine XS.bipush X2.here hx rfl (hb hby at_178) ?_
    show Steps p.tables e below (T2.setTop (mkF m 180 #[.val (.int x0), .val (.int x1), .val (.int x2), .unset, .unset, .unset, .unset] [(.int (27 : Int32)), (.ref n0_0), (.ref n0_0)])) t
    refine X2.ldcInt hx hown (mvT hZ (hw _ (List.mem_of_getElem? (i := 6) rfl))) (g := (mkF m 180 #[.val (.int x0), .val (.int x1), .val (.int x2), .unset, .unset, .unset, .unset] [(.int (27 : Int32)), (.ref n0_0), (.ref n0_0)])) rfl (hb hby at_180) _ ?_
    exact k
  refine bindE hr ?_; intro v3 hv3 hr
  obtain ⟨T3, h3, X3, e3, W3, A3, st3⟩ := soI X2 hx hZ e2 A_n0_0_2 hv3 (g := (mkF m 182 #[.val (.int x0), .val (.int x1), .val (.int x2), .unset, .unset, .unset, .unset] [(.int (65536 : Int32)), (.int (27 : Int32)), (.ref n0_0), (.ref n0_0)])) rfl rfl (hb hby at_182)
  have A_n0_0_3 : AI Z h3 n0_0 .int v3 := A3
  have N3 := Fr.snoc X3 N2 (by omega : n0 ≤ n0_0)
  have zz3 : n0 ≤ h3.size := Nat.le_trans zz2 (Keep.of_wr W3).1
  refine Runs.via (T' := T3) (g' := (mkF m 183 #[.val (.int x0), .val (.int x1), .val (.int x2), .unset, .unset, .unset, .unset] [(.ref n0_0)])) (fun t k => st3 _ k) ?_
  refine Runs.via (T' := T3) (g' := (mkF m 188 #[.val (.int x0), .val (.int x1), .val (.int x2), .unset, .unset, .unset, .unset] [(.int (983039 : Int32)), (.int (28 : Int32)), (.ref n0_0), (.ref n0_0)])) (fun t k => ?_) ?_
  · show Steps p.tables e below (T3.setTop (mkF m 183 #[.val (.int x0), .val (.int x1), .val (.int x2), .unset, .unset, .unset, .unset] [(.ref n0_0)])) t
    refine XS.dup X3.here hx rfl (hb hby at_183) rfl rfl ?_
    show Steps p.tables e below (T3.setTop (mkF m 184 #[.val (.int x0), .val (.int x1), .val (.int x2), .unset, .unset, .unset, .unset] [(.ref n0_0), (.ref n0_0)])) t
    refine XS.bipush X3.here hx rfl (hb hby at_184) ?_
    show Steps p.tables e below (T3.setTop (mkF m 186 #[.val (.int x0), .val (.int x1), .val (.int x2), .unset, .unset, .unset, .unset] [(.int (28 : Int32)), (.ref n0_0), (.ref n0_0)])) t
    refine X3.ldcInt hx hown (mvT hZ (hw _ (List.mem_of_getElem? (i := 7) rfl))) (g := (mkF m 186 #[.val (.int x0), .val (.int x1), .val (.int x2), .unset, .unset, .unset, .unset] [(.int (28 : Int32)), (.ref n0_0), (.ref n0_0)])) rfl (hb hby at_186) _ ?_
    exact k
  refine bindE hr ?_; intro v4 hv4 hr
  obtain ⟨T4, h4, X4, e4, W4, A4, st4⟩ := soI X3 hx hZ e3 A_n0_0_3 hv4 (g := (mkF m 188 #[.val (.int x0), .val (.int x1), .val (.int x2), .unset, .unset, .unset, .unset] [(.int (983039 : Int32)), (.int (28 : Int32)), (.ref n0_0), (.ref n0_0)])) rfl rfl (hb hby at_188)
  have A_n0_0_4 : AI Z h4 n0_0 .int v4 := A4
  have N4 := Fr.snoc X4 N3 (by omega : n0 ≤ n0_0)
  have zz4 : n0 ≤ h4.size := Nat.le_trans zz3 (Keep.of_wr W4).1
  refine Runs.via (T' := T4) (g' := (mkF m 189 #[.val (.int x0), .val (.int x1), .val (.int x2), .unset, .unset, .unset, .unset] [(.ref n0_0)])) (fun t k => st4 _ k) ?_
  refine Runs.via (T' := T4) (g' := (mkF m 197 #[.val (.int x0), .val (.int x1), .val (.int x2), .val (.ref n0_0), .unset, .unset, .unset] [(.int (lenO v4)), (.int (x1 &&& (2147483647 : Int32))), (.ref n0_0)])) (fun t k => ?_) ?_
  · show Steps p.tables e below (T4.setTop (mkF m 189 #[.val (.int x0), .val (.int x1), .val (.int x2), .unset, .unset, .unset, .unset] [(.ref n0_0)])) t
    refine XS.astoreN X4.here hx rfl (hb hby at_189) rfl rfl (l' := #[.val (.int x0), .val (.int x1), .val (.int x2), .val (.ref n0_0), .unset, .unset, .unset]) rfl ?_
    show Steps p.tables e below (T4.setTop (mkF m 190 #[.val (.int x0), .val (.int x1), .val (.int x2), .val (.ref n0_0), .unset, .unset, .unset] [])) t
    refine XS.aloadN X4.here hx rfl (hb hby at_190) rfl rfl ?_
    show Steps p.tables e below (T4.setTop (mkF m 191 #[.val (.int x0), .val (.int x1), .val (.int x2), .val (.ref n0_0), .unset, .unset, .unset] [(.ref n0_0)])) t
    refine XS.iloadN X4.here hx rfl (hb hby at_191) rfl ?_
    show Steps p.tables e below (T4.setTop (mkF m 192 #[.val (.int x0), .val (.int x1), .val (.int x2), .val (.ref n0_0), .unset, .unset, .unset] [(.int x1), (.ref n0_0)])) t
    refine X4.ldcInt hx hown (mvT hZ (hw _ (List.mem_of_getElem? (i := 8) rfl))) (g := (mkF m 192 #[.val (.int x0), .val (.int x1), .val (.int x2), .val (.ref n0_0), .unset, .unset, .unset] [(.int x1), (.ref n0_0)])) rfl (hb hby at_192) _ ?_
    show Steps p.tables e below (T4.setTop (mkF m 194 #[.val (.int x0), .val (.int x1), .val (.int x2), .val (.ref n0_0), .unset, .unset, .unset] [(.int (2147483647 : Int32)), (.int x1), (.ref n0_0)])) t
    refine XS.iand X4.here hx rfl (hb hby at_194) rfl ?_
    show Steps p.tables e below (T4.setTop (mkF m 195 #[.val (.int x0), .val (.int x1), .val (.int x2), .val (.ref n0_0), .unset, .unset, .unset] [(.int (x1 &&& (2147483647 : Int32))), (.ref n0_0)])) t
    refine XS.aloadN X4.here hx rfl (hb hby at_195) rfl rfl ?_
    show Steps p.tables e below (T4.setTop (mkF m 196 #[.val (.int x0), .val (.int x1), .val (.int x2), .val (.ref n0_0), .unset, .unset, .unset] [(.ref n0_0), (.int (x1 &&& (2147483647 : Int32))), (.ref n0_0)])) t
    refine lenAI X4 hx hZ e4 A_n0_0_4 rfl (g := (mkF m 196 #[.val (.int x0), .val (.int x1), .val (.int x2), .val (.ref n0_0), .unset, .unset, .unset] [(.ref n0_0), (.int (x1 &&& (2147483647 : Int32))), (.ref n0_0)])) rfl (hb hby at_196) _ ?_
    exact k
  refine iteE hr (fun hz5 hr => nomatch hr) (fun hz5 hr => ?_)
  refine Runs.via (T' := T4) (g' := (mkF m 198 #[.val (.int x0), .val (.int x1), .val (.int x2), .val (.ref n0_0), .unset, .unset, .unset] [(.int ((x1 &&& (2147483647 : Int32)) - ((x1 &&& (2147483647 : Int32)) / (lenO v4)) * (lenO v4))), (.ref n0_0)])) (fun t k => ?_) ?_
  · show Steps p.tables e below (T4.setTop (mkF m 197 #[.val (.int x0), .val (.int x1), .val (.int x2), .val (.ref n0_0), .unset, .unset, .unset] [(.int (lenO v4)), (.int (x1 &&& (2147483647 : Int32))), (.ref n0_0)])) t
    refine XS.irem X4.here hx rfl (hb hby at_197) rfl hz5 ?_
    exact k
  refine bindE hr ?_; intro v6 hv6 hr
  refine Runs.via (T' := T4) (g' := (mkF m 199 #[.val (.int x0), .val (.int x1), .val (.int x2), .val (.ref n0_0), .unset, .unset, .unset] [(.int v6)])) (fun t k => ldI X4 hx hZ e4 A_n0_0_4 hv6 (g := (mkF m 198 #[.val (.int x0), .val (.int x1), .val (.int x2), .val (.ref n0_0), .unset, .unset, .unset] [(.int ((x1 &&& (2147483647 : Int32)) - ((x1 &&& (2147483647 : Int32)) / (lenO v4)) * (lenO v4))), (.ref n0_0)])) rfl rfl (hb hby at_198) _ k) ?_
  refine Runs.via (T' := T4) (g' := (mkF m 208 #[.val (.int x0), .val (.int x1), .val (.int x2), .val (.ref n0_0), .unset, .unset, .unset] [(.int ((v6 + ((x2 &&& (2147483647 : Int32)) - ((x2 &&& (2147483647 : Int32)) / (3 : Int32)) * (3 : Int32))) - (1 : Int32)))])) (fun t k => ?_) ?_
  · show Steps p.tables e below (T4.setTop (mkF m 199 #[.val (.int x0), .val (.int x1), .val (.int x2), .val (.ref n0_0), .unset, .unset, .unset] [(.int v6)])) t
    refine XS.iloadN X4.here hx rfl (hb hby at_199) rfl ?_
    show Steps p.tables e below (T4.setTop (mkF m 200 #[.val (.int x0), .val (.int x1), .val (.int x2), .val (.ref n0_0), .unset, .unset, .unset] [(.int x2), (.int v6)])) t
    refine X4.ldcInt hx hown (mvT hZ (hw _ (List.mem_of_getElem? (i := 8) rfl))) (g := (mkF m 200 #[.val (.int x0), .val (.int x1), .val (.int x2), .val (.ref n0_0), .unset, .unset, .unset] [(.int x2), (.int v6)])) rfl (hb hby at_200) _ ?_
    show Steps p.tables e below (T4.setTop (mkF m 202 #[.val (.int x0), .val (.int x1), .val (.int x2), .val (.ref n0_0), .unset, .unset, .unset] [(.int (2147483647 : Int32)), (.int x2), (.int v6)])) t
    refine XS.iand X4.here hx rfl (hb hby at_202) rfl ?_
    show Steps p.tables e below (T4.setTop (mkF m 203 #[.val (.int x0), .val (.int x1), .val (.int x2), .val (.ref n0_0), .unset, .unset, .unset] [(.int (x2 &&& (2147483647 : Int32))), (.int v6)])) t
    refine XS.iconst X4.here hx rfl (hb hby at_203) ?_
    show Steps p.tables e below (T4.setTop (mkF m 204 #[.val (.int x0), .val (.int x1), .val (.int x2), .val (.ref n0_0), .unset, .unset, .unset] [(.int (3 : Int32)), (.int (x2 &&& (2147483647 : Int32))), (.int v6)])) t
    refine XS.irem X4.here hx rfl (hb hby at_204) rfl (by decide) ?_
    show Steps p.tables e below (T4.setTop (mkF m 205 #[.val (.int x0), .val (.int x1), .val (.int x2), .val (.ref n0_0), .unset, .unset, .unset] [(.int ((x2 &&& (2147483647 : Int32)) - ((x2 &&& (2147483647 : Int32)) / (3 : Int32)) * (3 : Int32))), (.int v6)])) t
    refine XS.iadd X4.here hx rfl (hb hby at_205) rfl ?_
    show Steps p.tables e below (T4.setTop (mkF m 206 #[.val (.int x0), .val (.int x1), .val (.int x2), .val (.ref n0_0), .unset, .unset, .unset] [(.int (v6 + ((x2 &&& (2147483647 : Int32)) - ((x2 &&& (2147483647 : Int32)) / (3 : Int32)) * (3 : Int32))))])) t
    refine XS.iconst X4.here hx rfl (hb hby at_206) ?_
    show Steps p.tables e below (T4.setTop (mkF m 207 #[.val (.int x0), .val (.int x1), .val (.int x2), .val (.ref n0_0), .unset, .unset, .unset] [(.int (1 : Int32)), (.int (v6 + ((x2 &&& (2147483647 : Int32)) - ((x2 &&& (2147483647 : Int32)) / (3 : Int32)) * (3 : Int32))))])) t
    refine XS.isub X4.here hx rfl (hb hby at_207) rfl ?_
    exact k
  refine letE hr ?_; intro v7 hv7 hr
  rw [← hv7]
  refine Runs.via (T' := T4) (g' := (mkF m 211 #[.val (.int x0), .val (.int x1), .val (.int x2), .val (.ref n0_0), .val (.int v7), .unset, .unset] [(.int x0)])) (fun t k => ?_) ?_
  · show Steps p.tables e below (T4.setTop (mkF m 208 #[.val (.int x0), .val (.int x1), .val (.int x2), .val (.ref n0_0), .unset, .unset, .unset] [(.int v7)])) t
    refine XS.istore X4.here hx rfl (hb hby at_208) rfl (l' := #[.val (.int x0), .val (.int x1), .val (.int x2), .val (.ref n0_0), .val (.int v7), .unset, .unset]) rfl ?_
    show Steps p.tables e below (T4.setTop (mkF m 210 #[.val (.int x0), .val (.int x1), .val (.int x2), .val (.ref n0_0), .val (.int v7), .unset, .unset] [])) t
    refine XS.iloadN X4.here hx rfl (hb hby at_210) rfl ?_
    exact k
  obtain ⟨_, _, ⟨T8, L8, k8, n8⟩, -, X8, ⟨Lc8, hQ8, l8, y8, z8⟩, st8⟩ := Jvm.LawKit.callS X4 hx (y := (⟨"com/example/onto3/onto3/rdf/TermScanner", "isNameStartChar", "(I)Z"⟩ : MethodName)) hown (mvT hZ (hw _ (List.mem_of_getElem? (i := 9) rfl))) (mvT hZ (hw _ (List.mem_of_getElem? (i := 10) rfl))) (mvT hZ (hw _ (List.mem_of_getElem? (i := 11) rfl))) (mvT hZ (hw _ (List.mem_of_getElem? (i := 12) rfl))) (by decide) (backOf (W := 0) (rm1 l Z a0 hw [] x0 h4 n0) hZ (hw _ (List.mem_of_getElem? (i := 12) rfl)) (hw _ (List.mem_of_getElem? (i := 11) rfl)) (by decide) (by decide)) (g := (mkF m 211 #[.val (.int x0), .val (.int x1), .val (.int x2), .val (.ref n0_0), .val (.int v7), .unset, .unset] [(.int x0)])) rfl (by rw [hml]; rfl) (argsL := [(.int x0)]) (rest := []) (lenOf pd_0 rfl) rfl (by show 2 * 0 + _ ≤ _; exact Nat.le_of_eq rfl) (hb hby at_211) (fun _ _ => ⟨rfl, e4, (by show cells + 0 ≤ 16; omega), (by show slots + 0 ≤ 128; omega)⟩)
  dsimp only [Pt.U, Pt.locs, Pt.cells, Pt.slots] at X8 l8 y8 z8 st8 hQ8
  replace y8 := y8.symm; replace z8 := z8.symm; subst l8 y8 z8
  obtain ⟨rfl, N8q, e8⟩ := hQ8
  have N8 := Fr.app N4 N8q
  refine Runs.via (T' := T8) (g' := (mkF m 214 #[.val (.int x0), .val (.int x1), .val (.int x2), .val (.ref n0_0), .val (.int v7), .unset, .unset] [(.int (f1 x0))])) (fun t k => st8 _ k) ?_
  refine Runs.via (T' := T8) (g' := (mkF m 215 #[.val (.int x0), .val (.int x1), .val (.int x2), .val (.ref n0_0), .val (.int v7), .unset, .unset] [(.int x0), (.int (f1 x0))])) (fun t k => ?_) ?_
  · show Steps p.tables e below (T8.setTop (mkF m 214 #[.val (.int x0), .val (.int x1), .val (.int x2), .val (.ref n0_0), .val (.int v7), .unset, .unset] [(.int (f1 x0))])) t
    refine XS.iloadN X8.here hx rfl (hb hby at_214) rfl ?_
    exact k
  obtain ⟨_, _, ⟨T9, L9, k9, n9⟩, -, X9, ⟨Lc9, hQ9, l9, y9, z9⟩, st9⟩ := Jvm.LawKit.callS X8 hx (y := (⟨"com/example/onto3/onto3/rdf/TermScannerIsNameStartCharPinLaw", "reference", "(I)Z"⟩ : MethodName)) hown (mvT hZ (hw _ (List.mem_of_getElem? (i := 19) rfl))) (mvT hZ (hw _ (List.mem_of_getElem? (i := 20) rfl))) (mvT hZ (hw _ (List.mem_of_getElem? (i := 21) rfl))) (mvT hZ (hw _ (List.mem_of_getElem? (i := 22) rfl))) (by decide) (backOf (W := 1) (rm3 l Z a0 hw [] x0 h4 n0) hZ (hw _ (List.mem_of_getElem? (i := 22) rfl)) (hw _ (List.mem_of_getElem? (i := 21) rfl)) (by decide) (by decide)) (g := (mkF m 215 #[.val (.int x0), .val (.int x1), .val (.int x2), .val (.ref n0_0), .val (.int v7), .unset, .unset] [(.int x0), (.int (f1 x0))])) rfl (by rw [hml]; rfl) (argsL := [(.int x0)]) (rest := [(.int (f1 x0))]) (lenOf pd_0 rfl) rfl (by show 2 * 0 + _ ≤ _; exact Nat.le_of_eq rfl) (hb hby at_215) (fun _ _ => ⟨rfl, e8, (by show (cells + 0) + 0 ≤ 16; omega), (by show (slots + 0) + 0 ≤ 128; omega)⟩)
  dsimp only [Pt.U, Pt.locs, Pt.cells, Pt.slots] at X9 l9 y9 z9 st9 hQ9
  replace y9 := y9.symm; replace z9 := z9.symm; subst l9 y9 z9
  obtain ⟨rfl, N9q, e9⟩ := hQ9
  have N9 := Fr.app N8 N9q
  refine Runs.via (T' := T9) (g' := (mkF m 218 #[.val (.int x0), .val (.int x1), .val (.int x2), .val (.ref n0_0), .val (.int v7), .unset, .unset] [(.int (f3 x0)), (.int (f1 x0))])) (fun t k => st9 _ k) ?_
  refine iteE hr (fun hc10 hr => ?_) (fun hc10 hr => ?_)
  · refine Runs.via (T' := T9) (g' := (mkF m 221 #[.val (.int x0), .val (.int x1), .val (.int x2), .val (.ref n0_0), .val (.int v7), .unset, .unset] [])) (fun t k => ?_) ?_
    · show Steps p.tables e below (T9.setTop (mkF m 218 #[.val (.int x0), .val (.int x1), .val (.int x2), .val (.ref n0_0), .val (.int v7), .unset, .unset] [(.int (f3 x0)), (.int (f1 x0))])) t
      exact XS.icmpNo X9.here hx rfl (hb hby at_218) rfl (teq hc10).2 k
    refine Runs.via (T' := T9) (g' := (mkF m 226 #[.val (.int x0), .val (.int x1), .val (.int x2), .val (.ref n0_0), .val (.int v7), .unset, .unset] [(.int (1 : Int32))])) (fun t k => ?_) ?_
    · show Steps p.tables e below (T9.setTop (mkF m 221 #[.val (.int x0), .val (.int x1), .val (.int x2), .val (.ref n0_0), .val (.int v7), .unset, .unset] [])) t
      refine XS.iconst X9.here hx rfl (hb hby at_221) ?_
      show Steps p.tables e below (T9.setTop (mkF m 222 #[.val (.int x0), .val (.int x1), .val (.int x2), .val (.ref n0_0), .val (.int v7), .unset, .unset] [(.int (1 : Int32))])) t
      refine XS.goto X9.here hx rfl (pc0 := 222) (pc' := 226) rfl (hb hby at_222) (by decide) (by decide) ?_
      exact k
    exact b0_226 C X9 e9 N9 (by show ((cells + 0) + 0) ≤ 1; omega) (by show ((slots + 0) + 0) ≤ 29; omega) zz4 n0_0 (by omega) v4 x0 x1 x2 v7 (1 : Int32) A_n0_0_4 hr
  · refine Runs.via (T' := T9) (g' := (mkF m 225 #[.val (.int x0), .val (.int x1), .val (.int x2), .val (.ref n0_0), .val (.int v7), .unset, .unset] [])) (fun t k => ?_) ?_
    · show Steps p.tables e below (T9.setTop (mkF m 218 #[.val (.int x0), .val (.int x1), .val (.int x2), .val (.ref n0_0), .val (.int v7), .unset, .unset] [(.int (f3 x0)), (.int (f1 x0))])) t
      exact XS.icmpYes X9.here hx rfl (pc0 := 218) (pc' := 225) rfl (hb hby at_218) rfl (feq hc10).2 (by decide) (by decide) k
    refine Runs.via (T' := T9) (g' := (mkF m 226 #[.val (.int x0), .val (.int x1), .val (.int x2), .val (.ref n0_0), .val (.int v7), .unset, .unset] [(.int (0 : Int32))])) (fun t k => ?_) ?_
    · show Steps p.tables e below (T9.setTop (mkF m 225 #[.val (.int x0), .val (.int x1), .val (.int x2), .val (.ref n0_0), .val (.int v7), .unset, .unset] [])) t
      refine XS.iconst X9.here hx rfl (hb hby at_225) ?_
      exact k
    exact b0_226 C X9 e9 N9 (by show ((cells + 0) + 0) ≤ 1; omega) (by show ((slots + 0) + 0) ≤ 29; omega) zz4 n0_0 (by omega) v4 x0 x1 x2 v7 (0 : Int32) A_n0_0_4 hr
def g0_133 (x0 : Int32) (x1 : Int32) (x2 : Int32) (q_n0_0 : List Int32) : Option (Int32) := ((wrO q_n0_0 (20 : Int32) (12271 : Int32)).bind fun v1 => ((wrO v1 (21 : Int32) (12289 : Int32)).bind fun v2 => ((wrO v2 (22 : Int32) (55295 : Int32)).bind fun v3 => ((wrO v3 (23 : Int32) (63744 : Int32)).bind fun v4 => ((wrO v4 (24 : Int32) (64975 : Int32)).bind fun v5 => (g0_165 x0 x1 x2 v5))))))
set_option maxRecDepth 65536 in
set_option maxHeartbeats 4000000 in
theorem b0_133 {r : Int32} (C : Ctx p s m meth c Z a0 "com/example/onto3/onto3/rdf/TermScannerIsNameStartCharPinLaw" code 7 (some .boolean) "law") (X0 : Stand p l e room_1 s m args below meth c T0 locs cells slots) (e0 : T0.heap = h0) (N0 : Fr n0 locs) (hk : cells ≤ 1) (hn : slots ≤ 29) (Z1 : n0 ≤ h0.size) (n0_0 : Addr) (o0 : n0 ≤ n0_0) (q_n0_0 : List Int32) (x0 : Int32) (x1 : Int32) (x2 : Int32) (A_n0_0_0 : AI Z h0 n0_0 .int q_n0_0) (hr : g0_133 x0 x1 x2 q_n0_0 = some r) :
    Runs p e below s (P0 n0 r) 1 29 T0 (mkF m 133 #[.val (.int x0), .val (.int x1), .val (.int x2), .unset, .unset, .unset, .unset] [(.ref n0_0)]) := by
  unfold g0_133 at hr
  have ⟨hx, hZ, hw, hby, hml, hown, hret, hlk, hnm⟩ := C
  refine Runs.via (T' := T0) (g' := (mkF m 139 #[.val (.int x0), .val (.int x1), .val (.int x2), .unset, .unset, .unset, .unset] [(.int (12271 : Int32)), (.int (20 : Int32)), (.ref n0_0), (.ref n0_0)])) (fun t k => ?_) ?_
  · show Steps p.tables e below (T0.setTop (mkF m 133 #[.val (.int x0), .val (.int x1), .val (.int x2), .unset, .unset, .unset, .unset] [(.ref n0_0)])) t
    refine XS.dup X0.here hx rfl (hb hby at_133) rfl rfl ?_
    show Steps p.tables e below (T0.setTop (mkF m 134 #[.val (.int x0), .val (.int x1), .val (.int x2), .unset, .unset, .unset, .unset] [(.ref n0_0), (.ref n0_0)])) t
    refine XS.bipush X0.here hx rfl (hb hby at_134) ?_
    show Steps p.tables e below (T0.setTop (mkF m 136 #[.val (.int x0), .val (.int x1), .val (.int x2), .unset, .unset, .unset, .unset] [(.int (20 : Int32)), (.ref n0_0), (.ref n0_0)])) t
    refine XS.sipush X0.here hx rfl (hb hby at_136) ?_
    exact k
  refine bindE hr ?_; intro v1 hv1 hr
  obtain ⟨T1, h1, X1, e1, W1, A1, st1⟩ := soI X0 hx hZ e0 A_n0_0_0 hv1 (g := (mkF m 139 #[.val (.int x0), .val (.int x1), .val (.int x2), .unset, .unset, .unset, .unset] [(.int (12271 : Int32)), (.int (20 : Int32)), (.ref n0_0), (.ref n0_0)])) rfl rfl (hb hby at_139)
  have A_n0_0_1 : AI Z h1 n0_0 .int v1 := A1
  have N1 := Fr.snoc X1 N0 (by omega : n0 ≤ n0_0)
  have zz1 : n0 ≤ h1.size := Nat.le_trans Z1 (Keep.of_wr W1).1
  refine Runs.via (T' := T1) (g' := (mkF m 140 #[.val (.int x0), .val (.int x1), .val (.int x2), .unset, .unset, .unset, .unset] [(.ref n0_0)])) (fun t k => st1 _ k) ?_
  refine Runs.via (T' := T1) (g' := (mkF m 146 #[.val (.int x0), .val (.int x1), .val (.int x2), .unset, .unset, .unset, .unset] [(.int (12289 : Int32)), (.int (21 : Int32)), (.ref n0_0), (.ref n0_0)])) (fun t k => ?_) ?_
  · show Steps p.tables e below (T1.setTop (mkF m 140 #[.val (.int x0), .val (.int x1), .val (.int x2), .unset, .unset, .unset, .unset] [(.ref n0_0)])) t
    refine XS.dup X1.here hx rfl (hb hby at_140) rfl rfl ?_
    show Steps p.tables e below (T1.setTop (mkF m 141 #[.val (.int x0), .val (.int x1), .val (.int x2), .unset, .unset, .unset, .unset] [(.ref n0_0), (.ref n0_0)])) t
    refine XS.bipush X1.here hx rfl (hb hby at_141) ?_
    show Steps p.tables e below (T1.setTop (mkF m 143 #[.val (.int x0), .val (.int x1), .val (.int x2), .unset, .unset, .unset, .unset] [(.int (21 : Int32)), (.ref n0_0), (.ref n0_0)])) t
    refine XS.sipush X1.here hx rfl (hb hby at_143) ?_
    exact k
  refine bindE hr ?_; intro v2 hv2 hr
  obtain ⟨T2, h2, X2, e2, W2, A2, st2⟩ := soI X1 hx hZ e1 A_n0_0_1 hv2 (g := (mkF m 146 #[.val (.int x0), .val (.int x1), .val (.int x2), .unset, .unset, .unset, .unset] [(.int (12289 : Int32)), (.int (21 : Int32)), (.ref n0_0), (.ref n0_0)])) rfl rfl (hb hby at_146)
  have A_n0_0_2 : AI Z h2 n0_0 .int v2 := A2
  have N2 := Fr.snoc X2 N1 (by omega : n0 ≤ n0_0)
  have zz2 : n0 ≤ h2.size := Nat.le_trans zz1 (Keep.of_wr W2).1
  refine Runs.via (T' := T2) (g' := (mkF m 147 #[.val (.int x0), .val (.int x1), .val (.int x2), .unset, .unset, .unset, .unset] [(.ref n0_0)])) (fun t k => st2 _ k) ?_
  refine Runs.via (T' := T2) (g' := (mkF m 152 #[.val (.int x0), .val (.int x1), .val (.int x2), .unset, .unset, .unset, .unset] [(.int (55295 : Int32)), (.int (22 : Int32)), (.ref n0_0), (.ref n0_0)])) (fun t k => ?_) ?_
  · show Steps p.tables e below (T2.setTop (mkF m 147 #[.val (.int x0), .val (.int x1), .val (.int x2), .unset, .unset, .unset, .unset] [(.ref n0_0)])) t
    refine XS.dup X2.here hx rfl (hb hby at_147) rfl rfl ?_
    show Steps p.tables e below (T2.setTop (mkF m 148 #[.val (.int x0), .val (.int x1), .val (.int x2), .unset, .unset, .unset, .unset] [(.ref n0_0), (.ref n0_0)])) t
    refine XS.bipush X2.here hx rfl (hb hby at_148) ?_
    show Steps p.tables e below (T2.setTop (mkF m 150 #[.val (.int x0), .val (.int x1), .val (.int x2), .unset, .unset, .unset, .unset] [(.int (22 : Int32)), (.ref n0_0), (.ref n0_0)])) t
    refine X2.ldcInt hx hown (mvT hZ (hw _ (List.mem_of_getElem? (i := 1) rfl))) (g := (mkF m 150 #[.val (.int x0), .val (.int x1), .val (.int x2), .unset, .unset, .unset, .unset] [(.int (22 : Int32)), (.ref n0_0), (.ref n0_0)])) rfl (hb hby at_150) _ ?_
    exact k
  refine bindE hr ?_; intro v3 hv3 hr
  obtain ⟨T3, h3, X3, e3, W3, A3, st3⟩ := soI X2 hx hZ e2 A_n0_0_2 hv3 (g := (mkF m 152 #[.val (.int x0), .val (.int x1), .val (.int x2), .unset, .unset, .unset, .unset] [(.int (55295 : Int32)), (.int (22 : Int32)), (.ref n0_0), (.ref n0_0)])) rfl rfl (hb hby at_152)
  have A_n0_0_3 : AI Z h3 n0_0 .int v3 := A3
  have N3 := Fr.snoc X3 N2 (by omega : n0 ≤ n0_0)
  have zz3 : n0 ≤ h3.size := Nat.le_trans zz2 (Keep.of_wr W3).1
  refine Runs.via (T' := T3) (g' := (mkF m 153 #[.val (.int x0), .val (.int x1), .val (.int x2), .unset, .unset, .unset, .unset] [(.ref n0_0)])) (fun t k => st3 _ k) ?_
  refine Runs.via (T' := T3) (g' := (mkF m 158 #[.val (.int x0), .val (.int x1), .val (.int x2), .unset, .unset, .unset, .unset] [(.int (63744 : Int32)), (.int (23 : Int32)), (.ref n0_0), (.ref n0_0)])) (fun t k => ?_) ?_
  · show Steps p.tables e below (T3.setTop (mkF m 153 #[.val (.int x0), .val (.int x1), .val (.int x2), .unset, .unset, .unset, .unset] [(.ref n0_0)])) t
    refine XS.dup X3.here hx rfl (hb hby at_153) rfl rfl ?_
    show Steps p.tables e below (T3.setTop (mkF m 154 #[.val (.int x0), .val (.int x1), .val (.int x2), .unset, .unset, .unset, .unset] [(.ref n0_0), (.ref n0_0)])) t
    refine XS.bipush X3.here hx rfl (hb hby at_154) ?_
    show Steps p.tables e below (T3.setTop (mkF m 156 #[.val (.int x0), .val (.int x1), .val (.int x2), .unset, .unset, .unset, .unset] [(.int (23 : Int32)), (.ref n0_0), (.ref n0_0)])) t
    refine X3.ldcInt hx hown (mvT hZ (hw _ (List.mem_of_getElem? (i := 2) rfl))) (g := (mkF m 156 #[.val (.int x0), .val (.int x1), .val (.int x2), .unset, .unset, .unset, .unset] [(.int (23 : Int32)), (.ref n0_0), (.ref n0_0)])) rfl (hb hby at_156) _ ?_
    exact k
  refine bindE hr ?_; intro v4 hv4 hr
  obtain ⟨T4, h4, X4, e4, W4, A4, st4⟩ := soI X3 hx hZ e3 A_n0_0_3 hv4 (g := (mkF m 158 #[.val (.int x0), .val (.int x1), .val (.int x2), .unset, .unset, .unset, .unset] [(.int (63744 : Int32)), (.int (23 : Int32)), (.ref n0_0), (.ref n0_0)])) rfl rfl (hb hby at_158)
  have A_n0_0_4 : AI Z h4 n0_0 .int v4 := A4
  have N4 := Fr.snoc X4 N3 (by omega : n0 ≤ n0_0)
  have zz4 : n0 ≤ h4.size := Nat.le_trans zz3 (Keep.of_wr W4).1
  refine Runs.via (T' := T4) (g' := (mkF m 159 #[.val (.int x0), .val (.int x1), .val (.int x2), .unset, .unset, .unset, .unset] [(.ref n0_0)])) (fun t k => st4 _ k) ?_
  refine Runs.via (T' := T4) (g' := (mkF m 164 #[.val (.int x0), .val (.int x1), .val (.int x2), .unset, .unset, .unset, .unset] [(.int (64975 : Int32)), (.int (24 : Int32)), (.ref n0_0), (.ref n0_0)])) (fun t k => ?_) ?_
  · show Steps p.tables e below (T4.setTop (mkF m 159 #[.val (.int x0), .val (.int x1), .val (.int x2), .unset, .unset, .unset, .unset] [(.ref n0_0)])) t
    refine XS.dup X4.here hx rfl (hb hby at_159) rfl rfl ?_
    show Steps p.tables e below (T4.setTop (mkF m 160 #[.val (.int x0), .val (.int x1), .val (.int x2), .unset, .unset, .unset, .unset] [(.ref n0_0), (.ref n0_0)])) t
    refine XS.bipush X4.here hx rfl (hb hby at_160) ?_
    show Steps p.tables e below (T4.setTop (mkF m 162 #[.val (.int x0), .val (.int x1), .val (.int x2), .unset, .unset, .unset, .unset] [(.int (24 : Int32)), (.ref n0_0), (.ref n0_0)])) t
    refine X4.ldcInt hx hown (mvT hZ (hw _ (List.mem_of_getElem? (i := 3) rfl))) (g := (mkF m 162 #[.val (.int x0), .val (.int x1), .val (.int x2), .unset, .unset, .unset, .unset] [(.int (24 : Int32)), (.ref n0_0), (.ref n0_0)])) rfl (hb hby at_162) _ ?_
    exact k
  refine bindE hr ?_; intro v5 hv5 hr
  obtain ⟨T5, h5, X5, e5, W5, A5, st5⟩ := soI X4 hx hZ e4 A_n0_0_4 hv5 (g := (mkF m 164 #[.val (.int x0), .val (.int x1), .val (.int x2), .unset, .unset, .unset, .unset] [(.int (64975 : Int32)), (.int (24 : Int32)), (.ref n0_0), (.ref n0_0)])) rfl rfl (hb hby at_164)
  have A_n0_0_5 : AI Z h5 n0_0 .int v5 := A5
  have N5 := Fr.snoc X5 N4 (by omega : n0 ≤ n0_0)
  have zz5 : n0 ≤ h5.size := Nat.le_trans zz4 (Keep.of_wr W5).1
  refine Runs.via (T' := T5) (g' := (mkF m 165 #[.val (.int x0), .val (.int x1), .val (.int x2), .unset, .unset, .unset, .unset] [(.ref n0_0)])) (fun t k => st5 _ k) ?_
  exact b0_165 C X5 e5 N5 (by show cells ≤ 1; omega) (by show slots ≤ 29; omega) zz5 n0_0 (by omega) v5 x0 x1 x2 A_n0_0_5 hr
def g0_98 (x0 : Int32) (x1 : Int32) (x2 : Int32) (q_n0_0 : List Int32) : Option (Int32) := ((wrO q_n0_0 (15 : Int32) (8204 : Int32)).bind fun v1 => ((wrO v1 (16 : Int32) (8205 : Int32)).bind fun v2 => ((wrO v2 (17 : Int32) (8304 : Int32)).bind fun v3 => ((wrO v3 (18 : Int32) (8591 : Int32)).bind fun v4 => ((wrO v4 (19 : Int32) (11264 : Int32)).bind fun v5 => (g0_133 x0 x1 x2 v5))))))
set_option maxRecDepth 65536 in
set_option maxHeartbeats 4000000 in
theorem b0_98 {r : Int32} (C : Ctx p s m meth c Z a0 "com/example/onto3/onto3/rdf/TermScannerIsNameStartCharPinLaw" code 7 (some .boolean) "law") (X0 : Stand p l e room_1 s m args below meth c T0 locs cells slots) (e0 : T0.heap = h0) (N0 : Fr n0 locs) (hk : cells ≤ 1) (hn : slots ≤ 29) (Z1 : n0 ≤ h0.size) (n0_0 : Addr) (o0 : n0 ≤ n0_0) (q_n0_0 : List Int32) (x0 : Int32) (x1 : Int32) (x2 : Int32) (A_n0_0_0 : AI Z h0 n0_0 .int q_n0_0) (hr : g0_98 x0 x1 x2 q_n0_0 = some r) :
    Runs p e below s (P0 n0 r) 1 29 T0 (mkF m 98 #[.val (.int x0), .val (.int x1), .val (.int x2), .unset, .unset, .unset, .unset] [(.ref n0_0)]) := by
  unfold g0_98 at hr
  have ⟨hx, hZ, hw, hby, hml, hown, hret, hlk, hnm⟩ := C
  refine Runs.via (T' := T0) (g' := (mkF m 104 #[.val (.int x0), .val (.int x1), .val (.int x2), .unset, .unset, .unset, .unset] [(.int (8204 : Int32)), (.int (15 : Int32)), (.ref n0_0), (.ref n0_0)])) (fun t k => ?_) ?_
  · show Steps p.tables e below (T0.setTop (mkF m 98 #[.val (.int x0), .val (.int x1), .val (.int x2), .unset, .unset, .unset, .unset] [(.ref n0_0)])) t
    refine XS.dup X0.here hx rfl (hb hby at_98) rfl rfl ?_
    show Steps p.tables e below (T0.setTop (mkF m 99 #[.val (.int x0), .val (.int x1), .val (.int x2), .unset, .unset, .unset, .unset] [(.ref n0_0), (.ref n0_0)])) t
    refine XS.bipush X0.here hx rfl (hb hby at_99) ?_
    show Steps p.tables e below (T0.setTop (mkF m 101 #[.val (.int x0), .val (.int x1), .val (.int x2), .unset, .unset, .unset, .unset] [(.int (15 : Int32)), (.ref n0_0), (.ref n0_0)])) t
    refine XS.sipush X0.here hx rfl (hb hby at_101) ?_
    exact k
  refine bindE hr ?_; intro v1 hv1 hr
  obtain ⟨T1, h1, X1, e1, W1, A1, st1⟩ := soI X0 hx hZ e0 A_n0_0_0 hv1 (g := (mkF m 104 #[.val (.int x0), .val (.int x1), .val (.int x2), .unset, .unset, .unset, .unset] [(.int (8204 : Int32)), (.int (15 : Int32)), (.ref n0_0), (.ref n0_0)])) rfl rfl (hb hby at_104)
  have A_n0_0_1 : AI Z h1 n0_0 .int v1 := A1
  have N1 := Fr.snoc X1 N0 (by omega : n0 ≤ n0_0)
  have zz1 : n0 ≤ h1.size := Nat.le_trans Z1 (Keep.of_wr W1).1
  refine Runs.via (T' := T1) (g' := (mkF m 105 #[.val (.int x0), .val (.int x1), .val (.int x2), .unset, .unset, .unset, .unset] [(.ref n0_0)])) (fun t k => st1 _ k) ?_
  refine Runs.via (T' := T1) (g' := (mkF m 111 #[.val (.int x0), .val (.int x1), .val (.int x2), .unset, .unset, .unset, .unset] [(.int (8205 : Int32)), (.int (16 : Int32)), (.ref n0_0), (.ref n0_0)])) (fun t k => ?_) ?_
  · show Steps p.tables e below (T1.setTop (mkF m 105 #[.val (.int x0), .val (.int x1), .val (.int x2), .unset, .unset, .unset, .unset] [(.ref n0_0)])) t
    refine XS.dup X1.here hx rfl (hb hby at_105) rfl rfl ?_
    show Steps p.tables e below (T1.setTop (mkF m 106 #[.val (.int x0), .val (.int x1), .val (.int x2), .unset, .unset, .unset, .unset] [(.ref n0_0), (.ref n0_0)])) t
    refine XS.bipush X1.here hx rfl (hb hby at_106) ?_
    show Steps p.tables e below (T1.setTop (mkF m 108 #[.val (.int x0), .val (.int x1), .val (.int x2), .unset, .unset, .unset, .unset] [(.int (16 : Int32)), (.ref n0_0), (.ref n0_0)])) t
    refine XS.sipush X1.here hx rfl (hb hby at_108) ?_
    exact k
  refine bindE hr ?_; intro v2 hv2 hr
  obtain ⟨T2, h2, X2, e2, W2, A2, st2⟩ := soI X1 hx hZ e1 A_n0_0_1 hv2 (g := (mkF m 111 #[.val (.int x0), .val (.int x1), .val (.int x2), .unset, .unset, .unset, .unset] [(.int (8205 : Int32)), (.int (16 : Int32)), (.ref n0_0), (.ref n0_0)])) rfl rfl (hb hby at_111)
  have A_n0_0_2 : AI Z h2 n0_0 .int v2 := A2
  have N2 := Fr.snoc X2 N1 (by omega : n0 ≤ n0_0)
  have zz2 : n0 ≤ h2.size := Nat.le_trans zz1 (Keep.of_wr W2).1
  refine Runs.via (T' := T2) (g' := (mkF m 112 #[.val (.int x0), .val (.int x1), .val (.int x2), .unset, .unset, .unset, .unset] [(.ref n0_0)])) (fun t k => st2 _ k) ?_
  refine Runs.via (T' := T2) (g' := (mkF m 118 #[.val (.int x0), .val (.int x1), .val (.int x2), .unset, .unset, .unset, .unset] [(.int (8304 : Int32)), (.int (17 : Int32)), (.ref n0_0), (.ref n0_0)])) (fun t k => ?_) ?_
  · show Steps p.tables e below (T2.setTop (mkF m 112 #[.val (.int x0), .val (.int x1), .val (.int x2), .unset, .unset, .unset, .unset] [(.ref n0_0)])) t
    refine XS.dup X2.here hx rfl (hb hby at_112) rfl rfl ?_
    show Steps p.tables e below (T2.setTop (mkF m 113 #[.val (.int x0), .val (.int x1), .val (.int x2), .unset, .unset, .unset, .unset] [(.ref n0_0), (.ref n0_0)])) t
    refine XS.bipush X2.here hx rfl (hb hby at_113) ?_
    show Steps p.tables e below (T2.setTop (mkF m 115 #[.val (.int x0), .val (.int x1), .val (.int x2), .unset, .unset, .unset, .unset] [(.int (17 : Int32)), (.ref n0_0), (.ref n0_0)])) t
    refine XS.sipush X2.here hx rfl (hb hby at_115) ?_
    exact k
  refine bindE hr ?_; intro v3 hv3 hr
  obtain ⟨T3, h3, X3, e3, W3, A3, st3⟩ := soI X2 hx hZ e2 A_n0_0_2 hv3 (g := (mkF m 118 #[.val (.int x0), .val (.int x1), .val (.int x2), .unset, .unset, .unset, .unset] [(.int (8304 : Int32)), (.int (17 : Int32)), (.ref n0_0), (.ref n0_0)])) rfl rfl (hb hby at_118)
  have A_n0_0_3 : AI Z h3 n0_0 .int v3 := A3
  have N3 := Fr.snoc X3 N2 (by omega : n0 ≤ n0_0)
  have zz3 : n0 ≤ h3.size := Nat.le_trans zz2 (Keep.of_wr W3).1
  refine Runs.via (T' := T3) (g' := (mkF m 119 #[.val (.int x0), .val (.int x1), .val (.int x2), .unset, .unset, .unset, .unset] [(.ref n0_0)])) (fun t k => st3 _ k) ?_
  refine Runs.via (T' := T3) (g' := (mkF m 125 #[.val (.int x0), .val (.int x1), .val (.int x2), .unset, .unset, .unset, .unset] [(.int (8591 : Int32)), (.int (18 : Int32)), (.ref n0_0), (.ref n0_0)])) (fun t k => ?_) ?_
  · show Steps p.tables e below (T3.setTop (mkF m 119 #[.val (.int x0), .val (.int x1), .val (.int x2), .unset, .unset, .unset, .unset] [(.ref n0_0)])) t
    refine XS.dup X3.here hx rfl (hb hby at_119) rfl rfl ?_
    show Steps p.tables e below (T3.setTop (mkF m 120 #[.val (.int x0), .val (.int x1), .val (.int x2), .unset, .unset, .unset, .unset] [(.ref n0_0), (.ref n0_0)])) t
    refine XS.bipush X3.here hx rfl (hb hby at_120) ?_
    show Steps p.tables e below (T3.setTop (mkF m 122 #[.val (.int x0), .val (.int x1), .val (.int x2), .unset, .unset, .unset, .unset] [(.int (18 : Int32)), (.ref n0_0), (.ref n0_0)])) t
    refine XS.sipush X3.here hx rfl (hb hby at_122) ?_
    exact k
  refine bindE hr ?_; intro v4 hv4 hr
  obtain ⟨T4, h4, X4, e4, W4, A4, st4⟩ := soI X3 hx hZ e3 A_n0_0_3 hv4 (g := (mkF m 125 #[.val (.int x0), .val (.int x1), .val (.int x2), .unset, .unset, .unset, .unset] [(.int (8591 : Int32)), (.int (18 : Int32)), (.ref n0_0), (.ref n0_0)])) rfl rfl (hb hby at_125)
  have A_n0_0_4 : AI Z h4 n0_0 .int v4 := A4
  have N4 := Fr.snoc X4 N3 (by omega : n0 ≤ n0_0)
  have zz4 : n0 ≤ h4.size := Nat.le_trans zz3 (Keep.of_wr W4).1
  refine Runs.via (T' := T4) (g' := (mkF m 126 #[.val (.int x0), .val (.int x1), .val (.int x2), .unset, .unset, .unset, .unset] [(.ref n0_0)])) (fun t k => st4 _ k) ?_
  refine Runs.via (T' := T4) (g' := (mkF m 132 #[.val (.int x0), .val (.int x1), .val (.int x2), .unset, .unset, .unset, .unset] [(.int (11264 : Int32)), (.int (19 : Int32)), (.ref n0_0), (.ref n0_0)])) (fun t k => ?_) ?_
  · show Steps p.tables e below (T4.setTop (mkF m 126 #[.val (.int x0), .val (.int x1), .val (.int x2), .unset, .unset, .unset, .unset] [(.ref n0_0)])) t
    refine XS.dup X4.here hx rfl (hb hby at_126) rfl rfl ?_
    show Steps p.tables e below (T4.setTop (mkF m 127 #[.val (.int x0), .val (.int x1), .val (.int x2), .unset, .unset, .unset, .unset] [(.ref n0_0), (.ref n0_0)])) t
    refine XS.bipush X4.here hx rfl (hb hby at_127) ?_
    show Steps p.tables e below (T4.setTop (mkF m 129 #[.val (.int x0), .val (.int x1), .val (.int x2), .unset, .unset, .unset, .unset] [(.int (19 : Int32)), (.ref n0_0), (.ref n0_0)])) t
    refine XS.sipush X4.here hx rfl (hb hby at_129) ?_
    exact k
  refine bindE hr ?_; intro v5 hv5 hr
  obtain ⟨T5, h5, X5, e5, W5, A5, st5⟩ := soI X4 hx hZ e4 A_n0_0_4 hv5 (g := (mkF m 132 #[.val (.int x0), .val (.int x1), .val (.int x2), .unset, .unset, .unset, .unset] [(.int (11264 : Int32)), (.int (19 : Int32)), (.ref n0_0), (.ref n0_0)])) rfl rfl (hb hby at_132)
  have A_n0_0_5 : AI Z h5 n0_0 .int v5 := A5
  have N5 := Fr.snoc X5 N4 (by omega : n0 ≤ n0_0)
  have zz5 : n0 ≤ h5.size := Nat.le_trans zz4 (Keep.of_wr W5).1
  refine Runs.via (T' := T5) (g' := (mkF m 133 #[.val (.int x0), .val (.int x1), .val (.int x2), .unset, .unset, .unset, .unset] [(.ref n0_0)])) (fun t k => st5 _ k) ?_
  exact b0_133 C X5 e5 N5 (by show cells ≤ 1; omega) (by show slots ≤ 29; omega) zz5 n0_0 (by omega) v5 x0 x1 x2 A_n0_0_5 hr
def g0_63 (x0 : Int32) (x1 : Int32) (x2 : Int32) (q_n0_0 : List Int32) : Option (Int32) := ((wrO q_n0_0 (10 : Int32) (767 : Int32)).bind fun v1 => ((wrO v1 (11 : Int32) (880 : Int32)).bind fun v2 => ((wrO v2 (12 : Int32) (893 : Int32)).bind fun v3 => ((wrO v3 (13 : Int32) (895 : Int32)).bind fun v4 => ((wrO v4 (14 : Int32) (8191 : Int32)).bind fun v5 => (g0_98 x0 x1 x2 v5))))))
set_option maxRecDepth 65536 in
set_option maxHeartbeats 4000000 in
theorem b0_63 {r : Int32} (C : Ctx p s m meth c Z a0 "com/example/onto3/onto3/rdf/TermScannerIsNameStartCharPinLaw" code 7 (some .boolean) "law") (X0 : Stand p l e room_1 s m args below meth c T0 locs cells slots) (e0 : T0.heap = h0) (N0 : Fr n0 locs) (hk : cells ≤ 1) (hn : slots ≤ 29) (Z1 : n0 ≤ h0.size) (n0_0 : Addr) (o0 : n0 ≤ n0_0) (q_n0_0 : List Int32) (x0 : Int32) (x1 : Int32) (x2 : Int32) (A_n0_0_0 : AI Z h0 n0_0 .int q_n0_0) (hr : g0_63 x0 x1 x2 q_n0_0 = some r) :
    Runs p e below s (P0 n0 r) 1 29 T0 (mkF m 63 #[.val (.int x0), .val (.int x1), .val (.int x2), .unset, .unset, .unset, .unset] [(.ref n0_0)]) := by
  unfold g0_63 at hr
  have ⟨hx, hZ, hw, hby, hml, hown, hret, hlk, hnm⟩ := C
  refine Runs.via (T' := T0) (g' := (mkF m 69 #[.val (.int x0), .val (.int x1), .val (.int x2), .unset, .unset, .unset, .unset] [(.int (767 : Int32)), (.int (10 : Int32)), (.ref n0_0), (.ref n0_0)])) (fun t k => ?_) ?_
  · show Steps p.tables e below (T0.setTop (mkF m 63 #[.val (.int x0), .val (.int x1), .val (.int x2), .unset, .unset, .unset, .unset] [(.ref n0_0)])) t
    refine XS.dup X0.here hx rfl (hb hby at_63) rfl rfl ?_
    show Steps p.tables e below (T0.setTop (mkF m 64 #[.val (.int x0), .val (.int x1), .val (.int x2), .unset, .unset, .unset, .unset] [(.ref n0_0), (.ref n0_0)])) t
    refine XS.bipush X0.here hx rfl (hb hby at_64) ?_
    show Steps p.tables e below (T0.setTop (mkF m 66 #[.val (.int x0), .val (.int x1), .val (.int x2), .unset, .unset, .unset, .unset] [(.int (10 : Int32)), (.ref n0_0), (.ref n0_0)])) t
    refine XS.sipush X0.here hx rfl (hb hby at_66) ?_
    exact k
  refine bindE hr ?_; intro v1 hv1 hr
  obtain ⟨T1, h1, X1, e1, W1, A1, st1⟩ := soI X0 hx hZ e0 A_n0_0_0 hv1 (g := (mkF m 69 #[.val (.int x0), .val (.int x1), .val (.int x2), .unset, .unset, .unset, .unset] [(.int (767 : Int32)), (.int (10 : Int32)), (.ref n0_0), (.ref n0_0)])) rfl rfl (hb hby at_69)
  have A_n0_0_1 : AI Z h1 n0_0 .int v1 := A1
  have N1 := Fr.snoc X1 N0 (by omega : n0 ≤ n0_0)
  have zz1 : n0 ≤ h1.size := Nat.le_trans Z1 (Keep.of_wr W1).1
  refine Runs.via (T' := T1) (g' := (mkF m 70 #[.val (.int x0), .val (.int x1), .val (.int x2), .unset, .unset, .unset, .unset] [(.ref n0_0)])) (fun t k => st1 _ k) ?_
  refine Runs.via (T' := T1) (g' := (mkF m 76 #[.val (.int x0), .val (.int x1), .val (.int x2), .unset, .unset, .unset, .unset] [(.int (880 : Int32)), (.int (11 : Int32)), (.ref n0_0), (.ref n0_0)])) (fun t k => ?_) ?_
  · show Steps p.tables e below (T1.setTop (mkF m 70 #[.val (.int x0), .val (.int x1), .val (.int x2), .unset, .unset, .unset, .unset] [(.ref n0_0)])) t
    refine XS.dup X1.here hx rfl (hb hby at_70) rfl rfl ?_
    show Steps p.tables e below (T1.setTop (mkF m 71 #[.val (.int x0), .val (.int x1), .val (.int x2), .unset, .unset, .unset, .unset] [(.ref n0_0), (.ref n0_0)])) t
    refine XS.bipush X1.here hx rfl (hb hby at_71) ?_
    show Steps p.tables e below (T1.setTop (mkF m 73 #[.val (.int x0), .val (.int x1), .val (.int x2), .unset, .unset, .unset, .unset] [(.int (11 : Int32)), (.ref n0_0), (.ref n0_0)])) t
    refine XS.sipush X1.here hx rfl (hb hby at_73) ?_
    exact k
  refine bindE hr ?_; intro v2 hv2 hr
  obtain ⟨T2, h2, X2, e2, W2, A2, st2⟩ := soI X1 hx hZ e1 A_n0_0_1 hv2 (g := (mkF m 76 #[.val (.int x0), .val (.int x1), .val (.int x2), .unset, .unset, .unset, .unset] [(.int (880 : Int32)), (.int (11 : Int32)), (.ref n0_0), (.ref n0_0)])) rfl rfl (hb hby at_76)
  have A_n0_0_2 : AI Z h2 n0_0 .int v2 := A2
  have N2 := Fr.snoc X2 N1 (by omega : n0 ≤ n0_0)
  have zz2 : n0 ≤ h2.size := Nat.le_trans zz1 (Keep.of_wr W2).1
  refine Runs.via (T' := T2) (g' := (mkF m 77 #[.val (.int x0), .val (.int x1), .val (.int x2), .unset, .unset, .unset, .unset] [(.ref n0_0)])) (fun t k => st2 _ k) ?_
  refine Runs.via (T' := T2) (g' := (mkF m 83 #[.val (.int x0), .val (.int x1), .val (.int x2), .unset, .unset, .unset, .unset] [(.int (893 : Int32)), (.int (12 : Int32)), (.ref n0_0), (.ref n0_0)])) (fun t k => ?_) ?_
  · show Steps p.tables e below (T2.setTop (mkF m 77 #[.val (.int x0), .val (.int x1), .val (.int x2), .unset, .unset, .unset, .unset] [(.ref n0_0)])) t
    refine XS.dup X2.here hx rfl (hb hby at_77) rfl rfl ?_
    show Steps p.tables e below (T2.setTop (mkF m 78 #[.val (.int x0), .val (.int x1), .val (.int x2), .unset, .unset, .unset, .unset] [(.ref n0_0), (.ref n0_0)])) t
    refine XS.bipush X2.here hx rfl (hb hby at_78) ?_
    show Steps p.tables e below (T2.setTop (mkF m 80 #[.val (.int x0), .val (.int x1), .val (.int x2), .unset, .unset, .unset, .unset] [(.int (12 : Int32)), (.ref n0_0), (.ref n0_0)])) t
    refine XS.sipush X2.here hx rfl (hb hby at_80) ?_
    exact k
  refine bindE hr ?_; intro v3 hv3 hr
  obtain ⟨T3, h3, X3, e3, W3, A3, st3⟩ := soI X2 hx hZ e2 A_n0_0_2 hv3 (g := (mkF m 83 #[.val (.int x0), .val (.int x1), .val (.int x2), .unset, .unset, .unset, .unset] [(.int (893 : Int32)), (.int (12 : Int32)), (.ref n0_0), (.ref n0_0)])) rfl rfl (hb hby at_83)
  have A_n0_0_3 : AI Z h3 n0_0 .int v3 := A3
  have N3 := Fr.snoc X3 N2 (by omega : n0 ≤ n0_0)
  have zz3 : n0 ≤ h3.size := Nat.le_trans zz2 (Keep.of_wr W3).1
  refine Runs.via (T' := T3) (g' := (mkF m 84 #[.val (.int x0), .val (.int x1), .val (.int x2), .unset, .unset, .unset, .unset] [(.ref n0_0)])) (fun t k => st3 _ k) ?_
  refine Runs.via (T' := T3) (g' := (mkF m 90 #[.val (.int x0), .val (.int x1), .val (.int x2), .unset, .unset, .unset, .unset] [(.int (895 : Int32)), (.int (13 : Int32)), (.ref n0_0), (.ref n0_0)])) (fun t k => ?_) ?_
  · show Steps p.tables e below (T3.setTop (mkF m 84 #[.val (.int x0), .val (.int x1), .val (.int x2), .unset, .unset, .unset, .unset] [(.ref n0_0)])) t
    refine XS.dup X3.here hx rfl (hb hby at_84) rfl rfl ?_
    show Steps p.tables e below (T3.setTop (mkF m 85 #[.val (.int x0), .val (.int x1), .val (.int x2), .unset, .unset, .unset, .unset] [(.ref n0_0), (.ref n0_0)])) t
    refine XS.bipush X3.here hx rfl (hb hby at_85) ?_
    show Steps p.tables e below (T3.setTop (mkF m 87 #[.val (.int x0), .val (.int x1), .val (.int x2), .unset, .unset, .unset, .unset] [(.int (13 : Int32)), (.ref n0_0), (.ref n0_0)])) t
    refine XS.sipush X3.here hx rfl (hb hby at_87) ?_
    exact k
  refine bindE hr ?_; intro v4 hv4 hr
  obtain ⟨T4, h4, X4, e4, W4, A4, st4⟩ := soI X3 hx hZ e3 A_n0_0_3 hv4 (g := (mkF m 90 #[.val (.int x0), .val (.int x1), .val (.int x2), .unset, .unset, .unset, .unset] [(.int (895 : Int32)), (.int (13 : Int32)), (.ref n0_0), (.ref n0_0)])) rfl rfl (hb hby at_90)
  have A_n0_0_4 : AI Z h4 n0_0 .int v4 := A4
  have N4 := Fr.snoc X4 N3 (by omega : n0 ≤ n0_0)
  have zz4 : n0 ≤ h4.size := Nat.le_trans zz3 (Keep.of_wr W4).1
  refine Runs.via (T' := T4) (g' := (mkF m 91 #[.val (.int x0), .val (.int x1), .val (.int x2), .unset, .unset, .unset, .unset] [(.ref n0_0)])) (fun t k => st4 _ k) ?_
  refine Runs.via (T' := T4) (g' := (mkF m 97 #[.val (.int x0), .val (.int x1), .val (.int x2), .unset, .unset, .unset, .unset] [(.int (8191 : Int32)), (.int (14 : Int32)), (.ref n0_0), (.ref n0_0)])) (fun t k => ?_) ?_
  · show Steps p.tables e below (T4.setTop (mkF m 91 #[.val (.int x0), .val (.int x1), .val (.int x2), .unset, .unset, .unset, .unset] [(.ref n0_0)])) t
    refine XS.dup X4.here hx rfl (hb hby at_91) rfl rfl ?_
    show Steps p.tables e below (T4.setTop (mkF m 92 #[.val (.int x0), .val (.int x1), .val (.int x2), .unset, .unset, .unset, .unset] [(.ref n0_0), (.ref n0_0)])) t
    refine XS.bipush X4.here hx rfl (hb hby at_92) ?_
    show Steps p.tables e below (T4.setTop (mkF m 94 #[.val (.int x0), .val (.int x1), .val (.int x2), .unset, .unset, .unset, .unset] [(.int (14 : Int32)), (.ref n0_0), (.ref n0_0)])) t
    refine XS.sipush X4.here hx rfl (hb hby at_94) ?_
    exact k
  refine bindE hr ?_; intro v5 hv5 hr
  obtain ⟨T5, h5, X5, e5, W5, A5, st5⟩ := soI X4 hx hZ e4 A_n0_0_4 hv5 (g := (mkF m 97 #[.val (.int x0), .val (.int x1), .val (.int x2), .unset, .unset, .unset, .unset] [(.int (8191 : Int32)), (.int (14 : Int32)), (.ref n0_0), (.ref n0_0)])) rfl rfl (hb hby at_97)
  have A_n0_0_5 : AI Z h5 n0_0 .int v5 := A5
  have N5 := Fr.snoc X5 N4 (by omega : n0 ≤ n0_0)
  have zz5 : n0 ≤ h5.size := Nat.le_trans zz4 (Keep.of_wr W5).1
  refine Runs.via (T' := T5) (g' := (mkF m 98 #[.val (.int x0), .val (.int x1), .val (.int x2), .unset, .unset, .unset, .unset] [(.ref n0_0)])) (fun t k => st5 _ k) ?_
  exact b0_98 C X5 e5 N5 (by show cells ≤ 1; omega) (by show slots ≤ 29; omega) zz5 n0_0 (by omega) v5 x0 x1 x2 A_n0_0_5 hr
def g0_29 (x0 : Int32) (x1 : Int32) (x2 : Int32) (q_n0_0 : List Int32) : Option (Int32) := ((wrO q_n0_0 (5 : Int32) (192 : Int32)).bind fun v1 => ((wrO v1 (6 : Int32) (214 : Int32)).bind fun v2 => ((wrO v2 (7 : Int32) (216 : Int32)).bind fun v3 => ((wrO v3 (8 : Int32) (246 : Int32)).bind fun v4 => ((wrO v4 (9 : Int32) (248 : Int32)).bind fun v5 => (g0_63 x0 x1 x2 v5))))))
set_option maxRecDepth 65536 in
set_option maxHeartbeats 4000000 in
theorem b0_29 {r : Int32} (C : Ctx p s m meth c Z a0 "com/example/onto3/onto3/rdf/TermScannerIsNameStartCharPinLaw" code 7 (some .boolean) "law") (X0 : Stand p l e room_1 s m args below meth c T0 locs cells slots) (e0 : T0.heap = h0) (N0 : Fr n0 locs) (hk : cells ≤ 1) (hn : slots ≤ 29) (Z1 : n0 ≤ h0.size) (n0_0 : Addr) (o0 : n0 ≤ n0_0) (q_n0_0 : List Int32) (x0 : Int32) (x1 : Int32) (x2 : Int32) (A_n0_0_0 : AI Z h0 n0_0 .int q_n0_0) (hr : g0_29 x0 x1 x2 q_n0_0 = some r) :
    Runs p e below s (P0 n0 r) 1 29 T0 (mkF m 29 #[.val (.int x0), .val (.int x1), .val (.int x2), .unset, .unset, .unset, .unset] [(.ref n0_0)]) := by
  unfold g0_29 at hr
  have ⟨hx, hZ, hw, hby, hml, hown, hret, hlk, hnm⟩ := C
  refine Runs.via (T' := T0) (g' := (mkF m 34 #[.val (.int x0), .val (.int x1), .val (.int x2), .unset, .unset, .unset, .unset] [(.int (192 : Int32)), (.int (5 : Int32)), (.ref n0_0), (.ref n0_0)])) (fun t k => ?_) ?_
  · show Steps p.tables e below (T0.setTop (mkF m 29 #[.val (.int x0), .val (.int x1), .val (.int x2), .unset, .unset, .unset, .unset] [(.ref n0_0)])) t
    refine XS.dup X0.here hx rfl (hb hby at_29) rfl rfl ?_
    show Steps p.tables e below (T0.setTop (mkF m 30 #[.val (.int x0), .val (.int x1), .val (.int x2), .unset, .unset, .unset, .unset] [(.ref n0_0), (.ref n0_0)])) t
    refine XS.iconst X0.here hx rfl (hb hby at_30) ?_
    show Steps p.tables e below (T0.setTop (mkF m 31 #[.val (.int x0), .val (.int x1), .val (.int x2), .unset, .unset, .unset, .unset] [(.int (5 : Int32)), (.ref n0_0), (.ref n0_0)])) t
    refine XS.sipush X0.here hx rfl (hb hby at_31) ?_
    exact k
  refine bindE hr ?_; intro v1 hv1 hr
  obtain ⟨T1, h1, X1, e1, W1, A1, st1⟩ := soI X0 hx hZ e0 A_n0_0_0 hv1 (g := (mkF m 34 #[.val (.int x0), .val (.int x1), .val (.int x2), .unset, .unset, .unset, .unset] [(.int (192 : Int32)), (.int (5 : Int32)), (.ref n0_0), (.ref n0_0)])) rfl rfl (hb hby at_34)
  have A_n0_0_1 : AI Z h1 n0_0 .int v1 := A1
  have N1 := Fr.snoc X1 N0 (by omega : n0 ≤ n0_0)
  have zz1 : n0 ≤ h1.size := Nat.le_trans Z1 (Keep.of_wr W1).1
  refine Runs.via (T' := T1) (g' := (mkF m 35 #[.val (.int x0), .val (.int x1), .val (.int x2), .unset, .unset, .unset, .unset] [(.ref n0_0)])) (fun t k => st1 _ k) ?_
  refine Runs.via (T' := T1) (g' := (mkF m 41 #[.val (.int x0), .val (.int x1), .val (.int x2), .unset, .unset, .unset, .unset] [(.int (214 : Int32)), (.int (6 : Int32)), (.ref n0_0), (.ref n0_0)])) (fun t k => ?_) ?_
  · show Steps p.tables e below (T1.setTop (mkF m 35 #[.val (.int x0), .val (.int x1), .val (.int x2), .unset, .unset, .unset, .unset] [(.ref n0_0)])) t
    refine XS.dup X1.here hx rfl (hb hby at_35) rfl rfl ?_
    show Steps p.tables e below (T1.setTop (mkF m 36 #[.val (.int x0), .val (.int x1), .val (.int x2), .unset, .unset, .unset, .unset] [(.ref n0_0), (.ref n0_0)])) t
    refine XS.bipush X1.here hx rfl (hb hby at_36) ?_
    show Steps p.tables e below (T1.setTop (mkF m 38 #[.val (.int x0), .val (.int x1), .val (.int x2), .unset, .unset, .unset, .unset] [(.int (6 : Int32)), (.ref n0_0), (.ref n0_0)])) t
    refine XS.sipush X1.here hx rfl (hb hby at_38) ?_
    exact k
  refine bindE hr ?_; intro v2 hv2 hr
  obtain ⟨T2, h2, X2, e2, W2, A2, st2⟩ := soI X1 hx hZ e1 A_n0_0_1 hv2 (g := (mkF m 41 #[.val (.int x0), .val (.int x1), .val (.int x2), .unset, .unset, .unset, .unset] [(.int (214 : Int32)), (.int (6 : Int32)), (.ref n0_0), (.ref n0_0)])) rfl rfl (hb hby at_41)
  have A_n0_0_2 : AI Z h2 n0_0 .int v2 := A2
  have N2 := Fr.snoc X2 N1 (by omega : n0 ≤ n0_0)
  have zz2 : n0 ≤ h2.size := Nat.le_trans zz1 (Keep.of_wr W2).1
  refine Runs.via (T' := T2) (g' := (mkF m 42 #[.val (.int x0), .val (.int x1), .val (.int x2), .unset, .unset, .unset, .unset] [(.ref n0_0)])) (fun t k => st2 _ k) ?_
  refine Runs.via (T' := T2) (g' := (mkF m 48 #[.val (.int x0), .val (.int x1), .val (.int x2), .unset, .unset, .unset, .unset] [(.int (216 : Int32)), (.int (7 : Int32)), (.ref n0_0), (.ref n0_0)])) (fun t k => ?_) ?_
  · show Steps p.tables e below (T2.setTop (mkF m 42 #[.val (.int x0), .val (.int x1), .val (.int x2), .unset, .unset, .unset, .unset] [(.ref n0_0)])) t
    refine XS.dup X2.here hx rfl (hb hby at_42) rfl rfl ?_
    show Steps p.tables e below (T2.setTop (mkF m 43 #[.val (.int x0), .val (.int x1), .val (.int x2), .unset, .unset, .unset, .unset] [(.ref n0_0), (.ref n0_0)])) t
    refine XS.bipush X2.here hx rfl (hb hby at_43) ?_
    show Steps p.tables e below (T2.setTop (mkF m 45 #[.val (.int x0), .val (.int x1), .val (.int x2), .unset, .unset, .unset, .unset] [(.int (7 : Int32)), (.ref n0_0), (.ref n0_0)])) t
    refine XS.sipush X2.here hx rfl (hb hby at_45) ?_
    exact k
  refine bindE hr ?_; intro v3 hv3 hr
  obtain ⟨T3, h3, X3, e3, W3, A3, st3⟩ := soI X2 hx hZ e2 A_n0_0_2 hv3 (g := (mkF m 48 #[.val (.int x0), .val (.int x1), .val (.int x2), .unset, .unset, .unset, .unset] [(.int (216 : Int32)), (.int (7 : Int32)), (.ref n0_0), (.ref n0_0)])) rfl rfl (hb hby at_48)
  have A_n0_0_3 : AI Z h3 n0_0 .int v3 := A3
  have N3 := Fr.snoc X3 N2 (by omega : n0 ≤ n0_0)
  have zz3 : n0 ≤ h3.size := Nat.le_trans zz2 (Keep.of_wr W3).1
  refine Runs.via (T' := T3) (g' := (mkF m 49 #[.val (.int x0), .val (.int x1), .val (.int x2), .unset, .unset, .unset, .unset] [(.ref n0_0)])) (fun t k => st3 _ k) ?_
  refine Runs.via (T' := T3) (g' := (mkF m 55 #[.val (.int x0), .val (.int x1), .val (.int x2), .unset, .unset, .unset, .unset] [(.int (246 : Int32)), (.int (8 : Int32)), (.ref n0_0), (.ref n0_0)])) (fun t k => ?_) ?_
  · show Steps p.tables e below (T3.setTop (mkF m 49 #[.val (.int x0), .val (.int x1), .val (.int x2), .unset, .unset, .unset, .unset] [(.ref n0_0)])) t
    refine XS.dup X3.here hx rfl (hb hby at_49) rfl rfl ?_
    show Steps p.tables e below (T3.setTop (mkF m 50 #[.val (.int x0), .val (.int x1), .val (.int x2), .unset, .unset, .unset, .unset] [(.ref n0_0), (.ref n0_0)])) t
    refine XS.bipush X3.here hx rfl (hb hby at_50) ?_
    show Steps p.tables e below (T3.setTop (mkF m 52 #[.val (.int x0), .val (.int x1), .val (.int x2), .unset, .unset, .unset, .unset] [(.int (8 : Int32)), (.ref n0_0), (.ref n0_0)])) t
    refine XS.sipush X3.here hx rfl (hb hby at_52) ?_
    exact k
  refine bindE hr ?_; intro v4 hv4 hr
  obtain ⟨T4, h4, X4, e4, W4, A4, st4⟩ := soI X3 hx hZ e3 A_n0_0_3 hv4 (g := (mkF m 55 #[.val (.int x0), .val (.int x1), .val (.int x2), .unset, .unset, .unset, .unset] [(.int (246 : Int32)), (.int (8 : Int32)), (.ref n0_0), (.ref n0_0)])) rfl rfl (hb hby at_55)
  have A_n0_0_4 : AI Z h4 n0_0 .int v4 := A4
  have N4 := Fr.snoc X4 N3 (by omega : n0 ≤ n0_0)
  have zz4 : n0 ≤ h4.size := Nat.le_trans zz3 (Keep.of_wr W4).1
  refine Runs.via (T' := T4) (g' := (mkF m 56 #[.val (.int x0), .val (.int x1), .val (.int x2), .unset, .unset, .unset, .unset] [(.ref n0_0)])) (fun t k => st4 _ k) ?_
  refine Runs.via (T' := T4) (g' := (mkF m 62 #[.val (.int x0), .val (.int x1), .val (.int x2), .unset, .unset, .unset, .unset] [(.int (248 : Int32)), (.int (9 : Int32)), (.ref n0_0), (.ref n0_0)])) (fun t k => ?_) ?_
  · show Steps p.tables e below (T4.setTop (mkF m 56 #[.val (.int x0), .val (.int x1), .val (.int x2), .unset, .unset, .unset, .unset] [(.ref n0_0)])) t
    refine XS.dup X4.here hx rfl (hb hby at_56) rfl rfl ?_
    show Steps p.tables e below (T4.setTop (mkF m 57 #[.val (.int x0), .val (.int x1), .val (.int x2), .unset, .unset, .unset, .unset] [(.ref n0_0), (.ref n0_0)])) t
    refine XS.bipush X4.here hx rfl (hb hby at_57) ?_
    show Steps p.tables e below (T4.setTop (mkF m 59 #[.val (.int x0), .val (.int x1), .val (.int x2), .unset, .unset, .unset, .unset] [(.int (9 : Int32)), (.ref n0_0), (.ref n0_0)])) t
    refine XS.sipush X4.here hx rfl (hb hby at_59) ?_
    exact k
  refine bindE hr ?_; intro v5 hv5 hr
  obtain ⟨T5, h5, X5, e5, W5, A5, st5⟩ := soI X4 hx hZ e4 A_n0_0_4 hv5 (g := (mkF m 62 #[.val (.int x0), .val (.int x1), .val (.int x2), .unset, .unset, .unset, .unset] [(.int (248 : Int32)), (.int (9 : Int32)), (.ref n0_0), (.ref n0_0)])) rfl rfl (hb hby at_62)
  have A_n0_0_5 : AI Z h5 n0_0 .int v5 := A5
  have N5 := Fr.snoc X5 N4 (by omega : n0 ≤ n0_0)
  have zz5 : n0 ≤ h5.size := Nat.le_trans zz4 (Keep.of_wr W5).1
  refine Runs.via (T' := T5) (g' := (mkF m 63 #[.val (.int x0), .val (.int x1), .val (.int x2), .unset, .unset, .unset, .unset] [(.ref n0_0)])) (fun t k => st5 _ k) ?_
  exact b0_63 C X5 e5 N5 (by show cells ≤ 1; omega) (by show slots ≤ 29; omega) zz5 n0_0 (by omega) v5 x0 x1 x2 A_n0_0_5 hr
def g0_0 (x0 : Int32) (x1 : Int32) (x2 : Int32) : Option (Int32) := ((mkO (29 : Int32) 29).bind fun v1 => ((wrO v1 (0 : Int32) (65 : Int32)).bind fun v2 => ((wrO v2 (1 : Int32) (90 : Int32)).bind fun v3 => ((wrO v3 (2 : Int32) (95 : Int32)).bind fun v4 => ((wrO v4 (3 : Int32) (97 : Int32)).bind fun v5 => ((wrO v5 (4 : Int32) (122 : Int32)).bind fun v6 => (g0_29 x0 x1 x2 v6)))))))
set_option maxRecDepth 65536 in
set_option maxHeartbeats 4000000 in
theorem b0_0 {r : Int32} (C : Ctx p s m meth c Z a0 "com/example/onto3/onto3/rdf/TermScannerIsNameStartCharPinLaw" code 7 (some .boolean) "law") (X0 : Stand p l e room_1 s m args below meth c T0 locs cells slots) (e0 : T0.heap = h0) (N0 : Fr n0 locs) (hk : cells ≤ 0) (hn : slots ≤ 0) (Z1 : n0 ≤ h0.size) (x0 : Int32) (x1 : Int32) (x2 : Int32) (hr : g0_0 x0 x1 x2 = some r) :
    Runs p e below s (P0 n0 r) 1 29 T0 (mkF m 0 #[.val (.int x0), .val (.int x1), .val (.int x2), .unset, .unset, .unset, .unset] []) := by
  unfold g0_0 at hr
  have ⟨hx, hZ, hw, hby, hml, hown, hret, hlk, hnm⟩ := C
  refine Runs.via (T' := T0) (g' := (mkF m 2 #[.val (.int x0), .val (.int x1), .val (.int x2), .unset, .unset, .unset, .unset] [(.int (29 : Int32))])) (fun t k => ?_) ?_
  · show Steps p.tables e below (T0.setTop (mkF m 0 #[.val (.int x0), .val (.int x1), .val (.int x2), .unset, .unset, .unset, .unset] [])) t
    refine XS.bipush X0.here hx rfl (hb hby at_0) ?_
    exact k
  refine bindE hr ?_; intro v1 hv1 hr
  obtain ⟨T1, h1, X1, e1, E1, A1, st1⟩ := newI X0 hx hZ (aty := .int) (ty := .int) rfl rfl (hw _ (List.mem_of_getElem? (i := 0) rfl)) e0 hv1 (g := (mkF m 2 #[.val (.int x0), .val (.int x1), .val (.int x2), .unset, .unset, .unset, .unset] [(.int (29 : Int32))])) rfl (hb hby at_2) rfl (by decide) (by show cells + 1 ≤ 16; omega) (by show slots + 29 ≤ 128; omega)
  obtain ⟨b2, g1⟩ : ∃ z, z = h0.size := ⟨_, rfl⟩
  rw [← g1] at A1 st1
  have i1 := E1.1
  have zz1 : n0 ≤ h1.size := Nat.le_trans Z1 i1
  have A_b2_1 := A1
  have sb2 : n0 ≤ b2 := by omega
  refine Runs.via (T' := T1) (g' := (mkF m 4 #[.val (.int x0), .val (.int x1), .val (.int x2), .unset, .unset, .unset, .unset] [(.ref b2)])) (fun t k => st1 _ k) ?_
  refine Runs.via (T' := T1) (g' := (mkF m 8 #[.val (.int x0), .val (.int x1), .val (.int x2), .unset, .unset, .unset, .unset] [(.int (65 : Int32)), (.int (0 : Int32)), (.ref b2), (.ref b2)])) (fun t k => ?_) ?_
  · show Steps p.tables e below (T1.setTop (mkF m 4 #[.val (.int x0), .val (.int x1), .val (.int x2), .unset, .unset, .unset, .unset] [(.ref b2)])) t
    refine XS.dup X1.here hx rfl (hb hby at_4) rfl rfl ?_
    show Steps p.tables e below (T1.setTop (mkF m 5 #[.val (.int x0), .val (.int x1), .val (.int x2), .unset, .unset, .unset, .unset] [(.ref b2), (.ref b2)])) t
    refine XS.iconst X1.here hx rfl (hb hby at_5) ?_
    show Steps p.tables e below (T1.setTop (mkF m 6 #[.val (.int x0), .val (.int x1), .val (.int x2), .unset, .unset, .unset, .unset] [(.int (0 : Int32)), (.ref b2), (.ref b2)])) t
    refine XS.bipush X1.here hx rfl (hb hby at_6) ?_
    exact k
  refine bindE hr ?_; intro v2 hv2 hr
  obtain ⟨T2, h2, X2, e2, W2, A2, st2⟩ := soI X1 hx hZ e1 A_b2_1 hv2 (g := (mkF m 8 #[.val (.int x0), .val (.int x1), .val (.int x2), .unset, .unset, .unset, .unset] [(.int (65 : Int32)), (.int (0 : Int32)), (.ref b2), (.ref b2)])) rfl rfl (hb hby at_8)
  have A_b2_2 : AI Z h2 b2 .int v2 := A2
  have N2 := Fr.snoc X2 N0 (by omega : n0 ≤ b2)
  have zz2 : n0 ≤ h2.size := Nat.le_trans zz1 (Keep.of_wr W2).1
  refine Runs.via (T' := T2) (g' := (mkF m 9 #[.val (.int x0), .val (.int x1), .val (.int x2), .unset, .unset, .unset, .unset] [(.ref b2)])) (fun t k => st2 _ k) ?_
  refine Runs.via (T' := T2) (g' := (mkF m 13 #[.val (.int x0), .val (.int x1), .val (.int x2), .unset, .unset, .unset, .unset] [(.int (90 : Int32)), (.int (1 : Int32)), (.ref b2), (.ref b2)])) (fun t k => ?_) ?_
  · show Steps p.tables e below (T2.setTop (mkF m 9 #[.val (.int x0), .val (.int x1), .val (.int x2), .unset, .unset, .unset, .unset] [(.ref b2)])) t
    refine XS.dup X2.here hx rfl (hb hby at_9) rfl rfl ?_
    show Steps p.tables e below (T2.setTop (mkF m 10 #[.val (.int x0), .val (.int x1), .val (.int x2), .unset, .unset, .unset, .unset] [(.ref b2), (.ref b2)])) t
    refine XS.iconst X2.here hx rfl (hb hby at_10) ?_
    show Steps p.tables e below (T2.setTop (mkF m 11 #[.val (.int x0), .val (.int x1), .val (.int x2), .unset, .unset, .unset, .unset] [(.int (1 : Int32)), (.ref b2), (.ref b2)])) t
    refine XS.bipush X2.here hx rfl (hb hby at_11) ?_
    exact k
  refine bindE hr ?_; intro v3 hv3 hr
  obtain ⟨T3, h3, X3, e3, W3, A3, st3⟩ := soI X2 hx hZ e2 A_b2_2 hv3 (g := (mkF m 13 #[.val (.int x0), .val (.int x1), .val (.int x2), .unset, .unset, .unset, .unset] [(.int (90 : Int32)), (.int (1 : Int32)), (.ref b2), (.ref b2)])) rfl rfl (hb hby at_13)
  have A_b2_3 : AI Z h3 b2 .int v3 := A3
  have N3 := Fr.snoc X3 N2 (by omega : n0 ≤ b2)
  have zz3 : n0 ≤ h3.size := Nat.le_trans zz2 (Keep.of_wr W3).1
  refine Runs.via (T' := T3) (g' := (mkF m 14 #[.val (.int x0), .val (.int x1), .val (.int x2), .unset, .unset, .unset, .unset] [(.ref b2)])) (fun t k => st3 _ k) ?_
  refine Runs.via (T' := T3) (g' := (mkF m 18 #[.val (.int x0), .val (.int x1), .val (.int x2), .unset, .unset, .unset, .unset] [(.int (95 : Int32)), (.int (2 : Int32)), (.ref b2), (.ref b2)])) (fun t k => ?_) ?_
  · show Steps p.tables e below (T3.setTop (mkF m 14 #[.val (.int x0), .val (.int x1), .val (.int x2), .unset, .unset, .unset, .unset] [(.ref b2)])) t
    refine XS.dup X3.here hx rfl (hb hby at_14) rfl rfl ?_
    show Steps p.tables e below (T3.setTop (mkF m 15 #[.val (.int x0), .val (.int x1), .val (.int x2), .unset, .unset, .unset, .unset] [(.ref b2), (.ref b2)])) t
    refine XS.iconst X3.here hx rfl (hb hby at_15) ?_
    show Steps p.tables e below (T3.setTop (mkF m 16 #[.val (.int x0), .val (.int x1), .val (.int x2), .unset, .unset, .unset, .unset] [(.int (2 : Int32)), (.ref b2), (.ref b2)])) t
    refine XS.bipush X3.here hx rfl (hb hby at_16) ?_
    exact k
  refine bindE hr ?_; intro v4 hv4 hr
  obtain ⟨T4, h4, X4, e4, W4, A4, st4⟩ := soI X3 hx hZ e3 A_b2_3 hv4 (g := (mkF m 18 #[.val (.int x0), .val (.int x1), .val (.int x2), .unset, .unset, .unset, .unset] [(.int (95 : Int32)), (.int (2 : Int32)), (.ref b2), (.ref b2)])) rfl rfl (hb hby at_18)
  have A_b2_4 : AI Z h4 b2 .int v4 := A4
  have N4 := Fr.snoc X4 N3 (by omega : n0 ≤ b2)
  have zz4 : n0 ≤ h4.size := Nat.le_trans zz3 (Keep.of_wr W4).1
  refine Runs.via (T' := T4) (g' := (mkF m 19 #[.val (.int x0), .val (.int x1), .val (.int x2), .unset, .unset, .unset, .unset] [(.ref b2)])) (fun t k => st4 _ k) ?_
  refine Runs.via (T' := T4) (g' := (mkF m 23 #[.val (.int x0), .val (.int x1), .val (.int x2), .unset, .unset, .unset, .unset] [(.int (97 : Int32)), (.int (3 : Int32)), (.ref b2), (.ref b2)])) (fun t k => ?_) ?_
  · show Steps p.tables e below (T4.setTop (mkF m 19 #[.val (.int x0), .val (.int x1), .val (.int x2), .unset, .unset, .unset, .unset] [(.ref b2)])) t
    refine XS.dup X4.here hx rfl (hb hby at_19) rfl rfl ?_
    show Steps p.tables e below (T4.setTop (mkF m 20 #[.val (.int x0), .val (.int x1), .val (.int x2), .unset, .unset, .unset, .unset] [(.ref b2), (.ref b2)])) t
    refine XS.iconst X4.here hx rfl (hb hby at_20) ?_
    show Steps p.tables e below (T4.setTop (mkF m 21 #[.val (.int x0), .val (.int x1), .val (.int x2), .unset, .unset, .unset, .unset] [(.int (3 : Int32)), (.ref b2), (.ref b2)])) t
    refine XS.bipush X4.here hx rfl (hb hby at_21) ?_
    exact k
  refine bindE hr ?_; intro v5 hv5 hr
  obtain ⟨T5, h5, X5, e5, W5, A5, st5⟩ := soI X4 hx hZ e4 A_b2_4 hv5 (g := (mkF m 23 #[.val (.int x0), .val (.int x1), .val (.int x2), .unset, .unset, .unset, .unset] [(.int (97 : Int32)), (.int (3 : Int32)), (.ref b2), (.ref b2)])) rfl rfl (hb hby at_23)
  have A_b2_5 : AI Z h5 b2 .int v5 := A5
  have N5 := Fr.snoc X5 N4 (by omega : n0 ≤ b2)
  have zz5 : n0 ≤ h5.size := Nat.le_trans zz4 (Keep.of_wr W5).1
  refine Runs.via (T' := T5) (g' := (mkF m 24 #[.val (.int x0), .val (.int x1), .val (.int x2), .unset, .unset, .unset, .unset] [(.ref b2)])) (fun t k => st5 _ k) ?_
  refine Runs.via (T' := T5) (g' := (mkF m 28 #[.val (.int x0), .val (.int x1), .val (.int x2), .unset, .unset, .unset, .unset] [(.int (122 : Int32)), (.int (4 : Int32)), (.ref b2), (.ref b2)])) (fun t k => ?_) ?_
  · show Steps p.tables e below (T5.setTop (mkF m 24 #[.val (.int x0), .val (.int x1), .val (.int x2), .unset, .unset, .unset, .unset] [(.ref b2)])) t
    refine XS.dup X5.here hx rfl (hb hby at_24) rfl rfl ?_
    show Steps p.tables e below (T5.setTop (mkF m 25 #[.val (.int x0), .val (.int x1), .val (.int x2), .unset, .unset, .unset, .unset] [(.ref b2), (.ref b2)])) t
    refine XS.iconst X5.here hx rfl (hb hby at_25) ?_
    show Steps p.tables e below (T5.setTop (mkF m 26 #[.val (.int x0), .val (.int x1), .val (.int x2), .unset, .unset, .unset, .unset] [(.int (4 : Int32)), (.ref b2), (.ref b2)])) t
    refine XS.bipush X5.here hx rfl (hb hby at_26) ?_
    exact k
  refine bindE hr ?_; intro v6 hv6 hr
  obtain ⟨T6, h6, X6, e6, W6, A6, st6⟩ := soI X5 hx hZ e5 A_b2_5 hv6 (g := (mkF m 28 #[.val (.int x0), .val (.int x1), .val (.int x2), .unset, .unset, .unset, .unset] [(.int (122 : Int32)), (.int (4 : Int32)), (.ref b2), (.ref b2)])) rfl rfl (hb hby at_28)
  have A_b2_6 : AI Z h6 b2 .int v6 := A6
  have N6 := Fr.snoc X6 N5 (by omega : n0 ≤ b2)
  have zz6 : n0 ≤ h6.size := Nat.le_trans zz5 (Keep.of_wr W6).1
  refine Runs.via (T' := T6) (g' := (mkF m 29 #[.val (.int x0), .val (.int x1), .val (.int x2), .unset, .unset, .unset, .unset] [(.ref b2)])) (fun t k => st6 _ k) ?_
  exact b0_29 C X6 e6 N6 (by show (cells + 1) ≤ 1; omega) (by show (slots + 29) ≤ 29; omega) zz6 b2 (by omega) v6 x0 x1 x2 A_b2_6 hr
def f0 (x0 : Int32) (x1 : Int32) (x2 : Int32) : Option (Int32) := g0_0 x0 x1 x2
theorem pn_0 : plainName "com/example/onto3/onto3/rdf/TermScannerIsNameStartCharPinLaw" = true := by first | (simp [plainName, overriddenIn]; done) | decide +kernel
theorem ef_0 (m : MethodId) (x0 : Int32) (x1 : Int32) (x2 : Int32) : entryFrame m #[(.int x0), (.int x1), (.int x2)] maxLocals = mkF m 0 #[.val (.int x0), .val (.int x1), .val (.int x2), .unset, .unset, .unset, .unset] [] := by first | (simp [entryFrame, mkF, argsToLocals, Value.category, maxLocals]; done) | rfl
set_option maxRecDepth 65536 in
set_option maxHeartbeats 4000000 in
theorem rm0 (l : Launch) (Z : State) (a0 : Array Value) (hw : ∀ d ∈ tables_1, d.before a0 Z = true) (ws : List Jvm.Cond) (x0 : Int32) (x1 : Int32) (x2 : Int32) (hE : Heap) (n0 : Nat) (Z0 : n0 ≤ hE.size) (r : Int32) (hr : f0 x0 x1 x2 = some r) :
    MetFree l x (head1 (Jvm.Cond.code x code maxLocals ret :: ws) room_1) (fun a U => a = #[(.int x0), (.int x1), (.int x2)] ∧ Z.Warmed39 U.vm ∧ U.heap = hE) (fun _ _ _ _ _ => True) (fun _ U o U' => ∃ v L, o = .returned v ∧ (P0 n0 r v U'.heap L) ∧ FrameEnd U o U' L 1 29) := by
  refine MetFree.of_bodySF (plainFor_of_name pn_0) hisR ?_
  intro p e s m args below meth c s₁ Bd hml0 hP hK
  obtain ⟨rfl, hZ, hh⟩ := hP
  have X0 : Stand p l e room_1 s m #[(.int x0), (.int x1), (.int x2)] below meth c s₁ [] 0 0 := Stand.of_body Bd
  have e0 : s₁.heap = hE := by rw [← hh, Bd.state]; rfl
  have C : Ctx p s m meth c Z a0 "com/example/onto3/onto3/rdf/TermScannerIsNameStartCharPinLaw" code 7 (some .boolean) "law" := ⟨Bd.exec, hZ, hw, Bd.bytes, hml0, findClass_of_methodNamed Bd.named, Bd.returns, BodyLoose.notSynchronized Bd, (name_of_methodNamed Bd.named Bd.method).1⟩
  refine Runs.via (fun t k => castTop (ef_0 m x0 x1 x2) k) (b0_0 C X0 e0 (Fr.nil n0) (by show 0 ≤ 0; omega) (by show 0 ≤ 0; omega) Z0 x0 x1 x2 hr)
end Own
theorem bindS {α β : Type} {x : Option α} {k : α → Option β} {r : Option β} {v : α} (h : x = some v) (H : k v = r) : x.bind k = r := by rw [h]; exact H
theorem letS {α β : Type} {x : α} {k : α → β} {r : β} (H : k x = r) : letO x k = r := H
theorem wrS {α β : Type} {n : Nat} {xs : List α} {j : Int32} {v : α} {k : List α → Option β} {r : Option β} (hl : xs.length = n) (h1 : ¬ j < 0) (h2 : j.toNatClampNeg < n) (H : ∀ ys : List α, ys.length = n → k ys = r) : (wrO xs j v).bind k = r := by
  refine bindS (v := xs.set j.toNatClampNeg v) ?_ (H _ (by simp [hl]))
  unfold wrO
  rw [if_neg]
  rintro (q | q)
  · exact h1 q
  · omega
theorem rdS {α β : Type} {n : Nat} {xs : List α} {j : Int32} {k : α → Option β} {r : Option β} (hl : xs.length = n) (h1 : ¬ j < 0) (h2 : j.toNatClampNeg < n) (H : ∀ v : α, k v = r) : (rdO xs j).bind k = r := by
  refine bindS (v := xs[j.toNatClampNeg]'(by omega)) ?_ (H _)
  unfold rdO
  rw [if_neg h1]
  exact List.getElem?_eq_getElem (by omega)
theorem own_irem (u d : Int32) (D : Int) (hd : d.toInt = D) (hD : 0 < D) (h0 : 0 ≤ u.toInt) : (u - (u / d) * d).toInt = u.toInt % D := by
  have hn : d ≠ -1 := fun q => by rw [q] at hd; have : (-1 : Int32).toInt = -1 := by decide
                                  omega
  have e1 := (c_idiv u d D hd hn).1 h0
  have e2 := c_imul (u / d) d
  have e3 := c_isub u ((u / d) * d)
  have r1 := rng32 u
  have r2 := rng32 ((u / d) * d)
  have r3 := rng32 (u - (u / d) * d)
  rw [hd, e1] at e2
  have e4 := Int.emod_add_mul_ediv u.toInt D
  have e5 := Int.emod_nonneg u.toInt (by omega : D ≠ 0)
  have e6 := Int.emod_lt_of_pos u.toInt hD
  have e7 : u.toInt / D * D = D * (u.toInt / D) := Int.mul_comm _ _
  rw [e7] at e2
  have e8 : 0 ≤ D * (u.toInt / D) := Int.mul_nonneg (by omega) (Int.ediv_nonneg h0 (by omega))
  omega
theorem own_pos (x : Int32) : 0 ≤ (x &&& (2147483647 : Int32)).toInt := by rw [c_mask x 2147483647 31 (by decide) (by decide)]; exact Int.emod_nonneg _ (by decide)
theorem own_idx {j : Int32} {n : Nat} (h0 : 0 ≤ j.toInt) (h1 : j.toInt < n) : ¬ j < 0 ∧ j.toNatClampNeg < n := by
  refine ⟨by rw [Int32.lt_iff_toInt_lt]; have : (0 : Int32).toInt = 0 := by decide
             omega, ?_⟩
  show j.toInt.toNat < n
  omega
theorem own_lt {x k : Int32} {hi : Int} (h : x.toInt < hi) (hk : hi ≤ k.toInt) : x < k := by rw [Int32.lt_iff_toInt_lt]; omega
theorem own_nlt {x k : Int32} {lo : Int} (h : lo ≤ x.toInt) (hk : k.toInt ≤ lo) : ¬ x < k := by rw [Int32.lt_iff_toInt_lt]; omega
theorem own_gt {x k : Int32} {lo : Int} (h : lo ≤ x.toInt) (hk : k.toInt < lo) : k < x := by rw [Int32.lt_iff_toInt_lt]; omega
theorem own_ngt {x k : Int32} {hi : Int} (h : x.toInt < hi) (hk : hi ≤ k.toInt + 1) : ¬ k < x := by rw [Int32.lt_iff_toInt_lt]; omega
theorem own_eq {x k : Int32} {lo hi : Int} (h1 : lo ≤ x.toInt) (h2 : x.toInt < hi) (hk : lo = k.toInt ∧ hi = k.toInt + 1) : x = k := Int32.toInt_inj.mp (by omega)
theorem own_ne1 {x k : Int32} {lo : Int} (h : lo ≤ x.toInt) (hk : k.toInt < lo) : ¬ x = k := fun q => by rw [q] at h; omega
theorem own_ne2 {x k : Int32} {hi : Int} (h : x.toInt < hi) (hk : hi ≤ k.toInt) : ¬ x = k := fun q => by rw [q] at h; omega
theorem own_iv_0 (x0 : Int32) (h1 : (-2147483648 : Int) ≤ x0.toInt) (h2 : x0.toInt < (0 : Int)) : f1 x0 = f3 x0 := by
  have q0 : x0 < (65 : Int32) := own_lt h2 (by decide)
  have q1 : x0 < (97 : Int32) := own_lt h2 (by decide)
  have q2 : x0 < (192 : Int32) := own_lt h2 (by decide)
  have q3 : x0 < (216 : Int32) := own_lt h2 (by decide)
  have q4 : x0 < (248 : Int32) := own_lt h2 (by decide)
  have q5 : x0 < (880 : Int32) := own_lt h2 (by decide)
  have q6 : x0 < (895 : Int32) := own_lt h2 (by decide)
  have q7 : x0 < (8204 : Int32) := own_lt h2 (by decide)
  have q8 : x0 < (8304 : Int32) := own_lt h2 (by decide)
  have q9 : x0 < (11264 : Int32) := own_lt h2 (by decide)
  have q10 : x0 < (12289 : Int32) := own_lt h2 (by decide)
  have q11 : x0 < (63744 : Int32) := own_lt h2 (by decide)
  have q12 : x0 < (65008 : Int32) := own_lt h2 (by decide)
  have q13 : x0 < (65536 : Int32) := own_lt h2 (by decide)
  have e_g2_178_x : g2_178 x0 = (0 : Int32) := (if_pos q13)
  have e_g2_164_x : g2_164 x0 = (0 : Int32) := ((if_pos q12).trans e_g2_178_x)
  have e_g2_150_x : g2_150 x0 = (0 : Int32) := ((if_pos q11).trans e_g2_164_x)
  have e_g2_136_x : g2_136 x0 = (0 : Int32) := ((if_pos q10).trans e_g2_150_x)
  have e_g2_122_x : g2_122 x0 = (0 : Int32) := ((if_pos q9).trans e_g2_136_x)
  have e_g2_108_x : g2_108 x0 = (0 : Int32) := ((if_pos q8).trans e_g2_122_x)
  have e_g2_94_x : g2_94 x0 = (0 : Int32) := ((if_pos q7).trans e_g2_108_x)
  have e_g2_80_x : g2_80 x0 = (0 : Int32) := ((if_pos q6).trans e_g2_94_x)
  have e_g2_66_x : g2_66 x0 = (0 : Int32) := ((if_pos q5).trans e_g2_80_x)
  have e_g2_52_x : g2_52 x0 = (0 : Int32) := ((if_pos q4).trans e_g2_66_x)
  have e_g2_38_x : g2_38 x0 = (0 : Int32) := ((if_pos q3).trans e_g2_52_x)
  have e_g2_24_x : g2_24 x0 = (0 : Int32) := ((if_pos q2).trans e_g2_38_x)
  have e_g2_12_x : g2_12 x0 = (0 : Int32) := ((if_pos q1).trans e_g2_24_x)
  have e_g2_0_x : g2_0 x0 = (0 : Int32) := ((if_pos q0).trans e_g2_12_x)
  have e_f2_x : f2 x0 = (0 : Int32) := e_g2_0_x
  have q14 : ¬ x0 = (95 : Int32) := own_ne2 h2 (by decide)
  have e_g1_0_x : g1_0 x0 = (0 : Int32) := ((if_pos (by rw [e_f2_x])).trans (if_neg q14))
  have e_f1_x : f1 x0 = (0 : Int32) := e_g1_0_x
  have e_g3_0_x : g3_0 x0 = (0 : Int32) := (if_pos q0)
  have e_f3_x : f3 x0 = (0 : Int32) := e_g3_0_x
  rw [e_f1_x, e_f3_x]
theorem own_iv_1 (x0 : Int32) (h1 : (0 : Int) ≤ x0.toInt) (h2 : x0.toInt < (1 : Int)) : f1 x0 = f3 x0 := by
  have q0 : x0 < (65 : Int32) := own_lt h2 (by decide)
  have q1 : x0 < (97 : Int32) := own_lt h2 (by decide)
  have q2 : x0 < (192 : Int32) := own_lt h2 (by decide)
  have q3 : x0 < (216 : Int32) := own_lt h2 (by decide)
  have q4 : x0 < (248 : Int32) := own_lt h2 (by decide)
  have q5 : x0 < (880 : Int32) := own_lt h2 (by decide)
  have q6 : x0 < (895 : Int32) := own_lt h2 (by decide)
  have q7 : x0 < (8204 : Int32) := own_lt h2 (by decide)
  have q8 : x0 < (8304 : Int32) := own_lt h2 (by decide)
  have q9 : x0 < (11264 : Int32) := own_lt h2 (by decide)
  have q10 : x0 < (12289 : Int32) := own_lt h2 (by decide)
  have q11 : x0 < (63744 : Int32) := own_lt h2 (by decide)
  have q12 : x0 < (65008 : Int32) := own_lt h2 (by decide)
  have q13 : x0 < (65536 : Int32) := own_lt h2 (by decide)
  have e_g2_178_x : g2_178 x0 = (0 : Int32) := (if_pos q13)
  have e_g2_164_x : g2_164 x0 = (0 : Int32) := ((if_pos q12).trans e_g2_178_x)
  have e_g2_150_x : g2_150 x0 = (0 : Int32) := ((if_pos q11).trans e_g2_164_x)
  have e_g2_136_x : g2_136 x0 = (0 : Int32) := ((if_pos q10).trans e_g2_150_x)
  have e_g2_122_x : g2_122 x0 = (0 : Int32) := ((if_pos q9).trans e_g2_136_x)
  have e_g2_108_x : g2_108 x0 = (0 : Int32) := ((if_pos q8).trans e_g2_122_x)
  have e_g2_94_x : g2_94 x0 = (0 : Int32) := ((if_pos q7).trans e_g2_108_x)
  have e_g2_80_x : g2_80 x0 = (0 : Int32) := ((if_pos q6).trans e_g2_94_x)
  have e_g2_66_x : g2_66 x0 = (0 : Int32) := ((if_pos q5).trans e_g2_80_x)
  have e_g2_52_x : g2_52 x0 = (0 : Int32) := ((if_pos q4).trans e_g2_66_x)
  have e_g2_38_x : g2_38 x0 = (0 : Int32) := ((if_pos q3).trans e_g2_52_x)
  have e_g2_24_x : g2_24 x0 = (0 : Int32) := ((if_pos q2).trans e_g2_38_x)
  have e_g2_12_x : g2_12 x0 = (0 : Int32) := ((if_pos q1).trans e_g2_24_x)
  have e_g2_0_x : g2_0 x0 = (0 : Int32) := ((if_pos q0).trans e_g2_12_x)
  have e_f2_x : f2 x0 = (0 : Int32) := e_g2_0_x
  have q14 : ¬ x0 = (95 : Int32) := own_ne2 h2 (by decide)
  have e_g1_0_x : g1_0 x0 = (0 : Int32) := ((if_pos (by rw [e_f2_x])).trans (if_neg q14))
  have e_f1_x : f1 x0 = (0 : Int32) := e_g1_0_x
  have e_g3_0_x : g3_0 x0 = (0 : Int32) := (if_pos q0)
  have e_f3_x : f3 x0 = (0 : Int32) := e_g3_0_x
  rw [e_f1_x, e_f3_x]
theorem own_iv_2 (x0 : Int32) (h1 : (1 : Int) ≤ x0.toInt) (h2 : x0.toInt < (2 : Int)) : f1 x0 = f3 x0 := by
  have q0 : x0 < (65 : Int32) := own_lt h2 (by decide)
  have q1 : x0 < (97 : Int32) := own_lt h2 (by decide)
  have q2 : x0 < (192 : Int32) := own_lt h2 (by decide)
  have q3 : x0 < (216 : Int32) := own_lt h2 (by decide)
  have q4 : x0 < (248 : Int32) := own_lt h2 (by decide)
  have q5 : x0 < (880 : Int32) := own_lt h2 (by decide)
  have q6 : x0 < (895 : Int32) := own_lt h2 (by decide)
  have q7 : x0 < (8204 : Int32) := own_lt h2 (by decide)
  have q8 : x0 < (8304 : Int32) := own_lt h2 (by decide)
  have q9 : x0 < (11264 : Int32) := own_lt h2 (by decide)
  have q10 : x0 < (12289 : Int32) := own_lt h2 (by decide)
  have q11 : x0 < (63744 : Int32) := own_lt h2 (by decide)
  have q12 : x0 < (65008 : Int32) := own_lt h2 (by decide)
  have q13 : x0 < (65536 : Int32) := own_lt h2 (by decide)
  have e_g2_178_x : g2_178 x0 = (0 : Int32) := (if_pos q13)
  have e_g2_164_x : g2_164 x0 = (0 : Int32) := ((if_pos q12).trans e_g2_178_x)
  have e_g2_150_x : g2_150 x0 = (0 : Int32) := ((if_pos q11).trans e_g2_164_x)
  have e_g2_136_x : g2_136 x0 = (0 : Int32) := ((if_pos q10).trans e_g2_150_x)
  have e_g2_122_x : g2_122 x0 = (0 : Int32) := ((if_pos q9).trans e_g2_136_x)
  have e_g2_108_x : g2_108 x0 = (0 : Int32) := ((if_pos q8).trans e_g2_122_x)
  have e_g2_94_x : g2_94 x0 = (0 : Int32) := ((if_pos q7).trans e_g2_108_x)
  have e_g2_80_x : g2_80 x0 = (0 : Int32) := ((if_pos q6).trans e_g2_94_x)
  have e_g2_66_x : g2_66 x0 = (0 : Int32) := ((if_pos q5).trans e_g2_80_x)
  have e_g2_52_x : g2_52 x0 = (0 : Int32) := ((if_pos q4).trans e_g2_66_x)
  have e_g2_38_x : g2_38 x0 = (0 : Int32) := ((if_pos q3).trans e_g2_52_x)
  have e_g2_24_x : g2_24 x0 = (0 : Int32) := ((if_pos q2).trans e_g2_38_x)
  have e_g2_12_x : g2_12 x0 = (0 : Int32) := ((if_pos q1).trans e_g2_24_x)
  have e_g2_0_x : g2_0 x0 = (0 : Int32) := ((if_pos q0).trans e_g2_12_x)
  have e_f2_x : f2 x0 = (0 : Int32) := e_g2_0_x
  have q14 : ¬ x0 = (95 : Int32) := own_ne2 h2 (by decide)
  have e_g1_0_x : g1_0 x0 = (0 : Int32) := ((if_pos (by rw [e_f2_x])).trans (if_neg q14))
  have e_f1_x : f1 x0 = (0 : Int32) := e_g1_0_x
  have e_g3_0_x : g3_0 x0 = (0 : Int32) := (if_pos q0)
  have e_f3_x : f3 x0 = (0 : Int32) := e_g3_0_x
  rw [e_f1_x, e_f3_x]
theorem own_iv_3 (x0 : Int32) (h1 : (2 : Int) ≤ x0.toInt) (h2 : x0.toInt < (65 : Int)) : f1 x0 = f3 x0 := by
  have q0 : x0 < (65 : Int32) := own_lt h2 (by decide)
  have q1 : x0 < (97 : Int32) := own_lt h2 (by decide)
  have q2 : x0 < (192 : Int32) := own_lt h2 (by decide)
  have q3 : x0 < (216 : Int32) := own_lt h2 (by decide)
  have q4 : x0 < (248 : Int32) := own_lt h2 (by decide)
  have q5 : x0 < (880 : Int32) := own_lt h2 (by decide)
  have q6 : x0 < (895 : Int32) := own_lt h2 (by decide)
  have q7 : x0 < (8204 : Int32) := own_lt h2 (by decide)
  have q8 : x0 < (8304 : Int32) := own_lt h2 (by decide)
  have q9 : x0 < (11264 : Int32) := own_lt h2 (by decide)
  have q10 : x0 < (12289 : Int32) := own_lt h2 (by decide)
  have q11 : x0 < (63744 : Int32) := own_lt h2 (by decide)
  have q12 : x0 < (65008 : Int32) := own_lt h2 (by decide)
  have q13 : x0 < (65536 : Int32) := own_lt h2 (by decide)
  have e_g2_178_x : g2_178 x0 = (0 : Int32) := (if_pos q13)
  have e_g2_164_x : g2_164 x0 = (0 : Int32) := ((if_pos q12).trans e_g2_178_x)
  have e_g2_150_x : g2_150 x0 = (0 : Int32) := ((if_pos q11).trans e_g2_164_x)
  have e_g2_136_x : g2_136 x0 = (0 : Int32) := ((if_pos q10).trans e_g2_150_x)
  have e_g2_122_x : g2_122 x0 = (0 : Int32) := ((if_pos q9).trans e_g2_136_x)
  have e_g2_108_x : g2_108 x0 = (0 : Int32) := ((if_pos q8).trans e_g2_122_x)
  have e_g2_94_x : g2_94 x0 = (0 : Int32) := ((if_pos q7).trans e_g2_108_x)
  have e_g2_80_x : g2_80 x0 = (0 : Int32) := ((if_pos q6).trans e_g2_94_x)
  have e_g2_66_x : g2_66 x0 = (0 : Int32) := ((if_pos q5).trans e_g2_80_x)
  have e_g2_52_x : g2_52 x0 = (0 : Int32) := ((if_pos q4).trans e_g2_66_x)
  have e_g2_38_x : g2_38 x0 = (0 : Int32) := ((if_pos q3).trans e_g2_52_x)
  have e_g2_24_x : g2_24 x0 = (0 : Int32) := ((if_pos q2).trans e_g2_38_x)
  have e_g2_12_x : g2_12 x0 = (0 : Int32) := ((if_pos q1).trans e_g2_24_x)
  have e_g2_0_x : g2_0 x0 = (0 : Int32) := ((if_pos q0).trans e_g2_12_x)
  have e_f2_x : f2 x0 = (0 : Int32) := e_g2_0_x
  have q14 : ¬ x0 = (95 : Int32) := own_ne2 h2 (by decide)
  have e_g1_0_x : g1_0 x0 = (0 : Int32) := ((if_pos (by rw [e_f2_x])).trans (if_neg q14))
  have e_f1_x : f1 x0 = (0 : Int32) := e_g1_0_x
  have e_g3_0_x : g3_0 x0 = (0 : Int32) := (if_pos q0)
  have e_f3_x : f3 x0 = (0 : Int32) := e_g3_0_x
  rw [e_f1_x, e_f3_x]
theorem own_iv_4 (x0 : Int32) (h1 : (65 : Int) ≤ x0.toInt) (h2 : x0.toInt < (66 : Int)) : f1 x0 = f3 x0 := by
  have q0 : ¬ x0 < (65 : Int32) := own_nlt h1 (by decide)
  have q1 : ¬ (90 : Int32) < x0 := own_ngt h2 (by decide)
  have e_g2_0_x : g2_0 x0 = (1 : Int32) := ((if_neg q0).trans (if_neg q1))
  have e_f2_x : f2 x0 = (1 : Int32) := e_g2_0_x
  have e_g1_0_x : g1_0 x0 = (1 : Int32) := (if_neg (by rw [e_f2_x]; decide))
  have e_f1_x : f1 x0 = (1 : Int32) := e_g1_0_x
  have q2 : ¬ (983039 : Int32) < x0 := own_ngt h2 (by decide)
  have q3 : x0 < (91 : Int32) := own_lt h2 (by decide)
  have q4 : ¬ x0 = (96 : Int32) := own_ne2 h2 (by decide)
  have q5 : x0 < (123 : Int32) := own_lt h2 (by decide)
  have q6 : ¬ x0 = (215 : Int32) := own_ne2 h2 (by decide)
  have q7 : ¬ x0 = (247 : Int32) := own_ne2 h2 (by decide)
  have q8 : x0 < (768 : Int32) := own_lt h2 (by decide)
  have q9 : ¬ x0 = (894 : Int32) := own_ne2 h2 (by decide)
  have q10 : x0 < (8192 : Int32) := own_lt h2 (by decide)
  have q11 : x0 < (8206 : Int32) := own_lt h2 (by decide)
  have q12 : x0 < (8592 : Int32) := own_lt h2 (by decide)
  have q13 : x0 < (12272 : Int32) := own_lt h2 (by decide)
  have q14 : x0 < (55296 : Int32) := own_lt h2 (by decide)
  have q15 : x0 < (64976 : Int32) := own_lt h2 (by decide)
  have q16 : ¬ x0 = (65534 : Int32) := own_ne2 h2 (by decide)
  have q17 : ¬ x0 = (65535 : Int32) := own_ne2 h2 (by decide)
  have e_g3_184_x : g3_184 x0 = (1 : Int32) := ((if_neg q16).trans (if_neg q17))
  have e_g3_170_x : g3_170 x0 = (1 : Int32) := ((if_pos q15).trans e_g3_184_x)
  have e_g3_156_x : g3_156 x0 = (1 : Int32) := ((if_pos q14).trans e_g3_170_x)
  have e_g3_140_x : g3_140 x0 = (1 : Int32) := ((if_pos q13).trans e_g3_156_x)
  have e_g3_124_x : g3_124 x0 = (1 : Int32) := ((if_pos q12).trans e_g3_140_x)
  have e_g3_108_x : g3_108 x0 = (1 : Int32) := ((if_pos q11).trans e_g3_124_x)
  have e_g3_83_x : g3_83 x0 = (1 : Int32) := ((if_neg q9).trans ((if_pos q10).trans e_g3_108_x))
  have e_g3_51_x : g3_51 x0 = (1 : Int32) := ((if_neg q6).trans ((if_neg q7).trans ((if_pos q8).trans e_g3_83_x)))
  have e_g3_28_x : g3_28 x0 = (1 : Int32) := ((if_neg q4).trans ((if_pos q5).trans e_g3_51_x))
  have e_g3_0_x : g3_0 x0 = (1 : Int32) := ((if_neg q0).trans ((if_neg q2).trans ((if_pos q3).trans e_g3_28_x)))
  have e_f3_x : f3 x0 = (1 : Int32) := e_g3_0_x
  rw [e_f1_x, e_f3_x]
theorem own_iv_5 (x0 : Int32) (h1 : (66 : Int) ≤ x0.toInt) (h2 : x0.toInt < (90 : Int)) : f1 x0 = f3 x0 := by
  have q0 : ¬ x0 < (65 : Int32) := own_nlt h1 (by decide)
  have q1 : ¬ (90 : Int32) < x0 := own_ngt h2 (by decide)
  have e_g2_0_x : g2_0 x0 = (1 : Int32) := ((if_neg q0).trans (if_neg q1))
  have e_f2_x : f2 x0 = (1 : Int32) := e_g2_0_x
  have e_g1_0_x : g1_0 x0 = (1 : Int32) := (if_neg (by rw [e_f2_x]; decide))
  have e_f1_x : f1 x0 = (1 : Int32) := e_g1_0_x
  have q2 : ¬ (983039 : Int32) < x0 := own_ngt h2 (by decide)
  have q3 : x0 < (91 : Int32) := own_lt h2 (by decide)
  have q4 : ¬ x0 = (96 : Int32) := own_ne2 h2 (by decide)
  have q5 : x0 < (123 : Int32) := own_lt h2 (by decide)
  have q6 : ¬ x0 = (215 : Int32) := own_ne2 h2 (by decide)
  have q7 : ¬ x0 = (247 : Int32) := own_ne2 h2 (by decide)
  have q8 : x0 < (768 : Int32) := own_lt h2 (by decide)
  have q9 : ¬ x0 = (894 : Int32) := own_ne2 h2 (by decide)
  have q10 : x0 < (8192 : Int32) := own_lt h2 (by decide)
  have q11 : x0 < (8206 : Int32) := own_lt h2 (by decide)
  have q12 : x0 < (8592 : Int32) := own_lt h2 (by decide)
  have q13 : x0 < (12272 : Int32) := own_lt h2 (by decide)
  have q14 : x0 < (55296 : Int32) := own_lt h2 (by decide)
  have q15 : x0 < (64976 : Int32) := own_lt h2 (by decide)
  have q16 : ¬ x0 = (65534 : Int32) := own_ne2 h2 (by decide)
  have q17 : ¬ x0 = (65535 : Int32) := own_ne2 h2 (by decide)
  have e_g3_184_x : g3_184 x0 = (1 : Int32) := ((if_neg q16).trans (if_neg q17))
  have e_g3_170_x : g3_170 x0 = (1 : Int32) := ((if_pos q15).trans e_g3_184_x)
  have e_g3_156_x : g3_156 x0 = (1 : Int32) := ((if_pos q14).trans e_g3_170_x)
  have e_g3_140_x : g3_140 x0 = (1 : Int32) := ((if_pos q13).trans e_g3_156_x)
  have e_g3_124_x : g3_124 x0 = (1 : Int32) := ((if_pos q12).trans e_g3_140_x)
  have e_g3_108_x : g3_108 x0 = (1 : Int32) := ((if_pos q11).trans e_g3_124_x)
  have e_g3_83_x : g3_83 x0 = (1 : Int32) := ((if_neg q9).trans ((if_pos q10).trans e_g3_108_x))
  have e_g3_51_x : g3_51 x0 = (1 : Int32) := ((if_neg q6).trans ((if_neg q7).trans ((if_pos q8).trans e_g3_83_x)))
  have e_g3_28_x : g3_28 x0 = (1 : Int32) := ((if_neg q4).trans ((if_pos q5).trans e_g3_51_x))
  have e_g3_0_x : g3_0 x0 = (1 : Int32) := ((if_neg q0).trans ((if_neg q2).trans ((if_pos q3).trans e_g3_28_x)))
  have e_f3_x : f3 x0 = (1 : Int32) := e_g3_0_x
  rw [e_f1_x, e_f3_x]
theorem own_iv_6 (x0 : Int32) (h1 : (90 : Int) ≤ x0.toInt) (h2 : x0.toInt < (91 : Int)) : f1 x0 = f3 x0 := by
  have q0 : ¬ x0 < (65 : Int32) := own_nlt h1 (by decide)
  have q1 : ¬ (90 : Int32) < x0 := own_ngt h2 (by decide)
  have e_g2_0_x : g2_0 x0 = (1 : Int32) := ((if_neg q0).trans (if_neg q1))
  have e_f2_x : f2 x0 = (1 : Int32) := e_g2_0_x
  have e_g1_0_x : g1_0 x0 = (1 : Int32) := (if_neg (by rw [e_f2_x]; decide))
  have e_f1_x : f1 x0 = (1 : Int32) := e_g1_0_x
  have q2 : ¬ (983039 : Int32) < x0 := own_ngt h2 (by decide)
  have q3 : x0 < (91 : Int32) := own_lt h2 (by decide)
  have q4 : ¬ x0 = (96 : Int32) := own_ne2 h2 (by decide)
  have q5 : x0 < (123 : Int32) := own_lt h2 (by decide)
  have q6 : ¬ x0 = (215 : Int32) := own_ne2 h2 (by decide)
  have q7 : ¬ x0 = (247 : Int32) := own_ne2 h2 (by decide)
  have q8 : x0 < (768 : Int32) := own_lt h2 (by decide)
  have q9 : ¬ x0 = (894 : Int32) := own_ne2 h2 (by decide)
  have q10 : x0 < (8192 : Int32) := own_lt h2 (by decide)
  have q11 : x0 < (8206 : Int32) := own_lt h2 (by decide)
  have q12 : x0 < (8592 : Int32) := own_lt h2 (by decide)
  have q13 : x0 < (12272 : Int32) := own_lt h2 (by decide)
  have q14 : x0 < (55296 : Int32) := own_lt h2 (by decide)
  have q15 : x0 < (64976 : Int32) := own_lt h2 (by decide)
  have q16 : ¬ x0 = (65534 : Int32) := own_ne2 h2 (by decide)
  have q17 : ¬ x0 = (65535 : Int32) := own_ne2 h2 (by decide)
  have e_g3_184_x : g3_184 x0 = (1 : Int32) := ((if_neg q16).trans (if_neg q17))
  have e_g3_170_x : g3_170 x0 = (1 : Int32) := ((if_pos q15).trans e_g3_184_x)
  have e_g3_156_x : g3_156 x0 = (1 : Int32) := ((if_pos q14).trans e_g3_170_x)
  have e_g3_140_x : g3_140 x0 = (1 : Int32) := ((if_pos q13).trans e_g3_156_x)
  have e_g3_124_x : g3_124 x0 = (1 : Int32) := ((if_pos q12).trans e_g3_140_x)
  have e_g3_108_x : g3_108 x0 = (1 : Int32) := ((if_pos q11).trans e_g3_124_x)
  have e_g3_83_x : g3_83 x0 = (1 : Int32) := ((if_neg q9).trans ((if_pos q10).trans e_g3_108_x))
  have e_g3_51_x : g3_51 x0 = (1 : Int32) := ((if_neg q6).trans ((if_neg q7).trans ((if_pos q8).trans e_g3_83_x)))
  have e_g3_28_x : g3_28 x0 = (1 : Int32) := ((if_neg q4).trans ((if_pos q5).trans e_g3_51_x))
  have e_g3_0_x : g3_0 x0 = (1 : Int32) := ((if_neg q0).trans ((if_neg q2).trans ((if_pos q3).trans e_g3_28_x)))
  have e_f3_x : f3 x0 = (1 : Int32) := e_g3_0_x
  rw [e_f1_x, e_f3_x]
theorem own_iv_7 (x0 : Int32) (h1 : (91 : Int) ≤ x0.toInt) (h2 : x0.toInt < (92 : Int)) : f1 x0 = f3 x0 := by
  have q0 : ¬ x0 < (65 : Int32) := own_nlt h1 (by decide)
  have q1 : (90 : Int32) < x0 := own_gt h1 (by decide)
  have q2 : x0 < (97 : Int32) := own_lt h2 (by decide)
  have q3 : x0 < (192 : Int32) := own_lt h2 (by decide)
  have q4 : x0 < (216 : Int32) := own_lt h2 (by decide)
  have q5 : x0 < (248 : Int32) := own_lt h2 (by decide)
  have q6 : x0 < (880 : Int32) := own_lt h2 (by decide)
  have q7 : x0 < (895 : Int32) := own_lt h2 (by decide)
  have q8 : x0 < (8204 : Int32) := own_lt h2 (by decide)
  have q9 : x0 < (8304 : Int32) := own_lt h2 (by decide)
  have q10 : x0 < (11264 : Int32) := own_lt h2 (by decide)
  have q11 : x0 < (12289 : Int32) := own_lt h2 (by decide)
  have q12 : x0 < (63744 : Int32) := own_lt h2 (by decide)
  have q13 : x0 < (65008 : Int32) := own_lt h2 (by decide)
  have q14 : x0 < (65536 : Int32) := own_lt h2 (by decide)
  have e_g2_178_x : g2_178 x0 = (0 : Int32) := (if_pos q14)
  have e_g2_164_x : g2_164 x0 = (0 : Int32) := ((if_pos q13).trans e_g2_178_x)
  have e_g2_150_x : g2_150 x0 = (0 : Int32) := ((if_pos q12).trans e_g2_164_x)
  have e_g2_136_x : g2_136 x0 = (0 : Int32) := ((if_pos q11).trans e_g2_150_x)
  have e_g2_122_x : g2_122 x0 = (0 : Int32) := ((if_pos q10).trans e_g2_136_x)
  have e_g2_108_x : g2_108 x0 = (0 : Int32) := ((if_pos q9).trans e_g2_122_x)
  have e_g2_94_x : g2_94 x0 = (0 : Int32) := ((if_pos q8).trans e_g2_108_x)
  have e_g2_80_x : g2_80 x0 = (0 : Int32) := ((if_pos q7).trans e_g2_94_x)
  have e_g2_66_x : g2_66 x0 = (0 : Int32) := ((if_pos q6).trans e_g2_80_x)
  have e_g2_52_x : g2_52 x0 = (0 : Int32) := ((if_pos q5).trans e_g2_66_x)
  have e_g2_38_x : g2_38 x0 = (0 : Int32) := ((if_pos q4).trans e_g2_52_x)
  have e_g2_24_x : g2_24 x0 = (0 : Int32) := ((if_pos q3).trans e_g2_38_x)
  have e_g2_12_x : g2_12 x0 = (0 : Int32) := ((if_pos q2).trans e_g2_24_x)
  have e_g2_0_x : g2_0 x0 = (0 : Int32) := ((if_neg q0).trans ((if_pos q1).trans e_g2_12_x))
  have e_f2_x : f2 x0 = (0 : Int32) := e_g2_0_x
  have q15 : ¬ x0 = (95 : Int32) := own_ne2 h2 (by decide)
  have e_g1_0_x : g1_0 x0 = (0 : Int32) := ((if_pos (by rw [e_f2_x])).trans (if_neg q15))
  have e_f1_x : f1 x0 = (0 : Int32) := e_g1_0_x
  have q16 : ¬ (983039 : Int32) < x0 := own_ngt h2 (by decide)
  have q17 : ¬ x0 < (91 : Int32) := own_nlt h1 (by decide)
  have q18 : ¬ (94 : Int32) < x0 := own_ngt h2 (by decide)
  have e_g3_0_x : g3_0 x0 = (0 : Int32) := ((if_neg q0).trans ((if_neg q16).trans ((if_neg q17).trans (if_neg q18))))
  have e_f3_x : f3 x0 = (0 : Int32) := e_g3_0_x
  rw [e_f1_x, e_f3_x]
theorem own_iv_8 (x0 : Int32) (h1 : (92 : Int) ≤ x0.toInt) (h2 : x0.toInt < (94 : Int)) : f1 x0 = f3 x0 := by
  have q0 : ¬ x0 < (65 : Int32) := own_nlt h1 (by decide)
  have q1 : (90 : Int32) < x0 := own_gt h1 (by decide)
  have q2 : x0 < (97 : Int32) := own_lt h2 (by decide)
  have q3 : x0 < (192 : Int32) := own_lt h2 (by decide)
  have q4 : x0 < (216 : Int32) := own_lt h2 (by decide)
  have q5 : x0 < (248 : Int32) := own_lt h2 (by decide)
  have q6 : x0 < (880 : Int32) := own_lt h2 (by decide)
  have q7 : x0 < (895 : Int32) := own_lt h2 (by decide)
  have q8 : x0 < (8204 : Int32) := own_lt h2 (by decide)
  have q9 : x0 < (8304 : Int32) := own_lt h2 (by decide)
  have q10 : x0 < (11264 : Int32) := own_lt h2 (by decide)
  have q11 : x0 < (12289 : Int32) := own_lt h2 (by decide)
  have q12 : x0 < (63744 : Int32) := own_lt h2 (by decide)
  have q13 : x0 < (65008 : Int32) := own_lt h2 (by decide)
  have q14 : x0 < (65536 : Int32) := own_lt h2 (by decide)
  have e_g2_178_x : g2_178 x0 = (0 : Int32) := (if_pos q14)
  have e_g2_164_x : g2_164 x0 = (0 : Int32) := ((if_pos q13).trans e_g2_178_x)
  have e_g2_150_x : g2_150 x0 = (0 : Int32) := ((if_pos q12).trans e_g2_164_x)
  have e_g2_136_x : g2_136 x0 = (0 : Int32) := ((if_pos q11).trans e_g2_150_x)
  have e_g2_122_x : g2_122 x0 = (0 : Int32) := ((if_pos q10).trans e_g2_136_x)
  have e_g2_108_x : g2_108 x0 = (0 : Int32) := ((if_pos q9).trans e_g2_122_x)
  have e_g2_94_x : g2_94 x0 = (0 : Int32) := ((if_pos q8).trans e_g2_108_x)
  have e_g2_80_x : g2_80 x0 = (0 : Int32) := ((if_pos q7).trans e_g2_94_x)
  have e_g2_66_x : g2_66 x0 = (0 : Int32) := ((if_pos q6).trans e_g2_80_x)
  have e_g2_52_x : g2_52 x0 = (0 : Int32) := ((if_pos q5).trans e_g2_66_x)
  have e_g2_38_x : g2_38 x0 = (0 : Int32) := ((if_pos q4).trans e_g2_52_x)
  have e_g2_24_x : g2_24 x0 = (0 : Int32) := ((if_pos q3).trans e_g2_38_x)
  have e_g2_12_x : g2_12 x0 = (0 : Int32) := ((if_pos q2).trans e_g2_24_x)
  have e_g2_0_x : g2_0 x0 = (0 : Int32) := ((if_neg q0).trans ((if_pos q1).trans e_g2_12_x))
  have e_f2_x : f2 x0 = (0 : Int32) := e_g2_0_x
  have q15 : ¬ x0 = (95 : Int32) := own_ne2 h2 (by decide)
  have e_g1_0_x : g1_0 x0 = (0 : Int32) := ((if_pos (by rw [e_f2_x])).trans (if_neg q15))
  have e_f1_x : f1 x0 = (0 : Int32) := e_g1_0_x
  have q16 : ¬ (983039 : Int32) < x0 := own_ngt h2 (by decide)
  have q17 : ¬ x0 < (91 : Int32) := own_nlt h1 (by decide)
  have q18 : ¬ (94 : Int32) < x0 := own_ngt h2 (by decide)
  have e_g3_0_x : g3_0 x0 = (0 : Int32) := ((if_neg q0).trans ((if_neg q16).trans ((if_neg q17).trans (if_neg q18))))
  have e_f3_x : f3 x0 = (0 : Int32) := e_g3_0_x
  rw [e_f1_x, e_f3_x]
theorem own_iv_9 (x0 : Int32) (h1 : (94 : Int) ≤ x0.toInt) (h2 : x0.toInt < (95 : Int)) : f1 x0 = f3 x0 := by
  have q0 : ¬ x0 < (65 : Int32) := own_nlt h1 (by decide)
  have q1 : (90 : Int32) < x0 := own_gt h1 (by decide)
  have q2 : x0 < (97 : Int32) := own_lt h2 (by decide)
  have q3 : x0 < (192 : Int32) := own_lt h2 (by decide)
  have q4 : x0 < (216 : Int32) := own_lt h2 (by decide)
  have q5 : x0 < (248 : Int32) := own_lt h2 (by decide)
  have q6 : x0 < (880 : Int32) := own_lt h2 (by decide)
  have q7 : x0 < (895 : Int32) := own_lt h2 (by decide)
  have q8 : x0 < (8204 : Int32) := own_lt h2 (by decide)
  have q9 : x0 < (8304 : Int32) := own_lt h2 (by decide)
  have q10 : x0 < (11264 : Int32) := own_lt h2 (by decide)
  have q11 : x0 < (12289 : Int32) := own_lt h2 (by decide)
  have q12 : x0 < (63744 : Int32) := own_lt h2 (by decide)
  have q13 : x0 < (65008 : Int32) := own_lt h2 (by decide)
  have q14 : x0 < (65536 : Int32) := own_lt h2 (by decide)
  have e_g2_178_x : g2_178 x0 = (0 : Int32) := (if_pos q14)
  have e_g2_164_x : g2_164 x0 = (0 : Int32) := ((if_pos q13).trans e_g2_178_x)
  have e_g2_150_x : g2_150 x0 = (0 : Int32) := ((if_pos q12).trans e_g2_164_x)
  have e_g2_136_x : g2_136 x0 = (0 : Int32) := ((if_pos q11).trans e_g2_150_x)
  have e_g2_122_x : g2_122 x0 = (0 : Int32) := ((if_pos q10).trans e_g2_136_x)
  have e_g2_108_x : g2_108 x0 = (0 : Int32) := ((if_pos q9).trans e_g2_122_x)
  have e_g2_94_x : g2_94 x0 = (0 : Int32) := ((if_pos q8).trans e_g2_108_x)
  have e_g2_80_x : g2_80 x0 = (0 : Int32) := ((if_pos q7).trans e_g2_94_x)
  have e_g2_66_x : g2_66 x0 = (0 : Int32) := ((if_pos q6).trans e_g2_80_x)
  have e_g2_52_x : g2_52 x0 = (0 : Int32) := ((if_pos q5).trans e_g2_66_x)
  have e_g2_38_x : g2_38 x0 = (0 : Int32) := ((if_pos q4).trans e_g2_52_x)
  have e_g2_24_x : g2_24 x0 = (0 : Int32) := ((if_pos q3).trans e_g2_38_x)
  have e_g2_12_x : g2_12 x0 = (0 : Int32) := ((if_pos q2).trans e_g2_24_x)
  have e_g2_0_x : g2_0 x0 = (0 : Int32) := ((if_neg q0).trans ((if_pos q1).trans e_g2_12_x))
  have e_f2_x : f2 x0 = (0 : Int32) := e_g2_0_x
  have q15 : ¬ x0 = (95 : Int32) := own_ne2 h2 (by decide)
  have e_g1_0_x : g1_0 x0 = (0 : Int32) := ((if_pos (by rw [e_f2_x])).trans (if_neg q15))
  have e_f1_x : f1 x0 = (0 : Int32) := e_g1_0_x
  have q16 : ¬ (983039 : Int32) < x0 := own_ngt h2 (by decide)
  have q17 : ¬ x0 < (91 : Int32) := own_nlt h1 (by decide)
  have q18 : ¬ (94 : Int32) < x0 := own_ngt h2 (by decide)
  have e_g3_0_x : g3_0 x0 = (0 : Int32) := ((if_neg q0).trans ((if_neg q16).trans ((if_neg q17).trans (if_neg q18))))
  have e_f3_x : f3 x0 = (0 : Int32) := e_g3_0_x
  rw [e_f1_x, e_f3_x]
theorem own_iv_10 (x0 : Int32) (h1 : (95 : Int) ≤ x0.toInt) (h2 : x0.toInt < (96 : Int)) : f1 x0 = f3 x0 := by
  have q0 : ¬ x0 < (65 : Int32) := own_nlt h1 (by decide)
  have q1 : (90 : Int32) < x0 := own_gt h1 (by decide)
  have q2 : x0 < (97 : Int32) := own_lt h2 (by decide)
  have q3 : x0 < (192 : Int32) := own_lt h2 (by decide)
  have q4 : x0 < (216 : Int32) := own_lt h2 (by decide)
  have q5 : x0 < (248 : Int32) := own_lt h2 (by decide)
  have q6 : x0 < (880 : Int32) := own_lt h2 (by decide)
  have q7 : x0 < (895 : Int32) := own_lt h2 (by decide)
  have q8 : x0 < (8204 : Int32) := own_lt h2 (by decide)
  have q9 : x0 < (8304 : Int32) := own_lt h2 (by decide)
  have q10 : x0 < (11264 : Int32) := own_lt h2 (by decide)
  have q11 : x0 < (12289 : Int32) := own_lt h2 (by decide)
  have q12 : x0 < (63744 : Int32) := own_lt h2 (by decide)
  have q13 : x0 < (65008 : Int32) := own_lt h2 (by decide)
  have q14 : x0 < (65536 : Int32) := own_lt h2 (by decide)
  have e_g2_178_x : g2_178 x0 = (0 : Int32) := (if_pos q14)
  have e_g2_164_x : g2_164 x0 = (0 : Int32) := ((if_pos q13).trans e_g2_178_x)
  have e_g2_150_x : g2_150 x0 = (0 : Int32) := ((if_pos q12).trans e_g2_164_x)
  have e_g2_136_x : g2_136 x0 = (0 : Int32) := ((if_pos q11).trans e_g2_150_x)
  have e_g2_122_x : g2_122 x0 = (0 : Int32) := ((if_pos q10).trans e_g2_136_x)
  have e_g2_108_x : g2_108 x0 = (0 : Int32) := ((if_pos q9).trans e_g2_122_x)
  have e_g2_94_x : g2_94 x0 = (0 : Int32) := ((if_pos q8).trans e_g2_108_x)
  have e_g2_80_x : g2_80 x0 = (0 : Int32) := ((if_pos q7).trans e_g2_94_x)
  have e_g2_66_x : g2_66 x0 = (0 : Int32) := ((if_pos q6).trans e_g2_80_x)
  have e_g2_52_x : g2_52 x0 = (0 : Int32) := ((if_pos q5).trans e_g2_66_x)
  have e_g2_38_x : g2_38 x0 = (0 : Int32) := ((if_pos q4).trans e_g2_52_x)
  have e_g2_24_x : g2_24 x0 = (0 : Int32) := ((if_pos q3).trans e_g2_38_x)
  have e_g2_12_x : g2_12 x0 = (0 : Int32) := ((if_pos q2).trans e_g2_24_x)
  have e_g2_0_x : g2_0 x0 = (0 : Int32) := ((if_neg q0).trans ((if_pos q1).trans e_g2_12_x))
  have e_f2_x : f2 x0 = (0 : Int32) := e_g2_0_x
  have q15 : x0 = (95 : Int32) := own_eq h1 h2 (by decide)
  have e_g1_0_x : g1_0 x0 = (1 : Int32) := ((if_pos (by rw [e_f2_x])).trans (if_pos q15))
  have e_f1_x : f1 x0 = (1 : Int32) := e_g1_0_x
  have q16 : ¬ (983039 : Int32) < x0 := own_ngt h2 (by decide)
  have q17 : ¬ x0 < (91 : Int32) := own_nlt h1 (by decide)
  have q18 : (94 : Int32) < x0 := own_gt h1 (by decide)
  have q19 : ¬ x0 = (96 : Int32) := own_ne2 h2 (by decide)
  have q20 : x0 < (123 : Int32) := own_lt h2 (by decide)
  have q21 : ¬ x0 = (215 : Int32) := own_ne2 h2 (by decide)
  have q22 : ¬ x0 = (247 : Int32) := own_ne2 h2 (by decide)
  have q23 : x0 < (768 : Int32) := own_lt h2 (by decide)
  have q24 : ¬ x0 = (894 : Int32) := own_ne2 h2 (by decide)
  have q25 : x0 < (8192 : Int32) := own_lt h2 (by decide)
  have q26 : x0 < (8206 : Int32) := own_lt h2 (by decide)
  have q27 : x0 < (8592 : Int32) := own_lt h2 (by decide)
  have q28 : x0 < (12272 : Int32) := own_lt h2 (by decide)
  have q29 : x0 < (55296 : Int32) := own_lt h2 (by decide)
  have q30 : x0 < (64976 : Int32) := own_lt h2 (by decide)
  have q31 : ¬ x0 = (65534 : Int32) := own_ne2 h2 (by decide)
  have q32 : ¬ x0 = (65535 : Int32) := own_ne2 h2 (by decide)
  have e_g3_184_x : g3_184 x0 = (1 : Int32) := ((if_neg q31).trans (if_neg q32))
  have e_g3_170_x : g3_170 x0 = (1 : Int32) := ((if_pos q30).trans e_g3_184_x)
  have e_g3_156_x : g3_156 x0 = (1 : Int32) := ((if_pos q29).trans e_g3_170_x)
  have e_g3_140_x : g3_140 x0 = (1 : Int32) := ((if_pos q28).trans e_g3_156_x)
  have e_g3_124_x : g3_124 x0 = (1 : Int32) := ((if_pos q27).trans e_g3_140_x)
  have e_g3_108_x : g3_108 x0 = (1 : Int32) := ((if_pos q26).trans e_g3_124_x)
  have e_g3_83_x : g3_83 x0 = (1 : Int32) := ((if_neg q24).trans ((if_pos q25).trans e_g3_108_x))
  have e_g3_51_x : g3_51 x0 = (1 : Int32) := ((if_neg q21).trans ((if_neg q22).trans ((if_pos q23).trans e_g3_83_x)))
  have e_g3_28_x : g3_28 x0 = (1 : Int32) := ((if_neg q19).trans ((if_pos q20).trans e_g3_51_x))
  have e_g3_0_x : g3_0 x0 = (1 : Int32) := ((if_neg q0).trans ((if_neg q16).trans ((if_neg q17).trans ((if_pos q18).trans e_g3_28_x))))
  have e_f3_x : f3 x0 = (1 : Int32) := e_g3_0_x
  rw [e_f1_x, e_f3_x]
theorem own_iv_11 (x0 : Int32) (h1 : (96 : Int) ≤ x0.toInt) (h2 : x0.toInt < (97 : Int)) : f1 x0 = f3 x0 := by
  have q0 : ¬ x0 < (65 : Int32) := own_nlt h1 (by decide)
  have q1 : (90 : Int32) < x0 := own_gt h1 (by decide)
  have q2 : x0 < (97 : Int32) := own_lt h2 (by decide)
  have q3 : x0 < (192 : Int32) := own_lt h2 (by decide)
  have q4 : x0 < (216 : Int32) := own_lt h2 (by decide)
  have q5 : x0 < (248 : Int32) := own_lt h2 (by decide)
  have q6 : x0 < (880 : Int32) := own_lt h2 (by decide)
  have q7 : x0 < (895 : Int32) := own_lt h2 (by decide)
  have q8 : x0 < (8204 : Int32) := own_lt h2 (by decide)
  have q9 : x0 < (8304 : Int32) := own_lt h2 (by decide)
  have q10 : x0 < (11264 : Int32) := own_lt h2 (by decide)
  have q11 : x0 < (12289 : Int32) := own_lt h2 (by decide)
  have q12 : x0 < (63744 : Int32) := own_lt h2 (by decide)
  have q13 : x0 < (65008 : Int32) := own_lt h2 (by decide)
  have q14 : x0 < (65536 : Int32) := own_lt h2 (by decide)
  have e_g2_178_x : g2_178 x0 = (0 : Int32) := (if_pos q14)
  have e_g2_164_x : g2_164 x0 = (0 : Int32) := ((if_pos q13).trans e_g2_178_x)
  have e_g2_150_x : g2_150 x0 = (0 : Int32) := ((if_pos q12).trans e_g2_164_x)
  have e_g2_136_x : g2_136 x0 = (0 : Int32) := ((if_pos q11).trans e_g2_150_x)
  have e_g2_122_x : g2_122 x0 = (0 : Int32) := ((if_pos q10).trans e_g2_136_x)
  have e_g2_108_x : g2_108 x0 = (0 : Int32) := ((if_pos q9).trans e_g2_122_x)
  have e_g2_94_x : g2_94 x0 = (0 : Int32) := ((if_pos q8).trans e_g2_108_x)
  have e_g2_80_x : g2_80 x0 = (0 : Int32) := ((if_pos q7).trans e_g2_94_x)
  have e_g2_66_x : g2_66 x0 = (0 : Int32) := ((if_pos q6).trans e_g2_80_x)
  have e_g2_52_x : g2_52 x0 = (0 : Int32) := ((if_pos q5).trans e_g2_66_x)
  have e_g2_38_x : g2_38 x0 = (0 : Int32) := ((if_pos q4).trans e_g2_52_x)
  have e_g2_24_x : g2_24 x0 = (0 : Int32) := ((if_pos q3).trans e_g2_38_x)
  have e_g2_12_x : g2_12 x0 = (0 : Int32) := ((if_pos q2).trans e_g2_24_x)
  have e_g2_0_x : g2_0 x0 = (0 : Int32) := ((if_neg q0).trans ((if_pos q1).trans e_g2_12_x))
  have e_f2_x : f2 x0 = (0 : Int32) := e_g2_0_x
  have q15 : ¬ x0 = (95 : Int32) := own_ne1 h1 (by decide)
  have e_g1_0_x : g1_0 x0 = (0 : Int32) := ((if_pos (by rw [e_f2_x])).trans (if_neg q15))
  have e_f1_x : f1 x0 = (0 : Int32) := e_g1_0_x
  have q16 : ¬ (983039 : Int32) < x0 := own_ngt h2 (by decide)
  have q17 : ¬ x0 < (91 : Int32) := own_nlt h1 (by decide)
  have q18 : (94 : Int32) < x0 := own_gt h1 (by decide)
  have q19 : x0 = (96 : Int32) := own_eq h1 h2 (by decide)
  have e_g3_28_x : g3_28 x0 = (0 : Int32) := (if_pos q19)
  have e_g3_0_x : g3_0 x0 = (0 : Int32) := ((if_neg q0).trans ((if_neg q16).trans ((if_neg q17).trans ((if_pos q18).trans e_g3_28_x))))
  have e_f3_x : f3 x0 = (0 : Int32) := e_g3_0_x
  rw [e_f1_x, e_f3_x]
theorem own_iv_12 (x0 : Int32) (h1 : (97 : Int) ≤ x0.toInt) (h2 : x0.toInt < (98 : Int)) : f1 x0 = f3 x0 := by
  have q0 : ¬ x0 < (65 : Int32) := own_nlt h1 (by decide)
  have q1 : (90 : Int32) < x0 := own_gt h1 (by decide)
  have q2 : ¬ x0 < (97 : Int32) := own_nlt h1 (by decide)
  have q3 : ¬ (122 : Int32) < x0 := own_ngt h2 (by decide)
  have e_g2_12_x : g2_12 x0 = (1 : Int32) := ((if_neg q2).trans (if_neg q3))
  have e_g2_0_x : g2_0 x0 = (1 : Int32) := ((if_neg q0).trans ((if_pos q1).trans e_g2_12_x))
  have e_f2_x : f2 x0 = (1 : Int32) := e_g2_0_x
  have e_g1_0_x : g1_0 x0 = (1 : Int32) := (if_neg (by rw [e_f2_x]; decide))
  have e_f1_x : f1 x0 = (1 : Int32) := e_g1_0_x
  have q4 : ¬ (983039 : Int32) < x0 := own_ngt h2 (by decide)
  have q5 : ¬ x0 < (91 : Int32) := own_nlt h1 (by decide)
  have q6 : (94 : Int32) < x0 := own_gt h1 (by decide)
  have q7 : ¬ x0 = (96 : Int32) := own_ne1 h1 (by decide)
  have q8 : x0 < (123 : Int32) := own_lt h2 (by decide)
  have q9 : ¬ x0 = (215 : Int32) := own_ne2 h2 (by decide)
  have q10 : ¬ x0 = (247 : Int32) := own_ne2 h2 (by decide)
  have q11 : x0 < (768 : Int32) := own_lt h2 (by decide)
  have q12 : ¬ x0 = (894 : Int32) := own_ne2 h2 (by decide)
  have q13 : x0 < (8192 : Int32) := own_lt h2 (by decide)
  have q14 : x0 < (8206 : Int32) := own_lt h2 (by decide)
  have q15 : x0 < (8592 : Int32) := own_lt h2 (by decide)
  have q16 : x0 < (12272 : Int32) := own_lt h2 (by decide)
  have q17 : x0 < (55296 : Int32) := own_lt h2 (by decide)
  have q18 : x0 < (64976 : Int32) := own_lt h2 (by decide)
  have q19 : ¬ x0 = (65534 : Int32) := own_ne2 h2 (by decide)
  have q20 : ¬ x0 = (65535 : Int32) := own_ne2 h2 (by decide)
  have e_g3_184_x : g3_184 x0 = (1 : Int32) := ((if_neg q19).trans (if_neg q20))
  have e_g3_170_x : g3_170 x0 = (1 : Int32) := ((if_pos q18).trans e_g3_184_x)
  have e_g3_156_x : g3_156 x0 = (1 : Int32) := ((if_pos q17).trans e_g3_170_x)
  have e_g3_140_x : g3_140 x0 = (1 : Int32) := ((if_pos q16).trans e_g3_156_x)
  have e_g3_124_x : g3_124 x0 = (1 : Int32) := ((if_pos q15).trans e_g3_140_x)
  have e_g3_108_x : g3_108 x0 = (1 : Int32) := ((if_pos q14).trans e_g3_124_x)
  have e_g3_83_x : g3_83 x0 = (1 : Int32) := ((if_neg q12).trans ((if_pos q13).trans e_g3_108_x))
  have e_g3_51_x : g3_51 x0 = (1 : Int32) := ((if_neg q9).trans ((if_neg q10).trans ((if_pos q11).trans e_g3_83_x)))
  have e_g3_28_x : g3_28 x0 = (1 : Int32) := ((if_neg q7).trans ((if_pos q8).trans e_g3_51_x))
  have e_g3_0_x : g3_0 x0 = (1 : Int32) := ((if_neg q0).trans ((if_neg q4).trans ((if_neg q5).trans ((if_pos q6).trans e_g3_28_x))))
  have e_f3_x : f3 x0 = (1 : Int32) := e_g3_0_x
  rw [e_f1_x, e_f3_x]
theorem own_iv_13 (x0 : Int32) (h1 : (98 : Int) ≤ x0.toInt) (h2 : x0.toInt < (122 : Int)) : f1 x0 = f3 x0 := by
  have q0 : ¬ x0 < (65 : Int32) := own_nlt h1 (by decide)
  have q1 : (90 : Int32) < x0 := own_gt h1 (by decide)
  have q2 : ¬ x0 < (97 : Int32) := own_nlt h1 (by decide)
  have q3 : ¬ (122 : Int32) < x0 := own_ngt h2 (by decide)
  have e_g2_12_x : g2_12 x0 = (1 : Int32) := ((if_neg q2).trans (if_neg q3))
  have e_g2_0_x : g2_0 x0 = (1 : Int32) := ((if_neg q0).trans ((if_pos q1).trans e_g2_12_x))
  have e_f2_x : f2 x0 = (1 : Int32) := e_g2_0_x
  have e_g1_0_x : g1_0 x0 = (1 : Int32) := (if_neg (by rw [e_f2_x]; decide))
  have e_f1_x : f1 x0 = (1 : Int32) := e_g1_0_x
  have q4 : ¬ (983039 : Int32) < x0 := own_ngt h2 (by decide)
  have q5 : ¬ x0 < (91 : Int32) := own_nlt h1 (by decide)
  have q6 : (94 : Int32) < x0 := own_gt h1 (by decide)
  have q7 : ¬ x0 = (96 : Int32) := own_ne1 h1 (by decide)
  have q8 : x0 < (123 : Int32) := own_lt h2 (by decide)
  have q9 : ¬ x0 = (215 : Int32) := own_ne2 h2 (by decide)
  have q10 : ¬ x0 = (247 : Int32) := own_ne2 h2 (by decide)
  have q11 : x0 < (768 : Int32) := own_lt h2 (by decide)
  have q12 : ¬ x0 = (894 : Int32) := own_ne2 h2 (by decide)
  have q13 : x0 < (8192 : Int32) := own_lt h2 (by decide)
  have q14 : x0 < (8206 : Int32) := own_lt h2 (by decide)
  have q15 : x0 < (8592 : Int32) := own_lt h2 (by decide)
  have q16 : x0 < (12272 : Int32) := own_lt h2 (by decide)
  have q17 : x0 < (55296 : Int32) := own_lt h2 (by decide)
  have q18 : x0 < (64976 : Int32) := own_lt h2 (by decide)
  have q19 : ¬ x0 = (65534 : Int32) := own_ne2 h2 (by decide)
  have q20 : ¬ x0 = (65535 : Int32) := own_ne2 h2 (by decide)
  have e_g3_184_x : g3_184 x0 = (1 : Int32) := ((if_neg q19).trans (if_neg q20))
  have e_g3_170_x : g3_170 x0 = (1 : Int32) := ((if_pos q18).trans e_g3_184_x)
  have e_g3_156_x : g3_156 x0 = (1 : Int32) := ((if_pos q17).trans e_g3_170_x)
  have e_g3_140_x : g3_140 x0 = (1 : Int32) := ((if_pos q16).trans e_g3_156_x)
  have e_g3_124_x : g3_124 x0 = (1 : Int32) := ((if_pos q15).trans e_g3_140_x)
  have e_g3_108_x : g3_108 x0 = (1 : Int32) := ((if_pos q14).trans e_g3_124_x)
  have e_g3_83_x : g3_83 x0 = (1 : Int32) := ((if_neg q12).trans ((if_pos q13).trans e_g3_108_x))
  have e_g3_51_x : g3_51 x0 = (1 : Int32) := ((if_neg q9).trans ((if_neg q10).trans ((if_pos q11).trans e_g3_83_x)))
  have e_g3_28_x : g3_28 x0 = (1 : Int32) := ((if_neg q7).trans ((if_pos q8).trans e_g3_51_x))
  have e_g3_0_x : g3_0 x0 = (1 : Int32) := ((if_neg q0).trans ((if_neg q4).trans ((if_neg q5).trans ((if_pos q6).trans e_g3_28_x))))
  have e_f3_x : f3 x0 = (1 : Int32) := e_g3_0_x
  rw [e_f1_x, e_f3_x]
theorem own_iv_14 (x0 : Int32) (h1 : (122 : Int) ≤ x0.toInt) (h2 : x0.toInt < (123 : Int)) : f1 x0 = f3 x0 := by
  have q0 : ¬ x0 < (65 : Int32) := own_nlt h1 (by decide)
  have q1 : (90 : Int32) < x0 := own_gt h1 (by decide)
  have q2 : ¬ x0 < (97 : Int32) := own_nlt h1 (by decide)
  have q3 : ¬ (122 : Int32) < x0 := own_ngt h2 (by decide)
  have e_g2_12_x : g2_12 x0 = (1 : Int32) := ((if_neg q2).trans (if_neg q3))
  have e_g2_0_x : g2_0 x0 = (1 : Int32) := ((if_neg q0).trans ((if_pos q1).trans e_g2_12_x))
  have e_f2_x : f2 x0 = (1 : Int32) := e_g2_0_x
  have e_g1_0_x : g1_0 x0 = (1 : Int32) := (if_neg (by rw [e_f2_x]; decide))
  have e_f1_x : f1 x0 = (1 : Int32) := e_g1_0_x
  have q4 : ¬ (983039 : Int32) < x0 := own_ngt h2 (by decide)
  have q5 : ¬ x0 < (91 : Int32) := own_nlt h1 (by decide)
  have q6 : (94 : Int32) < x0 := own_gt h1 (by decide)
  have q7 : ¬ x0 = (96 : Int32) := own_ne1 h1 (by decide)
  have q8 : x0 < (123 : Int32) := own_lt h2 (by decide)
  have q9 : ¬ x0 = (215 : Int32) := own_ne2 h2 (by decide)
  have q10 : ¬ x0 = (247 : Int32) := own_ne2 h2 (by decide)
  have q11 : x0 < (768 : Int32) := own_lt h2 (by decide)
  have q12 : ¬ x0 = (894 : Int32) := own_ne2 h2 (by decide)
  have q13 : x0 < (8192 : Int32) := own_lt h2 (by decide)
  have q14 : x0 < (8206 : Int32) := own_lt h2 (by decide)
  have q15 : x0 < (8592 : Int32) := own_lt h2 (by decide)
  have q16 : x0 < (12272 : Int32) := own_lt h2 (by decide)
  have q17 : x0 < (55296 : Int32) := own_lt h2 (by decide)
  have q18 : x0 < (64976 : Int32) := own_lt h2 (by decide)
  have q19 : ¬ x0 = (65534 : Int32) := own_ne2 h2 (by decide)
  have q20 : ¬ x0 = (65535 : Int32) := own_ne2 h2 (by decide)
  have e_g3_184_x : g3_184 x0 = (1 : Int32) := ((if_neg q19).trans (if_neg q20))
  have e_g3_170_x : g3_170 x0 = (1 : Int32) := ((if_pos q18).trans e_g3_184_x)
  have e_g3_156_x : g3_156 x0 = (1 : Int32) := ((if_pos q17).trans e_g3_170_x)
  have e_g3_140_x : g3_140 x0 = (1 : Int32) := ((if_pos q16).trans e_g3_156_x)
  have e_g3_124_x : g3_124 x0 = (1 : Int32) := ((if_pos q15).trans e_g3_140_x)
  have e_g3_108_x : g3_108 x0 = (1 : Int32) := ((if_pos q14).trans e_g3_124_x)
  have e_g3_83_x : g3_83 x0 = (1 : Int32) := ((if_neg q12).trans ((if_pos q13).trans e_g3_108_x))
  have e_g3_51_x : g3_51 x0 = (1 : Int32) := ((if_neg q9).trans ((if_neg q10).trans ((if_pos q11).trans e_g3_83_x)))
  have e_g3_28_x : g3_28 x0 = (1 : Int32) := ((if_neg q7).trans ((if_pos q8).trans e_g3_51_x))
  have e_g3_0_x : g3_0 x0 = (1 : Int32) := ((if_neg q0).trans ((if_neg q4).trans ((if_neg q5).trans ((if_pos q6).trans e_g3_28_x))))
  have e_f3_x : f3 x0 = (1 : Int32) := e_g3_0_x
  rw [e_f1_x, e_f3_x]
theorem own_iv_15 (x0 : Int32) (h1 : (123 : Int) ≤ x0.toInt) (h2 : x0.toInt < (124 : Int)) : f1 x0 = f3 x0 := by
  have q0 : ¬ x0 < (65 : Int32) := own_nlt h1 (by decide)
  have q1 : (90 : Int32) < x0 := own_gt h1 (by decide)
  have q2 : ¬ x0 < (97 : Int32) := own_nlt h1 (by decide)
  have q3 : (122 : Int32) < x0 := own_gt h1 (by decide)
  have q4 : x0 < (192 : Int32) := own_lt h2 (by decide)
  have q5 : x0 < (216 : Int32) := own_lt h2 (by decide)
  have q6 : x0 < (248 : Int32) := own_lt h2 (by decide)
  have q7 : x0 < (880 : Int32) := own_lt h2 (by decide)
  have q8 : x0 < (895 : Int32) := own_lt h2 (by decide)
  have q9 : x0 < (8204 : Int32) := own_lt h2 (by decide)
  have q10 : x0 < (8304 : Int32) := own_lt h2 (by decide)
  have q11 : x0 < (11264 : Int32) := own_lt h2 (by decide)
  have q12 : x0 < (12289 : Int32) := own_lt h2 (by decide)
  have q13 : x0 < (63744 : Int32) := own_lt h2 (by decide)
  have q14 : x0 < (65008 : Int32) := own_lt h2 (by decide)
  have q15 : x0 < (65536 : Int32) := own_lt h2 (by decide)
  have e_g2_178_x : g2_178 x0 = (0 : Int32) := (if_pos q15)
  have e_g2_164_x : g2_164 x0 = (0 : Int32) := ((if_pos q14).trans e_g2_178_x)
  have e_g2_150_x : g2_150 x0 = (0 : Int32) := ((if_pos q13).trans e_g2_164_x)
  have e_g2_136_x : g2_136 x0 = (0 : Int32) := ((if_pos q12).trans e_g2_150_x)
  have e_g2_122_x : g2_122 x0 = (0 : Int32) := ((if_pos q11).trans e_g2_136_x)
  have e_g2_108_x : g2_108 x0 = (0 : Int32) := ((if_pos q10).trans e_g2_122_x)
  have e_g2_94_x : g2_94 x0 = (0 : Int32) := ((if_pos q9).trans e_g2_108_x)
  have e_g2_80_x : g2_80 x0 = (0 : Int32) := ((if_pos q8).trans e_g2_94_x)
  have e_g2_66_x : g2_66 x0 = (0 : Int32) := ((if_pos q7).trans e_g2_80_x)
  have e_g2_52_x : g2_52 x0 = (0 : Int32) := ((if_pos q6).trans e_g2_66_x)
  have e_g2_38_x : g2_38 x0 = (0 : Int32) := ((if_pos q5).trans e_g2_52_x)
  have e_g2_24_x : g2_24 x0 = (0 : Int32) := ((if_pos q4).trans e_g2_38_x)
  have e_g2_12_x : g2_12 x0 = (0 : Int32) := ((if_neg q2).trans ((if_pos q3).trans e_g2_24_x))
  have e_g2_0_x : g2_0 x0 = (0 : Int32) := ((if_neg q0).trans ((if_pos q1).trans e_g2_12_x))
  have e_f2_x : f2 x0 = (0 : Int32) := e_g2_0_x
  have q16 : ¬ x0 = (95 : Int32) := own_ne1 h1 (by decide)
  have e_g1_0_x : g1_0 x0 = (0 : Int32) := ((if_pos (by rw [e_f2_x])).trans (if_neg q16))
  have e_f1_x : f1 x0 = (0 : Int32) := e_g1_0_x
  have q17 : ¬ (983039 : Int32) < x0 := own_ngt h2 (by decide)
  have q18 : ¬ x0 < (91 : Int32) := own_nlt h1 (by decide)
  have q19 : (94 : Int32) < x0 := own_gt h1 (by decide)
  have q20 : ¬ x0 = (96 : Int32) := own_ne1 h1 (by decide)
  have q21 : ¬ x0 < (123 : Int32) := own_nlt h1 (by decide)
  have q22 : ¬ (191 : Int32) < x0 := own_ngt h2 (by decide)
  have e_g3_28_x : g3_28 x0 = (0 : Int32) := ((if_neg q20).trans ((if_neg q21).trans (if_neg q22)))
  have e_g3_0_x : g3_0 x0 = (0 : Int32) := ((if_neg q0).trans ((if_neg q17).trans ((if_neg q18).trans ((if_pos q19).trans e_g3_28_x))))
  have e_f3_x : f3 x0 = (0 : Int32) := e_g3_0_x
  rw [e_f1_x, e_f3_x]
theorem own_iv_16 (x0 : Int32) (h1 : (124 : Int) ≤ x0.toInt) (h2 : x0.toInt < (191 : Int)) : f1 x0 = f3 x0 := by
  have q0 : ¬ x0 < (65 : Int32) := own_nlt h1 (by decide)
  have q1 : (90 : Int32) < x0 := own_gt h1 (by decide)
  have q2 : ¬ x0 < (97 : Int32) := own_nlt h1 (by decide)
  have q3 : (122 : Int32) < x0 := own_gt h1 (by decide)
  have q4 : x0 < (192 : Int32) := own_lt h2 (by decide)
  have q5 : x0 < (216 : Int32) := own_lt h2 (by decide)
  have q6 : x0 < (248 : Int32) := own_lt h2 (by decide)
  have q7 : x0 < (880 : Int32) := own_lt h2 (by decide)
  have q8 : x0 < (895 : Int32) := own_lt h2 (by decide)
  have q9 : x0 < (8204 : Int32) := own_lt h2 (by decide)
  have q10 : x0 < (8304 : Int32) := own_lt h2 (by decide)
  have q11 : x0 < (11264 : Int32) := own_lt h2 (by decide)
  have q12 : x0 < (12289 : Int32) := own_lt h2 (by decide)
  have q13 : x0 < (63744 : Int32) := own_lt h2 (by decide)
  have q14 : x0 < (65008 : Int32) := own_lt h2 (by decide)
  have q15 : x0 < (65536 : Int32) := own_lt h2 (by decide)
  have e_g2_178_x : g2_178 x0 = (0 : Int32) := (if_pos q15)
  have e_g2_164_x : g2_164 x0 = (0 : Int32) := ((if_pos q14).trans e_g2_178_x)
  have e_g2_150_x : g2_150 x0 = (0 : Int32) := ((if_pos q13).trans e_g2_164_x)
  have e_g2_136_x : g2_136 x0 = (0 : Int32) := ((if_pos q12).trans e_g2_150_x)
  have e_g2_122_x : g2_122 x0 = (0 : Int32) := ((if_pos q11).trans e_g2_136_x)
  have e_g2_108_x : g2_108 x0 = (0 : Int32) := ((if_pos q10).trans e_g2_122_x)
  have e_g2_94_x : g2_94 x0 = (0 : Int32) := ((if_pos q9).trans e_g2_108_x)
  have e_g2_80_x : g2_80 x0 = (0 : Int32) := ((if_pos q8).trans e_g2_94_x)
  have e_g2_66_x : g2_66 x0 = (0 : Int32) := ((if_pos q7).trans e_g2_80_x)
  have e_g2_52_x : g2_52 x0 = (0 : Int32) := ((if_pos q6).trans e_g2_66_x)
  have e_g2_38_x : g2_38 x0 = (0 : Int32) := ((if_pos q5).trans e_g2_52_x)
  have e_g2_24_x : g2_24 x0 = (0 : Int32) := ((if_pos q4).trans e_g2_38_x)
  have e_g2_12_x : g2_12 x0 = (0 : Int32) := ((if_neg q2).trans ((if_pos q3).trans e_g2_24_x))
  have e_g2_0_x : g2_0 x0 = (0 : Int32) := ((if_neg q0).trans ((if_pos q1).trans e_g2_12_x))
  have e_f2_x : f2 x0 = (0 : Int32) := e_g2_0_x
  have q16 : ¬ x0 = (95 : Int32) := own_ne1 h1 (by decide)
  have e_g1_0_x : g1_0 x0 = (0 : Int32) := ((if_pos (by rw [e_f2_x])).trans (if_neg q16))
  have e_f1_x : f1 x0 = (0 : Int32) := e_g1_0_x
  have q17 : ¬ (983039 : Int32) < x0 := own_ngt h2 (by decide)
  have q18 : ¬ x0 < (91 : Int32) := own_nlt h1 (by decide)
  have q19 : (94 : Int32) < x0 := own_gt h1 (by decide)
  have q20 : ¬ x0 = (96 : Int32) := own_ne1 h1 (by decide)
  have q21 : ¬ x0 < (123 : Int32) := own_nlt h1 (by decide)
  have q22 : ¬ (191 : Int32) < x0 := own_ngt h2 (by decide)
  have e_g3_28_x : g3_28 x0 = (0 : Int32) := ((if_neg q20).trans ((if_neg q21).trans (if_neg q22)))
  have e_g3_0_x : g3_0 x0 = (0 : Int32) := ((if_neg q0).trans ((if_neg q17).trans ((if_neg q18).trans ((if_pos q19).trans e_g3_28_x))))
  have e_f3_x : f3 x0 = (0 : Int32) := e_g3_0_x
  rw [e_f1_x, e_f3_x]
theorem own_iv_17 (x0 : Int32) (h1 : (191 : Int) ≤ x0.toInt) (h2 : x0.toInt < (192 : Int)) : f1 x0 = f3 x0 := by
  have q0 : ¬ x0 < (65 : Int32) := own_nlt h1 (by decide)
  have q1 : (90 : Int32) < x0 := own_gt h1 (by decide)
  have q2 : ¬ x0 < (97 : Int32) := own_nlt h1 (by decide)
  have q3 : (122 : Int32) < x0 := own_gt h1 (by decide)
  have q4 : x0 < (192 : Int32) := own_lt h2 (by decide)
  have q5 : x0 < (216 : Int32) := own_lt h2 (by decide)
  have q6 : x0 < (248 : Int32) := own_lt h2 (by decide)
  have q7 : x0 < (880 : Int32) := own_lt h2 (by decide)
  have q8 : x0 < (895 : Int32) := own_lt h2 (by decide)
  have q9 : x0 < (8204 : Int32) := own_lt h2 (by decide)
  have q10 : x0 < (8304 : Int32) := own_lt h2 (by decide)
  have q11 : x0 < (11264 : Int32) := own_lt h2 (by decide)
  have q12 : x0 < (12289 : Int32) := own_lt h2 (by decide)
  have q13 : x0 < (63744 : Int32) := own_lt h2 (by decide)
  have q14 : x0 < (65008 : Int32) := own_lt h2 (by decide)
  have q15 : x0 < (65536 : Int32) := own_lt h2 (by decide)
  have e_g2_178_x : g2_178 x0 = (0 : Int32) := (if_pos q15)
  have e_g2_164_x : g2_164 x0 = (0 : Int32) := ((if_pos q14).trans e_g2_178_x)
  have e_g2_150_x : g2_150 x0 = (0 : Int32) := ((if_pos q13).trans e_g2_164_x)
  have e_g2_136_x : g2_136 x0 = (0 : Int32) := ((if_pos q12).trans e_g2_150_x)
  have e_g2_122_x : g2_122 x0 = (0 : Int32) := ((if_pos q11).trans e_g2_136_x)
  have e_g2_108_x : g2_108 x0 = (0 : Int32) := ((if_pos q10).trans e_g2_122_x)
  have e_g2_94_x : g2_94 x0 = (0 : Int32) := ((if_pos q9).trans e_g2_108_x)
  have e_g2_80_x : g2_80 x0 = (0 : Int32) := ((if_pos q8).trans e_g2_94_x)
  have e_g2_66_x : g2_66 x0 = (0 : Int32) := ((if_pos q7).trans e_g2_80_x)
  have e_g2_52_x : g2_52 x0 = (0 : Int32) := ((if_pos q6).trans e_g2_66_x)
  have e_g2_38_x : g2_38 x0 = (0 : Int32) := ((if_pos q5).trans e_g2_52_x)
  have e_g2_24_x : g2_24 x0 = (0 : Int32) := ((if_pos q4).trans e_g2_38_x)
  have e_g2_12_x : g2_12 x0 = (0 : Int32) := ((if_neg q2).trans ((if_pos q3).trans e_g2_24_x))
  have e_g2_0_x : g2_0 x0 = (0 : Int32) := ((if_neg q0).trans ((if_pos q1).trans e_g2_12_x))
  have e_f2_x : f2 x0 = (0 : Int32) := e_g2_0_x
  have q16 : ¬ x0 = (95 : Int32) := own_ne1 h1 (by decide)
  have e_g1_0_x : g1_0 x0 = (0 : Int32) := ((if_pos (by rw [e_f2_x])).trans (if_neg q16))
  have e_f1_x : f1 x0 = (0 : Int32) := e_g1_0_x
  have q17 : ¬ (983039 : Int32) < x0 := own_ngt h2 (by decide)
  have q18 : ¬ x0 < (91 : Int32) := own_nlt h1 (by decide)
  have q19 : (94 : Int32) < x0 := own_gt h1 (by decide)
  have q20 : ¬ x0 = (96 : Int32) := own_ne1 h1 (by decide)
  have q21 : ¬ x0 < (123 : Int32) := own_nlt h1 (by decide)
  have q22 : ¬ (191 : Int32) < x0 := own_ngt h2 (by decide)
  have e_g3_28_x : g3_28 x0 = (0 : Int32) := ((if_neg q20).trans ((if_neg q21).trans (if_neg q22)))
  have e_g3_0_x : g3_0 x0 = (0 : Int32) := ((if_neg q0).trans ((if_neg q17).trans ((if_neg q18).trans ((if_pos q19).trans e_g3_28_x))))
  have e_f3_x : f3 x0 = (0 : Int32) := e_g3_0_x
  rw [e_f1_x, e_f3_x]
theorem own_iv_18 (x0 : Int32) (h1 : (192 : Int) ≤ x0.toInt) (h2 : x0.toInt < (193 : Int)) : f1 x0 = f3 x0 := by
  have q0 : ¬ x0 < (65 : Int32) := own_nlt h1 (by decide)
  have q1 : (90 : Int32) < x0 := own_gt h1 (by decide)
  have q2 : ¬ x0 < (97 : Int32) := own_nlt h1 (by decide)
  have q3 : (122 : Int32) < x0 := own_gt h1 (by decide)
  have q4 : ¬ x0 < (192 : Int32) := own_nlt h1 (by decide)
  have q5 : ¬ (214 : Int32) < x0 := own_ngt h2 (by decide)
  have e_g2_24_x : g2_24 x0 = (1 : Int32) := ((if_neg q4).trans (if_neg q5))
  have e_g2_12_x : g2_12 x0 = (1 : Int32) := ((if_neg q2).trans ((if_pos q3).trans e_g2_24_x))
  have e_g2_0_x : g2_0 x0 = (1 : Int32) := ((if_neg q0).trans ((if_pos q1).trans e_g2_12_x))
  have e_f2_x : f2 x0 = (1 : Int32) := e_g2_0_x
  have e_g1_0_x : g1_0 x0 = (1 : Int32) := (if_neg (by rw [e_f2_x]; decide))
  have e_f1_x : f1 x0 = (1 : Int32) := e_g1_0_x
  have q6 : ¬ (983039 : Int32) < x0 := own_ngt h2 (by decide)
  have q7 : ¬ x0 < (91 : Int32) := own_nlt h1 (by decide)
  have q8 : (94 : Int32) < x0 := own_gt h1 (by decide)
  have q9 : ¬ x0 = (96 : Int32) := own_ne1 h1 (by decide)
  have q10 : ¬ x0 < (123 : Int32) := own_nlt h1 (by decide)
  have q11 : (191 : Int32) < x0 := own_gt h1 (by decide)
  have q12 : ¬ x0 = (215 : Int32) := own_ne2 h2 (by decide)
  have q13 : ¬ x0 = (247 : Int32) := own_ne2 h2 (by decide)
  have q14 : x0 < (768 : Int32) := own_lt h2 (by decide)
  have q15 : ¬ x0 = (894 : Int32) := own_ne2 h2 (by decide)
  have q16 : x0 < (8192 : Int32) := own_lt h2 (by decide)
  have q17 : x0 < (8206 : Int32) := own_lt h2 (by decide)
  have q18 : x0 < (8592 : Int32) := own_lt h2 (by decide)
  have q19 : x0 < (12272 : Int32) := own_lt h2 (by decide)
  have q20 : x0 < (55296 : Int32) := own_lt h2 (by decide)
  have q21 : x0 < (64976 : Int32) := own_lt h2 (by decide)
  have q22 : ¬ x0 = (65534 : Int32) := own_ne2 h2 (by decide)
  have q23 : ¬ x0 = (65535 : Int32) := own_ne2 h2 (by decide)
  have e_g3_184_x : g3_184 x0 = (1 : Int32) := ((if_neg q22).trans (if_neg q23))
  have e_g3_170_x : g3_170 x0 = (1 : Int32) := ((if_pos q21).trans e_g3_184_x)
  have e_g3_156_x : g3_156 x0 = (1 : Int32) := ((if_pos q20).trans e_g3_170_x)
  have e_g3_140_x : g3_140 x0 = (1 : Int32) := ((if_pos q19).trans e_g3_156_x)
  have e_g3_124_x : g3_124 x0 = (1 : Int32) := ((if_pos q18).trans e_g3_140_x)
  have e_g3_108_x : g3_108 x0 = (1 : Int32) := ((if_pos q17).trans e_g3_124_x)
  have e_g3_83_x : g3_83 x0 = (1 : Int32) := ((if_neg q15).trans ((if_pos q16).trans e_g3_108_x))
  have e_g3_51_x : g3_51 x0 = (1 : Int32) := ((if_neg q12).trans ((if_neg q13).trans ((if_pos q14).trans e_g3_83_x)))
  have e_g3_28_x : g3_28 x0 = (1 : Int32) := ((if_neg q9).trans ((if_neg q10).trans ((if_pos q11).trans e_g3_51_x)))
  have e_g3_0_x : g3_0 x0 = (1 : Int32) := ((if_neg q0).trans ((if_neg q6).trans ((if_neg q7).trans ((if_pos q8).trans e_g3_28_x))))
  have e_f3_x : f3 x0 = (1 : Int32) := e_g3_0_x
  rw [e_f1_x, e_f3_x]
theorem own_iv_19 (x0 : Int32) (h1 : (193 : Int) ≤ x0.toInt) (h2 : x0.toInt < (214 : Int)) : f1 x0 = f3 x0 := by
  have q0 : ¬ x0 < (65 : Int32) := own_nlt h1 (by decide)
  have q1 : (90 : Int32) < x0 := own_gt h1 (by decide)
  have q2 : ¬ x0 < (97 : Int32) := own_nlt h1 (by decide)
  have q3 : (122 : Int32) < x0 := own_gt h1 (by decide)
  have q4 : ¬ x0 < (192 : Int32) := own_nlt h1 (by decide)
  have q5 : ¬ (214 : Int32) < x0 := own_ngt h2 (by decide)
  have e_g2_24_x : g2_24 x0 = (1 : Int32) := ((if_neg q4).trans (if_neg q5))
  have e_g2_12_x : g2_12 x0 = (1 : Int32) := ((if_neg q2).trans ((if_pos q3).trans e_g2_24_x))
  have e_g2_0_x : g2_0 x0 = (1 : Int32) := ((if_neg q0).trans ((if_pos q1).trans e_g2_12_x))
  have e_f2_x : f2 x0 = (1 : Int32) := e_g2_0_x
  have e_g1_0_x : g1_0 x0 = (1 : Int32) := (if_neg (by rw [e_f2_x]; decide))
  have e_f1_x : f1 x0 = (1 : Int32) := e_g1_0_x
  have q6 : ¬ (983039 : Int32) < x0 := own_ngt h2 (by decide)
  have q7 : ¬ x0 < (91 : Int32) := own_nlt h1 (by decide)
  have q8 : (94 : Int32) < x0 := own_gt h1 (by decide)
  have q9 : ¬ x0 = (96 : Int32) := own_ne1 h1 (by decide)
  have q10 : ¬ x0 < (123 : Int32) := own_nlt h1 (by decide)
  have q11 : (191 : Int32) < x0 := own_gt h1 (by decide)
  have q12 : ¬ x0 = (215 : Int32) := own_ne2 h2 (by decide)
  have q13 : ¬ x0 = (247 : Int32) := own_ne2 h2 (by decide)
  have q14 : x0 < (768 : Int32) := own_lt h2 (by decide)
  have q15 : ¬ x0 = (894 : Int32) := own_ne2 h2 (by decide)
  have q16 : x0 < (8192 : Int32) := own_lt h2 (by decide)
  have q17 : x0 < (8206 : Int32) := own_lt h2 (by decide)
  have q18 : x0 < (8592 : Int32) := own_lt h2 (by decide)
  have q19 : x0 < (12272 : Int32) := own_lt h2 (by decide)
  have q20 : x0 < (55296 : Int32) := own_lt h2 (by decide)
  have q21 : x0 < (64976 : Int32) := own_lt h2 (by decide)
  have q22 : ¬ x0 = (65534 : Int32) := own_ne2 h2 (by decide)
  have q23 : ¬ x0 = (65535 : Int32) := own_ne2 h2 (by decide)
  have e_g3_184_x : g3_184 x0 = (1 : Int32) := ((if_neg q22).trans (if_neg q23))
  have e_g3_170_x : g3_170 x0 = (1 : Int32) := ((if_pos q21).trans e_g3_184_x)
  have e_g3_156_x : g3_156 x0 = (1 : Int32) := ((if_pos q20).trans e_g3_170_x)
  have e_g3_140_x : g3_140 x0 = (1 : Int32) := ((if_pos q19).trans e_g3_156_x)
  have e_g3_124_x : g3_124 x0 = (1 : Int32) := ((if_pos q18).trans e_g3_140_x)
  have e_g3_108_x : g3_108 x0 = (1 : Int32) := ((if_pos q17).trans e_g3_124_x)
  have e_g3_83_x : g3_83 x0 = (1 : Int32) := ((if_neg q15).trans ((if_pos q16).trans e_g3_108_x))
  have e_g3_51_x : g3_51 x0 = (1 : Int32) := ((if_neg q12).trans ((if_neg q13).trans ((if_pos q14).trans e_g3_83_x)))
  have e_g3_28_x : g3_28 x0 = (1 : Int32) := ((if_neg q9).trans ((if_neg q10).trans ((if_pos q11).trans e_g3_51_x)))
  have e_g3_0_x : g3_0 x0 = (1 : Int32) := ((if_neg q0).trans ((if_neg q6).trans ((if_neg q7).trans ((if_pos q8).trans e_g3_28_x))))
  have e_f3_x : f3 x0 = (1 : Int32) := e_g3_0_x
  rw [e_f1_x, e_f3_x]
theorem own_iv_20 (x0 : Int32) (h1 : (214 : Int) ≤ x0.toInt) (h2 : x0.toInt < (215 : Int)) : f1 x0 = f3 x0 := by
  have q0 : ¬ x0 < (65 : Int32) := own_nlt h1 (by decide)
  have q1 : (90 : Int32) < x0 := own_gt h1 (by decide)
  have q2 : ¬ x0 < (97 : Int32) := own_nlt h1 (by decide)
  have q3 : (122 : Int32) < x0 := own_gt h1 (by decide)
  have q4 : ¬ x0 < (192 : Int32) := own_nlt h1 (by decide)
  have q5 : ¬ (214 : Int32) < x0 := own_ngt h2 (by decide)
  have e_g2_24_x : g2_24 x0 = (1 : Int32) := ((if_neg q4).trans (if_neg q5))
  have e_g2_12_x : g2_12 x0 = (1 : Int32) := ((if_neg q2).trans ((if_pos q3).trans e_g2_24_x))
  have e_g2_0_x : g2_0 x0 = (1 : Int32) := ((if_neg q0).trans ((if_pos q1).trans e_g2_12_x))
  have e_f2_x : f2 x0 = (1 : Int32) := e_g2_0_x
  have e_g1_0_x : g1_0 x0 = (1 : Int32) := (if_neg (by rw [e_f2_x]; decide))
  have e_f1_x : f1 x0 = (1 : Int32) := e_g1_0_x
  have q6 : ¬ (983039 : Int32) < x0 := own_ngt h2 (by decide)
  have q7 : ¬ x0 < (91 : Int32) := own_nlt h1 (by decide)
  have q8 : (94 : Int32) < x0 := own_gt h1 (by decide)
  have q9 : ¬ x0 = (96 : Int32) := own_ne1 h1 (by decide)
  have q10 : ¬ x0 < (123 : Int32) := own_nlt h1 (by decide)
  have q11 : (191 : Int32) < x0 := own_gt h1 (by decide)
  have q12 : ¬ x0 = (215 : Int32) := own_ne2 h2 (by decide)
  have q13 : ¬ x0 = (247 : Int32) := own_ne2 h2 (by decide)
  have q14 : x0 < (768 : Int32) := own_lt h2 (by decide)
  have q15 : ¬ x0 = (894 : Int32) := own_ne2 h2 (by decide)
  have q16 : x0 < (8192 : Int32) := own_lt h2 (by decide)
  have q17 : x0 < (8206 : Int32) := own_lt h2 (by decide)
  have q18 : x0 < (8592 : Int32) := own_lt h2 (by decide)
  have q19 : x0 < (12272 : Int32) := own_lt h2 (by decide)
  have q20 : x0 < (55296 : Int32) := own_lt h2 (by decide)
  have q21 : x0 < (64976 : Int32) := own_lt h2 (by decide)
  have q22 : ¬ x0 = (65534 : Int32) := own_ne2 h2 (by decide)
  have q23 : ¬ x0 = (65535 : Int32) := own_ne2 h2 (by decide)
  have e_g3_184_x : g3_184 x0 = (1 : Int32) := ((if_neg q22).trans (if_neg q23))
  have e_g3_170_x : g3_170 x0 = (1 : Int32) := ((if_pos q21).trans e_g3_184_x)
  have e_g3_156_x : g3_156 x0 = (1 : Int32) := ((if_pos q20).trans e_g3_170_x)
  have e_g3_140_x : g3_140 x0 = (1 : Int32) := ((if_pos q19).trans e_g3_156_x)
  have e_g3_124_x : g3_124 x0 = (1 : Int32) := ((if_pos q18).trans e_g3_140_x)
  have e_g3_108_x : g3_108 x0 = (1 : Int32) := ((if_pos q17).trans e_g3_124_x)
  have e_g3_83_x : g3_83 x0 = (1 : Int32) := ((if_neg q15).trans ((if_pos q16).trans e_g3_108_x))
  have e_g3_51_x : g3_51 x0 = (1 : Int32) := ((if_neg q12).trans ((if_neg q13).trans ((if_pos q14).trans e_g3_83_x)))
  have e_g3_28_x : g3_28 x0 = (1 : Int32) := ((if_neg q9).trans ((if_neg q10).trans ((if_pos q11).trans e_g3_51_x)))
  have e_g3_0_x : g3_0 x0 = (1 : Int32) := ((if_neg q0).trans ((if_neg q6).trans ((if_neg q7).trans ((if_pos q8).trans e_g3_28_x))))
  have e_f3_x : f3 x0 = (1 : Int32) := e_g3_0_x
  rw [e_f1_x, e_f3_x]
theorem own_iv_21 (x0 : Int32) (h1 : (215 : Int) ≤ x0.toInt) (h2 : x0.toInt < (216 : Int)) : f1 x0 = f3 x0 := by
  have q0 : ¬ x0 < (65 : Int32) := own_nlt h1 (by decide)
  have q1 : (90 : Int32) < x0 := own_gt h1 (by decide)
  have q2 : ¬ x0 < (97 : Int32) := own_nlt h1 (by decide)
  have q3 : (122 : Int32) < x0 := own_gt h1 (by decide)
  have q4 : ¬ x0 < (192 : Int32) := own_nlt h1 (by decide)
  have q5 : (214 : Int32) < x0 := own_gt h1 (by decide)
  have q6 : x0 < (216 : Int32) := own_lt h2 (by decide)
  have q7 : x0 < (248 : Int32) := own_lt h2 (by decide)
  have q8 : x0 < (880 : Int32) := own_lt h2 (by decide)
  have q9 : x0 < (895 : Int32) := own_lt h2 (by decide)
  have q10 : x0 < (8204 : Int32) := own_lt h2 (by decide)
  have q11 : x0 < (8304 : Int32) := own_lt h2 (by decide)
  have q12 : x0 < (11264 : Int32) := own_lt h2 (by decide)
  have q13 : x0 < (12289 : Int32) := own_lt h2 (by decide)
  have q14 : x0 < (63744 : Int32) := own_lt h2 (by decide)
  have q15 : x0 < (65008 : Int32) := own_lt h2 (by decide)
  have q16 : x0 < (65536 : Int32) := own_lt h2 (by decide)
  have e_g2_178_x : g2_178 x0 = (0 : Int32) := (if_pos q16)
  have e_g2_164_x : g2_164 x0 = (0 : Int32) := ((if_pos q15).trans e_g2_178_x)
  have e_g2_150_x : g2_150 x0 = (0 : Int32) := ((if_pos q14).trans e_g2_164_x)
  have e_g2_136_x : g2_136 x0 = (0 : Int32) := ((if_pos q13).trans e_g2_150_x)
  have e_g2_122_x : g2_122 x0 = (0 : Int32) := ((if_pos q12).trans e_g2_136_x)
  have e_g2_108_x : g2_108 x0 = (0 : Int32) := ((if_pos q11).trans e_g2_122_x)
  have e_g2_94_x : g2_94 x0 = (0 : Int32) := ((if_pos q10).trans e_g2_108_x)
  have e_g2_80_x : g2_80 x0 = (0 : Int32) := ((if_pos q9).trans e_g2_94_x)
  have e_g2_66_x : g2_66 x0 = (0 : Int32) := ((if_pos q8).trans e_g2_80_x)
  have e_g2_52_x : g2_52 x0 = (0 : Int32) := ((if_pos q7).trans e_g2_66_x)
  have e_g2_38_x : g2_38 x0 = (0 : Int32) := ((if_pos q6).trans e_g2_52_x)
  have e_g2_24_x : g2_24 x0 = (0 : Int32) := ((if_neg q4).trans ((if_pos q5).trans e_g2_38_x))
  have e_g2_12_x : g2_12 x0 = (0 : Int32) := ((if_neg q2).trans ((if_pos q3).trans e_g2_24_x))
  have e_g2_0_x : g2_0 x0 = (0 : Int32) := ((if_neg q0).trans ((if_pos q1).trans e_g2_12_x))
  have e_f2_x : f2 x0 = (0 : Int32) := e_g2_0_x
  have q17 : ¬ x0 = (95 : Int32) := own_ne1 h1 (by decide)
  have e_g1_0_x : g1_0 x0 = (0 : Int32) := ((if_pos (by rw [e_f2_x])).trans (if_neg q17))
  have e_f1_x : f1 x0 = (0 : Int32) := e_g1_0_x
  have q18 : ¬ (983039 : Int32) < x0 := own_ngt h2 (by decide)
  have q19 : ¬ x0 < (91 : Int32) := own_nlt h1 (by decide)
  have q20 : (94 : Int32) < x0 := own_gt h1 (by decide)
  have q21 : ¬ x0 = (96 : Int32) := own_ne1 h1 (by decide)
  have q22 : ¬ x0 < (123 : Int32) := own_nlt h1 (by decide)
  have q23 : (191 : Int32) < x0 := own_gt h1 (by decide)
  have q24 : x0 = (215 : Int32) := own_eq h1 h2 (by decide)
  have e_g3_51_x : g3_51 x0 = (0 : Int32) := (if_pos q24)
  have e_g3_28_x : g3_28 x0 = (0 : Int32) := ((if_neg q21).trans ((if_neg q22).trans ((if_pos q23).trans e_g3_51_x)))
  have e_g3_0_x : g3_0 x0 = (0 : Int32) := ((if_neg q0).trans ((if_neg q18).trans ((if_neg q19).trans ((if_pos q20).trans e_g3_28_x))))
  have e_f3_x : f3 x0 = (0 : Int32) := e_g3_0_x
  rw [e_f1_x, e_f3_x]
theorem own_iv_22 (x0 : Int32) (h1 : (216 : Int) ≤ x0.toInt) (h2 : x0.toInt < (217 : Int)) : f1 x0 = f3 x0 := by
  have q0 : ¬ x0 < (65 : Int32) := own_nlt h1 (by decide)
  have q1 : (90 : Int32) < x0 := own_gt h1 (by decide)
  have q2 : ¬ x0 < (97 : Int32) := own_nlt h1 (by decide)
  have q3 : (122 : Int32) < x0 := own_gt h1 (by decide)
  have q4 : ¬ x0 < (192 : Int32) := own_nlt h1 (by decide)
  have q5 : (214 : Int32) < x0 := own_gt h1 (by decide)
  have q6 : ¬ x0 < (216 : Int32) := own_nlt h1 (by decide)
  have q7 : ¬ (246 : Int32) < x0 := own_ngt h2 (by decide)
  have e_g2_38_x : g2_38 x0 = (1 : Int32) := ((if_neg q6).trans (if_neg q7))
  have e_g2_24_x : g2_24 x0 = (1 : Int32) := ((if_neg q4).trans ((if_pos q5).trans e_g2_38_x))
  have e_g2_12_x : g2_12 x0 = (1 : Int32) := ((if_neg q2).trans ((if_pos q3).trans e_g2_24_x))
  have e_g2_0_x : g2_0 x0 = (1 : Int32) := ((if_neg q0).trans ((if_pos q1).trans e_g2_12_x))
  have e_f2_x : f2 x0 = (1 : Int32) := e_g2_0_x
  have e_g1_0_x : g1_0 x0 = (1 : Int32) := (if_neg (by rw [e_f2_x]; decide))
  have e_f1_x : f1 x0 = (1 : Int32) := e_g1_0_x
  have q8 : ¬ (983039 : Int32) < x0 := own_ngt h2 (by decide)
  have q9 : ¬ x0 < (91 : Int32) := own_nlt h1 (by decide)
  have q10 : (94 : Int32) < x0 := own_gt h1 (by decide)
  have q11 : ¬ x0 = (96 : Int32) := own_ne1 h1 (by decide)
  have q12 : ¬ x0 < (123 : Int32) := own_nlt h1 (by decide)
  have q13 : (191 : Int32) < x0 := own_gt h1 (by decide)
  have q14 : ¬ x0 = (215 : Int32) := own_ne1 h1 (by decide)
  have q15 : ¬ x0 = (247 : Int32) := own_ne2 h2 (by decide)
  have q16 : x0 < (768 : Int32) := own_lt h2 (by decide)
  have q17 : ¬ x0 = (894 : Int32) := own_ne2 h2 (by decide)
  have q18 : x0 < (8192 : Int32) := own_lt h2 (by decide)
  have q19 : x0 < (8206 : Int32) := own_lt h2 (by decide)
  have q20 : x0 < (8592 : Int32) := own_lt h2 (by decide)
  have q21 : x0 < (12272 : Int32) := own_lt h2 (by decide)
  have q22 : x0 < (55296 : Int32) := own_lt h2 (by decide)
  have q23 : x0 < (64976 : Int32) := own_lt h2 (by decide)
  have q24 : ¬ x0 = (65534 : Int32) := own_ne2 h2 (by decide)
  have q25 : ¬ x0 = (65535 : Int32) := own_ne2 h2 (by decide)
  have e_g3_184_x : g3_184 x0 = (1 : Int32) := ((if_neg q24).trans (if_neg q25))
  have e_g3_170_x : g3_170 x0 = (1 : Int32) := ((if_pos q23).trans e_g3_184_x)
  have e_g3_156_x : g3_156 x0 = (1 : Int32) := ((if_pos q22).trans e_g3_170_x)
  have e_g3_140_x : g3_140 x0 = (1 : Int32) := ((if_pos q21).trans e_g3_156_x)
  have e_g3_124_x : g3_124 x0 = (1 : Int32) := ((if_pos q20).trans e_g3_140_x)
  have e_g3_108_x : g3_108 x0 = (1 : Int32) := ((if_pos q19).trans e_g3_124_x)
  have e_g3_83_x : g3_83 x0 = (1 : Int32) := ((if_neg q17).trans ((if_pos q18).trans e_g3_108_x))
  have e_g3_51_x : g3_51 x0 = (1 : Int32) := ((if_neg q14).trans ((if_neg q15).trans ((if_pos q16).trans e_g3_83_x)))
  have e_g3_28_x : g3_28 x0 = (1 : Int32) := ((if_neg q11).trans ((if_neg q12).trans ((if_pos q13).trans e_g3_51_x)))
  have e_g3_0_x : g3_0 x0 = (1 : Int32) := ((if_neg q0).trans ((if_neg q8).trans ((if_neg q9).trans ((if_pos q10).trans e_g3_28_x))))
  have e_f3_x : f3 x0 = (1 : Int32) := e_g3_0_x
  rw [e_f1_x, e_f3_x]
theorem own_iv_23 (x0 : Int32) (h1 : (217 : Int) ≤ x0.toInt) (h2 : x0.toInt < (246 : Int)) : f1 x0 = f3 x0 := by
  have q0 : ¬ x0 < (65 : Int32) := own_nlt h1 (by decide)
  have q1 : (90 : Int32) < x0 := own_gt h1 (by decide)
  have q2 : ¬ x0 < (97 : Int32) := own_nlt h1 (by decide)
  have q3 : (122 : Int32) < x0 := own_gt h1 (by decide)
  have q4 : ¬ x0 < (192 : Int32) := own_nlt h1 (by decide)
  have q5 : (214 : Int32) < x0 := own_gt h1 (by decide)
  have q6 : ¬ x0 < (216 : Int32) := own_nlt h1 (by decide)
  have q7 : ¬ (246 : Int32) < x0 := own_ngt h2 (by decide)
  have e_g2_38_x : g2_38 x0 = (1 : Int32) := ((if_neg q6).trans (if_neg q7))
  have e_g2_24_x : g2_24 x0 = (1 : Int32) := ((if_neg q4).trans ((if_pos q5).trans e_g2_38_x))
  have e_g2_12_x : g2_12 x0 = (1 : Int32) := ((if_neg q2).trans ((if_pos q3).trans e_g2_24_x))
  have e_g2_0_x : g2_0 x0 = (1 : Int32) := ((if_neg q0).trans ((if_pos q1).trans e_g2_12_x))
  have e_f2_x : f2 x0 = (1 : Int32) := e_g2_0_x
  have e_g1_0_x : g1_0 x0 = (1 : Int32) := (if_neg (by rw [e_f2_x]; decide))
  have e_f1_x : f1 x0 = (1 : Int32) := e_g1_0_x
  have q8 : ¬ (983039 : Int32) < x0 := own_ngt h2 (by decide)
  have q9 : ¬ x0 < (91 : Int32) := own_nlt h1 (by decide)
  have q10 : (94 : Int32) < x0 := own_gt h1 (by decide)
  have q11 : ¬ x0 = (96 : Int32) := own_ne1 h1 (by decide)
  have q12 : ¬ x0 < (123 : Int32) := own_nlt h1 (by decide)
  have q13 : (191 : Int32) < x0 := own_gt h1 (by decide)
  have q14 : ¬ x0 = (215 : Int32) := own_ne1 h1 (by decide)
  have q15 : ¬ x0 = (247 : Int32) := own_ne2 h2 (by decide)
  have q16 : x0 < (768 : Int32) := own_lt h2 (by decide)
  have q17 : ¬ x0 = (894 : Int32) := own_ne2 h2 (by decide)
  have q18 : x0 < (8192 : Int32) := own_lt h2 (by decide)
  have q19 : x0 < (8206 : Int32) := own_lt h2 (by decide)
  have q20 : x0 < (8592 : Int32) := own_lt h2 (by decide)
  have q21 : x0 < (12272 : Int32) := own_lt h2 (by decide)
  have q22 : x0 < (55296 : Int32) := own_lt h2 (by decide)
  have q23 : x0 < (64976 : Int32) := own_lt h2 (by decide)
  have q24 : ¬ x0 = (65534 : Int32) := own_ne2 h2 (by decide)
  have q25 : ¬ x0 = (65535 : Int32) := own_ne2 h2 (by decide)
  have e_g3_184_x : g3_184 x0 = (1 : Int32) := ((if_neg q24).trans (if_neg q25))
  have e_g3_170_x : g3_170 x0 = (1 : Int32) := ((if_pos q23).trans e_g3_184_x)
  have e_g3_156_x : g3_156 x0 = (1 : Int32) := ((if_pos q22).trans e_g3_170_x)
  have e_g3_140_x : g3_140 x0 = (1 : Int32) := ((if_pos q21).trans e_g3_156_x)
  have e_g3_124_x : g3_124 x0 = (1 : Int32) := ((if_pos q20).trans e_g3_140_x)
  have e_g3_108_x : g3_108 x0 = (1 : Int32) := ((if_pos q19).trans e_g3_124_x)
  have e_g3_83_x : g3_83 x0 = (1 : Int32) := ((if_neg q17).trans ((if_pos q18).trans e_g3_108_x))
  have e_g3_51_x : g3_51 x0 = (1 : Int32) := ((if_neg q14).trans ((if_neg q15).trans ((if_pos q16).trans e_g3_83_x)))
  have e_g3_28_x : g3_28 x0 = (1 : Int32) := ((if_neg q11).trans ((if_neg q12).trans ((if_pos q13).trans e_g3_51_x)))
  have e_g3_0_x : g3_0 x0 = (1 : Int32) := ((if_neg q0).trans ((if_neg q8).trans ((if_neg q9).trans ((if_pos q10).trans e_g3_28_x))))
  have e_f3_x : f3 x0 = (1 : Int32) := e_g3_0_x
  rw [e_f1_x, e_f3_x]
theorem own_iv_24 (x0 : Int32) (h1 : (246 : Int) ≤ x0.toInt) (h2 : x0.toInt < (247 : Int)) : f1 x0 = f3 x0 := by
  have q0 : ¬ x0 < (65 : Int32) := own_nlt h1 (by decide)
  have q1 : (90 : Int32) < x0 := own_gt h1 (by decide)
  have q2 : ¬ x0 < (97 : Int32) := own_nlt h1 (by decide)
  have q3 : (122 : Int32) < x0 := own_gt h1 (by decide)
  have q4 : ¬ x0 < (192 : Int32) := own_nlt h1 (by decide)
  have q5 : (214 : Int32) < x0 := own_gt h1 (by decide)
  have q6 : ¬ x0 < (216 : Int32) := own_nlt h1 (by decide)
  have q7 : ¬ (246 : Int32) < x0 := own_ngt h2 (by decide)
  have e_g2_38_x : g2_38 x0 = (1 : Int32) := ((if_neg q6).trans (if_neg q7))
  have e_g2_24_x : g2_24 x0 = (1 : Int32) := ((if_neg q4).trans ((if_pos q5).trans e_g2_38_x))
  have e_g2_12_x : g2_12 x0 = (1 : Int32) := ((if_neg q2).trans ((if_pos q3).trans e_g2_24_x))
  have e_g2_0_x : g2_0 x0 = (1 : Int32) := ((if_neg q0).trans ((if_pos q1).trans e_g2_12_x))
  have e_f2_x : f2 x0 = (1 : Int32) := e_g2_0_x
  have e_g1_0_x : g1_0 x0 = (1 : Int32) := (if_neg (by rw [e_f2_x]; decide))
  have e_f1_x : f1 x0 = (1 : Int32) := e_g1_0_x
  have q8 : ¬ (983039 : Int32) < x0 := own_ngt h2 (by decide)
  have q9 : ¬ x0 < (91 : Int32) := own_nlt h1 (by decide)
  have q10 : (94 : Int32) < x0 := own_gt h1 (by decide)
  have q11 : ¬ x0 = (96 : Int32) := own_ne1 h1 (by decide)
  have q12 : ¬ x0 < (123 : Int32) := own_nlt h1 (by decide)
  have q13 : (191 : Int32) < x0 := own_gt h1 (by decide)
  have q14 : ¬ x0 = (215 : Int32) := own_ne1 h1 (by decide)
  have q15 : ¬ x0 = (247 : Int32) := own_ne2 h2 (by decide)
  have q16 : x0 < (768 : Int32) := own_lt h2 (by decide)
  have q17 : ¬ x0 = (894 : Int32) := own_ne2 h2 (by decide)
  have q18 : x0 < (8192 : Int32) := own_lt h2 (by decide)
  have q19 : x0 < (8206 : Int32) := own_lt h2 (by decide)
  have q20 : x0 < (8592 : Int32) := own_lt h2 (by decide)
  have q21 : x0 < (12272 : Int32) := own_lt h2 (by decide)
  have q22 : x0 < (55296 : Int32) := own_lt h2 (by decide)
  have q23 : x0 < (64976 : Int32) := own_lt h2 (by decide)
  have q24 : ¬ x0 = (65534 : Int32) := own_ne2 h2 (by decide)
  have q25 : ¬ x0 = (65535 : Int32) := own_ne2 h2 (by decide)
  have e_g3_184_x : g3_184 x0 = (1 : Int32) := ((if_neg q24).trans (if_neg q25))
  have e_g3_170_x : g3_170 x0 = (1 : Int32) := ((if_pos q23).trans e_g3_184_x)
  have e_g3_156_x : g3_156 x0 = (1 : Int32) := ((if_pos q22).trans e_g3_170_x)
  have e_g3_140_x : g3_140 x0 = (1 : Int32) := ((if_pos q21).trans e_g3_156_x)
  have e_g3_124_x : g3_124 x0 = (1 : Int32) := ((if_pos q20).trans e_g3_140_x)
  have e_g3_108_x : g3_108 x0 = (1 : Int32) := ((if_pos q19).trans e_g3_124_x)
  have e_g3_83_x : g3_83 x0 = (1 : Int32) := ((if_neg q17).trans ((if_pos q18).trans e_g3_108_x))
  have e_g3_51_x : g3_51 x0 = (1 : Int32) := ((if_neg q14).trans ((if_neg q15).trans ((if_pos q16).trans e_g3_83_x)))
  have e_g3_28_x : g3_28 x0 = (1 : Int32) := ((if_neg q11).trans ((if_neg q12).trans ((if_pos q13).trans e_g3_51_x)))
  have e_g3_0_x : g3_0 x0 = (1 : Int32) := ((if_neg q0).trans ((if_neg q8).trans ((if_neg q9).trans ((if_pos q10).trans e_g3_28_x))))
  have e_f3_x : f3 x0 = (1 : Int32) := e_g3_0_x
  rw [e_f1_x, e_f3_x]
theorem own_iv_25 (x0 : Int32) (h1 : (247 : Int) ≤ x0.toInt) (h2 : x0.toInt < (248 : Int)) : f1 x0 = f3 x0 := by
  have q0 : ¬ x0 < (65 : Int32) := own_nlt h1 (by decide)
  have q1 : (90 : Int32) < x0 := own_gt h1 (by decide)
  have q2 : ¬ x0 < (97 : Int32) := own_nlt h1 (by decide)
  have q3 : (122 : Int32) < x0 := own_gt h1 (by decide)
  have q4 : ¬ x0 < (192 : Int32) := own_nlt h1 (by decide)
  have q5 : (214 : Int32) < x0 := own_gt h1 (by decide)
  have q6 : ¬ x0 < (216 : Int32) := own_nlt h1 (by decide)
  have q7 : (246 : Int32) < x0 := own_gt h1 (by decide)
  have q8 : x0 < (248 : Int32) := own_lt h2 (by decide)
  have q9 : x0 < (880 : Int32) := own_lt h2 (by decide)
  have q10 : x0 < (895 : Int32) := own_lt h2 (by decide)
  have q11 : x0 < (8204 : Int32) := own_lt h2 (by decide)
  have q12 : x0 < (8304 : Int32) := own_lt h2 (by decide)
  have q13 : x0 < (11264 : Int32) := own_lt h2 (by decide)
  have q14 : x0 < (12289 : Int32) := own_lt h2 (by decide)
  have q15 : x0 < (63744 : Int32) := own_lt h2 (by decide)
  have q16 : x0 < (65008 : Int32) := own_lt h2 (by decide)
  have q17 : x0 < (65536 : Int32) := own_lt h2 (by decide)
  have e_g2_178_x : g2_178 x0 = (0 : Int32) := (if_pos q17)
  have e_g2_164_x : g2_164 x0 = (0 : Int32) := ((if_pos q16).trans e_g2_178_x)
  have e_g2_150_x : g2_150 x0 = (0 : Int32) := ((if_pos q15).trans e_g2_164_x)
  have e_g2_136_x : g2_136 x0 = (0 : Int32) := ((if_pos q14).trans e_g2_150_x)
  have e_g2_122_x : g2_122 x0 = (0 : Int32) := ((if_pos q13).trans e_g2_136_x)
  have e_g2_108_x : g2_108 x0 = (0 : Int32) := ((if_pos q12).trans e_g2_122_x)
  have e_g2_94_x : g2_94 x0 = (0 : Int32) := ((if_pos q11).trans e_g2_108_x)
  have e_g2_80_x : g2_80 x0 = (0 : Int32) := ((if_pos q10).trans e_g2_94_x)
  have e_g2_66_x : g2_66 x0 = (0 : Int32) := ((if_pos q9).trans e_g2_80_x)
  have e_g2_52_x : g2_52 x0 = (0 : Int32) := ((if_pos q8).trans e_g2_66_x)
  have e_g2_38_x : g2_38 x0 = (0 : Int32) := ((if_neg q6).trans ((if_pos q7).trans e_g2_52_x))
  have e_g2_24_x : g2_24 x0 = (0 : Int32) := ((if_neg q4).trans ((if_pos q5).trans e_g2_38_x))
  have e_g2_12_x : g2_12 x0 = (0 : Int32) := ((if_neg q2).trans ((if_pos q3).trans e_g2_24_x))
  have e_g2_0_x : g2_0 x0 = (0 : Int32) := ((if_neg q0).trans ((if_pos q1).trans e_g2_12_x))
  have e_f2_x : f2 x0 = (0 : Int32) := e_g2_0_x
  have q18 : ¬ x0 = (95 : Int32) := own_ne1 h1 (by decide)
  have e_g1_0_x : g1_0 x0 = (0 : Int32) := ((if_pos (by rw [e_f2_x])).trans (if_neg q18))
  have e_f1_x : f1 x0 = (0 : Int32) := e_g1_0_x
  have q19 : ¬ (983039 : Int32) < x0 := own_ngt h2 (by decide)
  have q20 : ¬ x0 < (91 : Int32) := own_nlt h1 (by decide)
  have q21 : (94 : Int32) < x0 := own_gt h1 (by decide)
  have q22 : ¬ x0 = (96 : Int32) := own_ne1 h1 (by decide)
  have q23 : ¬ x0 < (123 : Int32) := own_nlt h1 (by decide)
  have q24 : (191 : Int32) < x0 := own_gt h1 (by decide)
  have q25 : ¬ x0 = (215 : Int32) := own_ne1 h1 (by decide)
  have q26 : x0 = (247 : Int32) := own_eq h1 h2 (by decide)
  have e_g3_51_x : g3_51 x0 = (0 : Int32) := ((if_neg q25).trans (if_pos q26))
  have e_g3_28_x : g3_28 x0 = (0 : Int32) := ((if_neg q22).trans ((if_neg q23).trans ((if_pos q24).trans e_g3_51_x)))
  have e_g3_0_x : g3_0 x0 = (0 : Int32) := ((if_neg q0).trans ((if_neg q19).trans ((if_neg q20).trans ((if_pos q21).trans e_g3_28_x))))
  have e_f3_x : f3 x0 = (0 : Int32) := e_g3_0_x
  rw [e_f1_x, e_f3_x]
theorem own_iv_26 (x0 : Int32) (h1 : (248 : Int) ≤ x0.toInt) (h2 : x0.toInt < (249 : Int)) : f1 x0 = f3 x0 := by
  have q0 : ¬ x0 < (65 : Int32) := own_nlt h1 (by decide)
  have q1 : (90 : Int32) < x0 := own_gt h1 (by decide)
  have q2 : ¬ x0 < (97 : Int32) := own_nlt h1 (by decide)
  have q3 : (122 : Int32) < x0 := own_gt h1 (by decide)
  have q4 : ¬ x0 < (192 : Int32) := own_nlt h1 (by decide)
  have q5 : (214 : Int32) < x0 := own_gt h1 (by decide)
  have q6 : ¬ x0 < (216 : Int32) := own_nlt h1 (by decide)
  have q7 : (246 : Int32) < x0 := own_gt h1 (by decide)
  have q8 : ¬ x0 < (248 : Int32) := own_nlt h1 (by decide)
  have q9 : ¬ (767 : Int32) < x0 := own_ngt h2 (by decide)
  have e_g2_52_x : g2_52 x0 = (1 : Int32) := ((if_neg q8).trans (if_neg q9))
  have e_g2_38_x : g2_38 x0 = (1 : Int32) := ((if_neg q6).trans ((if_pos q7).trans e_g2_52_x))
  have e_g2_24_x : g2_24 x0 = (1 : Int32) := ((if_neg q4).trans ((if_pos q5).trans e_g2_38_x))
  have e_g2_12_x : g2_12 x0 = (1 : Int32) := ((if_neg q2).trans ((if_pos q3).trans e_g2_24_x))
  have e_g2_0_x : g2_0 x0 = (1 : Int32) := ((if_neg q0).trans ((if_pos q1).trans e_g2_12_x))
  have e_f2_x : f2 x0 = (1 : Int32) := e_g2_0_x
  have e_g1_0_x : g1_0 x0 = (1 : Int32) := (if_neg (by rw [e_f2_x]; decide))
  have e_f1_x : f1 x0 = (1 : Int32) := e_g1_0_x
  have q10 : ¬ (983039 : Int32) < x0 := own_ngt h2 (by decide)
  have q11 : ¬ x0 < (91 : Int32) := own_nlt h1 (by decide)
  have q12 : (94 : Int32) < x0 := own_gt h1 (by decide)
  have q13 : ¬ x0 = (96 : Int32) := own_ne1 h1 (by decide)
  have q14 : ¬ x0 < (123 : Int32) := own_nlt h1 (by decide)
  have q15 : (191 : Int32) < x0 := own_gt h1 (by decide)
  have q16 : ¬ x0 = (215 : Int32) := own_ne1 h1 (by decide)
  have q17 : ¬ x0 = (247 : Int32) := own_ne1 h1 (by decide)
  have q18 : x0 < (768 : Int32) := own_lt h2 (by decide)
  have q19 : ¬ x0 = (894 : Int32) := own_ne2 h2 (by decide)
  have q20 : x0 < (8192 : Int32) := own_lt h2 (by decide)
  have q21 : x0 < (8206 : Int32) := own_lt h2 (by decide)
  have q22 : x0 < (8592 : Int32) := own_lt h2 (by decide)
  have q23 : x0 < (12272 : Int32) := own_lt h2 (by decide)
  have q24 : x0 < (55296 : Int32) := own_lt h2 (by decide)
  have q25 : x0 < (64976 : Int32) := own_lt h2 (by decide)
  have q26 : ¬ x0 = (65534 : Int32) := own_ne2 h2 (by decide)
  have q27 : ¬ x0 = (65535 : Int32) := own_ne2 h2 (by decide)
  have e_g3_184_x : g3_184 x0 = (1 : Int32) := ((if_neg q26).trans (if_neg q27))
  have e_g3_170_x : g3_170 x0 = (1 : Int32) := ((if_pos q25).trans e_g3_184_x)
  have e_g3_156_x : g3_156 x0 = (1 : Int32) := ((if_pos q24).trans e_g3_170_x)
  have e_g3_140_x : g3_140 x0 = (1 : Int32) := ((if_pos q23).trans e_g3_156_x)
  have e_g3_124_x : g3_124 x0 = (1 : Int32) := ((if_pos q22).trans e_g3_140_x)
  have e_g3_108_x : g3_108 x0 = (1 : Int32) := ((if_pos q21).trans e_g3_124_x)
  have e_g3_83_x : g3_83 x0 = (1 : Int32) := ((if_neg q19).trans ((if_pos q20).trans e_g3_108_x))
  have e_g3_51_x : g3_51 x0 = (1 : Int32) := ((if_neg q16).trans ((if_neg q17).trans ((if_pos q18).trans e_g3_83_x)))
  have e_g3_28_x : g3_28 x0 = (1 : Int32) := ((if_neg q13).trans ((if_neg q14).trans ((if_pos q15).trans e_g3_51_x)))
  have e_g3_0_x : g3_0 x0 = (1 : Int32) := ((if_neg q0).trans ((if_neg q10).trans ((if_neg q11).trans ((if_pos q12).trans e_g3_28_x))))
  have e_f3_x : f3 x0 = (1 : Int32) := e_g3_0_x
  rw [e_f1_x, e_f3_x]
theorem own_iv_27 (x0 : Int32) (h1 : (249 : Int) ≤ x0.toInt) (h2 : x0.toInt < (767 : Int)) : f1 x0 = f3 x0 := by
  have q0 : ¬ x0 < (65 : Int32) := own_nlt h1 (by decide)
  have q1 : (90 : Int32) < x0 := own_gt h1 (by decide)
  have q2 : ¬ x0 < (97 : Int32) := own_nlt h1 (by decide)
  have q3 : (122 : Int32) < x0 := own_gt h1 (by decide)
  have q4 : ¬ x0 < (192 : Int32) := own_nlt h1 (by decide)
  have q5 : (214 : Int32) < x0 := own_gt h1 (by decide)
  have q6 : ¬ x0 < (216 : Int32) := own_nlt h1 (by decide)
  have q7 : (246 : Int32) < x0 := own_gt h1 (by decide)
  have q8 : ¬ x0 < (248 : Int32) := own_nlt h1 (by decide)
  have q9 : ¬ (767 : Int32) < x0 := own_ngt h2 (by decide)
  have e_g2_52_x : g2_52 x0 = (1 : Int32) := ((if_neg q8).trans (if_neg q9))
  have e_g2_38_x : g2_38 x0 = (1 : Int32) := ((if_neg q6).trans ((if_pos q7).trans e_g2_52_x))
  have e_g2_24_x : g2_24 x0 = (1 : Int32) := ((if_neg q4).trans ((if_pos q5).trans e_g2_38_x))
  have e_g2_12_x : g2_12 x0 = (1 : Int32) := ((if_neg q2).trans ((if_pos q3).trans e_g2_24_x))
  have e_g2_0_x : g2_0 x0 = (1 : Int32) := ((if_neg q0).trans ((if_pos q1).trans e_g2_12_x))
  have e_f2_x : f2 x0 = (1 : Int32) := e_g2_0_x
  have e_g1_0_x : g1_0 x0 = (1 : Int32) := (if_neg (by rw [e_f2_x]; decide))
  have e_f1_x : f1 x0 = (1 : Int32) := e_g1_0_x
  have q10 : ¬ (983039 : Int32) < x0 := own_ngt h2 (by decide)
  have q11 : ¬ x0 < (91 : Int32) := own_nlt h1 (by decide)
  have q12 : (94 : Int32) < x0 := own_gt h1 (by decide)
  have q13 : ¬ x0 = (96 : Int32) := own_ne1 h1 (by decide)
  have q14 : ¬ x0 < (123 : Int32) := own_nlt h1 (by decide)
  have q15 : (191 : Int32) < x0 := own_gt h1 (by decide)
  have q16 : ¬ x0 = (215 : Int32) := own_ne1 h1 (by decide)
  have q17 : ¬ x0 = (247 : Int32) := own_ne1 h1 (by decide)
  have q18 : x0 < (768 : Int32) := own_lt h2 (by decide)
  have q19 : ¬ x0 = (894 : Int32) := own_ne2 h2 (by decide)
  have q20 : x0 < (8192 : Int32) := own_lt h2 (by decide)
  have q21 : x0 < (8206 : Int32) := own_lt h2 (by decide)
  have q22 : x0 < (8592 : Int32) := own_lt h2 (by decide)
  have q23 : x0 < (12272 : Int32) := own_lt h2 (by decide)
  have q24 : x0 < (55296 : Int32) := own_lt h2 (by decide)
  have q25 : x0 < (64976 : Int32) := own_lt h2 (by decide)
  have q26 : ¬ x0 = (65534 : Int32) := own_ne2 h2 (by decide)
  have q27 : ¬ x0 = (65535 : Int32) := own_ne2 h2 (by decide)
  have e_g3_184_x : g3_184 x0 = (1 : Int32) := ((if_neg q26).trans (if_neg q27))
  have e_g3_170_x : g3_170 x0 = (1 : Int32) := ((if_pos q25).trans e_g3_184_x)
  have e_g3_156_x : g3_156 x0 = (1 : Int32) := ((if_pos q24).trans e_g3_170_x)
  have e_g3_140_x : g3_140 x0 = (1 : Int32) := ((if_pos q23).trans e_g3_156_x)
  have e_g3_124_x : g3_124 x0 = (1 : Int32) := ((if_pos q22).trans e_g3_140_x)
  have e_g3_108_x : g3_108 x0 = (1 : Int32) := ((if_pos q21).trans e_g3_124_x)
  have e_g3_83_x : g3_83 x0 = (1 : Int32) := ((if_neg q19).trans ((if_pos q20).trans e_g3_108_x))
  have e_g3_51_x : g3_51 x0 = (1 : Int32) := ((if_neg q16).trans ((if_neg q17).trans ((if_pos q18).trans e_g3_83_x)))
  have e_g3_28_x : g3_28 x0 = (1 : Int32) := ((if_neg q13).trans ((if_neg q14).trans ((if_pos q15).trans e_g3_51_x)))
  have e_g3_0_x : g3_0 x0 = (1 : Int32) := ((if_neg q0).trans ((if_neg q10).trans ((if_neg q11).trans ((if_pos q12).trans e_g3_28_x))))
  have e_f3_x : f3 x0 = (1 : Int32) := e_g3_0_x
  rw [e_f1_x, e_f3_x]
theorem own_iv_28 (x0 : Int32) (h1 : (767 : Int) ≤ x0.toInt) (h2 : x0.toInt < (768 : Int)) : f1 x0 = f3 x0 := by
  have q0 : ¬ x0 < (65 : Int32) := own_nlt h1 (by decide)
  have q1 : (90 : Int32) < x0 := own_gt h1 (by decide)
  have q2 : ¬ x0 < (97 : Int32) := own_nlt h1 (by decide)
  have q3 : (122 : Int32) < x0 := own_gt h1 (by decide)
  have q4 : ¬ x0 < (192 : Int32) := own_nlt h1 (by decide)
  have q5 : (214 : Int32) < x0 := own_gt h1 (by decide)
  have q6 : ¬ x0 < (216 : Int32) := own_nlt h1 (by decide)
  have q7 : (246 : Int32) < x0 := own_gt h1 (by decide)
  have q8 : ¬ x0 < (248 : Int32) := own_nlt h1 (by decide)
  have q9 : ¬ (767 : Int32) < x0 := own_ngt h2 (by decide)
  have e_g2_52_x : g2_52 x0 = (1 : Int32) := ((if_neg q8).trans (if_neg q9))
  have e_g2_38_x : g2_38 x0 = (1 : Int32) := ((if_neg q6).trans ((if_pos q7).trans e_g2_52_x))
  have e_g2_24_x : g2_24 x0 = (1 : Int32) := ((if_neg q4).trans ((if_pos q5).trans e_g2_38_x))
  have e_g2_12_x : g2_12 x0 = (1 : Int32) := ((if_neg q2).trans ((if_pos q3).trans e_g2_24_x))
  have e_g2_0_x : g2_0 x0 = (1 : Int32) := ((if_neg q0).trans ((if_pos q1).trans e_g2_12_x))
  have e_f2_x : f2 x0 = (1 : Int32) := e_g2_0_x
  have e_g1_0_x : g1_0 x0 = (1 : Int32) := (if_neg (by rw [e_f2_x]; decide))
  have e_f1_x : f1 x0 = (1 : Int32) := e_g1_0_x
  have q10 : ¬ (983039 : Int32) < x0 := own_ngt h2 (by decide)
  have q11 : ¬ x0 < (91 : Int32) := own_nlt h1 (by decide)
  have q12 : (94 : Int32) < x0 := own_gt h1 (by decide)
  have q13 : ¬ x0 = (96 : Int32) := own_ne1 h1 (by decide)
  have q14 : ¬ x0 < (123 : Int32) := own_nlt h1 (by decide)
  have q15 : (191 : Int32) < x0 := own_gt h1 (by decide)
  have q16 : ¬ x0 = (215 : Int32) := own_ne1 h1 (by decide)
  have q17 : ¬ x0 = (247 : Int32) := own_ne1 h1 (by decide)
  have q18 : x0 < (768 : Int32) := own_lt h2 (by decide)
  have q19 : ¬ x0 = (894 : Int32) := own_ne2 h2 (by decide)
  have q20 : x0 < (8192 : Int32) := own_lt h2 (by decide)
  have q21 : x0 < (8206 : Int32) := own_lt h2 (by decide)
  have q22 : x0 < (8592 : Int32) := own_lt h2 (by decide)
  have q23 : x0 < (12272 : Int32) := own_lt h2 (by decide)
  have q24 : x0 < (55296 : Int32) := own_lt h2 (by decide)
  have q25 : x0 < (64976 : Int32) := own_lt h2 (by decide)
  have q26 : ¬ x0 = (65534 : Int32) := own_ne2 h2 (by decide)
  have q27 : ¬ x0 = (65535 : Int32) := own_ne2 h2 (by decide)
  have e_g3_184_x : g3_184 x0 = (1 : Int32) := ((if_neg q26).trans (if_neg q27))
  have e_g3_170_x : g3_170 x0 = (1 : Int32) := ((if_pos q25).trans e_g3_184_x)
  have e_g3_156_x : g3_156 x0 = (1 : Int32) := ((if_pos q24).trans e_g3_170_x)
  have e_g3_140_x : g3_140 x0 = (1 : Int32) := ((if_pos q23).trans e_g3_156_x)
  have e_g3_124_x : g3_124 x0 = (1 : Int32) := ((if_pos q22).trans e_g3_140_x)
  have e_g3_108_x : g3_108 x0 = (1 : Int32) := ((if_pos q21).trans e_g3_124_x)
  have e_g3_83_x : g3_83 x0 = (1 : Int32) := ((if_neg q19).trans ((if_pos q20).trans e_g3_108_x))
  have e_g3_51_x : g3_51 x0 = (1 : Int32) := ((if_neg q16).trans ((if_neg q17).trans ((if_pos q18).trans e_g3_83_x)))
  have e_g3_28_x : g3_28 x0 = (1 : Int32) := ((if_neg q13).trans ((if_neg q14).trans ((if_pos q15).trans e_g3_51_x)))
  have e_g3_0_x : g3_0 x0 = (1 : Int32) := ((if_neg q0).trans ((if_neg q10).trans ((if_neg q11).trans ((if_pos q12).trans e_g3_28_x))))
  have e_f3_x : f3 x0 = (1 : Int32) := e_g3_0_x
  rw [e_f1_x, e_f3_x]
theorem own_iv_29 (x0 : Int32) (h1 : (768 : Int) ≤ x0.toInt) (h2 : x0.toInt < (769 : Int)) : f1 x0 = f3 x0 := by
  have q0 : ¬ x0 < (65 : Int32) := own_nlt h1 (by decide)
  have q1 : (90 : Int32) < x0 := own_gt h1 (by decide)
  have q2 : ¬ x0 < (97 : Int32) := own_nlt h1 (by decide)
  have q3 : (122 : Int32) < x0 := own_gt h1 (by decide)
  have q4 : ¬ x0 < (192 : Int32) := own_nlt h1 (by decide)
  have q5 : (214 : Int32) < x0 := own_gt h1 (by decide)
  have q6 : ¬ x0 < (216 : Int32) := own_nlt h1 (by decide)
  have q7 : (246 : Int32) < x0 := own_gt h1 (by decide)
  have q8 : ¬ x0 < (248 : Int32) := own_nlt h1 (by decide)
  have q9 : (767 : Int32) < x0 := own_gt h1 (by decide)
  have q10 : x0 < (880 : Int32) := own_lt h2 (by decide)
  have q11 : x0 < (895 : Int32) := own_lt h2 (by decide)
  have q12 : x0 < (8204 : Int32) := own_lt h2 (by decide)
  have q13 : x0 < (8304 : Int32) := own_lt h2 (by decide)
  have q14 : x0 < (11264 : Int32) := own_lt h2 (by decide)
  have q15 : x0 < (12289 : Int32) := own_lt h2 (by decide)
  have q16 : x0 < (63744 : Int32) := own_lt h2 (by decide)
  have q17 : x0 < (65008 : Int32) := own_lt h2 (by decide)
  have q18 : x0 < (65536 : Int32) := own_lt h2 (by decide)
  have e_g2_178_x : g2_178 x0 = (0 : Int32) := (if_pos q18)
  have e_g2_164_x : g2_164 x0 = (0 : Int32) := ((if_pos q17).trans e_g2_178_x)
  have e_g2_150_x : g2_150 x0 = (0 : Int32) := ((if_pos q16).trans e_g2_164_x)
  have e_g2_136_x : g2_136 x0 = (0 : Int32) := ((if_pos q15).trans e_g2_150_x)
  have e_g2_122_x : g2_122 x0 = (0 : Int32) := ((if_pos q14).trans e_g2_136_x)
  have e_g2_108_x : g2_108 x0 = (0 : Int32) := ((if_pos q13).trans e_g2_122_x)
  have e_g2_94_x : g2_94 x0 = (0 : Int32) := ((if_pos q12).trans e_g2_108_x)
  have e_g2_80_x : g2_80 x0 = (0 : Int32) := ((if_pos q11).trans e_g2_94_x)
  have e_g2_66_x : g2_66 x0 = (0 : Int32) := ((if_pos q10).trans e_g2_80_x)
  have e_g2_52_x : g2_52 x0 = (0 : Int32) := ((if_neg q8).trans ((if_pos q9).trans e_g2_66_x))
  have e_g2_38_x : g2_38 x0 = (0 : Int32) := ((if_neg q6).trans ((if_pos q7).trans e_g2_52_x))
  have e_g2_24_x : g2_24 x0 = (0 : Int32) := ((if_neg q4).trans ((if_pos q5).trans e_g2_38_x))
  have e_g2_12_x : g2_12 x0 = (0 : Int32) := ((if_neg q2).trans ((if_pos q3).trans e_g2_24_x))
  have e_g2_0_x : g2_0 x0 = (0 : Int32) := ((if_neg q0).trans ((if_pos q1).trans e_g2_12_x))
  have e_f2_x : f2 x0 = (0 : Int32) := e_g2_0_x
  have q19 : ¬ x0 = (95 : Int32) := own_ne1 h1 (by decide)
  have e_g1_0_x : g1_0 x0 = (0 : Int32) := ((if_pos (by rw [e_f2_x])).trans (if_neg q19))
  have e_f1_x : f1 x0 = (0 : Int32) := e_g1_0_x
  have q20 : ¬ (983039 : Int32) < x0 := own_ngt h2 (by decide)
  have q21 : ¬ x0 < (91 : Int32) := own_nlt h1 (by decide)
  have q22 : (94 : Int32) < x0 := own_gt h1 (by decide)
  have q23 : ¬ x0 = (96 : Int32) := own_ne1 h1 (by decide)
  have q24 : ¬ x0 < (123 : Int32) := own_nlt h1 (by decide)
  have q25 : (191 : Int32) < x0 := own_gt h1 (by decide)
  have q26 : ¬ x0 = (215 : Int32) := own_ne1 h1 (by decide)
  have q27 : ¬ x0 = (247 : Int32) := own_ne1 h1 (by decide)
  have q28 : ¬ x0 < (768 : Int32) := own_nlt h1 (by decide)
  have q29 : ¬ (879 : Int32) < x0 := own_ngt h2 (by decide)
  have e_g3_51_x : g3_51 x0 = (0 : Int32) := ((if_neg q26).trans ((if_neg q27).trans ((if_neg q28).trans (if_neg q29))))
  have e_g3_28_x : g3_28 x0 = (0 : Int32) := ((if_neg q23).trans ((if_neg q24).trans ((if_pos q25).trans e_g3_51_x)))
  have e_g3_0_x : g3_0 x0 = (0 : Int32) := ((if_neg q0).trans ((if_neg q20).trans ((if_neg q21).trans ((if_pos q22).trans e_g3_28_x))))
  have e_f3_x : f3 x0 = (0 : Int32) := e_g3_0_x
  rw [e_f1_x, e_f3_x]
theorem own_iv_30 (x0 : Int32) (h1 : (769 : Int) ≤ x0.toInt) (h2 : x0.toInt < (879 : Int)) : f1 x0 = f3 x0 := by
  have q0 : ¬ x0 < (65 : Int32) := own_nlt h1 (by decide)
  have q1 : (90 : Int32) < x0 := own_gt h1 (by decide)
  have q2 : ¬ x0 < (97 : Int32) := own_nlt h1 (by decide)
  have q3 : (122 : Int32) < x0 := own_gt h1 (by decide)
  have q4 : ¬ x0 < (192 : Int32) := own_nlt h1 (by decide)
  have q5 : (214 : Int32) < x0 := own_gt h1 (by decide)
  have q6 : ¬ x0 < (216 : Int32) := own_nlt h1 (by decide)
  have q7 : (246 : Int32) < x0 := own_gt h1 (by decide)
  have q8 : ¬ x0 < (248 : Int32) := own_nlt h1 (by decide)
  have q9 : (767 : Int32) < x0 := own_gt h1 (by decide)
  have q10 : x0 < (880 : Int32) := own_lt h2 (by decide)
  have q11 : x0 < (895 : Int32) := own_lt h2 (by decide)
  have q12 : x0 < (8204 : Int32) := own_lt h2 (by decide)
  have q13 : x0 < (8304 : Int32) := own_lt h2 (by decide)
  have q14 : x0 < (11264 : Int32) := own_lt h2 (by decide)
  have q15 : x0 < (12289 : Int32) := own_lt h2 (by decide)
  have q16 : x0 < (63744 : Int32) := own_lt h2 (by decide)
  have q17 : x0 < (65008 : Int32) := own_lt h2 (by decide)
  have q18 : x0 < (65536 : Int32) := own_lt h2 (by decide)
  have e_g2_178_x : g2_178 x0 = (0 : Int32) := (if_pos q18)
  have e_g2_164_x : g2_164 x0 = (0 : Int32) := ((if_pos q17).trans e_g2_178_x)
  have e_g2_150_x : g2_150 x0 = (0 : Int32) := ((if_pos q16).trans e_g2_164_x)
  have e_g2_136_x : g2_136 x0 = (0 : Int32) := ((if_pos q15).trans e_g2_150_x)
  have e_g2_122_x : g2_122 x0 = (0 : Int32) := ((if_pos q14).trans e_g2_136_x)
  have e_g2_108_x : g2_108 x0 = (0 : Int32) := ((if_pos q13).trans e_g2_122_x)
  have e_g2_94_x : g2_94 x0 = (0 : Int32) := ((if_pos q12).trans e_g2_108_x)
  have e_g2_80_x : g2_80 x0 = (0 : Int32) := ((if_pos q11).trans e_g2_94_x)
  have e_g2_66_x : g2_66 x0 = (0 : Int32) := ((if_pos q10).trans e_g2_80_x)
  have e_g2_52_x : g2_52 x0 = (0 : Int32) := ((if_neg q8).trans ((if_pos q9).trans e_g2_66_x))
  have e_g2_38_x : g2_38 x0 = (0 : Int32) := ((if_neg q6).trans ((if_pos q7).trans e_g2_52_x))
  have e_g2_24_x : g2_24 x0 = (0 : Int32) := ((if_neg q4).trans ((if_pos q5).trans e_g2_38_x))
  have e_g2_12_x : g2_12 x0 = (0 : Int32) := ((if_neg q2).trans ((if_pos q3).trans e_g2_24_x))
  have e_g2_0_x : g2_0 x0 = (0 : Int32) := ((if_neg q0).trans ((if_pos q1).trans e_g2_12_x))
  have e_f2_x : f2 x0 = (0 : Int32) := e_g2_0_x
  have q19 : ¬ x0 = (95 : Int32) := own_ne1 h1 (by decide)
  have e_g1_0_x : g1_0 x0 = (0 : Int32) := ((if_pos (by rw [e_f2_x])).trans (if_neg q19))
  have e_f1_x : f1 x0 = (0 : Int32) := e_g1_0_x
  have q20 : ¬ (983039 : Int32) < x0 := own_ngt h2 (by decide)
  have q21 : ¬ x0 < (91 : Int32) := own_nlt h1 (by decide)
  have q22 : (94 : Int32) < x0 := own_gt h1 (by decide)
  have q23 : ¬ x0 = (96 : Int32) := own_ne1 h1 (by decide)
  have q24 : ¬ x0 < (123 : Int32) := own_nlt h1 (by decide)
  have q25 : (191 : Int32) < x0 := own_gt h1 (by decide)
  have q26 : ¬ x0 = (215 : Int32) := own_ne1 h1 (by decide)
  have q27 : ¬ x0 = (247 : Int32) := own_ne1 h1 (by decide)
  have q28 : ¬ x0 < (768 : Int32) := own_nlt h1 (by decide)
  have q29 : ¬ (879 : Int32) < x0 := own_ngt h2 (by decide)
  have e_g3_51_x : g3_51 x0 = (0 : Int32) := ((if_neg q26).trans ((if_neg q27).trans ((if_neg q28).trans (if_neg q29))))
  have e_g3_28_x : g3_28 x0 = (0 : Int32) := ((if_neg q23).trans ((if_neg q24).trans ((if_pos q25).trans e_g3_51_x)))
  have e_g3_0_x : g3_0 x0 = (0 : Int32) := ((if_neg q0).trans ((if_neg q20).trans ((if_neg q21).trans ((if_pos q22).trans e_g3_28_x))))
  have e_f3_x : f3 x0 = (0 : Int32) := e_g3_0_x
  rw [e_f1_x, e_f3_x]
theorem own_iv_31 (x0 : Int32) (h1 : (879 : Int) ≤ x0.toInt) (h2 : x0.toInt < (880 : Int)) : f1 x0 = f3 x0 := by
  have q0 : ¬ x0 < (65 : Int32) := own_nlt h1 (by decide)
  have q1 : (90 : Int32) < x0 := own_gt h1 (by decide)
  have q2 : ¬ x0 < (97 : Int32) := own_nlt h1 (by decide)
  have q3 : (122 : Int32) < x0 := own_gt h1 (by decide)
  have q4 : ¬ x0 < (192 : Int32) := own_nlt h1 (by decide)
  have q5 : (214 : Int32) < x0 := own_gt h1 (by decide)
  have q6 : ¬ x0 < (216 : Int32) := own_nlt h1 (by decide)
  have q7 : (246 : Int32) < x0 := own_gt h1 (by decide)
  have q8 : ¬ x0 < (248 : Int32) := own_nlt h1 (by decide)
  have q9 : (767 : Int32) < x0 := own_gt h1 (by decide)
  have q10 : x0 < (880 : Int32) := own_lt h2 (by decide)
  have q11 : x0 < (895 : Int32) := own_lt h2 (by decide)
  have q12 : x0 < (8204 : Int32) := own_lt h2 (by decide)
  have q13 : x0 < (8304 : Int32) := own_lt h2 (by decide)
  have q14 : x0 < (11264 : Int32) := own_lt h2 (by decide)
  have q15 : x0 < (12289 : Int32) := own_lt h2 (by decide)
  have q16 : x0 < (63744 : Int32) := own_lt h2 (by decide)
  have q17 : x0 < (65008 : Int32) := own_lt h2 (by decide)
  have q18 : x0 < (65536 : Int32) := own_lt h2 (by decide)
  have e_g2_178_x : g2_178 x0 = (0 : Int32) := (if_pos q18)
  have e_g2_164_x : g2_164 x0 = (0 : Int32) := ((if_pos q17).trans e_g2_178_x)
  have e_g2_150_x : g2_150 x0 = (0 : Int32) := ((if_pos q16).trans e_g2_164_x)
  have e_g2_136_x : g2_136 x0 = (0 : Int32) := ((if_pos q15).trans e_g2_150_x)
  have e_g2_122_x : g2_122 x0 = (0 : Int32) := ((if_pos q14).trans e_g2_136_x)
  have e_g2_108_x : g2_108 x0 = (0 : Int32) := ((if_pos q13).trans e_g2_122_x)
  have e_g2_94_x : g2_94 x0 = (0 : Int32) := ((if_pos q12).trans e_g2_108_x)
  have e_g2_80_x : g2_80 x0 = (0 : Int32) := ((if_pos q11).trans e_g2_94_x)
  have e_g2_66_x : g2_66 x0 = (0 : Int32) := ((if_pos q10).trans e_g2_80_x)
  have e_g2_52_x : g2_52 x0 = (0 : Int32) := ((if_neg q8).trans ((if_pos q9).trans e_g2_66_x))
  have e_g2_38_x : g2_38 x0 = (0 : Int32) := ((if_neg q6).trans ((if_pos q7).trans e_g2_52_x))
  have e_g2_24_x : g2_24 x0 = (0 : Int32) := ((if_neg q4).trans ((if_pos q5).trans e_g2_38_x))
  have e_g2_12_x : g2_12 x0 = (0 : Int32) := ((if_neg q2).trans ((if_pos q3).trans e_g2_24_x))
  have e_g2_0_x : g2_0 x0 = (0 : Int32) := ((if_neg q0).trans ((if_pos q1).trans e_g2_12_x))
  have e_f2_x : f2 x0 = (0 : Int32) := e_g2_0_x
  have q19 : ¬ x0 = (95 : Int32) := own_ne1 h1 (by decide)
  have e_g1_0_x : g1_0 x0 = (0 : Int32) := ((if_pos (by rw [e_f2_x])).trans (if_neg q19))
  have e_f1_x : f1 x0 = (0 : Int32) := e_g1_0_x
  have q20 : ¬ (983039 : Int32) < x0 := own_ngt h2 (by decide)
  have q21 : ¬ x0 < (91 : Int32) := own_nlt h1 (by decide)
  have q22 : (94 : Int32) < x0 := own_gt h1 (by decide)
  have q23 : ¬ x0 = (96 : Int32) := own_ne1 h1 (by decide)
  have q24 : ¬ x0 < (123 : Int32) := own_nlt h1 (by decide)
  have q25 : (191 : Int32) < x0 := own_gt h1 (by decide)
  have q26 : ¬ x0 = (215 : Int32) := own_ne1 h1 (by decide)
  have q27 : ¬ x0 = (247 : Int32) := own_ne1 h1 (by decide)
  have q28 : ¬ x0 < (768 : Int32) := own_nlt h1 (by decide)
  have q29 : ¬ (879 : Int32) < x0 := own_ngt h2 (by decide)
  have e_g3_51_x : g3_51 x0 = (0 : Int32) := ((if_neg q26).trans ((if_neg q27).trans ((if_neg q28).trans (if_neg q29))))
  have e_g3_28_x : g3_28 x0 = (0 : Int32) := ((if_neg q23).trans ((if_neg q24).trans ((if_pos q25).trans e_g3_51_x)))
  have e_g3_0_x : g3_0 x0 = (0 : Int32) := ((if_neg q0).trans ((if_neg q20).trans ((if_neg q21).trans ((if_pos q22).trans e_g3_28_x))))
  have e_f3_x : f3 x0 = (0 : Int32) := e_g3_0_x
  rw [e_f1_x, e_f3_x]
theorem own_iv_32 (x0 : Int32) (h1 : (880 : Int) ≤ x0.toInt) (h2 : x0.toInt < (881 : Int)) : f1 x0 = f3 x0 := by
  have q0 : ¬ x0 < (65 : Int32) := own_nlt h1 (by decide)
  have q1 : (90 : Int32) < x0 := own_gt h1 (by decide)
  have q2 : ¬ x0 < (97 : Int32) := own_nlt h1 (by decide)
  have q3 : (122 : Int32) < x0 := own_gt h1 (by decide)
  have q4 : ¬ x0 < (192 : Int32) := own_nlt h1 (by decide)
  have q5 : (214 : Int32) < x0 := own_gt h1 (by decide)
  have q6 : ¬ x0 < (216 : Int32) := own_nlt h1 (by decide)
  have q7 : (246 : Int32) < x0 := own_gt h1 (by decide)
  have q8 : ¬ x0 < (248 : Int32) := own_nlt h1 (by decide)
  have q9 : (767 : Int32) < x0 := own_gt h1 (by decide)
  have q10 : ¬ x0 < (880 : Int32) := own_nlt h1 (by decide)
  have q11 : ¬ (893 : Int32) < x0 := own_ngt h2 (by decide)
  have e_g2_66_x : g2_66 x0 = (1 : Int32) := ((if_neg q10).trans (if_neg q11))
  have e_g2_52_x : g2_52 x0 = (1 : Int32) := ((if_neg q8).trans ((if_pos q9).trans e_g2_66_x))
  have e_g2_38_x : g2_38 x0 = (1 : Int32) := ((if_neg q6).trans ((if_pos q7).trans e_g2_52_x))
  have e_g2_24_x : g2_24 x0 = (1 : Int32) := ((if_neg q4).trans ((if_pos q5).trans e_g2_38_x))
  have e_g2_12_x : g2_12 x0 = (1 : Int32) := ((if_neg q2).trans ((if_pos q3).trans e_g2_24_x))
  have e_g2_0_x : g2_0 x0 = (1 : Int32) := ((if_neg q0).trans ((if_pos q1).trans e_g2_12_x))
  have e_f2_x : f2 x0 = (1 : Int32) := e_g2_0_x
  have e_g1_0_x : g1_0 x0 = (1 : Int32) := (if_neg (by rw [e_f2_x]; decide))
  have e_f1_x : f1 x0 = (1 : Int32) := e_g1_0_x
  have q12 : ¬ (983039 : Int32) < x0 := own_ngt h2 (by decide)
  have q13 : ¬ x0 < (91 : Int32) := own_nlt h1 (by decide)
  have q14 : (94 : Int32) < x0 := own_gt h1 (by decide)
  have q15 : ¬ x0 = (96 : Int32) := own_ne1 h1 (by decide)
  have q16 : ¬ x0 < (123 : Int32) := own_nlt h1 (by decide)
  have q17 : (191 : Int32) < x0 := own_gt h1 (by decide)
  have q18 : ¬ x0 = (215 : Int32) := own_ne1 h1 (by decide)
  have q19 : ¬ x0 = (247 : Int32) := own_ne1 h1 (by decide)
  have q20 : ¬ x0 < (768 : Int32) := own_nlt h1 (by decide)
  have q21 : (879 : Int32) < x0 := own_gt h1 (by decide)
  have q22 : ¬ x0 = (894 : Int32) := own_ne2 h2 (by decide)
  have q23 : x0 < (8192 : Int32) := own_lt h2 (by decide)
  have q24 : x0 < (8206 : Int32) := own_lt h2 (by decide)
  have q25 : x0 < (8592 : Int32) := own_lt h2 (by decide)
  have q26 : x0 < (12272 : Int32) := own_lt h2 (by decide)
  have q27 : x0 < (55296 : Int32) := own_lt h2 (by decide)
  have q28 : x0 < (64976 : Int32) := own_lt h2 (by decide)
  have q29 : ¬ x0 = (65534 : Int32) := own_ne2 h2 (by decide)
  have q30 : ¬ x0 = (65535 : Int32) := own_ne2 h2 (by decide)
  have e_g3_184_x : g3_184 x0 = (1 : Int32) := ((if_neg q29).trans (if_neg q30))
  have e_g3_170_x : g3_170 x0 = (1 : Int32) := ((if_pos q28).trans e_g3_184_x)
  have e_g3_156_x : g3_156 x0 = (1 : Int32) := ((if_pos q27).trans e_g3_170_x)
  have e_g3_140_x : g3_140 x0 = (1 : Int32) := ((if_pos q26).trans e_g3_156_x)
  have e_g3_124_x : g3_124 x0 = (1 : Int32) := ((if_pos q25).trans e_g3_140_x)
  have e_g3_108_x : g3_108 x0 = (1 : Int32) := ((if_pos q24).trans e_g3_124_x)
  have e_g3_83_x : g3_83 x0 = (1 : Int32) := ((if_neg q22).trans ((if_pos q23).trans e_g3_108_x))
  have e_g3_51_x : g3_51 x0 = (1 : Int32) := ((if_neg q18).trans ((if_neg q19).trans ((if_neg q20).trans ((if_pos q21).trans e_g3_83_x))))
  have e_g3_28_x : g3_28 x0 = (1 : Int32) := ((if_neg q15).trans ((if_neg q16).trans ((if_pos q17).trans e_g3_51_x)))
  have e_g3_0_x : g3_0 x0 = (1 : Int32) := ((if_neg q0).trans ((if_neg q12).trans ((if_neg q13).trans ((if_pos q14).trans e_g3_28_x))))
  have e_f3_x : f3 x0 = (1 : Int32) := e_g3_0_x
  rw [e_f1_x, e_f3_x]
theorem own_iv_33 (x0 : Int32) (h1 : (881 : Int) ≤ x0.toInt) (h2 : x0.toInt < (893 : Int)) : f1 x0 = f3 x0 := by
  have q0 : ¬ x0 < (65 : Int32) := own_nlt h1 (by decide)
  have q1 : (90 : Int32) < x0 := own_gt h1 (by decide)
  have q2 : ¬ x0 < (97 : Int32) := own_nlt h1 (by decide)
  have q3 : (122 : Int32) < x0 := own_gt h1 (by decide)
  have q4 : ¬ x0 < (192 : Int32) := own_nlt h1 (by decide)
  have q5 : (214 : Int32) < x0 := own_gt h1 (by decide)
  have q6 : ¬ x0 < (216 : Int32) := own_nlt h1 (by decide)
  have q7 : (246 : Int32) < x0 := own_gt h1 (by decide)
  have q8 : ¬ x0 < (248 : Int32) := own_nlt h1 (by decide)
  have q9 : (767 : Int32) < x0 := own_gt h1 (by decide)
  have q10 : ¬ x0 < (880 : Int32) := own_nlt h1 (by decide)
  have q11 : ¬ (893 : Int32) < x0 := own_ngt h2 (by decide)
  have e_g2_66_x : g2_66 x0 = (1 : Int32) := ((if_neg q10).trans (if_neg q11))
  have e_g2_52_x : g2_52 x0 = (1 : Int32) := ((if_neg q8).trans ((if_pos q9).trans e_g2_66_x))
  have e_g2_38_x : g2_38 x0 = (1 : Int32) := ((if_neg q6).trans ((if_pos q7).trans e_g2_52_x))
  have e_g2_24_x : g2_24 x0 = (1 : Int32) := ((if_neg q4).trans ((if_pos q5).trans e_g2_38_x))
  have e_g2_12_x : g2_12 x0 = (1 : Int32) := ((if_neg q2).trans ((if_pos q3).trans e_g2_24_x))
  have e_g2_0_x : g2_0 x0 = (1 : Int32) := ((if_neg q0).trans ((if_pos q1).trans e_g2_12_x))
  have e_f2_x : f2 x0 = (1 : Int32) := e_g2_0_x
  have e_g1_0_x : g1_0 x0 = (1 : Int32) := (if_neg (by rw [e_f2_x]; decide))
  have e_f1_x : f1 x0 = (1 : Int32) := e_g1_0_x
  have q12 : ¬ (983039 : Int32) < x0 := own_ngt h2 (by decide)
  have q13 : ¬ x0 < (91 : Int32) := own_nlt h1 (by decide)
  have q14 : (94 : Int32) < x0 := own_gt h1 (by decide)
  have q15 : ¬ x0 = (96 : Int32) := own_ne1 h1 (by decide)
  have q16 : ¬ x0 < (123 : Int32) := own_nlt h1 (by decide)
  have q17 : (191 : Int32) < x0 := own_gt h1 (by decide)
  have q18 : ¬ x0 = (215 : Int32) := own_ne1 h1 (by decide)
  have q19 : ¬ x0 = (247 : Int32) := own_ne1 h1 (by decide)
  have q20 : ¬ x0 < (768 : Int32) := own_nlt h1 (by decide)
  have q21 : (879 : Int32) < x0 := own_gt h1 (by decide)
  have q22 : ¬ x0 = (894 : Int32) := own_ne2 h2 (by decide)
  have q23 : x0 < (8192 : Int32) := own_lt h2 (by decide)
  have q24 : x0 < (8206 : Int32) := own_lt h2 (by decide)
  have q25 : x0 < (8592 : Int32) := own_lt h2 (by decide)
  have q26 : x0 < (12272 : Int32) := own_lt h2 (by decide)
  have q27 : x0 < (55296 : Int32) := own_lt h2 (by decide)
  have q28 : x0 < (64976 : Int32) := own_lt h2 (by decide)
  have q29 : ¬ x0 = (65534 : Int32) := own_ne2 h2 (by decide)
  have q30 : ¬ x0 = (65535 : Int32) := own_ne2 h2 (by decide)
  have e_g3_184_x : g3_184 x0 = (1 : Int32) := ((if_neg q29).trans (if_neg q30))
  have e_g3_170_x : g3_170 x0 = (1 : Int32) := ((if_pos q28).trans e_g3_184_x)
  have e_g3_156_x : g3_156 x0 = (1 : Int32) := ((if_pos q27).trans e_g3_170_x)
  have e_g3_140_x : g3_140 x0 = (1 : Int32) := ((if_pos q26).trans e_g3_156_x)
  have e_g3_124_x : g3_124 x0 = (1 : Int32) := ((if_pos q25).trans e_g3_140_x)
  have e_g3_108_x : g3_108 x0 = (1 : Int32) := ((if_pos q24).trans e_g3_124_x)
  have e_g3_83_x : g3_83 x0 = (1 : Int32) := ((if_neg q22).trans ((if_pos q23).trans e_g3_108_x))
  have e_g3_51_x : g3_51 x0 = (1 : Int32) := ((if_neg q18).trans ((if_neg q19).trans ((if_neg q20).trans ((if_pos q21).trans e_g3_83_x))))
  have e_g3_28_x : g3_28 x0 = (1 : Int32) := ((if_neg q15).trans ((if_neg q16).trans ((if_pos q17).trans e_g3_51_x)))
  have e_g3_0_x : g3_0 x0 = (1 : Int32) := ((if_neg q0).trans ((if_neg q12).trans ((if_neg q13).trans ((if_pos q14).trans e_g3_28_x))))
  have e_f3_x : f3 x0 = (1 : Int32) := e_g3_0_x
  rw [e_f1_x, e_f3_x]
theorem own_iv_34 (x0 : Int32) (h1 : (893 : Int) ≤ x0.toInt) (h2 : x0.toInt < (894 : Int)) : f1 x0 = f3 x0 := by
  have q0 : ¬ x0 < (65 : Int32) := own_nlt h1 (by decide)
  have q1 : (90 : Int32) < x0 := own_gt h1 (by decide)
  have q2 : ¬ x0 < (97 : Int32) := own_nlt h1 (by decide)
  have q3 : (122 : Int32) < x0 := own_gt h1 (by decide)
  have q4 : ¬ x0 < (192 : Int32) := own_nlt h1 (by decide)
  have q5 : (214 : Int32) < x0 := own_gt h1 (by decide)
  have q6 : ¬ x0 < (216 : Int32) := own_nlt h1 (by decide)
  have q7 : (246 : Int32) < x0 := own_gt h1 (by decide)
  have q8 : ¬ x0 < (248 : Int32) := own_nlt h1 (by decide)
  have q9 : (767 : Int32) < x0 := own_gt h1 (by decide)
  have q10 : ¬ x0 < (880 : Int32) := own_nlt h1 (by decide)
  have q11 : ¬ (893 : Int32) < x0 := own_ngt h2 (by decide)
  have e_g2_66_x : g2_66 x0 = (1 : Int32) := ((if_neg q10).trans (if_neg q11))
  have e_g2_52_x : g2_52 x0 = (1 : Int32) := ((if_neg q8).trans ((if_pos q9).trans e_g2_66_x))
  have e_g2_38_x : g2_38 x0 = (1 : Int32) := ((if_neg q6).trans ((if_pos q7).trans e_g2_52_x))
  have e_g2_24_x : g2_24 x0 = (1 : Int32) := ((if_neg q4).trans ((if_pos q5).trans e_g2_38_x))
  have e_g2_12_x : g2_12 x0 = (1 : Int32) := ((if_neg q2).trans ((if_pos q3).trans e_g2_24_x))
  have e_g2_0_x : g2_0 x0 = (1 : Int32) := ((if_neg q0).trans ((if_pos q1).trans e_g2_12_x))
  have e_f2_x : f2 x0 = (1 : Int32) := e_g2_0_x
  have e_g1_0_x : g1_0 x0 = (1 : Int32) := (if_neg (by rw [e_f2_x]; decide))
  have e_f1_x : f1 x0 = (1 : Int32) := e_g1_0_x
  have q12 : ¬ (983039 : Int32) < x0 := own_ngt h2 (by decide)
  have q13 : ¬ x0 < (91 : Int32) := own_nlt h1 (by decide)
  have q14 : (94 : Int32) < x0 := own_gt h1 (by decide)
  have q15 : ¬ x0 = (96 : Int32) := own_ne1 h1 (by decide)
  have q16 : ¬ x0 < (123 : Int32) := own_nlt h1 (by decide)
  have q17 : (191 : Int32) < x0 := own_gt h1 (by decide)
  have q18 : ¬ x0 = (215 : Int32) := own_ne1 h1 (by decide)
  have q19 : ¬ x0 = (247 : Int32) := own_ne1 h1 (by decide)
  have q20 : ¬ x0 < (768 : Int32) := own_nlt h1 (by decide)
  have q21 : (879 : Int32) < x0 := own_gt h1 (by decide)
  have q22 : ¬ x0 = (894 : Int32) := own_ne2 h2 (by decide)
  have q23 : x0 < (8192 : Int32) := own_lt h2 (by decide)
  have q24 : x0 < (8206 : Int32) := own_lt h2 (by decide)
  have q25 : x0 < (8592 : Int32) := own_lt h2 (by decide)
  have q26 : x0 < (12272 : Int32) := own_lt h2 (by decide)
  have q27 : x0 < (55296 : Int32) := own_lt h2 (by decide)
  have q28 : x0 < (64976 : Int32) := own_lt h2 (by decide)
  have q29 : ¬ x0 = (65534 : Int32) := own_ne2 h2 (by decide)
  have q30 : ¬ x0 = (65535 : Int32) := own_ne2 h2 (by decide)
  have e_g3_184_x : g3_184 x0 = (1 : Int32) := ((if_neg q29).trans (if_neg q30))
  have e_g3_170_x : g3_170 x0 = (1 : Int32) := ((if_pos q28).trans e_g3_184_x)
  have e_g3_156_x : g3_156 x0 = (1 : Int32) := ((if_pos q27).trans e_g3_170_x)
  have e_g3_140_x : g3_140 x0 = (1 : Int32) := ((if_pos q26).trans e_g3_156_x)
  have e_g3_124_x : g3_124 x0 = (1 : Int32) := ((if_pos q25).trans e_g3_140_x)
  have e_g3_108_x : g3_108 x0 = (1 : Int32) := ((if_pos q24).trans e_g3_124_x)
  have e_g3_83_x : g3_83 x0 = (1 : Int32) := ((if_neg q22).trans ((if_pos q23).trans e_g3_108_x))
  have e_g3_51_x : g3_51 x0 = (1 : Int32) := ((if_neg q18).trans ((if_neg q19).trans ((if_neg q20).trans ((if_pos q21).trans e_g3_83_x))))
  have e_g3_28_x : g3_28 x0 = (1 : Int32) := ((if_neg q15).trans ((if_neg q16).trans ((if_pos q17).trans e_g3_51_x)))
  have e_g3_0_x : g3_0 x0 = (1 : Int32) := ((if_neg q0).trans ((if_neg q12).trans ((if_neg q13).trans ((if_pos q14).trans e_g3_28_x))))
  have e_f3_x : f3 x0 = (1 : Int32) := e_g3_0_x
  rw [e_f1_x, e_f3_x]
theorem own_iv_35 (x0 : Int32) (h1 : (894 : Int) ≤ x0.toInt) (h2 : x0.toInt < (895 : Int)) : f1 x0 = f3 x0 := by
  have q0 : ¬ x0 < (65 : Int32) := own_nlt h1 (by decide)
  have q1 : (90 : Int32) < x0 := own_gt h1 (by decide)
  have q2 : ¬ x0 < (97 : Int32) := own_nlt h1 (by decide)
  have q3 : (122 : Int32) < x0 := own_gt h1 (by decide)
  have q4 : ¬ x0 < (192 : Int32) := own_nlt h1 (by decide)
  have q5 : (214 : Int32) < x0 := own_gt h1 (by decide)
  have q6 : ¬ x0 < (216 : Int32) := own_nlt h1 (by decide)
  have q7 : (246 : Int32) < x0 := own_gt h1 (by decide)
  have q8 : ¬ x0 < (248 : Int32) := own_nlt h1 (by decide)
  have q9 : (767 : Int32) < x0 := own_gt h1 (by decide)
  have q10 : ¬ x0 < (880 : Int32) := own_nlt h1 (by decide)
  have q11 : (893 : Int32) < x0 := own_gt h1 (by decide)
  have q12 : x0 < (895 : Int32) := own_lt h2 (by decide)
  have q13 : x0 < (8204 : Int32) := own_lt h2 (by decide)
  have q14 : x0 < (8304 : Int32) := own_lt h2 (by decide)
  have q15 : x0 < (11264 : Int32) := own_lt h2 (by decide)
  have q16 : x0 < (12289 : Int32) := own_lt h2 (by decide)
  have q17 : x0 < (63744 : Int32) := own_lt h2 (by decide)
  have q18 : x0 < (65008 : Int32) := own_lt h2 (by decide)
  have q19 : x0 < (65536 : Int32) := own_lt h2 (by decide)
  have e_g2_178_x : g2_178 x0 = (0 : Int32) := (if_pos q19)
  have e_g2_164_x : g2_164 x0 = (0 : Int32) := ((if_pos q18).trans e_g2_178_x)
  have e_g2_150_x : g2_150 x0 = (0 : Int32) := ((if_pos q17).trans e_g2_164_x)
  have e_g2_136_x : g2_136 x0 = (0 : Int32) := ((if_pos q16).trans e_g2_150_x)
  have e_g2_122_x : g2_122 x0 = (0 : Int32) := ((if_pos q15).trans e_g2_136_x)
  have e_g2_108_x : g2_108 x0 = (0 : Int32) := ((if_pos q14).trans e_g2_122_x)
  have e_g2_94_x : g2_94 x0 = (0 : Int32) := ((if_pos q13).trans e_g2_108_x)
  have e_g2_80_x : g2_80 x0 = (0 : Int32) := ((if_pos q12).trans e_g2_94_x)
  have e_g2_66_x : g2_66 x0 = (0 : Int32) := ((if_neg q10).trans ((if_pos q11).trans e_g2_80_x))
  have e_g2_52_x : g2_52 x0 = (0 : Int32) := ((if_neg q8).trans ((if_pos q9).trans e_g2_66_x))
  have e_g2_38_x : g2_38 x0 = (0 : Int32) := ((if_neg q6).trans ((if_pos q7).trans e_g2_52_x))
  have e_g2_24_x : g2_24 x0 = (0 : Int32) := ((if_neg q4).trans ((if_pos q5).trans e_g2_38_x))
  have e_g2_12_x : g2_12 x0 = (0 : Int32) := ((if_neg q2).trans ((if_pos q3).trans e_g2_24_x))
  have e_g2_0_x : g2_0 x0 = (0 : Int32) := ((if_neg q0).trans ((if_pos q1).trans e_g2_12_x))
  have e_f2_x : f2 x0 = (0 : Int32) := e_g2_0_x
  have q20 : ¬ x0 = (95 : Int32) := own_ne1 h1 (by decide)
  have e_g1_0_x : g1_0 x0 = (0 : Int32) := ((if_pos (by rw [e_f2_x])).trans (if_neg q20))
  have e_f1_x : f1 x0 = (0 : Int32) := e_g1_0_x
  have q21 : ¬ (983039 : Int32) < x0 := own_ngt h2 (by decide)
  have q22 : ¬ x0 < (91 : Int32) := own_nlt h1 (by decide)
  have q23 : (94 : Int32) < x0 := own_gt h1 (by decide)
  have q24 : ¬ x0 = (96 : Int32) := own_ne1 h1 (by decide)
  have q25 : ¬ x0 < (123 : Int32) := own_nlt h1 (by decide)
  have q26 : (191 : Int32) < x0 := own_gt h1 (by decide)
  have q27 : ¬ x0 = (215 : Int32) := own_ne1 h1 (by decide)
  have q28 : ¬ x0 = (247 : Int32) := own_ne1 h1 (by decide)
  have q29 : ¬ x0 < (768 : Int32) := own_nlt h1 (by decide)
  have q30 : (879 : Int32) < x0 := own_gt h1 (by decide)
  have q31 : x0 = (894 : Int32) := own_eq h1 h2 (by decide)
  have e_g3_83_x : g3_83 x0 = (0 : Int32) := (if_pos q31)
  have e_g3_51_x : g3_51 x0 = (0 : Int32) := ((if_neg q27).trans ((if_neg q28).trans ((if_neg q29).trans ((if_pos q30).trans e_g3_83_x))))
  have e_g3_28_x : g3_28 x0 = (0 : Int32) := ((if_neg q24).trans ((if_neg q25).trans ((if_pos q26).trans e_g3_51_x)))
  have e_g3_0_x : g3_0 x0 = (0 : Int32) := ((if_neg q0).trans ((if_neg q21).trans ((if_neg q22).trans ((if_pos q23).trans e_g3_28_x))))
  have e_f3_x : f3 x0 = (0 : Int32) := e_g3_0_x
  rw [e_f1_x, e_f3_x]
theorem own_iv_36 (x0 : Int32) (h1 : (895 : Int) ≤ x0.toInt) (h2 : x0.toInt < (896 : Int)) : f1 x0 = f3 x0 := by
  have q0 : ¬ x0 < (65 : Int32) := own_nlt h1 (by decide)
  have q1 : (90 : Int32) < x0 := own_gt h1 (by decide)
  have q2 : ¬ x0 < (97 : Int32) := own_nlt h1 (by decide)
  have q3 : (122 : Int32) < x0 := own_gt h1 (by decide)
  have q4 : ¬ x0 < (192 : Int32) := own_nlt h1 (by decide)
  have q5 : (214 : Int32) < x0 := own_gt h1 (by decide)
  have q6 : ¬ x0 < (216 : Int32) := own_nlt h1 (by decide)
  have q7 : (246 : Int32) < x0 := own_gt h1 (by decide)
  have q8 : ¬ x0 < (248 : Int32) := own_nlt h1 (by decide)
  have q9 : (767 : Int32) < x0 := own_gt h1 (by decide)
  have q10 : ¬ x0 < (880 : Int32) := own_nlt h1 (by decide)
  have q11 : (893 : Int32) < x0 := own_gt h1 (by decide)
  have q12 : ¬ x0 < (895 : Int32) := own_nlt h1 (by decide)
  have q13 : ¬ (8191 : Int32) < x0 := own_ngt h2 (by decide)
  have e_g2_80_x : g2_80 x0 = (1 : Int32) := ((if_neg q12).trans (if_neg q13))
  have e_g2_66_x : g2_66 x0 = (1 : Int32) := ((if_neg q10).trans ((if_pos q11).trans e_g2_80_x))
  have e_g2_52_x : g2_52 x0 = (1 : Int32) := ((if_neg q8).trans ((if_pos q9).trans e_g2_66_x))
  have e_g2_38_x : g2_38 x0 = (1 : Int32) := ((if_neg q6).trans ((if_pos q7).trans e_g2_52_x))
  have e_g2_24_x : g2_24 x0 = (1 : Int32) := ((if_neg q4).trans ((if_pos q5).trans e_g2_38_x))
  have e_g2_12_x : g2_12 x0 = (1 : Int32) := ((if_neg q2).trans ((if_pos q3).trans e_g2_24_x))
  have e_g2_0_x : g2_0 x0 = (1 : Int32) := ((if_neg q0).trans ((if_pos q1).trans e_g2_12_x))
  have e_f2_x : f2 x0 = (1 : Int32) := e_g2_0_x
  have e_g1_0_x : g1_0 x0 = (1 : Int32) := (if_neg (by rw [e_f2_x]; decide))
  have e_f1_x : f1 x0 = (1 : Int32) := e_g1_0_x
  have q14 : ¬ (983039 : Int32) < x0 := own_ngt h2 (by decide)
  have q15 : ¬ x0 < (91 : Int32) := own_nlt h1 (by decide)
  have q16 : (94 : Int32) < x0 := own_gt h1 (by decide)
  have q17 : ¬ x0 = (96 : Int32) := own_ne1 h1 (by decide)
  have q18 : ¬ x0 < (123 : Int32) := own_nlt h1 (by decide)
  have q19 : (191 : Int32) < x0 := own_gt h1 (by decide)
  have q20 : ¬ x0 = (215 : Int32) := own_ne1 h1 (by decide)
  have q21 : ¬ x0 = (247 : Int32) := own_ne1 h1 (by decide)
  have q22 : ¬ x0 < (768 : Int32) := own_nlt h1 (by decide)
  have q23 : (879 : Int32) < x0 := own_gt h1 (by decide)
  have q24 : ¬ x0 = (894 : Int32) := own_ne1 h1 (by decide)
  have q25 : x0 < (8192 : Int32) := own_lt h2 (by decide)
  have q26 : x0 < (8206 : Int32) := own_lt h2 (by decide)
  have q27 : x0 < (8592 : Int32) := own_lt h2 (by decide)
  have q28 : x0 < (12272 : Int32) := own_lt h2 (by decide)
  have q29 : x0 < (55296 : Int32) := own_lt h2 (by decide)
  have q30 : x0 < (64976 : Int32) := own_lt h2 (by decide)
  have q31 : ¬ x0 = (65534 : Int32) := own_ne2 h2 (by decide)
  have q32 : ¬ x0 = (65535 : Int32) := own_ne2 h2 (by decide)
  have e_g3_184_x : g3_184 x0 = (1 : Int32) := ((if_neg q31).trans (if_neg q32))
  have e_g3_170_x : g3_170 x0 = (1 : Int32) := ((if_pos q30).trans e_g3_184_x)
  have e_g3_156_x : g3_156 x0 = (1 : Int32) := ((if_pos q29).trans e_g3_170_x)
  have e_g3_140_x : g3_140 x0 = (1 : Int32) := ((if_pos q28).trans e_g3_156_x)
  have e_g3_124_x : g3_124 x0 = (1 : Int32) := ((if_pos q27).trans e_g3_140_x)
  have e_g3_108_x : g3_108 x0 = (1 : Int32) := ((if_pos q26).trans e_g3_124_x)
  have e_g3_83_x : g3_83 x0 = (1 : Int32) := ((if_neg q24).trans ((if_pos q25).trans e_g3_108_x))
  have e_g3_51_x : g3_51 x0 = (1 : Int32) := ((if_neg q20).trans ((if_neg q21).trans ((if_neg q22).trans ((if_pos q23).trans e_g3_83_x))))
  have e_g3_28_x : g3_28 x0 = (1 : Int32) := ((if_neg q17).trans ((if_neg q18).trans ((if_pos q19).trans e_g3_51_x)))
  have e_g3_0_x : g3_0 x0 = (1 : Int32) := ((if_neg q0).trans ((if_neg q14).trans ((if_neg q15).trans ((if_pos q16).trans e_g3_28_x))))
  have e_f3_x : f3 x0 = (1 : Int32) := e_g3_0_x
  rw [e_f1_x, e_f3_x]
theorem own_iv_37 (x0 : Int32) (h1 : (896 : Int) ≤ x0.toInt) (h2 : x0.toInt < (8191 : Int)) : f1 x0 = f3 x0 := by
  have q0 : ¬ x0 < (65 : Int32) := own_nlt h1 (by decide)
  have q1 : (90 : Int32) < x0 := own_gt h1 (by decide)
  have q2 : ¬ x0 < (97 : Int32) := own_nlt h1 (by decide)
  have q3 : (122 : Int32) < x0 := own_gt h1 (by decide)
  have q4 : ¬ x0 < (192 : Int32) := own_nlt h1 (by decide)
  have q5 : (214 : Int32) < x0 := own_gt h1 (by decide)
  have q6 : ¬ x0 < (216 : Int32) := own_nlt h1 (by decide)
  have q7 : (246 : Int32) < x0 := own_gt h1 (by decide)
  have q8 : ¬ x0 < (248 : Int32) := own_nlt h1 (by decide)
  have q9 : (767 : Int32) < x0 := own_gt h1 (by decide)
  have q10 : ¬ x0 < (880 : Int32) := own_nlt h1 (by decide)
  have q11 : (893 : Int32) < x0 := own_gt h1 (by decide)
  have q12 : ¬ x0 < (895 : Int32) := own_nlt h1 (by decide)
  have q13 : ¬ (8191 : Int32) < x0 := own_ngt h2 (by decide)
  have e_g2_80_x : g2_80 x0 = (1 : Int32) := ((if_neg q12).trans (if_neg q13))
  have e_g2_66_x : g2_66 x0 = (1 : Int32) := ((if_neg q10).trans ((if_pos q11).trans e_g2_80_x))
  have e_g2_52_x : g2_52 x0 = (1 : Int32) := ((if_neg q8).trans ((if_pos q9).trans e_g2_66_x))
  have e_g2_38_x : g2_38 x0 = (1 : Int32) := ((if_neg q6).trans ((if_pos q7).trans e_g2_52_x))
  have e_g2_24_x : g2_24 x0 = (1 : Int32) := ((if_neg q4).trans ((if_pos q5).trans e_g2_38_x))
  have e_g2_12_x : g2_12 x0 = (1 : Int32) := ((if_neg q2).trans ((if_pos q3).trans e_g2_24_x))
  have e_g2_0_x : g2_0 x0 = (1 : Int32) := ((if_neg q0).trans ((if_pos q1).trans e_g2_12_x))
  have e_f2_x : f2 x0 = (1 : Int32) := e_g2_0_x
  have e_g1_0_x : g1_0 x0 = (1 : Int32) := (if_neg (by rw [e_f2_x]; decide))
  have e_f1_x : f1 x0 = (1 : Int32) := e_g1_0_x
  have q14 : ¬ (983039 : Int32) < x0 := own_ngt h2 (by decide)
  have q15 : ¬ x0 < (91 : Int32) := own_nlt h1 (by decide)
  have q16 : (94 : Int32) < x0 := own_gt h1 (by decide)
  have q17 : ¬ x0 = (96 : Int32) := own_ne1 h1 (by decide)
  have q18 : ¬ x0 < (123 : Int32) := own_nlt h1 (by decide)
  have q19 : (191 : Int32) < x0 := own_gt h1 (by decide)
  have q20 : ¬ x0 = (215 : Int32) := own_ne1 h1 (by decide)
  have q21 : ¬ x0 = (247 : Int32) := own_ne1 h1 (by decide)
  have q22 : ¬ x0 < (768 : Int32) := own_nlt h1 (by decide)
  have q23 : (879 : Int32) < x0 := own_gt h1 (by decide)
  have q24 : ¬ x0 = (894 : Int32) := own_ne1 h1 (by decide)
  have q25 : x0 < (8192 : Int32) := own_lt h2 (by decide)
  have q26 : x0 < (8206 : Int32) := own_lt h2 (by decide)
  have q27 : x0 < (8592 : Int32) := own_lt h2 (by decide)
  have q28 : x0 < (12272 : Int32) := own_lt h2 (by decide)
  have q29 : x0 < (55296 : Int32) := own_lt h2 (by decide)
  have q30 : x0 < (64976 : Int32) := own_lt h2 (by decide)
  have q31 : ¬ x0 = (65534 : Int32) := own_ne2 h2 (by decide)
  have q32 : ¬ x0 = (65535 : Int32) := own_ne2 h2 (by decide)
  have e_g3_184_x : g3_184 x0 = (1 : Int32) := ((if_neg q31).trans (if_neg q32))
  have e_g3_170_x : g3_170 x0 = (1 : Int32) := ((if_pos q30).trans e_g3_184_x)
  have e_g3_156_x : g3_156 x0 = (1 : Int32) := ((if_pos q29).trans e_g3_170_x)
  have e_g3_140_x : g3_140 x0 = (1 : Int32) := ((if_pos q28).trans e_g3_156_x)
  have e_g3_124_x : g3_124 x0 = (1 : Int32) := ((if_pos q27).trans e_g3_140_x)
  have e_g3_108_x : g3_108 x0 = (1 : Int32) := ((if_pos q26).trans e_g3_124_x)
  have e_g3_83_x : g3_83 x0 = (1 : Int32) := ((if_neg q24).trans ((if_pos q25).trans e_g3_108_x))
  have e_g3_51_x : g3_51 x0 = (1 : Int32) := ((if_neg q20).trans ((if_neg q21).trans ((if_neg q22).trans ((if_pos q23).trans e_g3_83_x))))
  have e_g3_28_x : g3_28 x0 = (1 : Int32) := ((if_neg q17).trans ((if_neg q18).trans ((if_pos q19).trans e_g3_51_x)))
  have e_g3_0_x : g3_0 x0 = (1 : Int32) := ((if_neg q0).trans ((if_neg q14).trans ((if_neg q15).trans ((if_pos q16).trans e_g3_28_x))))
  have e_f3_x : f3 x0 = (1 : Int32) := e_g3_0_x
  rw [e_f1_x, e_f3_x]
theorem own_iv_38 (x0 : Int32) (h1 : (8191 : Int) ≤ x0.toInt) (h2 : x0.toInt < (8192 : Int)) : f1 x0 = f3 x0 := by
  have q0 : ¬ x0 < (65 : Int32) := own_nlt h1 (by decide)
  have q1 : (90 : Int32) < x0 := own_gt h1 (by decide)
  have q2 : ¬ x0 < (97 : Int32) := own_nlt h1 (by decide)
  have q3 : (122 : Int32) < x0 := own_gt h1 (by decide)
  have q4 : ¬ x0 < (192 : Int32) := own_nlt h1 (by decide)
  have q5 : (214 : Int32) < x0 := own_gt h1 (by decide)
  have q6 : ¬ x0 < (216 : Int32) := own_nlt h1 (by decide)
  have q7 : (246 : Int32) < x0 := own_gt h1 (by decide)
  have q8 : ¬ x0 < (248 : Int32) := own_nlt h1 (by decide)
  have q9 : (767 : Int32) < x0 := own_gt h1 (by decide)
  have q10 : ¬ x0 < (880 : Int32) := own_nlt h1 (by decide)
  have q11 : (893 : Int32) < x0 := own_gt h1 (by decide)
  have q12 : ¬ x0 < (895 : Int32) := own_nlt h1 (by decide)
  have q13 : ¬ (8191 : Int32) < x0 := own_ngt h2 (by decide)
  have e_g2_80_x : g2_80 x0 = (1 : Int32) := ((if_neg q12).trans (if_neg q13))
  have e_g2_66_x : g2_66 x0 = (1 : Int32) := ((if_neg q10).trans ((if_pos q11).trans e_g2_80_x))
  have e_g2_52_x : g2_52 x0 = (1 : Int32) := ((if_neg q8).trans ((if_pos q9).trans e_g2_66_x))
  have e_g2_38_x : g2_38 x0 = (1 : Int32) := ((if_neg q6).trans ((if_pos q7).trans e_g2_52_x))
  have e_g2_24_x : g2_24 x0 = (1 : Int32) := ((if_neg q4).trans ((if_pos q5).trans e_g2_38_x))
  have e_g2_12_x : g2_12 x0 = (1 : Int32) := ((if_neg q2).trans ((if_pos q3).trans e_g2_24_x))
  have e_g2_0_x : g2_0 x0 = (1 : Int32) := ((if_neg q0).trans ((if_pos q1).trans e_g2_12_x))
  have e_f2_x : f2 x0 = (1 : Int32) := e_g2_0_x
  have e_g1_0_x : g1_0 x0 = (1 : Int32) := (if_neg (by rw [e_f2_x]; decide))
  have e_f1_x : f1 x0 = (1 : Int32) := e_g1_0_x
  have q14 : ¬ (983039 : Int32) < x0 := own_ngt h2 (by decide)
  have q15 : ¬ x0 < (91 : Int32) := own_nlt h1 (by decide)
  have q16 : (94 : Int32) < x0 := own_gt h1 (by decide)
  have q17 : ¬ x0 = (96 : Int32) := own_ne1 h1 (by decide)
  have q18 : ¬ x0 < (123 : Int32) := own_nlt h1 (by decide)
  have q19 : (191 : Int32) < x0 := own_gt h1 (by decide)
  have q20 : ¬ x0 = (215 : Int32) := own_ne1 h1 (by decide)
  have q21 : ¬ x0 = (247 : Int32) := own_ne1 h1 (by decide)
  have q22 : ¬ x0 < (768 : Int32) := own_nlt h1 (by decide)
  have q23 : (879 : Int32) < x0 := own_gt h1 (by decide)
  have q24 : ¬ x0 = (894 : Int32) := own_ne1 h1 (by decide)
  have q25 : x0 < (8192 : Int32) := own_lt h2 (by decide)
  have q26 : x0 < (8206 : Int32) := own_lt h2 (by decide)
  have q27 : x0 < (8592 : Int32) := own_lt h2 (by decide)
  have q28 : x0 < (12272 : Int32) := own_lt h2 (by decide)
  have q29 : x0 < (55296 : Int32) := own_lt h2 (by decide)
  have q30 : x0 < (64976 : Int32) := own_lt h2 (by decide)
  have q31 : ¬ x0 = (65534 : Int32) := own_ne2 h2 (by decide)
  have q32 : ¬ x0 = (65535 : Int32) := own_ne2 h2 (by decide)
  have e_g3_184_x : g3_184 x0 = (1 : Int32) := ((if_neg q31).trans (if_neg q32))
  have e_g3_170_x : g3_170 x0 = (1 : Int32) := ((if_pos q30).trans e_g3_184_x)
  have e_g3_156_x : g3_156 x0 = (1 : Int32) := ((if_pos q29).trans e_g3_170_x)
  have e_g3_140_x : g3_140 x0 = (1 : Int32) := ((if_pos q28).trans e_g3_156_x)
  have e_g3_124_x : g3_124 x0 = (1 : Int32) := ((if_pos q27).trans e_g3_140_x)
  have e_g3_108_x : g3_108 x0 = (1 : Int32) := ((if_pos q26).trans e_g3_124_x)
  have e_g3_83_x : g3_83 x0 = (1 : Int32) := ((if_neg q24).trans ((if_pos q25).trans e_g3_108_x))
  have e_g3_51_x : g3_51 x0 = (1 : Int32) := ((if_neg q20).trans ((if_neg q21).trans ((if_neg q22).trans ((if_pos q23).trans e_g3_83_x))))
  have e_g3_28_x : g3_28 x0 = (1 : Int32) := ((if_neg q17).trans ((if_neg q18).trans ((if_pos q19).trans e_g3_51_x)))
  have e_g3_0_x : g3_0 x0 = (1 : Int32) := ((if_neg q0).trans ((if_neg q14).trans ((if_neg q15).trans ((if_pos q16).trans e_g3_28_x))))
  have e_f3_x : f3 x0 = (1 : Int32) := e_g3_0_x
  rw [e_f1_x, e_f3_x]
theorem own_iv_39 (x0 : Int32) (h1 : (8192 : Int) ≤ x0.toInt) (h2 : x0.toInt < (8193 : Int)) : f1 x0 = f3 x0 := by
  have q0 : ¬ x0 < (65 : Int32) := own_nlt h1 (by decide)
  have q1 : (90 : Int32) < x0 := own_gt h1 (by decide)
  have q2 : ¬ x0 < (97 : Int32) := own_nlt h1 (by decide)
  have q3 : (122 : Int32) < x0 := own_gt h1 (by decide)
  have q4 : ¬ x0 < (192 : Int32) := own_nlt h1 (by decide)
  have q5 : (214 : Int32) < x0 := own_gt h1 (by decide)
  have q6 : ¬ x0 < (216 : Int32) := own_nlt h1 (by decide)
  have q7 : (246 : Int32) < x0 := own_gt h1 (by decide)
  have q8 : ¬ x0 < (248 : Int32) := own_nlt h1 (by decide)
  have q9 : (767 : Int32) < x0 := own_gt h1 (by decide)
  have q10 : ¬ x0 < (880 : Int32) := own_nlt h1 (by decide)
  have q11 : (893 : Int32) < x0 := own_gt h1 (by decide)
  have q12 : ¬ x0 < (895 : Int32) := own_nlt h1 (by decide)
  have q13 : (8191 : Int32) < x0 := own_gt h1 (by decide)
  have q14 : x0 < (8204 : Int32) := own_lt h2 (by decide)
  have q15 : x0 < (8304 : Int32) := own_lt h2 (by decide)
  have q16 : x0 < (11264 : Int32) := own_lt h2 (by decide)
  have q17 : x0 < (12289 : Int32) := own_lt h2 (by decide)
  have q18 : x0 < (63744 : Int32) := own_lt h2 (by decide)
  have q19 : x0 < (65008 : Int32) := own_lt h2 (by decide)
  have q20 : x0 < (65536 : Int32) := own_lt h2 (by decide)
  have e_g2_178_x : g2_178 x0 = (0 : Int32) := (if_pos q20)
  have e_g2_164_x : g2_164 x0 = (0 : Int32) := ((if_pos q19).trans e_g2_178_x)
  have e_g2_150_x : g2_150 x0 = (0 : Int32) := ((if_pos q18).trans e_g2_164_x)
  have e_g2_136_x : g2_136 x0 = (0 : Int32) := ((if_pos q17).trans e_g2_150_x)
  have e_g2_122_x : g2_122 x0 = (0 : Int32) := ((if_pos q16).trans e_g2_136_x)
  have e_g2_108_x : g2_108 x0 = (0 : Int32) := ((if_pos q15).trans e_g2_122_x)
  have e_g2_94_x : g2_94 x0 = (0 : Int32) := ((if_pos q14).trans e_g2_108_x)
  have e_g2_80_x : g2_80 x0 = (0 : Int32) := ((if_neg q12).trans ((if_pos q13).trans e_g2_94_x))
  have e_g2_66_x : g2_66 x0 = (0 : Int32) := ((if_neg q10).trans ((if_pos q11).trans e_g2_80_x))
  have e_g2_52_x : g2_52 x0 = (0 : Int32) := ((if_neg q8).trans ((if_pos q9).trans e_g2_66_x))
  have e_g2_38_x : g2_38 x0 = (0 : Int32) := ((if_neg q6).trans ((if_pos q7).trans e_g2_52_x))
  have e_g2_24_x : g2_24 x0 = (0 : Int32) := ((if_neg q4).trans ((if_pos q5).trans e_g2_38_x))
  have e_g2_12_x : g2_12 x0 = (0 : Int32) := ((if_neg q2).trans ((if_pos q3).trans e_g2_24_x))
  have e_g2_0_x : g2_0 x0 = (0 : Int32) := ((if_neg q0).trans ((if_pos q1).trans e_g2_12_x))
  have e_f2_x : f2 x0 = (0 : Int32) := e_g2_0_x
  have q21 : ¬ x0 = (95 : Int32) := own_ne1 h1 (by decide)
  have e_g1_0_x : g1_0 x0 = (0 : Int32) := ((if_pos (by rw [e_f2_x])).trans (if_neg q21))
  have e_f1_x : f1 x0 = (0 : Int32) := e_g1_0_x
  have q22 : ¬ (983039 : Int32) < x0 := own_ngt h2 (by decide)
  have q23 : ¬ x0 < (91 : Int32) := own_nlt h1 (by decide)
  have q24 : (94 : Int32) < x0 := own_gt h1 (by decide)
  have q25 : ¬ x0 = (96 : Int32) := own_ne1 h1 (by decide)
  have q26 : ¬ x0 < (123 : Int32) := own_nlt h1 (by decide)
  have q27 : (191 : Int32) < x0 := own_gt h1 (by decide)
  have q28 : ¬ x0 = (215 : Int32) := own_ne1 h1 (by decide)
  have q29 : ¬ x0 = (247 : Int32) := own_ne1 h1 (by decide)
  have q30 : ¬ x0 < (768 : Int32) := own_nlt h1 (by decide)
  have q31 : (879 : Int32) < x0 := own_gt h1 (by decide)
  have q32 : ¬ x0 = (894 : Int32) := own_ne1 h1 (by decide)
  have q33 : ¬ x0 < (8192 : Int32) := own_nlt h1 (by decide)
  have q34 : ¬ (8203 : Int32) < x0 := own_ngt h2 (by decide)
  have e_g3_83_x : g3_83 x0 = (0 : Int32) := ((if_neg q32).trans ((if_neg q33).trans (if_neg q34)))
  have e_g3_51_x : g3_51 x0 = (0 : Int32) := ((if_neg q28).trans ((if_neg q29).trans ((if_neg q30).trans ((if_pos q31).trans e_g3_83_x))))
  have e_g3_28_x : g3_28 x0 = (0 : Int32) := ((if_neg q25).trans ((if_neg q26).trans ((if_pos q27).trans e_g3_51_x)))
  have e_g3_0_x : g3_0 x0 = (0 : Int32) := ((if_neg q0).trans ((if_neg q22).trans ((if_neg q23).trans ((if_pos q24).trans e_g3_28_x))))
  have e_f3_x : f3 x0 = (0 : Int32) := e_g3_0_x
  rw [e_f1_x, e_f3_x]
theorem own_iv_40 (x0 : Int32) (h1 : (8193 : Int) ≤ x0.toInt) (h2 : x0.toInt < (8203 : Int)) : f1 x0 = f3 x0 := by
  have q0 : ¬ x0 < (65 : Int32) := own_nlt h1 (by decide)
  have q1 : (90 : Int32) < x0 := own_gt h1 (by decide)
  have q2 : ¬ x0 < (97 : Int32) := own_nlt h1 (by decide)
  have q3 : (122 : Int32) < x0 := own_gt h1 (by decide)
  have q4 : ¬ x0 < (192 : Int32) := own_nlt h1 (by decide)
  have q5 : (214 : Int32) < x0 := own_gt h1 (by decide)
  have q6 : ¬ x0 < (216 : Int32) := own_nlt h1 (by decide)
  have q7 : (246 : Int32) < x0 := own_gt h1 (by decide)
  have q8 : ¬ x0 < (248 : Int32) := own_nlt h1 (by decide)
  have q9 : (767 : Int32) < x0 := own_gt h1 (by decide)
  have q10 : ¬ x0 < (880 : Int32) := own_nlt h1 (by decide)
  have q11 : (893 : Int32) < x0 := own_gt h1 (by decide)
  have q12 : ¬ x0 < (895 : Int32) := own_nlt h1 (by decide)
  have q13 : (8191 : Int32) < x0 := own_gt h1 (by decide)
  have q14 : x0 < (8204 : Int32) := own_lt h2 (by decide)
  have q15 : x0 < (8304 : Int32) := own_lt h2 (by decide)
  have q16 : x0 < (11264 : Int32) := own_lt h2 (by decide)
  have q17 : x0 < (12289 : Int32) := own_lt h2 (by decide)
  have q18 : x0 < (63744 : Int32) := own_lt h2 (by decide)
  have q19 : x0 < (65008 : Int32) := own_lt h2 (by decide)
  have q20 : x0 < (65536 : Int32) := own_lt h2 (by decide)
  have e_g2_178_x : g2_178 x0 = (0 : Int32) := (if_pos q20)
  have e_g2_164_x : g2_164 x0 = (0 : Int32) := ((if_pos q19).trans e_g2_178_x)
  have e_g2_150_x : g2_150 x0 = (0 : Int32) := ((if_pos q18).trans e_g2_164_x)
  have e_g2_136_x : g2_136 x0 = (0 : Int32) := ((if_pos q17).trans e_g2_150_x)
  have e_g2_122_x : g2_122 x0 = (0 : Int32) := ((if_pos q16).trans e_g2_136_x)
  have e_g2_108_x : g2_108 x0 = (0 : Int32) := ((if_pos q15).trans e_g2_122_x)
  have e_g2_94_x : g2_94 x0 = (0 : Int32) := ((if_pos q14).trans e_g2_108_x)
  have e_g2_80_x : g2_80 x0 = (0 : Int32) := ((if_neg q12).trans ((if_pos q13).trans e_g2_94_x))
  have e_g2_66_x : g2_66 x0 = (0 : Int32) := ((if_neg q10).trans ((if_pos q11).trans e_g2_80_x))
  have e_g2_52_x : g2_52 x0 = (0 : Int32) := ((if_neg q8).trans ((if_pos q9).trans e_g2_66_x))
  have e_g2_38_x : g2_38 x0 = (0 : Int32) := ((if_neg q6).trans ((if_pos q7).trans e_g2_52_x))
  have e_g2_24_x : g2_24 x0 = (0 : Int32) := ((if_neg q4).trans ((if_pos q5).trans e_g2_38_x))
  have e_g2_12_x : g2_12 x0 = (0 : Int32) := ((if_neg q2).trans ((if_pos q3).trans e_g2_24_x))
  have e_g2_0_x : g2_0 x0 = (0 : Int32) := ((if_neg q0).trans ((if_pos q1).trans e_g2_12_x))
  have e_f2_x : f2 x0 = (0 : Int32) := e_g2_0_x
  have q21 : ¬ x0 = (95 : Int32) := own_ne1 h1 (by decide)
  have e_g1_0_x : g1_0 x0 = (0 : Int32) := ((if_pos (by rw [e_f2_x])).trans (if_neg q21))
  have e_f1_x : f1 x0 = (0 : Int32) := e_g1_0_x
  have q22 : ¬ (983039 : Int32) < x0 := own_ngt h2 (by decide)
  have q23 : ¬ x0 < (91 : Int32) := own_nlt h1 (by decide)
  have q24 : (94 : Int32) < x0 := own_gt h1 (by decide)
  have q25 : ¬ x0 = (96 : Int32) := own_ne1 h1 (by decide)
  have q26 : ¬ x0 < (123 : Int32) := own_nlt h1 (by decide)
  have q27 : (191 : Int32) < x0 := own_gt h1 (by decide)
  have q28 : ¬ x0 = (215 : Int32) := own_ne1 h1 (by decide)
  have q29 : ¬ x0 = (247 : Int32) := own_ne1 h1 (by decide)
  have q30 : ¬ x0 < (768 : Int32) := own_nlt h1 (by decide)
  have q31 : (879 : Int32) < x0 := own_gt h1 (by decide)
  have q32 : ¬ x0 = (894 : Int32) := own_ne1 h1 (by decide)
  have q33 : ¬ x0 < (8192 : Int32) := own_nlt h1 (by decide)
  have q34 : ¬ (8203 : Int32) < x0 := own_ngt h2 (by decide)
  have e_g3_83_x : g3_83 x0 = (0 : Int32) := ((if_neg q32).trans ((if_neg q33).trans (if_neg q34)))
  have e_g3_51_x : g3_51 x0 = (0 : Int32) := ((if_neg q28).trans ((if_neg q29).trans ((if_neg q30).trans ((if_pos q31).trans e_g3_83_x))))
  have e_g3_28_x : g3_28 x0 = (0 : Int32) := ((if_neg q25).trans ((if_neg q26).trans ((if_pos q27).trans e_g3_51_x)))
  have e_g3_0_x : g3_0 x0 = (0 : Int32) := ((if_neg q0).trans ((if_neg q22).trans ((if_neg q23).trans ((if_pos q24).trans e_g3_28_x))))
  have e_f3_x : f3 x0 = (0 : Int32) := e_g3_0_x
  rw [e_f1_x, e_f3_x]
theorem own_iv_41 (x0 : Int32) (h1 : (8203 : Int) ≤ x0.toInt) (h2 : x0.toInt < (8204 : Int)) : f1 x0 = f3 x0 := by
  have q0 : ¬ x0 < (65 : Int32) := own_nlt h1 (by decide)
  have q1 : (90 : Int32) < x0 := own_gt h1 (by decide)
  have q2 : ¬ x0 < (97 : Int32) := own_nlt h1 (by decide)
  have q3 : (122 : Int32) < x0 := own_gt h1 (by decide)
  have q4 : ¬ x0 < (192 : Int32) := own_nlt h1 (by decide)
  have q5 : (214 : Int32) < x0 := own_gt h1 (by decide)
  have q6 : ¬ x0 < (216 : Int32) := own_nlt h1 (by decide)
  have q7 : (246 : Int32) < x0 := own_gt h1 (by decide)
  have q8 : ¬ x0 < (248 : Int32) := own_nlt h1 (by decide)
  have q9 : (767 : Int32) < x0 := own_gt h1 (by decide)
  have q10 : ¬ x0 < (880 : Int32) := own_nlt h1 (by decide)
  have q11 : (893 : Int32) < x0 := own_gt h1 (by decide)
  have q12 : ¬ x0 < (895 : Int32) := own_nlt h1 (by decide)
  have q13 : (8191 : Int32) < x0 := own_gt h1 (by decide)
  have q14 : x0 < (8204 : Int32) := own_lt h2 (by decide)
  have q15 : x0 < (8304 : Int32) := own_lt h2 (by decide)
  have q16 : x0 < (11264 : Int32) := own_lt h2 (by decide)
  have q17 : x0 < (12289 : Int32) := own_lt h2 (by decide)
  have q18 : x0 < (63744 : Int32) := own_lt h2 (by decide)
  have q19 : x0 < (65008 : Int32) := own_lt h2 (by decide)
  have q20 : x0 < (65536 : Int32) := own_lt h2 (by decide)
  have e_g2_178_x : g2_178 x0 = (0 : Int32) := (if_pos q20)
  have e_g2_164_x : g2_164 x0 = (0 : Int32) := ((if_pos q19).trans e_g2_178_x)
  have e_g2_150_x : g2_150 x0 = (0 : Int32) := ((if_pos q18).trans e_g2_164_x)
  have e_g2_136_x : g2_136 x0 = (0 : Int32) := ((if_pos q17).trans e_g2_150_x)
  have e_g2_122_x : g2_122 x0 = (0 : Int32) := ((if_pos q16).trans e_g2_136_x)
  have e_g2_108_x : g2_108 x0 = (0 : Int32) := ((if_pos q15).trans e_g2_122_x)
  have e_g2_94_x : g2_94 x0 = (0 : Int32) := ((if_pos q14).trans e_g2_108_x)
  have e_g2_80_x : g2_80 x0 = (0 : Int32) := ((if_neg q12).trans ((if_pos q13).trans e_g2_94_x))
  have e_g2_66_x : g2_66 x0 = (0 : Int32) := ((if_neg q10).trans ((if_pos q11).trans e_g2_80_x))
  have e_g2_52_x : g2_52 x0 = (0 : Int32) := ((if_neg q8).trans ((if_pos q9).trans e_g2_66_x))
  have e_g2_38_x : g2_38 x0 = (0 : Int32) := ((if_neg q6).trans ((if_pos q7).trans e_g2_52_x))
  have e_g2_24_x : g2_24 x0 = (0 : Int32) := ((if_neg q4).trans ((if_pos q5).trans e_g2_38_x))
  have e_g2_12_x : g2_12 x0 = (0 : Int32) := ((if_neg q2).trans ((if_pos q3).trans e_g2_24_x))
  have e_g2_0_x : g2_0 x0 = (0 : Int32) := ((if_neg q0).trans ((if_pos q1).trans e_g2_12_x))
  have e_f2_x : f2 x0 = (0 : Int32) := e_g2_0_x
  have q21 : ¬ x0 = (95 : Int32) := own_ne1 h1 (by decide)
  have e_g1_0_x : g1_0 x0 = (0 : Int32) := ((if_pos (by rw [e_f2_x])).trans (if_neg q21))
  have e_f1_x : f1 x0 = (0 : Int32) := e_g1_0_x
  have q22 : ¬ (983039 : Int32) < x0 := own_ngt h2 (by decide)
  have q23 : ¬ x0 < (91 : Int32) := own_nlt h1 (by decide)
  have q24 : (94 : Int32) < x0 := own_gt h1 (by decide)
  have q25 : ¬ x0 = (96 : Int32) := own_ne1 h1 (by decide)
  have q26 : ¬ x0 < (123 : Int32) := own_nlt h1 (by decide)
  have q27 : (191 : Int32) < x0 := own_gt h1 (by decide)
  have q28 : ¬ x0 = (215 : Int32) := own_ne1 h1 (by decide)
  have q29 : ¬ x0 = (247 : Int32) := own_ne1 h1 (by decide)
  have q30 : ¬ x0 < (768 : Int32) := own_nlt h1 (by decide)
  have q31 : (879 : Int32) < x0 := own_gt h1 (by decide)
  have q32 : ¬ x0 = (894 : Int32) := own_ne1 h1 (by decide)
  have q33 : ¬ x0 < (8192 : Int32) := own_nlt h1 (by decide)
  have q34 : ¬ (8203 : Int32) < x0 := own_ngt h2 (by decide)
  have e_g3_83_x : g3_83 x0 = (0 : Int32) := ((if_neg q32).trans ((if_neg q33).trans (if_neg q34)))
  have e_g3_51_x : g3_51 x0 = (0 : Int32) := ((if_neg q28).trans ((if_neg q29).trans ((if_neg q30).trans ((if_pos q31).trans e_g3_83_x))))
  have e_g3_28_x : g3_28 x0 = (0 : Int32) := ((if_neg q25).trans ((if_neg q26).trans ((if_pos q27).trans e_g3_51_x)))
  have e_g3_0_x : g3_0 x0 = (0 : Int32) := ((if_neg q0).trans ((if_neg q22).trans ((if_neg q23).trans ((if_pos q24).trans e_g3_28_x))))
  have e_f3_x : f3 x0 = (0 : Int32) := e_g3_0_x
  rw [e_f1_x, e_f3_x]
theorem own_iv_42 (x0 : Int32) (h1 : (8204 : Int) ≤ x0.toInt) (h2 : x0.toInt < (8205 : Int)) : f1 x0 = f3 x0 := by
  have q0 : ¬ x0 < (65 : Int32) := own_nlt h1 (by decide)
  have q1 : (90 : Int32) < x0 := own_gt h1 (by decide)
  have q2 : ¬ x0 < (97 : Int32) := own_nlt h1 (by decide)
  have q3 : (122 : Int32) < x0 := own_gt h1 (by decide)
  have q4 : ¬ x0 < (192 : Int32) := own_nlt h1 (by decide)
  have q5 : (214 : Int32) < x0 := own_gt h1 (by decide)
  have q6 : ¬ x0 < (216 : Int32) := own_nlt h1 (by decide)
  have q7 : (246 : Int32) < x0 := own_gt h1 (by decide)
  have q8 : ¬ x0 < (248 : Int32) := own_nlt h1 (by decide)
  have q9 : (767 : Int32) < x0 := own_gt h1 (by decide)
  have q10 : ¬ x0 < (880 : Int32) := own_nlt h1 (by decide)
  have q11 : (893 : Int32) < x0 := own_gt h1 (by decide)
  have q12 : ¬ x0 < (895 : Int32) := own_nlt h1 (by decide)
  have q13 : (8191 : Int32) < x0 := own_gt h1 (by decide)
  have q14 : ¬ x0 < (8204 : Int32) := own_nlt h1 (by decide)
  have q15 : ¬ (8205 : Int32) < x0 := own_ngt h2 (by decide)
  have e_g2_94_x : g2_94 x0 = (1 : Int32) := ((if_neg q14).trans (if_neg q15))
  have e_g2_80_x : g2_80 x0 = (1 : Int32) := ((if_neg q12).trans ((if_pos q13).trans e_g2_94_x))
  have e_g2_66_x : g2_66 x0 = (1 : Int32) := ((if_neg q10).trans ((if_pos q11).trans e_g2_80_x))
  have e_g2_52_x : g2_52 x0 = (1 : Int32) := ((if_neg q8).trans ((if_pos q9).trans e_g2_66_x))
  have e_g2_38_x : g2_38 x0 = (1 : Int32) := ((if_neg q6).trans ((if_pos q7).trans e_g2_52_x))
  have e_g2_24_x : g2_24 x0 = (1 : Int32) := ((if_neg q4).trans ((if_pos q5).trans e_g2_38_x))
  have e_g2_12_x : g2_12 x0 = (1 : Int32) := ((if_neg q2).trans ((if_pos q3).trans e_g2_24_x))
  have e_g2_0_x : g2_0 x0 = (1 : Int32) := ((if_neg q0).trans ((if_pos q1).trans e_g2_12_x))
  have e_f2_x : f2 x0 = (1 : Int32) := e_g2_0_x
  have e_g1_0_x : g1_0 x0 = (1 : Int32) := (if_neg (by rw [e_f2_x]; decide))
  have e_f1_x : f1 x0 = (1 : Int32) := e_g1_0_x
  have q16 : ¬ (983039 : Int32) < x0 := own_ngt h2 (by decide)
  have q17 : ¬ x0 < (91 : Int32) := own_nlt h1 (by decide)
  have q18 : (94 : Int32) < x0 := own_gt h1 (by decide)
  have q19 : ¬ x0 = (96 : Int32) := own_ne1 h1 (by decide)
  have q20 : ¬ x0 < (123 : Int32) := own_nlt h1 (by decide)
  have q21 : (191 : Int32) < x0 := own_gt h1 (by decide)
  have q22 : ¬ x0 = (215 : Int32) := own_ne1 h1 (by decide)
  have q23 : ¬ x0 = (247 : Int32) := own_ne1 h1 (by decide)
  have q24 : ¬ x0 < (768 : Int32) := own_nlt h1 (by decide)
  have q25 : (879 : Int32) < x0 := own_gt h1 (by decide)
  have q26 : ¬ x0 = (894 : Int32) := own_ne1 h1 (by decide)
  have q27 : ¬ x0 < (8192 : Int32) := own_nlt h1 (by decide)
  have q28 : (8203 : Int32) < x0 := own_gt h1 (by decide)
  have q29 : x0 < (8206 : Int32) := own_lt h2 (by decide)
  have q30 : x0 < (8592 : Int32) := own_lt h2 (by decide)
  have q31 : x0 < (12272 : Int32) := own_lt h2 (by decide)
  have q32 : x0 < (55296 : Int32) := own_lt h2 (by decide)
  have q33 : x0 < (64976 : Int32) := own_lt h2 (by decide)
  have q34 : ¬ x0 = (65534 : Int32) := own_ne2 h2 (by decide)
  have q35 : ¬ x0 = (65535 : Int32) := own_ne2 h2 (by decide)
  have e_g3_184_x : g3_184 x0 = (1 : Int32) := ((if_neg q34).trans (if_neg q35))
  have e_g3_170_x : g3_170 x0 = (1 : Int32) := ((if_pos q33).trans e_g3_184_x)
  have e_g3_156_x : g3_156 x0 = (1 : Int32) := ((if_pos q32).trans e_g3_170_x)
  have e_g3_140_x : g3_140 x0 = (1 : Int32) := ((if_pos q31).trans e_g3_156_x)
  have e_g3_124_x : g3_124 x0 = (1 : Int32) := ((if_pos q30).trans e_g3_140_x)
  have e_g3_108_x : g3_108 x0 = (1 : Int32) := ((if_pos q29).trans e_g3_124_x)
  have e_g3_83_x : g3_83 x0 = (1 : Int32) := ((if_neg q26).trans ((if_neg q27).trans ((if_pos q28).trans e_g3_108_x)))
  have e_g3_51_x : g3_51 x0 = (1 : Int32) := ((if_neg q22).trans ((if_neg q23).trans ((if_neg q24).trans ((if_pos q25).trans e_g3_83_x))))
  have e_g3_28_x : g3_28 x0 = (1 : Int32) := ((if_neg q19).trans ((if_neg q20).trans ((if_pos q21).trans e_g3_51_x)))
  have e_g3_0_x : g3_0 x0 = (1 : Int32) := ((if_neg q0).trans ((if_neg q16).trans ((if_neg q17).trans ((if_pos q18).trans e_g3_28_x))))
  have e_f3_x : f3 x0 = (1 : Int32) := e_g3_0_x
  rw [e_f1_x, e_f3_x]
theorem own_iv_43 (x0 : Int32) (h1 : (8205 : Int) ≤ x0.toInt) (h2 : x0.toInt < (8206 : Int)) : f1 x0 = f3 x0 := by
  have q0 : ¬ x0 < (65 : Int32) := own_nlt h1 (by decide)
  have q1 : (90 : Int32) < x0 := own_gt h1 (by decide)
  have q2 : ¬ x0 < (97 : Int32) := own_nlt h1 (by decide)
  have q3 : (122 : Int32) < x0 := own_gt h1 (by decide)
  have q4 : ¬ x0 < (192 : Int32) := own_nlt h1 (by decide)
  have q5 : (214 : Int32) < x0 := own_gt h1 (by decide)
  have q6 : ¬ x0 < (216 : Int32) := own_nlt h1 (by decide)
  have q7 : (246 : Int32) < x0 := own_gt h1 (by decide)
  have q8 : ¬ x0 < (248 : Int32) := own_nlt h1 (by decide)
  have q9 : (767 : Int32) < x0 := own_gt h1 (by decide)
  have q10 : ¬ x0 < (880 : Int32) := own_nlt h1 (by decide)
  have q11 : (893 : Int32) < x0 := own_gt h1 (by decide)
  have q12 : ¬ x0 < (895 : Int32) := own_nlt h1 (by decide)
  have q13 : (8191 : Int32) < x0 := own_gt h1 (by decide)
  have q14 : ¬ x0 < (8204 : Int32) := own_nlt h1 (by decide)
  have q15 : ¬ (8205 : Int32) < x0 := own_ngt h2 (by decide)
  have e_g2_94_x : g2_94 x0 = (1 : Int32) := ((if_neg q14).trans (if_neg q15))
  have e_g2_80_x : g2_80 x0 = (1 : Int32) := ((if_neg q12).trans ((if_pos q13).trans e_g2_94_x))
  have e_g2_66_x : g2_66 x0 = (1 : Int32) := ((if_neg q10).trans ((if_pos q11).trans e_g2_80_x))
  have e_g2_52_x : g2_52 x0 = (1 : Int32) := ((if_neg q8).trans ((if_pos q9).trans e_g2_66_x))
  have e_g2_38_x : g2_38 x0 = (1 : Int32) := ((if_neg q6).trans ((if_pos q7).trans e_g2_52_x))
  have e_g2_24_x : g2_24 x0 = (1 : Int32) := ((if_neg q4).trans ((if_pos q5).trans e_g2_38_x))
  have e_g2_12_x : g2_12 x0 = (1 : Int32) := ((if_neg q2).trans ((if_pos q3).trans e_g2_24_x))
  have e_g2_0_x : g2_0 x0 = (1 : Int32) := ((if_neg q0).trans ((if_pos q1).trans e_g2_12_x))
  have e_f2_x : f2 x0 = (1 : Int32) := e_g2_0_x
  have e_g1_0_x : g1_0 x0 = (1 : Int32) := (if_neg (by rw [e_f2_x]; decide))
  have e_f1_x : f1 x0 = (1 : Int32) := e_g1_0_x
  have q16 : ¬ (983039 : Int32) < x0 := own_ngt h2 (by decide)
  have q17 : ¬ x0 < (91 : Int32) := own_nlt h1 (by decide)
  have q18 : (94 : Int32) < x0 := own_gt h1 (by decide)
  have q19 : ¬ x0 = (96 : Int32) := own_ne1 h1 (by decide)
  have q20 : ¬ x0 < (123 : Int32) := own_nlt h1 (by decide)
  have q21 : (191 : Int32) < x0 := own_gt h1 (by decide)
  have q22 : ¬ x0 = (215 : Int32) := own_ne1 h1 (by decide)
  have q23 : ¬ x0 = (247 : Int32) := own_ne1 h1 (by decide)
  have q24 : ¬ x0 < (768 : Int32) := own_nlt h1 (by decide)
  have q25 : (879 : Int32) < x0 := own_gt h1 (by decide)
  have q26 : ¬ x0 = (894 : Int32) := own_ne1 h1 (by decide)
  have q27 : ¬ x0 < (8192 : Int32) := own_nlt h1 (by decide)
  have q28 : (8203 : Int32) < x0 := own_gt h1 (by decide)
  have q29 : x0 < (8206 : Int32) := own_lt h2 (by decide)
  have q30 : x0 < (8592 : Int32) := own_lt h2 (by decide)
  have q31 : x0 < (12272 : Int32) := own_lt h2 (by decide)
  have q32 : x0 < (55296 : Int32) := own_lt h2 (by decide)
  have q33 : x0 < (64976 : Int32) := own_lt h2 (by decide)
  have q34 : ¬ x0 = (65534 : Int32) := own_ne2 h2 (by decide)
  have q35 : ¬ x0 = (65535 : Int32) := own_ne2 h2 (by decide)
  have e_g3_184_x : g3_184 x0 = (1 : Int32) := ((if_neg q34).trans (if_neg q35))
  have e_g3_170_x : g3_170 x0 = (1 : Int32) := ((if_pos q33).trans e_g3_184_x)
  have e_g3_156_x : g3_156 x0 = (1 : Int32) := ((if_pos q32).trans e_g3_170_x)
  have e_g3_140_x : g3_140 x0 = (1 : Int32) := ((if_pos q31).trans e_g3_156_x)
  have e_g3_124_x : g3_124 x0 = (1 : Int32) := ((if_pos q30).trans e_g3_140_x)
  have e_g3_108_x : g3_108 x0 = (1 : Int32) := ((if_pos q29).trans e_g3_124_x)
  have e_g3_83_x : g3_83 x0 = (1 : Int32) := ((if_neg q26).trans ((if_neg q27).trans ((if_pos q28).trans e_g3_108_x)))
  have e_g3_51_x : g3_51 x0 = (1 : Int32) := ((if_neg q22).trans ((if_neg q23).trans ((if_neg q24).trans ((if_pos q25).trans e_g3_83_x))))
  have e_g3_28_x : g3_28 x0 = (1 : Int32) := ((if_neg q19).trans ((if_neg q20).trans ((if_pos q21).trans e_g3_51_x)))
  have e_g3_0_x : g3_0 x0 = (1 : Int32) := ((if_neg q0).trans ((if_neg q16).trans ((if_neg q17).trans ((if_pos q18).trans e_g3_28_x))))
  have e_f3_x : f3 x0 = (1 : Int32) := e_g3_0_x
  rw [e_f1_x, e_f3_x]
theorem own_iv_44 (x0 : Int32) (h1 : (8206 : Int) ≤ x0.toInt) (h2 : x0.toInt < (8207 : Int)) : f1 x0 = f3 x0 := by
  have q0 : ¬ x0 < (65 : Int32) := own_nlt h1 (by decide)
  have q1 : (90 : Int32) < x0 := own_gt h1 (by decide)
  have q2 : ¬ x0 < (97 : Int32) := own_nlt h1 (by decide)
  have q3 : (122 : Int32) < x0 := own_gt h1 (by decide)
  have q4 : ¬ x0 < (192 : Int32) := own_nlt h1 (by decide)
  have q5 : (214 : Int32) < x0 := own_gt h1 (by decide)
  have q6 : ¬ x0 < (216 : Int32) := own_nlt h1 (by decide)
  have q7 : (246 : Int32) < x0 := own_gt h1 (by decide)
  have q8 : ¬ x0 < (248 : Int32) := own_nlt h1 (by decide)
  have q9 : (767 : Int32) < x0 := own_gt h1 (by decide)
  have q10 : ¬ x0 < (880 : Int32) := own_nlt h1 (by decide)
  have q11 : (893 : Int32) < x0 := own_gt h1 (by decide)
  have q12 : ¬ x0 < (895 : Int32) := own_nlt h1 (by decide)
  have q13 : (8191 : Int32) < x0 := own_gt h1 (by decide)
  have q14 : ¬ x0 < (8204 : Int32) := own_nlt h1 (by decide)
  have q15 : (8205 : Int32) < x0 := own_gt h1 (by decide)
  have q16 : x0 < (8304 : Int32) := own_lt h2 (by decide)
  have q17 : x0 < (11264 : Int32) := own_lt h2 (by decide)
  have q18 : x0 < (12289 : Int32) := own_lt h2 (by decide)
  have q19 : x0 < (63744 : Int32) := own_lt h2 (by decide)
  have q20 : x0 < (65008 : Int32) := own_lt h2 (by decide)
  have q21 : x0 < (65536 : Int32) := own_lt h2 (by decide)
  have e_g2_178_x : g2_178 x0 = (0 : Int32) := (if_pos q21)
  have e_g2_164_x : g2_164 x0 = (0 : Int32) := ((if_pos q20).trans e_g2_178_x)
  have e_g2_150_x : g2_150 x0 = (0 : Int32) := ((if_pos q19).trans e_g2_164_x)
  have e_g2_136_x : g2_136 x0 = (0 : Int32) := ((if_pos q18).trans e_g2_150_x)
  have e_g2_122_x : g2_122 x0 = (0 : Int32) := ((if_pos q17).trans e_g2_136_x)
  have e_g2_108_x : g2_108 x0 = (0 : Int32) := ((if_pos q16).trans e_g2_122_x)
  have e_g2_94_x : g2_94 x0 = (0 : Int32) := ((if_neg q14).trans ((if_pos q15).trans e_g2_108_x))
  have e_g2_80_x : g2_80 x0 = (0 : Int32) := ((if_neg q12).trans ((if_pos q13).trans e_g2_94_x))
  have e_g2_66_x : g2_66 x0 = (0 : Int32) := ((if_neg q10).trans ((if_pos q11).trans e_g2_80_x))
  have e_g2_52_x : g2_52 x0 = (0 : Int32) := ((if_neg q8).trans ((if_pos q9).trans e_g2_66_x))
  have e_g2_38_x : g2_38 x0 = (0 : Int32) := ((if_neg q6).trans ((if_pos q7).trans e_g2_52_x))
  have e_g2_24_x : g2_24 x0 = (0 : Int32) := ((if_neg q4).trans ((if_pos q5).trans e_g2_38_x))
  have e_g2_12_x : g2_12 x0 = (0 : Int32) := ((if_neg q2).trans ((if_pos q3).trans e_g2_24_x))
  have e_g2_0_x : g2_0 x0 = (0 : Int32) := ((if_neg q0).trans ((if_pos q1).trans e_g2_12_x))
  have e_f2_x : f2 x0 = (0 : Int32) := e_g2_0_x
  have q22 : ¬ x0 = (95 : Int32) := own_ne1 h1 (by decide)
  have e_g1_0_x : g1_0 x0 = (0 : Int32) := ((if_pos (by rw [e_f2_x])).trans (if_neg q22))
  have e_f1_x : f1 x0 = (0 : Int32) := e_g1_0_x
  have q23 : ¬ (983039 : Int32) < x0 := own_ngt h2 (by decide)
  have q24 : ¬ x0 < (91 : Int32) := own_nlt h1 (by decide)
  have q25 : (94 : Int32) < x0 := own_gt h1 (by decide)
  have q26 : ¬ x0 = (96 : Int32) := own_ne1 h1 (by decide)
  have q27 : ¬ x0 < (123 : Int32) := own_nlt h1 (by decide)
  have q28 : (191 : Int32) < x0 := own_gt h1 (by decide)
  have q29 : ¬ x0 = (215 : Int32) := own_ne1 h1 (by decide)
  have q30 : ¬ x0 = (247 : Int32) := own_ne1 h1 (by decide)
  have q31 : ¬ x0 < (768 : Int32) := own_nlt h1 (by decide)
  have q32 : (879 : Int32) < x0 := own_gt h1 (by decide)
  have q33 : ¬ x0 = (894 : Int32) := own_ne1 h1 (by decide)
  have q34 : ¬ x0 < (8192 : Int32) := own_nlt h1 (by decide)
  have q35 : (8203 : Int32) < x0 := own_gt h1 (by decide)
  have q36 : ¬ x0 < (8206 : Int32) := own_nlt h1 (by decide)
  have q37 : ¬ (8303 : Int32) < x0 := own_ngt h2 (by decide)
  have e_g3_108_x : g3_108 x0 = (0 : Int32) := ((if_neg q36).trans (if_neg q37))
  have e_g3_83_x : g3_83 x0 = (0 : Int32) := ((if_neg q33).trans ((if_neg q34).trans ((if_pos q35).trans e_g3_108_x)))
  have e_g3_51_x : g3_51 x0 = (0 : Int32) := ((if_neg q29).trans ((if_neg q30).trans ((if_neg q31).trans ((if_pos q32).trans e_g3_83_x))))
  have e_g3_28_x : g3_28 x0 = (0 : Int32) := ((if_neg q26).trans ((if_neg q27).trans ((if_pos q28).trans e_g3_51_x)))
  have e_g3_0_x : g3_0 x0 = (0 : Int32) := ((if_neg q0).trans ((if_neg q23).trans ((if_neg q24).trans ((if_pos q25).trans e_g3_28_x))))
  have e_f3_x : f3 x0 = (0 : Int32) := e_g3_0_x
  rw [e_f1_x, e_f3_x]
theorem own_iv_45 (x0 : Int32) (h1 : (8207 : Int) ≤ x0.toInt) (h2 : x0.toInt < (8303 : Int)) : f1 x0 = f3 x0 := by
  have q0 : ¬ x0 < (65 : Int32) := own_nlt h1 (by decide)
  have q1 : (90 : Int32) < x0 := own_gt h1 (by decide)
  have q2 : ¬ x0 < (97 : Int32) := own_nlt h1 (by decide)
  have q3 : (122 : Int32) < x0 := own_gt h1 (by decide)
  have q4 : ¬ x0 < (192 : Int32) := own_nlt h1 (by decide)
  have q5 : (214 : Int32) < x0 := own_gt h1 (by decide)
  have q6 : ¬ x0 < (216 : Int32) := own_nlt h1 (by decide)
  have q7 : (246 : Int32) < x0 := own_gt h1 (by decide)
  have q8 : ¬ x0 < (248 : Int32) := own_nlt h1 (by decide)
  have q9 : (767 : Int32) < x0 := own_gt h1 (by decide)
  have q10 : ¬ x0 < (880 : Int32) := own_nlt h1 (by decide)
  have q11 : (893 : Int32) < x0 := own_gt h1 (by decide)
  have q12 : ¬ x0 < (895 : Int32) := own_nlt h1 (by decide)
  have q13 : (8191 : Int32) < x0 := own_gt h1 (by decide)
  have q14 : ¬ x0 < (8204 : Int32) := own_nlt h1 (by decide)
  have q15 : (8205 : Int32) < x0 := own_gt h1 (by decide)
  have q16 : x0 < (8304 : Int32) := own_lt h2 (by decide)
  have q17 : x0 < (11264 : Int32) := own_lt h2 (by decide)
  have q18 : x0 < (12289 : Int32) := own_lt h2 (by decide)
  have q19 : x0 < (63744 : Int32) := own_lt h2 (by decide)
  have q20 : x0 < (65008 : Int32) := own_lt h2 (by decide)
  have q21 : x0 < (65536 : Int32) := own_lt h2 (by decide)
  have e_g2_178_x : g2_178 x0 = (0 : Int32) := (if_pos q21)
  have e_g2_164_x : g2_164 x0 = (0 : Int32) := ((if_pos q20).trans e_g2_178_x)
  have e_g2_150_x : g2_150 x0 = (0 : Int32) := ((if_pos q19).trans e_g2_164_x)
  have e_g2_136_x : g2_136 x0 = (0 : Int32) := ((if_pos q18).trans e_g2_150_x)
  have e_g2_122_x : g2_122 x0 = (0 : Int32) := ((if_pos q17).trans e_g2_136_x)
  have e_g2_108_x : g2_108 x0 = (0 : Int32) := ((if_pos q16).trans e_g2_122_x)
  have e_g2_94_x : g2_94 x0 = (0 : Int32) := ((if_neg q14).trans ((if_pos q15).trans e_g2_108_x))
  have e_g2_80_x : g2_80 x0 = (0 : Int32) := ((if_neg q12).trans ((if_pos q13).trans e_g2_94_x))
  have e_g2_66_x : g2_66 x0 = (0 : Int32) := ((if_neg q10).trans ((if_pos q11).trans e_g2_80_x))
  have e_g2_52_x : g2_52 x0 = (0 : Int32) := ((if_neg q8).trans ((if_pos q9).trans e_g2_66_x))
  have e_g2_38_x : g2_38 x0 = (0 : Int32) := ((if_neg q6).trans ((if_pos q7).trans e_g2_52_x))
  have e_g2_24_x : g2_24 x0 = (0 : Int32) := ((if_neg q4).trans ((if_pos q5).trans e_g2_38_x))
  have e_g2_12_x : g2_12 x0 = (0 : Int32) := ((if_neg q2).trans ((if_pos q3).trans e_g2_24_x))
  have e_g2_0_x : g2_0 x0 = (0 : Int32) := ((if_neg q0).trans ((if_pos q1).trans e_g2_12_x))
  have e_f2_x : f2 x0 = (0 : Int32) := e_g2_0_x
  have q22 : ¬ x0 = (95 : Int32) := own_ne1 h1 (by decide)
  have e_g1_0_x : g1_0 x0 = (0 : Int32) := ((if_pos (by rw [e_f2_x])).trans (if_neg q22))
  have e_f1_x : f1 x0 = (0 : Int32) := e_g1_0_x
  have q23 : ¬ (983039 : Int32) < x0 := own_ngt h2 (by decide)
  have q24 : ¬ x0 < (91 : Int32) := own_nlt h1 (by decide)
  have q25 : (94 : Int32) < x0 := own_gt h1 (by decide)
  have q26 : ¬ x0 = (96 : Int32) := own_ne1 h1 (by decide)
  have q27 : ¬ x0 < (123 : Int32) := own_nlt h1 (by decide)
  have q28 : (191 : Int32) < x0 := own_gt h1 (by decide)
  have q29 : ¬ x0 = (215 : Int32) := own_ne1 h1 (by decide)
  have q30 : ¬ x0 = (247 : Int32) := own_ne1 h1 (by decide)
  have q31 : ¬ x0 < (768 : Int32) := own_nlt h1 (by decide)
  have q32 : (879 : Int32) < x0 := own_gt h1 (by decide)
  have q33 : ¬ x0 = (894 : Int32) := own_ne1 h1 (by decide)
  have q34 : ¬ x0 < (8192 : Int32) := own_nlt h1 (by decide)
  have q35 : (8203 : Int32) < x0 := own_gt h1 (by decide)
  have q36 : ¬ x0 < (8206 : Int32) := own_nlt h1 (by decide)
  have q37 : ¬ (8303 : Int32) < x0 := own_ngt h2 (by decide)
  have e_g3_108_x : g3_108 x0 = (0 : Int32) := ((if_neg q36).trans (if_neg q37))
  have e_g3_83_x : g3_83 x0 = (0 : Int32) := ((if_neg q33).trans ((if_neg q34).trans ((if_pos q35).trans e_g3_108_x)))
  have e_g3_51_x : g3_51 x0 = (0 : Int32) := ((if_neg q29).trans ((if_neg q30).trans ((if_neg q31).trans ((if_pos q32).trans e_g3_83_x))))
  have e_g3_28_x : g3_28 x0 = (0 : Int32) := ((if_neg q26).trans ((if_neg q27).trans ((if_pos q28).trans e_g3_51_x)))
  have e_g3_0_x : g3_0 x0 = (0 : Int32) := ((if_neg q0).trans ((if_neg q23).trans ((if_neg q24).trans ((if_pos q25).trans e_g3_28_x))))
  have e_f3_x : f3 x0 = (0 : Int32) := e_g3_0_x
  rw [e_f1_x, e_f3_x]
theorem own_iv_46 (x0 : Int32) (h1 : (8303 : Int) ≤ x0.toInt) (h2 : x0.toInt < (8304 : Int)) : f1 x0 = f3 x0 := by
  have q0 : ¬ x0 < (65 : Int32) := own_nlt h1 (by decide)
  have q1 : (90 : Int32) < x0 := own_gt h1 (by decide)
  have q2 : ¬ x0 < (97 : Int32) := own_nlt h1 (by decide)
  have q3 : (122 : Int32) < x0 := own_gt h1 (by decide)
  have q4 : ¬ x0 < (192 : Int32) := own_nlt h1 (by decide)
  have q5 : (214 : Int32) < x0 := own_gt h1 (by decide)
  have q6 : ¬ x0 < (216 : Int32) := own_nlt h1 (by decide)
  have q7 : (246 : Int32) < x0 := own_gt h1 (by decide)
  have q8 : ¬ x0 < (248 : Int32) := own_nlt h1 (by decide)
  have q9 : (767 : Int32) < x0 := own_gt h1 (by decide)
  have q10 : ¬ x0 < (880 : Int32) := own_nlt h1 (by decide)
  have q11 : (893 : Int32) < x0 := own_gt h1 (by decide)
  have q12 : ¬ x0 < (895 : Int32) := own_nlt h1 (by decide)
  have q13 : (8191 : Int32) < x0 := own_gt h1 (by decide)
  have q14 : ¬ x0 < (8204 : Int32) := own_nlt h1 (by decide)
  have q15 : (8205 : Int32) < x0 := own_gt h1 (by decide)
  have q16 : x0 < (8304 : Int32) := own_lt h2 (by decide)
  have q17 : x0 < (11264 : Int32) := own_lt h2 (by decide)
  have q18 : x0 < (12289 : Int32) := own_lt h2 (by decide)
  have q19 : x0 < (63744 : Int32) := own_lt h2 (by decide)
  have q20 : x0 < (65008 : Int32) := own_lt h2 (by decide)
  have q21 : x0 < (65536 : Int32) := own_lt h2 (by decide)
  have e_g2_178_x : g2_178 x0 = (0 : Int32) := (if_pos q21)
  have e_g2_164_x : g2_164 x0 = (0 : Int32) := ((if_pos q20).trans e_g2_178_x)
  have e_g2_150_x : g2_150 x0 = (0 : Int32) := ((if_pos q19).trans e_g2_164_x)
  have e_g2_136_x : g2_136 x0 = (0 : Int32) := ((if_pos q18).trans e_g2_150_x)
  have e_g2_122_x : g2_122 x0 = (0 : Int32) := ((if_pos q17).trans e_g2_136_x)
  have e_g2_108_x : g2_108 x0 = (0 : Int32) := ((if_pos q16).trans e_g2_122_x)
  have e_g2_94_x : g2_94 x0 = (0 : Int32) := ((if_neg q14).trans ((if_pos q15).trans e_g2_108_x))
  have e_g2_80_x : g2_80 x0 = (0 : Int32) := ((if_neg q12).trans ((if_pos q13).trans e_g2_94_x))
  have e_g2_66_x : g2_66 x0 = (0 : Int32) := ((if_neg q10).trans ((if_pos q11).trans e_g2_80_x))
  have e_g2_52_x : g2_52 x0 = (0 : Int32) := ((if_neg q8).trans ((if_pos q9).trans e_g2_66_x))
  have e_g2_38_x : g2_38 x0 = (0 : Int32) := ((if_neg q6).trans ((if_pos q7).trans e_g2_52_x))
  have e_g2_24_x : g2_24 x0 = (0 : Int32) := ((if_neg q4).trans ((if_pos q5).trans e_g2_38_x))
  have e_g2_12_x : g2_12 x0 = (0 : Int32) := ((if_neg q2).trans ((if_pos q3).trans e_g2_24_x))
  have e_g2_0_x : g2_0 x0 = (0 : Int32) := ((if_neg q0).trans ((if_pos q1).trans e_g2_12_x))
  have e_f2_x : f2 x0 = (0 : Int32) := e_g2_0_x
  have q22 : ¬ x0 = (95 : Int32) := own_ne1 h1 (by decide)
  have e_g1_0_x : g1_0 x0 = (0 : Int32) := ((if_pos (by rw [e_f2_x])).trans (if_neg q22))
  have e_f1_x : f1 x0 = (0 : Int32) := e_g1_0_x
  have q23 : ¬ (983039 : Int32) < x0 := own_ngt h2 (by decide)
  have q24 : ¬ x0 < (91 : Int32) := own_nlt h1 (by decide)
  have q25 : (94 : Int32) < x0 := own_gt h1 (by decide)
  have q26 : ¬ x0 = (96 : Int32) := own_ne1 h1 (by decide)
  have q27 : ¬ x0 < (123 : Int32) := own_nlt h1 (by decide)
  have q28 : (191 : Int32) < x0 := own_gt h1 (by decide)
  have q29 : ¬ x0 = (215 : Int32) := own_ne1 h1 (by decide)
  have q30 : ¬ x0 = (247 : Int32) := own_ne1 h1 (by decide)
  have q31 : ¬ x0 < (768 : Int32) := own_nlt h1 (by decide)
  have q32 : (879 : Int32) < x0 := own_gt h1 (by decide)
  have q33 : ¬ x0 = (894 : Int32) := own_ne1 h1 (by decide)
  have q34 : ¬ x0 < (8192 : Int32) := own_nlt h1 (by decide)
  have q35 : (8203 : Int32) < x0 := own_gt h1 (by decide)
  have q36 : ¬ x0 < (8206 : Int32) := own_nlt h1 (by decide)
  have q37 : ¬ (8303 : Int32) < x0 := own_ngt h2 (by decide)
  have e_g3_108_x : g3_108 x0 = (0 : Int32) := ((if_neg q36).trans (if_neg q37))
  have e_g3_83_x : g3_83 x0 = (0 : Int32) := ((if_neg q33).trans ((if_neg q34).trans ((if_pos q35).trans e_g3_108_x)))
  have e_g3_51_x : g3_51 x0 = (0 : Int32) := ((if_neg q29).trans ((if_neg q30).trans ((if_neg q31).trans ((if_pos q32).trans e_g3_83_x))))
  have e_g3_28_x : g3_28 x0 = (0 : Int32) := ((if_neg q26).trans ((if_neg q27).trans ((if_pos q28).trans e_g3_51_x)))
  have e_g3_0_x : g3_0 x0 = (0 : Int32) := ((if_neg q0).trans ((if_neg q23).trans ((if_neg q24).trans ((if_pos q25).trans e_g3_28_x))))
  have e_f3_x : f3 x0 = (0 : Int32) := e_g3_0_x
  rw [e_f1_x, e_f3_x]
theorem own_iv_47 (x0 : Int32) (h1 : (8304 : Int) ≤ x0.toInt) (h2 : x0.toInt < (8305 : Int)) : f1 x0 = f3 x0 := by
  have q0 : ¬ x0 < (65 : Int32) := own_nlt h1 (by decide)
  have q1 : (90 : Int32) < x0 := own_gt h1 (by decide)
  have q2 : ¬ x0 < (97 : Int32) := own_nlt h1 (by decide)
  have q3 : (122 : Int32) < x0 := own_gt h1 (by decide)
  have q4 : ¬ x0 < (192 : Int32) := own_nlt h1 (by decide)
  have q5 : (214 : Int32) < x0 := own_gt h1 (by decide)
  have q6 : ¬ x0 < (216 : Int32) := own_nlt h1 (by decide)
  have q7 : (246 : Int32) < x0 := own_gt h1 (by decide)
  have q8 : ¬ x0 < (248 : Int32) := own_nlt h1 (by decide)
  have q9 : (767 : Int32) < x0 := own_gt h1 (by decide)
  have q10 : ¬ x0 < (880 : Int32) := own_nlt h1 (by decide)
  have q11 : (893 : Int32) < x0 := own_gt h1 (by decide)
  have q12 : ¬ x0 < (895 : Int32) := own_nlt h1 (by decide)
  have q13 : (8191 : Int32) < x0 := own_gt h1 (by decide)
  have q14 : ¬ x0 < (8204 : Int32) := own_nlt h1 (by decide)
  have q15 : (8205 : Int32) < x0 := own_gt h1 (by decide)
  have q16 : ¬ x0 < (8304 : Int32) := own_nlt h1 (by decide)
  have q17 : ¬ (8591 : Int32) < x0 := own_ngt h2 (by decide)
  have e_g2_108_x : g2_108 x0 = (1 : Int32) := ((if_neg q16).trans (if_neg q17))
  have e_g2_94_x : g2_94 x0 = (1 : Int32) := ((if_neg q14).trans ((if_pos q15).trans e_g2_108_x))
  have e_g2_80_x : g2_80 x0 = (1 : Int32) := ((if_neg q12).trans ((if_pos q13).trans e_g2_94_x))
  have e_g2_66_x : g2_66 x0 = (1 : Int32) := ((if_neg q10).trans ((if_pos q11).trans e_g2_80_x))
  have e_g2_52_x : g2_52 x0 = (1 : Int32) := ((if_neg q8).trans ((if_pos q9).trans e_g2_66_x))
  have e_g2_38_x : g2_38 x0 = (1 : Int32) := ((if_neg q6).trans ((if_pos q7).trans e_g2_52_x))
  have e_g2_24_x : g2_24 x0 = (1 : Int32) := ((if_neg q4).trans ((if_pos q5).trans e_g2_38_x))
  have e_g2_12_x : g2_12 x0 = (1 : Int32) := ((if_neg q2).trans ((if_pos q3).trans e_g2_24_x))
  have e_g2_0_x : g2_0 x0 = (1 : Int32) := ((if_neg q0).trans ((if_pos q1).trans e_g2_12_x))
  have e_f2_x : f2 x0 = (1 : Int32) := e_g2_0_x
  have e_g1_0_x : g1_0 x0 = (1 : Int32) := (if_neg (by rw [e_f2_x]; decide))
  have e_f1_x : f1 x0 = (1 : Int32) := e_g1_0_x
  have q18 : ¬ (983039 : Int32) < x0 := own_ngt h2 (by decide)
  have q19 : ¬ x0 < (91 : Int32) := own_nlt h1 (by decide)
  have q20 : (94 : Int32) < x0 := own_gt h1 (by decide)
  have q21 : ¬ x0 = (96 : Int32) := own_ne1 h1 (by decide)
  have q22 : ¬ x0 < (123 : Int32) := own_nlt h1 (by decide)
  have q23 : (191 : Int32) < x0 := own_gt h1 (by decide)
  have q24 : ¬ x0 = (215 : Int32) := own_ne1 h1 (by decide)
  have q25 : ¬ x0 = (247 : Int32) := own_ne1 h1 (by decide)
  have q26 : ¬ x0 < (768 : Int32) := own_nlt h1 (by decide)
  have q27 : (879 : Int32) < x0 := own_gt h1 (by decide)
  have q28 : ¬ x0 = (894 : Int32) := own_ne1 h1 (by decide)
  have q29 : ¬ x0 < (8192 : Int32) := own_nlt h1 (by decide)
  have q30 : (8203 : Int32) < x0 := own_gt h1 (by decide)
  have q31 : ¬ x0 < (8206 : Int32) := own_nlt h1 (by decide)
  have q32 : (8303 : Int32) < x0 := own_gt h1 (by decide)
  have q33 : x0 < (8592 : Int32) := own_lt h2 (by decide)
  have q34 : x0 < (12272 : Int32) := own_lt h2 (by decide)
  have q35 : x0 < (55296 : Int32) := own_lt h2 (by decide)
  have q36 : x0 < (64976 : Int32) := own_lt h2 (by decide)
  have q37 : ¬ x0 = (65534 : Int32) := own_ne2 h2 (by decide)
  have q38 : ¬ x0 = (65535 : Int32) := own_ne2 h2 (by decide)
  have e_g3_184_x : g3_184 x0 = (1 : Int32) := ((if_neg q37).trans (if_neg q38))
  have e_g3_170_x : g3_170 x0 = (1 : Int32) := ((if_pos q36).trans e_g3_184_x)
  have e_g3_156_x : g3_156 x0 = (1 : Int32) := ((if_pos q35).trans e_g3_170_x)
  have e_g3_140_x : g3_140 x0 = (1 : Int32) := ((if_pos q34).trans e_g3_156_x)
  have e_g3_124_x : g3_124 x0 = (1 : Int32) := ((if_pos q33).trans e_g3_140_x)
  have e_g3_108_x : g3_108 x0 = (1 : Int32) := ((if_neg q31).trans ((if_pos q32).trans e_g3_124_x))
  have e_g3_83_x : g3_83 x0 = (1 : Int32) := ((if_neg q28).trans ((if_neg q29).trans ((if_pos q30).trans e_g3_108_x)))
  have e_g3_51_x : g3_51 x0 = (1 : Int32) := ((if_neg q24).trans ((if_neg q25).trans ((if_neg q26).trans ((if_pos q27).trans e_g3_83_x))))
  have e_g3_28_x : g3_28 x0 = (1 : Int32) := ((if_neg q21).trans ((if_neg q22).trans ((if_pos q23).trans e_g3_51_x)))
  have e_g3_0_x : g3_0 x0 = (1 : Int32) := ((if_neg q0).trans ((if_neg q18).trans ((if_neg q19).trans ((if_pos q20).trans e_g3_28_x))))
  have e_f3_x : f3 x0 = (1 : Int32) := e_g3_0_x
  rw [e_f1_x, e_f3_x]
theorem own_iv_48 (x0 : Int32) (h1 : (8305 : Int) ≤ x0.toInt) (h2 : x0.toInt < (8591 : Int)) : f1 x0 = f3 x0 := by
  have q0 : ¬ x0 < (65 : Int32) := own_nlt h1 (by decide)
  have q1 : (90 : Int32) < x0 := own_gt h1 (by decide)
  have q2 : ¬ x0 < (97 : Int32) := own_nlt h1 (by decide)
  have q3 : (122 : Int32) < x0 := own_gt h1 (by decide)
  have q4 : ¬ x0 < (192 : Int32) := own_nlt h1 (by decide)
  have q5 : (214 : Int32) < x0 := own_gt h1 (by decide)
  have q6 : ¬ x0 < (216 : Int32) := own_nlt h1 (by decide)
  have q7 : (246 : Int32) < x0 := own_gt h1 (by decide)
  have q8 : ¬ x0 < (248 : Int32) := own_nlt h1 (by decide)
  have q9 : (767 : Int32) < x0 := own_gt h1 (by decide)
  have q10 : ¬ x0 < (880 : Int32) := own_nlt h1 (by decide)
  have q11 : (893 : Int32) < x0 := own_gt h1 (by decide)
  have q12 : ¬ x0 < (895 : Int32) := own_nlt h1 (by decide)
  have q13 : (8191 : Int32) < x0 := own_gt h1 (by decide)
  have q14 : ¬ x0 < (8204 : Int32) := own_nlt h1 (by decide)
  have q15 : (8205 : Int32) < x0 := own_gt h1 (by decide)
  have q16 : ¬ x0 < (8304 : Int32) := own_nlt h1 (by decide)
  have q17 : ¬ (8591 : Int32) < x0 := own_ngt h2 (by decide)
  have e_g2_108_x : g2_108 x0 = (1 : Int32) := ((if_neg q16).trans (if_neg q17))
  have e_g2_94_x : g2_94 x0 = (1 : Int32) := ((if_neg q14).trans ((if_pos q15).trans e_g2_108_x))
  have e_g2_80_x : g2_80 x0 = (1 : Int32) := ((if_neg q12).trans ((if_pos q13).trans e_g2_94_x))
  have e_g2_66_x : g2_66 x0 = (1 : Int32) := ((if_neg q10).trans ((if_pos q11).trans e_g2_80_x))
  have e_g2_52_x : g2_52 x0 = (1 : Int32) := ((if_neg q8).trans ((if_pos q9).trans e_g2_66_x))
  have e_g2_38_x : g2_38 x0 = (1 : Int32) := ((if_neg q6).trans ((if_pos q7).trans e_g2_52_x))
  have e_g2_24_x : g2_24 x0 = (1 : Int32) := ((if_neg q4).trans ((if_pos q5).trans e_g2_38_x))
  have e_g2_12_x : g2_12 x0 = (1 : Int32) := ((if_neg q2).trans ((if_pos q3).trans e_g2_24_x))
  have e_g2_0_x : g2_0 x0 = (1 : Int32) := ((if_neg q0).trans ((if_pos q1).trans e_g2_12_x))
  have e_f2_x : f2 x0 = (1 : Int32) := e_g2_0_x
  have e_g1_0_x : g1_0 x0 = (1 : Int32) := (if_neg (by rw [e_f2_x]; decide))
  have e_f1_x : f1 x0 = (1 : Int32) := e_g1_0_x
  have q18 : ¬ (983039 : Int32) < x0 := own_ngt h2 (by decide)
  have q19 : ¬ x0 < (91 : Int32) := own_nlt h1 (by decide)
  have q20 : (94 : Int32) < x0 := own_gt h1 (by decide)
  have q21 : ¬ x0 = (96 : Int32) := own_ne1 h1 (by decide)
  have q22 : ¬ x0 < (123 : Int32) := own_nlt h1 (by decide)
  have q23 : (191 : Int32) < x0 := own_gt h1 (by decide)
  have q24 : ¬ x0 = (215 : Int32) := own_ne1 h1 (by decide)
  have q25 : ¬ x0 = (247 : Int32) := own_ne1 h1 (by decide)
  have q26 : ¬ x0 < (768 : Int32) := own_nlt h1 (by decide)
  have q27 : (879 : Int32) < x0 := own_gt h1 (by decide)
  have q28 : ¬ x0 = (894 : Int32) := own_ne1 h1 (by decide)
  have q29 : ¬ x0 < (8192 : Int32) := own_nlt h1 (by decide)
  have q30 : (8203 : Int32) < x0 := own_gt h1 (by decide)
  have q31 : ¬ x0 < (8206 : Int32) := own_nlt h1 (by decide)
  have q32 : (8303 : Int32) < x0 := own_gt h1 (by decide)
  have q33 : x0 < (8592 : Int32) := own_lt h2 (by decide)
  have q34 : x0 < (12272 : Int32) := own_lt h2 (by decide)
  have q35 : x0 < (55296 : Int32) := own_lt h2 (by decide)
  have q36 : x0 < (64976 : Int32) := own_lt h2 (by decide)
  have q37 : ¬ x0 = (65534 : Int32) := own_ne2 h2 (by decide)
  have q38 : ¬ x0 = (65535 : Int32) := own_ne2 h2 (by decide)
  have e_g3_184_x : g3_184 x0 = (1 : Int32) := ((if_neg q37).trans (if_neg q38))
  have e_g3_170_x : g3_170 x0 = (1 : Int32) := ((if_pos q36).trans e_g3_184_x)
  have e_g3_156_x : g3_156 x0 = (1 : Int32) := ((if_pos q35).trans e_g3_170_x)
  have e_g3_140_x : g3_140 x0 = (1 : Int32) := ((if_pos q34).trans e_g3_156_x)
  have e_g3_124_x : g3_124 x0 = (1 : Int32) := ((if_pos q33).trans e_g3_140_x)
  have e_g3_108_x : g3_108 x0 = (1 : Int32) := ((if_neg q31).trans ((if_pos q32).trans e_g3_124_x))
  have e_g3_83_x : g3_83 x0 = (1 : Int32) := ((if_neg q28).trans ((if_neg q29).trans ((if_pos q30).trans e_g3_108_x)))
  have e_g3_51_x : g3_51 x0 = (1 : Int32) := ((if_neg q24).trans ((if_neg q25).trans ((if_neg q26).trans ((if_pos q27).trans e_g3_83_x))))
  have e_g3_28_x : g3_28 x0 = (1 : Int32) := ((if_neg q21).trans ((if_neg q22).trans ((if_pos q23).trans e_g3_51_x)))
  have e_g3_0_x : g3_0 x0 = (1 : Int32) := ((if_neg q0).trans ((if_neg q18).trans ((if_neg q19).trans ((if_pos q20).trans e_g3_28_x))))
  have e_f3_x : f3 x0 = (1 : Int32) := e_g3_0_x
  rw [e_f1_x, e_f3_x]
theorem own_iv_49 (x0 : Int32) (h1 : (8591 : Int) ≤ x0.toInt) (h2 : x0.toInt < (8592 : Int)) : f1 x0 = f3 x0 := by
  have q0 : ¬ x0 < (65 : Int32) := own_nlt h1 (by decide)
  have q1 : (90 : Int32) < x0 := own_gt h1 (by decide)
  have q2 : ¬ x0 < (97 : Int32) := own_nlt h1 (by decide)
  have q3 : (122 : Int32) < x0 := own_gt h1 (by decide)
  have q4 : ¬ x0 < (192 : Int32) := own_nlt h1 (by decide)
  have q5 : (214 : Int32) < x0 := own_gt h1 (by decide)
  have q6 : ¬ x0 < (216 : Int32) := own_nlt h1 (by decide)
  have q7 : (246 : Int32) < x0 := own_gt h1 (by decide)
  have q8 : ¬ x0 < (248 : Int32) := own_nlt h1 (by decide)
  have q9 : (767 : Int32) < x0 := own_gt h1 (by decide)
  have q10 : ¬ x0 < (880 : Int32) := own_nlt h1 (by decide)
  have q11 : (893 : Int32) < x0 := own_gt h1 (by decide)
  have q12 : ¬ x0 < (895 : Int32) := own_nlt h1 (by decide)
  have q13 : (8191 : Int32) < x0 := own_gt h1 (by decide)
  have q14 : ¬ x0 < (8204 : Int32) := own_nlt h1 (by decide)
  have q15 : (8205 : Int32) < x0 := own_gt h1 (by decide)
  have q16 : ¬ x0 < (8304 : Int32) := own_nlt h1 (by decide)
  have q17 : ¬ (8591 : Int32) < x0 := own_ngt h2 (by decide)
  have e_g2_108_x : g2_108 x0 = (1 : Int32) := ((if_neg q16).trans (if_neg q17))
  have e_g2_94_x : g2_94 x0 = (1 : Int32) := ((if_neg q14).trans ((if_pos q15).trans e_g2_108_x))
  have e_g2_80_x : g2_80 x0 = (1 : Int32) := ((if_neg q12).trans ((if_pos q13).trans e_g2_94_x))
  have e_g2_66_x : g2_66 x0 = (1 : Int32) := ((if_neg q10).trans ((if_pos q11).trans e_g2_80_x))
  have e_g2_52_x : g2_52 x0 = (1 : Int32) := ((if_neg q8).trans ((if_pos q9).trans e_g2_66_x))
  have e_g2_38_x : g2_38 x0 = (1 : Int32) := ((if_neg q6).trans ((if_pos q7).trans e_g2_52_x))
  have e_g2_24_x : g2_24 x0 = (1 : Int32) := ((if_neg q4).trans ((if_pos q5).trans e_g2_38_x))
  have e_g2_12_x : g2_12 x0 = (1 : Int32) := ((if_neg q2).trans ((if_pos q3).trans e_g2_24_x))
  have e_g2_0_x : g2_0 x0 = (1 : Int32) := ((if_neg q0).trans ((if_pos q1).trans e_g2_12_x))
  have e_f2_x : f2 x0 = (1 : Int32) := e_g2_0_x
  have e_g1_0_x : g1_0 x0 = (1 : Int32) := (if_neg (by rw [e_f2_x]; decide))
  have e_f1_x : f1 x0 = (1 : Int32) := e_g1_0_x
  have q18 : ¬ (983039 : Int32) < x0 := own_ngt h2 (by decide)
  have q19 : ¬ x0 < (91 : Int32) := own_nlt h1 (by decide)
  have q20 : (94 : Int32) < x0 := own_gt h1 (by decide)
  have q21 : ¬ x0 = (96 : Int32) := own_ne1 h1 (by decide)
  have q22 : ¬ x0 < (123 : Int32) := own_nlt h1 (by decide)
  have q23 : (191 : Int32) < x0 := own_gt h1 (by decide)
  have q24 : ¬ x0 = (215 : Int32) := own_ne1 h1 (by decide)
  have q25 : ¬ x0 = (247 : Int32) := own_ne1 h1 (by decide)
  have q26 : ¬ x0 < (768 : Int32) := own_nlt h1 (by decide)
  have q27 : (879 : Int32) < x0 := own_gt h1 (by decide)
  have q28 : ¬ x0 = (894 : Int32) := own_ne1 h1 (by decide)
  have q29 : ¬ x0 < (8192 : Int32) := own_nlt h1 (by decide)
  have q30 : (8203 : Int32) < x0 := own_gt h1 (by decide)
  have q31 : ¬ x0 < (8206 : Int32) := own_nlt h1 (by decide)
  have q32 : (8303 : Int32) < x0 := own_gt h1 (by decide)
  have q33 : x0 < (8592 : Int32) := own_lt h2 (by decide)
  have q34 : x0 < (12272 : Int32) := own_lt h2 (by decide)
  have q35 : x0 < (55296 : Int32) := own_lt h2 (by decide)
  have q36 : x0 < (64976 : Int32) := own_lt h2 (by decide)
  have q37 : ¬ x0 = (65534 : Int32) := own_ne2 h2 (by decide)
  have q38 : ¬ x0 = (65535 : Int32) := own_ne2 h2 (by decide)
  have e_g3_184_x : g3_184 x0 = (1 : Int32) := ((if_neg q37).trans (if_neg q38))
  have e_g3_170_x : g3_170 x0 = (1 : Int32) := ((if_pos q36).trans e_g3_184_x)
  have e_g3_156_x : g3_156 x0 = (1 : Int32) := ((if_pos q35).trans e_g3_170_x)
  have e_g3_140_x : g3_140 x0 = (1 : Int32) := ((if_pos q34).trans e_g3_156_x)
  have e_g3_124_x : g3_124 x0 = (1 : Int32) := ((if_pos q33).trans e_g3_140_x)
  have e_g3_108_x : g3_108 x0 = (1 : Int32) := ((if_neg q31).trans ((if_pos q32).trans e_g3_124_x))
  have e_g3_83_x : g3_83 x0 = (1 : Int32) := ((if_neg q28).trans ((if_neg q29).trans ((if_pos q30).trans e_g3_108_x)))
  have e_g3_51_x : g3_51 x0 = (1 : Int32) := ((if_neg q24).trans ((if_neg q25).trans ((if_neg q26).trans ((if_pos q27).trans e_g3_83_x))))
  have e_g3_28_x : g3_28 x0 = (1 : Int32) := ((if_neg q21).trans ((if_neg q22).trans ((if_pos q23).trans e_g3_51_x)))
  have e_g3_0_x : g3_0 x0 = (1 : Int32) := ((if_neg q0).trans ((if_neg q18).trans ((if_neg q19).trans ((if_pos q20).trans e_g3_28_x))))
  have e_f3_x : f3 x0 = (1 : Int32) := e_g3_0_x
  rw [e_f1_x, e_f3_x]
theorem own_iv_50 (x0 : Int32) (h1 : (8592 : Int) ≤ x0.toInt) (h2 : x0.toInt < (8593 : Int)) : f1 x0 = f3 x0 := by
  have q0 : ¬ x0 < (65 : Int32) := own_nlt h1 (by decide)
  have q1 : (90 : Int32) < x0 := own_gt h1 (by decide)
  have q2 : ¬ x0 < (97 : Int32) := own_nlt h1 (by decide)
  have q3 : (122 : Int32) < x0 := own_gt h1 (by decide)
  have q4 : ¬ x0 < (192 : Int32) := own_nlt h1 (by decide)
  have q5 : (214 : Int32) < x0 := own_gt h1 (by decide)
  have q6 : ¬ x0 < (216 : Int32) := own_nlt h1 (by decide)
  have q7 : (246 : Int32) < x0 := own_gt h1 (by decide)
  have q8 : ¬ x0 < (248 : Int32) := own_nlt h1 (by decide)
  have q9 : (767 : Int32) < x0 := own_gt h1 (by decide)
  have q10 : ¬ x0 < (880 : Int32) := own_nlt h1 (by decide)
  have q11 : (893 : Int32) < x0 := own_gt h1 (by decide)
  have q12 : ¬ x0 < (895 : Int32) := own_nlt h1 (by decide)
  have q13 : (8191 : Int32) < x0 := own_gt h1 (by decide)
  have q14 : ¬ x0 < (8204 : Int32) := own_nlt h1 (by decide)
  have q15 : (8205 : Int32) < x0 := own_gt h1 (by decide)
  have q16 : ¬ x0 < (8304 : Int32) := own_nlt h1 (by decide)
  have q17 : (8591 : Int32) < x0 := own_gt h1 (by decide)
  have q18 : x0 < (11264 : Int32) := own_lt h2 (by decide)
  have q19 : x0 < (12289 : Int32) := own_lt h2 (by decide)
  have q20 : x0 < (63744 : Int32) := own_lt h2 (by decide)
  have q21 : x0 < (65008 : Int32) := own_lt h2 (by decide)
  have q22 : x0 < (65536 : Int32) := own_lt h2 (by decide)
  have e_g2_178_x : g2_178 x0 = (0 : Int32) := (if_pos q22)
  have e_g2_164_x : g2_164 x0 = (0 : Int32) := ((if_pos q21).trans e_g2_178_x)
  have e_g2_150_x : g2_150 x0 = (0 : Int32) := ((if_pos q20).trans e_g2_164_x)
  have e_g2_136_x : g2_136 x0 = (0 : Int32) := ((if_pos q19).trans e_g2_150_x)
  have e_g2_122_x : g2_122 x0 = (0 : Int32) := ((if_pos q18).trans e_g2_136_x)
  have e_g2_108_x : g2_108 x0 = (0 : Int32) := ((if_neg q16).trans ((if_pos q17).trans e_g2_122_x))
  have e_g2_94_x : g2_94 x0 = (0 : Int32) := ((if_neg q14).trans ((if_pos q15).trans e_g2_108_x))
  have e_g2_80_x : g2_80 x0 = (0 : Int32) := ((if_neg q12).trans ((if_pos q13).trans e_g2_94_x))
  have e_g2_66_x : g2_66 x0 = (0 : Int32) := ((if_neg q10).trans ((if_pos q11).trans e_g2_80_x))
  have e_g2_52_x : g2_52 x0 = (0 : Int32) := ((if_neg q8).trans ((if_pos q9).trans e_g2_66_x))
  have e_g2_38_x : g2_38 x0 = (0 : Int32) := ((if_neg q6).trans ((if_pos q7).trans e_g2_52_x))
  have e_g2_24_x : g2_24 x0 = (0 : Int32) := ((if_neg q4).trans ((if_pos q5).trans e_g2_38_x))
  have e_g2_12_x : g2_12 x0 = (0 : Int32) := ((if_neg q2).trans ((if_pos q3).trans e_g2_24_x))
  have e_g2_0_x : g2_0 x0 = (0 : Int32) := ((if_neg q0).trans ((if_pos q1).trans e_g2_12_x))
  have e_f2_x : f2 x0 = (0 : Int32) := e_g2_0_x
  have q23 : ¬ x0 = (95 : Int32) := own_ne1 h1 (by decide)
  have e_g1_0_x : g1_0 x0 = (0 : Int32) := ((if_pos (by rw [e_f2_x])).trans (if_neg q23))
  have e_f1_x : f1 x0 = (0 : Int32) := e_g1_0_x
  have q24 : ¬ (983039 : Int32) < x0 := own_ngt h2 (by decide)
  have q25 : ¬ x0 < (91 : Int32) := own_nlt h1 (by decide)
  have q26 : (94 : Int32) < x0 := own_gt h1 (by decide)
  have q27 : ¬ x0 = (96 : Int32) := own_ne1 h1 (by decide)
  have q28 : ¬ x0 < (123 : Int32) := own_nlt h1 (by decide)
  have q29 : (191 : Int32) < x0 := own_gt h1 (by decide)
  have q30 : ¬ x0 = (215 : Int32) := own_ne1 h1 (by decide)
  have q31 : ¬ x0 = (247 : Int32) := own_ne1 h1 (by decide)
  have q32 : ¬ x0 < (768 : Int32) := own_nlt h1 (by decide)
  have q33 : (879 : Int32) < x0 := own_gt h1 (by decide)
  have q34 : ¬ x0 = (894 : Int32) := own_ne1 h1 (by decide)
  have q35 : ¬ x0 < (8192 : Int32) := own_nlt h1 (by decide)
  have q36 : (8203 : Int32) < x0 := own_gt h1 (by decide)
  have q37 : ¬ x0 < (8206 : Int32) := own_nlt h1 (by decide)
  have q38 : (8303 : Int32) < x0 := own_gt h1 (by decide)
  have q39 : ¬ x0 < (8592 : Int32) := own_nlt h1 (by decide)
  have q40 : ¬ (11263 : Int32) < x0 := own_ngt h2 (by decide)
  have e_g3_124_x : g3_124 x0 = (0 : Int32) := ((if_neg q39).trans (if_neg q40))
  have e_g3_108_x : g3_108 x0 = (0 : Int32) := ((if_neg q37).trans ((if_pos q38).trans e_g3_124_x))
  have e_g3_83_x : g3_83 x0 = (0 : Int32) := ((if_neg q34).trans ((if_neg q35).trans ((if_pos q36).trans e_g3_108_x)))
  have e_g3_51_x : g3_51 x0 = (0 : Int32) := ((if_neg q30).trans ((if_neg q31).trans ((if_neg q32).trans ((if_pos q33).trans e_g3_83_x))))
  have e_g3_28_x : g3_28 x0 = (0 : Int32) := ((if_neg q27).trans ((if_neg q28).trans ((if_pos q29).trans e_g3_51_x)))
  have e_g3_0_x : g3_0 x0 = (0 : Int32) := ((if_neg q0).trans ((if_neg q24).trans ((if_neg q25).trans ((if_pos q26).trans e_g3_28_x))))
  have e_f3_x : f3 x0 = (0 : Int32) := e_g3_0_x
  rw [e_f1_x, e_f3_x]
theorem own_iv_51 (x0 : Int32) (h1 : (8593 : Int) ≤ x0.toInt) (h2 : x0.toInt < (11263 : Int)) : f1 x0 = f3 x0 := by
  have q0 : ¬ x0 < (65 : Int32) := own_nlt h1 (by decide)
  have q1 : (90 : Int32) < x0 := own_gt h1 (by decide)
  have q2 : ¬ x0 < (97 : Int32) := own_nlt h1 (by decide)
  have q3 : (122 : Int32) < x0 := own_gt h1 (by decide)
  have q4 : ¬ x0 < (192 : Int32) := own_nlt h1 (by decide)
  have q5 : (214 : Int32) < x0 := own_gt h1 (by decide)
  have q6 : ¬ x0 < (216 : Int32) := own_nlt h1 (by decide)
  have q7 : (246 : Int32) < x0 := own_gt h1 (by decide)
  have q8 : ¬ x0 < (248 : Int32) := own_nlt h1 (by decide)
  have q9 : (767 : Int32) < x0 := own_gt h1 (by decide)
  have q10 : ¬ x0 < (880 : Int32) := own_nlt h1 (by decide)
  have q11 : (893 : Int32) < x0 := own_gt h1 (by decide)
  have q12 : ¬ x0 < (895 : Int32) := own_nlt h1 (by decide)
  have q13 : (8191 : Int32) < x0 := own_gt h1 (by decide)
  have q14 : ¬ x0 < (8204 : Int32) := own_nlt h1 (by decide)
  have q15 : (8205 : Int32) < x0 := own_gt h1 (by decide)
  have q16 : ¬ x0 < (8304 : Int32) := own_nlt h1 (by decide)
  have q17 : (8591 : Int32) < x0 := own_gt h1 (by decide)
  have q18 : x0 < (11264 : Int32) := own_lt h2 (by decide)
  have q19 : x0 < (12289 : Int32) := own_lt h2 (by decide)
  have q20 : x0 < (63744 : Int32) := own_lt h2 (by decide)
  have q21 : x0 < (65008 : Int32) := own_lt h2 (by decide)
  have q22 : x0 < (65536 : Int32) := own_lt h2 (by decide)
  have e_g2_178_x : g2_178 x0 = (0 : Int32) := (if_pos q22)
  have e_g2_164_x : g2_164 x0 = (0 : Int32) := ((if_pos q21).trans e_g2_178_x)
  have e_g2_150_x : g2_150 x0 = (0 : Int32) := ((if_pos q20).trans e_g2_164_x)
  have e_g2_136_x : g2_136 x0 = (0 : Int32) := ((if_pos q19).trans e_g2_150_x)
  have e_g2_122_x : g2_122 x0 = (0 : Int32) := ((if_pos q18).trans e_g2_136_x)
  have e_g2_108_x : g2_108 x0 = (0 : Int32) := ((if_neg q16).trans ((if_pos q17).trans e_g2_122_x))
  have e_g2_94_x : g2_94 x0 = (0 : Int32) := ((if_neg q14).trans ((if_pos q15).trans e_g2_108_x))
  have e_g2_80_x : g2_80 x0 = (0 : Int32) := ((if_neg q12).trans ((if_pos q13).trans e_g2_94_x))
  have e_g2_66_x : g2_66 x0 = (0 : Int32) := ((if_neg q10).trans ((if_pos q11).trans e_g2_80_x))
  have e_g2_52_x : g2_52 x0 = (0 : Int32) := ((if_neg q8).trans ((if_pos q9).trans e_g2_66_x))
  have e_g2_38_x : g2_38 x0 = (0 : Int32) := ((if_neg q6).trans ((if_pos q7).trans e_g2_52_x))
  have e_g2_24_x : g2_24 x0 = (0 : Int32) := ((if_neg q4).trans ((if_pos q5).trans e_g2_38_x))
  have e_g2_12_x : g2_12 x0 = (0 : Int32) := ((if_neg q2).trans ((if_pos q3).trans e_g2_24_x))
  have e_g2_0_x : g2_0 x0 = (0 : Int32) := ((if_neg q0).trans ((if_pos q1).trans e_g2_12_x))
  have e_f2_x : f2 x0 = (0 : Int32) := e_g2_0_x
  have q23 : ¬ x0 = (95 : Int32) := own_ne1 h1 (by decide)
  have e_g1_0_x : g1_0 x0 = (0 : Int32) := ((if_pos (by rw [e_f2_x])).trans (if_neg q23))
  have e_f1_x : f1 x0 = (0 : Int32) := e_g1_0_x
  have q24 : ¬ (983039 : Int32) < x0 := own_ngt h2 (by decide)
  have q25 : ¬ x0 < (91 : Int32) := own_nlt h1 (by decide)
  have q26 : (94 : Int32) < x0 := own_gt h1 (by decide)
  have q27 : ¬ x0 = (96 : Int32) := own_ne1 h1 (by decide)
  have q28 : ¬ x0 < (123 : Int32) := own_nlt h1 (by decide)
  have q29 : (191 : Int32) < x0 := own_gt h1 (by decide)
  have q30 : ¬ x0 = (215 : Int32) := own_ne1 h1 (by decide)
  have q31 : ¬ x0 = (247 : Int32) := own_ne1 h1 (by decide)
  have q32 : ¬ x0 < (768 : Int32) := own_nlt h1 (by decide)
  have q33 : (879 : Int32) < x0 := own_gt h1 (by decide)
  have q34 : ¬ x0 = (894 : Int32) := own_ne1 h1 (by decide)
  have q35 : ¬ x0 < (8192 : Int32) := own_nlt h1 (by decide)
  have q36 : (8203 : Int32) < x0 := own_gt h1 (by decide)
  have q37 : ¬ x0 < (8206 : Int32) := own_nlt h1 (by decide)
  have q38 : (8303 : Int32) < x0 := own_gt h1 (by decide)
  have q39 : ¬ x0 < (8592 : Int32) := own_nlt h1 (by decide)
  have q40 : ¬ (11263 : Int32) < x0 := own_ngt h2 (by decide)
  have e_g3_124_x : g3_124 x0 = (0 : Int32) := ((if_neg q39).trans (if_neg q40))
  have e_g3_108_x : g3_108 x0 = (0 : Int32) := ((if_neg q37).trans ((if_pos q38).trans e_g3_124_x))
  have e_g3_83_x : g3_83 x0 = (0 : Int32) := ((if_neg q34).trans ((if_neg q35).trans ((if_pos q36).trans e_g3_108_x)))
  have e_g3_51_x : g3_51 x0 = (0 : Int32) := ((if_neg q30).trans ((if_neg q31).trans ((if_neg q32).trans ((if_pos q33).trans e_g3_83_x))))
  have e_g3_28_x : g3_28 x0 = (0 : Int32) := ((if_neg q27).trans ((if_neg q28).trans ((if_pos q29).trans e_g3_51_x)))
  have e_g3_0_x : g3_0 x0 = (0 : Int32) := ((if_neg q0).trans ((if_neg q24).trans ((if_neg q25).trans ((if_pos q26).trans e_g3_28_x))))
  have e_f3_x : f3 x0 = (0 : Int32) := e_g3_0_x
  rw [e_f1_x, e_f3_x]
theorem own_iv_52 (x0 : Int32) (h1 : (11263 : Int) ≤ x0.toInt) (h2 : x0.toInt < (11264 : Int)) : f1 x0 = f3 x0 := by
  have q0 : ¬ x0 < (65 : Int32) := own_nlt h1 (by decide)
  have q1 : (90 : Int32) < x0 := own_gt h1 (by decide)
  have q2 : ¬ x0 < (97 : Int32) := own_nlt h1 (by decide)
  have q3 : (122 : Int32) < x0 := own_gt h1 (by decide)
  have q4 : ¬ x0 < (192 : Int32) := own_nlt h1 (by decide)
  have q5 : (214 : Int32) < x0 := own_gt h1 (by decide)
  have q6 : ¬ x0 < (216 : Int32) := own_nlt h1 (by decide)
  have q7 : (246 : Int32) < x0 := own_gt h1 (by decide)
  have q8 : ¬ x0 < (248 : Int32) := own_nlt h1 (by decide)
  have q9 : (767 : Int32) < x0 := own_gt h1 (by decide)
  have q10 : ¬ x0 < (880 : Int32) := own_nlt h1 (by decide)
  have q11 : (893 : Int32) < x0 := own_gt h1 (by decide)
  have q12 : ¬ x0 < (895 : Int32) := own_nlt h1 (by decide)
  have q13 : (8191 : Int32) < x0 := own_gt h1 (by decide)
  have q14 : ¬ x0 < (8204 : Int32) := own_nlt h1 (by decide)
  have q15 : (8205 : Int32) < x0 := own_gt h1 (by decide)
  have q16 : ¬ x0 < (8304 : Int32) := own_nlt h1 (by decide)
  have q17 : (8591 : Int32) < x0 := own_gt h1 (by decide)
  have q18 : x0 < (11264 : Int32) := own_lt h2 (by decide)
  have q19 : x0 < (12289 : Int32) := own_lt h2 (by decide)
  have q20 : x0 < (63744 : Int32) := own_lt h2 (by decide)
  have q21 : x0 < (65008 : Int32) := own_lt h2 (by decide)
  have q22 : x0 < (65536 : Int32) := own_lt h2 (by decide)
  have e_g2_178_x : g2_178 x0 = (0 : Int32) := (if_pos q22)
  have e_g2_164_x : g2_164 x0 = (0 : Int32) := ((if_pos q21).trans e_g2_178_x)
  have e_g2_150_x : g2_150 x0 = (0 : Int32) := ((if_pos q20).trans e_g2_164_x)
  have e_g2_136_x : g2_136 x0 = (0 : Int32) := ((if_pos q19).trans e_g2_150_x)
  have e_g2_122_x : g2_122 x0 = (0 : Int32) := ((if_pos q18).trans e_g2_136_x)
  have e_g2_108_x : g2_108 x0 = (0 : Int32) := ((if_neg q16).trans ((if_pos q17).trans e_g2_122_x))
  have e_g2_94_x : g2_94 x0 = (0 : Int32) := ((if_neg q14).trans ((if_pos q15).trans e_g2_108_x))
  have e_g2_80_x : g2_80 x0 = (0 : Int32) := ((if_neg q12).trans ((if_pos q13).trans e_g2_94_x))
  have e_g2_66_x : g2_66 x0 = (0 : Int32) := ((if_neg q10).trans ((if_pos q11).trans e_g2_80_x))
  have e_g2_52_x : g2_52 x0 = (0 : Int32) := ((if_neg q8).trans ((if_pos q9).trans e_g2_66_x))
  have e_g2_38_x : g2_38 x0 = (0 : Int32) := ((if_neg q6).trans ((if_pos q7).trans e_g2_52_x))
  have e_g2_24_x : g2_24 x0 = (0 : Int32) := ((if_neg q4).trans ((if_pos q5).trans e_g2_38_x))
  have e_g2_12_x : g2_12 x0 = (0 : Int32) := ((if_neg q2).trans ((if_pos q3).trans e_g2_24_x))
  have e_g2_0_x : g2_0 x0 = (0 : Int32) := ((if_neg q0).trans ((if_pos q1).trans e_g2_12_x))
  have e_f2_x : f2 x0 = (0 : Int32) := e_g2_0_x
  have q23 : ¬ x0 = (95 : Int32) := own_ne1 h1 (by decide)
  have e_g1_0_x : g1_0 x0 = (0 : Int32) := ((if_pos (by rw [e_f2_x])).trans (if_neg q23))
  have e_f1_x : f1 x0 = (0 : Int32) := e_g1_0_x
  have q24 : ¬ (983039 : Int32) < x0 := own_ngt h2 (by decide)
  have q25 : ¬ x0 < (91 : Int32) := own_nlt h1 (by decide)
  have q26 : (94 : Int32) < x0 := own_gt h1 (by decide)
  have q27 : ¬ x0 = (96 : Int32) := own_ne1 h1 (by decide)
  have q28 : ¬ x0 < (123 : Int32) := own_nlt h1 (by decide)
  have q29 : (191 : Int32) < x0 := own_gt h1 (by decide)
  have q30 : ¬ x0 = (215 : Int32) := own_ne1 h1 (by decide)
  have q31 : ¬ x0 = (247 : Int32) := own_ne1 h1 (by decide)
  have q32 : ¬ x0 < (768 : Int32) := own_nlt h1 (by decide)
  have q33 : (879 : Int32) < x0 := own_gt h1 (by decide)
  have q34 : ¬ x0 = (894 : Int32) := own_ne1 h1 (by decide)
  have q35 : ¬ x0 < (8192 : Int32) := own_nlt h1 (by decide)
  have q36 : (8203 : Int32) < x0 := own_gt h1 (by decide)
  have q37 : ¬ x0 < (8206 : Int32) := own_nlt h1 (by decide)
  have q38 : (8303 : Int32) < x0 := own_gt h1 (by decide)
  have q39 : ¬ x0 < (8592 : Int32) := own_nlt h1 (by decide)
  have q40 : ¬ (11263 : Int32) < x0 := own_ngt h2 (by decide)
  have e_g3_124_x : g3_124 x0 = (0 : Int32) := ((if_neg q39).trans (if_neg q40))
  have e_g3_108_x : g3_108 x0 = (0 : Int32) := ((if_neg q37).trans ((if_pos q38).trans e_g3_124_x))
  have e_g3_83_x : g3_83 x0 = (0 : Int32) := ((if_neg q34).trans ((if_neg q35).trans ((if_pos q36).trans e_g3_108_x)))
  have e_g3_51_x : g3_51 x0 = (0 : Int32) := ((if_neg q30).trans ((if_neg q31).trans ((if_neg q32).trans ((if_pos q33).trans e_g3_83_x))))
  have e_g3_28_x : g3_28 x0 = (0 : Int32) := ((if_neg q27).trans ((if_neg q28).trans ((if_pos q29).trans e_g3_51_x)))
  have e_g3_0_x : g3_0 x0 = (0 : Int32) := ((if_neg q0).trans ((if_neg q24).trans ((if_neg q25).trans ((if_pos q26).trans e_g3_28_x))))
  have e_f3_x : f3 x0 = (0 : Int32) := e_g3_0_x
  rw [e_f1_x, e_f3_x]
theorem own_iv_53 (x0 : Int32) (h1 : (11264 : Int) ≤ x0.toInt) (h2 : x0.toInt < (11265 : Int)) : f1 x0 = f3 x0 := by
  have q0 : ¬ x0 < (65 : Int32) := own_nlt h1 (by decide)
  have q1 : (90 : Int32) < x0 := own_gt h1 (by decide)
  have q2 : ¬ x0 < (97 : Int32) := own_nlt h1 (by decide)
  have q3 : (122 : Int32) < x0 := own_gt h1 (by decide)
  have q4 : ¬ x0 < (192 : Int32) := own_nlt h1 (by decide)
  have q5 : (214 : Int32) < x0 := own_gt h1 (by decide)
  have q6 : ¬ x0 < (216 : Int32) := own_nlt h1 (by decide)
  have q7 : (246 : Int32) < x0 := own_gt h1 (by decide)
  have q8 : ¬ x0 < (248 : Int32) := own_nlt h1 (by decide)
  have q9 : (767 : Int32) < x0 := own_gt h1 (by decide)
  have q10 : ¬ x0 < (880 : Int32) := own_nlt h1 (by decide)
  have q11 : (893 : Int32) < x0 := own_gt h1 (by decide)
  have q12 : ¬ x0 < (895 : Int32) := own_nlt h1 (by decide)
  have q13 : (8191 : Int32) < x0 := own_gt h1 (by decide)
  have q14 : ¬ x0 < (8204 : Int32) := own_nlt h1 (by decide)
  have q15 : (8205 : Int32) < x0 := own_gt h1 (by decide)
  have q16 : ¬ x0 < (8304 : Int32) := own_nlt h1 (by decide)
  have q17 : (8591 : Int32) < x0 := own_gt h1 (by decide)
  have q18 : ¬ x0 < (11264 : Int32) := own_nlt h1 (by decide)
  have q19 : ¬ (12271 : Int32) < x0 := own_ngt h2 (by decide)
  have e_g2_122_x : g2_122 x0 = (1 : Int32) := ((if_neg q18).trans (if_neg q19))
  have e_g2_108_x : g2_108 x0 = (1 : Int32) := ((if_neg q16).trans ((if_pos q17).trans e_g2_122_x))
  have e_g2_94_x : g2_94 x0 = (1 : Int32) := ((if_neg q14).trans ((if_pos q15).trans e_g2_108_x))
  have e_g2_80_x : g2_80 x0 = (1 : Int32) := ((if_neg q12).trans ((if_pos q13).trans e_g2_94_x))
  have e_g2_66_x : g2_66 x0 = (1 : Int32) := ((if_neg q10).trans ((if_pos q11).trans e_g2_80_x))
  have e_g2_52_x : g2_52 x0 = (1 : Int32) := ((if_neg q8).trans ((if_pos q9).trans e_g2_66_x))
  have e_g2_38_x : g2_38 x0 = (1 : Int32) := ((if_neg q6).trans ((if_pos q7).trans e_g2_52_x))
  have e_g2_24_x : g2_24 x0 = (1 : Int32) := ((if_neg q4).trans ((if_pos q5).trans e_g2_38_x))
  have e_g2_12_x : g2_12 x0 = (1 : Int32) := ((if_neg q2).trans ((if_pos q3).trans e_g2_24_x))
  have e_g2_0_x : g2_0 x0 = (1 : Int32) := ((if_neg q0).trans ((if_pos q1).trans e_g2_12_x))
  have e_f2_x : f2 x0 = (1 : Int32) := e_g2_0_x
  have e_g1_0_x : g1_0 x0 = (1 : Int32) := (if_neg (by rw [e_f2_x]; decide))
  have e_f1_x : f1 x0 = (1 : Int32) := e_g1_0_x
  have q20 : ¬ (983039 : Int32) < x0 := own_ngt h2 (by decide)
  have q21 : ¬ x0 < (91 : Int32) := own_nlt h1 (by decide)
  have q22 : (94 : Int32) < x0 := own_gt h1 (by decide)
  have q23 : ¬ x0 = (96 : Int32) := own_ne1 h1 (by decide)
  have q24 : ¬ x0 < (123 : Int32) := own_nlt h1 (by decide)
  have q25 : (191 : Int32) < x0 := own_gt h1 (by decide)
  have q26 : ¬ x0 = (215 : Int32) := own_ne1 h1 (by decide)
  have q27 : ¬ x0 = (247 : Int32) := own_ne1 h1 (by decide)
  have q28 : ¬ x0 < (768 : Int32) := own_nlt h1 (by decide)
  have q29 : (879 : Int32) < x0 := own_gt h1 (by decide)
  have q30 : ¬ x0 = (894 : Int32) := own_ne1 h1 (by decide)
  have q31 : ¬ x0 < (8192 : Int32) := own_nlt h1 (by decide)
  have q32 : (8203 : Int32) < x0 := own_gt h1 (by decide)
  have q33 : ¬ x0 < (8206 : Int32) := own_nlt h1 (by decide)
  have q34 : (8303 : Int32) < x0 := own_gt h1 (by decide)
  have q35 : ¬ x0 < (8592 : Int32) := own_nlt h1 (by decide)
  have q36 : (11263 : Int32) < x0 := own_gt h1 (by decide)
  have q37 : x0 < (12272 : Int32) := own_lt h2 (by decide)
  have q38 : x0 < (55296 : Int32) := own_lt h2 (by decide)
  have q39 : x0 < (64976 : Int32) := own_lt h2 (by decide)
  have q40 : ¬ x0 = (65534 : Int32) := own_ne2 h2 (by decide)
  have q41 : ¬ x0 = (65535 : Int32) := own_ne2 h2 (by decide)
  have e_g3_184_x : g3_184 x0 = (1 : Int32) := ((if_neg q40).trans (if_neg q41))
  have e_g3_170_x : g3_170 x0 = (1 : Int32) := ((if_pos q39).trans e_g3_184_x)
  have e_g3_156_x : g3_156 x0 = (1 : Int32) := ((if_pos q38).trans e_g3_170_x)
  have e_g3_140_x : g3_140 x0 = (1 : Int32) := ((if_pos q37).trans e_g3_156_x)
  have e_g3_124_x : g3_124 x0 = (1 : Int32) := ((if_neg q35).trans ((if_pos q36).trans e_g3_140_x))
  have e_g3_108_x : g3_108 x0 = (1 : Int32) := ((if_neg q33).trans ((if_pos q34).trans e_g3_124_x))
  have e_g3_83_x : g3_83 x0 = (1 : Int32) := ((if_neg q30).trans ((if_neg q31).trans ((if_pos q32).trans e_g3_108_x)))
  have e_g3_51_x : g3_51 x0 = (1 : Int32) := ((if_neg q26).trans ((if_neg q27).trans ((if_neg q28).trans ((if_pos q29).trans e_g3_83_x))))
  have e_g3_28_x : g3_28 x0 = (1 : Int32) := ((if_neg q23).trans ((if_neg q24).trans ((if_pos q25).trans e_g3_51_x)))
  have e_g3_0_x : g3_0 x0 = (1 : Int32) := ((if_neg q0).trans ((if_neg q20).trans ((if_neg q21).trans ((if_pos q22).trans e_g3_28_x))))
  have e_f3_x : f3 x0 = (1 : Int32) := e_g3_0_x
  rw [e_f1_x, e_f3_x]
theorem own_iv_54 (x0 : Int32) (h1 : (11265 : Int) ≤ x0.toInt) (h2 : x0.toInt < (12271 : Int)) : f1 x0 = f3 x0 := by
  have q0 : ¬ x0 < (65 : Int32) := own_nlt h1 (by decide)
  have q1 : (90 : Int32) < x0 := own_gt h1 (by decide)
  have q2 : ¬ x0 < (97 : Int32) := own_nlt h1 (by decide)
  have q3 : (122 : Int32) < x0 := own_gt h1 (by decide)
  have q4 : ¬ x0 < (192 : Int32) := own_nlt h1 (by decide)
  have q5 : (214 : Int32) < x0 := own_gt h1 (by decide)
  have q6 : ¬ x0 < (216 : Int32) := own_nlt h1 (by decide)
  have q7 : (246 : Int32) < x0 := own_gt h1 (by decide)
  have q8 : ¬ x0 < (248 : Int32) := own_nlt h1 (by decide)
  have q9 : (767 : Int32) < x0 := own_gt h1 (by decide)
  have q10 : ¬ x0 < (880 : Int32) := own_nlt h1 (by decide)
  have q11 : (893 : Int32) < x0 := own_gt h1 (by decide)
  have q12 : ¬ x0 < (895 : Int32) := own_nlt h1 (by decide)
  have q13 : (8191 : Int32) < x0 := own_gt h1 (by decide)
  have q14 : ¬ x0 < (8204 : Int32) := own_nlt h1 (by decide)
  have q15 : (8205 : Int32) < x0 := own_gt h1 (by decide)
  have q16 : ¬ x0 < (8304 : Int32) := own_nlt h1 (by decide)
  have q17 : (8591 : Int32) < x0 := own_gt h1 (by decide)
  have q18 : ¬ x0 < (11264 : Int32) := own_nlt h1 (by decide)
  have q19 : ¬ (12271 : Int32) < x0 := own_ngt h2 (by decide)
  have e_g2_122_x : g2_122 x0 = (1 : Int32) := ((if_neg q18).trans (if_neg q19))
  have e_g2_108_x : g2_108 x0 = (1 : Int32) := ((if_neg q16).trans ((if_pos q17).trans e_g2_122_x))
  have e_g2_94_x : g2_94 x0 = (1 : Int32) := ((if_neg q14).trans ((if_pos q15).trans e_g2_108_x))
  have e_g2_80_x : g2_80 x0 = (1 : Int32) := ((if_neg q12).trans ((if_pos q13).trans e_g2_94_x))
  have e_g2_66_x : g2_66 x0 = (1 : Int32) := ((if_neg q10).trans ((if_pos q11).trans e_g2_80_x))
  have e_g2_52_x : g2_52 x0 = (1 : Int32) := ((if_neg q8).trans ((if_pos q9).trans e_g2_66_x))
  have e_g2_38_x : g2_38 x0 = (1 : Int32) := ((if_neg q6).trans ((if_pos q7).trans e_g2_52_x))
  have e_g2_24_x : g2_24 x0 = (1 : Int32) := ((if_neg q4).trans ((if_pos q5).trans e_g2_38_x))
  have e_g2_12_x : g2_12 x0 = (1 : Int32) := ((if_neg q2).trans ((if_pos q3).trans e_g2_24_x))
  have e_g2_0_x : g2_0 x0 = (1 : Int32) := ((if_neg q0).trans ((if_pos q1).trans e_g2_12_x))
  have e_f2_x : f2 x0 = (1 : Int32) := e_g2_0_x
  have e_g1_0_x : g1_0 x0 = (1 : Int32) := (if_neg (by rw [e_f2_x]; decide))
  have e_f1_x : f1 x0 = (1 : Int32) := e_g1_0_x
  have q20 : ¬ (983039 : Int32) < x0 := own_ngt h2 (by decide)
  have q21 : ¬ x0 < (91 : Int32) := own_nlt h1 (by decide)
  have q22 : (94 : Int32) < x0 := own_gt h1 (by decide)
  have q23 : ¬ x0 = (96 : Int32) := own_ne1 h1 (by decide)
  have q24 : ¬ x0 < (123 : Int32) := own_nlt h1 (by decide)
  have q25 : (191 : Int32) < x0 := own_gt h1 (by decide)
  have q26 : ¬ x0 = (215 : Int32) := own_ne1 h1 (by decide)
  have q27 : ¬ x0 = (247 : Int32) := own_ne1 h1 (by decide)
  have q28 : ¬ x0 < (768 : Int32) := own_nlt h1 (by decide)
  have q29 : (879 : Int32) < x0 := own_gt h1 (by decide)
  have q30 : ¬ x0 = (894 : Int32) := own_ne1 h1 (by decide)
  have q31 : ¬ x0 < (8192 : Int32) := own_nlt h1 (by decide)
  have q32 : (8203 : Int32) < x0 := own_gt h1 (by decide)
  have q33 : ¬ x0 < (8206 : Int32) := own_nlt h1 (by decide)
  have q34 : (8303 : Int32) < x0 := own_gt h1 (by decide)
  have q35 : ¬ x0 < (8592 : Int32) := own_nlt h1 (by decide)
  have q36 : (11263 : Int32) < x0 := own_gt h1 (by decide)
  have q37 : x0 < (12272 : Int32) := own_lt h2 (by decide)
  have q38 : x0 < (55296 : Int32) := own_lt h2 (by decide)
  have q39 : x0 < (64976 : Int32) := own_lt h2 (by decide)
  have q40 : ¬ x0 = (65534 : Int32) := own_ne2 h2 (by decide)
  have q41 : ¬ x0 = (65535 : Int32) := own_ne2 h2 (by decide)
  have e_g3_184_x : g3_184 x0 = (1 : Int32) := ((if_neg q40).trans (if_neg q41))
  have e_g3_170_x : g3_170 x0 = (1 : Int32) := ((if_pos q39).trans e_g3_184_x)
  have e_g3_156_x : g3_156 x0 = (1 : Int32) := ((if_pos q38).trans e_g3_170_x)
  have e_g3_140_x : g3_140 x0 = (1 : Int32) := ((if_pos q37).trans e_g3_156_x)
  have e_g3_124_x : g3_124 x0 = (1 : Int32) := ((if_neg q35).trans ((if_pos q36).trans e_g3_140_x))
  have e_g3_108_x : g3_108 x0 = (1 : Int32) := ((if_neg q33).trans ((if_pos q34).trans e_g3_124_x))
  have e_g3_83_x : g3_83 x0 = (1 : Int32) := ((if_neg q30).trans ((if_neg q31).trans ((if_pos q32).trans e_g3_108_x)))
  have e_g3_51_x : g3_51 x0 = (1 : Int32) := ((if_neg q26).trans ((if_neg q27).trans ((if_neg q28).trans ((if_pos q29).trans e_g3_83_x))))
  have e_g3_28_x : g3_28 x0 = (1 : Int32) := ((if_neg q23).trans ((if_neg q24).trans ((if_pos q25).trans e_g3_51_x)))
  have e_g3_0_x : g3_0 x0 = (1 : Int32) := ((if_neg q0).trans ((if_neg q20).trans ((if_neg q21).trans ((if_pos q22).trans e_g3_28_x))))
  have e_f3_x : f3 x0 = (1 : Int32) := e_g3_0_x
  rw [e_f1_x, e_f3_x]
theorem own_iv_55 (x0 : Int32) (h1 : (12271 : Int) ≤ x0.toInt) (h2 : x0.toInt < (12272 : Int)) : f1 x0 = f3 x0 := by
  have q0 : ¬ x0 < (65 : Int32) := own_nlt h1 (by decide)
  have q1 : (90 : Int32) < x0 := own_gt h1 (by decide)
  have q2 : ¬ x0 < (97 : Int32) := own_nlt h1 (by decide)
  have q3 : (122 : Int32) < x0 := own_gt h1 (by decide)
  have q4 : ¬ x0 < (192 : Int32) := own_nlt h1 (by decide)
  have q5 : (214 : Int32) < x0 := own_gt h1 (by decide)
  have q6 : ¬ x0 < (216 : Int32) := own_nlt h1 (by decide)
  have q7 : (246 : Int32) < x0 := own_gt h1 (by decide)
  have q8 : ¬ x0 < (248 : Int32) := own_nlt h1 (by decide)
  have q9 : (767 : Int32) < x0 := own_gt h1 (by decide)
  have q10 : ¬ x0 < (880 : Int32) := own_nlt h1 (by decide)
  have q11 : (893 : Int32) < x0 := own_gt h1 (by decide)
  have q12 : ¬ x0 < (895 : Int32) := own_nlt h1 (by decide)
  have q13 : (8191 : Int32) < x0 := own_gt h1 (by decide)
  have q14 : ¬ x0 < (8204 : Int32) := own_nlt h1 (by decide)
  have q15 : (8205 : Int32) < x0 := own_gt h1 (by decide)
  have q16 : ¬ x0 < (8304 : Int32) := own_nlt h1 (by decide)
  have q17 : (8591 : Int32) < x0 := own_gt h1 (by decide)
  have q18 : ¬ x0 < (11264 : Int32) := own_nlt h1 (by decide)
  have q19 : ¬ (12271 : Int32) < x0 := own_ngt h2 (by decide)
  have e_g2_122_x : g2_122 x0 = (1 : Int32) := ((if_neg q18).trans (if_neg q19))
  have e_g2_108_x : g2_108 x0 = (1 : Int32) := ((if_neg q16).trans ((if_pos q17).trans e_g2_122_x))
  have e_g2_94_x : g2_94 x0 = (1 : Int32) := ((if_neg q14).trans ((if_pos q15).trans e_g2_108_x))
  have e_g2_80_x : g2_80 x0 = (1 : Int32) := ((if_neg q12).trans ((if_pos q13).trans e_g2_94_x))
  have e_g2_66_x : g2_66 x0 = (1 : Int32) := ((if_neg q10).trans ((if_pos q11).trans e_g2_80_x))
  have e_g2_52_x : g2_52 x0 = (1 : Int32) := ((if_neg q8).trans ((if_pos q9).trans e_g2_66_x))
  have e_g2_38_x : g2_38 x0 = (1 : Int32) := ((if_neg q6).trans ((if_pos q7).trans e_g2_52_x))
  have e_g2_24_x : g2_24 x0 = (1 : Int32) := ((if_neg q4).trans ((if_pos q5).trans e_g2_38_x))
  have e_g2_12_x : g2_12 x0 = (1 : Int32) := ((if_neg q2).trans ((if_pos q3).trans e_g2_24_x))
  have e_g2_0_x : g2_0 x0 = (1 : Int32) := ((if_neg q0).trans ((if_pos q1).trans e_g2_12_x))
  have e_f2_x : f2 x0 = (1 : Int32) := e_g2_0_x
  have e_g1_0_x : g1_0 x0 = (1 : Int32) := (if_neg (by rw [e_f2_x]; decide))
  have e_f1_x : f1 x0 = (1 : Int32) := e_g1_0_x
  have q20 : ¬ (983039 : Int32) < x0 := own_ngt h2 (by decide)
  have q21 : ¬ x0 < (91 : Int32) := own_nlt h1 (by decide)
  have q22 : (94 : Int32) < x0 := own_gt h1 (by decide)
  have q23 : ¬ x0 = (96 : Int32) := own_ne1 h1 (by decide)
  have q24 : ¬ x0 < (123 : Int32) := own_nlt h1 (by decide)
  have q25 : (191 : Int32) < x0 := own_gt h1 (by decide)
  have q26 : ¬ x0 = (215 : Int32) := own_ne1 h1 (by decide)
  have q27 : ¬ x0 = (247 : Int32) := own_ne1 h1 (by decide)
  have q28 : ¬ x0 < (768 : Int32) := own_nlt h1 (by decide)
  have q29 : (879 : Int32) < x0 := own_gt h1 (by decide)
  have q30 : ¬ x0 = (894 : Int32) := own_ne1 h1 (by decide)
  have q31 : ¬ x0 < (8192 : Int32) := own_nlt h1 (by decide)
  have q32 : (8203 : Int32) < x0 := own_gt h1 (by decide)
  have q33 : ¬ x0 < (8206 : Int32) := own_nlt h1 (by decide)
  have q34 : (8303 : Int32) < x0 := own_gt h1 (by decide)
  have q35 : ¬ x0 < (8592 : Int32) := own_nlt h1 (by decide)
  have q36 : (11263 : Int32) < x0 := own_gt h1 (by decide)
  have q37 : x0 < (12272 : Int32) := own_lt h2 (by decide)
  have q38 : x0 < (55296 : Int32) := own_lt h2 (by decide)
  have q39 : x0 < (64976 : Int32) := own_lt h2 (by decide)
  have q40 : ¬ x0 = (65534 : Int32) := own_ne2 h2 (by decide)
  have q41 : ¬ x0 = (65535 : Int32) := own_ne2 h2 (by decide)
  have e_g3_184_x : g3_184 x0 = (1 : Int32) := ((if_neg q40).trans (if_neg q41))
  have e_g3_170_x : g3_170 x0 = (1 : Int32) := ((if_pos q39).trans e_g3_184_x)
  have e_g3_156_x : g3_156 x0 = (1 : Int32) := ((if_pos q38).trans e_g3_170_x)
  have e_g3_140_x : g3_140 x0 = (1 : Int32) := ((if_pos q37).trans e_g3_156_x)
  have e_g3_124_x : g3_124 x0 = (1 : Int32) := ((if_neg q35).trans ((if_pos q36).trans e_g3_140_x))
  have e_g3_108_x : g3_108 x0 = (1 : Int32) := ((if_neg q33).trans ((if_pos q34).trans e_g3_124_x))
  have e_g3_83_x : g3_83 x0 = (1 : Int32) := ((if_neg q30).trans ((if_neg q31).trans ((if_pos q32).trans e_g3_108_x)))
  have e_g3_51_x : g3_51 x0 = (1 : Int32) := ((if_neg q26).trans ((if_neg q27).trans ((if_neg q28).trans ((if_pos q29).trans e_g3_83_x))))
  have e_g3_28_x : g3_28 x0 = (1 : Int32) := ((if_neg q23).trans ((if_neg q24).trans ((if_pos q25).trans e_g3_51_x)))
  have e_g3_0_x : g3_0 x0 = (1 : Int32) := ((if_neg q0).trans ((if_neg q20).trans ((if_neg q21).trans ((if_pos q22).trans e_g3_28_x))))
  have e_f3_x : f3 x0 = (1 : Int32) := e_g3_0_x
  rw [e_f1_x, e_f3_x]
theorem own_iv_56 (x0 : Int32) (h1 : (12272 : Int) ≤ x0.toInt) (h2 : x0.toInt < (12273 : Int)) : f1 x0 = f3 x0 := by
  have q0 : ¬ x0 < (65 : Int32) := own_nlt h1 (by decide)
  have q1 : (90 : Int32) < x0 := own_gt h1 (by decide)
  have q2 : ¬ x0 < (97 : Int32) := own_nlt h1 (by decide)
  have q3 : (122 : Int32) < x0 := own_gt h1 (by decide)
  have q4 : ¬ x0 < (192 : Int32) := own_nlt h1 (by decide)
  have q5 : (214 : Int32) < x0 := own_gt h1 (by decide)
  have q6 : ¬ x0 < (216 : Int32) := own_nlt h1 (by decide)
  have q7 : (246 : Int32) < x0 := own_gt h1 (by decide)
  have q8 : ¬ x0 < (248 : Int32) := own_nlt h1 (by decide)
  have q9 : (767 : Int32) < x0 := own_gt h1 (by decide)
  have q10 : ¬ x0 < (880 : Int32) := own_nlt h1 (by decide)
  have q11 : (893 : Int32) < x0 := own_gt h1 (by decide)
  have q12 : ¬ x0 < (895 : Int32) := own_nlt h1 (by decide)
  have q13 : (8191 : Int32) < x0 := own_gt h1 (by decide)
  have q14 : ¬ x0 < (8204 : Int32) := own_nlt h1 (by decide)
  have q15 : (8205 : Int32) < x0 := own_gt h1 (by decide)
  have q16 : ¬ x0 < (8304 : Int32) := own_nlt h1 (by decide)
  have q17 : (8591 : Int32) < x0 := own_gt h1 (by decide)
  have q18 : ¬ x0 < (11264 : Int32) := own_nlt h1 (by decide)
  have q19 : (12271 : Int32) < x0 := own_gt h1 (by decide)
  have q20 : x0 < (12289 : Int32) := own_lt h2 (by decide)
  have q21 : x0 < (63744 : Int32) := own_lt h2 (by decide)
  have q22 : x0 < (65008 : Int32) := own_lt h2 (by decide)
  have q23 : x0 < (65536 : Int32) := own_lt h2 (by decide)
  have e_g2_178_x : g2_178 x0 = (0 : Int32) := (if_pos q23)
  have e_g2_164_x : g2_164 x0 = (0 : Int32) := ((if_pos q22).trans e_g2_178_x)
  have e_g2_150_x : g2_150 x0 = (0 : Int32) := ((if_pos q21).trans e_g2_164_x)
  have e_g2_136_x : g2_136 x0 = (0 : Int32) := ((if_pos q20).trans e_g2_150_x)
  have e_g2_122_x : g2_122 x0 = (0 : Int32) := ((if_neg q18).trans ((if_pos q19).trans e_g2_136_x))
  have e_g2_108_x : g2_108 x0 = (0 : Int32) := ((if_neg q16).trans ((if_pos q17).trans e_g2_122_x))
  have e_g2_94_x : g2_94 x0 = (0 : Int32) := ((if_neg q14).trans ((if_pos q15).trans e_g2_108_x))
  have e_g2_80_x : g2_80 x0 = (0 : Int32) := ((if_neg q12).trans ((if_pos q13).trans e_g2_94_x))
  have e_g2_66_x : g2_66 x0 = (0 : Int32) := ((if_neg q10).trans ((if_pos q11).trans e_g2_80_x))
  have e_g2_52_x : g2_52 x0 = (0 : Int32) := ((if_neg q8).trans ((if_pos q9).trans e_g2_66_x))
  have e_g2_38_x : g2_38 x0 = (0 : Int32) := ((if_neg q6).trans ((if_pos q7).trans e_g2_52_x))
  have e_g2_24_x : g2_24 x0 = (0 : Int32) := ((if_neg q4).trans ((if_pos q5).trans e_g2_38_x))
  have e_g2_12_x : g2_12 x0 = (0 : Int32) := ((if_neg q2).trans ((if_pos q3).trans e_g2_24_x))
  have e_g2_0_x : g2_0 x0 = (0 : Int32) := ((if_neg q0).trans ((if_pos q1).trans e_g2_12_x))
  have e_f2_x : f2 x0 = (0 : Int32) := e_g2_0_x
  have q24 : ¬ x0 = (95 : Int32) := own_ne1 h1 (by decide)
  have e_g1_0_x : g1_0 x0 = (0 : Int32) := ((if_pos (by rw [e_f2_x])).trans (if_neg q24))
  have e_f1_x : f1 x0 = (0 : Int32) := e_g1_0_x
  have q25 : ¬ (983039 : Int32) < x0 := own_ngt h2 (by decide)
  have q26 : ¬ x0 < (91 : Int32) := own_nlt h1 (by decide)
  have q27 : (94 : Int32) < x0 := own_gt h1 (by decide)
  have q28 : ¬ x0 = (96 : Int32) := own_ne1 h1 (by decide)
  have q29 : ¬ x0 < (123 : Int32) := own_nlt h1 (by decide)
  have q30 : (191 : Int32) < x0 := own_gt h1 (by decide)
  have q31 : ¬ x0 = (215 : Int32) := own_ne1 h1 (by decide)
  have q32 : ¬ x0 = (247 : Int32) := own_ne1 h1 (by decide)
  have q33 : ¬ x0 < (768 : Int32) := own_nlt h1 (by decide)
  have q34 : (879 : Int32) < x0 := own_gt h1 (by decide)
  have q35 : ¬ x0 = (894 : Int32) := own_ne1 h1 (by decide)
  have q36 : ¬ x0 < (8192 : Int32) := own_nlt h1 (by decide)
  have q37 : (8203 : Int32) < x0 := own_gt h1 (by decide)
  have q38 : ¬ x0 < (8206 : Int32) := own_nlt h1 (by decide)
  have q39 : (8303 : Int32) < x0 := own_gt h1 (by decide)
  have q40 : ¬ x0 < (8592 : Int32) := own_nlt h1 (by decide)
  have q41 : (11263 : Int32) < x0 := own_gt h1 (by decide)
  have q42 : ¬ x0 < (12272 : Int32) := own_nlt h1 (by decide)
  have q43 : ¬ (12288 : Int32) < x0 := own_ngt h2 (by decide)
  have e_g3_140_x : g3_140 x0 = (0 : Int32) := ((if_neg q42).trans (if_neg q43))
  have e_g3_124_x : g3_124 x0 = (0 : Int32) := ((if_neg q40).trans ((if_pos q41).trans e_g3_140_x))
  have e_g3_108_x : g3_108 x0 = (0 : Int32) := ((if_neg q38).trans ((if_pos q39).trans e_g3_124_x))
  have e_g3_83_x : g3_83 x0 = (0 : Int32) := ((if_neg q35).trans ((if_neg q36).trans ((if_pos q37).trans e_g3_108_x)))
  have e_g3_51_x : g3_51 x0 = (0 : Int32) := ((if_neg q31).trans ((if_neg q32).trans ((if_neg q33).trans ((if_pos q34).trans e_g3_83_x))))
  have e_g3_28_x : g3_28 x0 = (0 : Int32) := ((if_neg q28).trans ((if_neg q29).trans ((if_pos q30).trans e_g3_51_x)))
  have e_g3_0_x : g3_0 x0 = (0 : Int32) := ((if_neg q0).trans ((if_neg q25).trans ((if_neg q26).trans ((if_pos q27).trans e_g3_28_x))))
  have e_f3_x : f3 x0 = (0 : Int32) := e_g3_0_x
  rw [e_f1_x, e_f3_x]
theorem own_iv_57 (x0 : Int32) (h1 : (12273 : Int) ≤ x0.toInt) (h2 : x0.toInt < (12288 : Int)) : f1 x0 = f3 x0 := by
  have q0 : ¬ x0 < (65 : Int32) := own_nlt h1 (by decide)
  have q1 : (90 : Int32) < x0 := own_gt h1 (by decide)
  have q2 : ¬ x0 < (97 : Int32) := own_nlt h1 (by decide)
  have q3 : (122 : Int32) < x0 := own_gt h1 (by decide)
  have q4 : ¬ x0 < (192 : Int32) := own_nlt h1 (by decide)
  have q5 : (214 : Int32) < x0 := own_gt h1 (by decide)
  have q6 : ¬ x0 < (216 : Int32) := own_nlt h1 (by decide)
  have q7 : (246 : Int32) < x0 := own_gt h1 (by decide)
  have q8 : ¬ x0 < (248 : Int32) := own_nlt h1 (by decide)
  have q9 : (767 : Int32) < x0 := own_gt h1 (by decide)
  have q10 : ¬ x0 < (880 : Int32) := own_nlt h1 (by decide)
  have q11 : (893 : Int32) < x0 := own_gt h1 (by decide)
  have q12 : ¬ x0 < (895 : Int32) := own_nlt h1 (by decide)
  have q13 : (8191 : Int32) < x0 := own_gt h1 (by decide)
  have q14 : ¬ x0 < (8204 : Int32) := own_nlt h1 (by decide)
  have q15 : (8205 : Int32) < x0 := own_gt h1 (by decide)
  have q16 : ¬ x0 < (8304 : Int32) := own_nlt h1 (by decide)
  have q17 : (8591 : Int32) < x0 := own_gt h1 (by decide)
  have q18 : ¬ x0 < (11264 : Int32) := own_nlt h1 (by decide)
  have q19 : (12271 : Int32) < x0 := own_gt h1 (by decide)
  have q20 : x0 < (12289 : Int32) := own_lt h2 (by decide)
  have q21 : x0 < (63744 : Int32) := own_lt h2 (by decide)
  have q22 : x0 < (65008 : Int32) := own_lt h2 (by decide)
  have q23 : x0 < (65536 : Int32) := own_lt h2 (by decide)
  have e_g2_178_x : g2_178 x0 = (0 : Int32) := (if_pos q23)
  have e_g2_164_x : g2_164 x0 = (0 : Int32) := ((if_pos q22).trans e_g2_178_x)
  have e_g2_150_x : g2_150 x0 = (0 : Int32) := ((if_pos q21).trans e_g2_164_x)
  have e_g2_136_x : g2_136 x0 = (0 : Int32) := ((if_pos q20).trans e_g2_150_x)
  have e_g2_122_x : g2_122 x0 = (0 : Int32) := ((if_neg q18).trans ((if_pos q19).trans e_g2_136_x))
  have e_g2_108_x : g2_108 x0 = (0 : Int32) := ((if_neg q16).trans ((if_pos q17).trans e_g2_122_x))
  have e_g2_94_x : g2_94 x0 = (0 : Int32) := ((if_neg q14).trans ((if_pos q15).trans e_g2_108_x))
  have e_g2_80_x : g2_80 x0 = (0 : Int32) := ((if_neg q12).trans ((if_pos q13).trans e_g2_94_x))
  have e_g2_66_x : g2_66 x0 = (0 : Int32) := ((if_neg q10).trans ((if_pos q11).trans e_g2_80_x))
  have e_g2_52_x : g2_52 x0 = (0 : Int32) := ((if_neg q8).trans ((if_pos q9).trans e_g2_66_x))
  have e_g2_38_x : g2_38 x0 = (0 : Int32) := ((if_neg q6).trans ((if_pos q7).trans e_g2_52_x))
  have e_g2_24_x : g2_24 x0 = (0 : Int32) := ((if_neg q4).trans ((if_pos q5).trans e_g2_38_x))
  have e_g2_12_x : g2_12 x0 = (0 : Int32) := ((if_neg q2).trans ((if_pos q3).trans e_g2_24_x))
  have e_g2_0_x : g2_0 x0 = (0 : Int32) := ((if_neg q0).trans ((if_pos q1).trans e_g2_12_x))
  have e_f2_x : f2 x0 = (0 : Int32) := e_g2_0_x
  have q24 : ¬ x0 = (95 : Int32) := own_ne1 h1 (by decide)
  have e_g1_0_x : g1_0 x0 = (0 : Int32) := ((if_pos (by rw [e_f2_x])).trans (if_neg q24))
  have e_f1_x : f1 x0 = (0 : Int32) := e_g1_0_x
  have q25 : ¬ (983039 : Int32) < x0 := own_ngt h2 (by decide)
  have q26 : ¬ x0 < (91 : Int32) := own_nlt h1 (by decide)
  have q27 : (94 : Int32) < x0 := own_gt h1 (by decide)
  have q28 : ¬ x0 = (96 : Int32) := own_ne1 h1 (by decide)
  have q29 : ¬ x0 < (123 : Int32) := own_nlt h1 (by decide)
  have q30 : (191 : Int32) < x0 := own_gt h1 (by decide)
  have q31 : ¬ x0 = (215 : Int32) := own_ne1 h1 (by decide)
  have q32 : ¬ x0 = (247 : Int32) := own_ne1 h1 (by decide)
  have q33 : ¬ x0 < (768 : Int32) := own_nlt h1 (by decide)
  have q34 : (879 : Int32) < x0 := own_gt h1 (by decide)
  have q35 : ¬ x0 = (894 : Int32) := own_ne1 h1 (by decide)
  have q36 : ¬ x0 < (8192 : Int32) := own_nlt h1 (by decide)
  have q37 : (8203 : Int32) < x0 := own_gt h1 (by decide)
  have q38 : ¬ x0 < (8206 : Int32) := own_nlt h1 (by decide)
  have q39 : (8303 : Int32) < x0 := own_gt h1 (by decide)
  have q40 : ¬ x0 < (8592 : Int32) := own_nlt h1 (by decide)
  have q41 : (11263 : Int32) < x0 := own_gt h1 (by decide)
  have q42 : ¬ x0 < (12272 : Int32) := own_nlt h1 (by decide)
  have q43 : ¬ (12288 : Int32) < x0 := own_ngt h2 (by decide)
  have e_g3_140_x : g3_140 x0 = (0 : Int32) := ((if_neg q42).trans (if_neg q43))
  have e_g3_124_x : g3_124 x0 = (0 : Int32) := ((if_neg q40).trans ((if_pos q41).trans e_g3_140_x))
  have e_g3_108_x : g3_108 x0 = (0 : Int32) := ((if_neg q38).trans ((if_pos q39).trans e_g3_124_x))
  have e_g3_83_x : g3_83 x0 = (0 : Int32) := ((if_neg q35).trans ((if_neg q36).trans ((if_pos q37).trans e_g3_108_x)))
  have e_g3_51_x : g3_51 x0 = (0 : Int32) := ((if_neg q31).trans ((if_neg q32).trans ((if_neg q33).trans ((if_pos q34).trans e_g3_83_x))))
  have e_g3_28_x : g3_28 x0 = (0 : Int32) := ((if_neg q28).trans ((if_neg q29).trans ((if_pos q30).trans e_g3_51_x)))
  have e_g3_0_x : g3_0 x0 = (0 : Int32) := ((if_neg q0).trans ((if_neg q25).trans ((if_neg q26).trans ((if_pos q27).trans e_g3_28_x))))
  have e_f3_x : f3 x0 = (0 : Int32) := e_g3_0_x
  rw [e_f1_x, e_f3_x]
theorem own_iv_58 (x0 : Int32) (h1 : (12288 : Int) ≤ x0.toInt) (h2 : x0.toInt < (12289 : Int)) : f1 x0 = f3 x0 := by
  have q0 : ¬ x0 < (65 : Int32) := own_nlt h1 (by decide)
  have q1 : (90 : Int32) < x0 := own_gt h1 (by decide)
  have q2 : ¬ x0 < (97 : Int32) := own_nlt h1 (by decide)
  have q3 : (122 : Int32) < x0 := own_gt h1 (by decide)
  have q4 : ¬ x0 < (192 : Int32) := own_nlt h1 (by decide)
  have q5 : (214 : Int32) < x0 := own_gt h1 (by decide)
  have q6 : ¬ x0 < (216 : Int32) := own_nlt h1 (by decide)
  have q7 : (246 : Int32) < x0 := own_gt h1 (by decide)
  have q8 : ¬ x0 < (248 : Int32) := own_nlt h1 (by decide)
  have q9 : (767 : Int32) < x0 := own_gt h1 (by decide)
  have q10 : ¬ x0 < (880 : Int32) := own_nlt h1 (by decide)
  have q11 : (893 : Int32) < x0 := own_gt h1 (by decide)
  have q12 : ¬ x0 < (895 : Int32) := own_nlt h1 (by decide)
  have q13 : (8191 : Int32) < x0 := own_gt h1 (by decide)
  have q14 : ¬ x0 < (8204 : Int32) := own_nlt h1 (by decide)
  have q15 : (8205 : Int32) < x0 := own_gt h1 (by decide)
  have q16 : ¬ x0 < (8304 : Int32) := own_nlt h1 (by decide)
  have q17 : (8591 : Int32) < x0 := own_gt h1 (by decide)
  have q18 : ¬ x0 < (11264 : Int32) := own_nlt h1 (by decide)
  have q19 : (12271 : Int32) < x0 := own_gt h1 (by decide)
  have q20 : x0 < (12289 : Int32) := own_lt h2 (by decide)
  have q21 : x0 < (63744 : Int32) := own_lt h2 (by decide)
  have q22 : x0 < (65008 : Int32) := own_lt h2 (by decide)
  have q23 : x0 < (65536 : Int32) := own_lt h2 (by decide)
  have e_g2_178_x : g2_178 x0 = (0 : Int32) := (if_pos q23)
  have e_g2_164_x : g2_164 x0 = (0 : Int32) := ((if_pos q22).trans e_g2_178_x)
  have e_g2_150_x : g2_150 x0 = (0 : Int32) := ((if_pos q21).trans e_g2_164_x)
  have e_g2_136_x : g2_136 x0 = (0 : Int32) := ((if_pos q20).trans e_g2_150_x)
  have e_g2_122_x : g2_122 x0 = (0 : Int32) := ((if_neg q18).trans ((if_pos q19).trans e_g2_136_x))
  have e_g2_108_x : g2_108 x0 = (0 : Int32) := ((if_neg q16).trans ((if_pos q17).trans e_g2_122_x))
  have e_g2_94_x : g2_94 x0 = (0 : Int32) := ((if_neg q14).trans ((if_pos q15).trans e_g2_108_x))
  have e_g2_80_x : g2_80 x0 = (0 : Int32) := ((if_neg q12).trans ((if_pos q13).trans e_g2_94_x))
  have e_g2_66_x : g2_66 x0 = (0 : Int32) := ((if_neg q10).trans ((if_pos q11).trans e_g2_80_x))
  have e_g2_52_x : g2_52 x0 = (0 : Int32) := ((if_neg q8).trans ((if_pos q9).trans e_g2_66_x))
  have e_g2_38_x : g2_38 x0 = (0 : Int32) := ((if_neg q6).trans ((if_pos q7).trans e_g2_52_x))
  have e_g2_24_x : g2_24 x0 = (0 : Int32) := ((if_neg q4).trans ((if_pos q5).trans e_g2_38_x))
  have e_g2_12_x : g2_12 x0 = (0 : Int32) := ((if_neg q2).trans ((if_pos q3).trans e_g2_24_x))
  have e_g2_0_x : g2_0 x0 = (0 : Int32) := ((if_neg q0).trans ((if_pos q1).trans e_g2_12_x))
  have e_f2_x : f2 x0 = (0 : Int32) := e_g2_0_x
  have q24 : ¬ x0 = (95 : Int32) := own_ne1 h1 (by decide)
  have e_g1_0_x : g1_0 x0 = (0 : Int32) := ((if_pos (by rw [e_f2_x])).trans (if_neg q24))
  have e_f1_x : f1 x0 = (0 : Int32) := e_g1_0_x
  have q25 : ¬ (983039 : Int32) < x0 := own_ngt h2 (by decide)
  have q26 : ¬ x0 < (91 : Int32) := own_nlt h1 (by decide)
  have q27 : (94 : Int32) < x0 := own_gt h1 (by decide)
  have q28 : ¬ x0 = (96 : Int32) := own_ne1 h1 (by decide)
  have q29 : ¬ x0 < (123 : Int32) := own_nlt h1 (by decide)
  have q30 : (191 : Int32) < x0 := own_gt h1 (by decide)
  have q31 : ¬ x0 = (215 : Int32) := own_ne1 h1 (by decide)
  have q32 : ¬ x0 = (247 : Int32) := own_ne1 h1 (by decide)
  have q33 : ¬ x0 < (768 : Int32) := own_nlt h1 (by decide)
  have q34 : (879 : Int32) < x0 := own_gt h1 (by decide)
  have q35 : ¬ x0 = (894 : Int32) := own_ne1 h1 (by decide)
  have q36 : ¬ x0 < (8192 : Int32) := own_nlt h1 (by decide)
  have q37 : (8203 : Int32) < x0 := own_gt h1 (by decide)
  have q38 : ¬ x0 < (8206 : Int32) := own_nlt h1 (by decide)
  have q39 : (8303 : Int32) < x0 := own_gt h1 (by decide)
  have q40 : ¬ x0 < (8592 : Int32) := own_nlt h1 (by decide)
  have q41 : (11263 : Int32) < x0 := own_gt h1 (by decide)
  have q42 : ¬ x0 < (12272 : Int32) := own_nlt h1 (by decide)
  have q43 : ¬ (12288 : Int32) < x0 := own_ngt h2 (by decide)
  have e_g3_140_x : g3_140 x0 = (0 : Int32) := ((if_neg q42).trans (if_neg q43))
  have e_g3_124_x : g3_124 x0 = (0 : Int32) := ((if_neg q40).trans ((if_pos q41).trans e_g3_140_x))
  have e_g3_108_x : g3_108 x0 = (0 : Int32) := ((if_neg q38).trans ((if_pos q39).trans e_g3_124_x))
  have e_g3_83_x : g3_83 x0 = (0 : Int32) := ((if_neg q35).trans ((if_neg q36).trans ((if_pos q37).trans e_g3_108_x)))
  have e_g3_51_x : g3_51 x0 = (0 : Int32) := ((if_neg q31).trans ((if_neg q32).trans ((if_neg q33).trans ((if_pos q34).trans e_g3_83_x))))
  have e_g3_28_x : g3_28 x0 = (0 : Int32) := ((if_neg q28).trans ((if_neg q29).trans ((if_pos q30).trans e_g3_51_x)))
  have e_g3_0_x : g3_0 x0 = (0 : Int32) := ((if_neg q0).trans ((if_neg q25).trans ((if_neg q26).trans ((if_pos q27).trans e_g3_28_x))))
  have e_f3_x : f3 x0 = (0 : Int32) := e_g3_0_x
  rw [e_f1_x, e_f3_x]
theorem own_iv_59 (x0 : Int32) (h1 : (12289 : Int) ≤ x0.toInt) (h2 : x0.toInt < (12290 : Int)) : f1 x0 = f3 x0 := by
  have q0 : ¬ x0 < (65 : Int32) := own_nlt h1 (by decide)
  have q1 : (90 : Int32) < x0 := own_gt h1 (by decide)
  have q2 : ¬ x0 < (97 : Int32) := own_nlt h1 (by decide)
  have q3 : (122 : Int32) < x0 := own_gt h1 (by decide)
  have q4 : ¬ x0 < (192 : Int32) := own_nlt h1 (by decide)
  have q5 : (214 : Int32) < x0 := own_gt h1 (by decide)
  have q6 : ¬ x0 < (216 : Int32) := own_nlt h1 (by decide)
  have q7 : (246 : Int32) < x0 := own_gt h1 (by decide)
  have q8 : ¬ x0 < (248 : Int32) := own_nlt h1 (by decide)
  have q9 : (767 : Int32) < x0 := own_gt h1 (by decide)
  have q10 : ¬ x0 < (880 : Int32) := own_nlt h1 (by decide)
  have q11 : (893 : Int32) < x0 := own_gt h1 (by decide)
  have q12 : ¬ x0 < (895 : Int32) := own_nlt h1 (by decide)
  have q13 : (8191 : Int32) < x0 := own_gt h1 (by decide)
  have q14 : ¬ x0 < (8204 : Int32) := own_nlt h1 (by decide)
  have q15 : (8205 : Int32) < x0 := own_gt h1 (by decide)
  have q16 : ¬ x0 < (8304 : Int32) := own_nlt h1 (by decide)
  have q17 : (8591 : Int32) < x0 := own_gt h1 (by decide)
  have q18 : ¬ x0 < (11264 : Int32) := own_nlt h1 (by decide)
  have q19 : (12271 : Int32) < x0 := own_gt h1 (by decide)
  have q20 : ¬ x0 < (12289 : Int32) := own_nlt h1 (by decide)
  have q21 : ¬ (55295 : Int32) < x0 := own_ngt h2 (by decide)
  have e_g2_136_x : g2_136 x0 = (1 : Int32) := ((if_neg q20).trans (if_neg q21))
  have e_g2_122_x : g2_122 x0 = (1 : Int32) := ((if_neg q18).trans ((if_pos q19).trans e_g2_136_x))
  have e_g2_108_x : g2_108 x0 = (1 : Int32) := ((if_neg q16).trans ((if_pos q17).trans e_g2_122_x))
  have e_g2_94_x : g2_94 x0 = (1 : Int32) := ((if_neg q14).trans ((if_pos q15).trans e_g2_108_x))
  have e_g2_80_x : g2_80 x0 = (1 : Int32) := ((if_neg q12).trans ((if_pos q13).trans e_g2_94_x))
  have e_g2_66_x : g2_66 x0 = (1 : Int32) := ((if_neg q10).trans ((if_pos q11).trans e_g2_80_x))
  have e_g2_52_x : g2_52 x0 = (1 : Int32) := ((if_neg q8).trans ((if_pos q9).trans e_g2_66_x))
  have e_g2_38_x : g2_38 x0 = (1 : Int32) := ((if_neg q6).trans ((if_pos q7).trans e_g2_52_x))
  have e_g2_24_x : g2_24 x0 = (1 : Int32) := ((if_neg q4).trans ((if_pos q5).trans e_g2_38_x))
  have e_g2_12_x : g2_12 x0 = (1 : Int32) := ((if_neg q2).trans ((if_pos q3).trans e_g2_24_x))
  have e_g2_0_x : g2_0 x0 = (1 : Int32) := ((if_neg q0).trans ((if_pos q1).trans e_g2_12_x))
  have e_f2_x : f2 x0 = (1 : Int32) := e_g2_0_x
  have e_g1_0_x : g1_0 x0 = (1 : Int32) := (if_neg (by rw [e_f2_x]; decide))
  have e_f1_x : f1 x0 = (1 : Int32) := e_g1_0_x
  have q22 : ¬ (983039 : Int32) < x0 := own_ngt h2 (by decide)
  have q23 : ¬ x0 < (91 : Int32) := own_nlt h1 (by decide)
  have q24 : (94 : Int32) < x0 := own_gt h1 (by decide)
  have q25 : ¬ x0 = (96 : Int32) := own_ne1 h1 (by decide)
  have q26 : ¬ x0 < (123 : Int32) := own_nlt h1 (by decide)
  have q27 : (191 : Int32) < x0 := own_gt h1 (by decide)
  have q28 : ¬ x0 = (215 : Int32) := own_ne1 h1 (by decide)
  have q29 : ¬ x0 = (247 : Int32) := own_ne1 h1 (by decide)
  have q30 : ¬ x0 < (768 : Int32) := own_nlt h1 (by decide)
  have q31 : (879 : Int32) < x0 := own_gt h1 (by decide)
  have q32 : ¬ x0 = (894 : Int32) := own_ne1 h1 (by decide)
  have q33 : ¬ x0 < (8192 : Int32) := own_nlt h1 (by decide)
  have q34 : (8203 : Int32) < x0 := own_gt h1 (by decide)
  have q35 : ¬ x0 < (8206 : Int32) := own_nlt h1 (by decide)
  have q36 : (8303 : Int32) < x0 := own_gt h1 (by decide)
  have q37 : ¬ x0 < (8592 : Int32) := own_nlt h1 (by decide)
  have q38 : (11263 : Int32) < x0 := own_gt h1 (by decide)
  have q39 : ¬ x0 < (12272 : Int32) := own_nlt h1 (by decide)
  have q40 : (12288 : Int32) < x0 := own_gt h1 (by decide)
  have q41 : x0 < (55296 : Int32) := own_lt h2 (by decide)
  have q42 : x0 < (64976 : Int32) := own_lt h2 (by decide)
  have q43 : ¬ x0 = (65534 : Int32) := own_ne2 h2 (by decide)
  have q44 : ¬ x0 = (65535 : Int32) := own_ne2 h2 (by decide)
  have e_g3_184_x : g3_184 x0 = (1 : Int32) := ((if_neg q43).trans (if_neg q44))
  have e_g3_170_x : g3_170 x0 = (1 : Int32) := ((if_pos q42).trans e_g3_184_x)
  have e_g3_156_x : g3_156 x0 = (1 : Int32) := ((if_pos q41).trans e_g3_170_x)
  have e_g3_140_x : g3_140 x0 = (1 : Int32) := ((if_neg q39).trans ((if_pos q40).trans e_g3_156_x))
  have e_g3_124_x : g3_124 x0 = (1 : Int32) := ((if_neg q37).trans ((if_pos q38).trans e_g3_140_x))
  have e_g3_108_x : g3_108 x0 = (1 : Int32) := ((if_neg q35).trans ((if_pos q36).trans e_g3_124_x))
  have e_g3_83_x : g3_83 x0 = (1 : Int32) := ((if_neg q32).trans ((if_neg q33).trans ((if_pos q34).trans e_g3_108_x)))
  have e_g3_51_x : g3_51 x0 = (1 : Int32) := ((if_neg q28).trans ((if_neg q29).trans ((if_neg q30).trans ((if_pos q31).trans e_g3_83_x))))
  have e_g3_28_x : g3_28 x0 = (1 : Int32) := ((if_neg q25).trans ((if_neg q26).trans ((if_pos q27).trans e_g3_51_x)))
  have e_g3_0_x : g3_0 x0 = (1 : Int32) := ((if_neg q0).trans ((if_neg q22).trans ((if_neg q23).trans ((if_pos q24).trans e_g3_28_x))))
  have e_f3_x : f3 x0 = (1 : Int32) := e_g3_0_x
  rw [e_f1_x, e_f3_x]
theorem own_iv_60 (x0 : Int32) (h1 : (12290 : Int) ≤ x0.toInt) (h2 : x0.toInt < (55295 : Int)) : f1 x0 = f3 x0 := by
  have q0 : ¬ x0 < (65 : Int32) := own_nlt h1 (by decide)
  have q1 : (90 : Int32) < x0 := own_gt h1 (by decide)
  have q2 : ¬ x0 < (97 : Int32) := own_nlt h1 (by decide)
  have q3 : (122 : Int32) < x0 := own_gt h1 (by decide)
  have q4 : ¬ x0 < (192 : Int32) := own_nlt h1 (by decide)
  have q5 : (214 : Int32) < x0 := own_gt h1 (by decide)
  have q6 : ¬ x0 < (216 : Int32) := own_nlt h1 (by decide)
  have q7 : (246 : Int32) < x0 := own_gt h1 (by decide)
  have q8 : ¬ x0 < (248 : Int32) := own_nlt h1 (by decide)
  have q9 : (767 : Int32) < x0 := own_gt h1 (by decide)
  have q10 : ¬ x0 < (880 : Int32) := own_nlt h1 (by decide)
  have q11 : (893 : Int32) < x0 := own_gt h1 (by decide)
  have q12 : ¬ x0 < (895 : Int32) := own_nlt h1 (by decide)
  have q13 : (8191 : Int32) < x0 := own_gt h1 (by decide)
  have q14 : ¬ x0 < (8204 : Int32) := own_nlt h1 (by decide)
  have q15 : (8205 : Int32) < x0 := own_gt h1 (by decide)
  have q16 : ¬ x0 < (8304 : Int32) := own_nlt h1 (by decide)
  have q17 : (8591 : Int32) < x0 := own_gt h1 (by decide)
  have q18 : ¬ x0 < (11264 : Int32) := own_nlt h1 (by decide)
  have q19 : (12271 : Int32) < x0 := own_gt h1 (by decide)
  have q20 : ¬ x0 < (12289 : Int32) := own_nlt h1 (by decide)
  have q21 : ¬ (55295 : Int32) < x0 := own_ngt h2 (by decide)
  have e_g2_136_x : g2_136 x0 = (1 : Int32) := ((if_neg q20).trans (if_neg q21))
  have e_g2_122_x : g2_122 x0 = (1 : Int32) := ((if_neg q18).trans ((if_pos q19).trans e_g2_136_x))
  have e_g2_108_x : g2_108 x0 = (1 : Int32) := ((if_neg q16).trans ((if_pos q17).trans e_g2_122_x))
  have e_g2_94_x : g2_94 x0 = (1 : Int32) := ((if_neg q14).trans ((if_pos q15).trans e_g2_108_x))
  have e_g2_80_x : g2_80 x0 = (1 : Int32) := ((if_neg q12).trans ((if_pos q13).trans e_g2_94_x))
  have e_g2_66_x : g2_66 x0 = (1 : Int32) := ((if_neg q10).trans ((if_pos q11).trans e_g2_80_x))
  have e_g2_52_x : g2_52 x0 = (1 : Int32) := ((if_neg q8).trans ((if_pos q9).trans e_g2_66_x))
  have e_g2_38_x : g2_38 x0 = (1 : Int32) := ((if_neg q6).trans ((if_pos q7).trans e_g2_52_x))
  have e_g2_24_x : g2_24 x0 = (1 : Int32) := ((if_neg q4).trans ((if_pos q5).trans e_g2_38_x))
  have e_g2_12_x : g2_12 x0 = (1 : Int32) := ((if_neg q2).trans ((if_pos q3).trans e_g2_24_x))
  have e_g2_0_x : g2_0 x0 = (1 : Int32) := ((if_neg q0).trans ((if_pos q1).trans e_g2_12_x))
  have e_f2_x : f2 x0 = (1 : Int32) := e_g2_0_x
  have e_g1_0_x : g1_0 x0 = (1 : Int32) := (if_neg (by rw [e_f2_x]; decide))
  have e_f1_x : f1 x0 = (1 : Int32) := e_g1_0_x
  have q22 : ¬ (983039 : Int32) < x0 := own_ngt h2 (by decide)
  have q23 : ¬ x0 < (91 : Int32) := own_nlt h1 (by decide)
  have q24 : (94 : Int32) < x0 := own_gt h1 (by decide)
  have q25 : ¬ x0 = (96 : Int32) := own_ne1 h1 (by decide)
  have q26 : ¬ x0 < (123 : Int32) := own_nlt h1 (by decide)
  have q27 : (191 : Int32) < x0 := own_gt h1 (by decide)
  have q28 : ¬ x0 = (215 : Int32) := own_ne1 h1 (by decide)
  have q29 : ¬ x0 = (247 : Int32) := own_ne1 h1 (by decide)
  have q30 : ¬ x0 < (768 : Int32) := own_nlt h1 (by decide)
  have q31 : (879 : Int32) < x0 := own_gt h1 (by decide)
  have q32 : ¬ x0 = (894 : Int32) := own_ne1 h1 (by decide)
  have q33 : ¬ x0 < (8192 : Int32) := own_nlt h1 (by decide)
  have q34 : (8203 : Int32) < x0 := own_gt h1 (by decide)
  have q35 : ¬ x0 < (8206 : Int32) := own_nlt h1 (by decide)
  have q36 : (8303 : Int32) < x0 := own_gt h1 (by decide)
  have q37 : ¬ x0 < (8592 : Int32) := own_nlt h1 (by decide)
  have q38 : (11263 : Int32) < x0 := own_gt h1 (by decide)
  have q39 : ¬ x0 < (12272 : Int32) := own_nlt h1 (by decide)
  have q40 : (12288 : Int32) < x0 := own_gt h1 (by decide)
  have q41 : x0 < (55296 : Int32) := own_lt h2 (by decide)
  have q42 : x0 < (64976 : Int32) := own_lt h2 (by decide)
  have q43 : ¬ x0 = (65534 : Int32) := own_ne2 h2 (by decide)
  have q44 : ¬ x0 = (65535 : Int32) := own_ne2 h2 (by decide)
  have e_g3_184_x : g3_184 x0 = (1 : Int32) := ((if_neg q43).trans (if_neg q44))
  have e_g3_170_x : g3_170 x0 = (1 : Int32) := ((if_pos q42).trans e_g3_184_x)
  have e_g3_156_x : g3_156 x0 = (1 : Int32) := ((if_pos q41).trans e_g3_170_x)
  have e_g3_140_x : g3_140 x0 = (1 : Int32) := ((if_neg q39).trans ((if_pos q40).trans e_g3_156_x))
  have e_g3_124_x : g3_124 x0 = (1 : Int32) := ((if_neg q37).trans ((if_pos q38).trans e_g3_140_x))
  have e_g3_108_x : g3_108 x0 = (1 : Int32) := ((if_neg q35).trans ((if_pos q36).trans e_g3_124_x))
  have e_g3_83_x : g3_83 x0 = (1 : Int32) := ((if_neg q32).trans ((if_neg q33).trans ((if_pos q34).trans e_g3_108_x)))
  have e_g3_51_x : g3_51 x0 = (1 : Int32) := ((if_neg q28).trans ((if_neg q29).trans ((if_neg q30).trans ((if_pos q31).trans e_g3_83_x))))
  have e_g3_28_x : g3_28 x0 = (1 : Int32) := ((if_neg q25).trans ((if_neg q26).trans ((if_pos q27).trans e_g3_51_x)))
  have e_g3_0_x : g3_0 x0 = (1 : Int32) := ((if_neg q0).trans ((if_neg q22).trans ((if_neg q23).trans ((if_pos q24).trans e_g3_28_x))))
  have e_f3_x : f3 x0 = (1 : Int32) := e_g3_0_x
  rw [e_f1_x, e_f3_x]
theorem own_iv_61 (x0 : Int32) (h1 : (55295 : Int) ≤ x0.toInt) (h2 : x0.toInt < (55296 : Int)) : f1 x0 = f3 x0 := by
  have q0 : ¬ x0 < (65 : Int32) := own_nlt h1 (by decide)
  have q1 : (90 : Int32) < x0 := own_gt h1 (by decide)
  have q2 : ¬ x0 < (97 : Int32) := own_nlt h1 (by decide)
  have q3 : (122 : Int32) < x0 := own_gt h1 (by decide)
  have q4 : ¬ x0 < (192 : Int32) := own_nlt h1 (by decide)
  have q5 : (214 : Int32) < x0 := own_gt h1 (by decide)
  have q6 : ¬ x0 < (216 : Int32) := own_nlt h1 (by decide)
  have q7 : (246 : Int32) < x0 := own_gt h1 (by decide)
  have q8 : ¬ x0 < (248 : Int32) := own_nlt h1 (by decide)
  have q9 : (767 : Int32) < x0 := own_gt h1 (by decide)
  have q10 : ¬ x0 < (880 : Int32) := own_nlt h1 (by decide)
  have q11 : (893 : Int32) < x0 := own_gt h1 (by decide)
  have q12 : ¬ x0 < (895 : Int32) := own_nlt h1 (by decide)
  have q13 : (8191 : Int32) < x0 := own_gt h1 (by decide)
  have q14 : ¬ x0 < (8204 : Int32) := own_nlt h1 (by decide)
  have q15 : (8205 : Int32) < x0 := own_gt h1 (by decide)
  have q16 : ¬ x0 < (8304 : Int32) := own_nlt h1 (by decide)
  have q17 : (8591 : Int32) < x0 := own_gt h1 (by decide)
  have q18 : ¬ x0 < (11264 : Int32) := own_nlt h1 (by decide)
  have q19 : (12271 : Int32) < x0 := own_gt h1 (by decide)
  have q20 : ¬ x0 < (12289 : Int32) := own_nlt h1 (by decide)
  have q21 : ¬ (55295 : Int32) < x0 := own_ngt h2 (by decide)
  have e_g2_136_x : g2_136 x0 = (1 : Int32) := ((if_neg q20).trans (if_neg q21))
  have e_g2_122_x : g2_122 x0 = (1 : Int32) := ((if_neg q18).trans ((if_pos q19).trans e_g2_136_x))
  have e_g2_108_x : g2_108 x0 = (1 : Int32) := ((if_neg q16).trans ((if_pos q17).trans e_g2_122_x))
  have e_g2_94_x : g2_94 x0 = (1 : Int32) := ((if_neg q14).trans ((if_pos q15).trans e_g2_108_x))
  have e_g2_80_x : g2_80 x0 = (1 : Int32) := ((if_neg q12).trans ((if_pos q13).trans e_g2_94_x))
  have e_g2_66_x : g2_66 x0 = (1 : Int32) := ((if_neg q10).trans ((if_pos q11).trans e_g2_80_x))
  have e_g2_52_x : g2_52 x0 = (1 : Int32) := ((if_neg q8).trans ((if_pos q9).trans e_g2_66_x))
  have e_g2_38_x : g2_38 x0 = (1 : Int32) := ((if_neg q6).trans ((if_pos q7).trans e_g2_52_x))
  have e_g2_24_x : g2_24 x0 = (1 : Int32) := ((if_neg q4).trans ((if_pos q5).trans e_g2_38_x))
  have e_g2_12_x : g2_12 x0 = (1 : Int32) := ((if_neg q2).trans ((if_pos q3).trans e_g2_24_x))
  have e_g2_0_x : g2_0 x0 = (1 : Int32) := ((if_neg q0).trans ((if_pos q1).trans e_g2_12_x))
  have e_f2_x : f2 x0 = (1 : Int32) := e_g2_0_x
  have e_g1_0_x : g1_0 x0 = (1 : Int32) := (if_neg (by rw [e_f2_x]; decide))
  have e_f1_x : f1 x0 = (1 : Int32) := e_g1_0_x
  have q22 : ¬ (983039 : Int32) < x0 := own_ngt h2 (by decide)
  have q23 : ¬ x0 < (91 : Int32) := own_nlt h1 (by decide)
  have q24 : (94 : Int32) < x0 := own_gt h1 (by decide)
  have q25 : ¬ x0 = (96 : Int32) := own_ne1 h1 (by decide)
  have q26 : ¬ x0 < (123 : Int32) := own_nlt h1 (by decide)
  have q27 : (191 : Int32) < x0 := own_gt h1 (by decide)
  have q28 : ¬ x0 = (215 : Int32) := own_ne1 h1 (by decide)
  have q29 : ¬ x0 = (247 : Int32) := own_ne1 h1 (by decide)
  have q30 : ¬ x0 < (768 : Int32) := own_nlt h1 (by decide)
  have q31 : (879 : Int32) < x0 := own_gt h1 (by decide)
  have q32 : ¬ x0 = (894 : Int32) := own_ne1 h1 (by decide)
  have q33 : ¬ x0 < (8192 : Int32) := own_nlt h1 (by decide)
  have q34 : (8203 : Int32) < x0 := own_gt h1 (by decide)
  have q35 : ¬ x0 < (8206 : Int32) := own_nlt h1 (by decide)
  have q36 : (8303 : Int32) < x0 := own_gt h1 (by decide)
  have q37 : ¬ x0 < (8592 : Int32) := own_nlt h1 (by decide)
  have q38 : (11263 : Int32) < x0 := own_gt h1 (by decide)
  have q39 : ¬ x0 < (12272 : Int32) := own_nlt h1 (by decide)
  have q40 : (12288 : Int32) < x0 := own_gt h1 (by decide)
  have q41 : x0 < (55296 : Int32) := own_lt h2 (by decide)
  have q42 : x0 < (64976 : Int32) := own_lt h2 (by decide)
  have q43 : ¬ x0 = (65534 : Int32) := own_ne2 h2 (by decide)
  have q44 : ¬ x0 = (65535 : Int32) := own_ne2 h2 (by decide)
  have e_g3_184_x : g3_184 x0 = (1 : Int32) := ((if_neg q43).trans (if_neg q44))
  have e_g3_170_x : g3_170 x0 = (1 : Int32) := ((if_pos q42).trans e_g3_184_x)
  have e_g3_156_x : g3_156 x0 = (1 : Int32) := ((if_pos q41).trans e_g3_170_x)
  have e_g3_140_x : g3_140 x0 = (1 : Int32) := ((if_neg q39).trans ((if_pos q40).trans e_g3_156_x))
  have e_g3_124_x : g3_124 x0 = (1 : Int32) := ((if_neg q37).trans ((if_pos q38).trans e_g3_140_x))
  have e_g3_108_x : g3_108 x0 = (1 : Int32) := ((if_neg q35).trans ((if_pos q36).trans e_g3_124_x))
  have e_g3_83_x : g3_83 x0 = (1 : Int32) := ((if_neg q32).trans ((if_neg q33).trans ((if_pos q34).trans e_g3_108_x)))
  have e_g3_51_x : g3_51 x0 = (1 : Int32) := ((if_neg q28).trans ((if_neg q29).trans ((if_neg q30).trans ((if_pos q31).trans e_g3_83_x))))
  have e_g3_28_x : g3_28 x0 = (1 : Int32) := ((if_neg q25).trans ((if_neg q26).trans ((if_pos q27).trans e_g3_51_x)))
  have e_g3_0_x : g3_0 x0 = (1 : Int32) := ((if_neg q0).trans ((if_neg q22).trans ((if_neg q23).trans ((if_pos q24).trans e_g3_28_x))))
  have e_f3_x : f3 x0 = (1 : Int32) := e_g3_0_x
  rw [e_f1_x, e_f3_x]
theorem own_iv_62 (x0 : Int32) (h1 : (55296 : Int) ≤ x0.toInt) (h2 : x0.toInt < (55297 : Int)) : f1 x0 = f3 x0 := by
  have q0 : ¬ x0 < (65 : Int32) := own_nlt h1 (by decide)
  have q1 : (90 : Int32) < x0 := own_gt h1 (by decide)
  have q2 : ¬ x0 < (97 : Int32) := own_nlt h1 (by decide)
  have q3 : (122 : Int32) < x0 := own_gt h1 (by decide)
  have q4 : ¬ x0 < (192 : Int32) := own_nlt h1 (by decide)
  have q5 : (214 : Int32) < x0 := own_gt h1 (by decide)
  have q6 : ¬ x0 < (216 : Int32) := own_nlt h1 (by decide)
  have q7 : (246 : Int32) < x0 := own_gt h1 (by decide)
  have q8 : ¬ x0 < (248 : Int32) := own_nlt h1 (by decide)
  have q9 : (767 : Int32) < x0 := own_gt h1 (by decide)
  have q10 : ¬ x0 < (880 : Int32) := own_nlt h1 (by decide)
  have q11 : (893 : Int32) < x0 := own_gt h1 (by decide)
  have q12 : ¬ x0 < (895 : Int32) := own_nlt h1 (by decide)
  have q13 : (8191 : Int32) < x0 := own_gt h1 (by decide)
  have q14 : ¬ x0 < (8204 : Int32) := own_nlt h1 (by decide)
  have q15 : (8205 : Int32) < x0 := own_gt h1 (by decide)
  have q16 : ¬ x0 < (8304 : Int32) := own_nlt h1 (by decide)
  have q17 : (8591 : Int32) < x0 := own_gt h1 (by decide)
  have q18 : ¬ x0 < (11264 : Int32) := own_nlt h1 (by decide)
  have q19 : (12271 : Int32) < x0 := own_gt h1 (by decide)
  have q20 : ¬ x0 < (12289 : Int32) := own_nlt h1 (by decide)
  have q21 : (55295 : Int32) < x0 := own_gt h1 (by decide)
  have q22 : x0 < (63744 : Int32) := own_lt h2 (by decide)
  have q23 : x0 < (65008 : Int32) := own_lt h2 (by decide)
  have q24 : x0 < (65536 : Int32) := own_lt h2 (by decide)
  have e_g2_178_x : g2_178 x0 = (0 : Int32) := (if_pos q24)
  have e_g2_164_x : g2_164 x0 = (0 : Int32) := ((if_pos q23).trans e_g2_178_x)
  have e_g2_150_x : g2_150 x0 = (0 : Int32) := ((if_pos q22).trans e_g2_164_x)
  have e_g2_136_x : g2_136 x0 = (0 : Int32) := ((if_neg q20).trans ((if_pos q21).trans e_g2_150_x))
  have e_g2_122_x : g2_122 x0 = (0 : Int32) := ((if_neg q18).trans ((if_pos q19).trans e_g2_136_x))
  have e_g2_108_x : g2_108 x0 = (0 : Int32) := ((if_neg q16).trans ((if_pos q17).trans e_g2_122_x))
  have e_g2_94_x : g2_94 x0 = (0 : Int32) := ((if_neg q14).trans ((if_pos q15).trans e_g2_108_x))
  have e_g2_80_x : g2_80 x0 = (0 : Int32) := ((if_neg q12).trans ((if_pos q13).trans e_g2_94_x))
  have e_g2_66_x : g2_66 x0 = (0 : Int32) := ((if_neg q10).trans ((if_pos q11).trans e_g2_80_x))
  have e_g2_52_x : g2_52 x0 = (0 : Int32) := ((if_neg q8).trans ((if_pos q9).trans e_g2_66_x))
  have e_g2_38_x : g2_38 x0 = (0 : Int32) := ((if_neg q6).trans ((if_pos q7).trans e_g2_52_x))
  have e_g2_24_x : g2_24 x0 = (0 : Int32) := ((if_neg q4).trans ((if_pos q5).trans e_g2_38_x))
  have e_g2_12_x : g2_12 x0 = (0 : Int32) := ((if_neg q2).trans ((if_pos q3).trans e_g2_24_x))
  have e_g2_0_x : g2_0 x0 = (0 : Int32) := ((if_neg q0).trans ((if_pos q1).trans e_g2_12_x))
  have e_f2_x : f2 x0 = (0 : Int32) := e_g2_0_x
  have q25 : ¬ x0 = (95 : Int32) := own_ne1 h1 (by decide)
  have e_g1_0_x : g1_0 x0 = (0 : Int32) := ((if_pos (by rw [e_f2_x])).trans (if_neg q25))
  have e_f1_x : f1 x0 = (0 : Int32) := e_g1_0_x
  have q26 : ¬ (983039 : Int32) < x0 := own_ngt h2 (by decide)
  have q27 : ¬ x0 < (91 : Int32) := own_nlt h1 (by decide)
  have q28 : (94 : Int32) < x0 := own_gt h1 (by decide)
  have q29 : ¬ x0 = (96 : Int32) := own_ne1 h1 (by decide)
  have q30 : ¬ x0 < (123 : Int32) := own_nlt h1 (by decide)
  have q31 : (191 : Int32) < x0 := own_gt h1 (by decide)
  have q32 : ¬ x0 = (215 : Int32) := own_ne1 h1 (by decide)
  have q33 : ¬ x0 = (247 : Int32) := own_ne1 h1 (by decide)
  have q34 : ¬ x0 < (768 : Int32) := own_nlt h1 (by decide)
  have q35 : (879 : Int32) < x0 := own_gt h1 (by decide)
  have q36 : ¬ x0 = (894 : Int32) := own_ne1 h1 (by decide)
  have q37 : ¬ x0 < (8192 : Int32) := own_nlt h1 (by decide)
  have q38 : (8203 : Int32) < x0 := own_gt h1 (by decide)
  have q39 : ¬ x0 < (8206 : Int32) := own_nlt h1 (by decide)
  have q40 : (8303 : Int32) < x0 := own_gt h1 (by decide)
  have q41 : ¬ x0 < (8592 : Int32) := own_nlt h1 (by decide)
  have q42 : (11263 : Int32) < x0 := own_gt h1 (by decide)
  have q43 : ¬ x0 < (12272 : Int32) := own_nlt h1 (by decide)
  have q44 : (12288 : Int32) < x0 := own_gt h1 (by decide)
  have q45 : ¬ x0 < (55296 : Int32) := own_nlt h1 (by decide)
  have q46 : ¬ (63743 : Int32) < x0 := own_ngt h2 (by decide)
  have e_g3_156_x : g3_156 x0 = (0 : Int32) := ((if_neg q45).trans (if_neg q46))
  have e_g3_140_x : g3_140 x0 = (0 : Int32) := ((if_neg q43).trans ((if_pos q44).trans e_g3_156_x))
  have e_g3_124_x : g3_124 x0 = (0 : Int32) := ((if_neg q41).trans ((if_pos q42).trans e_g3_140_x))
  have e_g3_108_x : g3_108 x0 = (0 : Int32) := ((if_neg q39).trans ((if_pos q40).trans e_g3_124_x))
  have e_g3_83_x : g3_83 x0 = (0 : Int32) := ((if_neg q36).trans ((if_neg q37).trans ((if_pos q38).trans e_g3_108_x)))
  have e_g3_51_x : g3_51 x0 = (0 : Int32) := ((if_neg q32).trans ((if_neg q33).trans ((if_neg q34).trans ((if_pos q35).trans e_g3_83_x))))
  have e_g3_28_x : g3_28 x0 = (0 : Int32) := ((if_neg q29).trans ((if_neg q30).trans ((if_pos q31).trans e_g3_51_x)))
  have e_g3_0_x : g3_0 x0 = (0 : Int32) := ((if_neg q0).trans ((if_neg q26).trans ((if_neg q27).trans ((if_pos q28).trans e_g3_28_x))))
  have e_f3_x : f3 x0 = (0 : Int32) := e_g3_0_x
  rw [e_f1_x, e_f3_x]
theorem own_iv_63 (x0 : Int32) (h1 : (55297 : Int) ≤ x0.toInt) (h2 : x0.toInt < (63743 : Int)) : f1 x0 = f3 x0 := by
  have q0 : ¬ x0 < (65 : Int32) := own_nlt h1 (by decide)
  have q1 : (90 : Int32) < x0 := own_gt h1 (by decide)
  have q2 : ¬ x0 < (97 : Int32) := own_nlt h1 (by decide)
  have q3 : (122 : Int32) < x0 := own_gt h1 (by decide)
  have q4 : ¬ x0 < (192 : Int32) := own_nlt h1 (by decide)
  have q5 : (214 : Int32) < x0 := own_gt h1 (by decide)
  have q6 : ¬ x0 < (216 : Int32) := own_nlt h1 (by decide)
  have q7 : (246 : Int32) < x0 := own_gt h1 (by decide)
  have q8 : ¬ x0 < (248 : Int32) := own_nlt h1 (by decide)
  have q9 : (767 : Int32) < x0 := own_gt h1 (by decide)
  have q10 : ¬ x0 < (880 : Int32) := own_nlt h1 (by decide)
  have q11 : (893 : Int32) < x0 := own_gt h1 (by decide)
  have q12 : ¬ x0 < (895 : Int32) := own_nlt h1 (by decide)
  have q13 : (8191 : Int32) < x0 := own_gt h1 (by decide)
  have q14 : ¬ x0 < (8204 : Int32) := own_nlt h1 (by decide)
  have q15 : (8205 : Int32) < x0 := own_gt h1 (by decide)
  have q16 : ¬ x0 < (8304 : Int32) := own_nlt h1 (by decide)
  have q17 : (8591 : Int32) < x0 := own_gt h1 (by decide)
  have q18 : ¬ x0 < (11264 : Int32) := own_nlt h1 (by decide)
  have q19 : (12271 : Int32) < x0 := own_gt h1 (by decide)
  have q20 : ¬ x0 < (12289 : Int32) := own_nlt h1 (by decide)
  have q21 : (55295 : Int32) < x0 := own_gt h1 (by decide)
  have q22 : x0 < (63744 : Int32) := own_lt h2 (by decide)
  have q23 : x0 < (65008 : Int32) := own_lt h2 (by decide)
  have q24 : x0 < (65536 : Int32) := own_lt h2 (by decide)
  have e_g2_178_x : g2_178 x0 = (0 : Int32) := (if_pos q24)
  have e_g2_164_x : g2_164 x0 = (0 : Int32) := ((if_pos q23).trans e_g2_178_x)
  have e_g2_150_x : g2_150 x0 = (0 : Int32) := ((if_pos q22).trans e_g2_164_x)
  have e_g2_136_x : g2_136 x0 = (0 : Int32) := ((if_neg q20).trans ((if_pos q21).trans e_g2_150_x))
  have e_g2_122_x : g2_122 x0 = (0 : Int32) := ((if_neg q18).trans ((if_pos q19).trans e_g2_136_x))
  have e_g2_108_x : g2_108 x0 = (0 : Int32) := ((if_neg q16).trans ((if_pos q17).trans e_g2_122_x))
  have e_g2_94_x : g2_94 x0 = (0 : Int32) := ((if_neg q14).trans ((if_pos q15).trans e_g2_108_x))
  have e_g2_80_x : g2_80 x0 = (0 : Int32) := ((if_neg q12).trans ((if_pos q13).trans e_g2_94_x))
  have e_g2_66_x : g2_66 x0 = (0 : Int32) := ((if_neg q10).trans ((if_pos q11).trans e_g2_80_x))
  have e_g2_52_x : g2_52 x0 = (0 : Int32) := ((if_neg q8).trans ((if_pos q9).trans e_g2_66_x))
  have e_g2_38_x : g2_38 x0 = (0 : Int32) := ((if_neg q6).trans ((if_pos q7).trans e_g2_52_x))
  have e_g2_24_x : g2_24 x0 = (0 : Int32) := ((if_neg q4).trans ((if_pos q5).trans e_g2_38_x))
  have e_g2_12_x : g2_12 x0 = (0 : Int32) := ((if_neg q2).trans ((if_pos q3).trans e_g2_24_x))
  have e_g2_0_x : g2_0 x0 = (0 : Int32) := ((if_neg q0).trans ((if_pos q1).trans e_g2_12_x))
  have e_f2_x : f2 x0 = (0 : Int32) := e_g2_0_x
  have q25 : ¬ x0 = (95 : Int32) := own_ne1 h1 (by decide)
  have e_g1_0_x : g1_0 x0 = (0 : Int32) := ((if_pos (by rw [e_f2_x])).trans (if_neg q25))
  have e_f1_x : f1 x0 = (0 : Int32) := e_g1_0_x
  have q26 : ¬ (983039 : Int32) < x0 := own_ngt h2 (by decide)
  have q27 : ¬ x0 < (91 : Int32) := own_nlt h1 (by decide)
  have q28 : (94 : Int32) < x0 := own_gt h1 (by decide)
  have q29 : ¬ x0 = (96 : Int32) := own_ne1 h1 (by decide)
  have q30 : ¬ x0 < (123 : Int32) := own_nlt h1 (by decide)
  have q31 : (191 : Int32) < x0 := own_gt h1 (by decide)
  have q32 : ¬ x0 = (215 : Int32) := own_ne1 h1 (by decide)
  have q33 : ¬ x0 = (247 : Int32) := own_ne1 h1 (by decide)
  have q34 : ¬ x0 < (768 : Int32) := own_nlt h1 (by decide)
  have q35 : (879 : Int32) < x0 := own_gt h1 (by decide)
  have q36 : ¬ x0 = (894 : Int32) := own_ne1 h1 (by decide)
  have q37 : ¬ x0 < (8192 : Int32) := own_nlt h1 (by decide)
  have q38 : (8203 : Int32) < x0 := own_gt h1 (by decide)
  have q39 : ¬ x0 < (8206 : Int32) := own_nlt h1 (by decide)
  have q40 : (8303 : Int32) < x0 := own_gt h1 (by decide)
  have q41 : ¬ x0 < (8592 : Int32) := own_nlt h1 (by decide)
  have q42 : (11263 : Int32) < x0 := own_gt h1 (by decide)
  have q43 : ¬ x0 < (12272 : Int32) := own_nlt h1 (by decide)
  have q44 : (12288 : Int32) < x0 := own_gt h1 (by decide)
  have q45 : ¬ x0 < (55296 : Int32) := own_nlt h1 (by decide)
  have q46 : ¬ (63743 : Int32) < x0 := own_ngt h2 (by decide)
  have e_g3_156_x : g3_156 x0 = (0 : Int32) := ((if_neg q45).trans (if_neg q46))
  have e_g3_140_x : g3_140 x0 = (0 : Int32) := ((if_neg q43).trans ((if_pos q44).trans e_g3_156_x))
  have e_g3_124_x : g3_124 x0 = (0 : Int32) := ((if_neg q41).trans ((if_pos q42).trans e_g3_140_x))
  have e_g3_108_x : g3_108 x0 = (0 : Int32) := ((if_neg q39).trans ((if_pos q40).trans e_g3_124_x))
  have e_g3_83_x : g3_83 x0 = (0 : Int32) := ((if_neg q36).trans ((if_neg q37).trans ((if_pos q38).trans e_g3_108_x)))
  have e_g3_51_x : g3_51 x0 = (0 : Int32) := ((if_neg q32).trans ((if_neg q33).trans ((if_neg q34).trans ((if_pos q35).trans e_g3_83_x))))
  have e_g3_28_x : g3_28 x0 = (0 : Int32) := ((if_neg q29).trans ((if_neg q30).trans ((if_pos q31).trans e_g3_51_x)))
  have e_g3_0_x : g3_0 x0 = (0 : Int32) := ((if_neg q0).trans ((if_neg q26).trans ((if_neg q27).trans ((if_pos q28).trans e_g3_28_x))))
  have e_f3_x : f3 x0 = (0 : Int32) := e_g3_0_x
  rw [e_f1_x, e_f3_x]
theorem own_iv_64 (x0 : Int32) (h1 : (63743 : Int) ≤ x0.toInt) (h2 : x0.toInt < (63744 : Int)) : f1 x0 = f3 x0 := by
  have q0 : ¬ x0 < (65 : Int32) := own_nlt h1 (by decide)
  have q1 : (90 : Int32) < x0 := own_gt h1 (by decide)
  have q2 : ¬ x0 < (97 : Int32) := own_nlt h1 (by decide)
  have q3 : (122 : Int32) < x0 := own_gt h1 (by decide)
  have q4 : ¬ x0 < (192 : Int32) := own_nlt h1 (by decide)
  have q5 : (214 : Int32) < x0 := own_gt h1 (by decide)
  have q6 : ¬ x0 < (216 : Int32) := own_nlt h1 (by decide)
  have q7 : (246 : Int32) < x0 := own_gt h1 (by decide)
  have q8 : ¬ x0 < (248 : Int32) := own_nlt h1 (by decide)
  have q9 : (767 : Int32) < x0 := own_gt h1 (by decide)
  have q10 : ¬ x0 < (880 : Int32) := own_nlt h1 (by decide)
  have q11 : (893 : Int32) < x0 := own_gt h1 (by decide)
  have q12 : ¬ x0 < (895 : Int32) := own_nlt h1 (by decide)
  have q13 : (8191 : Int32) < x0 := own_gt h1 (by decide)
  have q14 : ¬ x0 < (8204 : Int32) := own_nlt h1 (by decide)
  have q15 : (8205 : Int32) < x0 := own_gt h1 (by decide)
  have q16 : ¬ x0 < (8304 : Int32) := own_nlt h1 (by decide)
  have q17 : (8591 : Int32) < x0 := own_gt h1 (by decide)
  have q18 : ¬ x0 < (11264 : Int32) := own_nlt h1 (by decide)
  have q19 : (12271 : Int32) < x0 := own_gt h1 (by decide)
  have q20 : ¬ x0 < (12289 : Int32) := own_nlt h1 (by decide)
  have q21 : (55295 : Int32) < x0 := own_gt h1 (by decide)
  have q22 : x0 < (63744 : Int32) := own_lt h2 (by decide)
  have q23 : x0 < (65008 : Int32) := own_lt h2 (by decide)
  have q24 : x0 < (65536 : Int32) := own_lt h2 (by decide)
  have e_g2_178_x : g2_178 x0 = (0 : Int32) := (if_pos q24)
  have e_g2_164_x : g2_164 x0 = (0 : Int32) := ((if_pos q23).trans e_g2_178_x)
  have e_g2_150_x : g2_150 x0 = (0 : Int32) := ((if_pos q22).trans e_g2_164_x)
  have e_g2_136_x : g2_136 x0 = (0 : Int32) := ((if_neg q20).trans ((if_pos q21).trans e_g2_150_x))
  have e_g2_122_x : g2_122 x0 = (0 : Int32) := ((if_neg q18).trans ((if_pos q19).trans e_g2_136_x))
  have e_g2_108_x : g2_108 x0 = (0 : Int32) := ((if_neg q16).trans ((if_pos q17).trans e_g2_122_x))
  have e_g2_94_x : g2_94 x0 = (0 : Int32) := ((if_neg q14).trans ((if_pos q15).trans e_g2_108_x))
  have e_g2_80_x : g2_80 x0 = (0 : Int32) := ((if_neg q12).trans ((if_pos q13).trans e_g2_94_x))
  have e_g2_66_x : g2_66 x0 = (0 : Int32) := ((if_neg q10).trans ((if_pos q11).trans e_g2_80_x))
  have e_g2_52_x : g2_52 x0 = (0 : Int32) := ((if_neg q8).trans ((if_pos q9).trans e_g2_66_x))
  have e_g2_38_x : g2_38 x0 = (0 : Int32) := ((if_neg q6).trans ((if_pos q7).trans e_g2_52_x))
  have e_g2_24_x : g2_24 x0 = (0 : Int32) := ((if_neg q4).trans ((if_pos q5).trans e_g2_38_x))
  have e_g2_12_x : g2_12 x0 = (0 : Int32) := ((if_neg q2).trans ((if_pos q3).trans e_g2_24_x))
  have e_g2_0_x : g2_0 x0 = (0 : Int32) := ((if_neg q0).trans ((if_pos q1).trans e_g2_12_x))
  have e_f2_x : f2 x0 = (0 : Int32) := e_g2_0_x
  have q25 : ¬ x0 = (95 : Int32) := own_ne1 h1 (by decide)
  have e_g1_0_x : g1_0 x0 = (0 : Int32) := ((if_pos (by rw [e_f2_x])).trans (if_neg q25))
  have e_f1_x : f1 x0 = (0 : Int32) := e_g1_0_x
  have q26 : ¬ (983039 : Int32) < x0 := own_ngt h2 (by decide)
  have q27 : ¬ x0 < (91 : Int32) := own_nlt h1 (by decide)
  have q28 : (94 : Int32) < x0 := own_gt h1 (by decide)
  have q29 : ¬ x0 = (96 : Int32) := own_ne1 h1 (by decide)
  have q30 : ¬ x0 < (123 : Int32) := own_nlt h1 (by decide)
  have q31 : (191 : Int32) < x0 := own_gt h1 (by decide)
  have q32 : ¬ x0 = (215 : Int32) := own_ne1 h1 (by decide)
  have q33 : ¬ x0 = (247 : Int32) := own_ne1 h1 (by decide)
  have q34 : ¬ x0 < (768 : Int32) := own_nlt h1 (by decide)
  have q35 : (879 : Int32) < x0 := own_gt h1 (by decide)
  have q36 : ¬ x0 = (894 : Int32) := own_ne1 h1 (by decide)
  have q37 : ¬ x0 < (8192 : Int32) := own_nlt h1 (by decide)
  have q38 : (8203 : Int32) < x0 := own_gt h1 (by decide)
  have q39 : ¬ x0 < (8206 : Int32) := own_nlt h1 (by decide)
  have q40 : (8303 : Int32) < x0 := own_gt h1 (by decide)
  have q41 : ¬ x0 < (8592 : Int32) := own_nlt h1 (by decide)
  have q42 : (11263 : Int32) < x0 := own_gt h1 (by decide)
  have q43 : ¬ x0 < (12272 : Int32) := own_nlt h1 (by decide)
  have q44 : (12288 : Int32) < x0 := own_gt h1 (by decide)
  have q45 : ¬ x0 < (55296 : Int32) := own_nlt h1 (by decide)
  have q46 : ¬ (63743 : Int32) < x0 := own_ngt h2 (by decide)
  have e_g3_156_x : g3_156 x0 = (0 : Int32) := ((if_neg q45).trans (if_neg q46))
  have e_g3_140_x : g3_140 x0 = (0 : Int32) := ((if_neg q43).trans ((if_pos q44).trans e_g3_156_x))
  have e_g3_124_x : g3_124 x0 = (0 : Int32) := ((if_neg q41).trans ((if_pos q42).trans e_g3_140_x))
  have e_g3_108_x : g3_108 x0 = (0 : Int32) := ((if_neg q39).trans ((if_pos q40).trans e_g3_124_x))
  have e_g3_83_x : g3_83 x0 = (0 : Int32) := ((if_neg q36).trans ((if_neg q37).trans ((if_pos q38).trans e_g3_108_x)))
  have e_g3_51_x : g3_51 x0 = (0 : Int32) := ((if_neg q32).trans ((if_neg q33).trans ((if_neg q34).trans ((if_pos q35).trans e_g3_83_x))))
  have e_g3_28_x : g3_28 x0 = (0 : Int32) := ((if_neg q29).trans ((if_neg q30).trans ((if_pos q31).trans e_g3_51_x)))
  have e_g3_0_x : g3_0 x0 = (0 : Int32) := ((if_neg q0).trans ((if_neg q26).trans ((if_neg q27).trans ((if_pos q28).trans e_g3_28_x))))
  have e_f3_x : f3 x0 = (0 : Int32) := e_g3_0_x
  rw [e_f1_x, e_f3_x]
theorem own_iv_65 (x0 : Int32) (h1 : (63744 : Int) ≤ x0.toInt) (h2 : x0.toInt < (63745 : Int)) : f1 x0 = f3 x0 := by
  have q0 : ¬ x0 < (65 : Int32) := own_nlt h1 (by decide)
  have q1 : (90 : Int32) < x0 := own_gt h1 (by decide)
  have q2 : ¬ x0 < (97 : Int32) := own_nlt h1 (by decide)
  have q3 : (122 : Int32) < x0 := own_gt h1 (by decide)
  have q4 : ¬ x0 < (192 : Int32) := own_nlt h1 (by decide)
  have q5 : (214 : Int32) < x0 := own_gt h1 (by decide)
  have q6 : ¬ x0 < (216 : Int32) := own_nlt h1 (by decide)
  have q7 : (246 : Int32) < x0 := own_gt h1 (by decide)
  have q8 : ¬ x0 < (248 : Int32) := own_nlt h1 (by decide)
  have q9 : (767 : Int32) < x0 := own_gt h1 (by decide)
  have q10 : ¬ x0 < (880 : Int32) := own_nlt h1 (by decide)
  have q11 : (893 : Int32) < x0 := own_gt h1 (by decide)
  have q12 : ¬ x0 < (895 : Int32) := own_nlt h1 (by decide)
  have q13 : (8191 : Int32) < x0 := own_gt h1 (by decide)
  have q14 : ¬ x0 < (8204 : Int32) := own_nlt h1 (by decide)
  have q15 : (8205 : Int32) < x0 := own_gt h1 (by decide)
  have q16 : ¬ x0 < (8304 : Int32) := own_nlt h1 (by decide)
  have q17 : (8591 : Int32) < x0 := own_gt h1 (by decide)
  have q18 : ¬ x0 < (11264 : Int32) := own_nlt h1 (by decide)
  have q19 : (12271 : Int32) < x0 := own_gt h1 (by decide)
  have q20 : ¬ x0 < (12289 : Int32) := own_nlt h1 (by decide)
  have q21 : (55295 : Int32) < x0 := own_gt h1 (by decide)
  have q22 : ¬ x0 < (63744 : Int32) := own_nlt h1 (by decide)
  have q23 : ¬ (64975 : Int32) < x0 := own_ngt h2 (by decide)
  have e_g2_150_x : g2_150 x0 = (1 : Int32) := ((if_neg q22).trans (if_neg q23))
  have e_g2_136_x : g2_136 x0 = (1 : Int32) := ((if_neg q20).trans ((if_pos q21).trans e_g2_150_x))
  have e_g2_122_x : g2_122 x0 = (1 : Int32) := ((if_neg q18).trans ((if_pos q19).trans e_g2_136_x))
  have e_g2_108_x : g2_108 x0 = (1 : Int32) := ((if_neg q16).trans ((if_pos q17).trans e_g2_122_x))
  have e_g2_94_x : g2_94 x0 = (1 : Int32) := ((if_neg q14).trans ((if_pos q15).trans e_g2_108_x))
  have e_g2_80_x : g2_80 x0 = (1 : Int32) := ((if_neg q12).trans ((if_pos q13).trans e_g2_94_x))
  have e_g2_66_x : g2_66 x0 = (1 : Int32) := ((if_neg q10).trans ((if_pos q11).trans e_g2_80_x))
  have e_g2_52_x : g2_52 x0 = (1 : Int32) := ((if_neg q8).trans ((if_pos q9).trans e_g2_66_x))
  have e_g2_38_x : g2_38 x0 = (1 : Int32) := ((if_neg q6).trans ((if_pos q7).trans e_g2_52_x))
  have e_g2_24_x : g2_24 x0 = (1 : Int32) := ((if_neg q4).trans ((if_pos q5).trans e_g2_38_x))
  have e_g2_12_x : g2_12 x0 = (1 : Int32) := ((if_neg q2).trans ((if_pos q3).trans e_g2_24_x))
  have e_g2_0_x : g2_0 x0 = (1 : Int32) := ((if_neg q0).trans ((if_pos q1).trans e_g2_12_x))
  have e_f2_x : f2 x0 = (1 : Int32) := e_g2_0_x
  have e_g1_0_x : g1_0 x0 = (1 : Int32) := (if_neg (by rw [e_f2_x]; decide))
  have e_f1_x : f1 x0 = (1 : Int32) := e_g1_0_x
  have q24 : ¬ (983039 : Int32) < x0 := own_ngt h2 (by decide)
  have q25 : ¬ x0 < (91 : Int32) := own_nlt h1 (by decide)
  have q26 : (94 : Int32) < x0 := own_gt h1 (by decide)
  have q27 : ¬ x0 = (96 : Int32) := own_ne1 h1 (by decide)
  have q28 : ¬ x0 < (123 : Int32) := own_nlt h1 (by decide)
  have q29 : (191 : Int32) < x0 := own_gt h1 (by decide)
  have q30 : ¬ x0 = (215 : Int32) := own_ne1 h1 (by decide)
  have q31 : ¬ x0 = (247 : Int32) := own_ne1 h1 (by decide)
  have q32 : ¬ x0 < (768 : Int32) := own_nlt h1 (by decide)
  have q33 : (879 : Int32) < x0 := own_gt h1 (by decide)
  have q34 : ¬ x0 = (894 : Int32) := own_ne1 h1 (by decide)
  have q35 : ¬ x0 < (8192 : Int32) := own_nlt h1 (by decide)
  have q36 : (8203 : Int32) < x0 := own_gt h1 (by decide)
  have q37 : ¬ x0 < (8206 : Int32) := own_nlt h1 (by decide)
  have q38 : (8303 : Int32) < x0 := own_gt h1 (by decide)
  have q39 : ¬ x0 < (8592 : Int32) := own_nlt h1 (by decide)
  have q40 : (11263 : Int32) < x0 := own_gt h1 (by decide)
  have q41 : ¬ x0 < (12272 : Int32) := own_nlt h1 (by decide)
  have q42 : (12288 : Int32) < x0 := own_gt h1 (by decide)
  have q43 : ¬ x0 < (55296 : Int32) := own_nlt h1 (by decide)
  have q44 : (63743 : Int32) < x0 := own_gt h1 (by decide)
  have q45 : x0 < (64976 : Int32) := own_lt h2 (by decide)
  have q46 : ¬ x0 = (65534 : Int32) := own_ne2 h2 (by decide)
  have q47 : ¬ x0 = (65535 : Int32) := own_ne2 h2 (by decide)
  have e_g3_184_x : g3_184 x0 = (1 : Int32) := ((if_neg q46).trans (if_neg q47))
  have e_g3_170_x : g3_170 x0 = (1 : Int32) := ((if_pos q45).trans e_g3_184_x)
  have e_g3_156_x : g3_156 x0 = (1 : Int32) := ((if_neg q43).trans ((if_pos q44).trans e_g3_170_x))
  have e_g3_140_x : g3_140 x0 = (1 : Int32) := ((if_neg q41).trans ((if_pos q42).trans e_g3_156_x))
  have e_g3_124_x : g3_124 x0 = (1 : Int32) := ((if_neg q39).trans ((if_pos q40).trans e_g3_140_x))
  have e_g3_108_x : g3_108 x0 = (1 : Int32) := ((if_neg q37).trans ((if_pos q38).trans e_g3_124_x))
  have e_g3_83_x : g3_83 x0 = (1 : Int32) := ((if_neg q34).trans ((if_neg q35).trans ((if_pos q36).trans e_g3_108_x)))
  have e_g3_51_x : g3_51 x0 = (1 : Int32) := ((if_neg q30).trans ((if_neg q31).trans ((if_neg q32).trans ((if_pos q33).trans e_g3_83_x))))
  have e_g3_28_x : g3_28 x0 = (1 : Int32) := ((if_neg q27).trans ((if_neg q28).trans ((if_pos q29).trans e_g3_51_x)))
  have e_g3_0_x : g3_0 x0 = (1 : Int32) := ((if_neg q0).trans ((if_neg q24).trans ((if_neg q25).trans ((if_pos q26).trans e_g3_28_x))))
  have e_f3_x : f3 x0 = (1 : Int32) := e_g3_0_x
  rw [e_f1_x, e_f3_x]
theorem own_iv_66 (x0 : Int32) (h1 : (63745 : Int) ≤ x0.toInt) (h2 : x0.toInt < (64975 : Int)) : f1 x0 = f3 x0 := by
  have q0 : ¬ x0 < (65 : Int32) := own_nlt h1 (by decide)
  have q1 : (90 : Int32) < x0 := own_gt h1 (by decide)
  have q2 : ¬ x0 < (97 : Int32) := own_nlt h1 (by decide)
  have q3 : (122 : Int32) < x0 := own_gt h1 (by decide)
  have q4 : ¬ x0 < (192 : Int32) := own_nlt h1 (by decide)
  have q5 : (214 : Int32) < x0 := own_gt h1 (by decide)
  have q6 : ¬ x0 < (216 : Int32) := own_nlt h1 (by decide)
  have q7 : (246 : Int32) < x0 := own_gt h1 (by decide)
  have q8 : ¬ x0 < (248 : Int32) := own_nlt h1 (by decide)
  have q9 : (767 : Int32) < x0 := own_gt h1 (by decide)
  have q10 : ¬ x0 < (880 : Int32) := own_nlt h1 (by decide)
  have q11 : (893 : Int32) < x0 := own_gt h1 (by decide)
  have q12 : ¬ x0 < (895 : Int32) := own_nlt h1 (by decide)
  have q13 : (8191 : Int32) < x0 := own_gt h1 (by decide)
  have q14 : ¬ x0 < (8204 : Int32) := own_nlt h1 (by decide)
  have q15 : (8205 : Int32) < x0 := own_gt h1 (by decide)
  have q16 : ¬ x0 < (8304 : Int32) := own_nlt h1 (by decide)
  have q17 : (8591 : Int32) < x0 := own_gt h1 (by decide)
  have q18 : ¬ x0 < (11264 : Int32) := own_nlt h1 (by decide)
  have q19 : (12271 : Int32) < x0 := own_gt h1 (by decide)
  have q20 : ¬ x0 < (12289 : Int32) := own_nlt h1 (by decide)
  have q21 : (55295 : Int32) < x0 := own_gt h1 (by decide)
  have q22 : ¬ x0 < (63744 : Int32) := own_nlt h1 (by decide)
  have q23 : ¬ (64975 : Int32) < x0 := own_ngt h2 (by decide)
  have e_g2_150_x : g2_150 x0 = (1 : Int32) := ((if_neg q22).trans (if_neg q23))
  have e_g2_136_x : g2_136 x0 = (1 : Int32) := ((if_neg q20).trans ((if_pos q21).trans e_g2_150_x))
  have e_g2_122_x : g2_122 x0 = (1 : Int32) := ((if_neg q18).trans ((if_pos q19).trans e_g2_136_x))
  have e_g2_108_x : g2_108 x0 = (1 : Int32) := ((if_neg q16).trans ((if_pos q17).trans e_g2_122_x))
  have e_g2_94_x : g2_94 x0 = (1 : Int32) := ((if_neg q14).trans ((if_pos q15).trans e_g2_108_x))
  have e_g2_80_x : g2_80 x0 = (1 : Int32) := ((if_neg q12).trans ((if_pos q13).trans e_g2_94_x))
  have e_g2_66_x : g2_66 x0 = (1 : Int32) := ((if_neg q10).trans ((if_pos q11).trans e_g2_80_x))
  have e_g2_52_x : g2_52 x0 = (1 : Int32) := ((if_neg q8).trans ((if_pos q9).trans e_g2_66_x))
  have e_g2_38_x : g2_38 x0 = (1 : Int32) := ((if_neg q6).trans ((if_pos q7).trans e_g2_52_x))
  have e_g2_24_x : g2_24 x0 = (1 : Int32) := ((if_neg q4).trans ((if_pos q5).trans e_g2_38_x))
  have e_g2_12_x : g2_12 x0 = (1 : Int32) := ((if_neg q2).trans ((if_pos q3).trans e_g2_24_x))
  have e_g2_0_x : g2_0 x0 = (1 : Int32) := ((if_neg q0).trans ((if_pos q1).trans e_g2_12_x))
  have e_f2_x : f2 x0 = (1 : Int32) := e_g2_0_x
  have e_g1_0_x : g1_0 x0 = (1 : Int32) := (if_neg (by rw [e_f2_x]; decide))
  have e_f1_x : f1 x0 = (1 : Int32) := e_g1_0_x
  have q24 : ¬ (983039 : Int32) < x0 := own_ngt h2 (by decide)
  have q25 : ¬ x0 < (91 : Int32) := own_nlt h1 (by decide)
  have q26 : (94 : Int32) < x0 := own_gt h1 (by decide)
  have q27 : ¬ x0 = (96 : Int32) := own_ne1 h1 (by decide)
  have q28 : ¬ x0 < (123 : Int32) := own_nlt h1 (by decide)
  have q29 : (191 : Int32) < x0 := own_gt h1 (by decide)
  have q30 : ¬ x0 = (215 : Int32) := own_ne1 h1 (by decide)
  have q31 : ¬ x0 = (247 : Int32) := own_ne1 h1 (by decide)
  have q32 : ¬ x0 < (768 : Int32) := own_nlt h1 (by decide)
  have q33 : (879 : Int32) < x0 := own_gt h1 (by decide)
  have q34 : ¬ x0 = (894 : Int32) := own_ne1 h1 (by decide)
  have q35 : ¬ x0 < (8192 : Int32) := own_nlt h1 (by decide)
  have q36 : (8203 : Int32) < x0 := own_gt h1 (by decide)
  have q37 : ¬ x0 < (8206 : Int32) := own_nlt h1 (by decide)
  have q38 : (8303 : Int32) < x0 := own_gt h1 (by decide)
  have q39 : ¬ x0 < (8592 : Int32) := own_nlt h1 (by decide)
  have q40 : (11263 : Int32) < x0 := own_gt h1 (by decide)
  have q41 : ¬ x0 < (12272 : Int32) := own_nlt h1 (by decide)
  have q42 : (12288 : Int32) < x0 := own_gt h1 (by decide)
  have q43 : ¬ x0 < (55296 : Int32) := own_nlt h1 (by decide)
  have q44 : (63743 : Int32) < x0 := own_gt h1 (by decide)
  have q45 : x0 < (64976 : Int32) := own_lt h2 (by decide)
  have q46 : ¬ x0 = (65534 : Int32) := own_ne2 h2 (by decide)
  have q47 : ¬ x0 = (65535 : Int32) := own_ne2 h2 (by decide)
  have e_g3_184_x : g3_184 x0 = (1 : Int32) := ((if_neg q46).trans (if_neg q47))
  have e_g3_170_x : g3_170 x0 = (1 : Int32) := ((if_pos q45).trans e_g3_184_x)
  have e_g3_156_x : g3_156 x0 = (1 : Int32) := ((if_neg q43).trans ((if_pos q44).trans e_g3_170_x))
  have e_g3_140_x : g3_140 x0 = (1 : Int32) := ((if_neg q41).trans ((if_pos q42).trans e_g3_156_x))
  have e_g3_124_x : g3_124 x0 = (1 : Int32) := ((if_neg q39).trans ((if_pos q40).trans e_g3_140_x))
  have e_g3_108_x : g3_108 x0 = (1 : Int32) := ((if_neg q37).trans ((if_pos q38).trans e_g3_124_x))
  have e_g3_83_x : g3_83 x0 = (1 : Int32) := ((if_neg q34).trans ((if_neg q35).trans ((if_pos q36).trans e_g3_108_x)))
  have e_g3_51_x : g3_51 x0 = (1 : Int32) := ((if_neg q30).trans ((if_neg q31).trans ((if_neg q32).trans ((if_pos q33).trans e_g3_83_x))))
  have e_g3_28_x : g3_28 x0 = (1 : Int32) := ((if_neg q27).trans ((if_neg q28).trans ((if_pos q29).trans e_g3_51_x)))
  have e_g3_0_x : g3_0 x0 = (1 : Int32) := ((if_neg q0).trans ((if_neg q24).trans ((if_neg q25).trans ((if_pos q26).trans e_g3_28_x))))
  have e_f3_x : f3 x0 = (1 : Int32) := e_g3_0_x
  rw [e_f1_x, e_f3_x]
theorem own_iv_67 (x0 : Int32) (h1 : (64975 : Int) ≤ x0.toInt) (h2 : x0.toInt < (64976 : Int)) : f1 x0 = f3 x0 := by
  have q0 : ¬ x0 < (65 : Int32) := own_nlt h1 (by decide)
  have q1 : (90 : Int32) < x0 := own_gt h1 (by decide)
  have q2 : ¬ x0 < (97 : Int32) := own_nlt h1 (by decide)
  have q3 : (122 : Int32) < x0 := own_gt h1 (by decide)
  have q4 : ¬ x0 < (192 : Int32) := own_nlt h1 (by decide)
  have q5 : (214 : Int32) < x0 := own_gt h1 (by decide)
  have q6 : ¬ x0 < (216 : Int32) := own_nlt h1 (by decide)
  have q7 : (246 : Int32) < x0 := own_gt h1 (by decide)
  have q8 : ¬ x0 < (248 : Int32) := own_nlt h1 (by decide)
  have q9 : (767 : Int32) < x0 := own_gt h1 (by decide)
  have q10 : ¬ x0 < (880 : Int32) := own_nlt h1 (by decide)
  have q11 : (893 : Int32) < x0 := own_gt h1 (by decide)
  have q12 : ¬ x0 < (895 : Int32) := own_nlt h1 (by decide)
  have q13 : (8191 : Int32) < x0 := own_gt h1 (by decide)
  have q14 : ¬ x0 < (8204 : Int32) := own_nlt h1 (by decide)
  have q15 : (8205 : Int32) < x0 := own_gt h1 (by decide)
  have q16 : ¬ x0 < (8304 : Int32) := own_nlt h1 (by decide)
  have q17 : (8591 : Int32) < x0 := own_gt h1 (by decide)
  have q18 : ¬ x0 < (11264 : Int32) := own_nlt h1 (by decide)
  have q19 : (12271 : Int32) < x0 := own_gt h1 (by decide)
  have q20 : ¬ x0 < (12289 : Int32) := own_nlt h1 (by decide)
  have q21 : (55295 : Int32) < x0 := own_gt h1 (by decide)
  have q22 : ¬ x0 < (63744 : Int32) := own_nlt h1 (by decide)
  have q23 : ¬ (64975 : Int32) < x0 := own_ngt h2 (by decide)
  have e_g2_150_x : g2_150 x0 = (1 : Int32) := ((if_neg q22).trans (if_neg q23))
  have e_g2_136_x : g2_136 x0 = (1 : Int32) := ((if_neg q20).trans ((if_pos q21).trans e_g2_150_x))
  have e_g2_122_x : g2_122 x0 = (1 : Int32) := ((if_neg q18).trans ((if_pos q19).trans e_g2_136_x))
  have e_g2_108_x : g2_108 x0 = (1 : Int32) := ((if_neg q16).trans ((if_pos q17).trans e_g2_122_x))
  have e_g2_94_x : g2_94 x0 = (1 : Int32) := ((if_neg q14).trans ((if_pos q15).trans e_g2_108_x))
  have e_g2_80_x : g2_80 x0 = (1 : Int32) := ((if_neg q12).trans ((if_pos q13).trans e_g2_94_x))
  have e_g2_66_x : g2_66 x0 = (1 : Int32) := ((if_neg q10).trans ((if_pos q11).trans e_g2_80_x))
  have e_g2_52_x : g2_52 x0 = (1 : Int32) := ((if_neg q8).trans ((if_pos q9).trans e_g2_66_x))
  have e_g2_38_x : g2_38 x0 = (1 : Int32) := ((if_neg q6).trans ((if_pos q7).trans e_g2_52_x))
  have e_g2_24_x : g2_24 x0 = (1 : Int32) := ((if_neg q4).trans ((if_pos q5).trans e_g2_38_x))
  have e_g2_12_x : g2_12 x0 = (1 : Int32) := ((if_neg q2).trans ((if_pos q3).trans e_g2_24_x))
  have e_g2_0_x : g2_0 x0 = (1 : Int32) := ((if_neg q0).trans ((if_pos q1).trans e_g2_12_x))
  have e_f2_x : f2 x0 = (1 : Int32) := e_g2_0_x
  have e_g1_0_x : g1_0 x0 = (1 : Int32) := (if_neg (by rw [e_f2_x]; decide))
  have e_f1_x : f1 x0 = (1 : Int32) := e_g1_0_x
  have q24 : ¬ (983039 : Int32) < x0 := own_ngt h2 (by decide)
  have q25 : ¬ x0 < (91 : Int32) := own_nlt h1 (by decide)
  have q26 : (94 : Int32) < x0 := own_gt h1 (by decide)
  have q27 : ¬ x0 = (96 : Int32) := own_ne1 h1 (by decide)
  have q28 : ¬ x0 < (123 : Int32) := own_nlt h1 (by decide)
  have q29 : (191 : Int32) < x0 := own_gt h1 (by decide)
  have q30 : ¬ x0 = (215 : Int32) := own_ne1 h1 (by decide)
  have q31 : ¬ x0 = (247 : Int32) := own_ne1 h1 (by decide)
  have q32 : ¬ x0 < (768 : Int32) := own_nlt h1 (by decide)
  have q33 : (879 : Int32) < x0 := own_gt h1 (by decide)
  have q34 : ¬ x0 = (894 : Int32) := own_ne1 h1 (by decide)
  have q35 : ¬ x0 < (8192 : Int32) := own_nlt h1 (by decide)
  have q36 : (8203 : Int32) < x0 := own_gt h1 (by decide)
  have q37 : ¬ x0 < (8206 : Int32) := own_nlt h1 (by decide)
  have q38 : (8303 : Int32) < x0 := own_gt h1 (by decide)
  have q39 : ¬ x0 < (8592 : Int32) := own_nlt h1 (by decide)
  have q40 : (11263 : Int32) < x0 := own_gt h1 (by decide)
  have q41 : ¬ x0 < (12272 : Int32) := own_nlt h1 (by decide)
  have q42 : (12288 : Int32) < x0 := own_gt h1 (by decide)
  have q43 : ¬ x0 < (55296 : Int32) := own_nlt h1 (by decide)
  have q44 : (63743 : Int32) < x0 := own_gt h1 (by decide)
  have q45 : x0 < (64976 : Int32) := own_lt h2 (by decide)
  have q46 : ¬ x0 = (65534 : Int32) := own_ne2 h2 (by decide)
  have q47 : ¬ x0 = (65535 : Int32) := own_ne2 h2 (by decide)
  have e_g3_184_x : g3_184 x0 = (1 : Int32) := ((if_neg q46).trans (if_neg q47))
  have e_g3_170_x : g3_170 x0 = (1 : Int32) := ((if_pos q45).trans e_g3_184_x)
  have e_g3_156_x : g3_156 x0 = (1 : Int32) := ((if_neg q43).trans ((if_pos q44).trans e_g3_170_x))
  have e_g3_140_x : g3_140 x0 = (1 : Int32) := ((if_neg q41).trans ((if_pos q42).trans e_g3_156_x))
  have e_g3_124_x : g3_124 x0 = (1 : Int32) := ((if_neg q39).trans ((if_pos q40).trans e_g3_140_x))
  have e_g3_108_x : g3_108 x0 = (1 : Int32) := ((if_neg q37).trans ((if_pos q38).trans e_g3_124_x))
  have e_g3_83_x : g3_83 x0 = (1 : Int32) := ((if_neg q34).trans ((if_neg q35).trans ((if_pos q36).trans e_g3_108_x)))
  have e_g3_51_x : g3_51 x0 = (1 : Int32) := ((if_neg q30).trans ((if_neg q31).trans ((if_neg q32).trans ((if_pos q33).trans e_g3_83_x))))
  have e_g3_28_x : g3_28 x0 = (1 : Int32) := ((if_neg q27).trans ((if_neg q28).trans ((if_pos q29).trans e_g3_51_x)))
  have e_g3_0_x : g3_0 x0 = (1 : Int32) := ((if_neg q0).trans ((if_neg q24).trans ((if_neg q25).trans ((if_pos q26).trans e_g3_28_x))))
  have e_f3_x : f3 x0 = (1 : Int32) := e_g3_0_x
  rw [e_f1_x, e_f3_x]
theorem own_iv_68 (x0 : Int32) (h1 : (64976 : Int) ≤ x0.toInt) (h2 : x0.toInt < (64977 : Int)) : f1 x0 = f3 x0 := by
  have q0 : ¬ x0 < (65 : Int32) := own_nlt h1 (by decide)
  have q1 : (90 : Int32) < x0 := own_gt h1 (by decide)
  have q2 : ¬ x0 < (97 : Int32) := own_nlt h1 (by decide)
  have q3 : (122 : Int32) < x0 := own_gt h1 (by decide)
  have q4 : ¬ x0 < (192 : Int32) := own_nlt h1 (by decide)
  have q5 : (214 : Int32) < x0 := own_gt h1 (by decide)
  have q6 : ¬ x0 < (216 : Int32) := own_nlt h1 (by decide)
  have q7 : (246 : Int32) < x0 := own_gt h1 (by decide)
  have q8 : ¬ x0 < (248 : Int32) := own_nlt h1 (by decide)
  have q9 : (767 : Int32) < x0 := own_gt h1 (by decide)
  have q10 : ¬ x0 < (880 : Int32) := own_nlt h1 (by decide)
  have q11 : (893 : Int32) < x0 := own_gt h1 (by decide)
  have q12 : ¬ x0 < (895 : Int32) := own_nlt h1 (by decide)
  have q13 : (8191 : Int32) < x0 := own_gt h1 (by decide)
  have q14 : ¬ x0 < (8204 : Int32) := own_nlt h1 (by decide)
  have q15 : (8205 : Int32) < x0 := own_gt h1 (by decide)
  have q16 : ¬ x0 < (8304 : Int32) := own_nlt h1 (by decide)
  have q17 : (8591 : Int32) < x0 := own_gt h1 (by decide)
  have q18 : ¬ x0 < (11264 : Int32) := own_nlt h1 (by decide)
  have q19 : (12271 : Int32) < x0 := own_gt h1 (by decide)
  have q20 : ¬ x0 < (12289 : Int32) := own_nlt h1 (by decide)
  have q21 : (55295 : Int32) < x0 := own_gt h1 (by decide)
  have q22 : ¬ x0 < (63744 : Int32) := own_nlt h1 (by decide)
  have q23 : (64975 : Int32) < x0 := own_gt h1 (by decide)
  have q24 : x0 < (65008 : Int32) := own_lt h2 (by decide)
  have q25 : x0 < (65536 : Int32) := own_lt h2 (by decide)
  have e_g2_178_x : g2_178 x0 = (0 : Int32) := (if_pos q25)
  have e_g2_164_x : g2_164 x0 = (0 : Int32) := ((if_pos q24).trans e_g2_178_x)
  have e_g2_150_x : g2_150 x0 = (0 : Int32) := ((if_neg q22).trans ((if_pos q23).trans e_g2_164_x))
  have e_g2_136_x : g2_136 x0 = (0 : Int32) := ((if_neg q20).trans ((if_pos q21).trans e_g2_150_x))
  have e_g2_122_x : g2_122 x0 = (0 : Int32) := ((if_neg q18).trans ((if_pos q19).trans e_g2_136_x))
  have e_g2_108_x : g2_108 x0 = (0 : Int32) := ((if_neg q16).trans ((if_pos q17).trans e_g2_122_x))
  have e_g2_94_x : g2_94 x0 = (0 : Int32) := ((if_neg q14).trans ((if_pos q15).trans e_g2_108_x))
  have e_g2_80_x : g2_80 x0 = (0 : Int32) := ((if_neg q12).trans ((if_pos q13).trans e_g2_94_x))
  have e_g2_66_x : g2_66 x0 = (0 : Int32) := ((if_neg q10).trans ((if_pos q11).trans e_g2_80_x))
  have e_g2_52_x : g2_52 x0 = (0 : Int32) := ((if_neg q8).trans ((if_pos q9).trans e_g2_66_x))
  have e_g2_38_x : g2_38 x0 = (0 : Int32) := ((if_neg q6).trans ((if_pos q7).trans e_g2_52_x))
  have e_g2_24_x : g2_24 x0 = (0 : Int32) := ((if_neg q4).trans ((if_pos q5).trans e_g2_38_x))
  have e_g2_12_x : g2_12 x0 = (0 : Int32) := ((if_neg q2).trans ((if_pos q3).trans e_g2_24_x))
  have e_g2_0_x : g2_0 x0 = (0 : Int32) := ((if_neg q0).trans ((if_pos q1).trans e_g2_12_x))
  have e_f2_x : f2 x0 = (0 : Int32) := e_g2_0_x
  have q26 : ¬ x0 = (95 : Int32) := own_ne1 h1 (by decide)
  have e_g1_0_x : g1_0 x0 = (0 : Int32) := ((if_pos (by rw [e_f2_x])).trans (if_neg q26))
  have e_f1_x : f1 x0 = (0 : Int32) := e_g1_0_x
  have q27 : ¬ (983039 : Int32) < x0 := own_ngt h2 (by decide)
  have q28 : ¬ x0 < (91 : Int32) := own_nlt h1 (by decide)
  have q29 : (94 : Int32) < x0 := own_gt h1 (by decide)
  have q30 : ¬ x0 = (96 : Int32) := own_ne1 h1 (by decide)
  have q31 : ¬ x0 < (123 : Int32) := own_nlt h1 (by decide)
  have q32 : (191 : Int32) < x0 := own_gt h1 (by decide)
  have q33 : ¬ x0 = (215 : Int32) := own_ne1 h1 (by decide)
  have q34 : ¬ x0 = (247 : Int32) := own_ne1 h1 (by decide)
  have q35 : ¬ x0 < (768 : Int32) := own_nlt h1 (by decide)
  have q36 : (879 : Int32) < x0 := own_gt h1 (by decide)
  have q37 : ¬ x0 = (894 : Int32) := own_ne1 h1 (by decide)
  have q38 : ¬ x0 < (8192 : Int32) := own_nlt h1 (by decide)
  have q39 : (8203 : Int32) < x0 := own_gt h1 (by decide)
  have q40 : ¬ x0 < (8206 : Int32) := own_nlt h1 (by decide)
  have q41 : (8303 : Int32) < x0 := own_gt h1 (by decide)
  have q42 : ¬ x0 < (8592 : Int32) := own_nlt h1 (by decide)
  have q43 : (11263 : Int32) < x0 := own_gt h1 (by decide)
  have q44 : ¬ x0 < (12272 : Int32) := own_nlt h1 (by decide)
  have q45 : (12288 : Int32) < x0 := own_gt h1 (by decide)
  have q46 : ¬ x0 < (55296 : Int32) := own_nlt h1 (by decide)
  have q47 : (63743 : Int32) < x0 := own_gt h1 (by decide)
  have q48 : ¬ x0 < (64976 : Int32) := own_nlt h1 (by decide)
  have q49 : ¬ (65007 : Int32) < x0 := own_ngt h2 (by decide)
  have e_g3_170_x : g3_170 x0 = (0 : Int32) := ((if_neg q48).trans (if_neg q49))
  have e_g3_156_x : g3_156 x0 = (0 : Int32) := ((if_neg q46).trans ((if_pos q47).trans e_g3_170_x))
  have e_g3_140_x : g3_140 x0 = (0 : Int32) := ((if_neg q44).trans ((if_pos q45).trans e_g3_156_x))
  have e_g3_124_x : g3_124 x0 = (0 : Int32) := ((if_neg q42).trans ((if_pos q43).trans e_g3_140_x))
  have e_g3_108_x : g3_108 x0 = (0 : Int32) := ((if_neg q40).trans ((if_pos q41).trans e_g3_124_x))
  have e_g3_83_x : g3_83 x0 = (0 : Int32) := ((if_neg q37).trans ((if_neg q38).trans ((if_pos q39).trans e_g3_108_x)))
  have e_g3_51_x : g3_51 x0 = (0 : Int32) := ((if_neg q33).trans ((if_neg q34).trans ((if_neg q35).trans ((if_pos q36).trans e_g3_83_x))))
  have e_g3_28_x : g3_28 x0 = (0 : Int32) := ((if_neg q30).trans ((if_neg q31).trans ((if_pos q32).trans e_g3_51_x)))
  have e_g3_0_x : g3_0 x0 = (0 : Int32) := ((if_neg q0).trans ((if_neg q27).trans ((if_neg q28).trans ((if_pos q29).trans e_g3_28_x))))
  have e_f3_x : f3 x0 = (0 : Int32) := e_g3_0_x
  rw [e_f1_x, e_f3_x]
theorem own_iv_69 (x0 : Int32) (h1 : (64977 : Int) ≤ x0.toInt) (h2 : x0.toInt < (65007 : Int)) : f1 x0 = f3 x0 := by
  have q0 : ¬ x0 < (65 : Int32) := own_nlt h1 (by decide)
  have q1 : (90 : Int32) < x0 := own_gt h1 (by decide)
  have q2 : ¬ x0 < (97 : Int32) := own_nlt h1 (by decide)
  have q3 : (122 : Int32) < x0 := own_gt h1 (by decide)
  have q4 : ¬ x0 < (192 : Int32) := own_nlt h1 (by decide)
  have q5 : (214 : Int32) < x0 := own_gt h1 (by decide)
  have q6 : ¬ x0 < (216 : Int32) := own_nlt h1 (by decide)
  have q7 : (246 : Int32) < x0 := own_gt h1 (by decide)
  have q8 : ¬ x0 < (248 : Int32) := own_nlt h1 (by decide)
  have q9 : (767 : Int32) < x0 := own_gt h1 (by decide)
  have q10 : ¬ x0 < (880 : Int32) := own_nlt h1 (by decide)
  have q11 : (893 : Int32) < x0 := own_gt h1 (by decide)
  have q12 : ¬ x0 < (895 : Int32) := own_nlt h1 (by decide)
  have q13 : (8191 : Int32) < x0 := own_gt h1 (by decide)
  have q14 : ¬ x0 < (8204 : Int32) := own_nlt h1 (by decide)
  have q15 : (8205 : Int32) < x0 := own_gt h1 (by decide)
  have q16 : ¬ x0 < (8304 : Int32) := own_nlt h1 (by decide)
  have q17 : (8591 : Int32) < x0 := own_gt h1 (by decide)
  have q18 : ¬ x0 < (11264 : Int32) := own_nlt h1 (by decide)
  have q19 : (12271 : Int32) < x0 := own_gt h1 (by decide)
  have q20 : ¬ x0 < (12289 : Int32) := own_nlt h1 (by decide)
  have q21 : (55295 : Int32) < x0 := own_gt h1 (by decide)
  have q22 : ¬ x0 < (63744 : Int32) := own_nlt h1 (by decide)
  have q23 : (64975 : Int32) < x0 := own_gt h1 (by decide)
  have q24 : x0 < (65008 : Int32) := own_lt h2 (by decide)
  have q25 : x0 < (65536 : Int32) := own_lt h2 (by decide)
  have e_g2_178_x : g2_178 x0 = (0 : Int32) := (if_pos q25)
  have e_g2_164_x : g2_164 x0 = (0 : Int32) := ((if_pos q24).trans e_g2_178_x)
  have e_g2_150_x : g2_150 x0 = (0 : Int32) := ((if_neg q22).trans ((if_pos q23).trans e_g2_164_x))
  have e_g2_136_x : g2_136 x0 = (0 : Int32) := ((if_neg q20).trans ((if_pos q21).trans e_g2_150_x))
  have e_g2_122_x : g2_122 x0 = (0 : Int32) := ((if_neg q18).trans ((if_pos q19).trans e_g2_136_x))
  have e_g2_108_x : g2_108 x0 = (0 : Int32) := ((if_neg q16).trans ((if_pos q17).trans e_g2_122_x))
  have e_g2_94_x : g2_94 x0 = (0 : Int32) := ((if_neg q14).trans ((if_pos q15).trans e_g2_108_x))
  have e_g2_80_x : g2_80 x0 = (0 : Int32) := ((if_neg q12).trans ((if_pos q13).trans e_g2_94_x))
  have e_g2_66_x : g2_66 x0 = (0 : Int32) := ((if_neg q10).trans ((if_pos q11).trans e_g2_80_x))
  have e_g2_52_x : g2_52 x0 = (0 : Int32) := ((if_neg q8).trans ((if_pos q9).trans e_g2_66_x))
  have e_g2_38_x : g2_38 x0 = (0 : Int32) := ((if_neg q6).trans ((if_pos q7).trans e_g2_52_x))
  have e_g2_24_x : g2_24 x0 = (0 : Int32) := ((if_neg q4).trans ((if_pos q5).trans e_g2_38_x))
  have e_g2_12_x : g2_12 x0 = (0 : Int32) := ((if_neg q2).trans ((if_pos q3).trans e_g2_24_x))
  have e_g2_0_x : g2_0 x0 = (0 : Int32) := ((if_neg q0).trans ((if_pos q1).trans e_g2_12_x))
  have e_f2_x : f2 x0 = (0 : Int32) := e_g2_0_x
  have q26 : ¬ x0 = (95 : Int32) := own_ne1 h1 (by decide)
  have e_g1_0_x : g1_0 x0 = (0 : Int32) := ((if_pos (by rw [e_f2_x])).trans (if_neg q26))
  have e_f1_x : f1 x0 = (0 : Int32) := e_g1_0_x
  have q27 : ¬ (983039 : Int32) < x0 := own_ngt h2 (by decide)
  have q28 : ¬ x0 < (91 : Int32) := own_nlt h1 (by decide)
  have q29 : (94 : Int32) < x0 := own_gt h1 (by decide)
  have q30 : ¬ x0 = (96 : Int32) := own_ne1 h1 (by decide)
  have q31 : ¬ x0 < (123 : Int32) := own_nlt h1 (by decide)
  have q32 : (191 : Int32) < x0 := own_gt h1 (by decide)
  have q33 : ¬ x0 = (215 : Int32) := own_ne1 h1 (by decide)
  have q34 : ¬ x0 = (247 : Int32) := own_ne1 h1 (by decide)
  have q35 : ¬ x0 < (768 : Int32) := own_nlt h1 (by decide)
  have q36 : (879 : Int32) < x0 := own_gt h1 (by decide)
  have q37 : ¬ x0 = (894 : Int32) := own_ne1 h1 (by decide)
  have q38 : ¬ x0 < (8192 : Int32) := own_nlt h1 (by decide)
  have q39 : (8203 : Int32) < x0 := own_gt h1 (by decide)
  have q40 : ¬ x0 < (8206 : Int32) := own_nlt h1 (by decide)
  have q41 : (8303 : Int32) < x0 := own_gt h1 (by decide)
  have q42 : ¬ x0 < (8592 : Int32) := own_nlt h1 (by decide)
  have q43 : (11263 : Int32) < x0 := own_gt h1 (by decide)
  have q44 : ¬ x0 < (12272 : Int32) := own_nlt h1 (by decide)
  have q45 : (12288 : Int32) < x0 := own_gt h1 (by decide)
  have q46 : ¬ x0 < (55296 : Int32) := own_nlt h1 (by decide)
  have q47 : (63743 : Int32) < x0 := own_gt h1 (by decide)
  have q48 : ¬ x0 < (64976 : Int32) := own_nlt h1 (by decide)
  have q49 : ¬ (65007 : Int32) < x0 := own_ngt h2 (by decide)
  have e_g3_170_x : g3_170 x0 = (0 : Int32) := ((if_neg q48).trans (if_neg q49))
  have e_g3_156_x : g3_156 x0 = (0 : Int32) := ((if_neg q46).trans ((if_pos q47).trans e_g3_170_x))
  have e_g3_140_x : g3_140 x0 = (0 : Int32) := ((if_neg q44).trans ((if_pos q45).trans e_g3_156_x))
  have e_g3_124_x : g3_124 x0 = (0 : Int32) := ((if_neg q42).trans ((if_pos q43).trans e_g3_140_x))
  have e_g3_108_x : g3_108 x0 = (0 : Int32) := ((if_neg q40).trans ((if_pos q41).trans e_g3_124_x))
  have e_g3_83_x : g3_83 x0 = (0 : Int32) := ((if_neg q37).trans ((if_neg q38).trans ((if_pos q39).trans e_g3_108_x)))
  have e_g3_51_x : g3_51 x0 = (0 : Int32) := ((if_neg q33).trans ((if_neg q34).trans ((if_neg q35).trans ((if_pos q36).trans e_g3_83_x))))
  have e_g3_28_x : g3_28 x0 = (0 : Int32) := ((if_neg q30).trans ((if_neg q31).trans ((if_pos q32).trans e_g3_51_x)))
  have e_g3_0_x : g3_0 x0 = (0 : Int32) := ((if_neg q0).trans ((if_neg q27).trans ((if_neg q28).trans ((if_pos q29).trans e_g3_28_x))))
  have e_f3_x : f3 x0 = (0 : Int32) := e_g3_0_x
  rw [e_f1_x, e_f3_x]
theorem own_iv_70 (x0 : Int32) (h1 : (65007 : Int) ≤ x0.toInt) (h2 : x0.toInt < (65008 : Int)) : f1 x0 = f3 x0 := by
  have q0 : ¬ x0 < (65 : Int32) := own_nlt h1 (by decide)
  have q1 : (90 : Int32) < x0 := own_gt h1 (by decide)
  have q2 : ¬ x0 < (97 : Int32) := own_nlt h1 (by decide)
  have q3 : (122 : Int32) < x0 := own_gt h1 (by decide)
  have q4 : ¬ x0 < (192 : Int32) := own_nlt h1 (by decide)
  have q5 : (214 : Int32) < x0 := own_gt h1 (by decide)
  have q6 : ¬ x0 < (216 : Int32) := own_nlt h1 (by decide)
  have q7 : (246 : Int32) < x0 := own_gt h1 (by decide)
  have q8 : ¬ x0 < (248 : Int32) := own_nlt h1 (by decide)
  have q9 : (767 : Int32) < x0 := own_gt h1 (by decide)
  have q10 : ¬ x0 < (880 : Int32) := own_nlt h1 (by decide)
  have q11 : (893 : Int32) < x0 := own_gt h1 (by decide)
  have q12 : ¬ x0 < (895 : Int32) := own_nlt h1 (by decide)
  have q13 : (8191 : Int32) < x0 := own_gt h1 (by decide)
  have q14 : ¬ x0 < (8204 : Int32) := own_nlt h1 (by decide)
  have q15 : (8205 : Int32) < x0 := own_gt h1 (by decide)
  have q16 : ¬ x0 < (8304 : Int32) := own_nlt h1 (by decide)
  have q17 : (8591 : Int32) < x0 := own_gt h1 (by decide)
  have q18 : ¬ x0 < (11264 : Int32) := own_nlt h1 (by decide)
  have q19 : (12271 : Int32) < x0 := own_gt h1 (by decide)
  have q20 : ¬ x0 < (12289 : Int32) := own_nlt h1 (by decide)
  have q21 : (55295 : Int32) < x0 := own_gt h1 (by decide)
  have q22 : ¬ x0 < (63744 : Int32) := own_nlt h1 (by decide)
  have q23 : (64975 : Int32) < x0 := own_gt h1 (by decide)
  have q24 : x0 < (65008 : Int32) := own_lt h2 (by decide)
  have q25 : x0 < (65536 : Int32) := own_lt h2 (by decide)
  have e_g2_178_x : g2_178 x0 = (0 : Int32) := (if_pos q25)
  have e_g2_164_x : g2_164 x0 = (0 : Int32) := ((if_pos q24).trans e_g2_178_x)
  have e_g2_150_x : g2_150 x0 = (0 : Int32) := ((if_neg q22).trans ((if_pos q23).trans e_g2_164_x))
  have e_g2_136_x : g2_136 x0 = (0 : Int32) := ((if_neg q20).trans ((if_pos q21).trans e_g2_150_x))
  have e_g2_122_x : g2_122 x0 = (0 : Int32) := ((if_neg q18).trans ((if_pos q19).trans e_g2_136_x))
  have e_g2_108_x : g2_108 x0 = (0 : Int32) := ((if_neg q16).trans ((if_pos q17).trans e_g2_122_x))
  have e_g2_94_x : g2_94 x0 = (0 : Int32) := ((if_neg q14).trans ((if_pos q15).trans e_g2_108_x))
  have e_g2_80_x : g2_80 x0 = (0 : Int32) := ((if_neg q12).trans ((if_pos q13).trans e_g2_94_x))
  have e_g2_66_x : g2_66 x0 = (0 : Int32) := ((if_neg q10).trans ((if_pos q11).trans e_g2_80_x))
  have e_g2_52_x : g2_52 x0 = (0 : Int32) := ((if_neg q8).trans ((if_pos q9).trans e_g2_66_x))
  have e_g2_38_x : g2_38 x0 = (0 : Int32) := ((if_neg q6).trans ((if_pos q7).trans e_g2_52_x))
  have e_g2_24_x : g2_24 x0 = (0 : Int32) := ((if_neg q4).trans ((if_pos q5).trans e_g2_38_x))
  have e_g2_12_x : g2_12 x0 = (0 : Int32) := ((if_neg q2).trans ((if_pos q3).trans e_g2_24_x))
  have e_g2_0_x : g2_0 x0 = (0 : Int32) := ((if_neg q0).trans ((if_pos q1).trans e_g2_12_x))
  have e_f2_x : f2 x0 = (0 : Int32) := e_g2_0_x
  have q26 : ¬ x0 = (95 : Int32) := own_ne1 h1 (by decide)
  have e_g1_0_x : g1_0 x0 = (0 : Int32) := ((if_pos (by rw [e_f2_x])).trans (if_neg q26))
  have e_f1_x : f1 x0 = (0 : Int32) := e_g1_0_x
  have q27 : ¬ (983039 : Int32) < x0 := own_ngt h2 (by decide)
  have q28 : ¬ x0 < (91 : Int32) := own_nlt h1 (by decide)
  have q29 : (94 : Int32) < x0 := own_gt h1 (by decide)
  have q30 : ¬ x0 = (96 : Int32) := own_ne1 h1 (by decide)
  have q31 : ¬ x0 < (123 : Int32) := own_nlt h1 (by decide)
  have q32 : (191 : Int32) < x0 := own_gt h1 (by decide)
  have q33 : ¬ x0 = (215 : Int32) := own_ne1 h1 (by decide)
  have q34 : ¬ x0 = (247 : Int32) := own_ne1 h1 (by decide)
  have q35 : ¬ x0 < (768 : Int32) := own_nlt h1 (by decide)
  have q36 : (879 : Int32) < x0 := own_gt h1 (by decide)
  have q37 : ¬ x0 = (894 : Int32) := own_ne1 h1 (by decide)
  have q38 : ¬ x0 < (8192 : Int32) := own_nlt h1 (by decide)
  have q39 : (8203 : Int32) < x0 := own_gt h1 (by decide)
  have q40 : ¬ x0 < (8206 : Int32) := own_nlt h1 (by decide)
  have q41 : (8303 : Int32) < x0 := own_gt h1 (by decide)
  have q42 : ¬ x0 < (8592 : Int32) := own_nlt h1 (by decide)
  have q43 : (11263 : Int32) < x0 := own_gt h1 (by decide)
  have q44 : ¬ x0 < (12272 : Int32) := own_nlt h1 (by decide)
  have q45 : (12288 : Int32) < x0 := own_gt h1 (by decide)
  have q46 : ¬ x0 < (55296 : Int32) := own_nlt h1 (by decide)
  have q47 : (63743 : Int32) < x0 := own_gt h1 (by decide)
  have q48 : ¬ x0 < (64976 : Int32) := own_nlt h1 (by decide)
  have q49 : ¬ (65007 : Int32) < x0 := own_ngt h2 (by decide)
  have e_g3_170_x : g3_170 x0 = (0 : Int32) := ((if_neg q48).trans (if_neg q49))
  have e_g3_156_x : g3_156 x0 = (0 : Int32) := ((if_neg q46).trans ((if_pos q47).trans e_g3_170_x))
  have e_g3_140_x : g3_140 x0 = (0 : Int32) := ((if_neg q44).trans ((if_pos q45).trans e_g3_156_x))
  have e_g3_124_x : g3_124 x0 = (0 : Int32) := ((if_neg q42).trans ((if_pos q43).trans e_g3_140_x))
  have e_g3_108_x : g3_108 x0 = (0 : Int32) := ((if_neg q40).trans ((if_pos q41).trans e_g3_124_x))
  have e_g3_83_x : g3_83 x0 = (0 : Int32) := ((if_neg q37).trans ((if_neg q38).trans ((if_pos q39).trans e_g3_108_x)))
  have e_g3_51_x : g3_51 x0 = (0 : Int32) := ((if_neg q33).trans ((if_neg q34).trans ((if_neg q35).trans ((if_pos q36).trans e_g3_83_x))))
  have e_g3_28_x : g3_28 x0 = (0 : Int32) := ((if_neg q30).trans ((if_neg q31).trans ((if_pos q32).trans e_g3_51_x)))
  have e_g3_0_x : g3_0 x0 = (0 : Int32) := ((if_neg q0).trans ((if_neg q27).trans ((if_neg q28).trans ((if_pos q29).trans e_g3_28_x))))
  have e_f3_x : f3 x0 = (0 : Int32) := e_g3_0_x
  rw [e_f1_x, e_f3_x]
theorem own_iv_71 (x0 : Int32) (h1 : (65008 : Int) ≤ x0.toInt) (h2 : x0.toInt < (65009 : Int)) : f1 x0 = f3 x0 := by
  have q0 : ¬ x0 < (65 : Int32) := own_nlt h1 (by decide)
  have q1 : (90 : Int32) < x0 := own_gt h1 (by decide)
  have q2 : ¬ x0 < (97 : Int32) := own_nlt h1 (by decide)
  have q3 : (122 : Int32) < x0 := own_gt h1 (by decide)
  have q4 : ¬ x0 < (192 : Int32) := own_nlt h1 (by decide)
  have q5 : (214 : Int32) < x0 := own_gt h1 (by decide)
  have q6 : ¬ x0 < (216 : Int32) := own_nlt h1 (by decide)
  have q7 : (246 : Int32) < x0 := own_gt h1 (by decide)
  have q8 : ¬ x0 < (248 : Int32) := own_nlt h1 (by decide)
  have q9 : (767 : Int32) < x0 := own_gt h1 (by decide)
  have q10 : ¬ x0 < (880 : Int32) := own_nlt h1 (by decide)
  have q11 : (893 : Int32) < x0 := own_gt h1 (by decide)
  have q12 : ¬ x0 < (895 : Int32) := own_nlt h1 (by decide)
  have q13 : (8191 : Int32) < x0 := own_gt h1 (by decide)
  have q14 : ¬ x0 < (8204 : Int32) := own_nlt h1 (by decide)
  have q15 : (8205 : Int32) < x0 := own_gt h1 (by decide)
  have q16 : ¬ x0 < (8304 : Int32) := own_nlt h1 (by decide)
  have q17 : (8591 : Int32) < x0 := own_gt h1 (by decide)
  have q18 : ¬ x0 < (11264 : Int32) := own_nlt h1 (by decide)
  have q19 : (12271 : Int32) < x0 := own_gt h1 (by decide)
  have q20 : ¬ x0 < (12289 : Int32) := own_nlt h1 (by decide)
  have q21 : (55295 : Int32) < x0 := own_gt h1 (by decide)
  have q22 : ¬ x0 < (63744 : Int32) := own_nlt h1 (by decide)
  have q23 : (64975 : Int32) < x0 := own_gt h1 (by decide)
  have q24 : ¬ x0 < (65008 : Int32) := own_nlt h1 (by decide)
  have q25 : ¬ (65533 : Int32) < x0 := own_ngt h2 (by decide)
  have e_g2_164_x : g2_164 x0 = (1 : Int32) := ((if_neg q24).trans (if_neg q25))
  have e_g2_150_x : g2_150 x0 = (1 : Int32) := ((if_neg q22).trans ((if_pos q23).trans e_g2_164_x))
  have e_g2_136_x : g2_136 x0 = (1 : Int32) := ((if_neg q20).trans ((if_pos q21).trans e_g2_150_x))
  have e_g2_122_x : g2_122 x0 = (1 : Int32) := ((if_neg q18).trans ((if_pos q19).trans e_g2_136_x))
  have e_g2_108_x : g2_108 x0 = (1 : Int32) := ((if_neg q16).trans ((if_pos q17).trans e_g2_122_x))
  have e_g2_94_x : g2_94 x0 = (1 : Int32) := ((if_neg q14).trans ((if_pos q15).trans e_g2_108_x))
  have e_g2_80_x : g2_80 x0 = (1 : Int32) := ((if_neg q12).trans ((if_pos q13).trans e_g2_94_x))
  have e_g2_66_x : g2_66 x0 = (1 : Int32) := ((if_neg q10).trans ((if_pos q11).trans e_g2_80_x))
  have e_g2_52_x : g2_52 x0 = (1 : Int32) := ((if_neg q8).trans ((if_pos q9).trans e_g2_66_x))
  have e_g2_38_x : g2_38 x0 = (1 : Int32) := ((if_neg q6).trans ((if_pos q7).trans e_g2_52_x))
  have e_g2_24_x : g2_24 x0 = (1 : Int32) := ((if_neg q4).trans ((if_pos q5).trans e_g2_38_x))
  have e_g2_12_x : g2_12 x0 = (1 : Int32) := ((if_neg q2).trans ((if_pos q3).trans e_g2_24_x))
  have e_g2_0_x : g2_0 x0 = (1 : Int32) := ((if_neg q0).trans ((if_pos q1).trans e_g2_12_x))
  have e_f2_x : f2 x0 = (1 : Int32) := e_g2_0_x
  have e_g1_0_x : g1_0 x0 = (1 : Int32) := (if_neg (by rw [e_f2_x]; decide))
  have e_f1_x : f1 x0 = (1 : Int32) := e_g1_0_x
  have q26 : ¬ (983039 : Int32) < x0 := own_ngt h2 (by decide)
  have q27 : ¬ x0 < (91 : Int32) := own_nlt h1 (by decide)
  have q28 : (94 : Int32) < x0 := own_gt h1 (by decide)
  have q29 : ¬ x0 = (96 : Int32) := own_ne1 h1 (by decide)
  have q30 : ¬ x0 < (123 : Int32) := own_nlt h1 (by decide)
  have q31 : (191 : Int32) < x0 := own_gt h1 (by decide)
  have q32 : ¬ x0 = (215 : Int32) := own_ne1 h1 (by decide)
  have q33 : ¬ x0 = (247 : Int32) := own_ne1 h1 (by decide)
  have q34 : ¬ x0 < (768 : Int32) := own_nlt h1 (by decide)
  have q35 : (879 : Int32) < x0 := own_gt h1 (by decide)
  have q36 : ¬ x0 = (894 : Int32) := own_ne1 h1 (by decide)
  have q37 : ¬ x0 < (8192 : Int32) := own_nlt h1 (by decide)
  have q38 : (8203 : Int32) < x0 := own_gt h1 (by decide)
  have q39 : ¬ x0 < (8206 : Int32) := own_nlt h1 (by decide)
  have q40 : (8303 : Int32) < x0 := own_gt h1 (by decide)
  have q41 : ¬ x0 < (8592 : Int32) := own_nlt h1 (by decide)
  have q42 : (11263 : Int32) < x0 := own_gt h1 (by decide)
  have q43 : ¬ x0 < (12272 : Int32) := own_nlt h1 (by decide)
  have q44 : (12288 : Int32) < x0 := own_gt h1 (by decide)
  have q45 : ¬ x0 < (55296 : Int32) := own_nlt h1 (by decide)
  have q46 : (63743 : Int32) < x0 := own_gt h1 (by decide)
  have q47 : ¬ x0 < (64976 : Int32) := own_nlt h1 (by decide)
  have q48 : (65007 : Int32) < x0 := own_gt h1 (by decide)
  have q49 : ¬ x0 = (65534 : Int32) := own_ne2 h2 (by decide)
  have q50 : ¬ x0 = (65535 : Int32) := own_ne2 h2 (by decide)
  have e_g3_184_x : g3_184 x0 = (1 : Int32) := ((if_neg q49).trans (if_neg q50))
  have e_g3_170_x : g3_170 x0 = (1 : Int32) := ((if_neg q47).trans ((if_pos q48).trans e_g3_184_x))
  have e_g3_156_x : g3_156 x0 = (1 : Int32) := ((if_neg q45).trans ((if_pos q46).trans e_g3_170_x))
  have e_g3_140_x : g3_140 x0 = (1 : Int32) := ((if_neg q43).trans ((if_pos q44).trans e_g3_156_x))
  have e_g3_124_x : g3_124 x0 = (1 : Int32) := ((if_neg q41).trans ((if_pos q42).trans e_g3_140_x))
  have e_g3_108_x : g3_108 x0 = (1 : Int32) := ((if_neg q39).trans ((if_pos q40).trans e_g3_124_x))
  have e_g3_83_x : g3_83 x0 = (1 : Int32) := ((if_neg q36).trans ((if_neg q37).trans ((if_pos q38).trans e_g3_108_x)))
  have e_g3_51_x : g3_51 x0 = (1 : Int32) := ((if_neg q32).trans ((if_neg q33).trans ((if_neg q34).trans ((if_pos q35).trans e_g3_83_x))))
  have e_g3_28_x : g3_28 x0 = (1 : Int32) := ((if_neg q29).trans ((if_neg q30).trans ((if_pos q31).trans e_g3_51_x)))
  have e_g3_0_x : g3_0 x0 = (1 : Int32) := ((if_neg q0).trans ((if_neg q26).trans ((if_neg q27).trans ((if_pos q28).trans e_g3_28_x))))
  have e_f3_x : f3 x0 = (1 : Int32) := e_g3_0_x
  rw [e_f1_x, e_f3_x]
theorem own_iv_72 (x0 : Int32) (h1 : (65009 : Int) ≤ x0.toInt) (h2 : x0.toInt < (65533 : Int)) : f1 x0 = f3 x0 := by
  have q0 : ¬ x0 < (65 : Int32) := own_nlt h1 (by decide)
  have q1 : (90 : Int32) < x0 := own_gt h1 (by decide)
  have q2 : ¬ x0 < (97 : Int32) := own_nlt h1 (by decide)
  have q3 : (122 : Int32) < x0 := own_gt h1 (by decide)
  have q4 : ¬ x0 < (192 : Int32) := own_nlt h1 (by decide)
  have q5 : (214 : Int32) < x0 := own_gt h1 (by decide)
  have q6 : ¬ x0 < (216 : Int32) := own_nlt h1 (by decide)
  have q7 : (246 : Int32) < x0 := own_gt h1 (by decide)
  have q8 : ¬ x0 < (248 : Int32) := own_nlt h1 (by decide)
  have q9 : (767 : Int32) < x0 := own_gt h1 (by decide)
  have q10 : ¬ x0 < (880 : Int32) := own_nlt h1 (by decide)
  have q11 : (893 : Int32) < x0 := own_gt h1 (by decide)
  have q12 : ¬ x0 < (895 : Int32) := own_nlt h1 (by decide)
  have q13 : (8191 : Int32) < x0 := own_gt h1 (by decide)
  have q14 : ¬ x0 < (8204 : Int32) := own_nlt h1 (by decide)
  have q15 : (8205 : Int32) < x0 := own_gt h1 (by decide)
  have q16 : ¬ x0 < (8304 : Int32) := own_nlt h1 (by decide)
  have q17 : (8591 : Int32) < x0 := own_gt h1 (by decide)
  have q18 : ¬ x0 < (11264 : Int32) := own_nlt h1 (by decide)
  have q19 : (12271 : Int32) < x0 := own_gt h1 (by decide)
  have q20 : ¬ x0 < (12289 : Int32) := own_nlt h1 (by decide)
  have q21 : (55295 : Int32) < x0 := own_gt h1 (by decide)
  have q22 : ¬ x0 < (63744 : Int32) := own_nlt h1 (by decide)
  have q23 : (64975 : Int32) < x0 := own_gt h1 (by decide)
  have q24 : ¬ x0 < (65008 : Int32) := own_nlt h1 (by decide)
  have q25 : ¬ (65533 : Int32) < x0 := own_ngt h2 (by decide)
  have e_g2_164_x : g2_164 x0 = (1 : Int32) := ((if_neg q24).trans (if_neg q25))
  have e_g2_150_x : g2_150 x0 = (1 : Int32) := ((if_neg q22).trans ((if_pos q23).trans e_g2_164_x))
  have e_g2_136_x : g2_136 x0 = (1 : Int32) := ((if_neg q20).trans ((if_pos q21).trans e_g2_150_x))
  have e_g2_122_x : g2_122 x0 = (1 : Int32) := ((if_neg q18).trans ((if_pos q19).trans e_g2_136_x))
  have e_g2_108_x : g2_108 x0 = (1 : Int32) := ((if_neg q16).trans ((if_pos q17).trans e_g2_122_x))
  have e_g2_94_x : g2_94 x0 = (1 : Int32) := ((if_neg q14).trans ((if_pos q15).trans e_g2_108_x))
  have e_g2_80_x : g2_80 x0 = (1 : Int32) := ((if_neg q12).trans ((if_pos q13).trans e_g2_94_x))
  have e_g2_66_x : g2_66 x0 = (1 : Int32) := ((if_neg q10).trans ((if_pos q11).trans e_g2_80_x))
  have e_g2_52_x : g2_52 x0 = (1 : Int32) := ((if_neg q8).trans ((if_pos q9).trans e_g2_66_x))
  have e_g2_38_x : g2_38 x0 = (1 : Int32) := ((if_neg q6).trans ((if_pos q7).trans e_g2_52_x))
  have e_g2_24_x : g2_24 x0 = (1 : Int32) := ((if_neg q4).trans ((if_pos q5).trans e_g2_38_x))
  have e_g2_12_x : g2_12 x0 = (1 : Int32) := ((if_neg q2).trans ((if_pos q3).trans e_g2_24_x))
  have e_g2_0_x : g2_0 x0 = (1 : Int32) := ((if_neg q0).trans ((if_pos q1).trans e_g2_12_x))
  have e_f2_x : f2 x0 = (1 : Int32) := e_g2_0_x
  have e_g1_0_x : g1_0 x0 = (1 : Int32) := (if_neg (by rw [e_f2_x]; decide))
  have e_f1_x : f1 x0 = (1 : Int32) := e_g1_0_x
  have q26 : ¬ (983039 : Int32) < x0 := own_ngt h2 (by decide)
  have q27 : ¬ x0 < (91 : Int32) := own_nlt h1 (by decide)
  have q28 : (94 : Int32) < x0 := own_gt h1 (by decide)
  have q29 : ¬ x0 = (96 : Int32) := own_ne1 h1 (by decide)
  have q30 : ¬ x0 < (123 : Int32) := own_nlt h1 (by decide)
  have q31 : (191 : Int32) < x0 := own_gt h1 (by decide)
  have q32 : ¬ x0 = (215 : Int32) := own_ne1 h1 (by decide)
  have q33 : ¬ x0 = (247 : Int32) := own_ne1 h1 (by decide)
  have q34 : ¬ x0 < (768 : Int32) := own_nlt h1 (by decide)
  have q35 : (879 : Int32) < x0 := own_gt h1 (by decide)
  have q36 : ¬ x0 = (894 : Int32) := own_ne1 h1 (by decide)
  have q37 : ¬ x0 < (8192 : Int32) := own_nlt h1 (by decide)
  have q38 : (8203 : Int32) < x0 := own_gt h1 (by decide)
  have q39 : ¬ x0 < (8206 : Int32) := own_nlt h1 (by decide)
  have q40 : (8303 : Int32) < x0 := own_gt h1 (by decide)
  have q41 : ¬ x0 < (8592 : Int32) := own_nlt h1 (by decide)
  have q42 : (11263 : Int32) < x0 := own_gt h1 (by decide)
  have q43 : ¬ x0 < (12272 : Int32) := own_nlt h1 (by decide)
  have q44 : (12288 : Int32) < x0 := own_gt h1 (by decide)
  have q45 : ¬ x0 < (55296 : Int32) := own_nlt h1 (by decide)
  have q46 : (63743 : Int32) < x0 := own_gt h1 (by decide)
  have q47 : ¬ x0 < (64976 : Int32) := own_nlt h1 (by decide)
  have q48 : (65007 : Int32) < x0 := own_gt h1 (by decide)
  have q49 : ¬ x0 = (65534 : Int32) := own_ne2 h2 (by decide)
  have q50 : ¬ x0 = (65535 : Int32) := own_ne2 h2 (by decide)
  have e_g3_184_x : g3_184 x0 = (1 : Int32) := ((if_neg q49).trans (if_neg q50))
  have e_g3_170_x : g3_170 x0 = (1 : Int32) := ((if_neg q47).trans ((if_pos q48).trans e_g3_184_x))
  have e_g3_156_x : g3_156 x0 = (1 : Int32) := ((if_neg q45).trans ((if_pos q46).trans e_g3_170_x))
  have e_g3_140_x : g3_140 x0 = (1 : Int32) := ((if_neg q43).trans ((if_pos q44).trans e_g3_156_x))
  have e_g3_124_x : g3_124 x0 = (1 : Int32) := ((if_neg q41).trans ((if_pos q42).trans e_g3_140_x))
  have e_g3_108_x : g3_108 x0 = (1 : Int32) := ((if_neg q39).trans ((if_pos q40).trans e_g3_124_x))
  have e_g3_83_x : g3_83 x0 = (1 : Int32) := ((if_neg q36).trans ((if_neg q37).trans ((if_pos q38).trans e_g3_108_x)))
  have e_g3_51_x : g3_51 x0 = (1 : Int32) := ((if_neg q32).trans ((if_neg q33).trans ((if_neg q34).trans ((if_pos q35).trans e_g3_83_x))))
  have e_g3_28_x : g3_28 x0 = (1 : Int32) := ((if_neg q29).trans ((if_neg q30).trans ((if_pos q31).trans e_g3_51_x)))
  have e_g3_0_x : g3_0 x0 = (1 : Int32) := ((if_neg q0).trans ((if_neg q26).trans ((if_neg q27).trans ((if_pos q28).trans e_g3_28_x))))
  have e_f3_x : f3 x0 = (1 : Int32) := e_g3_0_x
  rw [e_f1_x, e_f3_x]
theorem own_iv_73 (x0 : Int32) (h1 : (65533 : Int) ≤ x0.toInt) (h2 : x0.toInt < (65534 : Int)) : f1 x0 = f3 x0 := by
  have q0 : ¬ x0 < (65 : Int32) := own_nlt h1 (by decide)
  have q1 : (90 : Int32) < x0 := own_gt h1 (by decide)
  have q2 : ¬ x0 < (97 : Int32) := own_nlt h1 (by decide)
  have q3 : (122 : Int32) < x0 := own_gt h1 (by decide)
  have q4 : ¬ x0 < (192 : Int32) := own_nlt h1 (by decide)
  have q5 : (214 : Int32) < x0 := own_gt h1 (by decide)
  have q6 : ¬ x0 < (216 : Int32) := own_nlt h1 (by decide)
  have q7 : (246 : Int32) < x0 := own_gt h1 (by decide)
  have q8 : ¬ x0 < (248 : Int32) := own_nlt h1 (by decide)
  have q9 : (767 : Int32) < x0 := own_gt h1 (by decide)
  have q10 : ¬ x0 < (880 : Int32) := own_nlt h1 (by decide)
  have q11 : (893 : Int32) < x0 := own_gt h1 (by decide)
  have q12 : ¬ x0 < (895 : Int32) := own_nlt h1 (by decide)
  have q13 : (8191 : Int32) < x0 := own_gt h1 (by decide)
  have q14 : ¬ x0 < (8204 : Int32) := own_nlt h1 (by decide)
  have q15 : (8205 : Int32) < x0 := own_gt h1 (by decide)
  have q16 : ¬ x0 < (8304 : Int32) := own_nlt h1 (by decide)
  have q17 : (8591 : Int32) < x0 := own_gt h1 (by decide)
  have q18 : ¬ x0 < (11264 : Int32) := own_nlt h1 (by decide)
  have q19 : (12271 : Int32) < x0 := own_gt h1 (by decide)
  have q20 : ¬ x0 < (12289 : Int32) := own_nlt h1 (by decide)
  have q21 : (55295 : Int32) < x0 := own_gt h1 (by decide)
  have q22 : ¬ x0 < (63744 : Int32) := own_nlt h1 (by decide)
  have q23 : (64975 : Int32) < x0 := own_gt h1 (by decide)
  have q24 : ¬ x0 < (65008 : Int32) := own_nlt h1 (by decide)
  have q25 : ¬ (65533 : Int32) < x0 := own_ngt h2 (by decide)
  have e_g2_164_x : g2_164 x0 = (1 : Int32) := ((if_neg q24).trans (if_neg q25))
  have e_g2_150_x : g2_150 x0 = (1 : Int32) := ((if_neg q22).trans ((if_pos q23).trans e_g2_164_x))
  have e_g2_136_x : g2_136 x0 = (1 : Int32) := ((if_neg q20).trans ((if_pos q21).trans e_g2_150_x))
  have e_g2_122_x : g2_122 x0 = (1 : Int32) := ((if_neg q18).trans ((if_pos q19).trans e_g2_136_x))
  have e_g2_108_x : g2_108 x0 = (1 : Int32) := ((if_neg q16).trans ((if_pos q17).trans e_g2_122_x))
  have e_g2_94_x : g2_94 x0 = (1 : Int32) := ((if_neg q14).trans ((if_pos q15).trans e_g2_108_x))
  have e_g2_80_x : g2_80 x0 = (1 : Int32) := ((if_neg q12).trans ((if_pos q13).trans e_g2_94_x))
  have e_g2_66_x : g2_66 x0 = (1 : Int32) := ((if_neg q10).trans ((if_pos q11).trans e_g2_80_x))
  have e_g2_52_x : g2_52 x0 = (1 : Int32) := ((if_neg q8).trans ((if_pos q9).trans e_g2_66_x))
  have e_g2_38_x : g2_38 x0 = (1 : Int32) := ((if_neg q6).trans ((if_pos q7).trans e_g2_52_x))
  have e_g2_24_x : g2_24 x0 = (1 : Int32) := ((if_neg q4).trans ((if_pos q5).trans e_g2_38_x))
  have e_g2_12_x : g2_12 x0 = (1 : Int32) := ((if_neg q2).trans ((if_pos q3).trans e_g2_24_x))
  have e_g2_0_x : g2_0 x0 = (1 : Int32) := ((if_neg q0).trans ((if_pos q1).trans e_g2_12_x))
  have e_f2_x : f2 x0 = (1 : Int32) := e_g2_0_x
  have e_g1_0_x : g1_0 x0 = (1 : Int32) := (if_neg (by rw [e_f2_x]; decide))
  have e_f1_x : f1 x0 = (1 : Int32) := e_g1_0_x
  have q26 : ¬ (983039 : Int32) < x0 := own_ngt h2 (by decide)
  have q27 : ¬ x0 < (91 : Int32) := own_nlt h1 (by decide)
  have q28 : (94 : Int32) < x0 := own_gt h1 (by decide)
  have q29 : ¬ x0 = (96 : Int32) := own_ne1 h1 (by decide)
  have q30 : ¬ x0 < (123 : Int32) := own_nlt h1 (by decide)
  have q31 : (191 : Int32) < x0 := own_gt h1 (by decide)
  have q32 : ¬ x0 = (215 : Int32) := own_ne1 h1 (by decide)
  have q33 : ¬ x0 = (247 : Int32) := own_ne1 h1 (by decide)
  have q34 : ¬ x0 < (768 : Int32) := own_nlt h1 (by decide)
  have q35 : (879 : Int32) < x0 := own_gt h1 (by decide)
  have q36 : ¬ x0 = (894 : Int32) := own_ne1 h1 (by decide)
  have q37 : ¬ x0 < (8192 : Int32) := own_nlt h1 (by decide)
  have q38 : (8203 : Int32) < x0 := own_gt h1 (by decide)
  have q39 : ¬ x0 < (8206 : Int32) := own_nlt h1 (by decide)
  have q40 : (8303 : Int32) < x0 := own_gt h1 (by decide)
  have q41 : ¬ x0 < (8592 : Int32) := own_nlt h1 (by decide)
  have q42 : (11263 : Int32) < x0 := own_gt h1 (by decide)
  have q43 : ¬ x0 < (12272 : Int32) := own_nlt h1 (by decide)
  have q44 : (12288 : Int32) < x0 := own_gt h1 (by decide)
  have q45 : ¬ x0 < (55296 : Int32) := own_nlt h1 (by decide)
  have q46 : (63743 : Int32) < x0 := own_gt h1 (by decide)
  have q47 : ¬ x0 < (64976 : Int32) := own_nlt h1 (by decide)
  have q48 : (65007 : Int32) < x0 := own_gt h1 (by decide)
  have q49 : ¬ x0 = (65534 : Int32) := own_ne2 h2 (by decide)
  have q50 : ¬ x0 = (65535 : Int32) := own_ne2 h2 (by decide)
  have e_g3_184_x : g3_184 x0 = (1 : Int32) := ((if_neg q49).trans (if_neg q50))
  have e_g3_170_x : g3_170 x0 = (1 : Int32) := ((if_neg q47).trans ((if_pos q48).trans e_g3_184_x))
  have e_g3_156_x : g3_156 x0 = (1 : Int32) := ((if_neg q45).trans ((if_pos q46).trans e_g3_170_x))
  have e_g3_140_x : g3_140 x0 = (1 : Int32) := ((if_neg q43).trans ((if_pos q44).trans e_g3_156_x))
  have e_g3_124_x : g3_124 x0 = (1 : Int32) := ((if_neg q41).trans ((if_pos q42).trans e_g3_140_x))
  have e_g3_108_x : g3_108 x0 = (1 : Int32) := ((if_neg q39).trans ((if_pos q40).trans e_g3_124_x))
  have e_g3_83_x : g3_83 x0 = (1 : Int32) := ((if_neg q36).trans ((if_neg q37).trans ((if_pos q38).trans e_g3_108_x)))
  have e_g3_51_x : g3_51 x0 = (1 : Int32) := ((if_neg q32).trans ((if_neg q33).trans ((if_neg q34).trans ((if_pos q35).trans e_g3_83_x))))
  have e_g3_28_x : g3_28 x0 = (1 : Int32) := ((if_neg q29).trans ((if_neg q30).trans ((if_pos q31).trans e_g3_51_x)))
  have e_g3_0_x : g3_0 x0 = (1 : Int32) := ((if_neg q0).trans ((if_neg q26).trans ((if_neg q27).trans ((if_pos q28).trans e_g3_28_x))))
  have e_f3_x : f3 x0 = (1 : Int32) := e_g3_0_x
  rw [e_f1_x, e_f3_x]
theorem own_iv_74 (x0 : Int32) (h1 : (65534 : Int) ≤ x0.toInt) (h2 : x0.toInt < (65535 : Int)) : f1 x0 = f3 x0 := by
  have q0 : ¬ x0 < (65 : Int32) := own_nlt h1 (by decide)
  have q1 : (90 : Int32) < x0 := own_gt h1 (by decide)
  have q2 : ¬ x0 < (97 : Int32) := own_nlt h1 (by decide)
  have q3 : (122 : Int32) < x0 := own_gt h1 (by decide)
  have q4 : ¬ x0 < (192 : Int32) := own_nlt h1 (by decide)
  have q5 : (214 : Int32) < x0 := own_gt h1 (by decide)
  have q6 : ¬ x0 < (216 : Int32) := own_nlt h1 (by decide)
  have q7 : (246 : Int32) < x0 := own_gt h1 (by decide)
  have q8 : ¬ x0 < (248 : Int32) := own_nlt h1 (by decide)
  have q9 : (767 : Int32) < x0 := own_gt h1 (by decide)
  have q10 : ¬ x0 < (880 : Int32) := own_nlt h1 (by decide)
  have q11 : (893 : Int32) < x0 := own_gt h1 (by decide)
  have q12 : ¬ x0 < (895 : Int32) := own_nlt h1 (by decide)
  have q13 : (8191 : Int32) < x0 := own_gt h1 (by decide)
  have q14 : ¬ x0 < (8204 : Int32) := own_nlt h1 (by decide)
  have q15 : (8205 : Int32) < x0 := own_gt h1 (by decide)
  have q16 : ¬ x0 < (8304 : Int32) := own_nlt h1 (by decide)
  have q17 : (8591 : Int32) < x0 := own_gt h1 (by decide)
  have q18 : ¬ x0 < (11264 : Int32) := own_nlt h1 (by decide)
  have q19 : (12271 : Int32) < x0 := own_gt h1 (by decide)
  have q20 : ¬ x0 < (12289 : Int32) := own_nlt h1 (by decide)
  have q21 : (55295 : Int32) < x0 := own_gt h1 (by decide)
  have q22 : ¬ x0 < (63744 : Int32) := own_nlt h1 (by decide)
  have q23 : (64975 : Int32) < x0 := own_gt h1 (by decide)
  have q24 : ¬ x0 < (65008 : Int32) := own_nlt h1 (by decide)
  have q25 : (65533 : Int32) < x0 := own_gt h1 (by decide)
  have q26 : x0 < (65536 : Int32) := own_lt h2 (by decide)
  have e_g2_178_x : g2_178 x0 = (0 : Int32) := (if_pos q26)
  have e_g2_164_x : g2_164 x0 = (0 : Int32) := ((if_neg q24).trans ((if_pos q25).trans e_g2_178_x))
  have e_g2_150_x : g2_150 x0 = (0 : Int32) := ((if_neg q22).trans ((if_pos q23).trans e_g2_164_x))
  have e_g2_136_x : g2_136 x0 = (0 : Int32) := ((if_neg q20).trans ((if_pos q21).trans e_g2_150_x))
  have e_g2_122_x : g2_122 x0 = (0 : Int32) := ((if_neg q18).trans ((if_pos q19).trans e_g2_136_x))
  have e_g2_108_x : g2_108 x0 = (0 : Int32) := ((if_neg q16).trans ((if_pos q17).trans e_g2_122_x))
  have e_g2_94_x : g2_94 x0 = (0 : Int32) := ((if_neg q14).trans ((if_pos q15).trans e_g2_108_x))
  have e_g2_80_x : g2_80 x0 = (0 : Int32) := ((if_neg q12).trans ((if_pos q13).trans e_g2_94_x))
  have e_g2_66_x : g2_66 x0 = (0 : Int32) := ((if_neg q10).trans ((if_pos q11).trans e_g2_80_x))
  have e_g2_52_x : g2_52 x0 = (0 : Int32) := ((if_neg q8).trans ((if_pos q9).trans e_g2_66_x))
  have e_g2_38_x : g2_38 x0 = (0 : Int32) := ((if_neg q6).trans ((if_pos q7).trans e_g2_52_x))
  have e_g2_24_x : g2_24 x0 = (0 : Int32) := ((if_neg q4).trans ((if_pos q5).trans e_g2_38_x))
  have e_g2_12_x : g2_12 x0 = (0 : Int32) := ((if_neg q2).trans ((if_pos q3).trans e_g2_24_x))
  have e_g2_0_x : g2_0 x0 = (0 : Int32) := ((if_neg q0).trans ((if_pos q1).trans e_g2_12_x))
  have e_f2_x : f2 x0 = (0 : Int32) := e_g2_0_x
  have q27 : ¬ x0 = (95 : Int32) := own_ne1 h1 (by decide)
  have e_g1_0_x : g1_0 x0 = (0 : Int32) := ((if_pos (by rw [e_f2_x])).trans (if_neg q27))
  have e_f1_x : f1 x0 = (0 : Int32) := e_g1_0_x
  have q28 : ¬ (983039 : Int32) < x0 := own_ngt h2 (by decide)
  have q29 : ¬ x0 < (91 : Int32) := own_nlt h1 (by decide)
  have q30 : (94 : Int32) < x0 := own_gt h1 (by decide)
  have q31 : ¬ x0 = (96 : Int32) := own_ne1 h1 (by decide)
  have q32 : ¬ x0 < (123 : Int32) := own_nlt h1 (by decide)
  have q33 : (191 : Int32) < x0 := own_gt h1 (by decide)
  have q34 : ¬ x0 = (215 : Int32) := own_ne1 h1 (by decide)
  have q35 : ¬ x0 = (247 : Int32) := own_ne1 h1 (by decide)
  have q36 : ¬ x0 < (768 : Int32) := own_nlt h1 (by decide)
  have q37 : (879 : Int32) < x0 := own_gt h1 (by decide)
  have q38 : ¬ x0 = (894 : Int32) := own_ne1 h1 (by decide)
  have q39 : ¬ x0 < (8192 : Int32) := own_nlt h1 (by decide)
  have q40 : (8203 : Int32) < x0 := own_gt h1 (by decide)
  have q41 : ¬ x0 < (8206 : Int32) := own_nlt h1 (by decide)
  have q42 : (8303 : Int32) < x0 := own_gt h1 (by decide)
  have q43 : ¬ x0 < (8592 : Int32) := own_nlt h1 (by decide)
  have q44 : (11263 : Int32) < x0 := own_gt h1 (by decide)
  have q45 : ¬ x0 < (12272 : Int32) := own_nlt h1 (by decide)
  have q46 : (12288 : Int32) < x0 := own_gt h1 (by decide)
  have q47 : ¬ x0 < (55296 : Int32) := own_nlt h1 (by decide)
  have q48 : (63743 : Int32) < x0 := own_gt h1 (by decide)
  have q49 : ¬ x0 < (64976 : Int32) := own_nlt h1 (by decide)
  have q50 : (65007 : Int32) < x0 := own_gt h1 (by decide)
  have q51 : x0 = (65534 : Int32) := own_eq h1 h2 (by decide)
  have e_g3_184_x : g3_184 x0 = (0 : Int32) := (if_pos q51)
  have e_g3_170_x : g3_170 x0 = (0 : Int32) := ((if_neg q49).trans ((if_pos q50).trans e_g3_184_x))
  have e_g3_156_x : g3_156 x0 = (0 : Int32) := ((if_neg q47).trans ((if_pos q48).trans e_g3_170_x))
  have e_g3_140_x : g3_140 x0 = (0 : Int32) := ((if_neg q45).trans ((if_pos q46).trans e_g3_156_x))
  have e_g3_124_x : g3_124 x0 = (0 : Int32) := ((if_neg q43).trans ((if_pos q44).trans e_g3_140_x))
  have e_g3_108_x : g3_108 x0 = (0 : Int32) := ((if_neg q41).trans ((if_pos q42).trans e_g3_124_x))
  have e_g3_83_x : g3_83 x0 = (0 : Int32) := ((if_neg q38).trans ((if_neg q39).trans ((if_pos q40).trans e_g3_108_x)))
  have e_g3_51_x : g3_51 x0 = (0 : Int32) := ((if_neg q34).trans ((if_neg q35).trans ((if_neg q36).trans ((if_pos q37).trans e_g3_83_x))))
  have e_g3_28_x : g3_28 x0 = (0 : Int32) := ((if_neg q31).trans ((if_neg q32).trans ((if_pos q33).trans e_g3_51_x)))
  have e_g3_0_x : g3_0 x0 = (0 : Int32) := ((if_neg q0).trans ((if_neg q28).trans ((if_neg q29).trans ((if_pos q30).trans e_g3_28_x))))
  have e_f3_x : f3 x0 = (0 : Int32) := e_g3_0_x
  rw [e_f1_x, e_f3_x]
theorem own_iv_75 (x0 : Int32) (h1 : (65535 : Int) ≤ x0.toInt) (h2 : x0.toInt < (65536 : Int)) : f1 x0 = f3 x0 := by
  have q0 : ¬ x0 < (65 : Int32) := own_nlt h1 (by decide)
  have q1 : (90 : Int32) < x0 := own_gt h1 (by decide)
  have q2 : ¬ x0 < (97 : Int32) := own_nlt h1 (by decide)
  have q3 : (122 : Int32) < x0 := own_gt h1 (by decide)
  have q4 : ¬ x0 < (192 : Int32) := own_nlt h1 (by decide)
  have q5 : (214 : Int32) < x0 := own_gt h1 (by decide)
  have q6 : ¬ x0 < (216 : Int32) := own_nlt h1 (by decide)
  have q7 : (246 : Int32) < x0 := own_gt h1 (by decide)
  have q8 : ¬ x0 < (248 : Int32) := own_nlt h1 (by decide)
  have q9 : (767 : Int32) < x0 := own_gt h1 (by decide)
  have q10 : ¬ x0 < (880 : Int32) := own_nlt h1 (by decide)
  have q11 : (893 : Int32) < x0 := own_gt h1 (by decide)
  have q12 : ¬ x0 < (895 : Int32) := own_nlt h1 (by decide)
  have q13 : (8191 : Int32) < x0 := own_gt h1 (by decide)
  have q14 : ¬ x0 < (8204 : Int32) := own_nlt h1 (by decide)
  have q15 : (8205 : Int32) < x0 := own_gt h1 (by decide)
  have q16 : ¬ x0 < (8304 : Int32) := own_nlt h1 (by decide)
  have q17 : (8591 : Int32) < x0 := own_gt h1 (by decide)
  have q18 : ¬ x0 < (11264 : Int32) := own_nlt h1 (by decide)
  have q19 : (12271 : Int32) < x0 := own_gt h1 (by decide)
  have q20 : ¬ x0 < (12289 : Int32) := own_nlt h1 (by decide)
  have q21 : (55295 : Int32) < x0 := own_gt h1 (by decide)
  have q22 : ¬ x0 < (63744 : Int32) := own_nlt h1 (by decide)
  have q23 : (64975 : Int32) < x0 := own_gt h1 (by decide)
  have q24 : ¬ x0 < (65008 : Int32) := own_nlt h1 (by decide)
  have q25 : (65533 : Int32) < x0 := own_gt h1 (by decide)
  have q26 : x0 < (65536 : Int32) := own_lt h2 (by decide)
  have e_g2_178_x : g2_178 x0 = (0 : Int32) := (if_pos q26)
  have e_g2_164_x : g2_164 x0 = (0 : Int32) := ((if_neg q24).trans ((if_pos q25).trans e_g2_178_x))
  have e_g2_150_x : g2_150 x0 = (0 : Int32) := ((if_neg q22).trans ((if_pos q23).trans e_g2_164_x))
  have e_g2_136_x : g2_136 x0 = (0 : Int32) := ((if_neg q20).trans ((if_pos q21).trans e_g2_150_x))
  have e_g2_122_x : g2_122 x0 = (0 : Int32) := ((if_neg q18).trans ((if_pos q19).trans e_g2_136_x))
  have e_g2_108_x : g2_108 x0 = (0 : Int32) := ((if_neg q16).trans ((if_pos q17).trans e_g2_122_x))
  have e_g2_94_x : g2_94 x0 = (0 : Int32) := ((if_neg q14).trans ((if_pos q15).trans e_g2_108_x))
  have e_g2_80_x : g2_80 x0 = (0 : Int32) := ((if_neg q12).trans ((if_pos q13).trans e_g2_94_x))
  have e_g2_66_x : g2_66 x0 = (0 : Int32) := ((if_neg q10).trans ((if_pos q11).trans e_g2_80_x))
  have e_g2_52_x : g2_52 x0 = (0 : Int32) := ((if_neg q8).trans ((if_pos q9).trans e_g2_66_x))
  have e_g2_38_x : g2_38 x0 = (0 : Int32) := ((if_neg q6).trans ((if_pos q7).trans e_g2_52_x))
  have e_g2_24_x : g2_24 x0 = (0 : Int32) := ((if_neg q4).trans ((if_pos q5).trans e_g2_38_x))
  have e_g2_12_x : g2_12 x0 = (0 : Int32) := ((if_neg q2).trans ((if_pos q3).trans e_g2_24_x))
  have e_g2_0_x : g2_0 x0 = (0 : Int32) := ((if_neg q0).trans ((if_pos q1).trans e_g2_12_x))
  have e_f2_x : f2 x0 = (0 : Int32) := e_g2_0_x
  have q27 : ¬ x0 = (95 : Int32) := own_ne1 h1 (by decide)
  have e_g1_0_x : g1_0 x0 = (0 : Int32) := ((if_pos (by rw [e_f2_x])).trans (if_neg q27))
  have e_f1_x : f1 x0 = (0 : Int32) := e_g1_0_x
  have q28 : ¬ (983039 : Int32) < x0 := own_ngt h2 (by decide)
  have q29 : ¬ x0 < (91 : Int32) := own_nlt h1 (by decide)
  have q30 : (94 : Int32) < x0 := own_gt h1 (by decide)
  have q31 : ¬ x0 = (96 : Int32) := own_ne1 h1 (by decide)
  have q32 : ¬ x0 < (123 : Int32) := own_nlt h1 (by decide)
  have q33 : (191 : Int32) < x0 := own_gt h1 (by decide)
  have q34 : ¬ x0 = (215 : Int32) := own_ne1 h1 (by decide)
  have q35 : ¬ x0 = (247 : Int32) := own_ne1 h1 (by decide)
  have q36 : ¬ x0 < (768 : Int32) := own_nlt h1 (by decide)
  have q37 : (879 : Int32) < x0 := own_gt h1 (by decide)
  have q38 : ¬ x0 = (894 : Int32) := own_ne1 h1 (by decide)
  have q39 : ¬ x0 < (8192 : Int32) := own_nlt h1 (by decide)
  have q40 : (8203 : Int32) < x0 := own_gt h1 (by decide)
  have q41 : ¬ x0 < (8206 : Int32) := own_nlt h1 (by decide)
  have q42 : (8303 : Int32) < x0 := own_gt h1 (by decide)
  have q43 : ¬ x0 < (8592 : Int32) := own_nlt h1 (by decide)
  have q44 : (11263 : Int32) < x0 := own_gt h1 (by decide)
  have q45 : ¬ x0 < (12272 : Int32) := own_nlt h1 (by decide)
  have q46 : (12288 : Int32) < x0 := own_gt h1 (by decide)
  have q47 : ¬ x0 < (55296 : Int32) := own_nlt h1 (by decide)
  have q48 : (63743 : Int32) < x0 := own_gt h1 (by decide)
  have q49 : ¬ x0 < (64976 : Int32) := own_nlt h1 (by decide)
  have q50 : (65007 : Int32) < x0 := own_gt h1 (by decide)
  have q51 : ¬ x0 = (65534 : Int32) := own_ne1 h1 (by decide)
  have q52 : x0 = (65535 : Int32) := own_eq h1 h2 (by decide)
  have e_g3_184_x : g3_184 x0 = (0 : Int32) := ((if_neg q51).trans (if_pos q52))
  have e_g3_170_x : g3_170 x0 = (0 : Int32) := ((if_neg q49).trans ((if_pos q50).trans e_g3_184_x))
  have e_g3_156_x : g3_156 x0 = (0 : Int32) := ((if_neg q47).trans ((if_pos q48).trans e_g3_170_x))
  have e_g3_140_x : g3_140 x0 = (0 : Int32) := ((if_neg q45).trans ((if_pos q46).trans e_g3_156_x))
  have e_g3_124_x : g3_124 x0 = (0 : Int32) := ((if_neg q43).trans ((if_pos q44).trans e_g3_140_x))
  have e_g3_108_x : g3_108 x0 = (0 : Int32) := ((if_neg q41).trans ((if_pos q42).trans e_g3_124_x))
  have e_g3_83_x : g3_83 x0 = (0 : Int32) := ((if_neg q38).trans ((if_neg q39).trans ((if_pos q40).trans e_g3_108_x)))
  have e_g3_51_x : g3_51 x0 = (0 : Int32) := ((if_neg q34).trans ((if_neg q35).trans ((if_neg q36).trans ((if_pos q37).trans e_g3_83_x))))
  have e_g3_28_x : g3_28 x0 = (0 : Int32) := ((if_neg q31).trans ((if_neg q32).trans ((if_pos q33).trans e_g3_51_x)))
  have e_g3_0_x : g3_0 x0 = (0 : Int32) := ((if_neg q0).trans ((if_neg q28).trans ((if_neg q29).trans ((if_pos q30).trans e_g3_28_x))))
  have e_f3_x : f3 x0 = (0 : Int32) := e_g3_0_x
  rw [e_f1_x, e_f3_x]
theorem own_iv_76 (x0 : Int32) (h1 : (65536 : Int) ≤ x0.toInt) (h2 : x0.toInt < (65537 : Int)) : f1 x0 = f3 x0 := by
  have q0 : ¬ x0 < (65 : Int32) := own_nlt h1 (by decide)
  have q1 : (90 : Int32) < x0 := own_gt h1 (by decide)
  have q2 : ¬ x0 < (97 : Int32) := own_nlt h1 (by decide)
  have q3 : (122 : Int32) < x0 := own_gt h1 (by decide)
  have q4 : ¬ x0 < (192 : Int32) := own_nlt h1 (by decide)
  have q5 : (214 : Int32) < x0 := own_gt h1 (by decide)
  have q6 : ¬ x0 < (216 : Int32) := own_nlt h1 (by decide)
  have q7 : (246 : Int32) < x0 := own_gt h1 (by decide)
  have q8 : ¬ x0 < (248 : Int32) := own_nlt h1 (by decide)
  have q9 : (767 : Int32) < x0 := own_gt h1 (by decide)
  have q10 : ¬ x0 < (880 : Int32) := own_nlt h1 (by decide)
  have q11 : (893 : Int32) < x0 := own_gt h1 (by decide)
  have q12 : ¬ x0 < (895 : Int32) := own_nlt h1 (by decide)
  have q13 : (8191 : Int32) < x0 := own_gt h1 (by decide)
  have q14 : ¬ x0 < (8204 : Int32) := own_nlt h1 (by decide)
  have q15 : (8205 : Int32) < x0 := own_gt h1 (by decide)
  have q16 : ¬ x0 < (8304 : Int32) := own_nlt h1 (by decide)
  have q17 : (8591 : Int32) < x0 := own_gt h1 (by decide)
  have q18 : ¬ x0 < (11264 : Int32) := own_nlt h1 (by decide)
  have q19 : (12271 : Int32) < x0 := own_gt h1 (by decide)
  have q20 : ¬ x0 < (12289 : Int32) := own_nlt h1 (by decide)
  have q21 : (55295 : Int32) < x0 := own_gt h1 (by decide)
  have q22 : ¬ x0 < (63744 : Int32) := own_nlt h1 (by decide)
  have q23 : (64975 : Int32) < x0 := own_gt h1 (by decide)
  have q24 : ¬ x0 < (65008 : Int32) := own_nlt h1 (by decide)
  have q25 : (65533 : Int32) < x0 := own_gt h1 (by decide)
  have q26 : ¬ x0 < (65536 : Int32) := own_nlt h1 (by decide)
  have q27 : ¬ (983039 : Int32) < x0 := own_ngt h2 (by decide)
  have e_g2_178_x : g2_178 x0 = (1 : Int32) := ((if_neg q26).trans (if_neg q27))
  have e_g2_164_x : g2_164 x0 = (1 : Int32) := ((if_neg q24).trans ((if_pos q25).trans e_g2_178_x))
  have e_g2_150_x : g2_150 x0 = (1 : Int32) := ((if_neg q22).trans ((if_pos q23).trans e_g2_164_x))
  have e_g2_136_x : g2_136 x0 = (1 : Int32) := ((if_neg q20).trans ((if_pos q21).trans e_g2_150_x))
  have e_g2_122_x : g2_122 x0 = (1 : Int32) := ((if_neg q18).trans ((if_pos q19).trans e_g2_136_x))
  have e_g2_108_x : g2_108 x0 = (1 : Int32) := ((if_neg q16).trans ((if_pos q17).trans e_g2_122_x))
  have e_g2_94_x : g2_94 x0 = (1 : Int32) := ((if_neg q14).trans ((if_pos q15).trans e_g2_108_x))
  have e_g2_80_x : g2_80 x0 = (1 : Int32) := ((if_neg q12).trans ((if_pos q13).trans e_g2_94_x))
  have e_g2_66_x : g2_66 x0 = (1 : Int32) := ((if_neg q10).trans ((if_pos q11).trans e_g2_80_x))
  have e_g2_52_x : g2_52 x0 = (1 : Int32) := ((if_neg q8).trans ((if_pos q9).trans e_g2_66_x))
  have e_g2_38_x : g2_38 x0 = (1 : Int32) := ((if_neg q6).trans ((if_pos q7).trans e_g2_52_x))
  have e_g2_24_x : g2_24 x0 = (1 : Int32) := ((if_neg q4).trans ((if_pos q5).trans e_g2_38_x))
  have e_g2_12_x : g2_12 x0 = (1 : Int32) := ((if_neg q2).trans ((if_pos q3).trans e_g2_24_x))
  have e_g2_0_x : g2_0 x0 = (1 : Int32) := ((if_neg q0).trans ((if_pos q1).trans e_g2_12_x))
  have e_f2_x : f2 x0 = (1 : Int32) := e_g2_0_x
  have e_g1_0_x : g1_0 x0 = (1 : Int32) := (if_neg (by rw [e_f2_x]; decide))
  have e_f1_x : f1 x0 = (1 : Int32) := e_g1_0_x
  have q28 : ¬ x0 < (91 : Int32) := own_nlt h1 (by decide)
  have q29 : (94 : Int32) < x0 := own_gt h1 (by decide)
  have q30 : ¬ x0 = (96 : Int32) := own_ne1 h1 (by decide)
  have q31 : ¬ x0 < (123 : Int32) := own_nlt h1 (by decide)
  have q32 : (191 : Int32) < x0 := own_gt h1 (by decide)
  have q33 : ¬ x0 = (215 : Int32) := own_ne1 h1 (by decide)
  have q34 : ¬ x0 = (247 : Int32) := own_ne1 h1 (by decide)
  have q35 : ¬ x0 < (768 : Int32) := own_nlt h1 (by decide)
  have q36 : (879 : Int32) < x0 := own_gt h1 (by decide)
  have q37 : ¬ x0 = (894 : Int32) := own_ne1 h1 (by decide)
  have q38 : ¬ x0 < (8192 : Int32) := own_nlt h1 (by decide)
  have q39 : (8203 : Int32) < x0 := own_gt h1 (by decide)
  have q40 : ¬ x0 < (8206 : Int32) := own_nlt h1 (by decide)
  have q41 : (8303 : Int32) < x0 := own_gt h1 (by decide)
  have q42 : ¬ x0 < (8592 : Int32) := own_nlt h1 (by decide)
  have q43 : (11263 : Int32) < x0 := own_gt h1 (by decide)
  have q44 : ¬ x0 < (12272 : Int32) := own_nlt h1 (by decide)
  have q45 : (12288 : Int32) < x0 := own_gt h1 (by decide)
  have q46 : ¬ x0 < (55296 : Int32) := own_nlt h1 (by decide)
  have q47 : (63743 : Int32) < x0 := own_gt h1 (by decide)
  have q48 : ¬ x0 < (64976 : Int32) := own_nlt h1 (by decide)
  have q49 : (65007 : Int32) < x0 := own_gt h1 (by decide)
  have q50 : ¬ x0 = (65534 : Int32) := own_ne1 h1 (by decide)
  have q51 : ¬ x0 = (65535 : Int32) := own_ne1 h1 (by decide)
  have e_g3_184_x : g3_184 x0 = (1 : Int32) := ((if_neg q50).trans (if_neg q51))
  have e_g3_170_x : g3_170 x0 = (1 : Int32) := ((if_neg q48).trans ((if_pos q49).trans e_g3_184_x))
  have e_g3_156_x : g3_156 x0 = (1 : Int32) := ((if_neg q46).trans ((if_pos q47).trans e_g3_170_x))
  have e_g3_140_x : g3_140 x0 = (1 : Int32) := ((if_neg q44).trans ((if_pos q45).trans e_g3_156_x))
  have e_g3_124_x : g3_124 x0 = (1 : Int32) := ((if_neg q42).trans ((if_pos q43).trans e_g3_140_x))
  have e_g3_108_x : g3_108 x0 = (1 : Int32) := ((if_neg q40).trans ((if_pos q41).trans e_g3_124_x))
  have e_g3_83_x : g3_83 x0 = (1 : Int32) := ((if_neg q37).trans ((if_neg q38).trans ((if_pos q39).trans e_g3_108_x)))
  have e_g3_51_x : g3_51 x0 = (1 : Int32) := ((if_neg q33).trans ((if_neg q34).trans ((if_neg q35).trans ((if_pos q36).trans e_g3_83_x))))
  have e_g3_28_x : g3_28 x0 = (1 : Int32) := ((if_neg q30).trans ((if_neg q31).trans ((if_pos q32).trans e_g3_51_x)))
  have e_g3_0_x : g3_0 x0 = (1 : Int32) := ((if_neg q0).trans ((if_neg q27).trans ((if_neg q28).trans ((if_pos q29).trans e_g3_28_x))))
  have e_f3_x : f3 x0 = (1 : Int32) := e_g3_0_x
  rw [e_f1_x, e_f3_x]
theorem own_iv_77 (x0 : Int32) (h1 : (65537 : Int) ≤ x0.toInt) (h2 : x0.toInt < (983039 : Int)) : f1 x0 = f3 x0 := by
  have q0 : ¬ x0 < (65 : Int32) := own_nlt h1 (by decide)
  have q1 : (90 : Int32) < x0 := own_gt h1 (by decide)
  have q2 : ¬ x0 < (97 : Int32) := own_nlt h1 (by decide)
  have q3 : (122 : Int32) < x0 := own_gt h1 (by decide)
  have q4 : ¬ x0 < (192 : Int32) := own_nlt h1 (by decide)
  have q5 : (214 : Int32) < x0 := own_gt h1 (by decide)
  have q6 : ¬ x0 < (216 : Int32) := own_nlt h1 (by decide)
  have q7 : (246 : Int32) < x0 := own_gt h1 (by decide)
  have q8 : ¬ x0 < (248 : Int32) := own_nlt h1 (by decide)
  have q9 : (767 : Int32) < x0 := own_gt h1 (by decide)
  have q10 : ¬ x0 < (880 : Int32) := own_nlt h1 (by decide)
  have q11 : (893 : Int32) < x0 := own_gt h1 (by decide)
  have q12 : ¬ x0 < (895 : Int32) := own_nlt h1 (by decide)
  have q13 : (8191 : Int32) < x0 := own_gt h1 (by decide)
  have q14 : ¬ x0 < (8204 : Int32) := own_nlt h1 (by decide)
  have q15 : (8205 : Int32) < x0 := own_gt h1 (by decide)
  have q16 : ¬ x0 < (8304 : Int32) := own_nlt h1 (by decide)
  have q17 : (8591 : Int32) < x0 := own_gt h1 (by decide)
  have q18 : ¬ x0 < (11264 : Int32) := own_nlt h1 (by decide)
  have q19 : (12271 : Int32) < x0 := own_gt h1 (by decide)
  have q20 : ¬ x0 < (12289 : Int32) := own_nlt h1 (by decide)
  have q21 : (55295 : Int32) < x0 := own_gt h1 (by decide)
  have q22 : ¬ x0 < (63744 : Int32) := own_nlt h1 (by decide)
  have q23 : (64975 : Int32) < x0 := own_gt h1 (by decide)
  have q24 : ¬ x0 < (65008 : Int32) := own_nlt h1 (by decide)
  have q25 : (65533 : Int32) < x0 := own_gt h1 (by decide)
  have q26 : ¬ x0 < (65536 : Int32) := own_nlt h1 (by decide)
  have q27 : ¬ (983039 : Int32) < x0 := own_ngt h2 (by decide)
  have e_g2_178_x : g2_178 x0 = (1 : Int32) := ((if_neg q26).trans (if_neg q27))
  have e_g2_164_x : g2_164 x0 = (1 : Int32) := ((if_neg q24).trans ((if_pos q25).trans e_g2_178_x))
  have e_g2_150_x : g2_150 x0 = (1 : Int32) := ((if_neg q22).trans ((if_pos q23).trans e_g2_164_x))
  have e_g2_136_x : g2_136 x0 = (1 : Int32) := ((if_neg q20).trans ((if_pos q21).trans e_g2_150_x))
  have e_g2_122_x : g2_122 x0 = (1 : Int32) := ((if_neg q18).trans ((if_pos q19).trans e_g2_136_x))
  have e_g2_108_x : g2_108 x0 = (1 : Int32) := ((if_neg q16).trans ((if_pos q17).trans e_g2_122_x))
  have e_g2_94_x : g2_94 x0 = (1 : Int32) := ((if_neg q14).trans ((if_pos q15).trans e_g2_108_x))
  have e_g2_80_x : g2_80 x0 = (1 : Int32) := ((if_neg q12).trans ((if_pos q13).trans e_g2_94_x))
  have e_g2_66_x : g2_66 x0 = (1 : Int32) := ((if_neg q10).trans ((if_pos q11).trans e_g2_80_x))
  have e_g2_52_x : g2_52 x0 = (1 : Int32) := ((if_neg q8).trans ((if_pos q9).trans e_g2_66_x))
  have e_g2_38_x : g2_38 x0 = (1 : Int32) := ((if_neg q6).trans ((if_pos q7).trans e_g2_52_x))
  have e_g2_24_x : g2_24 x0 = (1 : Int32) := ((if_neg q4).trans ((if_pos q5).trans e_g2_38_x))
  have e_g2_12_x : g2_12 x0 = (1 : Int32) := ((if_neg q2).trans ((if_pos q3).trans e_g2_24_x))
  have e_g2_0_x : g2_0 x0 = (1 : Int32) := ((if_neg q0).trans ((if_pos q1).trans e_g2_12_x))
  have e_f2_x : f2 x0 = (1 : Int32) := e_g2_0_x
  have e_g1_0_x : g1_0 x0 = (1 : Int32) := (if_neg (by rw [e_f2_x]; decide))
  have e_f1_x : f1 x0 = (1 : Int32) := e_g1_0_x
  have q28 : ¬ x0 < (91 : Int32) := own_nlt h1 (by decide)
  have q29 : (94 : Int32) < x0 := own_gt h1 (by decide)
  have q30 : ¬ x0 = (96 : Int32) := own_ne1 h1 (by decide)
  have q31 : ¬ x0 < (123 : Int32) := own_nlt h1 (by decide)
  have q32 : (191 : Int32) < x0 := own_gt h1 (by decide)
  have q33 : ¬ x0 = (215 : Int32) := own_ne1 h1 (by decide)
  have q34 : ¬ x0 = (247 : Int32) := own_ne1 h1 (by decide)
  have q35 : ¬ x0 < (768 : Int32) := own_nlt h1 (by decide)
  have q36 : (879 : Int32) < x0 := own_gt h1 (by decide)
  have q37 : ¬ x0 = (894 : Int32) := own_ne1 h1 (by decide)
  have q38 : ¬ x0 < (8192 : Int32) := own_nlt h1 (by decide)
  have q39 : (8203 : Int32) < x0 := own_gt h1 (by decide)
  have q40 : ¬ x0 < (8206 : Int32) := own_nlt h1 (by decide)
  have q41 : (8303 : Int32) < x0 := own_gt h1 (by decide)
  have q42 : ¬ x0 < (8592 : Int32) := own_nlt h1 (by decide)
  have q43 : (11263 : Int32) < x0 := own_gt h1 (by decide)
  have q44 : ¬ x0 < (12272 : Int32) := own_nlt h1 (by decide)
  have q45 : (12288 : Int32) < x0 := own_gt h1 (by decide)
  have q46 : ¬ x0 < (55296 : Int32) := own_nlt h1 (by decide)
  have q47 : (63743 : Int32) < x0 := own_gt h1 (by decide)
  have q48 : ¬ x0 < (64976 : Int32) := own_nlt h1 (by decide)
  have q49 : (65007 : Int32) < x0 := own_gt h1 (by decide)
  have q50 : ¬ x0 = (65534 : Int32) := own_ne1 h1 (by decide)
  have q51 : ¬ x0 = (65535 : Int32) := own_ne1 h1 (by decide)
  have e_g3_184_x : g3_184 x0 = (1 : Int32) := ((if_neg q50).trans (if_neg q51))
  have e_g3_170_x : g3_170 x0 = (1 : Int32) := ((if_neg q48).trans ((if_pos q49).trans e_g3_184_x))
  have e_g3_156_x : g3_156 x0 = (1 : Int32) := ((if_neg q46).trans ((if_pos q47).trans e_g3_170_x))
  have e_g3_140_x : g3_140 x0 = (1 : Int32) := ((if_neg q44).trans ((if_pos q45).trans e_g3_156_x))
  have e_g3_124_x : g3_124 x0 = (1 : Int32) := ((if_neg q42).trans ((if_pos q43).trans e_g3_140_x))
  have e_g3_108_x : g3_108 x0 = (1 : Int32) := ((if_neg q40).trans ((if_pos q41).trans e_g3_124_x))
  have e_g3_83_x : g3_83 x0 = (1 : Int32) := ((if_neg q37).trans ((if_neg q38).trans ((if_pos q39).trans e_g3_108_x)))
  have e_g3_51_x : g3_51 x0 = (1 : Int32) := ((if_neg q33).trans ((if_neg q34).trans ((if_neg q35).trans ((if_pos q36).trans e_g3_83_x))))
  have e_g3_28_x : g3_28 x0 = (1 : Int32) := ((if_neg q30).trans ((if_neg q31).trans ((if_pos q32).trans e_g3_51_x)))
  have e_g3_0_x : g3_0 x0 = (1 : Int32) := ((if_neg q0).trans ((if_neg q27).trans ((if_neg q28).trans ((if_pos q29).trans e_g3_28_x))))
  have e_f3_x : f3 x0 = (1 : Int32) := e_g3_0_x
  rw [e_f1_x, e_f3_x]
theorem own_iv_78 (x0 : Int32) (h1 : (983039 : Int) ≤ x0.toInt) (h2 : x0.toInt < (983040 : Int)) : f1 x0 = f3 x0 := by
  have q0 : ¬ x0 < (65 : Int32) := own_nlt h1 (by decide)
  have q1 : (90 : Int32) < x0 := own_gt h1 (by decide)
  have q2 : ¬ x0 < (97 : Int32) := own_nlt h1 (by decide)
  have q3 : (122 : Int32) < x0 := own_gt h1 (by decide)
  have q4 : ¬ x0 < (192 : Int32) := own_nlt h1 (by decide)
  have q5 : (214 : Int32) < x0 := own_gt h1 (by decide)
  have q6 : ¬ x0 < (216 : Int32) := own_nlt h1 (by decide)
  have q7 : (246 : Int32) < x0 := own_gt h1 (by decide)
  have q8 : ¬ x0 < (248 : Int32) := own_nlt h1 (by decide)
  have q9 : (767 : Int32) < x0 := own_gt h1 (by decide)
  have q10 : ¬ x0 < (880 : Int32) := own_nlt h1 (by decide)
  have q11 : (893 : Int32) < x0 := own_gt h1 (by decide)
  have q12 : ¬ x0 < (895 : Int32) := own_nlt h1 (by decide)
  have q13 : (8191 : Int32) < x0 := own_gt h1 (by decide)
  have q14 : ¬ x0 < (8204 : Int32) := own_nlt h1 (by decide)
  have q15 : (8205 : Int32) < x0 := own_gt h1 (by decide)
  have q16 : ¬ x0 < (8304 : Int32) := own_nlt h1 (by decide)
  have q17 : (8591 : Int32) < x0 := own_gt h1 (by decide)
  have q18 : ¬ x0 < (11264 : Int32) := own_nlt h1 (by decide)
  have q19 : (12271 : Int32) < x0 := own_gt h1 (by decide)
  have q20 : ¬ x0 < (12289 : Int32) := own_nlt h1 (by decide)
  have q21 : (55295 : Int32) < x0 := own_gt h1 (by decide)
  have q22 : ¬ x0 < (63744 : Int32) := own_nlt h1 (by decide)
  have q23 : (64975 : Int32) < x0 := own_gt h1 (by decide)
  have q24 : ¬ x0 < (65008 : Int32) := own_nlt h1 (by decide)
  have q25 : (65533 : Int32) < x0 := own_gt h1 (by decide)
  have q26 : ¬ x0 < (65536 : Int32) := own_nlt h1 (by decide)
  have q27 : ¬ (983039 : Int32) < x0 := own_ngt h2 (by decide)
  have e_g2_178_x : g2_178 x0 = (1 : Int32) := ((if_neg q26).trans (if_neg q27))
  have e_g2_164_x : g2_164 x0 = (1 : Int32) := ((if_neg q24).trans ((if_pos q25).trans e_g2_178_x))
  have e_g2_150_x : g2_150 x0 = (1 : Int32) := ((if_neg q22).trans ((if_pos q23).trans e_g2_164_x))
  have e_g2_136_x : g2_136 x0 = (1 : Int32) := ((if_neg q20).trans ((if_pos q21).trans e_g2_150_x))
  have e_g2_122_x : g2_122 x0 = (1 : Int32) := ((if_neg q18).trans ((if_pos q19).trans e_g2_136_x))
  have e_g2_108_x : g2_108 x0 = (1 : Int32) := ((if_neg q16).trans ((if_pos q17).trans e_g2_122_x))
  have e_g2_94_x : g2_94 x0 = (1 : Int32) := ((if_neg q14).trans ((if_pos q15).trans e_g2_108_x))
  have e_g2_80_x : g2_80 x0 = (1 : Int32) := ((if_neg q12).trans ((if_pos q13).trans e_g2_94_x))
  have e_g2_66_x : g2_66 x0 = (1 : Int32) := ((if_neg q10).trans ((if_pos q11).trans e_g2_80_x))
  have e_g2_52_x : g2_52 x0 = (1 : Int32) := ((if_neg q8).trans ((if_pos q9).trans e_g2_66_x))
  have e_g2_38_x : g2_38 x0 = (1 : Int32) := ((if_neg q6).trans ((if_pos q7).trans e_g2_52_x))
  have e_g2_24_x : g2_24 x0 = (1 : Int32) := ((if_neg q4).trans ((if_pos q5).trans e_g2_38_x))
  have e_g2_12_x : g2_12 x0 = (1 : Int32) := ((if_neg q2).trans ((if_pos q3).trans e_g2_24_x))
  have e_g2_0_x : g2_0 x0 = (1 : Int32) := ((if_neg q0).trans ((if_pos q1).trans e_g2_12_x))
  have e_f2_x : f2 x0 = (1 : Int32) := e_g2_0_x
  have e_g1_0_x : g1_0 x0 = (1 : Int32) := (if_neg (by rw [e_f2_x]; decide))
  have e_f1_x : f1 x0 = (1 : Int32) := e_g1_0_x
  have q28 : ¬ x0 < (91 : Int32) := own_nlt h1 (by decide)
  have q29 : (94 : Int32) < x0 := own_gt h1 (by decide)
  have q30 : ¬ x0 = (96 : Int32) := own_ne1 h1 (by decide)
  have q31 : ¬ x0 < (123 : Int32) := own_nlt h1 (by decide)
  have q32 : (191 : Int32) < x0 := own_gt h1 (by decide)
  have q33 : ¬ x0 = (215 : Int32) := own_ne1 h1 (by decide)
  have q34 : ¬ x0 = (247 : Int32) := own_ne1 h1 (by decide)
  have q35 : ¬ x0 < (768 : Int32) := own_nlt h1 (by decide)
  have q36 : (879 : Int32) < x0 := own_gt h1 (by decide)
  have q37 : ¬ x0 = (894 : Int32) := own_ne1 h1 (by decide)
  have q38 : ¬ x0 < (8192 : Int32) := own_nlt h1 (by decide)
  have q39 : (8203 : Int32) < x0 := own_gt h1 (by decide)
  have q40 : ¬ x0 < (8206 : Int32) := own_nlt h1 (by decide)
  have q41 : (8303 : Int32) < x0 := own_gt h1 (by decide)
  have q42 : ¬ x0 < (8592 : Int32) := own_nlt h1 (by decide)
  have q43 : (11263 : Int32) < x0 := own_gt h1 (by decide)
  have q44 : ¬ x0 < (12272 : Int32) := own_nlt h1 (by decide)
  have q45 : (12288 : Int32) < x0 := own_gt h1 (by decide)
  have q46 : ¬ x0 < (55296 : Int32) := own_nlt h1 (by decide)
  have q47 : (63743 : Int32) < x0 := own_gt h1 (by decide)
  have q48 : ¬ x0 < (64976 : Int32) := own_nlt h1 (by decide)
  have q49 : (65007 : Int32) < x0 := own_gt h1 (by decide)
  have q50 : ¬ x0 = (65534 : Int32) := own_ne1 h1 (by decide)
  have q51 : ¬ x0 = (65535 : Int32) := own_ne1 h1 (by decide)
  have e_g3_184_x : g3_184 x0 = (1 : Int32) := ((if_neg q50).trans (if_neg q51))
  have e_g3_170_x : g3_170 x0 = (1 : Int32) := ((if_neg q48).trans ((if_pos q49).trans e_g3_184_x))
  have e_g3_156_x : g3_156 x0 = (1 : Int32) := ((if_neg q46).trans ((if_pos q47).trans e_g3_170_x))
  have e_g3_140_x : g3_140 x0 = (1 : Int32) := ((if_neg q44).trans ((if_pos q45).trans e_g3_156_x))
  have e_g3_124_x : g3_124 x0 = (1 : Int32) := ((if_neg q42).trans ((if_pos q43).trans e_g3_140_x))
  have e_g3_108_x : g3_108 x0 = (1 : Int32) := ((if_neg q40).trans ((if_pos q41).trans e_g3_124_x))
  have e_g3_83_x : g3_83 x0 = (1 : Int32) := ((if_neg q37).trans ((if_neg q38).trans ((if_pos q39).trans e_g3_108_x)))
  have e_g3_51_x : g3_51 x0 = (1 : Int32) := ((if_neg q33).trans ((if_neg q34).trans ((if_neg q35).trans ((if_pos q36).trans e_g3_83_x))))
  have e_g3_28_x : g3_28 x0 = (1 : Int32) := ((if_neg q30).trans ((if_neg q31).trans ((if_pos q32).trans e_g3_51_x)))
  have e_g3_0_x : g3_0 x0 = (1 : Int32) := ((if_neg q0).trans ((if_neg q27).trans ((if_neg q28).trans ((if_pos q29).trans e_g3_28_x))))
  have e_f3_x : f3 x0 = (1 : Int32) := e_g3_0_x
  rw [e_f1_x, e_f3_x]
theorem own_iv_79 (x0 : Int32) (h1 : (983040 : Int) ≤ x0.toInt) (h2 : x0.toInt < (2147483648 : Int)) : f1 x0 = f3 x0 := by
  have q0 : ¬ x0 < (65 : Int32) := own_nlt h1 (by decide)
  have q1 : (90 : Int32) < x0 := own_gt h1 (by decide)
  have q2 : ¬ x0 < (97 : Int32) := own_nlt h1 (by decide)
  have q3 : (122 : Int32) < x0 := own_gt h1 (by decide)
  have q4 : ¬ x0 < (192 : Int32) := own_nlt h1 (by decide)
  have q5 : (214 : Int32) < x0 := own_gt h1 (by decide)
  have q6 : ¬ x0 < (216 : Int32) := own_nlt h1 (by decide)
  have q7 : (246 : Int32) < x0 := own_gt h1 (by decide)
  have q8 : ¬ x0 < (248 : Int32) := own_nlt h1 (by decide)
  have q9 : (767 : Int32) < x0 := own_gt h1 (by decide)
  have q10 : ¬ x0 < (880 : Int32) := own_nlt h1 (by decide)
  have q11 : (893 : Int32) < x0 := own_gt h1 (by decide)
  have q12 : ¬ x0 < (895 : Int32) := own_nlt h1 (by decide)
  have q13 : (8191 : Int32) < x0 := own_gt h1 (by decide)
  have q14 : ¬ x0 < (8204 : Int32) := own_nlt h1 (by decide)
  have q15 : (8205 : Int32) < x0 := own_gt h1 (by decide)
  have q16 : ¬ x0 < (8304 : Int32) := own_nlt h1 (by decide)
  have q17 : (8591 : Int32) < x0 := own_gt h1 (by decide)
  have q18 : ¬ x0 < (11264 : Int32) := own_nlt h1 (by decide)
  have q19 : (12271 : Int32) < x0 := own_gt h1 (by decide)
  have q20 : ¬ x0 < (12289 : Int32) := own_nlt h1 (by decide)
  have q21 : (55295 : Int32) < x0 := own_gt h1 (by decide)
  have q22 : ¬ x0 < (63744 : Int32) := own_nlt h1 (by decide)
  have q23 : (64975 : Int32) < x0 := own_gt h1 (by decide)
  have q24 : ¬ x0 < (65008 : Int32) := own_nlt h1 (by decide)
  have q25 : (65533 : Int32) < x0 := own_gt h1 (by decide)
  have q26 : ¬ x0 < (65536 : Int32) := own_nlt h1 (by decide)
  have q27 : (983039 : Int32) < x0 := own_gt h1 (by decide)
  have e_g2_178_x : g2_178 x0 = (0 : Int32) := ((if_neg q26).trans (if_pos q27))
  have e_g2_164_x : g2_164 x0 = (0 : Int32) := ((if_neg q24).trans ((if_pos q25).trans e_g2_178_x))
  have e_g2_150_x : g2_150 x0 = (0 : Int32) := ((if_neg q22).trans ((if_pos q23).trans e_g2_164_x))
  have e_g2_136_x : g2_136 x0 = (0 : Int32) := ((if_neg q20).trans ((if_pos q21).trans e_g2_150_x))
  have e_g2_122_x : g2_122 x0 = (0 : Int32) := ((if_neg q18).trans ((if_pos q19).trans e_g2_136_x))
  have e_g2_108_x : g2_108 x0 = (0 : Int32) := ((if_neg q16).trans ((if_pos q17).trans e_g2_122_x))
  have e_g2_94_x : g2_94 x0 = (0 : Int32) := ((if_neg q14).trans ((if_pos q15).trans e_g2_108_x))
  have e_g2_80_x : g2_80 x0 = (0 : Int32) := ((if_neg q12).trans ((if_pos q13).trans e_g2_94_x))
  have e_g2_66_x : g2_66 x0 = (0 : Int32) := ((if_neg q10).trans ((if_pos q11).trans e_g2_80_x))
  have e_g2_52_x : g2_52 x0 = (0 : Int32) := ((if_neg q8).trans ((if_pos q9).trans e_g2_66_x))
  have e_g2_38_x : g2_38 x0 = (0 : Int32) := ((if_neg q6).trans ((if_pos q7).trans e_g2_52_x))
  have e_g2_24_x : g2_24 x0 = (0 : Int32) := ((if_neg q4).trans ((if_pos q5).trans e_g2_38_x))
  have e_g2_12_x : g2_12 x0 = (0 : Int32) := ((if_neg q2).trans ((if_pos q3).trans e_g2_24_x))
  have e_g2_0_x : g2_0 x0 = (0 : Int32) := ((if_neg q0).trans ((if_pos q1).trans e_g2_12_x))
  have e_f2_x : f2 x0 = (0 : Int32) := e_g2_0_x
  have q28 : ¬ x0 = (95 : Int32) := own_ne1 h1 (by decide)
  have e_g1_0_x : g1_0 x0 = (0 : Int32) := ((if_pos (by rw [e_f2_x])).trans (if_neg q28))
  have e_f1_x : f1 x0 = (0 : Int32) := e_g1_0_x
  have e_g3_0_x : g3_0 x0 = (0 : Int32) := ((if_neg q0).trans (if_pos q27))
  have e_f3_x : f3 x0 = (0 : Int32) := e_g3_0_x
  rw [e_f1_x, e_f3_x]
theorem own_same (x0 : Int32) : f1 x0 = f3 x0 := by
  have r := rng32 x0
  by_cases c0 : x0.toInt < (0 : Int)
  · exact own_iv_0 x0 (by omega) c0
  by_cases c1 : x0.toInt < (1 : Int)
  · exact own_iv_1 x0 (by omega) c1
  by_cases c2 : x0.toInt < (2 : Int)
  · exact own_iv_2 x0 (by omega) c2
  by_cases c3 : x0.toInt < (65 : Int)
  · exact own_iv_3 x0 (by omega) c3
  by_cases c4 : x0.toInt < (66 : Int)
  · exact own_iv_4 x0 (by omega) c4
  by_cases c5 : x0.toInt < (90 : Int)
  · exact own_iv_5 x0 (by omega) c5
  by_cases c6 : x0.toInt < (91 : Int)
  · exact own_iv_6 x0 (by omega) c6
  by_cases c7 : x0.toInt < (92 : Int)
  · exact own_iv_7 x0 (by omega) c7
  by_cases c8 : x0.toInt < (94 : Int)
  · exact own_iv_8 x0 (by omega) c8
  by_cases c9 : x0.toInt < (95 : Int)
  · exact own_iv_9 x0 (by omega) c9
  by_cases c10 : x0.toInt < (96 : Int)
  · exact own_iv_10 x0 (by omega) c10
  by_cases c11 : x0.toInt < (97 : Int)
  · exact own_iv_11 x0 (by omega) c11
  by_cases c12 : x0.toInt < (98 : Int)
  · exact own_iv_12 x0 (by omega) c12
  by_cases c13 : x0.toInt < (122 : Int)
  · exact own_iv_13 x0 (by omega) c13
  by_cases c14 : x0.toInt < (123 : Int)
  · exact own_iv_14 x0 (by omega) c14
  by_cases c15 : x0.toInt < (124 : Int)
  · exact own_iv_15 x0 (by omega) c15
  by_cases c16 : x0.toInt < (191 : Int)
  · exact own_iv_16 x0 (by omega) c16
  by_cases c17 : x0.toInt < (192 : Int)
  · exact own_iv_17 x0 (by omega) c17
  by_cases c18 : x0.toInt < (193 : Int)
  · exact own_iv_18 x0 (by omega) c18
  by_cases c19 : x0.toInt < (214 : Int)
  · exact own_iv_19 x0 (by omega) c19
  by_cases c20 : x0.toInt < (215 : Int)
  · exact own_iv_20 x0 (by omega) c20
  by_cases c21 : x0.toInt < (216 : Int)
  · exact own_iv_21 x0 (by omega) c21
  by_cases c22 : x0.toInt < (217 : Int)
  · exact own_iv_22 x0 (by omega) c22
  by_cases c23 : x0.toInt < (246 : Int)
  · exact own_iv_23 x0 (by omega) c23
  by_cases c24 : x0.toInt < (247 : Int)
  · exact own_iv_24 x0 (by omega) c24
  by_cases c25 : x0.toInt < (248 : Int)
  · exact own_iv_25 x0 (by omega) c25
  by_cases c26 : x0.toInt < (249 : Int)
  · exact own_iv_26 x0 (by omega) c26
  by_cases c27 : x0.toInt < (767 : Int)
  · exact own_iv_27 x0 (by omega) c27
  by_cases c28 : x0.toInt < (768 : Int)
  · exact own_iv_28 x0 (by omega) c28
  by_cases c29 : x0.toInt < (769 : Int)
  · exact own_iv_29 x0 (by omega) c29
  by_cases c30 : x0.toInt < (879 : Int)
  · exact own_iv_30 x0 (by omega) c30
  by_cases c31 : x0.toInt < (880 : Int)
  · exact own_iv_31 x0 (by omega) c31
  by_cases c32 : x0.toInt < (881 : Int)
  · exact own_iv_32 x0 (by omega) c32
  by_cases c33 : x0.toInt < (893 : Int)
  · exact own_iv_33 x0 (by omega) c33
  by_cases c34 : x0.toInt < (894 : Int)
  · exact own_iv_34 x0 (by omega) c34
  by_cases c35 : x0.toInt < (895 : Int)
  · exact own_iv_35 x0 (by omega) c35
  by_cases c36 : x0.toInt < (896 : Int)
  · exact own_iv_36 x0 (by omega) c36
  by_cases c37 : x0.toInt < (8191 : Int)
  · exact own_iv_37 x0 (by omega) c37
  by_cases c38 : x0.toInt < (8192 : Int)
  · exact own_iv_38 x0 (by omega) c38
  by_cases c39 : x0.toInt < (8193 : Int)
  · exact own_iv_39 x0 (by omega) c39
  by_cases c40 : x0.toInt < (8203 : Int)
  · exact own_iv_40 x0 (by omega) c40
  by_cases c41 : x0.toInt < (8204 : Int)
  · exact own_iv_41 x0 (by omega) c41
  by_cases c42 : x0.toInt < (8205 : Int)
  · exact own_iv_42 x0 (by omega) c42
  by_cases c43 : x0.toInt < (8206 : Int)
  · exact own_iv_43 x0 (by omega) c43
  by_cases c44 : x0.toInt < (8207 : Int)
  · exact own_iv_44 x0 (by omega) c44
  by_cases c45 : x0.toInt < (8303 : Int)
  · exact own_iv_45 x0 (by omega) c45
  by_cases c46 : x0.toInt < (8304 : Int)
  · exact own_iv_46 x0 (by omega) c46
  by_cases c47 : x0.toInt < (8305 : Int)
  · exact own_iv_47 x0 (by omega) c47
  by_cases c48 : x0.toInt < (8591 : Int)
  · exact own_iv_48 x0 (by omega) c48
  by_cases c49 : x0.toInt < (8592 : Int)
  · exact own_iv_49 x0 (by omega) c49
  by_cases c50 : x0.toInt < (8593 : Int)
  · exact own_iv_50 x0 (by omega) c50
  by_cases c51 : x0.toInt < (11263 : Int)
  · exact own_iv_51 x0 (by omega) c51
  by_cases c52 : x0.toInt < (11264 : Int)
  · exact own_iv_52 x0 (by omega) c52
  by_cases c53 : x0.toInt < (11265 : Int)
  · exact own_iv_53 x0 (by omega) c53
  by_cases c54 : x0.toInt < (12271 : Int)
  · exact own_iv_54 x0 (by omega) c54
  by_cases c55 : x0.toInt < (12272 : Int)
  · exact own_iv_55 x0 (by omega) c55
  by_cases c56 : x0.toInt < (12273 : Int)
  · exact own_iv_56 x0 (by omega) c56
  by_cases c57 : x0.toInt < (12288 : Int)
  · exact own_iv_57 x0 (by omega) c57
  by_cases c58 : x0.toInt < (12289 : Int)
  · exact own_iv_58 x0 (by omega) c58
  by_cases c59 : x0.toInt < (12290 : Int)
  · exact own_iv_59 x0 (by omega) c59
  by_cases c60 : x0.toInt < (55295 : Int)
  · exact own_iv_60 x0 (by omega) c60
  by_cases c61 : x0.toInt < (55296 : Int)
  · exact own_iv_61 x0 (by omega) c61
  by_cases c62 : x0.toInt < (55297 : Int)
  · exact own_iv_62 x0 (by omega) c62
  by_cases c63 : x0.toInt < (63743 : Int)
  · exact own_iv_63 x0 (by omega) c63
  by_cases c64 : x0.toInt < (63744 : Int)
  · exact own_iv_64 x0 (by omega) c64
  by_cases c65 : x0.toInt < (63745 : Int)
  · exact own_iv_65 x0 (by omega) c65
  by_cases c66 : x0.toInt < (64975 : Int)
  · exact own_iv_66 x0 (by omega) c66
  by_cases c67 : x0.toInt < (64976 : Int)
  · exact own_iv_67 x0 (by omega) c67
  by_cases c68 : x0.toInt < (64977 : Int)
  · exact own_iv_68 x0 (by omega) c68
  by_cases c69 : x0.toInt < (65007 : Int)
  · exact own_iv_69 x0 (by omega) c69
  by_cases c70 : x0.toInt < (65008 : Int)
  · exact own_iv_70 x0 (by omega) c70
  by_cases c71 : x0.toInt < (65009 : Int)
  · exact own_iv_71 x0 (by omega) c71
  by_cases c72 : x0.toInt < (65533 : Int)
  · exact own_iv_72 x0 (by omega) c72
  by_cases c73 : x0.toInt < (65534 : Int)
  · exact own_iv_73 x0 (by omega) c73
  by_cases c74 : x0.toInt < (65535 : Int)
  · exact own_iv_74 x0 (by omega) c74
  by_cases c75 : x0.toInt < (65536 : Int)
  · exact own_iv_75 x0 (by omega) c75
  by_cases c76 : x0.toInt < (65537 : Int)
  · exact own_iv_76 x0 (by omega) c76
  by_cases c77 : x0.toInt < (983039 : Int)
  · exact own_iv_77 x0 (by omega) c77
  by_cases c78 : x0.toInt < (983040 : Int)
  · exact own_iv_78 x0 (by omega) c78
  exact own_iv_79 x0 (by omega) (by omega)
theorem own_law (x0 x1 x2 : Int32) : f0 x0 x1 x2 = some 1 := by
  unfold f0 g0_0
  unfold g0_29
  unfold g0_63
  unfold g0_98
  unfold g0_133
  unfold g0_165
  refine bindS (v := List.replicate 29 0) (by decide +kernel) ?_
  have l0 : (List.replicate 29 (0 : Int32)).length = 29 := by simp
  generalize List.replicate 29 (0 : Int32) = w at l0
  iterate 29 (refine wrS (by assumption) (by decide) (by decide) (fun v l => ?_); clear l0; rename _ => l0)
  have hl : ∀ u : List Int32, u.length = 29 → lenO u = (29 : Int32) := fun u q => by unfold lenO; rw [q]; rfl
  rw [hl _ l0, if_neg (by decide)]
  have hj := own_irem (x1 &&& (2147483647 : Int32)) 29 29 (by decide) (by decide) (own_pos x1)
  have hk := own_idx (n := 29) (j := (x1 &&& (2147483647 : Int32)) - ((x1 &&& (2147483647 : Int32)) / 29) * 29) (by rw [hj]; exact Int.emod_nonneg _ (by decide)) (by rw [hj]; exact Int.emod_lt_of_pos _ (by decide))
  refine rdS l0 hk.1 hk.2 (fun v => ?_)
  refine letS ?_
  rw [if_pos (own_same x0)]
  unfold g0_226 g0_246
  rw [if_pos (own_same _)]
  rfl
set_option maxRecDepth 65536 in
set_option maxHeartbeats 40000000 in
theorem comes_1 {Post : Tables → Env → Array Value → State → Outcome → State → Prop} (hpost : ∀ tb e args s v u, (limb_1_1.after args s (.returned v) u = true ∧ limb_1_2.after args s (.returned v) u = true ∧ True) → FrameEnd s (.returned v) u (Jvm.fieldLocs frame_1_writes args s ++ Jvm.arrayLocs frame_1_arrays args s ++ Jvm.staticLocs frame_1_statics s) 16 128 → Post tb e args s (.returned v) u) :
    ArmFor flags0 classFile x code maxLocals ret World_1 tables_1 room_1 Calls_1 rest_1 Pre_1 Post := by
  intro l hfl _ _ p e ha hc hk s m args below hf hA hF happ hP
  obtain ⟨hcalls, hrest, hpre⟩ := hP
  obtain ⟨-, -, -, hnamed, -, -, -, hat⟩ := (Spec.applies_iff hf).mp happ
  obtain ⟨hg, hn⟩ := and_e (Cond.before_iff.mp (show (Jvm.Cond.and given_1 narrow_1).before args s = true from hpre))
  obtain ⟨g1, g2⟩ := and_e hg
  obtain ⟨g3, g4⟩ := and_e g2
  obtain ⟨g5, g6⟩ := and_e g4
  obtain ⟨w0, w1, w2, rfl⟩ : ∃ w0 w1 w2 : Value, args = #[w0, w1, w2] := by
    have hs : args.size = 3 := by simpa [Cond.value, given_1] using g1
    obtain ⟨L⟩ := args
    match L, hs with
    | [w0, w1, w2], _ => exact ⟨w0, w1, w2, rfl⟩
  have hw := fun d (hd : d ∈ tables_1) => atoms_spec (ws := Jvm.Cond.code x code maxLocals ret :: tables_1) hat d (List.mem_cons_of_mem _ hd)
  obtain ⟨i0, ei0⟩ := is_v g3
  obtain rfl : w0 = (.int i0) := Option.some.inj ei0
  obtain ⟨i1, ei1⟩ := is_v g5
  obtain rfl : w1 = (.int i1) := Option.some.inj ei1
  obtain ⟨i2, ei2⟩ := is_v g6
  obtain rfl : w2 = (.int i2) := Option.some.inj ei2
  have hone := own_law i0 i1 i2
  obtain ⟨n, o, h1, h2, h3, _, L, rfl, ⟨rfl, N⟩, hq⟩ := rm0 l s _ hw tables_1 i0 i1 i2 s.heap s.heap.size (Nat.le_refl _) _ hone p e ha hc hk s m _ below hf ((Spec.applies_iff_loose hf).mp happ).1 ⟨rfl, State.Warmed39.refl s, rfl⟩ trivial
  refine ⟨n, _, h1, h2, h3, hpost _ _ _ _ _ _ ⟨Cond.after_iff.mpr rfl, Cond.after_iff.mpr (eq_i res_at (Term.int_eval (1)) rfl), trivial⟩ ⟨hq.1, hq.2.1, (hq.2.2.sift fun y hy => Or.inr (N y hy)).mono (by decide) (by decide)⟩⟩
theorem main_1_1 : Claimed_1_1 := comes_1 fun _ _ _ _ _ _ h hF => ⟨h.1, hF⟩
theorem main_1_2 : Claimed_1_2 := comes_1 fun _ _ _ _ _ _ h hF => ⟨h.2.1, hF⟩
end Jvm.Pilot.@@N@@
namespace Jvm.Pilot.@@N@@
open Jvm Jvm.ClassFile Sem Op Lib Jvm.Free Jvm.Stand Jvm.Pilot.@@N@@.Jvm.D
/-! MADE BY PROGRAM (witnessworld.py) out of the Statement's table words and the real class files: 9 classes; the members and pool entries that the words name. The judged class is class 1, her method 2. -/
namespace start1
open Jvm.ClassFile
def u (s : String) : CpInfo := .utf8 (stringToUtf16 s)
/-- a pool by its gaps: so many unusable entries, then the entry; so many at the end -/
def gap : Nat → List CpInfo → List CpInfo
  | 0, r => r
  | n + 1, r => .unusable :: gap n r
def poolList (es : List (Nat × CpInfo)) (last : Nat) : List CpInfo := es.foldr (fun e r => gap e.1 (e.2 :: r)) (gap last [])
def pool (es : List (Nat × CpInfo)) (last : Nat) : Array CpInfo := ⟨poolList es last⟩
def fileOf (pool : Array CpInfo) (this : Nat) (attrs : Array Attribute := #[]) (ms : Array MethodInfo := #[]) (fl : Nat := 33) (sup : Nat := 0) (ifs : Array Nat := #[]) (fds : Array FieldInfo := #[]) : ClassFile where
  minorVersion := 0
  majorVersion := 65
  constantPool := pool
  accessFlags := fl
  thisClass := this
  superClass := sup
  interfaces := ifs
  fields := fds
  methods := ms
  attributes := attrs
def plain (name : String) (sup : Option ClassId) : Class where
  name := name
  kind := .ordinary
  loader := none
  accessFlags := 33
  super := sup
  interfaces := #[]
  cf := none
  fields := #[]
  methods := #[]
  instanceTypes := #[]
  staticTypes := #[]
  resolved := #[]
  callSites := []
  init := .initialized
  statics := none
  mirror := none

def pool0 : Array CpInfo := pool [(5, u "<init>"), (0, u "()V"), (1, .class_ 10), (1, u "java/lang/Object")] 113

def k0m0 : Method := { name := "<init>", desc := "()V", sig := { parameters := [], returnType := none }, accessFlags := 1, code := none }
/-- java/lang/Object -/
def k0 : Class := { plain "java/lang/Object" none with
  accessFlags := 33
  interfaces := #[]
  cf := some (fileOf pool0 8 #[] #[{ accessFlags := 1, nameIndex := 5, descriptorIndex := 6, attributes := #[] }] 33 0 #[] #[])
  fields := #[]
  methods := #[k0m0]
  instanceTypes := #[]
  staticTypes := #[]
  resolved := Array.replicate 124 none
  statics := none }

def pool1 : Array CpInfo := pool [(2, .class_ 4), (1, u "java/lang/Object"), (0, u "<init>"), (0, u "()V"), (0, .integer 983039), (0, .integer 55296), (0, .integer 63743), (0, .integer 64976), (0, .integer 65007), (0, .integer 65534), (0, .integer 65535), (0, .integer 55295), (0, .integer 63744), (0, .integer 64975), (0, .integer 65008), (0, .integer 65533), (0, .integer 65536), (0, .integer 2147483647), (0, .methodref 22 23), (0, .class_ 24), (0, .nameAndType 25 26), (0, u "com/example/onto3/onto3/rdf/TermScanner"), (0, u "isNameStartChar"), (0, u "(I)Z"), (0, .methodref 28 29), (0, .class_ 30), (0, .nameAndType 31 26), (0, u "com/example/onto3/onto3/rdf/TermScannerIsNameStartCharPinLaw"), (0, u "reference"), (3, u "law"), (0, u "(III)Z")] 4

def k1m0 : Method := { name := "<init>", desc := "()V", sig := { parameters := [], returnType := none }, accessFlags := 2, code := none }
def k1c1 : Code := { maxStack := 2, maxLocals := 1, code := method_2_code, exceptionTable := #[], attributes := #[] }
def k1m1 : Method := { name := "reference", desc := "(I)Z", sig := { parameters := [.int], returnType := some .boolean }, accessFlags := 10, code := some k1c1 }
def k1c2 : Code := { maxStack := 4, maxLocals := 7, code := code, exceptionTable := #[], attributes := #[] }
def k1m2 : Method := { name := "law", desc := "(III)Z", sig := { parameters := [.int, .int, .int], returnType := some .boolean }, accessFlags := 9, code := some k1c2 }
/-- com/example/onto3/onto3/rdf/TermScannerIsNameStartCharPinLaw -/
def k1 : Class := { plain "com/example/onto3/onto3/rdf/TermScannerIsNameStartCharPinLaw" (some 0) with
  accessFlags := 49
  interfaces := #[]
  cf := some (fileOf pool1 28 #[] #[{ accessFlags := 2, nameIndex := 5, descriptorIndex := 6, attributes := #[] }, { accessFlags := 10, nameIndex := 31, descriptorIndex := 26, attributes := #[] }, { accessFlags := 9, nameIndex := 35, descriptorIndex := 36, attributes := #[] }] 49 2 #[] #[])
  fields := #[]
  methods := #[k1m0, k1m1, k1m2]
  instanceTypes := #[]
  staticTypes := #[]
  resolved := Array.replicate 41 none
  statics := none }

def pool2 : Array CpInfo := pool [(2, .class_ 4), (1, u "com/example/onto3/onto3/rdf/TermScanner"), (3, .class_ 10), (1, u "java/lang/Object"), (3, u "text"), (0, u "Ljava/lang/String;"), (2, u "linesInErrors"), (0, u "Z"), (2, u "pos"), (0, u "I"), (44, u "(I)Z"), (93, u "NUMBERS"), (0, u "Ljava/util/List;"), (45, .methodref 2 210), (0, .nameAndType 211 68), (0, u "isBaseChar"), (27, u "isNameStartChar"), (133, .integer 55295), (0, .integer 63744), (0, .integer 64975), (0, .integer 65008), (0, .integer 65533), (0, .integer 65536), (0, .integer 983039), (26, u "HEX_DIGITS"), (1, u "CUT_SHORT"), (2, u "LOCAL_ESCAPES")] 63

def k2c0 : Code := { maxStack := 2, maxLocals := 1, code := prog_39_method_41_code, exceptionTable := #[], attributes := #[] }
def k2m0 : Method := { name := "isBaseChar", desc := "(I)Z", sig := { parameters := [.int], returnType := some .boolean }, accessFlags := 9, code := some k2c0 }
def k2c1 : Code := { maxStack := 2, maxLocals := 1, code := prog_39_method_42_code, exceptionTable := #[], attributes := #[] }
def k2m1 : Method := { name := "isNameStartChar", desc := "(I)Z", sig := { parameters := [.int], returnType := some .boolean }, accessFlags := 9, code := some k2c1 }
/-- com/example/onto3/onto3/rdf/TermScanner -/
def k2 : Class := { plain "com/example/onto3/onto3/rdf/TermScanner" (some 0) with
  accessFlags := 49
  interfaces := #[]
  cf := some (fileOf pool2 2 #[] #[{ accessFlags := 9, nameIndex := 211, descriptorIndex := 68, attributes := #[] }, { accessFlags := 9, nameIndex := 239, descriptorIndex := 68, attributes := #[] }] 49 8 #[] #[{ accessFlags := 26, nameIndex := 406, descriptorIndex := 15, attributes := #[] }, { accessFlags := 26, nameIndex := 408, descriptorIndex := 15, attributes := #[] }, { accessFlags := 26, nameIndex := 162, descriptorIndex := 163, attributes := #[] }, { accessFlags := 26, nameIndex := 411, descriptorIndex := 15, attributes := #[] }, { accessFlags := 18, nameIndex := 14, descriptorIndex := 15, attributes := #[] }, { accessFlags := 18, nameIndex := 18, descriptorIndex := 19, attributes := #[] }, { accessFlags := 2, nameIndex := 22, descriptorIndex := 23, attributes := #[] }])
  fields := #[{ name := "HEX_DIGITS", type := (.object "java/lang/String"), accessFlags := 26, slot := 0, constantValue := 0 }, { name := "CUT_SHORT", type := (.object "java/lang/String"), accessFlags := 26, slot := 1, constantValue := 0 }, { name := "NUMBERS", type := (.object "java/util/List"), accessFlags := 26, slot := 2, constantValue := 0 }, { name := "LOCAL_ESCAPES", type := (.object "java/lang/String"), accessFlags := 26, slot := 3, constantValue := 0 }, { name := "text", type := (.object "java/lang/String"), accessFlags := 18, slot := 0, constantValue := 0 }, { name := "linesInErrors", type := .boolean, accessFlags := 18, slot := 1, constantValue := 0 }, { name := "pos", type := .int, accessFlags := 2, slot := 2, constantValue := 0 }]
  methods := #[k2m0, k2m1]
  instanceTypes := #[(.object "java/lang/String"), .boolean, .int]
  staticTypes := #[(.object "java/lang/String"), (.object "java/lang/String"), (.object "java/util/List"), (.object "java/lang/String")]
  resolved := Array.replicate 475 none
  statics := none }

def pool3 : Array CpInfo := pool [(1, u "java/lang/Cloneable"), (0, .class_ 1), (0, u "java/lang/Object"), (0, .class_ 3)] 3

/-- java/lang/Cloneable -/
def k3 : Class := { plain "java/lang/Cloneable" (some 0) with
  accessFlags := 1537
  interfaces := #[]
  cf := some (fileOf pool3 2 #[] #[] 1537 4 #[] #[])
  fields := #[]
  methods := #[]
  instanceTypes := #[]
  staticTypes := #[]
  resolved := Array.replicate 8 none
  statics := none }

def pool4 : Array CpInfo := pool [(1, u "java/io/Serializable"), (0, .class_ 1), (0, u "java/lang/Object"), (0, .class_ 3)] 3

/-- java/io/Serializable -/
def k4 : Class := { plain "java/io/Serializable" (some 0) with
  accessFlags := 1537
  interfaces := #[]
  cf := some (fileOf pool4 2 #[] #[] 1537 4 #[] #[])
  fields := #[]
  methods := #[]
  instanceTypes := #[]
  staticTypes := #[]
  resolved := Array.replicate 8 none
  statics := none }

/-- the primitive byte -/
def k5 : Class := { plain "byte" none with kind := .primitive 'B', accessFlags := 0x411 }
/-- [B -/
def k6 : Class := { plain "[B" (some 0) with kind := .array 5 .byte, interfaces := #[3, 4], accessFlags := 1041 }

/-- the primitive int -/
def k7 : Class := { plain "int" none with kind := .primitive 'I', accessFlags := 0x411 }
/-- [I -/
def k8 : Class := { plain "[I" (some 0) with kind := .array 7 .int, interfaces := #[3, 4], accessFlags := 1041 }

def heap : Heap := #[]
def classes : Array Class := #[k0, k1, k2, k3, k4, k5, k6, k7, k8]
def interned : List (Array UInt16 × Addr) := []
def slotsUsed : Nat := 0
def theMethod : MethodId := ⟨1, 2⟩
def args0 : Array Value := #[.int 65, .int 3, .int 1]
def aboutOver (below : List Frame) : State where
  vm := { classes := classes, interned := interned.toArray }
  heap := heap
  slotsUsed := slotsUsed
  threads := #[{ frames := .invoking theMethod args0 :: below }]
def below0 : List Frame := [.native { method := ⟨0, 0⟩, args := #[] }]
def about1 : State := aboutOver below0
def p0 : Program := .bare "" "" ""
def e0 : Env := launch0.env 0 0 0
theorem w_frames : about1.frames = Frame.invoking theMethod args0 :: below0 := rfl
set_option maxRecDepth 65536 in
theorem w_args : argsFit about1.vm theMethod args0 = true := by decide +kernel
set_option maxRecDepth 65536 in
theorem w_heap : heapFits about1 = true := by decide +kernel
set_option maxRecDepth 65536 in
theorem w_runnable : about1.curStatus? = some .runnable := by decide +kernel
set_option maxRecDepth 65536 in
theorem w_alone : about1.alone = true := by decide +kernel
set_option maxRecDepth 65536 in
theorem w_named : about1.methodNamed? x = some theMethod := by decide +kernel
set_option maxRecDepth 65536 in
theorem w_hears : about1.hears theMethod below0 = true := by decide +kernel
set_option maxRecDepth 65536 in
theorem w_ripe : about1.ripe theMethod args0 below0 = true := by decide +kernel
theorem w_running : about1.status = .running := rfl
set_option maxRecDepth 65536 in
theorem w_room : about1.hasRoom e0.platform room_1 = true :=
  launch0.hasRoom_least _ room_1 (by decide +kernel) (by decide +kernel) (by decide +kernel) (by decide +kernel) (by decide +kernel) (by decide +kernel)
theorem allAtoms_all (ts : List Jvm.Cond) (a : Array Jvm.Value) (st : Jvm.State) : (allAtoms ts).before a st = ts.all (fun c => c.before a st) := by
  induction ts with
  | nil => rfl
  | cons c t ih =>
    show (Jvm.Cond.and c (allAtoms t)).before a st = _
    rw [Jvm.Cond.before_and, ih, List.all_cons]
def words1 : List Jvm.Cond := Jvm.Cond.code x code maxLocals ret :: tables_1
/-- a 'code' word, met by the world's own term for the bytes: nothing is compared byte by byte -/
theorem code_word {y : MethodName} {bytes : ByteArray} {mx : Nat} {rt : Option FieldType} {a : Array Value} {s : State} {m : MethodId} {meth : Method} {c : Code} (h1 : s.methodNamed? y = some m) (h2 : s.vm.method? m = some meth) (h3 : meth.code = some c) (h4 : c.code = bytes)
    (h5 : (c.maxLocals == mx && c.exceptionTable.isEmpty && decide (c.maxStack ≤ mostOperands) && decide (meth.sig.returnType = rt) && !meth.locks && decide (parseMethodDescriptor y.desc = some meth.sig)) = true) : (Jvm.Cond.code y bytes mx rt).before a s = true := by
  simp only [Bool.and_eq_true, beq_iff_eq, Bool.not_eq_true', decide_eq_true_eq] at h5
  obtain ⟨⟨⟨⟨⟨g1, g2⟩, g3⟩, g4⟩, g5⟩, g6⟩ := h5
  simp [Cond.before, Cond.holds, Cond.value, h1, h2, h3, h4, g1, g2, g3, g4, g5, g6]
def isCode : Jvm.Cond → Bool
  | .code _ _ _ _ => true
  | _ => false
theorem all_split {L : List Jvm.Cond} {P : Jvm.Cond → Bool} (h1 : L.all (fun c => isCode c || P c) = true) (h2 : ∀ c ∈ L.filter isCode, P c = true) : L.all P = true := by
  refine List.all_eq_true.mpr fun c hc => ?_
  have h := List.all_eq_true.mp h1 c hc
  rcases Bool.eq_false_or_eq_true (isCode c) with hi | hi
  · exact h2 c (List.mem_filter.mpr ⟨hc, hi⟩)
  · simpa [hi] using h
set_option maxRecDepth 65536 in
theorem w_c0 : (Jvm.Cond.code x code maxLocals ret).before args0 about1 = true := code_word (m := ⟨1, 2⟩) (meth := k1m2) (c := k1c2) (by decide +kernel) rfl rfl rfl (by decide +kernel)
set_option maxRecDepth 65536 in
theorem w_c1 : (Jvm.Cond.code ({ cls := "com/example/onto3/onto3/rdf/TermScanner", name := "isNameStartChar", desc := "(I)Z" } : Jvm.MethodName) prog_39_method_42_code (1 : Nat) (Option.some Jvm.ClassFile.FieldType.boolean)).before args0 about1 = true := code_word (m := ⟨2, 1⟩) (meth := k2m1) (c := k2c1) (by decide +kernel) rfl rfl rfl (by decide +kernel)
set_option maxRecDepth 65536 in
theorem w_c2 : (Jvm.Cond.code ({ cls := "com/example/onto3/onto3/rdf/TermScanner", name := "isBaseChar", desc := "(I)Z" } : Jvm.MethodName) prog_39_method_41_code (1 : Nat) (Option.some Jvm.ClassFile.FieldType.boolean)).before args0 about1 = true := code_word (m := ⟨2, 0⟩) (meth := k2m0) (c := k2c0) (by decide +kernel) rfl rfl rfl (by decide +kernel)
set_option maxRecDepth 65536 in
theorem w_c3 : (Jvm.Cond.code ({ cls := "com/example/onto3/onto3/rdf/TermScannerIsNameStartCharPinLaw", name := "reference", desc := "(I)Z" } : Jvm.MethodName) method_2_code (1 : Nat) (Option.some Jvm.ClassFile.FieldType.boolean)).before args0 about1 = true := code_word (m := ⟨1, 1⟩) (meth := k1m1) (c := k1c1) (by decide +kernel) rfl rfl rfl (by decide +kernel)
def codes1 : List Jvm.Cond := [Jvm.Cond.code x code maxLocals ret, Jvm.Cond.code ({ cls := "com/example/onto3/onto3/rdf/TermScanner", name := "isNameStartChar", desc := "(I)Z" } : Jvm.MethodName) prog_39_method_42_code (1 : Nat) (Option.some Jvm.ClassFile.FieldType.boolean), Jvm.Cond.code ({ cls := "com/example/onto3/onto3/rdf/TermScanner", name := "isBaseChar", desc := "(I)Z" } : Jvm.MethodName) prog_39_method_41_code (1 : Nat) (Option.some Jvm.ClassFile.FieldType.boolean), Jvm.Cond.code ({ cls := "com/example/onto3/onto3/rdf/TermScannerIsNameStartCharPinLaw", name := "reference", desc := "(I)Z" } : Jvm.MethodName) method_2_code (1 : Nat) (Option.some Jvm.ClassFile.FieldType.boolean)]
set_option maxRecDepth 65536 in
theorem codes_eq : words1.filter isCode = codes1 := rfl
theorem w_codes : ∀ c ∈ words1.filter isCode, c.before args0 about1 = true := by
  rw [codes_eq]
  intro c hc
  simp only [codes1, List.mem_cons, List.not_mem_nil, or_false] at hc
  rcases hc with rfl | rfl | rfl | rfl
  · exact w_c0
  · exact w_c1
  · exact w_c2
  · exact w_c3
set_option maxRecDepth 65536 in
theorem w_t1 : (words1.take 24).all (fun c => isCode c || c.before args0 about1) = true := by decide +kernel
set_option maxRecDepth 65536 in
theorem w_t2 : (words1.drop 24).all (fun c => isCode c || c.before args0 about1) = true := by decide +kernel
theorem w_tables : (allAtoms (Jvm.Cond.code x code maxLocals ret :: tables_1)).before args0 about1 = true := by
  rw [allAtoms_all]
  show words1.all (fun c => c.before args0 about1) = true
  refine all_split ?_ w_codes
  rw [← List.take_append_drop 24 words1, List.all_append, w_t1, w_t2]
  rfl
set_option maxRecDepth 65536 in
theorem w_case : (Jvm.Cond.and given_1 narrow_1).before args0 about1 = true := by decide +kernel
theorem w_applies : (headSpec (Jvm.Cond.code x code maxLocals ret :: tables_1) room_1).applies x e0.platform about1 = true :=
  (Spec.applies_iff w_frames).mpr ⟨w_running, w_runnable, w_alone, w_named, w_hears, w_ripe, w_room, w_tables⟩
theorem atStart : AtStart classFile x code maxLocals ret World_1 tables_1 room_1 Calls_1 rest_1 Pre_1 launch0 p0 e0 about1 theMethod args0 below0 :=
  ⟨lists_1, trivial, launch0.admits_env _ _ _, launch0.least_env, fairChoices_fair.cas, fairChoices_fair.clock, w_frames, w_args, w_heap, w_applies, trivial, trivial, w_case⟩
end start1
theorem witness_1 : WitnessClaimed_1 := ⟨start1.p0, start1.e0, start1.about1, start1.theMethod, start1.args0, start1.below0, start1.atStart⟩
end Jvm.Pilot.@@N@@
