import JvmDerived
import JvmDerived.Pilot.@@N@@Statement
import JvmDerived.Pilot.@@N@@Code
set_option linter.unusedVariables false
set_option linter.unusedSimpArgs false
namespace Jvm.RoadKit
open Sem ClassFile Op Lib Jvm.Stand Jvm.Free Jvm.LawKit
section New
variable {p : Program} {l : Launch} {e : Env} {R : Room} {s : State} {m : MethodId} {args : Array Value} {below : List Frame} {meth : Method} {c : Code} {T : State} {locs : List Loc} {cells slots : Nat}
theorem retI (X : Stand p l e R s m args below meth c T locs cells slots) (hx : p.tables.exec = Jvm.exec) {pc : Nat} {Ls : Array Slot} {z : Int32} {rest : List Value} (hret : meth.sig.returnType = some .int) (hd : decode c.code pc = .ok (.ireturn, 1)) {fs : List Frame}
    (hl : ∀ (f : JFrame) (acts : List Action), f.method = m → f.locked = none → f.entered = [] → (doReturn e (T.setTop f) acts (some (.int z))).1 = T.setFrames fs) : Steps p.tables e below (T.setTop (mkF m pc Ls (.int z :: rest))) (T.setFrames fs) := by
  have hm' : T.vm.method? m = some meth := X.method'
  have hn : narrow .int (.int z) = .int z := rfl
  show Steps p.tables e below (T.setTop { method := m, pc := pc, locals := Ls, stack := _ :: rest, locked := none }) _
  jvm_step X.here [X.here.top, hx, hd, hm', hret, hn]
  first | (intro acts; rw [hl _ acts rfl rfl rfl]) | rw [hl _ _ rfl rfl rfl]
  exact Steps.refl _
end New
end Jvm.RoadKit
namespace Jvm.Pilot.@@N@@
open Jvm Jvm.ClassFile Sem Op Lib Jvm.Free Jvm.Stand Jvm.LawKit Jvm.RoadKit Bundle Jvm.Pilot.@@N@@.Jvm.D
def QP (r : Option Value) (h0 : Heap) (n0 : Nat) (v : Option Value) (h : Heap) (L : List Loc) : Prop := v = r ∧ Fr n0 L ∧ h = h0
def Ctx (p : Program) (s : State) (m : MethodId) (meth : Method) (c : Code) (Z : State) (a0 : Array Value) (own : String) (bytes : ByteArray) (ml : Nat) (rt : Option FieldType) (name : String) : Prop :=
  p.tables.exec = Jvm.exec ∧ Z.Warmed39 s.vm ∧ (∀ d ∈ tables_1, d.before a0 Z = true) ∧ c.code = bytes ∧ c.maxLocals = ml ∧ s.vm.findClass own = some m.cls ∧ meth.sig.returnType = rt ∧ meth.locks = false ∧ meth.name = name
/-- from T with the frame g on top the run comes to a return, of which Φ holds -/
def Runs (p : Program) (e : Env) (below : List Frame) (s : State) (Φ : Option Value → Heap → List Loc → Prop) (k n : Nat) (T : State) (g : JFrame) : Prop :=
  ∃ s₂ o, Steps p.tables e below (T.setTop g) s₂ ∧ s₂.status = .running ∧ Ended s₂ below o ∧ ∃ v L, o = .returned v ∧ Φ v s₂.heap L ∧ FrameEnd s o s₂ L k n
section Own
variable {p : Program} {l : Launch} {e : Env} {R : Room} {s : State} {m : MethodId} {args : Array Value} {below : List Frame} {meth : Method} {c : Code} {T T' T0 Z : State} {a0 : Array Value} {locs : List Loc} {cells slots k n n0 : Nat} {h0 : Heap} {g g' : JFrame} {Φ : Option Value → Heap → List Loc → Prop}
theorem Runs.via (h : ∀ t, Steps p.tables e below (T'.setTop g') t → Steps p.tables e below (T.setTop g) t) (r : Runs p e below s Φ k n T' g') : Runs p e below s Φ k n T g := by
  obtain ⟨s₂, o, h1, r⟩ := r
  exact ⟨s₂, o, h _ h1, r⟩
theorem QP.cast {r r' : Option Value} (h : r = r') (H : Runs p e below s (QP r' h0 n0) k n T g) : Runs p e below s (QP r h0 n0) k n T g := by rw [h]; exact H
theorem own_retI (X : Stand p l e R s m args below meth c T locs cells slots) (hx : p.tables.exec = Jvm.exec) (hlk : meth.locks = false) (hret : meth.sig.returnType = some .int) {pc : Nat} {Ls : Array Slot} {z : Int32} {rest : List Value} (hd : decode c.code pc = .ok (.ireturn, 1)) (hk : cells ≤ k) (hn : slots ≤ n) (hΦ : Φ (some (.int z)) T.heap locs) :
    Runs p e below s Φ k n T (mkF m pc Ls (.int z :: rest)) := by
  obtain ⟨fs, hr, hrun, hended, hW, hsame⟩ := X.leave (v := some (.int z)) (fun h => by rw [hret] at h; cases h) hlk
  exact ⟨_, _, retI X hx hret hd hr, hrun, hended, _, _, rfl, hΦ, ⟨_, rfl⟩, hW, hsame.mono hk hn⟩
theorem own_retN (X : Stand p l e R s m args below meth c T locs cells slots) (hx : p.tables.exec = Jvm.exec) (hlk : meth.locks = false) {t : FieldType} (hret : meth.sig.returnType = some t) (ht : t = .boolean ∨ t = .byte ∨ t = .char ∨ t = .short) {pc : Nat} {Ls : Array Slot} {z : Int32} {rest : List Value} (hd : decode c.code pc = .ok (.ireturn, 1)) (hk : cells ≤ k) (hn : slots ≤ n) (hΦ : Φ (some (.int (nar t z))) T.heap locs) :
    Runs p e below s Φ k n T (mkF m pc Ls (.int z :: rest)) := by
  obtain ⟨fs, hr, hrun, hended, hW, hsame⟩ := X.leave (v := some (.int (nar t z))) (fun h => by rw [hret] at h; cases h) hlk
  exact ⟨_, _, retN X hx hret ht hd hr, hrun, hended, _, _, rfl, hΦ, ⟨_, rfl⟩, hW, hsame.mono hk hn⟩
theorem own_retJ (X : Stand p l e R s m args below meth c T locs cells slots) (hx : p.tables.exec = Jvm.exec) (hlk : meth.locks = false) (hret : meth.sig.returnType = some .long) {pc : Nat} {Ls : Array Slot} {z : Int64} (hd : decode c.code pc = .ok (.lreturn, 1)) (hk : cells ≤ k) (hn : slots ≤ n) (hΦ : Φ (some (.long z)) T.heap locs) :
    Runs p e below s Φ k n T (mkF m pc Ls [.long z]) := by
  obtain ⟨fs, hr, hrun, hended, hW, hsame⟩ := X.leave (v := some (.long z)) (fun h => by rw [hret] at h; cases h) hlk
  exact ⟨_, _, X.lreturnOut hx hret hd hr, hrun, hended, _, _, rfl, hΦ, ⟨_, rfl⟩, hW, hsame.mono hk hn⟩
theorem own_privSel {s : State} {args : Array Value} {y : MethodName} {n : Nat} (hwi : (Cond.instantiable y.cls n).before args s = true) (hp : (Cond.privateMethod y).before args s = true) (hinst : (Cond.instanceMethod y).before args s = true) (hy : y.cls ≠ "java/lang/invoke/MethodHandle" ∧ y.cls ≠ "java/lang/invoke/VarHandle") : (Cond.selects y.cls y y).before args s = true := by
  obtain ⟨c, k, h1, h2, h3, h4, -⟩ := Cond.instantiable_spec hwi
  exact selects_self_of_private h1 h2 (by simp only [Bool.or_eq_false_iff] at h4; exact h4.1) (Cond.privateMethod_at hp) hinst hy
theorem own_retV (X : Stand p l e R s m args below meth c T locs cells slots) (hx : p.tables.exec = Jvm.exec) (hlk : meth.locks = false) (hret : meth.sig.returnType = none) {pc : Nat} {Ls : Array Slot} (hd : decode c.code pc = .ok (.return_, 1)) (hk : cells ≤ k) (hn : slots ≤ n) (hΦ : Φ none T.heap locs) :
    Runs p e below s Φ k n T (mkF m pc Ls []) := by
  obtain ⟨fs, hr, hrun, hended, hW, hsame⟩ := X.leave (v := none) (fun _ => rfl) hlk
  exact ⟨_, _, X.returnOut hx hret hd hr, hrun, hended, _, _, rfl, hΦ, ⟨_, rfl⟩, hW, hsame.mono hk hn⟩
theorem own_retR (X : Stand p l e R s m args below meth c T locs cells slots) (hx : p.tables.exec = Jvm.exec) (hlk : meth.locks = false) {t : FieldType} (hret : meth.sig.returnType = some t) (ht : t.isReference = true) {pc : Nat} {Ls : Array Slot} {a : Addr} {rest : List Value} (hd : decode c.code pc = .ok (.areturn, 1)) (hk : cells ≤ k) (hn : slots ≤ n) (hΦ : Φ (some (.ref a)) T.heap locs) :
    Runs p e below s Φ k n T (mkF m pc Ls (.ref a :: rest)) := by
  obtain ⟨fs, hr, hrun, hended, hW, hsame⟩ := X.leave (v := some (.ref a)) (fun h => by rw [hret] at h; cases h) hlk
  exact ⟨_, _, retOut X hx hret (by cases t <;> first | rfl | (cases ht; done)) (Or.inr (Or.inr (Or.inr (Or.inr ⟨rfl, ht, rfl⟩)))) hd hr, hrun, hended, _, _, rfl, hΦ, ⟨_, rfl⟩, hW, hsame.mono hk hn⟩
theorem bindE {α β : Type} {G : Prop} {x : Option α} {k : α → Option β} {r : β} (hr : x.bind k = some r) (H : ∀ v, x = some v → k v = some r → G) : G := by
  cases x with
  | none => exact nomatch hr
  | some v => exact H v rfl hr
def letO {α β : Type} (x : α) (k : α → β) : β := k x
theorem letE {α β : Type} {G : Prop} {x : α} {k : α → Option β} {r : β} (hr : letO x k = some r) (H : ∀ v, v = x → k v = some r → G) : G := H x rfl hr
theorem iteE {β : Type} {G P : Prop} [Decidable P] {a b : Option β} {r : β} (hr : (if P then a else b) = some r) (H1 : P → a = some r → G) (H2 : ¬ P → b = some r → G) : G := by
  by_cases h : P
  · rw [if_pos h] at hr; exact H1 h hr
  · rw [if_neg h] at hr; exact H2 h hr
/-- an array's place, a store, its length, a new array -/
def rdO {α : Type} (xs : List α) (j : Int32) : Option α := if j < 0 then none else xs[j.toNatClampNeg]?
def wrO {α : Type} (xs : List α) (j : Int32) (v : α) : Option (List α) := if j < 0 ∨ xs.length ≤ j.toNatClampNeg then none else some (xs.set j.toNatClampNeg v)
def lenO {α : Type} (xs : List α) : Int32 := xs.length.toInt32
def mkO (n : Int32) (cap : Nat) : Option (List Int32) := if n < 0 ∨ cap < n.toNatClampNeg then none else some (List.replicate n.toNatClampNeg 0)
def mkOJ (n : Int32) (cap : Nat) : Option (List Int64) := if n < 0 ∨ cap < n.toNatClampNeg then none else some (List.replicate n.toNatClampNeg 0)
def AI (Z : State) (h : Heap) (a : Addr) (ty : FieldType) (xs : List Int32) : Prop := ∃ c : Cell, Arr Z h a c ty ∧ c.slots = (xs.map Value.int).toArray
def AJ (Z : State) (h : Heap) (a : Addr) (ty : FieldType) (xs : List Int64) : Prop := ∃ c : Cell, Arr Z h a c ty ∧ c.slots = (xs.map Value.long).toArray
section Arrs
variable {p : Program} {l : Launch} {e : Env} {R : Room} {s : State} {m : MethodId} {args : Array Value} {below : List Frame} {meth : Method} {c : Code} {T Z : State} {a0 : Array Value} {locs : List Loc} {cells slots : Nat} {h h' : Heap} {a b : Addr} {ty : FieldType} {sl : Nat} {v : Value} {ws : List Addr}
theorem AI.lt {xs : List Int32} (F : AI Z h a ty xs) : a < h.size := by obtain ⟨c, A, -⟩ := F; exact A.lt
theorem AI.ext {xs : List Int32} (F : AI Z h a ty xs) (E : Ext h h') : AI Z h' a ty xs := by obtain ⟨c, A, q⟩ := F; exact ⟨c, A.ext E, q⟩
theorem AI.other {xs : List Int32} (F : AI Z h b ty xs) (W : Wr h h' a sl v) (q : b ≠ a) : AI Z h' b ty xs := by obtain ⟨c, A, r⟩ := F; exact ⟨c, A.other W q, r⟩
theorem AI.keep {xs : List Int32} (F : AI Z h a ty xs) (K : Keep h h' ws) (q : a ∉ ws) : AI Z h' a ty xs := by obtain ⟨c, A, r⟩ := F; exact ⟨c, ⟨K.2.1 a c A.1 q, A.2⟩, r⟩
theorem AJ.lt {xs : List Int64} (F : AJ Z h a ty xs) : a < h.size := by obtain ⟨c, A, -⟩ := F; exact A.lt
theorem AJ.ext {xs : List Int64} (F : AJ Z h a ty xs) (E : Ext h h') : AJ Z h' a ty xs := by obtain ⟨c, A, q⟩ := F; exact ⟨c, A.ext E, q⟩
theorem AJ.other {xs : List Int64} (F : AJ Z h b ty xs) (W : Wr h h' a sl v) (q : b ≠ a) : AJ Z h' b ty xs := by obtain ⟨c, A, r⟩ := F; exact ⟨c, A.other W q, r⟩
theorem AJ.keep {xs : List Int64} (F : AJ Z h a ty xs) (K : Keep h h' ws) (q : a ∉ ws) : AJ Z h' a ty xs := by obtain ⟨c, A, r⟩ := F; exact ⟨c, ⟨K.2.1 a c A.1 q, A.2⟩, r⟩
theorem rd_at {α : Type} {f : α → Value} {xs : List α} {j : Int32} {z : α} {cl : Cell} (q : cl.slots = (xs.map f).toArray) (hr : rdO xs j = some z) : ¬ (j < 0 ∨ cl.slots.size ≤ j.toNatClampNeg) ∧ cl.slots[j.toNatClampNeg]? = some (f z) := by
  unfold rdO at hr
  by_cases hj : j < 0
  · rw [if_pos hj] at hr; exact nomatch hr
  · rw [if_neg hj] at hr
    obtain ⟨hi, he⟩ := List.getElem?_eq_some_iff.mp hr
    rw [q]
    refine ⟨?_, by simp [hr]⟩
    rintro (h1 | h1)
    · exact hj h1
    · simp at h1; omega
theorem wr_at2 {α : Type} {f : α → Value} {xs xs' : List α} {j : Int32} {z : α} {cl : Cell} (q : cl.slots = (xs.map f).toArray) (hr : wrO xs j z = some xs') : ¬ (j < 0 ∨ cl.slots.size ≤ j.toNatClampNeg) ∧ (cl.setSlot j.toNatClampNeg (f z)).slots = (xs'.map f).toArray := by
  unfold wrO at hr
  by_cases hj : j < 0 ∨ xs.length ≤ j.toNatClampNeg
  · rw [if_pos hj] at hr; exact nomatch hr
  · rw [if_neg hj] at hr
    obtain rfl := Option.some.inj hr
    refine ⟨by rw [q]; simpa using hj, ?_⟩
    simp only [Cell.setSlot, q]
    simp [List.map_set]
theorem ldI (X : Stand p l e R s m args below meth c T locs cells slots) (hx : p.tables.exec = Jvm.exec) (hZ : Z.Warmed39 s.vm) (eT : T.heap = h) {xs : List Int32} (A : AI Z h a .int xs) {j z : Int32} (hr : rdO xs j = some z) {g : JFrame} (hg : g.method = m) {rest : List Value} (hs : g.stack = .int j :: .ref a :: rest) (hd : decode c.code g.pc = .ok (.iaload, 1)) :
    ∀ target, Steps p.tables e below (T.setTop { g with pc := g.pc + 1, stack := .int z :: rest }) target → Steps p.tables e below (T.setTop g) target := by
  obtain ⟨cl, A, q⟩ := A
  obtain ⟨h1, h2⟩ := rd_at q hr
  exact X.iaload hx (j := j) (v := .int z) (by rw [eT]; exact A.1) (State.isArrayOf_alike hZ.alike A.2.1) A.2.2 h1 h2 hg hs hd
theorem ldB (X : Stand p l e R s m args below meth c T locs cells slots) (hx : p.tables.exec = Jvm.exec) (hZ : Z.Warmed39 s.vm) (eT : T.heap = h) {xs : List Int32} (A : AI Z h a .byte xs) {j z : Int32} (hr : rdO xs j = some z) {g : JFrame} (hg : g.method = m) {rest : List Value} (hs : g.stack = .int j :: .ref a :: rest) (hd : decode c.code g.pc = .ok (.baload, 1)) :
    ∀ target, Steps p.tables e below (T.setTop { g with pc := g.pc + 1, stack := .int z :: rest }) target → Steps p.tables e below (T.setTop g) target := by
  obtain ⟨cl, A, q⟩ := A
  obtain ⟨h1, h2⟩ := rd_at q hr
  exact X.baloadBytes hx (j := j) (v := .int z) (by rw [eT]; exact A.1) (State.isArrayOf_alike hZ.alike A.2.1) A.2.2 h1 h2 hg hs hd
theorem ldJ (X : Stand p l e R s m args below meth c T locs cells slots) (hx : p.tables.exec = Jvm.exec) (hZ : Z.Warmed39 s.vm) (eT : T.heap = h) {xs : List Int64} (A : AJ Z h a .long xs) {j : Int32} {z : Int64} (hr : rdO xs j = some z) {g : JFrame} (hg : g.method = m) {rest : List Value} (hs : g.stack = .int j :: .ref a :: rest) (hd : decode c.code g.pc = .ok (.laload, 1)) :
    ∀ target, Steps p.tables e below (T.setTop { g with pc := g.pc + 1, stack := .long z :: rest }) target → Steps p.tables e below (T.setTop g) target := by
  obtain ⟨cl, A, q⟩ := A
  obtain ⟨h1, h2⟩ := rd_at q hr
  exact X.laload hx (j := j) (v := .long z) (by rw [eT]; exact A.1) (State.isArrayOf_alike hZ.alike A.2.1) A.2.2 h1 h2 hg hs hd
theorem soI (X : Stand p l e R s m args below meth c T locs cells slots) (hx : p.tables.exec = Jvm.exec) (hZ : Z.Warmed39 s.vm) (eT : T.heap = h) {xs xs' : List Int32} (A : AI Z h a .int xs) {j z : Int32} (hr : wrO xs j z = some xs') {g : JFrame} (hg : g.method = m) {rest : List Value} (hs : g.stack = .int z :: .int j :: .ref a :: rest) (hd : decode c.code g.pc = .ok (.iastore, 1)) :
    ∃ T' h', Stand p l e R s m args below meth c T' (locs ++ [⟨a, j.toNatClampNeg⟩]) cells slots ∧ T'.heap = h' ∧ Wr h h' a j.toNatClampNeg (.int z) ∧ AI Z h' a .int xs' ∧ ∀ target, Steps p.tables e below (T'.setTop { g with pc := g.pc + 1, stack := rest }) target → Steps p.tables e below (T.setTop g) target := by
  obtain ⟨cl, A, q⟩ := A
  obtain ⟨h1, h2⟩ := wr_at2 q hr
  obtain ⟨T', h', X', e', W, st⟩ := stI X hx hZ eT A h1 hg hs hd
  exact ⟨T', h', X', e', W, ⟨_, A.same W, h2⟩, st⟩
theorem soB (X : Stand p l e R s m args below meth c T locs cells slots) (hx : p.tables.exec = Jvm.exec) (hZ : Z.Warmed39 s.vm) (eT : T.heap = h) {xs xs' : List Int32} (A : AI Z h a .byte xs) {j z : Int32} (hr : wrO xs j (z.toInt8.toInt32) = some xs') {g : JFrame} (hg : g.method = m) {rest : List Value} (hs : g.stack = .int z :: .int j :: .ref a :: rest) (hd : decode c.code g.pc = .ok (.bastore, 1)) :
    ∃ T' h', Stand p l e R s m args below meth c T' (locs ++ [⟨a, j.toNatClampNeg⟩]) cells slots ∧ T'.heap = h' ∧ Wr h h' a j.toNatClampNeg (.int (z.toInt8.toInt32)) ∧ AI Z h' a .byte xs' ∧ ∀ target, Steps p.tables e below (T'.setTop { g with pc := g.pc + 1, stack := rest }) target → Steps p.tables e below (T.setTop g) target := by
  obtain ⟨cl, A, q⟩ := A
  obtain ⟨h1, h2⟩ := wr_at2 q hr
  obtain ⟨T', h', X', e', W, st⟩ := stB X hx hZ eT A h1 hg hs hd
  exact ⟨T', h', X', e', W, ⟨_, A.same W, h2⟩, st⟩
theorem soJ (X : Stand p l e R s m args below meth c T locs cells slots) (hx : p.tables.exec = Jvm.exec) (hZ : Z.Warmed39 s.vm) (eT : T.heap = h) {xs xs' : List Int64} (A : AJ Z h a .long xs) {j : Int32} {z : Int64} (hr : wrO xs j z = some xs') {g : JFrame} (hg : g.method = m) {rest : List Value} (hs : g.stack = .long z :: .int j :: .ref a :: rest) (hd : decode c.code g.pc = .ok (.lastore, 1)) :
    ∃ T' h', Stand p l e R s m args below meth c T' (locs ++ [⟨a, j.toNatClampNeg⟩]) cells slots ∧ T'.heap = h' ∧ Wr h h' a j.toNatClampNeg (.long z) ∧ AJ Z h' a .long xs' ∧ ∀ target, Steps p.tables e below (T'.setTop { g with pc := g.pc + 1, stack := rest }) target → Steps p.tables e below (T.setTop g) target := by
  obtain ⟨cl, A, q⟩ := A
  obtain ⟨h1, h2⟩ := wr_at2 q hr
  obtain ⟨T', h', X', e', W, st⟩ := stJ X hx hZ eT A h1 hg hs hd
  exact ⟨T', h', X', e', W, ⟨_, A.same W, h2⟩, st⟩
theorem lenAI (X : Stand p l e R s m args below meth c T locs cells slots) (hx : p.tables.exec = Jvm.exec) (hZ : Z.Warmed39 s.vm) (eT : T.heap = h) {xs : List Int32} (A : AI Z h a ty xs) {g : JFrame} (hg : g.method = m) {rest : List Value} (hs : g.stack = .ref a :: rest) (hd : decode c.code g.pc = .ok (.arraylength, 1)) :
    ∀ target, Steps p.tables e below (T.setTop { g with pc := g.pc + 1, stack := .int (lenO xs) :: rest }) target → Steps p.tables e below (T.setTop g) target := by
  obtain ⟨cl, A, q⟩ := A
  have e1 : cl.slots.size.toInt32 = lenO xs := by rw [q]; simp [lenO]
  intro t k
  refine X.arraylength hx (by rw [eT]; exact A.1) (State.isArrayOf_alike hZ.alike A.2.1) hg hs hd _ ?_
  rw [e1]; exact k
theorem lenAJ (X : Stand p l e R s m args below meth c T locs cells slots) (hx : p.tables.exec = Jvm.exec) (hZ : Z.Warmed39 s.vm) (eT : T.heap = h) {xs : List Int64} (A : AJ Z h a ty xs) {g : JFrame} (hg : g.method = m) {rest : List Value} (hs : g.stack = .ref a :: rest) (hd : decode c.code g.pc = .ok (.arraylength, 1)) :
    ∀ target, Steps p.tables e below (T.setTop { g with pc := g.pc + 1, stack := .int (lenO xs) :: rest }) target → Steps p.tables e below (T.setTop g) target := by
  obtain ⟨cl, A, q⟩ := A
  have e1 : cl.slots.size.toInt32 = lenO xs := by rw [q]; simp [lenO]
  intro t k
  refine X.arraylength hx (by rw [eT]; exact A.1) (State.isArrayOf_alike hZ.alike A.2.1) hg hs hd _ ?_
  rw [e1]; exact k
theorem newI (X : Stand p l e R s m args below meth c T locs cells slots) (hx : p.tables.exec = Jvm.exec) (hZ : Z.Warmed39 s.vm) {aty : ArrayType} (ht : newarray.typeOf aty = ty) (hdv : defaultValue ty = .int 0) (w : (Cond.arrayClass ty).before a0 Z = true) (eT : T.heap = h) {n : Int32} {cap : Nat} {xs : List Int32} (hr : mkO n cap = some xs) {g : JFrame} (hg : g.method = m) (hd : decode c.code g.pc = .ok (.newarray aty, 2)) {rest : List Value} (hs : g.stack = .int n :: rest) (hb : cap * 8 ≤ 536870912) (hc : cells + 1 ≤ R.cells) (hl : slots + cap ≤ R.slots) :
    ∃ T' h', Stand p l e R s m args below meth c T' locs (cells + 1) (slots + cap) ∧ T'.heap = h' ∧ Ext h h' ∧ AI Z h' h.size ty xs ∧ ∀ target, Steps p.tables e below (T'.setTop { g with pc := g.pc + 2, stack := .ref h.size :: rest }) target → Steps p.tables e below (T.setTop g) target := by
  subst ht
  unfold mkO at hr
  by_cases hn : n < 0 ∨ cap < n.toNatClampNeg
  · rw [if_pos hn] at hr; exact nomatch hr
  · rw [if_neg hn] at hr
    obtain rfl := Option.some.inj hr
    obtain ⟨T', h', cA, X', e', E, A, st⟩ := newP X hx hZ w eT hg hd hs (fun q => hn (Or.inl q)) (cap := cap) (Nat.le_of_not_lt fun q => hn (Or.inr q)) hb hc hl
    exact ⟨T', h', X', e', E, ⟨_, A, by simp [newA, hdv]⟩, st⟩
theorem newJ (X : Stand p l e R s m args below meth c T locs cells slots) (hx : p.tables.exec = Jvm.exec) (hZ : Z.Warmed39 s.vm) {aty : ArrayType} (ht : newarray.typeOf aty = .long) (w : (Cond.arrayClass .long).before a0 Z = true) (eT : T.heap = h) {n : Int32} {cap : Nat} {xs : List Int64} (hr : mkOJ n cap = some xs) {g : JFrame} (hg : g.method = m) (hd : decode c.code g.pc = .ok (.newarray aty, 2)) {rest : List Value} (hs : g.stack = .int n :: rest) (hb : cap * 8 ≤ 536870912) (hc : cells + 1 ≤ R.cells) (hl : slots + cap ≤ R.slots) :
    ∃ T' h', Stand p l e R s m args below meth c T' locs (cells + 1) (slots + cap) ∧ T'.heap = h' ∧ Ext h h' ∧ AJ Z h' h.size .long xs ∧ ∀ target, Steps p.tables e below (T'.setTop { g with pc := g.pc + 2, stack := .ref h.size :: rest }) target → Steps p.tables e below (T.setTop g) target := by
  unfold mkOJ at hr
  by_cases hn : n < 0 ∨ cap < n.toNatClampNeg
  · rw [if_pos hn] at hr; exact nomatch hr
  · rw [if_neg hn] at hr
    obtain rfl := Option.some.inj hr
    obtain ⟨T', h', cA, X', e', E, A, st⟩ := newP X hx hZ (by rw [ht]; exact w) eT hg hd hs (fun q => hn (Or.inl q)) (cap := cap) (Nat.le_of_not_lt fun q => hn (Or.inr q)) hb hc hl
    rw [ht] at A
    exact ⟨T', h', X', e', E, ⟨_, A, by simp [newA, defaultValue]⟩, st⟩
end Arrs
theorem d5_0 : decode jdk_65_method_101_code 0 = .ok (.iconst 0, 1) := by decide +kernel
theorem d5_1 : decode jdk_65_method_101_code 1 = .ok (.istore_n 3, 1) := by decide +kernel
theorem d5_2 : decode jdk_65_method_101_code 2 = .ok (.aload_n 0, 1) := by decide +kernel
theorem d5_3 : decode jdk_65_method_101_code 3 = .ok (.arraylength, 1) := by decide +kernel
theorem d5_4 : decode jdk_65_method_101_code 4 = .ok (.istore 4, 2) := by decide +kernel
theorem d5_6 : decode jdk_65_method_101_code 6 = .ok (.iload_n 3, 1) := by decide +kernel
theorem d5_7 : decode jdk_65_method_101_code 7 = .ok (.iload 4, 2) := by decide +kernel
theorem d5_9 : decode jdk_65_method_101_code 9 = .ok (.if_icmp .ge 13, 3) := by decide +kernel
theorem d5_12 : decode jdk_65_method_101_code 12 = .ok (.aload_n 0, 1) := by decide +kernel
theorem d5_13 : decode jdk_65_method_101_code 13 = .ok (.iload_n 3, 1) := by decide +kernel
theorem d5_14 : decode jdk_65_method_101_code 14 = .ok (.lload_n 1, 1) := by decide +kernel
theorem d5_15 : decode jdk_65_method_101_code 15 = .ok (.lastore, 1) := by decide +kernel
theorem d5_16 : decode jdk_65_method_101_code 16 = .ok (.iinc 3 1, 3) := by decide +kernel
theorem d5_19 : decode jdk_65_method_101_code 19 = .ok (.goto (-13), 3) := by decide +kernel
theorem d5_22 : decode jdk_65_method_101_code 22 = .ok (.return_, 1) := by decide +kernel
def P5 (Z : State) (hE : Heap) (a1 : Addr) (q_a1 : List Int64) (n0 : Nat) (r : List Int64) (v : Option Value) (h : Heap) (L : List Loc) : Prop := v = none ∧ Fr n0 L ∧ Keep hE h [a1] ∧ AJ Z h a1 .long r
def s5_6 (K6 : Int64 → Int32 → Int32 → List Int64 → Option (List Int64)) (fuel : Nat) (y1 : Int64) (x3 : Int32) (x4 : Int32) (q_a1 : List Int64) : Option (List Int64) := (if x3 < x4 then ((wrO q_a1 x3 y1).bind fun v2 => (K6 y1 (x3 + (1 : Int32)) x4 v2)) else some q_a1)
def h5_6 (fuel : Nat) : Nat → Int64 → Int32 → Int32 → List Int64 → Option (List Int64)
  | 0 => fun _ _ _ _ => none
  | n + 1 => fun y1 x3 x4 q_a1 => s5_6 (h5_6 fuel n) fuel y1 x3 x4 q_a1
def g5_6 (fuel : Nat) (y1 : Int64) (x3 : Int32) (x4 : Int32) (q_a1 : List Int64) : Option (List Int64) := h5_6 fuel fuel y1 x3 x4 q_a1
set_option maxRecDepth 65536 in
set_option maxHeartbeats 4000000 in
theorem t5_6 {hE : Heap} {a1 : Addr} {q_a1₀ : List Int64} (fuel : Nat) {r : List Int64} (C : Ctx p s m meth c Z a0 "java/util/Arrays" jdk_65_method_101_code 5 none "fill") (K6 : Int64 → Int32 → Int32 → List Int64 → Option (List Int64)) (hK6 : ∀ {T0 : State} {locs : List Loc} {cells slots : Nat} {h0 : Heap} (X0 : Stand p l e ({ frames := 0, cells := 0, slots := 0, locals := 0 } : Room) s m args below meth c T0 locs cells slots) (e0 : T0.heap = h0) (N0 : Fr n0 locs) (hk : cells ≤ 0) (hn : slots ≤ 0) (Z1 : n0 ≤ h0.size) (KE : Keep hE h0 [a1]) (o0 : n0 ≤ a1) (q_a1 : List Int64) (y1 : Int64) (x3 : Int32) (x4 : Int32) (A_a1_0 : AJ Z h0 a1 .long q_a1), K6 y1 x3 x4 q_a1 = some r → Runs p e below s (P5 Z hE a1 q_a1₀ n0 r) 0 0 T0 (mkF m 6 #[.val (.ref a1), .val (.long y1), .second, .val (.int x3), .val (.int x4)] [])) (X0 : Stand p l e ({ frames := 0, cells := 0, slots := 0, locals := 0 } : Room) s m args below meth c T0 locs cells slots) (e0 : T0.heap = h0) (N0 : Fr n0 locs) (hk : cells ≤ 0) (hn : slots ≤ 0) (Z1 : n0 ≤ h0.size) (KE : Keep hE h0 [a1]) (o0 : n0 ≤ a1) (q_a1 : List Int64) (y1 : Int64) (x3 : Int32) (x4 : Int32) (A_a1_0 : AJ Z h0 a1 .long q_a1) (hr : s5_6 K6 fuel y1 x3 x4 q_a1 = some r) :
    Runs p e below s (P5 Z hE a1 q_a1₀ n0 r) 0 0 T0 (mkF m 6 #[.val (.ref a1), .val (.long y1), .second, .val (.int x3), .val (.int x4)] []) := by
  unfold s5_6 at hr
  have ⟨hx, hZ, hw, hby, hml, hown, hret, hlk, hnm⟩ := C
  refine Runs.via (T' := T0) (g' := (mkF m 9 #[.val (.ref a1), .val (.long y1), .second, .val (.int x3), .val (.int x4)] [(.int x4), (.int x3)])) (fun t k => ?_) ?_
  · show Steps p.tables e below (T0.setTop (mkF m 6 #[.val (.ref a1), .val (.long y1), .second, .val (.int x3), .val (.int x4)] [])) t
    refine XS.iloadN X0.here hx rfl (hb hby d5_6) rfl ?_
    show Steps p.tables e below (T0.setTop (mkF m 7 #[.val (.ref a1), .val (.long y1), .second, .val (.int x3), .val (.int x4)] [(.int x3)])) t
    refine XS.iload X0.here hx rfl (hb hby d5_7) rfl ?_
    exact k
  refine iteE hr (fun hc1 hr => ?_) (fun hc1 hr => ?_)
  · refine Runs.via (T' := T0) (g' := (mkF m 12 #[.val (.ref a1), .val (.long y1), .second, .val (.int x3), .val (.int x4)] [])) (fun t k => ?_) ?_
    · show Steps p.tables e below (T0.setTop (mkF m 9 #[.val (.ref a1), .val (.long y1), .second, .val (.int x3), .val (.int x4)] [(.int x4), (.int x3)])) t
      exact XS.icmpNo X0.here hx rfl (hb hby d5_9) rfl (tlt hc1).2.1 k
    refine Runs.via (T' := T0) (g' := (mkF m 15 #[.val (.ref a1), .val (.long y1), .second, .val (.int x3), .val (.int x4)] [(.long y1), (.int x3), (.ref a1)])) (fun t k => ?_) ?_
    · show Steps p.tables e below (T0.setTop (mkF m 12 #[.val (.ref a1), .val (.long y1), .second, .val (.int x3), .val (.int x4)] [])) t
      refine XS.aloadN X0.here hx rfl (hb hby d5_12) rfl rfl ?_
      show Steps p.tables e below (T0.setTop (mkF m 13 #[.val (.ref a1), .val (.long y1), .second, .val (.int x3), .val (.int x4)] [(.ref a1)])) t
      refine XS.iloadN X0.here hx rfl (hb hby d5_13) rfl ?_
      show Steps p.tables e below (T0.setTop (mkF m 14 #[.val (.ref a1), .val (.long y1), .second, .val (.int x3), .val (.int x4)] [(.int x3), (.ref a1)])) t
      refine XS.lloadN X0.here hx rfl (hb hby d5_14) rfl ?_
      exact k
    refine bindE hr ?_; intro v2 hv2 hr
    obtain ⟨T2, h2, X2, e2, W2, A2, st2⟩ := soJ X0 hx hZ e0 A_a1_0 hv2 (g := (mkF m 15 #[.val (.ref a1), .val (.long y1), .second, .val (.int x3), .val (.int x4)] [(.long y1), (.int x3), (.ref a1)])) rfl rfl (hb hby d5_15)
    have A_a1_2 : AJ Z h2 a1 .long v2 := A2
    have N2 := Fr.snoc X2 N0 (by omega : n0 ≤ a1)
    have zz2 : n0 ≤ h2.size := Nat.le_trans Z1 (Keep.of_wr W2).1
    have K2 := KE.wr W2 (Or.inl (List.mem_of_getElem? (i := 0) rfl))
    refine Runs.via (T' := T2) (g' := (mkF m 16 #[.val (.ref a1), .val (.long y1), .second, .val (.int x3), .val (.int x4)] [])) (fun t k => st2 _ k) ?_
    refine Runs.via (T' := T2) (g' := (mkF m 6 #[.val (.ref a1), .val (.long y1), .second, .val (.int (x3 + (1 : Int32))), .val (.int x4)] [])) (fun t k => ?_) ?_
    · show Steps p.tables e below (T2.setTop (mkF m 16 #[.val (.ref a1), .val (.long y1), .second, .val (.int x3), .val (.int x4)] [])) t
      refine XS.iinc X2.here hx rfl (hb hby d5_16) rfl (l' := #[.val (.ref a1), .val (.long y1), .second, .val (.int (x3 + (1 : Int32))), .val (.int x4)]) rfl ?_
      show Steps p.tables e below (T2.setTop (mkF m 19 #[.val (.ref a1), .val (.long y1), .second, .val (.int (x3 + (1 : Int32))), .val (.int x4)] [])) t
      refine XS.goto X2.here hx rfl (pc0 := 19) (pc' := 6) rfl (hb hby d5_19) (by decide) (by decide) ?_
      exact k
    exact hK6 X2 e2 N2 (by show cells ≤ 0; omega) (by show slots ≤ 0; omega) zz2 K2 (by omega) v2 y1 (x3 + (1 : Int32)) x4 A_a1_2 hr
  · refine Runs.via (T' := T0) (g' := (mkF m 22 #[.val (.ref a1), .val (.long y1), .second, .val (.int x3), .val (.int x4)] [])) (fun t k => ?_) ?_
    · show Steps p.tables e below (T0.setTop (mkF m 9 #[.val (.ref a1), .val (.long y1), .second, .val (.int x3), .val (.int x4)] [(.int x4), (.int x3)])) t
      exact XS.icmpYes X0.here hx rfl (pc0 := 9) (pc' := 22) rfl (hb hby d5_9) rfl (flt hc1).2.1 (by decide) (by decide) k
    obtain rfl := Option.some.inj hr
    exact own_retV X0 hx hlk hret (hb hby d5_22) (by show cells ≤ 0; omega) (by show slots ≤ 0; omega) ⟨rfl, N0, (by rw [e0]; exact KE), (by rw [e0]; exact A_a1_0)⟩
set_option maxRecDepth 65536 in
set_option maxHeartbeats 4000000 in
theorem u5_6 {hE : Heap} {a1 : Addr} {q_a1₀ : List Int64} (fuel : Nat) {r : List Int64} (C : Ctx p s m meth c Z a0 "java/util/Arrays" jdk_65_method_101_code 5 none "fill") : ∀ n : Nat, ∀ {T0 : State} {locs : List Loc} {cells slots : Nat} {h0 : Heap} (X0 : Stand p l e ({ frames := 0, cells := 0, slots := 0, locals := 0 } : Room) s m args below meth c T0 locs cells slots) (e0 : T0.heap = h0) (N0 : Fr n0 locs) (hk : cells ≤ 0) (hn : slots ≤ 0) (Z1 : n0 ≤ h0.size) (KE : Keep hE h0 [a1]) (o0 : n0 ≤ a1) (q_a1 : List Int64) (y1 : Int64) (x3 : Int32) (x4 : Int32) (A_a1_0 : AJ Z h0 a1 .long q_a1), h5_6 fuel n y1 x3 x4 q_a1 = some r → Runs p e below s (P5 Z hE a1 q_a1₀ n0 r) 0 0 T0 (mkF m 6 #[.val (.ref a1), .val (.long y1), .second, .val (.int x3), .val (.int x4)] []) := by
  intro n
  induction n with
  | zero => intros; rename_i hr; exact absurd hr (by simp [h5_6])
  | succ n ih =>
    intro T0 locs cells slots h0 X0 e0 N0 hk hn Z1 KE o0 q_a1 y1 x3 x4 A_a1_0 hr
    exact t5_6 fuel C _ ih X0 e0 N0 hk hn Z1 KE o0 q_a1 y1 x3 x4 A_a1_0 hr
set_option maxRecDepth 65536 in
set_option maxHeartbeats 4000000 in
theorem b5_6 {hE : Heap} {a1 : Addr} {q_a1₀ : List Int64} {r : List Int64} (C : Ctx p s m meth c Z a0 "java/util/Arrays" jdk_65_method_101_code 5 none "fill") (fuel : Nat) (X0 : Stand p l e ({ frames := 0, cells := 0, slots := 0, locals := 0 } : Room) s m args below meth c T0 locs cells slots) (e0 : T0.heap = h0) (N0 : Fr n0 locs) (hk : cells ≤ 0) (hn : slots ≤ 0) (Z1 : n0 ≤ h0.size) (KE : Keep hE h0 [a1]) (o0 : n0 ≤ a1) (q_a1 : List Int64) (y1 : Int64) (x3 : Int32) (x4 : Int32) (A_a1_0 : AJ Z h0 a1 .long q_a1) (hr : g5_6 fuel y1 x3 x4 q_a1 = some r) :
    Runs p e below s (P5 Z hE a1 q_a1₀ n0 r) 0 0 T0 (mkF m 6 #[.val (.ref a1), .val (.long y1), .second, .val (.int x3), .val (.int x4)] []) := u5_6 fuel C fuel X0 e0 N0 hk hn Z1 KE o0 q_a1 y1 x3 x4 A_a1_0 hr
def g5_0 (fuel : Nat) (y1 : Int64) (q_a1 : List Int64) : Option (List Int64) := (letO (lenO q_a1) fun v1 => (g5_6 fuel y1 (0 : Int32) v1 q_a1))
set_option maxRecDepth 65536 in
set_option maxHeartbeats 4000000 in
theorem b5_0 {hE : Heap} {a1 : Addr} {q_a1₀ : List Int64} {r : List Int64} (C : Ctx p s m meth c Z a0 "java/util/Arrays" jdk_65_method_101_code 5 none "fill") (fuel : Nat) (X0 : Stand p l e ({ frames := 0, cells := 0, slots := 0, locals := 0 } : Room) s m args below meth c T0 locs cells slots) (e0 : T0.heap = h0) (N0 : Fr n0 locs) (hk : cells ≤ 0) (hn : slots ≤ 0) (Z1 : n0 ≤ h0.size) (KE : Keep hE h0 [a1]) (o0 : n0 ≤ a1) (q_a1 : List Int64) (y1 : Int64) (A_a1_0 : AJ Z h0 a1 .long q_a1) (hr : g5_0 fuel y1 q_a1 = some r) :
    Runs p e below s (P5 Z hE a1 q_a1₀ n0 r) 0 0 T0 (mkF m 0 #[.val (.ref a1), .val (.long y1), .second, .unset, .unset] []) := by
  unfold g5_0 at hr
  have ⟨hx, hZ, hw, hby, hml, hown, hret, hlk, hnm⟩ := C
  refine Runs.via (T' := T0) (g' := (mkF m 4 #[.val (.ref a1), .val (.long y1), .second, .val (.int (0 : Int32)), .unset] [(.int (lenO q_a1))])) (fun t k => ?_) ?_
  · show Steps p.tables e below (T0.setTop (mkF m 0 #[.val (.ref a1), .val (.long y1), .second, .unset, .unset] [])) t
    refine XS.iconst X0.here hx rfl (hb hby d5_0) ?_
    show Steps p.tables e below (T0.setTop (mkF m 1 #[.val (.ref a1), .val (.long y1), .second, .unset, .unset] [(.int (0 : Int32))])) t
    refine XS.istoreN X0.here hx rfl (hb hby d5_1) rfl (l' := #[.val (.ref a1), .val (.long y1), .second, .val (.int (0 : Int32)), .unset]) rfl ?_
    show Steps p.tables e below (T0.setTop (mkF m 2 #[.val (.ref a1), .val (.long y1), .second, .val (.int (0 : Int32)), .unset] [])) t
    refine XS.aloadN X0.here hx rfl (hb hby d5_2) rfl rfl ?_
    show Steps p.tables e below (T0.setTop (mkF m 3 #[.val (.ref a1), .val (.long y1), .second, .val (.int (0 : Int32)), .unset] [(.ref a1)])) t
    refine lenAJ X0 hx hZ e0 A_a1_0 rfl (g := (mkF m 3 #[.val (.ref a1), .val (.long y1), .second, .val (.int (0 : Int32)), .unset] [(.ref a1)])) rfl (hb hby d5_3) _ ?_
    exact k
  refine letE hr ?_; intro v1 hv1 hr
  rw [← hv1]
  refine Runs.via (T' := T0) (g' := (mkF m 6 #[.val (.ref a1), .val (.long y1), .second, .val (.int (0 : Int32)), .val (.int v1)] [])) (fun t k => ?_) ?_
  · show Steps p.tables e below (T0.setTop (mkF m 4 #[.val (.ref a1), .val (.long y1), .second, .val (.int (0 : Int32)), .unset] [(.int v1)])) t
    refine XS.istore X0.here hx rfl (hb hby d5_4) rfl (l' := #[.val (.ref a1), .val (.long y1), .second, .val (.int (0 : Int32)), .val (.int v1)]) rfl ?_
    exact k
  exact b5_6 C fuel X0 e0 N0 (by show cells ≤ 0; omega) (by show slots ≤ 0; omega) Z1 KE (by omega) q_a1 y1 (0 : Int32) v1 A_a1_0 hr
def f5 (fuel : Nat) (y1 : Int64) (q_a1 : List Int64) : Option (List Int64) := g5_0 fuel y1 q_a1
theorem pn_5 : plainName "java/util/Arrays" = true := by first | (simp [plainName, overriddenIn]; done) | decide +kernel
theorem ef_5 (m : MethodId) (y1 : Int64) (a1 : Addr) : entryFrame m #[(.ref a1), (.long y1)] 5 = mkF m 0 #[.val (.ref a1), .val (.long y1), .second, .unset, .unset] [] := by first | (simp [entryFrame, mkF, argsToLocals, Value.category]; done) | rfl
set_option maxRecDepth 65536 in
set_option maxHeartbeats 4000000 in
theorem rm5 (l : Launch) (Z : State) (a0 : Array Value) (hw : ∀ d ∈ tables_1, d.before a0 Z = true) (ws : List Jvm.Cond) (y1 : Int64) (a1 : Addr) (q_a1 : List Int64) (hE : Heap) (n0 : Nat) (Z0 : n0 ≤ hE.size) (o0 : n0 ≤ a1) (A_a1_0 : AJ Z hE a1 .long q_a1) (fuel : Nat) (r : List Int64) (hr : f5 fuel y1 q_a1 = some r) :
    MetFree l (⟨"java/util/Arrays", "fill", "([JJ)V"⟩ : MethodName) (head1 (Jvm.Cond.code (⟨"java/util/Arrays", "fill", "([JJ)V"⟩ : MethodName) jdk_65_method_101_code 5 none :: ws) ({ frames := 0, cells := 0, slots := 0, locals := 0 } : Room)) (fun a U => a = #[(.ref a1), (.long y1)] ∧ Z.Warmed39 U.vm ∧ U.heap = hE) (fun _ _ _ _ _ => True) (fun _ U o U' => ∃ v L, o = .returned v ∧ (P5 Z hE a1 q_a1 n0 r v U'.heap L) ∧ FrameEnd U o U' L ({ frames := 0, cells := 0, slots := 0, locals := 0 } : Room).cells ({ frames := 0, cells := 0, slots := 0, locals := 0 } : Room).slots) := by
  refine MetFree.of_bodySF (plainFor_of_name pn_5) hisR ?_
  intro p e s m args below meth c s₁ Bd hml0 hP hK
  obtain ⟨rfl, hZ, hh⟩ := hP
  have X0 : Stand p l e ({ frames := 0, cells := 0, slots := 0, locals := 0 } : Room) s m #[(.ref a1), (.long y1)] below meth c s₁ [] 0 0 := Stand.of_body Bd
  have e0 : s₁.heap = hE := by rw [← hh, Bd.state]; rfl
  have C : Ctx p s m meth c Z a0 "java/util/Arrays" jdk_65_method_101_code 5 none "fill" := ⟨Bd.exec, hZ, hw, Bd.bytes, hml0, findClass_of_methodNamed Bd.named, Bd.returns, BodyLoose.notSynchronized Bd, (name_of_methodNamed Bd.named Bd.method).1⟩
  refine Runs.via (fun t k => castTop (ef_5 m y1 a1) k) (b5_0 C fuel X0 e0 (Fr.nil n0) (by show 0 ≤ 0; omega) (by show 0 ≤ 0; omega) Z0 (Keep.refl hE [a1]) (by omega) q_a1 y1 A_a1_0 hr)
theorem pd_0 : parseMethodDescriptor "([JJ)V" = some ⟨[(.array .long), .long], none⟩ := by decide +kernel
theorem d4_0 : decode prog_19_method_6_code 0 = .ok (.iload_n 0, 1) := by decide +kernel
theorem d4_1 : decode prog_19_method_6_code 1 = .ok (.newarray .long, 2) := by decide +kernel
theorem d4_3 : decode prog_19_method_6_code 3 = .ok (.astore_n 1, 1) := by decide +kernel
theorem d4_4 : decode prog_19_method_6_code 4 = .ok (.aload_n 1, 1) := by decide +kernel
theorem d4_5 : decode prog_19_method_6_code 5 = .ok (.ldc2_w 27, 3) := by decide +kernel
theorem d4_8 : decode prog_19_method_6_code 8 = .ok (.invokestatic 47, 3) := by decide +kernel
theorem d4_11 : decode prog_19_method_6_code 11 = .ok (.aload_n 1, 1) := by decide +kernel
theorem d4_12 : decode prog_19_method_6_code 12 = .ok (.areturn, 1) := by decide +kernel
def P4 (Z : State) (hE : Heap) (n0 : Nat) (r : List Int64) (v : Option Value) (h : Heap) (L : List Loc) : Prop := ∃ n0_4 : Addr, v = some (.ref n0_4) ∧ Fr n0 L ∧ Keep hE h [] ∧ hE.size ≤ n0_4 ∧ AJ Z h n0_4 .long r
def g4_0 (fuel : Nat) (x0 : Int32) : Option (List Int64) := ((mkOJ x0 16).bind fun v1 => ((f5 fuel (-9223372036854775808 : Int64) v1).bind fun r2 => some r2))
set_option maxRecDepth 65536 in
set_option maxHeartbeats 4000000 in
theorem b4_0 {hE : Heap} {r : List Int64} (C : Ctx p s m meth c Z a0 "com/example/mopor/mopor/reduction/LongIntTable" prog_19_method_6_code 2 (some (.array .long)) "emptyKeys") (fuel : Nat) (X0 : Stand p l e ({ frames := 1, cells := 1, slots := 16, locals := 16 } : Room) s m args below meth c T0 locs cells slots) (e0 : T0.heap = h0) (N0 : Fr n0 locs) (hk : cells ≤ 0) (hn : slots ≤ 0) (Z1 : n0 ≤ h0.size) (KE : Keep hE h0 []) (x0 : Int32) (hr : g4_0 fuel x0 = some r) :
    Runs p e below s (P4 Z hE n0 r) 1 16 T0 (mkF m 0 #[.val (.int x0), .unset] []) := by
  unfold g4_0 at hr
  have ⟨hx, hZ, hw, hby, hml, hown, hret, hlk, hnm⟩ := C
  refine Runs.via (T' := T0) (g' := (mkF m 1 #[.val (.int x0), .unset] [(.int x0)])) (fun t k => ?_) ?_
  · show Steps p.tables e below (T0.setTop (mkF m 0 #[.val (.int x0), .unset] [])) t
    refine XS.iloadN X0.here hx rfl (hb hby d4_0) rfl ?_
    exact k
  refine bindE hr ?_; intro v1 hv1 hr
  obtain ⟨T1, h1, X1, e1, E1, A1, st1⟩ := newJ X0 hx hZ (aty := .long) rfl  (hw _ (List.mem_of_getElem? (i := 19) rfl)) e0 hv1 (g := (mkF m 1 #[.val (.int x0), .unset] [(.int x0)])) rfl (hb hby d4_1) rfl (by decide) (by show cells + 1 ≤ 1; omega) (by show slots + 16 ≤ 16; omega)
  obtain ⟨c1_4, g1⟩ : ∃ z, z = h0.size := ⟨_, rfl⟩
  rw [← g1] at A1 st1
  have i1 := E1.1
  have K1 := KE.ext E1
  have zs1 : hE.size ≤ c1_4 := by have := KE.1; omega
  have zz1 : n0 ≤ h1.size := Nat.le_trans Z1 i1
  have A_c1_4_1 := A1
  have sc1_4 : n0 ≤ c1_4 := by omega
  refine Runs.via (T' := T1) (g' := (mkF m 3 #[.val (.int x0), .unset] [(.ref c1_4)])) (fun t k => st1 _ k) ?_
  refine Runs.via (T' := T1) (g' := (mkF m 8 #[.val (.int x0), .val (.ref c1_4)] [(.long (-9223372036854775808 : Int64)), (.ref c1_4)])) (fun t k => ?_) ?_
  · show Steps p.tables e below (T1.setTop (mkF m 3 #[.val (.int x0), .unset] [(.ref c1_4)])) t
    refine XS.astoreN X1.here hx rfl (hb hby d4_3) rfl rfl (l' := #[.val (.int x0), .val (.ref c1_4)]) rfl ?_
    show Steps p.tables e below (T1.setTop (mkF m 4 #[.val (.int x0), .val (.ref c1_4)] [])) t
    refine XS.aloadN X1.here hx rfl (hb hby d4_4) rfl rfl ?_
    show Steps p.tables e below (T1.setTop (mkF m 5 #[.val (.int x0), .val (.ref c1_4)] [(.ref c1_4)])) t
    refine X1.ldc2Long hx hown (mvT hZ (hw _ (List.mem_of_getElem? (i := 20) rfl))) (g := (mkF m 5 #[.val (.int x0), .val (.ref c1_4)] [(.ref c1_4)])) rfl (hb hby d4_5) _ ?_
    exact k
  refine bindE hr ?_; intro r2 hr2m hr
  obtain ⟨_, _, ⟨T2, L2, k2, n2⟩, -, X2, ⟨Lc2, hQ2, l2, y2, z2⟩, st2⟩ := Jvm.LawKit.callS X1 hx (y := (⟨"java/util/Arrays", "fill", "([JJ)V"⟩ : MethodName)) hown (mvT hZ (hw _ (List.mem_of_getElem? (i := 21) rfl))) (mvT hZ (hw _ (List.mem_of_getElem? (i := 22) rfl))) (mvT hZ (hw _ (List.mem_of_getElem? (i := 23) rfl))) (mvT hZ (hw _ (List.mem_of_getElem? (i := 24) rfl))) (by decide) (backOf (W := 0) (rm5 l Z a0 hw [] (-9223372036854775808 : Int64) c1_4 v1 h1 n0 zz1 (by omega) A_c1_4_1 fuel r2 hr2m) hZ (hw _ (List.mem_of_getElem? (i := 24) rfl)) (hw _ (List.mem_of_getElem? (i := 23) rfl)) (by decide) (by decide)) (g := (mkF m 8 #[.val (.int x0), .val (.ref c1_4)] [(.long (-9223372036854775808 : Int64)), (.ref c1_4)])) rfl (by rw [hml]; rfl) (argsL := [(.ref c1_4), (.long (-9223372036854775808 : Int64))]) (rest := []) (lenOf pd_0 rfl) rfl (by show 2 * 0 + _ ≤ _; exact Nat.le_of_eq rfl) (hb hby d4_8) (fun _ _ => ⟨rfl, e1, (by show (cells + 1) + 0 ≤ 1; omega), (by show (slots + 16) + 0 ≤ 16; omega)⟩)
  dsimp only [Pt.U, Pt.locs, Pt.cells, Pt.slots] at X2 l2 y2 z2 st2 hQ2
  replace y2 := y2.symm; replace z2 := z2.symm; subst l2 y2 z2
  obtain ⟨h2, e2⟩ : ∃ z, T2.heap = z := ⟨_, rfl⟩
  rw [e2] at hQ2
  obtain ⟨rfl, N2q, K2q, A_c1_4_2⟩ := hQ2
  have N2 := Fr.app N0 N2q
  have K2 := K1.trans K2q (allS (Or.inr (by omega)) all0)
  have zz2 : n0 ≤ h2.size := Nat.le_trans zz1 K2q.1
  refine Runs.via (T' := T2) (g' := (mkF m 11 #[.val (.int x0), .val (.ref c1_4)] [])) (fun t k => st2 _ k) ?_
  refine Runs.via (T' := T2) (g' := (mkF m 12 #[.val (.int x0), .val (.ref c1_4)] [(.ref c1_4)])) (fun t k => ?_) ?_
  · show Steps p.tables e below (T2.setTop (mkF m 11 #[.val (.int x0), .val (.ref c1_4)] [])) t
    refine XS.aloadN X2.here hx rfl (hb hby d4_11) rfl rfl ?_
    exact k
  obtain rfl := Option.some.inj hr
  exact own_retR X2 hx hlk hret rfl (hb hby d4_12) (by show ((cells + 1) + 0) ≤ 1; omega) (by show ((slots + 16) + 0) ≤ 16; omega) ⟨c1_4, rfl, N2, (by rw [e2]; exact K2), (by omega), (by rw [e2]; exact A_c1_4_2)⟩
def f4 (fuel : Nat) (x0 : Int32) : Option (List Int64) := g4_0 fuel x0
theorem pn_4 : plainName "com/example/mopor/mopor/reduction/LongIntTable" = true := by first | (simp [plainName, overriddenIn]; done) | decide +kernel
theorem ef_4 (m : MethodId) (x0 : Int32) : entryFrame m #[(.int x0)] 2 = mkF m 0 #[.val (.int x0), .unset] [] := by first | (simp [entryFrame, mkF, argsToLocals, Value.category]; done) | rfl
set_option maxRecDepth 65536 in
set_option maxHeartbeats 4000000 in
theorem rm4 (l : Launch) (Z : State) (a0 : Array Value) (hw : ∀ d ∈ tables_1, d.before a0 Z = true) (ws : List Jvm.Cond) (x0 : Int32) (hE : Heap) (n0 : Nat) (Z0 : n0 ≤ hE.size) (fuel : Nat) (r : List Int64) (hr : f4 fuel x0 = some r) :
    MetFree l (⟨"com/example/mopor/mopor/reduction/LongIntTable", "emptyKeys", "(I)[J"⟩ : MethodName) (head1 (Jvm.Cond.code (⟨"com/example/mopor/mopor/reduction/LongIntTable", "emptyKeys", "(I)[J"⟩ : MethodName) prog_19_method_6_code 2 (some (.array .long)) :: ws) ({ frames := 1, cells := 1, slots := 16, locals := 16 } : Room)) (fun a U => a = #[(.int x0)] ∧ Z.Warmed39 U.vm ∧ U.heap = hE) (fun _ _ _ _ _ => True) (fun _ U o U' => ∃ v L, o = .returned v ∧ (P4 Z hE n0 r v U'.heap L) ∧ FrameEnd U o U' L ({ frames := 1, cells := 1, slots := 16, locals := 16 } : Room).cells ({ frames := 1, cells := 1, slots := 16, locals := 16 } : Room).slots) := by
  refine MetFree.of_bodySF (plainFor_of_name pn_4) hisR ?_
  intro p e s m args below meth c s₁ Bd hml0 hP hK
  obtain ⟨rfl, hZ, hh⟩ := hP
  have X0 : Stand p l e ({ frames := 1, cells := 1, slots := 16, locals := 16 } : Room) s m #[(.int x0)] below meth c s₁ [] 0 0 := Stand.of_body Bd
  have e0 : s₁.heap = hE := by rw [← hh, Bd.state]; rfl
  have C : Ctx p s m meth c Z a0 "com/example/mopor/mopor/reduction/LongIntTable" prog_19_method_6_code 2 (some (.array .long)) "emptyKeys" := ⟨Bd.exec, hZ, hw, Bd.bytes, hml0, findClass_of_methodNamed Bd.named, Bd.returns, BodyLoose.notSynchronized Bd, (name_of_methodNamed Bd.named Bd.method).1⟩
  refine Runs.via (fun t k => castTop (ef_4 m x0) k) (b4_0 C fuel X0 e0 (Fr.nil n0) (by show 0 ≤ 0; omega) (by show 0 ≤ 0; omega) Z0 (Keep.refl hE []) x0 hr)
theorem pd_1 : parseMethodDescriptor "(I)[J" = some ⟨[.int], some (.array .long)⟩ := by decide +kernel
theorem d3_0 : decode prog_19_method_1_code 0 = .ok (.aload_n 0, 1) := by decide +kernel
theorem d3_1 : decode prog_19_method_1_code 1 = .ok (.invokespecial 3, 3) := by decide +kernel
theorem d3_4 : decode prog_19_method_1_code 4 = .ok (.aload_n 0, 1) := by decide +kernel
theorem d3_5 : decode prog_19_method_1_code 5 = .ok (.bipush 16, 2) := by decide +kernel
theorem d3_7 : decode prog_19_method_1_code 7 = .ok (.invokestatic 9, 3) := by decide +kernel
theorem d3_10 : decode prog_19_method_1_code 10 = .ok (.putfield 15, 3) := by decide +kernel
theorem d3_13 : decode prog_19_method_1_code 13 = .ok (.aload_n 0, 1) := by decide +kernel
theorem d3_14 : decode prog_19_method_1_code 14 = .ok (.bipush 16, 2) := by decide +kernel
theorem d3_16 : decode prog_19_method_1_code 16 = .ok (.newarray .int, 2) := by decide +kernel
theorem d3_18 : decode prog_19_method_1_code 18 = .ok (.putfield 19, 3) := by decide +kernel
theorem d3_21 : decode prog_19_method_1_code 21 = .ok (.return_, 1) := by decide +kernel
def P3 (Z : State) (hE : Heap) (a1 : Addr) (q_a1_size : Int32) (n0 : Nat) (r : List Int64 × List Int32) (v : Option Value) (h : Heap) (L : List Loc) : Prop := ∃ n1_3 : Addr, ∃ n2_3 : Addr, v = none ∧ Fr n0 L ∧ Keep hE h [a1] ∧ hE.size ≤ n1_3 ∧ hE.size ≤ n2_3 ∧ @LT.lt Nat instLTNat n1_3 n2_3 ∧ Exa Z h a1 "com/example/mopor/mopor/reduction/LongIntTable" ∧ Fld Z h a1 "com/example/mopor/mopor/reduction/LongIntTable" "keys" "[J" (.ref n1_3) ∧ Fld Z h a1 "com/example/mopor/mopor/reduction/LongIntTable" "values" "[I" (.ref n2_3) ∧ Fld Z h a1 "com/example/mopor/mopor/reduction/LongIntTable" "size" "I" (.int q_a1_size) ∧ AJ Z h n1_3 .long r.1 ∧ AI Z h n2_3 .int r.2
def g3_0 (fuel : Nat) (q_a1_size : Int32) : Option (List Int64 × List Int32) := ((f4 fuel (16 : Int32)).bind fun r2 => ((mkO (16 : Int32) 16).bind fun v4 => some (r2, v4)))
set_option maxRecDepth 65536 in
set_option maxHeartbeats 4000000 in
theorem b3_0 {hE : Heap} {a1 : Addr} {q_a1_size : Int32} {r : List Int64 × List Int32} (C : Ctx p s m meth c Z a0 "com/example/mopor/mopor/reduction/LongIntTable" prog_19_method_1_code 1 none "<init>") (fuel : Nat) (X0 : Stand p l e ({ frames := 2, cells := 2, slots := 32, locals := 30 } : Room) s m args below meth c T0 locs cells slots) (e0 : T0.heap = h0) (N0 : Fr n0 locs) (hk : cells ≤ 0) (hn : slots ≤ 0) (Z1 : n0 ≤ h0.size) (KE : Keep hE h0 [a1]) (o0 : n0 ≤ a1) (E_a1_0 : Exa Z h0 a1 "com/example/mopor/mopor/reduction/LongIntTable") (F_a1_keys_0 : Fld Z h0 a1 "com/example/mopor/mopor/reduction/LongIntTable" "keys" "[J" .null) (F_a1_values_0 : Fld Z h0 a1 "com/example/mopor/mopor/reduction/LongIntTable" "values" "[I" .null) (F_a1_size_0 : Fld Z h0 a1 "com/example/mopor/mopor/reduction/LongIntTable" "size" "I" (.int q_a1_size)) (hr : g3_0 fuel q_a1_size = some r) :
    Runs p e below s (P3 Z hE a1 q_a1_size n0 r) 2 32 T0 (mkF m 0 #[.val (.ref a1)] []) := by
  unfold g3_0 at hr
  have ⟨hx, hZ, hw, hby, hml, hown, hret, hlk, hnm⟩ := C
  refine Runs.via (T' := T0) (g' := (mkF m 1 #[.val (.ref a1)] [(.ref a1)])) (fun t k => ?_) ?_
  · show Steps p.tables e below (T0.setTop (mkF m 0 #[.val (.ref a1)] [])) t
    refine XS.aloadN X0.here hx rfl (hb hby d3_0) rfl rfl ?_
    exact k
  obtain ⟨T1, X1, e1, st1⟩ := initO X0 hx hZ hown (hw _ (List.mem_of_getElem? (i := 15) rfl)) (hw _ (List.mem_of_getElem? (i := 7) rfl)) (hw _ (List.mem_of_getElem? (i := 8) rfl)) e0 (g := (mkF m 1 #[.val (.ref a1)] [(.ref a1)])) rfl (by rw [hml]; rfl) rfl (hb hby d3_1) (by decide) (W := 0) (by show 2 * 0 + _ ≤ _; exact Nat.le_of_eq rfl) (by decide)
  refine Runs.via (T' := T1) (g' := (mkF m 4 #[.val (.ref a1)] [])) (fun t k => st1 _ k) ?_
  refine Runs.via (T' := T1) (g' := (mkF m 7 #[.val (.ref a1)] [(.int (16 : Int32)), (.ref a1)])) (fun t k => ?_) ?_
  · show Steps p.tables e below (T1.setTop (mkF m 4 #[.val (.ref a1)] [])) t
    refine XS.aloadN X1.here hx rfl (hb hby d3_4) rfl rfl ?_
    show Steps p.tables e below (T1.setTop (mkF m 5 #[.val (.ref a1)] [(.ref a1)])) t
    refine XS.bipush X1.here hx rfl (hb hby d3_5) ?_
    exact k
  refine bindE hr ?_; intro r2 hr2m hr
  obtain ⟨_, _, ⟨T2, L2, k2, n2⟩, -, X2, ⟨Lc2, hQ2, l2, y2, z2⟩, st2⟩ := Jvm.LawKit.callS X1 hx (y := (⟨"com/example/mopor/mopor/reduction/LongIntTable", "emptyKeys", "(I)[J"⟩ : MethodName)) hown (mvT hZ (hw _ (List.mem_of_getElem? (i := 16) rfl))) (mvT hZ (hw _ (List.mem_of_getElem? (i := 17) rfl))) (mvT hZ (hw _ (List.mem_of_getElem? (i := 11) rfl))) (mvT hZ (hw _ (List.mem_of_getElem? (i := 18) rfl))) (by decide) (backOf (W := 1) (rm4 l Z a0 hw [] (16 : Int32) h0 n0 Z1 fuel r2 hr2m) hZ (hw _ (List.mem_of_getElem? (i := 18) rfl)) (hw _ (List.mem_of_getElem? (i := 11) rfl)) (by decide) (by decide)) (g := (mkF m 7 #[.val (.ref a1)] [(.int (16 : Int32)), (.ref a1)])) rfl (by rw [hml]; rfl) (argsL := [(.int (16 : Int32))]) (rest := [(.ref a1)]) (lenOf pd_1 rfl) rfl (by show 2 * 0 + _ ≤ _; exact Nat.le_of_eq rfl) (hb hby d3_7) (fun _ _ => ⟨rfl, e1, (by show cells + 1 ≤ 2; omega), (by show slots + 16 ≤ 32; omega)⟩)
  dsimp only [Pt.U, Pt.locs, Pt.cells, Pt.slots] at X2 l2 y2 z2 st2 hQ2
  replace y2 := y2.symm; replace z2 := z2.symm; subst l2 y2 z2
  obtain ⟨h2, e2⟩ : ∃ z, T2.heap = z := ⟨_, rfl⟩
  rw [e2] at hQ2
  obtain ⟨c7_0_3, rfl, N2q, K2q, zn2_0, A_c7_0_3_2⟩ := hQ2
  have N2 := Fr.app N0 N2q
  have E_a1_2 := E_a1_0.keep K2q
  have F_a1_keys_2 := F_a1_keys_0.keep K2q nin0
  have F_a1_values_2 := F_a1_values_0.keep K2q nin0
  have F_a1_size_2 := F_a1_size_0.keep K2q nin0
  have pn2 : @LT.lt Nat instLTNat a1 c7_0_3 := by have : @LT.lt Nat instLTNat _ _ := E_a1_0.lt; omega
  have zs2_0 : hE.size ≤ c7_0_3 := by have := KE.1; omega
  have sn2_0 : n0 ≤ c7_0_3 := by omega
  have K2 := KE.trans K2q all0
  have zz2 : n0 ≤ h2.size := Nat.le_trans Z1 K2q.1
  refine Runs.via (T' := T2) (g' := (mkF m 10 #[.val (.ref a1)] [(.ref c7_0_3), (.ref a1)])) (fun t k => st2 _ k) ?_
  obtain ⟨T3, h3, X3, e3, W3, st3⟩ := putF X2 hx hZ hown (host := "") (Or.inl (hw _ (List.mem_of_getElem? (i := 25) rfl))) Via.refl e2 F_a1_keys_2 E_a1_2 (Or.inl (hw _ (List.mem_of_getElem? (i := 26) rfl))) (hw _ (List.mem_of_getElem? (i := 10) rfl)) (ty := (.array .long)) (by decide) rfl rfl (g := (mkF m 10 #[.val (.ref a1)] [(.ref c7_0_3), (.ref a1)])) rfl rfl (hb hby d3_10)
  have E_a1_3 : Exa Z h3 a1 "com/example/mopor/mopor/reduction/LongIntTable" := E_a1_2.wr W3
  have F_a1_keys_3 : Fld Z h3 a1 "com/example/mopor/mopor/reduction/LongIntTable" "keys" "[J" (.ref c7_0_3) := F_a1_keys_2.same W3
  have F_a1_values_3 : Fld Z h3 a1 "com/example/mopor/mopor/reduction/LongIntTable" "values" "[I" .null := F_a1_values_2.other W3 (Or.inr (slot_ne (Or.inl (hw _ (List.mem_of_getElem? (i := 29) rfl))) (Or.inl (hw _ (List.mem_of_getElem? (i := 26) rfl))) (by decide) (t := (.array .int)) (t' := (.array .long)) (by decide) (by decide)))
  have F_a1_size_3 : Fld Z h3 a1 "com/example/mopor/mopor/reduction/LongIntTable" "size" "I" (.int q_a1_size) := F_a1_size_2.other W3 (Or.inr (slot_ne (Or.inl (hw _ (List.mem_of_getElem? (i := 69) rfl))) (Or.inl (hw _ (List.mem_of_getElem? (i := 26) rfl))) (by decide) (t := .int) (t' := (.array .long)) (by decide) (by decide)))
  have A_c7_0_3_3 : AJ Z h3 c7_0_3 .long r2 := A_c7_0_3_2.other W3 (by omega : @Ne Nat c7_0_3 a1)
  have N3 := Fr.snoc X3 N2 (by omega : n0 ≤ a1)
  have zz3 : n0 ≤ h3.size := Nat.le_trans zz2 (Keep.of_wr W3).1
  have K3 := K2.wr W3 (Or.inl (List.mem_of_getElem? (i := 0) rfl))
  refine Runs.via (T' := T3) (g' := (mkF m 13 #[.val (.ref a1)] [])) (fun t k => st3 _ k) ?_
  refine Runs.via (T' := T3) (g' := (mkF m 16 #[.val (.ref a1)] [(.int (16 : Int32)), (.ref a1)])) (fun t k => ?_) ?_
  · show Steps p.tables e below (T3.setTop (mkF m 13 #[.val (.ref a1)] [])) t
    refine XS.aloadN X3.here hx rfl (hb hby d3_13) rfl rfl ?_
    show Steps p.tables e below (T3.setTop (mkF m 14 #[.val (.ref a1)] [(.ref a1)])) t
    refine XS.bipush X3.here hx rfl (hb hby d3_14) ?_
    exact k
  refine bindE hr ?_; intro v4 hv4 hr
  obtain ⟨T4, h4, X4, e4, E4, A4, st4⟩ := newI X3 hx hZ (aty := .int) (ty := .int) rfl rfl (hw _ (List.mem_of_getElem? (i := 27) rfl)) e3 hv4 (g := (mkF m 16 #[.val (.ref a1)] [(.int (16 : Int32)), (.ref a1)])) rfl (hb hby d3_16) rfl (by decide) (by show (cells + 1) + 1 ≤ 2; omega) (by show (slots + 16) + 16 ≤ 32; omega)
  obtain ⟨c16_3, g4⟩ : ∃ z, z = h3.size := ⟨_, rfl⟩
  rw [← g4] at A4 st4
  have i4 := E4.1
  have E_a1_4 := E_a1_3.ext E4
  have F_a1_keys_4 := F_a1_keys_3.ext E4
  have F_a1_values_4 := F_a1_values_3.ext E4
  have F_a1_size_4 := F_a1_size_3.ext E4
  have A_c7_0_3_4 := A_c7_0_3_3.ext E4
  have K4 := K3.ext E4
  have zs4 : hE.size ≤ c16_3 := by have := K3.1; omega
  have zz4 : n0 ≤ h4.size := Nat.le_trans zz3 i4
  have A_c16_3_4 := A4
  have pc16_3 : @LT.lt Nat instLTNat c7_0_3 c16_3 := by have : @LT.lt Nat instLTNat _ _ := A_c7_0_3_3.lt; omega
  have sc16_3 : n0 ≤ c16_3 := by omega
  refine Runs.via (T' := T4) (g' := (mkF m 18 #[.val (.ref a1)] [(.ref c16_3), (.ref a1)])) (fun t k => st4 _ k) ?_
  obtain ⟨T5, h5, X5, e5, W5, st5⟩ := putF X4 hx hZ hown (host := "") (Or.inl (hw _ (List.mem_of_getElem? (i := 28) rfl))) Via.refl e4 F_a1_values_4 E_a1_4 (Or.inl (hw _ (List.mem_of_getElem? (i := 29) rfl))) (hw _ (List.mem_of_getElem? (i := 10) rfl)) (ty := (.array .int)) (by decide) rfl rfl (g := (mkF m 18 #[.val (.ref a1)] [(.ref c16_3), (.ref a1)])) rfl rfl (hb hby d3_18)
  have E_a1_5 : Exa Z h5 a1 "com/example/mopor/mopor/reduction/LongIntTable" := E_a1_4.wr W5
  have F_a1_keys_5 : Fld Z h5 a1 "com/example/mopor/mopor/reduction/LongIntTable" "keys" "[J" (.ref c7_0_3) := F_a1_keys_4.other W5 (Or.inr (slot_ne (Or.inl (hw _ (List.mem_of_getElem? (i := 26) rfl))) (Or.inl (hw _ (List.mem_of_getElem? (i := 29) rfl))) (by decide) (t := (.array .long)) (t' := (.array .int)) (by decide) (by decide)))
  have F_a1_values_5 : Fld Z h5 a1 "com/example/mopor/mopor/reduction/LongIntTable" "values" "[I" (.ref c16_3) := F_a1_values_4.same W5
  have F_a1_size_5 : Fld Z h5 a1 "com/example/mopor/mopor/reduction/LongIntTable" "size" "I" (.int q_a1_size) := F_a1_size_4.other W5 (Or.inr (slot_ne (Or.inl (hw _ (List.mem_of_getElem? (i := 69) rfl))) (Or.inl (hw _ (List.mem_of_getElem? (i := 29) rfl))) (by decide) (t := .int) (t' := (.array .int)) (by decide) (by decide)))
  have A_c7_0_3_5 : AJ Z h5 c7_0_3 .long r2 := A_c7_0_3_4.other W5 (by omega : @Ne Nat c7_0_3 a1)
  have A_c16_3_5 : AI Z h5 c16_3 .int v4 := A_c16_3_4.other W5 (by omega : @Ne Nat c16_3 a1)
  have N5 := Fr.snoc X5 N3 (by omega : n0 ≤ a1)
  have zz5 : n0 ≤ h5.size := Nat.le_trans zz4 (Keep.of_wr W5).1
  have K5 := K4.wr W5 (Or.inl (List.mem_of_getElem? (i := 0) rfl))
  refine Runs.via (T' := T5) (g' := (mkF m 21 #[.val (.ref a1)] [])) (fun t k => st5 _ k) ?_
  obtain rfl := Option.some.inj hr
  exact own_retV X5 hx hlk hret (hb hby d3_21) (by show ((cells + 1) + 1) ≤ 2; omega) (by show ((slots + 16) + 16) ≤ 32; omega) ⟨c7_0_3, c16_3, rfl, N5, (by rw [e5]; exact K5), (by omega), (by omega), (by omega), (by rw [e5]; exact E_a1_5), (by rw [e5]; exact F_a1_keys_5), (by rw [e5]; exact F_a1_values_5), (by rw [e5]; exact F_a1_size_5), (by rw [e5]; exact A_c7_0_3_5), (by rw [e5]; exact A_c16_3_5)⟩
def f3 (fuel : Nat) (q_a1_size : Int32) : Option (List Int64 × List Int32) := g3_0 fuel q_a1_size
theorem pn_3 : plainName "com/example/mopor/mopor/reduction/LongIntTable" = true := by first | (simp [plainName, overriddenIn]; done) | decide +kernel
theorem ef_3 (m : MethodId) (a1 : Addr) : entryFrame m #[(.ref a1)] 1 = mkF m 0 #[.val (.ref a1)] [] := by first | (simp [entryFrame, mkF, argsToLocals, Value.category]; done) | rfl
set_option maxRecDepth 65536 in
set_option maxHeartbeats 4000000 in
theorem rm3 (l : Launch) (Z : State) (a0 : Array Value) (hw : ∀ d ∈ tables_1, d.before a0 Z = true) (ws : List Jvm.Cond) (a1 : Addr) (q_a1_size : Int32) (hE : Heap) (n0 : Nat) (Z0 : n0 ≤ hE.size) (o0 : n0 ≤ a1) (E_a1_0 : Exa Z hE a1 "com/example/mopor/mopor/reduction/LongIntTable") (F_a1_keys_0 : Fld Z hE a1 "com/example/mopor/mopor/reduction/LongIntTable" "keys" "[J" .null) (F_a1_values_0 : Fld Z hE a1 "com/example/mopor/mopor/reduction/LongIntTable" "values" "[I" .null) (F_a1_size_0 : Fld Z hE a1 "com/example/mopor/mopor/reduction/LongIntTable" "size" "I" (.int q_a1_size)) (fuel : Nat) (r : List Int64 × List Int32) (hr : f3 fuel q_a1_size = some r) :
    MetFree l (⟨"com/example/mopor/mopor/reduction/LongIntTable", "<init>", "()V"⟩ : MethodName) (head1 (Jvm.Cond.code (⟨"com/example/mopor/mopor/reduction/LongIntTable", "<init>", "()V"⟩ : MethodName) prog_19_method_1_code 1 none :: ws) ({ frames := 2, cells := 2, slots := 32, locals := 30 } : Room)) (fun a U => a = #[(.ref a1)] ∧ Z.Warmed39 U.vm ∧ U.heap = hE) (fun _ _ _ _ _ => True) (fun _ U o U' => ∃ v L, o = .returned v ∧ (P3 Z hE a1 q_a1_size n0 r v U'.heap L) ∧ FrameEnd U o U' L ({ frames := 2, cells := 2, slots := 32, locals := 30 } : Room).cells ({ frames := 2, cells := 2, slots := 32, locals := 30 } : Room).slots) := by
  refine MetFree.of_bodySF (plainFor_of_name pn_3) hisR ?_
  intro p e s m args below meth c s₁ Bd hml0 hP hK
  obtain ⟨rfl, hZ, hh⟩ := hP
  have X0 : Stand p l e ({ frames := 2, cells := 2, slots := 32, locals := 30 } : Room) s m #[(.ref a1)] below meth c s₁ [] 0 0 := Stand.of_body Bd
  have e0 : s₁.heap = hE := by rw [← hh, Bd.state]; rfl
  have C : Ctx p s m meth c Z a0 "com/example/mopor/mopor/reduction/LongIntTable" prog_19_method_1_code 1 none "<init>" := ⟨Bd.exec, hZ, hw, Bd.bytes, hml0, findClass_of_methodNamed Bd.named, Bd.returns, BodyLoose.notSynchronized Bd, (name_of_methodNamed Bd.named Bd.method).1⟩
  refine Runs.via (fun t k => castTop (ef_3 m a1) k) (b3_0 C fuel X0 e0 (Fr.nil n0) (by show 0 ≤ 0; omega) (by show 0 ≤ 0; omega) Z0 (Keep.refl hE [a1]) (by omega) E_a1_0 F_a1_keys_0 F_a1_values_0 F_a1_size_0 hr)
theorem pd_2 : parseMethodDescriptor "()V" = some ⟨[], none⟩ := by decide +kernel
theorem d1_0 : decode prog_24_method_1_code 0 = .ok (.aload_n 0, 1) := by decide +kernel
theorem d1_1 : decode prog_24_method_1_code 1 = .ok (.invokespecial 1, 3) := by decide +kernel
theorem d1_4 : decode prog_24_method_1_code 4 = .ok (.aload_n 0, 1) := by decide +kernel
theorem d1_5 : decode prog_24_method_1_code 5 = .ok (.new 7, 3) := by decide +kernel
theorem d1_8 : decode prog_24_method_1_code 8 = .ok (.dup, 1) := by decide +kernel
theorem d1_9 : decode prog_24_method_1_code 9 = .ok (.invokespecial 9, 3) := by decide +kernel
theorem d1_12 : decode prog_24_method_1_code 12 = .ok (.putfield 10, 3) := by decide +kernel
theorem d1_15 : decode prog_24_method_1_code 15 = .ok (.aload_n 0, 1) := by decide +kernel
theorem d1_16 : decode prog_24_method_1_code 16 = .ok (.sipush 1024, 3) := by decide +kernel
theorem d1_19 : decode prog_24_method_1_code 19 = .ok (.newarray .int, 2) := by decide +kernel
theorem d1_21 : decode prog_24_method_1_code 21 = .ok (.putfield 16, 3) := by decide +kernel
theorem d1_24 : decode prog_24_method_1_code 24 = .ok (.aload_n 0, 1) := by decide +kernel
theorem d1_25 : decode prog_24_method_1_code 25 = .ok (.sipush 1024, 3) := by decide +kernel
theorem d1_28 : decode prog_24_method_1_code 28 = .ok (.newarray .int, 2) := by decide +kernel
theorem d1_30 : decode prog_24_method_1_code 30 = .ok (.putfield 20, 3) := by decide +kernel
theorem d1_33 : decode prog_24_method_1_code 33 = .ok (.aload_n 0, 1) := by decide +kernel
theorem d1_34 : decode prog_24_method_1_code 34 = .ok (.sipush 1024, 3) := by decide +kernel
theorem d1_37 : decode prog_24_method_1_code 37 = .ok (.newarray .int, 2) := by decide +kernel
theorem d1_39 : decode prog_24_method_1_code 39 = .ok (.putfield 23, 3) := by decide +kernel
theorem d1_42 : decode prog_24_method_1_code 42 = .ok (.aload_n 0, 1) := by decide +kernel
theorem d1_43 : decode prog_24_method_1_code 43 = .ok (.sipush 1024, 3) := by decide +kernel
theorem d1_46 : decode prog_24_method_1_code 46 = .ok (.newarray .int, 2) := by decide +kernel
theorem d1_48 : decode prog_24_method_1_code 48 = .ok (.putfield 26, 3) := by decide +kernel
theorem d1_51 : decode prog_24_method_1_code 51 = .ok (.aload_n 0, 1) := by decide +kernel
theorem d1_52 : decode prog_24_method_1_code 52 = .ok (.iload_n 1, 1) := by decide +kernel
theorem d1_53 : decode prog_24_method_1_code 53 = .ok (.putfield 29, 3) := by decide +kernel
theorem d1_56 : decode prog_24_method_1_code 56 = .ok (.return_, 1) := by decide +kernel
def P1 (Z : State) (hE : Heap) (a1 : Addr) (q_a1_transitionCount : Int32) (q_a1_size : Int32) (n0 : Nat) (r : Int32 × Int32 × List Int64 × List Int32 × List Int32 × List Int32 × List Int32 × List Int32) (v : Option Value) (h : Heap) (L : List Loc) : Prop := ∃ n1_1 : Addr, ∃ n2_1 : Addr, ∃ n3_1 : Addr, ∃ n4_1 : Addr, ∃ n5_1 : Addr, ∃ n6_1 : Addr, ∃ n7_1 : Addr, v = none ∧ Fr n0 L ∧ Keep hE h [a1] ∧ hE.size ≤ n1_1 ∧ hE.size ≤ n2_1 ∧ hE.size ≤ n3_1 ∧ hE.size ≤ n4_1 ∧ hE.size ≤ n5_1 ∧ hE.size ≤ n6_1 ∧ hE.size ≤ n7_1 ∧ @LT.lt Nat instLTNat n1_1 n2_1 ∧ @LT.lt Nat instLTNat n2_1 n3_1 ∧ @LT.lt Nat instLTNat n3_1 n4_1 ∧ @LT.lt Nat instLTNat n4_1 n5_1 ∧ @LT.lt Nat instLTNat n5_1 n6_1 ∧ @LT.lt Nat instLTNat n6_1 n7_1 ∧ Exa Z h a1 "com/example/mopor/mopor/reduction/VectorTree" ∧ Fld Z h a1 "com/example/mopor/mopor/reduction/VectorTree" "nodes" "Lcom/example/mopor/mopor/reduction/LongIntTable;" (.ref n1_1) ∧ Fld Z h a1 "com/example/mopor/mopor/reduction/VectorTree" "parent" "[I" (.ref n4_1) ∧ Fld Z h a1 "com/example/mopor/mopor/reduction/VectorTree" "last" "[I" (.ref n5_1) ∧ Fld Z h a1 "com/example/mopor/mopor/reduction/VectorTree" "marking" "[I" (.ref n6_1) ∧ Fld Z h a1 "com/example/mopor/mopor/reduction/VectorTree" "depth" "[I" (.ref n7_1) ∧ Fld Z h a1 "com/example/mopor/mopor/reduction/VectorTree" "transitionCount" "I" (.int r.1) ∧ Fld Z h a1 "com/example/mopor/mopor/reduction/VectorTree" "size" "I" (.int q_a1_size) ∧ Exa Z h n1_1 "com/example/mopor/mopor/reduction/LongIntTable" ∧ Fld Z h n1_1 "com/example/mopor/mopor/reduction/LongIntTable" "keys" "[J" (.ref n2_1) ∧ Fld Z h n1_1 "com/example/mopor/mopor/reduction/LongIntTable" "values" "[I" (.ref n3_1) ∧ Fld Z h n1_1 "com/example/mopor/mopor/reduction/LongIntTable" "size" "I" (.int r.2.1) ∧ AJ Z h n2_1 .long r.2.2.1 ∧ AI Z h n3_1 .int r.2.2.2.1 ∧ AI Z h n4_1 .int r.2.2.2.2.1 ∧ AI Z h n5_1 .int r.2.2.2.2.2.1 ∧ AI Z h n6_1 .int r.2.2.2.2.2.2.1 ∧ AI Z h n7_1 .int r.2.2.2.2.2.2.2
def g1_0 (fuel : Nat) (x1 : Int32) (q_a1_transitionCount : Int32) (q_a1_size : Int32) : Option (Int32 × Int32 × List Int64 × List Int32 × List Int32 × List Int32 × List Int32 × List Int32) := ((f3 fuel (0 : Int32)).bind fun r3 => ((mkO (1024 : Int32) 1024).bind fun v5 => ((mkO (1024 : Int32) 1024).bind fun v7 => ((mkO (1024 : Int32) 1024).bind fun v9 => ((mkO (1024 : Int32) 1024).bind fun v11 => some (x1, (0 : Int32), r3.1, r3.2, v5, v7, v9, v11))))))
set_option maxRecDepth 65536 in
set_option maxHeartbeats 4000000 in
theorem b1_0 {hE : Heap} {a1 : Addr} {q_a1_size : Int32} {q_a1_transitionCount₀ : Int32} {r : Int32 × Int32 × List Int64 × List Int32 × List Int32 × List Int32 × List Int32 × List Int32} (C : Ctx p s m meth c Z a0 "com/example/mopor/mopor/reduction/VectorTree" prog_24_method_1_code 2 none "<init>") (fuel : Nat) (X0 : Stand p l e ({ frames := 3, cells := 7, slots := 4131, locals := 44 } : Room) s m args below meth c T0 locs cells slots) (e0 : T0.heap = h0) (N0 : Fr n0 locs) (hk : cells ≤ 0) (hn : slots ≤ 0) (Z1 : n0 ≤ h0.size) (KE : Keep hE h0 [a1]) (o0 : n0 ≤ a1) (q_a1_transitionCount : Int32) (x1 : Int32) (E_a1_0 : Exa Z h0 a1 "com/example/mopor/mopor/reduction/VectorTree") (F_a1_nodes_0 : Fld Z h0 a1 "com/example/mopor/mopor/reduction/VectorTree" "nodes" "Lcom/example/mopor/mopor/reduction/LongIntTable;" .null) (F_a1_parent_0 : Fld Z h0 a1 "com/example/mopor/mopor/reduction/VectorTree" "parent" "[I" .null) (F_a1_last_0 : Fld Z h0 a1 "com/example/mopor/mopor/reduction/VectorTree" "last" "[I" .null) (F_a1_marking_0 : Fld Z h0 a1 "com/example/mopor/mopor/reduction/VectorTree" "marking" "[I" .null) (F_a1_depth_0 : Fld Z h0 a1 "com/example/mopor/mopor/reduction/VectorTree" "depth" "[I" .null) (F_a1_transitionCount_0 : Fld Z h0 a1 "com/example/mopor/mopor/reduction/VectorTree" "transitionCount" "I" (.int q_a1_transitionCount)) (F_a1_size_0 : Fld Z h0 a1 "com/example/mopor/mopor/reduction/VectorTree" "size" "I" (.int q_a1_size)) (hr : g1_0 fuel x1 q_a1_transitionCount q_a1_size = some r) :
    Runs p e below s (P1 Z hE a1 q_a1_transitionCount₀ q_a1_size n0 r) 7 4131 T0 (mkF m 0 #[.val (.ref a1), .val (.int x1)] []) := by
  unfold g1_0 at hr
  have ⟨hx, hZ, hw, hby, hml, hown, hret, hlk, hnm⟩ := C
  refine Runs.via (T' := T0) (g' := (mkF m 1 #[.val (.ref a1), .val (.int x1)] [(.ref a1)])) (fun t k => ?_) ?_
  · show Steps p.tables e below (T0.setTop (mkF m 0 #[.val (.ref a1), .val (.int x1)] [])) t
    refine XS.aloadN X0.here hx rfl (hb hby d1_0) rfl rfl ?_
    exact k
  obtain ⟨T1, X1, e1, st1⟩ := initO X0 hx hZ hown (hw _ (List.mem_of_getElem? (i := 6) rfl)) (hw _ (List.mem_of_getElem? (i := 7) rfl)) (hw _ (List.mem_of_getElem? (i := 8) rfl)) e0 (g := (mkF m 1 #[.val (.ref a1), .val (.int x1)] [(.ref a1)])) rfl (by rw [hml]; rfl) rfl (hb hby d1_1) (by decide) (W := 0) (by show 2 * 0 + _ ≤ _; exact Nat.le_of_eq rfl) (by decide)
  refine Runs.via (T' := T1) (g' := (mkF m 4 #[.val (.ref a1), .val (.int x1)] [])) (fun t k => st1 _ k) ?_
  refine Runs.via (T' := T1) (g' := (mkF m 5 #[.val (.ref a1), .val (.int x1)] [(.ref a1)])) (fun t k => ?_) ?_
  · show Steps p.tables e below (T1.setTop (mkF m 4 #[.val (.ref a1), .val (.int x1)] [])) t
    refine XS.aloadN X1.here hx rfl (hb hby d1_4) rfl rfl ?_
    exact k
  obtain ⟨T2, h2, X2, e2, E2, A2, D2, -, st2⟩ := newO X1 hx hZ hown (hw _ (List.mem_of_getElem? (i := 9) rfl)) (hw _ (List.mem_of_getElem? (i := 10) rfl)) (hw _ (List.mem_of_getElem? (i := 11) rfl)) e1 (g := (mkF m 5 #[.val (.ref a1), .val (.int x1)] [(.ref a1)])) rfl (hb hby d1_5) (by show cells + 1 ≤ 7; omega) (by show slots + 3 ≤ 4131; omega)
  obtain ⟨c5_1, g2⟩ : ∃ z, z = h0.size := ⟨_, rfl⟩
  rw [← g2] at A2 D2 st2
  have i2 := E2.1
  have E_a1_2 := E_a1_0.ext E2
  have F_a1_nodes_2 := F_a1_nodes_0.ext E2
  have F_a1_parent_2 := F_a1_parent_0.ext E2
  have F_a1_last_2 := F_a1_last_0.ext E2
  have F_a1_marking_2 := F_a1_marking_0.ext E2
  have F_a1_depth_2 := F_a1_depth_0.ext E2
  have F_a1_transitionCount_2 := F_a1_transitionCount_0.ext E2
  have F_a1_size_2 := F_a1_size_0.ext E2
  have K2 := KE.ext E2
  have zs2 : hE.size ≤ c5_1 := by have := KE.1; omega
  have zz2 : n0 ≤ h2.size := Nat.le_trans Z1 i2
  have E_c5_1_2 := A2
  have F_c5_1_keys_2 : Fld Z h2 c5_1 "com/example/mopor/mopor/reduction/LongIntTable" "keys" "[J" .null := D2 (Or.inl (hw _ (List.mem_of_getElem? (i := 26) rfl))) (ty := (.array .long)) (by decide)
  have F_c5_1_values_2 : Fld Z h2 c5_1 "com/example/mopor/mopor/reduction/LongIntTable" "values" "[I" .null := D2 (Or.inl (hw _ (List.mem_of_getElem? (i := 29) rfl))) (ty := (.array .int)) (by decide)
  have F_c5_1_size_2 : Fld Z h2 c5_1 "com/example/mopor/mopor/reduction/LongIntTable" "size" "I" (.int (0 : Int32)) := D2 (Or.inl (hw _ (List.mem_of_getElem? (i := 69) rfl))) (ty := .int) (by decide)
  have pc5_1 : @LT.lt Nat instLTNat a1 c5_1 := by have : @LT.lt Nat instLTNat _ _ := E_a1_0.lt; omega
  have sc5_1 : n0 ≤ c5_1 := by omega
  refine Runs.via (T' := T2) (g' := (mkF m 8 #[.val (.ref a1), .val (.int x1)] [(.ref c5_1), (.ref a1)])) (fun t k => st2 _ k) ?_
  refine Runs.via (T' := T2) (g' := (mkF m 9 #[.val (.ref a1), .val (.int x1)] [(.ref c5_1), (.ref c5_1), (.ref a1)])) (fun t k => ?_) ?_
  · show Steps p.tables e below (T2.setTop (mkF m 8 #[.val (.ref a1), .val (.int x1)] [(.ref c5_1), (.ref a1)])) t
    refine XS.dup X2.here hx rfl (hb hby d1_8) rfl rfl ?_
    exact k
  refine bindE hr ?_; intro r3 hr3m hr
  obtain ⟨_, _, ⟨T3, L3, k3, n3⟩, -, X3, ⟨Lc3, hQ3, l3, y3, z3⟩, st3⟩ := X2.specialBack hx (y := (⟨"com/example/mopor/mopor/reduction/LongIntTable", "<init>", "()V"⟩ : MethodName)) rfl hown (mvT hZ (hw _ (List.mem_of_getElem? (i := 12) rfl))) (mvT hZ (hw _ (List.mem_of_getElem? (i := 13) rfl))) (mvT hZ (hw _ (List.mem_of_getElem? (i := 14) rfl))) (by decide) (backOf (W := 2) (rm3 l Z a0 hw [] c5_1 (0 : Int32) h2 n0 zz2 (by omega) E_c5_1_2 F_c5_1_keys_2 F_c5_1_values_2 F_c5_1_size_2 fuel r3 hr3m) hZ (hw _ (List.mem_of_getElem? (i := 14) rfl)) (hw _ (List.mem_of_getElem? (i := 11) rfl)) (by decide) (by decide)) (g := (mkF m 9 #[.val (.ref a1), .val (.int x1)] [(.ref c5_1), (.ref c5_1), (.ref a1)])) rfl (by rw [hml]; rfl) (Steps.refl _) (a := c5_1) (argsL := []) (rest := [(.ref c5_1), (.ref a1)]) (lenOf pd_2 rfl) rfl (by show 2 * 0 + _ ≤ _; exact Nat.le_of_eq rfl) (hb hby d1_9) (fun _ _ => ⟨rfl, e2, (by show (cells + 1) + 2 ≤ 7; omega), (by show (slots + 3) + 32 ≤ 4131; omega)⟩)
  dsimp only [Pt.U, Pt.locs, Pt.cells, Pt.slots] at X3 l3 y3 z3 st3 hQ3
  replace y3 := y3.symm; replace z3 := z3.symm; subst l3 y3 z3
  obtain ⟨h3, e3⟩ : ∃ z, T3.heap = z := ⟨_, rfl⟩
  rw [e3] at hQ3
  obtain ⟨c9_0_1, c9_1_1, rfl, N3q, K3q, zn3_0, zn3_1, on3_0, E_c5_1_3, F_c5_1_keys_3, F_c5_1_values_3, F_c5_1_size_3, A_c9_0_1_3, A_c9_1_1_3⟩ := hQ3
  have N3 := Fr.app N0 N3q
  have E_a1_3 := E_a1_2.keep K3q
  have F_a1_nodes_3 := F_a1_nodes_2.keep K3q (ninS (by omega : @Ne Nat a1 c5_1) nin0)
  have F_a1_parent_3 := F_a1_parent_2.keep K3q (ninS (by omega : @Ne Nat a1 c5_1) nin0)
  have F_a1_last_3 := F_a1_last_2.keep K3q (ninS (by omega : @Ne Nat a1 c5_1) nin0)
  have F_a1_marking_3 := F_a1_marking_2.keep K3q (ninS (by omega : @Ne Nat a1 c5_1) nin0)
  have F_a1_depth_3 := F_a1_depth_2.keep K3q (ninS (by omega : @Ne Nat a1 c5_1) nin0)
  have F_a1_transitionCount_3 := F_a1_transitionCount_2.keep K3q (ninS (by omega : @Ne Nat a1 c5_1) nin0)
  have F_a1_size_3 := F_a1_size_2.keep K3q (ninS (by omega : @Ne Nat a1 c5_1) nin0)
  have pn3 : @LT.lt Nat instLTNat c5_1 c9_0_1 := by have : @LT.lt Nat instLTNat _ _ := E_c5_1_2.lt; omega
  have zs3_0 : hE.size ≤ c9_0_1 := by have := K2.1; omega
  have sn3_0 : n0 ≤ c9_0_1 := by omega
  have zs3_1 : hE.size ≤ c9_1_1 := by have := K2.1; omega
  have sn3_1 : n0 ≤ c9_1_1 := by omega
  have K3 := K2.trans K3q (allS (Or.inr (by omega)) all0)
  have zz3 : n0 ≤ h3.size := Nat.le_trans zz2 K3q.1
  refine Runs.via (T' := T3) (g' := (mkF m 12 #[.val (.ref a1), .val (.int x1)] [(.ref c5_1), (.ref a1)])) (fun t k => st3.trans k) ?_
  obtain ⟨T4, h4, X4, e4, W4, st4⟩ := putF X3 hx hZ hown (host := "") (Or.inl (hw _ (List.mem_of_getElem? (i := 30) rfl))) Via.refl e3 F_a1_nodes_3 E_a1_3 (Or.inr ⟨(hw _ (List.mem_of_getElem? (i := 31) rfl)), rfl, hnm⟩) (hw _ (List.mem_of_getElem? (i := 1) rfl)) (ty := (.object "com/example/mopor/mopor/reduction/LongIntTable")) (by decide) rfl rfl (g := (mkF m 12 #[.val (.ref a1), .val (.int x1)] [(.ref c5_1), (.ref a1)])) rfl rfl (hb hby d1_12)
  have E_a1_4 : Exa Z h4 a1 "com/example/mopor/mopor/reduction/VectorTree" := E_a1_3.wr W4
  have F_a1_nodes_4 : Fld Z h4 a1 "com/example/mopor/mopor/reduction/VectorTree" "nodes" "Lcom/example/mopor/mopor/reduction/LongIntTable;" (.ref c5_1) := F_a1_nodes_3.same W4
  have F_a1_parent_4 : Fld Z h4 a1 "com/example/mopor/mopor/reduction/VectorTree" "parent" "[I" .null := F_a1_parent_3.other W4 (Or.inr (slot_ne (Or.inl (hw _ (List.mem_of_getElem? (i := 33) rfl))) (Or.inr (hw _ (List.mem_of_getElem? (i := 31) rfl))) (by decide) (t := (.array .int)) (t' := (.object "com/example/mopor/mopor/reduction/LongIntTable")) (by decide) (by decide)))
  have F_a1_last_4 : Fld Z h4 a1 "com/example/mopor/mopor/reduction/VectorTree" "last" "[I" .null := F_a1_last_3.other W4 (Or.inr (slot_ne (Or.inl (hw _ (List.mem_of_getElem? (i := 35) rfl))) (Or.inr (hw _ (List.mem_of_getElem? (i := 31) rfl))) (by decide) (t := (.array .int)) (t' := (.object "com/example/mopor/mopor/reduction/LongIntTable")) (by decide) (by decide)))
  have F_a1_marking_4 : Fld Z h4 a1 "com/example/mopor/mopor/reduction/VectorTree" "marking" "[I" .null := F_a1_marking_3.other W4 (Or.inr (slot_ne (Or.inl (hw _ (List.mem_of_getElem? (i := 37) rfl))) (Or.inr (hw _ (List.mem_of_getElem? (i := 31) rfl))) (by decide) (t := (.array .int)) (t' := (.object "com/example/mopor/mopor/reduction/LongIntTable")) (by decide) (by decide)))
  have F_a1_depth_4 : Fld Z h4 a1 "com/example/mopor/mopor/reduction/VectorTree" "depth" "[I" .null := F_a1_depth_3.other W4 (Or.inr (slot_ne (Or.inl (hw _ (List.mem_of_getElem? (i := 39) rfl))) (Or.inr (hw _ (List.mem_of_getElem? (i := 31) rfl))) (by decide) (t := (.array .int)) (t' := (.object "com/example/mopor/mopor/reduction/LongIntTable")) (by decide) (by decide)))
  have F_a1_transitionCount_4 : Fld Z h4 a1 "com/example/mopor/mopor/reduction/VectorTree" "transitionCount" "I" (.int q_a1_transitionCount) := F_a1_transitionCount_3.other W4 (Or.inr (slot_ne (Or.inr (hw _ (List.mem_of_getElem? (i := 41) rfl))) (Or.inr (hw _ (List.mem_of_getElem? (i := 31) rfl))) (by decide) (t := .int) (t' := (.object "com/example/mopor/mopor/reduction/LongIntTable")) (by decide) (by decide)))
  have F_a1_size_4 : Fld Z h4 a1 "com/example/mopor/mopor/reduction/VectorTree" "size" "I" (.int q_a1_size) := F_a1_size_3.other W4 (Or.inr (slot_ne (Or.inl (hw _ (List.mem_of_getElem? (i := 62) rfl))) (Or.inr (hw _ (List.mem_of_getElem? (i := 31) rfl))) (by decide) (t := .int) (t' := (.object "com/example/mopor/mopor/reduction/LongIntTable")) (by decide) (by decide)))
  have E_c5_1_4 : Exa Z h4 c5_1 "com/example/mopor/mopor/reduction/LongIntTable" := E_c5_1_3.wr W4
  have F_c5_1_keys_4 : Fld Z h4 c5_1 "com/example/mopor/mopor/reduction/LongIntTable" "keys" "[J" (.ref c9_0_1) := F_c5_1_keys_3.other W4 (Or.inl (by omega : @Ne Nat c5_1 a1))
  have F_c5_1_values_4 : Fld Z h4 c5_1 "com/example/mopor/mopor/reduction/LongIntTable" "values" "[I" (.ref c9_1_1) := F_c5_1_values_3.other W4 (Or.inl (by omega : @Ne Nat c5_1 a1))
  have F_c5_1_size_4 : Fld Z h4 c5_1 "com/example/mopor/mopor/reduction/LongIntTable" "size" "I" (.int (0 : Int32)) := F_c5_1_size_3.other W4 (Or.inl (by omega : @Ne Nat c5_1 a1))
  have A_c9_0_1_4 : AJ Z h4 c9_0_1 .long r3.1 := A_c9_0_1_3.other W4 (by omega : @Ne Nat c9_0_1 a1)
  have A_c9_1_1_4 : AI Z h4 c9_1_1 .int r3.2 := A_c9_1_1_3.other W4 (by omega : @Ne Nat c9_1_1 a1)
  have N4 := Fr.snoc X4 N3 (by omega : n0 ≤ a1)
  have zz4 : n0 ≤ h4.size := Nat.le_trans zz3 (Keep.of_wr W4).1
  have K4 := K3.wr W4 (Or.inl (List.mem_of_getElem? (i := 0) rfl))
  refine Runs.via (T' := T4) (g' := (mkF m 15 #[.val (.ref a1), .val (.int x1)] [])) (fun t k => st4 _ k) ?_
  refine Runs.via (T' := T4) (g' := (mkF m 19 #[.val (.ref a1), .val (.int x1)] [(.int (1024 : Int32)), (.ref a1)])) (fun t k => ?_) ?_
  · show Steps p.tables e below (T4.setTop (mkF m 15 #[.val (.ref a1), .val (.int x1)] [])) t
    refine XS.aloadN X4.here hx rfl (hb hby d1_15) rfl rfl ?_
    show Steps p.tables e below (T4.setTop (mkF m 16 #[.val (.ref a1), .val (.int x1)] [(.ref a1)])) t
    refine XS.sipush X4.here hx rfl (hb hby d1_16) ?_
    exact k
  refine bindE hr ?_; intro v5 hv5 hr
  obtain ⟨T5, h5, X5, e5, E5, A5, st5⟩ := newI X4 hx hZ (aty := .int) (ty := .int) rfl rfl (hw _ (List.mem_of_getElem? (i := 27) rfl)) e4 hv5 (g := (mkF m 19 #[.val (.ref a1), .val (.int x1)] [(.int (1024 : Int32)), (.ref a1)])) rfl (hb hby d1_19) rfl (by decide) (by show ((cells + 1) + 2) + 1 ≤ 7; omega) (by show ((slots + 3) + 32) + 1024 ≤ 4131; omega)
  obtain ⟨c19_1, g5⟩ : ∃ z, z = h4.size := ⟨_, rfl⟩
  rw [← g5] at A5 st5
  have i5 := E5.1
  have E_a1_5 := E_a1_4.ext E5
  have F_a1_nodes_5 := F_a1_nodes_4.ext E5
  have F_a1_parent_5 := F_a1_parent_4.ext E5
  have F_a1_last_5 := F_a1_last_4.ext E5
  have F_a1_marking_5 := F_a1_marking_4.ext E5
  have F_a1_depth_5 := F_a1_depth_4.ext E5
  have F_a1_transitionCount_5 := F_a1_transitionCount_4.ext E5
  have F_a1_size_5 := F_a1_size_4.ext E5
  have E_c5_1_5 := E_c5_1_4.ext E5
  have F_c5_1_keys_5 := F_c5_1_keys_4.ext E5
  have F_c5_1_values_5 := F_c5_1_values_4.ext E5
  have F_c5_1_size_5 := F_c5_1_size_4.ext E5
  have A_c9_0_1_5 := A_c9_0_1_4.ext E5
  have A_c9_1_1_5 := A_c9_1_1_4.ext E5
  have K5 := K4.ext E5
  have zs5 : hE.size ≤ c19_1 := by have := K4.1; omega
  have zz5 : n0 ≤ h5.size := Nat.le_trans zz4 i5
  have A_c19_1_5 := A5
  have pc19_1 : @LT.lt Nat instLTNat c9_1_1 c19_1 := by have : @LT.lt Nat instLTNat _ _ := A_c9_1_1_4.lt; omega
  have sc19_1 : n0 ≤ c19_1 := by omega
  refine Runs.via (T' := T5) (g' := (mkF m 21 #[.val (.ref a1), .val (.int x1)] [(.ref c19_1), (.ref a1)])) (fun t k => st5 _ k) ?_
  obtain ⟨T6, h6, X6, e6, W6, st6⟩ := putF X5 hx hZ hown (host := "") (Or.inl (hw _ (List.mem_of_getElem? (i := 32) rfl))) Via.refl e5 F_a1_parent_5 E_a1_5 (Or.inl (hw _ (List.mem_of_getElem? (i := 33) rfl))) (hw _ (List.mem_of_getElem? (i := 1) rfl)) (ty := (.array .int)) (by decide) rfl rfl (g := (mkF m 21 #[.val (.ref a1), .val (.int x1)] [(.ref c19_1), (.ref a1)])) rfl rfl (hb hby d1_21)
  have E_a1_6 : Exa Z h6 a1 "com/example/mopor/mopor/reduction/VectorTree" := E_a1_5.wr W6
  have F_a1_nodes_6 : Fld Z h6 a1 "com/example/mopor/mopor/reduction/VectorTree" "nodes" "Lcom/example/mopor/mopor/reduction/LongIntTable;" (.ref c5_1) := F_a1_nodes_5.other W6 (Or.inr (slot_ne (Or.inr (hw _ (List.mem_of_getElem? (i := 31) rfl))) (Or.inl (hw _ (List.mem_of_getElem? (i := 33) rfl))) (by decide) (t := (.object "com/example/mopor/mopor/reduction/LongIntTable")) (t' := (.array .int)) (by decide) (by decide)))
  have F_a1_parent_6 : Fld Z h6 a1 "com/example/mopor/mopor/reduction/VectorTree" "parent" "[I" (.ref c19_1) := F_a1_parent_5.same W6
  have F_a1_last_6 : Fld Z h6 a1 "com/example/mopor/mopor/reduction/VectorTree" "last" "[I" .null := F_a1_last_5.other W6 (Or.inr (slot_ne (Or.inl (hw _ (List.mem_of_getElem? (i := 35) rfl))) (Or.inl (hw _ (List.mem_of_getElem? (i := 33) rfl))) (by decide) (t := (.array .int)) (t' := (.array .int)) (by decide) (by decide)))
  have F_a1_marking_6 : Fld Z h6 a1 "com/example/mopor/mopor/reduction/VectorTree" "marking" "[I" .null := F_a1_marking_5.other W6 (Or.inr (slot_ne (Or.inl (hw _ (List.mem_of_getElem? (i := 37) rfl))) (Or.inl (hw _ (List.mem_of_getElem? (i := 33) rfl))) (by decide) (t := (.array .int)) (t' := (.array .int)) (by decide) (by decide)))
  have F_a1_depth_6 : Fld Z h6 a1 "com/example/mopor/mopor/reduction/VectorTree" "depth" "[I" .null := F_a1_depth_5.other W6 (Or.inr (slot_ne (Or.inl (hw _ (List.mem_of_getElem? (i := 39) rfl))) (Or.inl (hw _ (List.mem_of_getElem? (i := 33) rfl))) (by decide) (t := (.array .int)) (t' := (.array .int)) (by decide) (by decide)))
  have F_a1_transitionCount_6 : Fld Z h6 a1 "com/example/mopor/mopor/reduction/VectorTree" "transitionCount" "I" (.int q_a1_transitionCount) := F_a1_transitionCount_5.other W6 (Or.inr (slot_ne (Or.inr (hw _ (List.mem_of_getElem? (i := 41) rfl))) (Or.inl (hw _ (List.mem_of_getElem? (i := 33) rfl))) (by decide) (t := .int) (t' := (.array .int)) (by decide) (by decide)))
  have F_a1_size_6 : Fld Z h6 a1 "com/example/mopor/mopor/reduction/VectorTree" "size" "I" (.int q_a1_size) := F_a1_size_5.other W6 (Or.inr (slot_ne (Or.inl (hw _ (List.mem_of_getElem? (i := 62) rfl))) (Or.inl (hw _ (List.mem_of_getElem? (i := 33) rfl))) (by decide) (t := .int) (t' := (.array .int)) (by decide) (by decide)))
  have E_c5_1_6 : Exa Z h6 c5_1 "com/example/mopor/mopor/reduction/LongIntTable" := E_c5_1_5.wr W6
  have F_c5_1_keys_6 : Fld Z h6 c5_1 "com/example/mopor/mopor/reduction/LongIntTable" "keys" "[J" (.ref c9_0_1) := F_c5_1_keys_5.other W6 (Or.inl (by omega : @Ne Nat c5_1 a1))
  have F_c5_1_values_6 : Fld Z h6 c5_1 "com/example/mopor/mopor/reduction/LongIntTable" "values" "[I" (.ref c9_1_1) := F_c5_1_values_5.other W6 (Or.inl (by omega : @Ne Nat c5_1 a1))
  have F_c5_1_size_6 : Fld Z h6 c5_1 "com/example/mopor/mopor/reduction/LongIntTable" "size" "I" (.int (0 : Int32)) := F_c5_1_size_5.other W6 (Or.inl (by omega : @Ne Nat c5_1 a1))
  have A_c9_0_1_6 : AJ Z h6 c9_0_1 .long r3.1 := A_c9_0_1_5.other W6 (by omega : @Ne Nat c9_0_1 a1)
  have A_c9_1_1_6 : AI Z h6 c9_1_1 .int r3.2 := A_c9_1_1_5.other W6 (by omega : @Ne Nat c9_1_1 a1)
  have A_c19_1_6 : AI Z h6 c19_1 .int v5 := A_c19_1_5.other W6 (by omega : @Ne Nat c19_1 a1)
  have N6 := Fr.snoc X6 N4 (by omega : n0 ≤ a1)
  have zz6 : n0 ≤ h6.size := Nat.le_trans zz5 (Keep.of_wr W6).1
  have K6 := K5.wr W6 (Or.inl (List.mem_of_getElem? (i := 0) rfl))
  refine Runs.via (T' := T6) (g' := (mkF m 24 #[.val (.ref a1), .val (.int x1)] [])) (fun t k => st6 _ k) ?_
  refine Runs.via (T' := T6) (g' := (mkF m 28 #[.val (.ref a1), .val (.int x1)] [(.int (1024 : Int32)), (.ref a1)])) (fun t k => ?_) ?_
  · show Steps p.tables e below (T6.setTop (mkF m 24 #[.val (.ref a1), .val (.int x1)] [])) t
    refine XS.aloadN X6.here hx rfl (hb hby d1_24) rfl rfl ?_
    show Steps p.tables e below (T6.setTop (mkF m 25 #[.val (.ref a1), .val (.int x1)] [(.ref a1)])) t
    refine XS.sipush X6.here hx rfl (hb hby d1_25) ?_
    exact k
  refine bindE hr ?_; intro v7 hv7 hr
  obtain ⟨T7, h7, X7, e7, E7, A7, st7⟩ := newI X6 hx hZ (aty := .int) (ty := .int) rfl rfl (hw _ (List.mem_of_getElem? (i := 27) rfl)) e6 hv7 (g := (mkF m 28 #[.val (.ref a1), .val (.int x1)] [(.int (1024 : Int32)), (.ref a1)])) rfl (hb hby d1_28) rfl (by decide) (by show (((cells + 1) + 2) + 1) + 1 ≤ 7; omega) (by show (((slots + 3) + 32) + 1024) + 1024 ≤ 4131; omega)
  obtain ⟨c28_1, g7⟩ : ∃ z, z = h6.size := ⟨_, rfl⟩
  rw [← g7] at A7 st7
  have i7 := E7.1
  have E_a1_7 := E_a1_6.ext E7
  have F_a1_nodes_7 := F_a1_nodes_6.ext E7
  have F_a1_parent_7 := F_a1_parent_6.ext E7
  have F_a1_last_7 := F_a1_last_6.ext E7
  have F_a1_marking_7 := F_a1_marking_6.ext E7
  have F_a1_depth_7 := F_a1_depth_6.ext E7
  have F_a1_transitionCount_7 := F_a1_transitionCount_6.ext E7
  have F_a1_size_7 := F_a1_size_6.ext E7
  have E_c5_1_7 := E_c5_1_6.ext E7
  have F_c5_1_keys_7 := F_c5_1_keys_6.ext E7
  have F_c5_1_values_7 := F_c5_1_values_6.ext E7
  have F_c5_1_size_7 := F_c5_1_size_6.ext E7
  have A_c9_0_1_7 := A_c9_0_1_6.ext E7
  have A_c9_1_1_7 := A_c9_1_1_6.ext E7
  have A_c19_1_7 := A_c19_1_6.ext E7
  have K7 := K6.ext E7
  have zs7 : hE.size ≤ c28_1 := by have := K6.1; omega
  have zz7 : n0 ≤ h7.size := Nat.le_trans zz6 i7
  have A_c28_1_7 := A7
  have pc28_1 : @LT.lt Nat instLTNat c19_1 c28_1 := by have : @LT.lt Nat instLTNat _ _ := A_c19_1_6.lt; omega
  have sc28_1 : n0 ≤ c28_1 := by omega
  refine Runs.via (T' := T7) (g' := (mkF m 30 #[.val (.ref a1), .val (.int x1)] [(.ref c28_1), (.ref a1)])) (fun t k => st7 _ k) ?_
  obtain ⟨T8, h8, X8, e8, W8, st8⟩ := putF X7 hx hZ hown (host := "") (Or.inl (hw _ (List.mem_of_getElem? (i := 34) rfl))) Via.refl e7 F_a1_last_7 E_a1_7 (Or.inl (hw _ (List.mem_of_getElem? (i := 35) rfl))) (hw _ (List.mem_of_getElem? (i := 1) rfl)) (ty := (.array .int)) (by decide) rfl rfl (g := (mkF m 30 #[.val (.ref a1), .val (.int x1)] [(.ref c28_1), (.ref a1)])) rfl rfl (hb hby d1_30)
  have E_a1_8 : Exa Z h8 a1 "com/example/mopor/mopor/reduction/VectorTree" := E_a1_7.wr W8
  have F_a1_nodes_8 : Fld Z h8 a1 "com/example/mopor/mopor/reduction/VectorTree" "nodes" "Lcom/example/mopor/mopor/reduction/LongIntTable;" (.ref c5_1) := F_a1_nodes_7.other W8 (Or.inr (slot_ne (Or.inr (hw _ (List.mem_of_getElem? (i := 31) rfl))) (Or.inl (hw _ (List.mem_of_getElem? (i := 35) rfl))) (by decide) (t := (.object "com/example/mopor/mopor/reduction/LongIntTable")) (t' := (.array .int)) (by decide) (by decide)))
  have F_a1_parent_8 : Fld Z h8 a1 "com/example/mopor/mopor/reduction/VectorTree" "parent" "[I" (.ref c19_1) := F_a1_parent_7.other W8 (Or.inr (slot_ne (Or.inl (hw _ (List.mem_of_getElem? (i := 33) rfl))) (Or.inl (hw _ (List.mem_of_getElem? (i := 35) rfl))) (by decide) (t := (.array .int)) (t' := (.array .int)) (by decide) (by decide)))
  have F_a1_last_8 : Fld Z h8 a1 "com/example/mopor/mopor/reduction/VectorTree" "last" "[I" (.ref c28_1) := F_a1_last_7.same W8
  have F_a1_marking_8 : Fld Z h8 a1 "com/example/mopor/mopor/reduction/VectorTree" "marking" "[I" .null := F_a1_marking_7.other W8 (Or.inr (slot_ne (Or.inl (hw _ (List.mem_of_getElem? (i := 37) rfl))) (Or.inl (hw _ (List.mem_of_getElem? (i := 35) rfl))) (by decide) (t := (.array .int)) (t' := (.array .int)) (by decide) (by decide)))
  have F_a1_depth_8 : Fld Z h8 a1 "com/example/mopor/mopor/reduction/VectorTree" "depth" "[I" .null := F_a1_depth_7.other W8 (Or.inr (slot_ne (Or.inl (hw _ (List.mem_of_getElem? (i := 39) rfl))) (Or.inl (hw _ (List.mem_of_getElem? (i := 35) rfl))) (by decide) (t := (.array .int)) (t' := (.array .int)) (by decide) (by decide)))
  have F_a1_transitionCount_8 : Fld Z h8 a1 "com/example/mopor/mopor/reduction/VectorTree" "transitionCount" "I" (.int q_a1_transitionCount) := F_a1_transitionCount_7.other W8 (Or.inr (slot_ne (Or.inr (hw _ (List.mem_of_getElem? (i := 41) rfl))) (Or.inl (hw _ (List.mem_of_getElem? (i := 35) rfl))) (by decide) (t := .int) (t' := (.array .int)) (by decide) (by decide)))
  have F_a1_size_8 : Fld Z h8 a1 "com/example/mopor/mopor/reduction/VectorTree" "size" "I" (.int q_a1_size) := F_a1_size_7.other W8 (Or.inr (slot_ne (Or.inl (hw _ (List.mem_of_getElem? (i := 62) rfl))) (Or.inl (hw _ (List.mem_of_getElem? (i := 35) rfl))) (by decide) (t := .int) (t' := (.array .int)) (by decide) (by decide)))
  have E_c5_1_8 : Exa Z h8 c5_1 "com/example/mopor/mopor/reduction/LongIntTable" := E_c5_1_7.wr W8
  have F_c5_1_keys_8 : Fld Z h8 c5_1 "com/example/mopor/mopor/reduction/LongIntTable" "keys" "[J" (.ref c9_0_1) := F_c5_1_keys_7.other W8 (Or.inl (by omega : @Ne Nat c5_1 a1))
  have F_c5_1_values_8 : Fld Z h8 c5_1 "com/example/mopor/mopor/reduction/LongIntTable" "values" "[I" (.ref c9_1_1) := F_c5_1_values_7.other W8 (Or.inl (by omega : @Ne Nat c5_1 a1))
  have F_c5_1_size_8 : Fld Z h8 c5_1 "com/example/mopor/mopor/reduction/LongIntTable" "size" "I" (.int (0 : Int32)) := F_c5_1_size_7.other W8 (Or.inl (by omega : @Ne Nat c5_1 a1))
  have A_c9_0_1_8 : AJ Z h8 c9_0_1 .long r3.1 := A_c9_0_1_7.other W8 (by omega : @Ne Nat c9_0_1 a1)
  have A_c9_1_1_8 : AI Z h8 c9_1_1 .int r3.2 := A_c9_1_1_7.other W8 (by omega : @Ne Nat c9_1_1 a1)
  have A_c19_1_8 : AI Z h8 c19_1 .int v5 := A_c19_1_7.other W8 (by omega : @Ne Nat c19_1 a1)
  have A_c28_1_8 : AI Z h8 c28_1 .int v7 := A_c28_1_7.other W8 (by omega : @Ne Nat c28_1 a1)
  have N8 := Fr.snoc X8 N6 (by omega : n0 ≤ a1)
  have zz8 : n0 ≤ h8.size := Nat.le_trans zz7 (Keep.of_wr W8).1
  have K8 := K7.wr W8 (Or.inl (List.mem_of_getElem? (i := 0) rfl))
  refine Runs.via (T' := T8) (g' := (mkF m 33 #[.val (.ref a1), .val (.int x1)] [])) (fun t k => st8 _ k) ?_
  refine Runs.via (T' := T8) (g' := (mkF m 37 #[.val (.ref a1), .val (.int x1)] [(.int (1024 : Int32)), (.ref a1)])) (fun t k => ?_) ?_
  · show Steps p.tables e below (T8.setTop (mkF m 33 #[.val (.ref a1), .val (.int x1)] [])) t
    refine XS.aloadN X8.here hx rfl (hb hby d1_33) rfl rfl ?_
    show Steps p.tables e below (T8.setTop (mkF m 34 #[.val (.ref a1), .val (.int x1)] [(.ref a1)])) t
    refine XS.sipush X8.here hx rfl (hb hby d1_34) ?_
    exact k
  refine bindE hr ?_; intro v9 hv9 hr
  obtain ⟨T9, h9, X9, e9, E9, A9, st9⟩ := newI X8 hx hZ (aty := .int) (ty := .int) rfl rfl (hw _ (List.mem_of_getElem? (i := 27) rfl)) e8 hv9 (g := (mkF m 37 #[.val (.ref a1), .val (.int x1)] [(.int (1024 : Int32)), (.ref a1)])) rfl (hb hby d1_37) rfl (by decide) (by show ((((cells + 1) + 2) + 1) + 1) + 1 ≤ 7; omega) (by show ((((slots + 3) + 32) + 1024) + 1024) + 1024 ≤ 4131; omega)
  obtain ⟨c37_1, g9⟩ : ∃ z, z = h8.size := ⟨_, rfl⟩
  rw [← g9] at A9 st9
  have i9 := E9.1
  have E_a1_9 := E_a1_8.ext E9
  have F_a1_nodes_9 := F_a1_nodes_8.ext E9
  have F_a1_parent_9 := F_a1_parent_8.ext E9
  have F_a1_last_9 := F_a1_last_8.ext E9
  have F_a1_marking_9 := F_a1_marking_8.ext E9
  have F_a1_depth_9 := F_a1_depth_8.ext E9
  have F_a1_transitionCount_9 := F_a1_transitionCount_8.ext E9
  have F_a1_size_9 := F_a1_size_8.ext E9
  have E_c5_1_9 := E_c5_1_8.ext E9
  have F_c5_1_keys_9 := F_c5_1_keys_8.ext E9
  have F_c5_1_values_9 := F_c5_1_values_8.ext E9
  have F_c5_1_size_9 := F_c5_1_size_8.ext E9
  have A_c9_0_1_9 := A_c9_0_1_8.ext E9
  have A_c9_1_1_9 := A_c9_1_1_8.ext E9
  have A_c19_1_9 := A_c19_1_8.ext E9
  have A_c28_1_9 := A_c28_1_8.ext E9
  have K9 := K8.ext E9
  have zs9 : hE.size ≤ c37_1 := by have := K8.1; omega
  have zz9 : n0 ≤ h9.size := Nat.le_trans zz8 i9
  have A_c37_1_9 := A9
  have pc37_1 : @LT.lt Nat instLTNat c28_1 c37_1 := by have : @LT.lt Nat instLTNat _ _ := A_c28_1_8.lt; omega
  have sc37_1 : n0 ≤ c37_1 := by omega
  refine Runs.via (T' := T9) (g' := (mkF m 39 #[.val (.ref a1), .val (.int x1)] [(.ref c37_1), (.ref a1)])) (fun t k => st9 _ k) ?_
  obtain ⟨T10, h10, X10, e10, W10, st10⟩ := putF X9 hx hZ hown (host := "") (Or.inl (hw _ (List.mem_of_getElem? (i := 36) rfl))) Via.refl e9 F_a1_marking_9 E_a1_9 (Or.inl (hw _ (List.mem_of_getElem? (i := 37) rfl))) (hw _ (List.mem_of_getElem? (i := 1) rfl)) (ty := (.array .int)) (by decide) rfl rfl (g := (mkF m 39 #[.val (.ref a1), .val (.int x1)] [(.ref c37_1), (.ref a1)])) rfl rfl (hb hby d1_39)
  have E_a1_10 : Exa Z h10 a1 "com/example/mopor/mopor/reduction/VectorTree" := E_a1_9.wr W10
  have F_a1_nodes_10 : Fld Z h10 a1 "com/example/mopor/mopor/reduction/VectorTree" "nodes" "Lcom/example/mopor/mopor/reduction/LongIntTable;" (.ref c5_1) := F_a1_nodes_9.other W10 (Or.inr (slot_ne (Or.inr (hw _ (List.mem_of_getElem? (i := 31) rfl))) (Or.inl (hw _ (List.mem_of_getElem? (i := 37) rfl))) (by decide) (t := (.object "com/example/mopor/mopor/reduction/LongIntTable")) (t' := (.array .int)) (by decide) (by decide)))
  have F_a1_parent_10 : Fld Z h10 a1 "com/example/mopor/mopor/reduction/VectorTree" "parent" "[I" (.ref c19_1) := F_a1_parent_9.other W10 (Or.inr (slot_ne (Or.inl (hw _ (List.mem_of_getElem? (i := 33) rfl))) (Or.inl (hw _ (List.mem_of_getElem? (i := 37) rfl))) (by decide) (t := (.array .int)) (t' := (.array .int)) (by decide) (by decide)))
  have F_a1_last_10 : Fld Z h10 a1 "com/example/mopor/mopor/reduction/VectorTree" "last" "[I" (.ref c28_1) := F_a1_last_9.other W10 (Or.inr (slot_ne (Or.inl (hw _ (List.mem_of_getElem? (i := 35) rfl))) (Or.inl (hw _ (List.mem_of_getElem? (i := 37) rfl))) (by decide) (t := (.array .int)) (t' := (.array .int)) (by decide) (by decide)))
  have F_a1_marking_10 : Fld Z h10 a1 "com/example/mopor/mopor/reduction/VectorTree" "marking" "[I" (.ref c37_1) := F_a1_marking_9.same W10
  have F_a1_depth_10 : Fld Z h10 a1 "com/example/mopor/mopor/reduction/VectorTree" "depth" "[I" .null := F_a1_depth_9.other W10 (Or.inr (slot_ne (Or.inl (hw _ (List.mem_of_getElem? (i := 39) rfl))) (Or.inl (hw _ (List.mem_of_getElem? (i := 37) rfl))) (by decide) (t := (.array .int)) (t' := (.array .int)) (by decide) (by decide)))
  have F_a1_transitionCount_10 : Fld Z h10 a1 "com/example/mopor/mopor/reduction/VectorTree" "transitionCount" "I" (.int q_a1_transitionCount) := F_a1_transitionCount_9.other W10 (Or.inr (slot_ne (Or.inr (hw _ (List.mem_of_getElem? (i := 41) rfl))) (Or.inl (hw _ (List.mem_of_getElem? (i := 37) rfl))) (by decide) (t := .int) (t' := (.array .int)) (by decide) (by decide)))
  have F_a1_size_10 : Fld Z h10 a1 "com/example/mopor/mopor/reduction/VectorTree" "size" "I" (.int q_a1_size) := F_a1_size_9.other W10 (Or.inr (slot_ne (Or.inl (hw _ (List.mem_of_getElem? (i := 62) rfl))) (Or.inl (hw _ (List.mem_of_getElem? (i := 37) rfl))) (by decide) (t := .int) (t' := (.array .int)) (by decide) (by decide)))
  have E_c5_1_10 : Exa Z h10 c5_1 "com/example/mopor/mopor/reduction/LongIntTable" := E_c5_1_9.wr W10
  have F_c5_1_keys_10 : Fld Z h10 c5_1 "com/example/mopor/mopor/reduction/LongIntTable" "keys" "[J" (.ref c9_0_1) := F_c5_1_keys_9.other W10 (Or.inl (by omega : @Ne Nat c5_1 a1))
  have F_c5_1_values_10 : Fld Z h10 c5_1 "com/example/mopor/mopor/reduction/LongIntTable" "values" "[I" (.ref c9_1_1) := F_c5_1_values_9.other W10 (Or.inl (by omega : @Ne Nat c5_1 a1))
  have F_c5_1_size_10 : Fld Z h10 c5_1 "com/example/mopor/mopor/reduction/LongIntTable" "size" "I" (.int (0 : Int32)) := F_c5_1_size_9.other W10 (Or.inl (by omega : @Ne Nat c5_1 a1))
  have A_c9_0_1_10 : AJ Z h10 c9_0_1 .long r3.1 := A_c9_0_1_9.other W10 (by omega : @Ne Nat c9_0_1 a1)
  have A_c9_1_1_10 : AI Z h10 c9_1_1 .int r3.2 := A_c9_1_1_9.other W10 (by omega : @Ne Nat c9_1_1 a1)
  have A_c19_1_10 : AI Z h10 c19_1 .int v5 := A_c19_1_9.other W10 (by omega : @Ne Nat c19_1 a1)
  have A_c28_1_10 : AI Z h10 c28_1 .int v7 := A_c28_1_9.other W10 (by omega : @Ne Nat c28_1 a1)
  have A_c37_1_10 : AI Z h10 c37_1 .int v9 := A_c37_1_9.other W10 (by omega : @Ne Nat c37_1 a1)
  have N10 := Fr.snoc X10 N8 (by omega : n0 ≤ a1)
  have zz10 : n0 ≤ h10.size := Nat.le_trans zz9 (Keep.of_wr W10).1
  have K10 := K9.wr W10 (Or.inl (List.mem_of_getElem? (i := 0) rfl))
  refine Runs.via (T' := T10) (g' := (mkF m 42 #[.val (.ref a1), .val (.int x1)] [])) (fun t k => st10 _ k) ?_
  refine Runs.via (T' := T10) (g' := (mkF m 46 #[.val (.ref a1), .val (.int x1)] [(.int (1024 : Int32)), (.ref a1)])) (fun t k => ?_) ?_
  · show Steps p.tables e below (T10.setTop (mkF m 42 #[.val (.ref a1), .val (.int x1)] [])) t
    refine XS.aloadN X10.here hx rfl (hb hby d1_42) rfl rfl ?_
    show Steps p.tables e below (T10.setTop (mkF m 43 #[.val (.ref a1), .val (.int x1)] [(.ref a1)])) t
    refine XS.sipush X10.here hx rfl (hb hby d1_43) ?_
    exact k
  refine bindE hr ?_; intro v11 hv11 hr
  obtain ⟨T11, h11, X11, e11, E11, A11, st11⟩ := newI X10 hx hZ (aty := .int) (ty := .int) rfl rfl (hw _ (List.mem_of_getElem? (i := 27) rfl)) e10 hv11 (g := (mkF m 46 #[.val (.ref a1), .val (.int x1)] [(.int (1024 : Int32)), (.ref a1)])) rfl (hb hby d1_46) rfl (by decide) (by show (((((cells + 1) + 2) + 1) + 1) + 1) + 1 ≤ 7; omega) (by show (((((slots + 3) + 32) + 1024) + 1024) + 1024) + 1024 ≤ 4131; omega)
  obtain ⟨c46_1, g11⟩ : ∃ z, z = h10.size := ⟨_, rfl⟩
  rw [← g11] at A11 st11
  have i11 := E11.1
  have E_a1_11 := E_a1_10.ext E11
  have F_a1_nodes_11 := F_a1_nodes_10.ext E11
  have F_a1_parent_11 := F_a1_parent_10.ext E11
  have F_a1_last_11 := F_a1_last_10.ext E11
  have F_a1_marking_11 := F_a1_marking_10.ext E11
  have F_a1_depth_11 := F_a1_depth_10.ext E11
  have F_a1_transitionCount_11 := F_a1_transitionCount_10.ext E11
  have F_a1_size_11 := F_a1_size_10.ext E11
  have E_c5_1_11 := E_c5_1_10.ext E11
  have F_c5_1_keys_11 := F_c5_1_keys_10.ext E11
  have F_c5_1_values_11 := F_c5_1_values_10.ext E11
  have F_c5_1_size_11 := F_c5_1_size_10.ext E11
  have A_c9_0_1_11 := A_c9_0_1_10.ext E11
  have A_c9_1_1_11 := A_c9_1_1_10.ext E11
  have A_c19_1_11 := A_c19_1_10.ext E11
  have A_c28_1_11 := A_c28_1_10.ext E11
  have A_c37_1_11 := A_c37_1_10.ext E11
  have K11 := K10.ext E11
  have zs11 : hE.size ≤ c46_1 := by have := K10.1; omega
  have zz11 : n0 ≤ h11.size := Nat.le_trans zz10 i11
  have A_c46_1_11 := A11
  have pc46_1 : @LT.lt Nat instLTNat c37_1 c46_1 := by have : @LT.lt Nat instLTNat _ _ := A_c37_1_10.lt; omega
  have sc46_1 : n0 ≤ c46_1 := by omega
  refine Runs.via (T' := T11) (g' := (mkF m 48 #[.val (.ref a1), .val (.int x1)] [(.ref c46_1), (.ref a1)])) (fun t k => st11 _ k) ?_
  obtain ⟨T12, h12, X12, e12, W12, st12⟩ := putF X11 hx hZ hown (host := "") (Or.inl (hw _ (List.mem_of_getElem? (i := 38) rfl))) Via.refl e11 F_a1_depth_11 E_a1_11 (Or.inl (hw _ (List.mem_of_getElem? (i := 39) rfl))) (hw _ (List.mem_of_getElem? (i := 1) rfl)) (ty := (.array .int)) (by decide) rfl rfl (g := (mkF m 48 #[.val (.ref a1), .val (.int x1)] [(.ref c46_1), (.ref a1)])) rfl rfl (hb hby d1_48)
  have E_a1_12 : Exa Z h12 a1 "com/example/mopor/mopor/reduction/VectorTree" := E_a1_11.wr W12
  have F_a1_nodes_12 : Fld Z h12 a1 "com/example/mopor/mopor/reduction/VectorTree" "nodes" "Lcom/example/mopor/mopor/reduction/LongIntTable;" (.ref c5_1) := F_a1_nodes_11.other W12 (Or.inr (slot_ne (Or.inr (hw _ (List.mem_of_getElem? (i := 31) rfl))) (Or.inl (hw _ (List.mem_of_getElem? (i := 39) rfl))) (by decide) (t := (.object "com/example/mopor/mopor/reduction/LongIntTable")) (t' := (.array .int)) (by decide) (by decide)))
  have F_a1_parent_12 : Fld Z h12 a1 "com/example/mopor/mopor/reduction/VectorTree" "parent" "[I" (.ref c19_1) := F_a1_parent_11.other W12 (Or.inr (slot_ne (Or.inl (hw _ (List.mem_of_getElem? (i := 33) rfl))) (Or.inl (hw _ (List.mem_of_getElem? (i := 39) rfl))) (by decide) (t := (.array .int)) (t' := (.array .int)) (by decide) (by decide)))
  have F_a1_last_12 : Fld Z h12 a1 "com/example/mopor/mopor/reduction/VectorTree" "last" "[I" (.ref c28_1) := F_a1_last_11.other W12 (Or.inr (slot_ne (Or.inl (hw _ (List.mem_of_getElem? (i := 35) rfl))) (Or.inl (hw _ (List.mem_of_getElem? (i := 39) rfl))) (by decide) (t := (.array .int)) (t' := (.array .int)) (by decide) (by decide)))
  have F_a1_marking_12 : Fld Z h12 a1 "com/example/mopor/mopor/reduction/VectorTree" "marking" "[I" (.ref c37_1) := F_a1_marking_11.other W12 (Or.inr (slot_ne (Or.inl (hw _ (List.mem_of_getElem? (i := 37) rfl))) (Or.inl (hw _ (List.mem_of_getElem? (i := 39) rfl))) (by decide) (t := (.array .int)) (t' := (.array .int)) (by decide) (by decide)))
  have F_a1_depth_12 : Fld Z h12 a1 "com/example/mopor/mopor/reduction/VectorTree" "depth" "[I" (.ref c46_1) := F_a1_depth_11.same W12
  have F_a1_transitionCount_12 : Fld Z h12 a1 "com/example/mopor/mopor/reduction/VectorTree" "transitionCount" "I" (.int q_a1_transitionCount) := F_a1_transitionCount_11.other W12 (Or.inr (slot_ne (Or.inr (hw _ (List.mem_of_getElem? (i := 41) rfl))) (Or.inl (hw _ (List.mem_of_getElem? (i := 39) rfl))) (by decide) (t := .int) (t' := (.array .int)) (by decide) (by decide)))
  have F_a1_size_12 : Fld Z h12 a1 "com/example/mopor/mopor/reduction/VectorTree" "size" "I" (.int q_a1_size) := F_a1_size_11.other W12 (Or.inr (slot_ne (Or.inl (hw _ (List.mem_of_getElem? (i := 62) rfl))) (Or.inl (hw _ (List.mem_of_getElem? (i := 39) rfl))) (by decide) (t := .int) (t' := (.array .int)) (by decide) (by decide)))
  have E_c5_1_12 : Exa Z h12 c5_1 "com/example/mopor/mopor/reduction/LongIntTable" := E_c5_1_11.wr W12
  have F_c5_1_keys_12 : Fld Z h12 c5_1 "com/example/mopor/mopor/reduction/LongIntTable" "keys" "[J" (.ref c9_0_1) := F_c5_1_keys_11.other W12 (Or.inl (by omega : @Ne Nat c5_1 a1))
  have F_c5_1_values_12 : Fld Z h12 c5_1 "com/example/mopor/mopor/reduction/LongIntTable" "values" "[I" (.ref c9_1_1) := F_c5_1_values_11.other W12 (Or.inl (by omega : @Ne Nat c5_1 a1))
  have F_c5_1_size_12 : Fld Z h12 c5_1 "com/example/mopor/mopor/reduction/LongIntTable" "size" "I" (.int (0 : Int32)) := F_c5_1_size_11.other W12 (Or.inl (by omega : @Ne Nat c5_1 a1))
  have A_c9_0_1_12 : AJ Z h12 c9_0_1 .long r3.1 := A_c9_0_1_11.other W12 (by omega : @Ne Nat c9_0_1 a1)
  have A_c9_1_1_12 : AI Z h12 c9_1_1 .int r3.2 := A_c9_1_1_11.other W12 (by omega : @Ne Nat c9_1_1 a1)
  have A_c19_1_12 : AI Z h12 c19_1 .int v5 := A_c19_1_11.other W12 (by omega : @Ne Nat c19_1 a1)
  have A_c28_1_12 : AI Z h12 c28_1 .int v7 := A_c28_1_11.other W12 (by omega : @Ne Nat c28_1 a1)
  have A_c37_1_12 : AI Z h12 c37_1 .int v9 := A_c37_1_11.other W12 (by omega : @Ne Nat c37_1 a1)
  have A_c46_1_12 : AI Z h12 c46_1 .int v11 := A_c46_1_11.other W12 (by omega : @Ne Nat c46_1 a1)
  have N12 := Fr.snoc X12 N10 (by omega : n0 ≤ a1)
  have zz12 : n0 ≤ h12.size := Nat.le_trans zz11 (Keep.of_wr W12).1
  have K12 := K11.wr W12 (Or.inl (List.mem_of_getElem? (i := 0) rfl))
  refine Runs.via (T' := T12) (g' := (mkF m 51 #[.val (.ref a1), .val (.int x1)] [])) (fun t k => st12 _ k) ?_
  refine Runs.via (T' := T12) (g' := (mkF m 53 #[.val (.ref a1), .val (.int x1)] [(.int x1), (.ref a1)])) (fun t k => ?_) ?_
  · show Steps p.tables e below (T12.setTop (mkF m 51 #[.val (.ref a1), .val (.int x1)] [])) t
    refine XS.aloadN X12.here hx rfl (hb hby d1_51) rfl rfl ?_
    show Steps p.tables e below (T12.setTop (mkF m 52 #[.val (.ref a1), .val (.int x1)] [(.ref a1)])) t
    refine XS.iloadN X12.here hx rfl (hb hby d1_52) rfl ?_
    exact k
  obtain ⟨T13, h13, X13, e13, W13, st13⟩ := putF X12 hx hZ hown (host := "") (Or.inl (hw _ (List.mem_of_getElem? (i := 40) rfl))) Via.refl e12 F_a1_transitionCount_12 E_a1_12 (Or.inr ⟨(hw _ (List.mem_of_getElem? (i := 41) rfl)), rfl, hnm⟩) (hw _ (List.mem_of_getElem? (i := 1) rfl)) (ty := .int) (by decide) rfl rfl (g := (mkF m 53 #[.val (.ref a1), .val (.int x1)] [(.int x1), (.ref a1)])) rfl rfl (hb hby d1_53)
  have E_a1_13 : Exa Z h13 a1 "com/example/mopor/mopor/reduction/VectorTree" := E_a1_12.wr W13
  have F_a1_nodes_13 : Fld Z h13 a1 "com/example/mopor/mopor/reduction/VectorTree" "nodes" "Lcom/example/mopor/mopor/reduction/LongIntTable;" (.ref c5_1) := F_a1_nodes_12.other W13 (Or.inr (slot_ne (Or.inr (hw _ (List.mem_of_getElem? (i := 31) rfl))) (Or.inr (hw _ (List.mem_of_getElem? (i := 41) rfl))) (by decide) (t := (.object "com/example/mopor/mopor/reduction/LongIntTable")) (t' := .int) (by decide) (by decide)))
  have F_a1_parent_13 : Fld Z h13 a1 "com/example/mopor/mopor/reduction/VectorTree" "parent" "[I" (.ref c19_1) := F_a1_parent_12.other W13 (Or.inr (slot_ne (Or.inl (hw _ (List.mem_of_getElem? (i := 33) rfl))) (Or.inr (hw _ (List.mem_of_getElem? (i := 41) rfl))) (by decide) (t := (.array .int)) (t' := .int) (by decide) (by decide)))
  have F_a1_last_13 : Fld Z h13 a1 "com/example/mopor/mopor/reduction/VectorTree" "last" "[I" (.ref c28_1) := F_a1_last_12.other W13 (Or.inr (slot_ne (Or.inl (hw _ (List.mem_of_getElem? (i := 35) rfl))) (Or.inr (hw _ (List.mem_of_getElem? (i := 41) rfl))) (by decide) (t := (.array .int)) (t' := .int) (by decide) (by decide)))
  have F_a1_marking_13 : Fld Z h13 a1 "com/example/mopor/mopor/reduction/VectorTree" "marking" "[I" (.ref c37_1) := F_a1_marking_12.other W13 (Or.inr (slot_ne (Or.inl (hw _ (List.mem_of_getElem? (i := 37) rfl))) (Or.inr (hw _ (List.mem_of_getElem? (i := 41) rfl))) (by decide) (t := (.array .int)) (t' := .int) (by decide) (by decide)))
  have F_a1_depth_13 : Fld Z h13 a1 "com/example/mopor/mopor/reduction/VectorTree" "depth" "[I" (.ref c46_1) := F_a1_depth_12.other W13 (Or.inr (slot_ne (Or.inl (hw _ (List.mem_of_getElem? (i := 39) rfl))) (Or.inr (hw _ (List.mem_of_getElem? (i := 41) rfl))) (by decide) (t := (.array .int)) (t' := .int) (by decide) (by decide)))
  have F_a1_transitionCount_13 : Fld Z h13 a1 "com/example/mopor/mopor/reduction/VectorTree" "transitionCount" "I" (.int x1) := F_a1_transitionCount_12.same W13
  have F_a1_size_13 : Fld Z h13 a1 "com/example/mopor/mopor/reduction/VectorTree" "size" "I" (.int q_a1_size) := F_a1_size_12.other W13 (Or.inr (slot_ne (Or.inl (hw _ (List.mem_of_getElem? (i := 62) rfl))) (Or.inr (hw _ (List.mem_of_getElem? (i := 41) rfl))) (by decide) (t := .int) (t' := .int) (by decide) (by decide)))
  have E_c5_1_13 : Exa Z h13 c5_1 "com/example/mopor/mopor/reduction/LongIntTable" := E_c5_1_12.wr W13
  have F_c5_1_keys_13 : Fld Z h13 c5_1 "com/example/mopor/mopor/reduction/LongIntTable" "keys" "[J" (.ref c9_0_1) := F_c5_1_keys_12.other W13 (Or.inl (by omega : @Ne Nat c5_1 a1))
  have F_c5_1_values_13 : Fld Z h13 c5_1 "com/example/mopor/mopor/reduction/LongIntTable" "values" "[I" (.ref c9_1_1) := F_c5_1_values_12.other W13 (Or.inl (by omega : @Ne Nat c5_1 a1))
  have F_c5_1_size_13 : Fld Z h13 c5_1 "com/example/mopor/mopor/reduction/LongIntTable" "size" "I" (.int (0 : Int32)) := F_c5_1_size_12.other W13 (Or.inl (by omega : @Ne Nat c5_1 a1))
  have A_c9_0_1_13 : AJ Z h13 c9_0_1 .long r3.1 := A_c9_0_1_12.other W13 (by omega : @Ne Nat c9_0_1 a1)
  have A_c9_1_1_13 : AI Z h13 c9_1_1 .int r3.2 := A_c9_1_1_12.other W13 (by omega : @Ne Nat c9_1_1 a1)
  have A_c19_1_13 : AI Z h13 c19_1 .int v5 := A_c19_1_12.other W13 (by omega : @Ne Nat c19_1 a1)
  have A_c28_1_13 : AI Z h13 c28_1 .int v7 := A_c28_1_12.other W13 (by omega : @Ne Nat c28_1 a1)
  have A_c37_1_13 : AI Z h13 c37_1 .int v9 := A_c37_1_12.other W13 (by omega : @Ne Nat c37_1 a1)
  have A_c46_1_13 : AI Z h13 c46_1 .int v11 := A_c46_1_12.other W13 (by omega : @Ne Nat c46_1 a1)
  have N13 := Fr.snoc X13 N12 (by omega : n0 ≤ a1)
  have zz13 : n0 ≤ h13.size := Nat.le_trans zz12 (Keep.of_wr W13).1
  have K13 := K12.wr W13 (Or.inl (List.mem_of_getElem? (i := 0) rfl))
  refine Runs.via (T' := T13) (g' := (mkF m 56 #[.val (.ref a1), .val (.int x1)] [])) (fun t k => st13 _ k) ?_
  obtain rfl := Option.some.inj hr
  exact own_retV X13 hx hlk hret (hb hby d1_56) (by show ((((((cells + 1) + 2) + 1) + 1) + 1) + 1) ≤ 7; omega) (by show ((((((slots + 3) + 32) + 1024) + 1024) + 1024) + 1024) ≤ 4131; omega) ⟨c5_1, c9_0_1, c9_1_1, c19_1, c28_1, c37_1, c46_1, rfl, N13, (by rw [e13]; exact K13), (by omega), (by omega), (by omega), (by omega), (by omega), (by omega), (by omega), (by omega), (by omega), (by omega), (by omega), (by omega), (by omega), (by rw [e13]; exact E_a1_13), (by rw [e13]; exact F_a1_nodes_13), (by rw [e13]; exact F_a1_parent_13), (by rw [e13]; exact F_a1_last_13), (by rw [e13]; exact F_a1_marking_13), (by rw [e13]; exact F_a1_depth_13), (by rw [e13]; exact F_a1_transitionCount_13), (by rw [e13]; exact F_a1_size_13), (by rw [e13]; exact E_c5_1_13), (by rw [e13]; exact F_c5_1_keys_13), (by rw [e13]; exact F_c5_1_values_13), (by rw [e13]; exact F_c5_1_size_13), (by rw [e13]; exact A_c9_0_1_13), (by rw [e13]; exact A_c9_1_1_13), (by rw [e13]; exact A_c19_1_13), (by rw [e13]; exact A_c28_1_13), (by rw [e13]; exact A_c37_1_13), (by rw [e13]; exact A_c46_1_13)⟩
def f1 (fuel : Nat) (x1 : Int32) (q_a1_transitionCount : Int32) (q_a1_size : Int32) : Option (Int32 × Int32 × List Int64 × List Int32 × List Int32 × List Int32 × List Int32 × List Int32) := g1_0 fuel x1 q_a1_transitionCount q_a1_size
theorem pn_1 : plainName "com/example/mopor/mopor/reduction/VectorTree" = true := by first | (simp [plainName, overriddenIn]; done) | decide +kernel
theorem ef_1 (m : MethodId) (x1 : Int32) (a1 : Addr) : entryFrame m #[(.ref a1), (.int x1)] 2 = mkF m 0 #[.val (.ref a1), .val (.int x1)] [] := by first | (simp [entryFrame, mkF, argsToLocals, Value.category]; done) | rfl
set_option maxRecDepth 65536 in
set_option maxHeartbeats 4000000 in
theorem rm1 (l : Launch) (Z : State) (a0 : Array Value) (hw : ∀ d ∈ tables_1, d.before a0 Z = true) (ws : List Jvm.Cond) (x1 : Int32) (a1 : Addr) (q_a1_transitionCount : Int32) (q_a1_size : Int32) (hE : Heap) (n0 : Nat) (Z0 : n0 ≤ hE.size) (o0 : n0 ≤ a1) (E_a1_0 : Exa Z hE a1 "com/example/mopor/mopor/reduction/VectorTree") (F_a1_nodes_0 : Fld Z hE a1 "com/example/mopor/mopor/reduction/VectorTree" "nodes" "Lcom/example/mopor/mopor/reduction/LongIntTable;" .null) (F_a1_parent_0 : Fld Z hE a1 "com/example/mopor/mopor/reduction/VectorTree" "parent" "[I" .null) (F_a1_last_0 : Fld Z hE a1 "com/example/mopor/mopor/reduction/VectorTree" "last" "[I" .null) (F_a1_marking_0 : Fld Z hE a1 "com/example/mopor/mopor/reduction/VectorTree" "marking" "[I" .null) (F_a1_depth_0 : Fld Z hE a1 "com/example/mopor/mopor/reduction/VectorTree" "depth" "[I" .null) (F_a1_transitionCount_0 : Fld Z hE a1 "com/example/mopor/mopor/reduction/VectorTree" "transitionCount" "I" (.int q_a1_transitionCount)) (F_a1_size_0 : Fld Z hE a1 "com/example/mopor/mopor/reduction/VectorTree" "size" "I" (.int q_a1_size)) (fuel : Nat) (r : Int32 × Int32 × List Int64 × List Int32 × List Int32 × List Int32 × List Int32 × List Int32) (hr : f1 fuel x1 q_a1_transitionCount q_a1_size = some r) :
    MetFree l (⟨"com/example/mopor/mopor/reduction/VectorTree", "<init>", "(I)V"⟩ : MethodName) (head1 (Jvm.Cond.code (⟨"com/example/mopor/mopor/reduction/VectorTree", "<init>", "(I)V"⟩ : MethodName) prog_24_method_1_code 2 none :: ws) ({ frames := 3, cells := 7, slots := 4131, locals := 44 } : Room)) (fun a U => a = #[(.ref a1), (.int x1)] ∧ Z.Warmed39 U.vm ∧ U.heap = hE) (fun _ _ _ _ _ => True) (fun _ U o U' => ∃ v L, o = .returned v ∧ (P1 Z hE a1 q_a1_transitionCount q_a1_size n0 r v U'.heap L) ∧ FrameEnd U o U' L ({ frames := 3, cells := 7, slots := 4131, locals := 44 } : Room).cells ({ frames := 3, cells := 7, slots := 4131, locals := 44 } : Room).slots) := by
  refine MetFree.of_bodySF (plainFor_of_name pn_1) hisR ?_
  intro p e s m args below meth c s₁ Bd hml0 hP hK
  obtain ⟨rfl, hZ, hh⟩ := hP
  have X0 : Stand p l e ({ frames := 3, cells := 7, slots := 4131, locals := 44 } : Room) s m #[(.ref a1), (.int x1)] below meth c s₁ [] 0 0 := Stand.of_body Bd
  have e0 : s₁.heap = hE := by rw [← hh, Bd.state]; rfl
  have C : Ctx p s m meth c Z a0 "com/example/mopor/mopor/reduction/VectorTree" prog_24_method_1_code 2 none "<init>" := ⟨Bd.exec, hZ, hw, Bd.bytes, hml0, findClass_of_methodNamed Bd.named, Bd.returns, BodyLoose.notSynchronized Bd, (name_of_methodNamed Bd.named Bd.method).1⟩
  refine Runs.via (fun t k => castTop (ef_1 m x1 a1) k) (b1_0 C fuel X0 e0 (Fr.nil n0) (by show 0 ≤ 0; omega) (by show 0 ≤ 0; omega) Z0 (Keep.refl hE [a1]) (by omega) q_a1_transitionCount x1 E_a1_0 F_a1_nodes_0 F_a1_parent_0 F_a1_last_0 F_a1_marking_0 F_a1_depth_0 F_a1_transitionCount_0 F_a1_size_0 hr)
theorem pd_3 : parseMethodDescriptor "(I)V" = some ⟨[.int], none⟩ := by decide +kernel
theorem d8_0 : decode prog_19_method_5_code 0 = .ok (.aload_n 0, 1) := by decide +kernel
theorem d8_1 : decode prog_19_method_5_code 1 = .ok (.arraylength, 1) := by decide +kernel
theorem d8_2 : decode prog_19_method_5_code 2 = .ok (.iconst 1, 1) := by decide +kernel
theorem d8_3 : decode prog_19_method_5_code 3 = .ok (.isub, 1) := by decide +kernel
theorem d8_4 : decode prog_19_method_5_code 4 = .ok (.istore_n 3, 1) := by decide +kernel
theorem d8_5 : decode prog_19_method_5_code 5 = .ok (.lload_n 1, 1) := by decide +kernel
theorem d8_6 : decode prog_19_method_5_code 6 = .ok (.ldc2_w 45, 3) := by decide +kernel
theorem d8_9 : decode prog_19_method_5_code 9 = .ok (.lmul, 1) := by decide +kernel
theorem d8_10 : decode prog_19_method_5_code 10 = .ok (.lstore 4, 2) := by decide +kernel
theorem d8_12 : decode prog_19_method_5_code 12 = .ok (.lload 4, 2) := by decide +kernel
theorem d8_14 : decode prog_19_method_5_code 14 = .ok (.lload 4, 2) := by decide +kernel
theorem d8_16 : decode prog_19_method_5_code 16 = .ok (.bipush 29, 2) := by decide +kernel
theorem d8_18 : decode prog_19_method_5_code 18 = .ok (.lushr, 1) := by decide +kernel
theorem d8_19 : decode prog_19_method_5_code 19 = .ok (.lxor, 1) := by decide +kernel
theorem d8_20 : decode prog_19_method_5_code 20 = .ok (.lstore 4, 2) := by decide +kernel
theorem d8_22 : decode prog_19_method_5_code 22 = .ok (.lload 4, 2) := by decide +kernel
theorem d8_24 : decode prog_19_method_5_code 24 = .ok (.l2i, 1) := by decide +kernel
theorem d8_25 : decode prog_19_method_5_code 25 = .ok (.iload_n 3, 1) := by decide +kernel
theorem d8_26 : decode prog_19_method_5_code 26 = .ok (.iand, 1) := by decide +kernel
theorem d8_27 : decode prog_19_method_5_code 27 = .ok (.istore 6, 2) := by decide +kernel
theorem d8_29 : decode prog_19_method_5_code 29 = .ok (.aload_n 0, 1) := by decide +kernel
theorem d8_30 : decode prog_19_method_5_code 30 = .ok (.iload 6, 2) := by decide +kernel
theorem d8_32 : decode prog_19_method_5_code 32 = .ok (.laload, 1) := by decide +kernel
theorem d8_33 : decode prog_19_method_5_code 33 = .ok (.ldc2_w 27, 3) := by decide +kernel
theorem d8_36 : decode prog_19_method_5_code 36 = .ok (.lcmp, 1) := by decide +kernel
theorem d8_37 : decode prog_19_method_5_code 37 = .ok (.ifCond .eq 23, 3) := by decide +kernel
theorem d8_40 : decode prog_19_method_5_code 40 = .ok (.aload_n 0, 1) := by decide +kernel
theorem d8_41 : decode prog_19_method_5_code 41 = .ok (.iload 6, 2) := by decide +kernel
theorem d8_43 : decode prog_19_method_5_code 43 = .ok (.laload, 1) := by decide +kernel
theorem d8_44 : decode prog_19_method_5_code 44 = .ok (.lload_n 1, 1) := by decide +kernel
theorem d8_45 : decode prog_19_method_5_code 45 = .ok (.lcmp, 1) := by decide +kernel
theorem d8_46 : decode prog_19_method_5_code 46 = .ok (.ifCond .eq 14, 3) := by decide +kernel
theorem d8_49 : decode prog_19_method_5_code 49 = .ok (.iload 6, 2) := by decide +kernel
theorem d8_51 : decode prog_19_method_5_code 51 = .ok (.iconst 1, 1) := by decide +kernel
theorem d8_52 : decode prog_19_method_5_code 52 = .ok (.iadd, 1) := by decide +kernel
theorem d8_53 : decode prog_19_method_5_code 53 = .ok (.iload_n 3, 1) := by decide +kernel
theorem d8_54 : decode prog_19_method_5_code 54 = .ok (.iand, 1) := by decide +kernel
theorem d8_55 : decode prog_19_method_5_code 55 = .ok (.istore 6, 2) := by decide +kernel
theorem d8_57 : decode prog_19_method_5_code 57 = .ok (.goto (-28), 3) := by decide +kernel
theorem d8_60 : decode prog_19_method_5_code 60 = .ok (.iload 6, 2) := by decide +kernel
theorem d8_62 : decode prog_19_method_5_code 62 = .ok (.ireturn, 1) := by decide +kernel
def P8 (Z : State) (hE : Heap) (a1 : Addr) (q_a1 : List Int64) (n0 : Nat) (r : Int32) (v : Option Value) (h : Heap) (L : List Loc) : Prop := v = some (.int r) ∧ Fr n0 L ∧ h = hE
def s8_29 (K29 : Int64 → Int32 → Int32 → List Int64 → Option (Int32)) (fuel : Nat) (y1 : Int64) (x3 : Int32) (x6 : Int32) (q_a1 : List Int64) : Option (Int32) := ((rdO q_a1 x6).bind fun v1 => (if v1 = (-9223372036854775808 : Int64) then some x6 else ((rdO q_a1 x6).bind fun v3 => (if v3 = y1 then some x6 else (letO ((x6 + (1 : Int32)) &&& x3) fun v5 => (K29 y1 x3 v5 q_a1))))))
def h8_29 (fuel : Nat) : Nat → Int64 → Int32 → Int32 → List Int64 → Option (Int32)
  | 0 => fun _ _ _ _ => none
  | n + 1 => fun y1 x3 x6 q_a1 => s8_29 (h8_29 fuel n) fuel y1 x3 x6 q_a1
def g8_29 (fuel : Nat) (y1 : Int64) (x3 : Int32) (x6 : Int32) (q_a1 : List Int64) : Option (Int32) := h8_29 fuel fuel y1 x3 x6 q_a1
set_option maxRecDepth 65536 in
set_option maxHeartbeats 4000000 in
theorem t8_29 {hE : Heap} {a1 : Addr} {q_a1 : List Int64} (fuel : Nat) {r : Int32} (C : Ctx p s m meth c Z a0 "com/example/mopor/mopor/reduction/LongIntTable" prog_19_method_5_code 7 (some .int) "slotOf") (K29 : Int64 → Int32 → Int32 → List Int64 → Option (Int32)) (hK29 : ∀ {T0 : State} {locs : List Loc} {cells slots : Nat} (X0 : Stand p l e ({ frames := 0, cells := 0, slots := 0, locals := 0 } : Room) s m args below meth c T0 locs cells slots) (e0 : T0.heap = hE) (N0 : Fr n0 locs) (hk : cells ≤ 0) (hn : slots ≤ 0) (Z1 : n0 ≤ hE.size) (o0 : n0 ≤ a1) (y1 : Int64) (x3 : Int32) (y4 : Int64) (x6 : Int32) (A_a1_0 : AJ Z hE a1 .long q_a1), K29 y1 x3 x6 q_a1 = some r → Runs p e below s (P8 Z hE a1 q_a1 n0 r) 0 0 T0 (mkF m 29 #[.val (.ref a1), .val (.long y1), .second, .val (.int x3), .val (.long y4), .second, .val (.int x6)] [])) (X0 : Stand p l e ({ frames := 0, cells := 0, slots := 0, locals := 0 } : Room) s m args below meth c T0 locs cells slots) (e0 : T0.heap = hE) (N0 : Fr n0 locs) (hk : cells ≤ 0) (hn : slots ≤ 0) (Z1 : n0 ≤ hE.size) (o0 : n0 ≤ a1) (y1 : Int64) (x3 : Int32) (y4 : Int64) (x6 : Int32) (A_a1_0 : AJ Z hE a1 .long q_a1) (hr : s8_29 K29 fuel y1 x3 x6 q_a1 = some r) :
    Runs p e below s (P8 Z hE a1 q_a1 n0 r) 0 0 T0 (mkF m 29 #[.val (.ref a1), .val (.long y1), .second, .val (.int x3), .val (.long y4), .second, .val (.int x6)] []) := by
  unfold s8_29 at hr
  have ⟨hx, hZ, hw, hby, hml, hown, hret, hlk, hnm⟩ := C
  refine Runs.via (T' := T0) (g' := (mkF m 32 #[.val (.ref a1), .val (.long y1), .second, .val (.int x3), .val (.long y4), .second, .val (.int x6)] [(.int x6), (.ref a1)])) (fun t k => ?_) ?_
  · show Steps p.tables e below (T0.setTop (mkF m 29 #[.val (.ref a1), .val (.long y1), .second, .val (.int x3), .val (.long y4), .second, .val (.int x6)] [])) t
    refine XS.aloadN X0.here hx rfl (hb hby d8_29) rfl rfl ?_
    show Steps p.tables e below (T0.setTop (mkF m 30 #[.val (.ref a1), .val (.long y1), .second, .val (.int x3), .val (.long y4), .second, .val (.int x6)] [(.ref a1)])) t
    refine XS.iload X0.here hx rfl (hb hby d8_30) rfl ?_
    exact k
  refine bindE hr ?_; intro v1 hv1 hr
  refine Runs.via (T' := T0) (g' := (mkF m 33 #[.val (.ref a1), .val (.long y1), .second, .val (.int x3), .val (.long y4), .second, .val (.int x6)] [(.long v1)])) (fun t k => ldJ X0 hx hZ e0 A_a1_0 hv1 (g := (mkF m 32 #[.val (.ref a1), .val (.long y1), .second, .val (.int x3), .val (.long y4), .second, .val (.int x6)] [(.int x6), (.ref a1)])) rfl rfl (hb hby d8_32) _ k) ?_
  refine Runs.via (T' := T0) (g' := (mkF m 37 #[.val (.ref a1), .val (.long y1), .second, .val (.int x3), .val (.long y4), .second, .val (.int x6)] [(.int (lcmpW v1 (-9223372036854775808 : Int64)))])) (fun t k => ?_) ?_
  · show Steps p.tables e below (T0.setTop (mkF m 33 #[.val (.ref a1), .val (.long y1), .second, .val (.int x3), .val (.long y4), .second, .val (.int x6)] [(.long v1)])) t
    refine X0.ldc2Long hx hown (mvT hZ (hw _ (List.mem_of_getElem? (i := 20) rfl))) (g := (mkF m 33 #[.val (.ref a1), .val (.long y1), .second, .val (.int x3), .val (.long y4), .second, .val (.int x6)] [(.long v1)])) rfl (hb hby d8_33) _ ?_
    show Steps p.tables e below (T0.setTop (mkF m 36 #[.val (.ref a1), .val (.long y1), .second, .val (.int x3), .val (.long y4), .second, .val (.int x6)] [(.long (-9223372036854775808 : Int64)), (.long v1)])) t
    refine XS.lcmp X0.here hx rfl (hb hby d8_36) rfl ?_
    exact k
  refine iteE hr (fun hc2 hr => ?_) (fun hc2 hr => ?_)
  · refine Runs.via (T' := T0) (g' := (mkF m 60 #[.val (.ref a1), .val (.long y1), .second, .val (.int x3), .val (.long y4), .second, .val (.int x6)] [])) (fun t k => ?_) ?_
    · show Steps p.tables e below (T0.setTop (mkF m 37 #[.val (.ref a1), .val (.long y1), .second, .val (.int x3), .val (.long y4), .second, .val (.int x6)] [(.int (lcmpW v1 (-9223372036854775808 : Int64)))])) t
      exact XS.ifYes X0.here hx rfl (pc0 := 37) (pc' := 60) rfl (hb hby d8_37) rfl ((if0 _ _).trans (teq ((lw_eq _ _).mpr hc2)).1) (by decide) (by decide) k
    refine Runs.via (T' := T0) (g' := (mkF m 62 #[.val (.ref a1), .val (.long y1), .second, .val (.int x3), .val (.long y4), .second, .val (.int x6)] [(.int x6)])) (fun t k => ?_) ?_
    · show Steps p.tables e below (T0.setTop (mkF m 60 #[.val (.ref a1), .val (.long y1), .second, .val (.int x3), .val (.long y4), .second, .val (.int x6)] [])) t
      refine XS.iload X0.here hx rfl (hb hby d8_60) rfl ?_
      exact k
    obtain rfl := Option.some.inj hr
    exact own_retI X0 hx hlk hret (hb hby d8_62) (by show cells ≤ 0; omega) (by show slots ≤ 0; omega) ⟨rfl, N0, e0⟩
  · refine Runs.via (T' := T0) (g' := (mkF m 40 #[.val (.ref a1), .val (.long y1), .second, .val (.int x3), .val (.long y4), .second, .val (.int x6)] [])) (fun t k => ?_) ?_
    · show Steps p.tables e below (T0.setTop (mkF m 37 #[.val (.ref a1), .val (.long y1), .second, .val (.int x3), .val (.long y4), .second, .val (.int x6)] [(.int (lcmpW v1 (-9223372036854775808 : Int64)))])) t
      exact XS.ifNo X0.here hx rfl (hb hby d8_37) rfl ((if0 _ _).trans (feq (fun q => hc2 ((lw_eq _ _).mp q))).1) k
    refine Runs.via (T' := T0) (g' := (mkF m 43 #[.val (.ref a1), .val (.long y1), .second, .val (.int x3), .val (.long y4), .second, .val (.int x6)] [(.int x6), (.ref a1)])) (fun t k => ?_) ?_
    · show Steps p.tables e below (T0.setTop (mkF m 40 #[.val (.ref a1), .val (.long y1), .second, .val (.int x3), .val (.long y4), .second, .val (.int x6)] [])) t
      refine XS.aloadN X0.here hx rfl (hb hby d8_40) rfl rfl ?_
      show Steps p.tables e below (T0.setTop (mkF m 41 #[.val (.ref a1), .val (.long y1), .second, .val (.int x3), .val (.long y4), .second, .val (.int x6)] [(.ref a1)])) t
      refine XS.iload X0.here hx rfl (hb hby d8_41) rfl ?_
      exact k
    refine bindE hr ?_; intro v3 hv3 hr
    refine Runs.via (T' := T0) (g' := (mkF m 44 #[.val (.ref a1), .val (.long y1), .second, .val (.int x3), .val (.long y4), .second, .val (.int x6)] [(.long v3)])) (fun t k => ldJ X0 hx hZ e0 A_a1_0 hv3 (g := (mkF m 43 #[.val (.ref a1), .val (.long y1), .second, .val (.int x3), .val (.long y4), .second, .val (.int x6)] [(.int x6), (.ref a1)])) rfl rfl (hb hby d8_43) _ k) ?_
    refine Runs.via (T' := T0) (g' := (mkF m 46 #[.val (.ref a1), .val (.long y1), .second, .val (.int x3), .val (.long y4), .second, .val (.int x6)] [(.int (lcmpW v3 y1))])) (fun t k => ?_) ?_
    · show Steps p.tables e below (T0.setTop (mkF m 44 #[.val (.ref a1), .val (.long y1), .second, .val (.int x3), .val (.long y4), .second, .val (.int x6)] [(.long v3)])) t
      refine XS.lloadN X0.here hx rfl (hb hby d8_44) rfl ?_
      show Steps p.tables e below (T0.setTop (mkF m 45 #[.val (.ref a1), .val (.long y1), .second, .val (.int x3), .val (.long y4), .second, .val (.int x6)] [(.long y1), (.long v3)])) t
      refine XS.lcmp X0.here hx rfl (hb hby d8_45) rfl ?_
      exact k
    refine iteE hr (fun hc4 hr => ?_) (fun hc4 hr => ?_)
    · refine Runs.via (T' := T0) (g' := (mkF m 60 #[.val (.ref a1), .val (.long y1), .second, .val (.int x3), .val (.long y4), .second, .val (.int x6)] [])) (fun t k => ?_) ?_
      · show Steps p.tables e below (T0.setTop (mkF m 46 #[.val (.ref a1), .val (.long y1), .second, .val (.int x3), .val (.long y4), .second, .val (.int x6)] [(.int (lcmpW v3 y1))])) t
        exact XS.ifYes X0.here hx rfl (pc0 := 46) (pc' := 60) rfl (hb hby d8_46) rfl ((if0 _ _).trans (teq ((lw_eq _ _).mpr hc4)).1) (by decide) (by decide) k
      refine Runs.via (T' := T0) (g' := (mkF m 62 #[.val (.ref a1), .val (.long y1), .second, .val (.int x3), .val (.long y4), .second, .val (.int x6)] [(.int x6)])) (fun t k => ?_) ?_
      · show Steps p.tables e below (T0.setTop (mkF m 60 #[.val (.ref a1), .val (.long y1), .second, .val (.int x3), .val (.long y4), .second, .val (.int x6)] [])) t
        refine XS.iload X0.here hx rfl (hb hby d8_60) rfl ?_
        exact k
      obtain rfl := Option.some.inj hr
      exact own_retI X0 hx hlk hret (hb hby d8_62) (by show cells ≤ 0; omega) (by show slots ≤ 0; omega) ⟨rfl, N0, e0⟩
    · refine Runs.via (T' := T0) (g' := (mkF m 49 #[.val (.ref a1), .val (.long y1), .second, .val (.int x3), .val (.long y4), .second, .val (.int x6)] [])) (fun t k => ?_) ?_
      · show Steps p.tables e below (T0.setTop (mkF m 46 #[.val (.ref a1), .val (.long y1), .second, .val (.int x3), .val (.long y4), .second, .val (.int x6)] [(.int (lcmpW v3 y1))])) t
        exact XS.ifNo X0.here hx rfl (hb hby d8_46) rfl ((if0 _ _).trans (feq (fun q => hc4 ((lw_eq _ _).mp q))).1) k
      refine Runs.via (T' := T0) (g' := (mkF m 55 #[.val (.ref a1), .val (.long y1), .second, .val (.int x3), .val (.long y4), .second, .val (.int x6)] [(.int ((x6 + (1 : Int32)) &&& x3))])) (fun t k => ?_) ?_
      · show Steps p.tables e below (T0.setTop (mkF m 49 #[.val (.ref a1), .val (.long y1), .second, .val (.int x3), .val (.long y4), .second, .val (.int x6)] [])) t
        refine XS.iload X0.here hx rfl (hb hby d8_49) rfl ?_
        show Steps p.tables e below (T0.setTop (mkF m 51 #[.val (.ref a1), .val (.long y1), .second, .val (.int x3), .val (.long y4), .second, .val (.int x6)] [(.int x6)])) t
        refine XS.iconst X0.here hx rfl (hb hby d8_51) ?_
        show Steps p.tables e below (T0.setTop (mkF m 52 #[.val (.ref a1), .val (.long y1), .second, .val (.int x3), .val (.long y4), .second, .val (.int x6)] [(.int (1 : Int32)), (.int x6)])) t
        refine XS.iadd X0.here hx rfl (hb hby d8_52) rfl ?_
        show Steps p.tables e below (T0.setTop (mkF m 53 #[.val (.ref a1), .val (.long y1), .second, .val (.int x3), .val (.long y4), .second, .val (.int x6)] [(.int (x6 + (1 : Int32)))])) t
        refine XS.iloadN X0.here hx rfl (hb hby d8_53) rfl ?_
        show Steps p.tables e below (T0.setTop (mkF m 54 #[.val (.ref a1), .val (.long y1), .second, .val (.int x3), .val (.long y4), .second, .val (.int x6)] [(.int x3), (.int (x6 + (1 : Int32)))])) t
        refine XS.iand X0.here hx rfl (hb hby d8_54) rfl ?_
        exact k
      refine letE hr ?_; intro v5 hv5 hr
      rw [← hv5]
      refine Runs.via (T' := T0) (g' := (mkF m 29 #[.val (.ref a1), .val (.long y1), .second, .val (.int x3), .val (.long y4), .second, .val (.int v5)] [])) (fun t k => ?_) ?_
      · show Steps p.tables e below (T0.setTop (mkF m 55 #[.val (.ref a1), .val (.long y1), .second, .val (.int x3), .val (.long y4), .second, .val (.int x6)] [(.int v5)])) t
        refine XS.istore X0.here hx rfl (hb hby d8_55) rfl (l' := #[.val (.ref a1), .val (.long y1), .second, .val (.int x3), .val (.long y4), .second, .val (.int v5)]) rfl ?_
        show Steps p.tables e below (T0.setTop (mkF m 57 #[.val (.ref a1), .val (.long y1), .second, .val (.int x3), .val (.long y4), .second, .val (.int v5)] [])) t
        refine XS.goto X0.here hx rfl (pc0 := 57) (pc' := 29) rfl (hb hby d8_57) (by decide) (by decide) ?_
        exact k
      exact hK29 X0 e0 N0 (by show cells ≤ 0; omega) (by show slots ≤ 0; omega) Z1 (by omega) y1 x3 y4 v5 A_a1_0 hr
set_option maxRecDepth 65536 in
set_option maxHeartbeats 4000000 in
theorem u8_29 {hE : Heap} {a1 : Addr} {q_a1 : List Int64} (fuel : Nat) {r : Int32} (C : Ctx p s m meth c Z a0 "com/example/mopor/mopor/reduction/LongIntTable" prog_19_method_5_code 7 (some .int) "slotOf") : ∀ n : Nat, ∀ {T0 : State} {locs : List Loc} {cells slots : Nat} (X0 : Stand p l e ({ frames := 0, cells := 0, slots := 0, locals := 0 } : Room) s m args below meth c T0 locs cells slots) (e0 : T0.heap = hE) (N0 : Fr n0 locs) (hk : cells ≤ 0) (hn : slots ≤ 0) (Z1 : n0 ≤ hE.size) (o0 : n0 ≤ a1) (y1 : Int64) (x3 : Int32) (y4 : Int64) (x6 : Int32) (A_a1_0 : AJ Z hE a1 .long q_a1), h8_29 fuel n y1 x3 x6 q_a1 = some r → Runs p e below s (P8 Z hE a1 q_a1 n0 r) 0 0 T0 (mkF m 29 #[.val (.ref a1), .val (.long y1), .second, .val (.int x3), .val (.long y4), .second, .val (.int x6)] []) := by
  intro n
  induction n with
  | zero => intros; rename_i hr; exact absurd hr (by simp [h8_29])
  | succ n ih =>
    intro T0 locs cells slots X0 e0 N0 hk hn Z1 o0 y1 x3 y4 x6 A_a1_0 hr
    exact t8_29 fuel C _ ih X0 e0 N0 hk hn Z1 o0 y1 x3 y4 x6 A_a1_0 hr
set_option maxRecDepth 65536 in
set_option maxHeartbeats 4000000 in
theorem b8_29 {hE : Heap} {a1 : Addr} {q_a1 : List Int64} {r : Int32} (C : Ctx p s m meth c Z a0 "com/example/mopor/mopor/reduction/LongIntTable" prog_19_method_5_code 7 (some .int) "slotOf") (fuel : Nat) (X0 : Stand p l e ({ frames := 0, cells := 0, slots := 0, locals := 0 } : Room) s m args below meth c T0 locs cells slots) (e0 : T0.heap = hE) (N0 : Fr n0 locs) (hk : cells ≤ 0) (hn : slots ≤ 0) (Z1 : n0 ≤ hE.size) (o0 : n0 ≤ a1) (y1 : Int64) (x3 : Int32) (y4 : Int64) (x6 : Int32) (A_a1_0 : AJ Z hE a1 .long q_a1) (hr : g8_29 fuel y1 x3 x6 q_a1 = some r) :
    Runs p e below s (P8 Z hE a1 q_a1 n0 r) 0 0 T0 (mkF m 29 #[.val (.ref a1), .val (.long y1), .second, .val (.int x3), .val (.long y4), .second, .val (.int x6)] []) := u8_29 fuel C fuel X0 e0 N0 hk hn Z1 o0 y1 x3 y4 x6 A_a1_0 hr
def g8_0 (fuel : Nat) (y1 : Int64) (q_a1 : List Int64) : Option (Int32) := (letO ((lenO q_a1) - (1 : Int32)) fun v1 => (letO (y1 * (-7046029254386353131 : Int64)) fun v2 => (letO (v2 ^^^ ((v2.toUInt64 >>> ((29 : Int32) &&& 0x3f).toInt64.toUInt64).toInt64)) fun v3 => (letO ((Int64.toInt32 v3) &&& v1) fun v4 => (g8_29 fuel y1 v1 v4 q_a1)))))
set_option maxRecDepth 65536 in
set_option maxHeartbeats 4000000 in
theorem b8_0 {hE : Heap} {a1 : Addr} {q_a1 : List Int64} {r : Int32} (C : Ctx p s m meth c Z a0 "com/example/mopor/mopor/reduction/LongIntTable" prog_19_method_5_code 7 (some .int) "slotOf") (fuel : Nat) (X0 : Stand p l e ({ frames := 0, cells := 0, slots := 0, locals := 0 } : Room) s m args below meth c T0 locs cells slots) (e0 : T0.heap = hE) (N0 : Fr n0 locs) (hk : cells ≤ 0) (hn : slots ≤ 0) (Z1 : n0 ≤ hE.size) (o0 : n0 ≤ a1) (y1 : Int64) (A_a1_0 : AJ Z hE a1 .long q_a1) (hr : g8_0 fuel y1 q_a1 = some r) :
    Runs p e below s (P8 Z hE a1 q_a1 n0 r) 0 0 T0 (mkF m 0 #[.val (.ref a1), .val (.long y1), .second, .unset, .unset, .unset, .unset] []) := by
  unfold g8_0 at hr
  have ⟨hx, hZ, hw, hby, hml, hown, hret, hlk, hnm⟩ := C
  refine Runs.via (T' := T0) (g' := (mkF m 4 #[.val (.ref a1), .val (.long y1), .second, .unset, .unset, .unset, .unset] [(.int ((lenO q_a1) - (1 : Int32)))])) (fun t k => ?_) ?_
  · show Steps p.tables e below (T0.setTop (mkF m 0 #[.val (.ref a1), .val (.long y1), .second, .unset, .unset, .unset, .unset] [])) t
    refine XS.aloadN X0.here hx rfl (hb hby d8_0) rfl rfl ?_
    show Steps p.tables e below (T0.setTop (mkF m 1 #[.val (.ref a1), .val (.long y1), .second, .unset, .unset, .unset, .unset] [(.ref a1)])) t
    refine lenAJ X0 hx hZ e0 A_a1_0 rfl (g := (mkF m 1 #[.val (.ref a1), .val (.long y1), .second, .unset, .unset, .unset, .unset] [(.ref a1)])) rfl (hb hby d8_1) _ ?_
    show Steps p.tables e below (T0.setTop (mkF m 2 #[.val (.ref a1), .val (.long y1), .second, .unset, .unset, .unset, .unset] [(.int (lenO q_a1))])) t
    refine XS.iconst X0.here hx rfl (hb hby d8_2) ?_
    show Steps p.tables e below (T0.setTop (mkF m 3 #[.val (.ref a1), .val (.long y1), .second, .unset, .unset, .unset, .unset] [(.int (1 : Int32)), (.int (lenO q_a1))])) t
    refine XS.isub X0.here hx rfl (hb hby d8_3) rfl ?_
    exact k
  refine letE hr ?_; intro v1 hv1 hr
  rw [← hv1]
  refine Runs.via (T' := T0) (g' := (mkF m 10 #[.val (.ref a1), .val (.long y1), .second, .val (.int v1), .unset, .unset, .unset] [(.long (y1 * (-7046029254386353131 : Int64)))])) (fun t k => ?_) ?_
  · show Steps p.tables e below (T0.setTop (mkF m 4 #[.val (.ref a1), .val (.long y1), .second, .unset, .unset, .unset, .unset] [(.int v1)])) t
    refine XS.istoreN X0.here hx rfl (hb hby d8_4) rfl (l' := #[.val (.ref a1), .val (.long y1), .second, .val (.int v1), .unset, .unset, .unset]) rfl ?_
    show Steps p.tables e below (T0.setTop (mkF m 5 #[.val (.ref a1), .val (.long y1), .second, .val (.int v1), .unset, .unset, .unset] [])) t
    refine XS.lloadN X0.here hx rfl (hb hby d8_5) rfl ?_
    show Steps p.tables e below (T0.setTop (mkF m 6 #[.val (.ref a1), .val (.long y1), .second, .val (.int v1), .unset, .unset, .unset] [(.long y1)])) t
    refine X0.ldc2Long hx hown (mvT hZ (hw _ (List.mem_of_getElem? (i := 56) rfl))) (g := (mkF m 6 #[.val (.ref a1), .val (.long y1), .second, .val (.int v1), .unset, .unset, .unset] [(.long y1)])) rfl (hb hby d8_6) _ ?_
    show Steps p.tables e below (T0.setTop (mkF m 9 #[.val (.ref a1), .val (.long y1), .second, .val (.int v1), .unset, .unset, .unset] [(.long (-7046029254386353131 : Int64)), (.long y1)])) t
    refine XS.lmul X0.here hx rfl (hb hby d8_9) rfl ?_
    exact k
  refine letE hr ?_; intro v2 hv2 hr
  rw [← hv2]
  refine Runs.via (T' := T0) (g' := (mkF m 20 #[.val (.ref a1), .val (.long y1), .second, .val (.int v1), .val (.long v2), .second, .unset] [(.long (v2 ^^^ ((v2.toUInt64 >>> ((29 : Int32) &&& 0x3f).toInt64.toUInt64).toInt64)))])) (fun t k => ?_) ?_
  · show Steps p.tables e below (T0.setTop (mkF m 10 #[.val (.ref a1), .val (.long y1), .second, .val (.int v1), .unset, .unset, .unset] [(.long v2)])) t
    refine XS.lstore X0.here hx rfl (hb hby d8_10) rfl (l' := #[.val (.ref a1), .val (.long y1), .second, .val (.int v1), .val (.long v2), .second, .unset]) rfl ?_
    show Steps p.tables e below (T0.setTop (mkF m 12 #[.val (.ref a1), .val (.long y1), .second, .val (.int v1), .val (.long v2), .second, .unset] [])) t
    refine XS.lload X0.here hx rfl (hb hby d8_12) rfl ?_
    show Steps p.tables e below (T0.setTop (mkF m 14 #[.val (.ref a1), .val (.long y1), .second, .val (.int v1), .val (.long v2), .second, .unset] [(.long v2)])) t
    refine XS.lload X0.here hx rfl (hb hby d8_14) rfl ?_
    show Steps p.tables e below (T0.setTop (mkF m 16 #[.val (.ref a1), .val (.long y1), .second, .val (.int v1), .val (.long v2), .second, .unset] [(.long v2), (.long v2)])) t
    refine XS.bipush X0.here hx rfl (hb hby d8_16) ?_
    show Steps p.tables e below (T0.setTop (mkF m 18 #[.val (.ref a1), .val (.long y1), .second, .val (.int v1), .val (.long v2), .second, .unset] [(.int (29 : Int32)), (.long v2), (.long v2)])) t
    refine XS.lushr X0.here hx rfl (hb hby d8_18) rfl ?_
    show Steps p.tables e below (T0.setTop (mkF m 19 #[.val (.ref a1), .val (.long y1), .second, .val (.int v1), .val (.long v2), .second, .unset] [(.long ((v2.toUInt64 >>> ((29 : Int32) &&& 0x3f).toInt64.toUInt64).toInt64)), (.long v2)])) t
    refine XS.lxor X0.here hx rfl (hb hby d8_19) rfl ?_
    exact k
  refine letE hr ?_; intro v3 hv3 hr
  rw [← hv3]
  refine Runs.via (T' := T0) (g' := (mkF m 27 #[.val (.ref a1), .val (.long y1), .second, .val (.int v1), .val (.long v3), .second, .unset] [(.int ((Int64.toInt32 v3) &&& v1))])) (fun t k => ?_) ?_
  · show Steps p.tables e below (T0.setTop (mkF m 20 #[.val (.ref a1), .val (.long y1), .second, .val (.int v1), .val (.long v2), .second, .unset] [(.long v3)])) t
    refine XS.lstore X0.here hx rfl (hb hby d8_20) rfl (l' := #[.val (.ref a1), .val (.long y1), .second, .val (.int v1), .val (.long v3), .second, .unset]) rfl ?_
    show Steps p.tables e below (T0.setTop (mkF m 22 #[.val (.ref a1), .val (.long y1), .second, .val (.int v1), .val (.long v3), .second, .unset] [])) t
    refine XS.lload X0.here hx rfl (hb hby d8_22) rfl ?_
    show Steps p.tables e below (T0.setTop (mkF m 24 #[.val (.ref a1), .val (.long y1), .second, .val (.int v1), .val (.long v3), .second, .unset] [(.long v3)])) t
    refine XS.l2i X0.here hx rfl (hb hby d8_24) rfl ?_
    show Steps p.tables e below (T0.setTop (mkF m 25 #[.val (.ref a1), .val (.long y1), .second, .val (.int v1), .val (.long v3), .second, .unset] [(.int (Int64.toInt32 v3))])) t
    refine XS.iloadN X0.here hx rfl (hb hby d8_25) rfl ?_
    show Steps p.tables e below (T0.setTop (mkF m 26 #[.val (.ref a1), .val (.long y1), .second, .val (.int v1), .val (.long v3), .second, .unset] [(.int v1), (.int (Int64.toInt32 v3))])) t
    refine XS.iand X0.here hx rfl (hb hby d8_26) rfl ?_
    exact k
  refine letE hr ?_; intro v4 hv4 hr
  rw [← hv4]
  refine Runs.via (T' := T0) (g' := (mkF m 29 #[.val (.ref a1), .val (.long y1), .second, .val (.int v1), .val (.long v3), .second, .val (.int v4)] [])) (fun t k => ?_) ?_
  · show Steps p.tables e below (T0.setTop (mkF m 27 #[.val (.ref a1), .val (.long y1), .second, .val (.int v1), .val (.long v3), .second, .unset] [(.int v4)])) t
    refine XS.istore X0.here hx rfl (hb hby d8_27) rfl (l' := #[.val (.ref a1), .val (.long y1), .second, .val (.int v1), .val (.long v3), .second, .val (.int v4)]) rfl ?_
    exact k
  exact b8_29 C fuel X0 e0 N0 (by show cells ≤ 0; omega) (by show slots ≤ 0; omega) Z1 (by omega) y1 v1 v3 v4 A_a1_0 hr
def f8 (fuel : Nat) (y1 : Int64) (q_a1 : List Int64) : Option (Int32) := g8_0 fuel y1 q_a1
theorem pn_8 : plainName "com/example/mopor/mopor/reduction/LongIntTable" = true := by first | (simp [plainName, overriddenIn]; done) | decide +kernel
theorem ef_8 (m : MethodId) (y1 : Int64) (a1 : Addr) : entryFrame m #[(.ref a1), (.long y1)] 7 = mkF m 0 #[.val (.ref a1), .val (.long y1), .second, .unset, .unset, .unset, .unset] [] := by first | (simp [entryFrame, mkF, argsToLocals, Value.category]; done) | rfl
set_option maxRecDepth 65536 in
set_option maxHeartbeats 4000000 in
theorem rm8 (l : Launch) (Z : State) (a0 : Array Value) (hw : ∀ d ∈ tables_1, d.before a0 Z = true) (ws : List Jvm.Cond) (y1 : Int64) (a1 : Addr) (q_a1 : List Int64) (hE : Heap) (n0 : Nat) (Z0 : n0 ≤ hE.size) (o0 : n0 ≤ a1) (A_a1_0 : AJ Z hE a1 .long q_a1) (fuel : Nat) (r : Int32) (hr : f8 fuel y1 q_a1 = some r) :
    MetFree l (⟨"com/example/mopor/mopor/reduction/LongIntTable", "slotOf", "([JJ)I"⟩ : MethodName) (head1 (Jvm.Cond.code (⟨"com/example/mopor/mopor/reduction/LongIntTable", "slotOf", "([JJ)I"⟩ : MethodName) prog_19_method_5_code 7 (some .int) :: ws) ({ frames := 0, cells := 0, slots := 0, locals := 0 } : Room)) (fun a U => a = #[(.ref a1), (.long y1)] ∧ Z.Warmed39 U.vm ∧ U.heap = hE) (fun _ _ _ _ _ => True) (fun _ U o U' => ∃ v L, o = .returned v ∧ (P8 Z hE a1 q_a1 n0 r v U'.heap L) ∧ FrameEnd U o U' L ({ frames := 0, cells := 0, slots := 0, locals := 0 } : Room).cells ({ frames := 0, cells := 0, slots := 0, locals := 0 } : Room).slots) := by
  refine MetFree.of_bodySF (plainFor_of_name pn_8) hisR ?_
  intro p e s m args below meth c s₁ Bd hml0 hP hK
  obtain ⟨rfl, hZ, hh⟩ := hP
  have X0 : Stand p l e ({ frames := 0, cells := 0, slots := 0, locals := 0 } : Room) s m #[(.ref a1), (.long y1)] below meth c s₁ [] 0 0 := Stand.of_body Bd
  have e0 : s₁.heap = hE := by rw [← hh, Bd.state]; rfl
  have C : Ctx p s m meth c Z a0 "com/example/mopor/mopor/reduction/LongIntTable" prog_19_method_5_code 7 (some .int) "slotOf" := ⟨Bd.exec, hZ, hw, Bd.bytes, hml0, findClass_of_methodNamed Bd.named, Bd.returns, BodyLoose.notSynchronized Bd, (name_of_methodNamed Bd.named Bd.method).1⟩
  refine Runs.via (fun t k => castTop (ef_8 m y1 a1) k) (b8_0 C fuel X0 e0 (Fr.nil n0) (by show 0 ≤ 0; omega) (by show 0 ≤ 0; omega) Z0 (by omega) y1 A_a1_0 hr)
theorem pd_4 : parseMethodDescriptor "([JJ)I" = some ⟨[(.array .long), .long], some .int⟩ := by decide +kernel
theorem d7_0 : decode prog_19_method_2_code 0 = .ok (.aload_n 0, 1) := by decide +kernel
theorem d7_1 : decode prog_19_method_2_code 1 = .ok (.getfield 15, 3) := by decide +kernel
theorem d7_4 : decode prog_19_method_2_code 4 = .ok (.lload_n 1, 1) := by decide +kernel
theorem d7_5 : decode prog_19_method_2_code 5 = .ok (.invokestatic 23, 3) := by decide +kernel
theorem d7_8 : decode prog_19_method_2_code 8 = .ok (.istore_n 3, 1) := by decide +kernel
theorem d7_9 : decode prog_19_method_2_code 9 = .ok (.aload_n 0, 1) := by decide +kernel
theorem d7_10 : decode prog_19_method_2_code 10 = .ok (.getfield 15, 3) := by decide +kernel
theorem d7_13 : decode prog_19_method_2_code 13 = .ok (.iload_n 3, 1) := by decide +kernel
theorem d7_14 : decode prog_19_method_2_code 14 = .ok (.laload, 1) := by decide +kernel
theorem d7_15 : decode prog_19_method_2_code 15 = .ok (.ldc2_w 27, 3) := by decide +kernel
theorem d7_18 : decode prog_19_method_2_code 18 = .ok (.lcmp, 1) := by decide +kernel
theorem d7_19 : decode prog_19_method_2_code 19 = .ok (.ifCond .ne 7, 3) := by decide +kernel
theorem d7_22 : decode prog_19_method_2_code 22 = .ok (.iconst (-1), 1) := by decide +kernel
theorem d7_23 : decode prog_19_method_2_code 23 = .ok (.goto 9, 3) := by decide +kernel
theorem d7_26 : decode prog_19_method_2_code 26 = .ok (.aload_n 0, 1) := by decide +kernel
theorem d7_27 : decode prog_19_method_2_code 27 = .ok (.getfield 19, 3) := by decide +kernel
theorem d7_30 : decode prog_19_method_2_code 30 = .ok (.iload_n 3, 1) := by decide +kernel
theorem d7_31 : decode prog_19_method_2_code 31 = .ok (.iaload, 1) := by decide +kernel
theorem d7_32 : decode prog_19_method_2_code 32 = .ok (.ireturn, 1) := by decide +kernel
def P7 (Z : State) (hE : Heap) (a1 : Addr) (a2 : Addr) (a3 : Addr) (q_a1_size : Int32) (q_a2 : List Int64) (q_a3 : List Int32) (n0 : Nat) (r : Int32) (v : Option Value) (h : Heap) (L : List Loc) : Prop := v = some (.int r) ∧ Fr n0 L ∧ h = hE
def g7_0 (fuel : Nat) (y1 : Int64) (q_a1_size : Int32) (q_a2 : List Int64) (q_a3 : List Int32) : Option (Int32) := ((f8 fuel y1 q_a2).bind fun r2 => ((rdO q_a2 r2).bind fun v4 => (if v4 = (-9223372036854775808 : Int64) then some (-1 : Int32) else ((rdO q_a3 r2).bind fun v7 => some v7))))
set_option maxRecDepth 65536 in
set_option maxHeartbeats 4000000 in
theorem b7_0 {hE : Heap} {a1 : Addr} {a2 : Addr} {a3 : Addr} {q_a1_size : Int32} {q_a2 : List Int64} {q_a3 : List Int32} {r : Int32} (C : Ctx p s m meth c Z a0 "com/example/mopor/mopor/reduction/LongIntTable" prog_19_method_2_code 4 (some .int) "get") (fuel : Nat) (X0 : Stand p l e ({ frames := 1, cells := 0, slots := 0, locals := 18 } : Room) s m args below meth c T0 locs cells slots) (e0 : T0.heap = hE) (N0 : Fr n0 locs) (hk : cells ≤ 0) (hn : slots ≤ 0) (Z1 : n0 ≤ hE.size) (o0 : n0 ≤ a1) (o1 : @LT.lt Nat instLTNat a1 a2) (o2 : @LT.lt Nat instLTNat a2 a3) (y1 : Int64) (E_a1_0 : Exa Z hE a1 "com/example/mopor/mopor/reduction/LongIntTable") (F_a1_keys_0 : Fld Z hE a1 "com/example/mopor/mopor/reduction/LongIntTable" "keys" "[J" (.ref a2)) (F_a1_values_0 : Fld Z hE a1 "com/example/mopor/mopor/reduction/LongIntTable" "values" "[I" (.ref a3)) (F_a1_size_0 : Fld Z hE a1 "com/example/mopor/mopor/reduction/LongIntTable" "size" "I" (.int q_a1_size)) (A_a2_0 : AJ Z hE a2 .long q_a2) (A_a3_0 : AI Z hE a3 .int q_a3) (hr : g7_0 fuel y1 q_a1_size q_a2 q_a3 = some r) :
    Runs p e below s (P7 Z hE a1 a2 a3 q_a1_size q_a2 q_a3 n0 r) 0 0 T0 (mkF m 0 #[.val (.ref a1), .val (.long y1), .second, .unset] []) := by
  unfold g7_0 at hr
  have ⟨hx, hZ, hw, hby, hml, hown, hret, hlk, hnm⟩ := C
  refine Runs.via (T' := T0) (g' := (mkF m 1 #[.val (.ref a1), .val (.long y1), .second, .unset] [(.ref a1)])) (fun t k => ?_) ?_
  · show Steps p.tables e below (T0.setTop (mkF m 0 #[.val (.ref a1), .val (.long y1), .second, .unset] [])) t
    refine XS.aloadN X0.here hx rfl (hb hby d7_0) rfl rfl ?_
    exact k
  obtain ⟨T1, X1, e1, st1⟩ := getF X0 hx hZ hown (host := "") (Or.inl (hw _ (List.mem_of_getElem? (i := 25) rfl))) Via.refl e0 F_a1_keys_0 (g := (mkF m 1 #[.val (.ref a1), .val (.long y1), .second, .unset] [(.ref a1)])) rfl rfl (hb hby d7_1)
  refine Runs.via (T' := T1) (g' := (mkF m 4 #[.val (.ref a1), .val (.long y1), .second, .unset] [(.ref a2)])) (fun t k => st1 _ k) ?_
  refine Runs.via (T' := T1) (g' := (mkF m 5 #[.val (.ref a1), .val (.long y1), .second, .unset] [(.long y1), (.ref a2)])) (fun t k => ?_) ?_
  · show Steps p.tables e below (T1.setTop (mkF m 4 #[.val (.ref a1), .val (.long y1), .second, .unset] [(.ref a2)])) t
    refine XS.lloadN X1.here hx rfl (hb hby d7_4) rfl ?_
    exact k
  refine bindE hr ?_; intro r2 hr2m hr
  obtain ⟨_, _, ⟨T2, L2, k2, n2⟩, -, X2, ⟨Lc2, hQ2, l2, y2, z2⟩, st2⟩ := Jvm.LawKit.callS X1 hx (y := (⟨"com/example/mopor/mopor/reduction/LongIntTable", "slotOf", "([JJ)I"⟩ : MethodName)) hown (mvT hZ (hw _ (List.mem_of_getElem? (i := 53) rfl))) (mvT hZ (hw _ (List.mem_of_getElem? (i := 54) rfl))) (mvT hZ (hw _ (List.mem_of_getElem? (i := 11) rfl))) (mvT hZ (hw _ (List.mem_of_getElem? (i := 55) rfl))) (by decide) (backOf (W := 0) (rm8 l Z a0 hw [] y1 a2 q_a2 hE n0 Z1 (by omega) A_a2_0 fuel r2 hr2m) hZ (hw _ (List.mem_of_getElem? (i := 55) rfl)) (hw _ (List.mem_of_getElem? (i := 11) rfl)) (by decide) (by decide)) (g := (mkF m 5 #[.val (.ref a1), .val (.long y1), .second, .unset] [(.long y1), (.ref a2)])) rfl (by rw [hml]; rfl) (argsL := [(.ref a2), (.long y1)]) (rest := []) (lenOf pd_4 rfl) rfl (by show 2 * 0 + _ ≤ _; exact Nat.le_of_eq rfl) (hb hby d7_5) (fun _ _ => ⟨rfl, e1, (by show cells + 0 ≤ 0; omega), (by show slots + 0 ≤ 0; omega)⟩)
  dsimp only [Pt.U, Pt.locs, Pt.cells, Pt.slots] at X2 l2 y2 z2 st2 hQ2
  replace y2 := y2.symm; replace z2 := z2.symm; subst l2 y2 z2
  obtain ⟨rfl, N2q, e2⟩ := hQ2
  have N2 := Fr.app N0 N2q
  refine Runs.via (T' := T2) (g' := (mkF m 8 #[.val (.ref a1), .val (.long y1), .second, .unset] [(.int r2)])) (fun t k => st2 _ k) ?_
  refine Runs.via (T' := T2) (g' := (mkF m 10 #[.val (.ref a1), .val (.long y1), .second, .val (.int r2)] [(.ref a1)])) (fun t k => ?_) ?_
  · show Steps p.tables e below (T2.setTop (mkF m 8 #[.val (.ref a1), .val (.long y1), .second, .unset] [(.int r2)])) t
    refine XS.istoreN X2.here hx rfl (hb hby d7_8) rfl (l' := #[.val (.ref a1), .val (.long y1), .second, .val (.int r2)]) rfl ?_
    show Steps p.tables e below (T2.setTop (mkF m 9 #[.val (.ref a1), .val (.long y1), .second, .val (.int r2)] [])) t
    refine XS.aloadN X2.here hx rfl (hb hby d7_9) rfl rfl ?_
    exact k
  obtain ⟨T3, X3, e3, st3⟩ := getF X2 hx hZ hown (host := "") (Or.inl (hw _ (List.mem_of_getElem? (i := 25) rfl))) Via.refl e2 F_a1_keys_0 (g := (mkF m 10 #[.val (.ref a1), .val (.long y1), .second, .val (.int r2)] [(.ref a1)])) rfl rfl (hb hby d7_10)
  refine Runs.via (T' := T3) (g' := (mkF m 13 #[.val (.ref a1), .val (.long y1), .second, .val (.int r2)] [(.ref a2)])) (fun t k => st3 _ k) ?_
  refine Runs.via (T' := T3) (g' := (mkF m 14 #[.val (.ref a1), .val (.long y1), .second, .val (.int r2)] [(.int r2), (.ref a2)])) (fun t k => ?_) ?_
  · show Steps p.tables e below (T3.setTop (mkF m 13 #[.val (.ref a1), .val (.long y1), .second, .val (.int r2)] [(.ref a2)])) t
    refine XS.iloadN X3.here hx rfl (hb hby d7_13) rfl ?_
    exact k
  refine bindE hr ?_; intro v4 hv4 hr
  refine Runs.via (T' := T3) (g' := (mkF m 15 #[.val (.ref a1), .val (.long y1), .second, .val (.int r2)] [(.long v4)])) (fun t k => ldJ X3 hx hZ e3 A_a2_0 hv4 (g := (mkF m 14 #[.val (.ref a1), .val (.long y1), .second, .val (.int r2)] [(.int r2), (.ref a2)])) rfl rfl (hb hby d7_14) _ k) ?_
  refine Runs.via (T' := T3) (g' := (mkF m 19 #[.val (.ref a1), .val (.long y1), .second, .val (.int r2)] [(.int (lcmpW v4 (-9223372036854775808 : Int64)))])) (fun t k => ?_) ?_
  · show Steps p.tables e below (T3.setTop (mkF m 15 #[.val (.ref a1), .val (.long y1), .second, .val (.int r2)] [(.long v4)])) t
    refine X3.ldc2Long hx hown (mvT hZ (hw _ (List.mem_of_getElem? (i := 20) rfl))) (g := (mkF m 15 #[.val (.ref a1), .val (.long y1), .second, .val (.int r2)] [(.long v4)])) rfl (hb hby d7_15) _ ?_
    show Steps p.tables e below (T3.setTop (mkF m 18 #[.val (.ref a1), .val (.long y1), .second, .val (.int r2)] [(.long (-9223372036854775808 : Int64)), (.long v4)])) t
    refine XS.lcmp X3.here hx rfl (hb hby d7_18) rfl ?_
    exact k
  refine iteE hr (fun hc5 hr => ?_) (fun hc5 hr => ?_)
  · refine Runs.via (T' := T3) (g' := (mkF m 22 #[.val (.ref a1), .val (.long y1), .second, .val (.int r2)] [])) (fun t k => ?_) ?_
    · show Steps p.tables e below (T3.setTop (mkF m 19 #[.val (.ref a1), .val (.long y1), .second, .val (.int r2)] [(.int (lcmpW v4 (-9223372036854775808 : Int64)))])) t
      exact XS.ifNo X3.here hx rfl (hb hby d7_19) rfl ((if0 _ _).trans (teq ((lw_eq _ _).mpr hc5)).2) k
    refine Runs.via (T' := T3) (g' := (mkF m 32 #[.val (.ref a1), .val (.long y1), .second, .val (.int r2)] [(.int (-1 : Int32))])) (fun t k => ?_) ?_
    · show Steps p.tables e below (T3.setTop (mkF m 22 #[.val (.ref a1), .val (.long y1), .second, .val (.int r2)] [])) t
      refine XS.iconst X3.here hx rfl (hb hby d7_22) ?_
      show Steps p.tables e below (T3.setTop (mkF m 23 #[.val (.ref a1), .val (.long y1), .second, .val (.int r2)] [(.int (-1 : Int32))])) t
      refine XS.goto X3.here hx rfl (pc0 := 23) (pc' := 32) rfl (hb hby d7_23) (by decide) (by decide) ?_
      exact k
    obtain rfl := Option.some.inj hr
    exact own_retI X3 hx hlk hret (hb hby d7_32) (by show (cells + 0) ≤ 0; omega) (by show (slots + 0) ≤ 0; omega) ⟨rfl, N2, e3⟩
  · refine Runs.via (T' := T3) (g' := (mkF m 26 #[.val (.ref a1), .val (.long y1), .second, .val (.int r2)] [])) (fun t k => ?_) ?_
    · show Steps p.tables e below (T3.setTop (mkF m 19 #[.val (.ref a1), .val (.long y1), .second, .val (.int r2)] [(.int (lcmpW v4 (-9223372036854775808 : Int64)))])) t
      exact XS.ifYes X3.here hx rfl (pc0 := 19) (pc' := 26) rfl (hb hby d7_19) rfl ((if0 _ _).trans (feq (fun q => hc5 ((lw_eq _ _).mp q))).2) (by decide) (by decide) k
    refine Runs.via (T' := T3) (g' := (mkF m 27 #[.val (.ref a1), .val (.long y1), .second, .val (.int r2)] [(.ref a1)])) (fun t k => ?_) ?_
    · show Steps p.tables e below (T3.setTop (mkF m 26 #[.val (.ref a1), .val (.long y1), .second, .val (.int r2)] [])) t
      refine XS.aloadN X3.here hx rfl (hb hby d7_26) rfl rfl ?_
      exact k
    obtain ⟨T6, X6, e6, st6⟩ := getF X3 hx hZ hown (host := "") (Or.inl (hw _ (List.mem_of_getElem? (i := 28) rfl))) Via.refl e3 F_a1_values_0 (g := (mkF m 27 #[.val (.ref a1), .val (.long y1), .second, .val (.int r2)] [(.ref a1)])) rfl rfl (hb hby d7_27)
    refine Runs.via (T' := T6) (g' := (mkF m 30 #[.val (.ref a1), .val (.long y1), .second, .val (.int r2)] [(.ref a3)])) (fun t k => st6 _ k) ?_
    refine Runs.via (T' := T6) (g' := (mkF m 31 #[.val (.ref a1), .val (.long y1), .second, .val (.int r2)] [(.int r2), (.ref a3)])) (fun t k => ?_) ?_
    · show Steps p.tables e below (T6.setTop (mkF m 30 #[.val (.ref a1), .val (.long y1), .second, .val (.int r2)] [(.ref a3)])) t
      refine XS.iloadN X6.here hx rfl (hb hby d7_30) rfl ?_
      exact k
    refine bindE hr ?_; intro v7 hv7 hr
    refine Runs.via (T' := T6) (g' := (mkF m 32 #[.val (.ref a1), .val (.long y1), .second, .val (.int r2)] [(.int v7)])) (fun t k => ldI X6 hx hZ e6 A_a3_0 hv7 (g := (mkF m 31 #[.val (.ref a1), .val (.long y1), .second, .val (.int r2)] [(.int r2), (.ref a3)])) rfl rfl (hb hby d7_31) _ k) ?_
    obtain rfl := Option.some.inj hr
    exact own_retI X6 hx hlk hret (hb hby d7_32) (by show (cells + 0) ≤ 0; omega) (by show (slots + 0) ≤ 0; omega) ⟨rfl, N2, e6⟩
def f7 (fuel : Nat) (y1 : Int64) (q_a1_size : Int32) (q_a2 : List Int64) (q_a3 : List Int32) : Option (Int32) := g7_0 fuel y1 q_a1_size q_a2 q_a3
theorem pn_7 : plainName "com/example/mopor/mopor/reduction/LongIntTable" = true := by first | (simp [plainName, overriddenIn]; done) | decide +kernel
theorem ef_7 (m : MethodId) (y1 : Int64) (a1 : Addr) (a2 : Addr) (a3 : Addr) : entryFrame m #[(.ref a1), (.long y1)] 4 = mkF m 0 #[.val (.ref a1), .val (.long y1), .second, .unset] [] := by first | (simp [entryFrame, mkF, argsToLocals, Value.category]; done) | rfl
set_option maxRecDepth 65536 in
set_option maxHeartbeats 4000000 in
theorem rm7 (l : Launch) (Z : State) (a0 : Array Value) (hw : ∀ d ∈ tables_1, d.before a0 Z = true) (ws : List Jvm.Cond) (y1 : Int64) (a1 : Addr) (a2 : Addr) (a3 : Addr) (q_a1_size : Int32) (q_a2 : List Int64) (q_a3 : List Int32) (hE : Heap) (n0 : Nat) (Z0 : n0 ≤ hE.size) (o0 : n0 ≤ a1) (o1 : @LT.lt Nat instLTNat a1 a2) (o2 : @LT.lt Nat instLTNat a2 a3) (E_a1_0 : Exa Z hE a1 "com/example/mopor/mopor/reduction/LongIntTable") (F_a1_keys_0 : Fld Z hE a1 "com/example/mopor/mopor/reduction/LongIntTable" "keys" "[J" (.ref a2)) (F_a1_values_0 : Fld Z hE a1 "com/example/mopor/mopor/reduction/LongIntTable" "values" "[I" (.ref a3)) (F_a1_size_0 : Fld Z hE a1 "com/example/mopor/mopor/reduction/LongIntTable" "size" "I" (.int q_a1_size)) (A_a2_0 : AJ Z hE a2 .long q_a2) (A_a3_0 : AI Z hE a3 .int q_a3) (fuel : Nat) (r : Int32) (hr : f7 fuel y1 q_a1_size q_a2 q_a3 = some r) :
    MetFree l (⟨"com/example/mopor/mopor/reduction/LongIntTable", "get", "(J)I"⟩ : MethodName) (head1 (Jvm.Cond.code (⟨"com/example/mopor/mopor/reduction/LongIntTable", "get", "(J)I"⟩ : MethodName) prog_19_method_2_code 4 (some .int) :: ws) ({ frames := 1, cells := 0, slots := 0, locals := 18 } : Room)) (fun a U => a = #[(.ref a1), (.long y1)] ∧ Z.Warmed39 U.vm ∧ U.heap = hE) (fun _ _ _ _ _ => True) (fun _ U o U' => ∃ v L, o = .returned v ∧ (P7 Z hE a1 a2 a3 q_a1_size q_a2 q_a3 n0 r v U'.heap L) ∧ FrameEnd U o U' L ({ frames := 1, cells := 0, slots := 0, locals := 18 } : Room).cells ({ frames := 1, cells := 0, slots := 0, locals := 18 } : Room).slots) := by
  refine MetFree.of_bodySF (plainFor_of_name pn_7) hisR ?_
  intro p e s m args below meth c s₁ Bd hml0 hP hK
  obtain ⟨rfl, hZ, hh⟩ := hP
  have X0 : Stand p l e ({ frames := 1, cells := 0, slots := 0, locals := 18 } : Room) s m #[(.ref a1), (.long y1)] below meth c s₁ [] 0 0 := Stand.of_body Bd
  have e0 : s₁.heap = hE := by rw [← hh, Bd.state]; rfl
  have C : Ctx p s m meth c Z a0 "com/example/mopor/mopor/reduction/LongIntTable" prog_19_method_2_code 4 (some .int) "get" := ⟨Bd.exec, hZ, hw, Bd.bytes, hml0, findClass_of_methodNamed Bd.named, Bd.returns, BodyLoose.notSynchronized Bd, (name_of_methodNamed Bd.named Bd.method).1⟩
  refine Runs.via (fun t k => castTop (ef_7 m y1 a1 a2 a3) k) (b7_0 C fuel X0 e0 (Fr.nil n0) (by show 0 ≤ 0; omega) (by show 0 ≤ 0; omega) Z0 (by omega) (by omega) (by omega) y1 E_a1_0 F_a1_keys_0 F_a1_values_0 F_a1_size_0 A_a2_0 A_a3_0 hr)
theorem pd_5 : parseMethodDescriptor "(J)I" = some ⟨[.long], some .int⟩ := by decide +kernel
theorem d9_0 : decode prog_24_method_8_code 0 = .ok (.aload_n 0, 1) := by decide +kernel
theorem d9_1 : decode prog_24_method_8_code 1 = .ok (.getfield 50, 3) := by decide +kernel
theorem d9_4 : decode prog_24_method_8_code 4 = .ok (.aload_n 0, 1) := by decide +kernel
theorem d9_5 : decode prog_24_method_8_code 5 = .ok (.getfield 16, 3) := by decide +kernel
theorem d9_8 : decode prog_24_method_8_code 8 = .ok (.arraylength, 1) := by decide +kernel
theorem d9_9 : decode prog_24_method_8_code 9 = .ok (.if_icmp .ne 71, 3) := by decide +kernel
theorem d9_12 : decode prog_24_method_8_code 12 = .ok (.aload_n 0, 1) := by decide +kernel
theorem d9_13 : decode prog_24_method_8_code 13 = .ok (.aload_n 0, 1) := by decide +kernel
theorem d9_14 : decode prog_24_method_8_code 14 = .ok (.getfield 16, 3) := by decide +kernel
theorem d9_17 : decode prog_24_method_8_code 17 = .ok (.aload_n 0, 1) := by decide +kernel
theorem d9_18 : decode prog_24_method_8_code 18 = .ok (.getfield 50, 3) := by decide +kernel
theorem d9_21 : decode prog_24_method_8_code 21 = .ok (.iconst 2, 1) := by decide +kernel
theorem d9_22 : decode prog_24_method_8_code 22 = .ok (.imul, 1) := by decide +kernel
theorem d9_23 : decode prog_24_method_8_code 23 = .ok (.invokestatic 53, 3) := by decide +kernel
theorem d9_26 : decode prog_24_method_8_code 26 = .ok (.putfield 16, 3) := by decide +kernel
theorem d9_29 : decode prog_24_method_8_code 29 = .ok (.aload_n 0, 1) := by decide +kernel
theorem d9_30 : decode prog_24_method_8_code 30 = .ok (.aload_n 0, 1) := by decide +kernel
theorem d9_31 : decode prog_24_method_8_code 31 = .ok (.getfield 20, 3) := by decide +kernel
theorem d9_34 : decode prog_24_method_8_code 34 = .ok (.aload_n 0, 1) := by decide +kernel
theorem d9_35 : decode prog_24_method_8_code 35 = .ok (.getfield 50, 3) := by decide +kernel
theorem d9_38 : decode prog_24_method_8_code 38 = .ok (.iconst 2, 1) := by decide +kernel
theorem d9_39 : decode prog_24_method_8_code 39 = .ok (.imul, 1) := by decide +kernel
theorem d9_40 : decode prog_24_method_8_code 40 = .ok (.invokestatic 53, 3) := by decide +kernel
theorem d9_43 : decode prog_24_method_8_code 43 = .ok (.putfield 20, 3) := by decide +kernel
theorem d9_46 : decode prog_24_method_8_code 46 = .ok (.aload_n 0, 1) := by decide +kernel
theorem d9_47 : decode prog_24_method_8_code 47 = .ok (.aload_n 0, 1) := by decide +kernel
theorem d9_48 : decode prog_24_method_8_code 48 = .ok (.getfield 23, 3) := by decide +kernel
theorem d9_51 : decode prog_24_method_8_code 51 = .ok (.aload_n 0, 1) := by decide +kernel
theorem d9_52 : decode prog_24_method_8_code 52 = .ok (.getfield 50, 3) := by decide +kernel
theorem d9_55 : decode prog_24_method_8_code 55 = .ok (.iconst 2, 1) := by decide +kernel
theorem d9_56 : decode prog_24_method_8_code 56 = .ok (.imul, 1) := by decide +kernel
theorem d9_57 : decode prog_24_method_8_code 57 = .ok (.invokestatic 53, 3) := by decide +kernel
theorem d9_60 : decode prog_24_method_8_code 60 = .ok (.putfield 23, 3) := by decide +kernel
theorem d9_63 : decode prog_24_method_8_code 63 = .ok (.aload_n 0, 1) := by decide +kernel
theorem d9_64 : decode prog_24_method_8_code 64 = .ok (.aload_n 0, 1) := by decide +kernel
theorem d9_65 : decode prog_24_method_8_code 65 = .ok (.getfield 26, 3) := by decide +kernel
theorem d9_68 : decode prog_24_method_8_code 68 = .ok (.aload_n 0, 1) := by decide +kernel
theorem d9_69 : decode prog_24_method_8_code 69 = .ok (.getfield 50, 3) := by decide +kernel
theorem d9_72 : decode prog_24_method_8_code 72 = .ok (.iconst 2, 1) := by decide +kernel
theorem d9_73 : decode prog_24_method_8_code 73 = .ok (.imul, 1) := by decide +kernel
theorem d9_74 : decode prog_24_method_8_code 74 = .ok (.invokestatic 53, 3) := by decide +kernel
theorem d9_77 : decode prog_24_method_8_code 77 = .ok (.putfield 26, 3) := by decide +kernel
theorem d9_80 : decode prog_24_method_8_code 80 = .ok (.aload_n 0, 1) := by decide +kernel
theorem d9_81 : decode prog_24_method_8_code 81 = .ok (.getfield 16, 3) := by decide +kernel
theorem d9_84 : decode prog_24_method_8_code 84 = .ok (.aload_n 0, 1) := by decide +kernel
theorem d9_85 : decode prog_24_method_8_code 85 = .ok (.getfield 50, 3) := by decide +kernel
theorem d9_88 : decode prog_24_method_8_code 88 = .ok (.iload_n 1, 1) := by decide +kernel
theorem d9_89 : decode prog_24_method_8_code 89 = .ok (.iastore, 1) := by decide +kernel
theorem d9_90 : decode prog_24_method_8_code 90 = .ok (.aload_n 0, 1) := by decide +kernel
theorem d9_91 : decode prog_24_method_8_code 91 = .ok (.getfield 20, 3) := by decide +kernel
theorem d9_94 : decode prog_24_method_8_code 94 = .ok (.aload_n 0, 1) := by decide +kernel
theorem d9_95 : decode prog_24_method_8_code 95 = .ok (.getfield 50, 3) := by decide +kernel
theorem d9_98 : decode prog_24_method_8_code 98 = .ok (.iload_n 2, 1) := by decide +kernel
theorem d9_99 : decode prog_24_method_8_code 99 = .ok (.iastore, 1) := by decide +kernel
theorem d9_100 : decode prog_24_method_8_code 100 = .ok (.aload_n 0, 1) := by decide +kernel
theorem d9_101 : decode prog_24_method_8_code 101 = .ok (.getfield 23, 3) := by decide +kernel
theorem d9_104 : decode prog_24_method_8_code 104 = .ok (.aload_n 0, 1) := by decide +kernel
theorem d9_105 : decode prog_24_method_8_code 105 = .ok (.getfield 50, 3) := by decide +kernel
theorem d9_108 : decode prog_24_method_8_code 108 = .ok (.iload_n 3, 1) := by decide +kernel
theorem d9_109 : decode prog_24_method_8_code 109 = .ok (.iastore, 1) := by decide +kernel
theorem d9_110 : decode prog_24_method_8_code 110 = .ok (.aload_n 0, 1) := by decide +kernel
theorem d9_111 : decode prog_24_method_8_code 111 = .ok (.getfield 26, 3) := by decide +kernel
theorem d9_114 : decode prog_24_method_8_code 114 = .ok (.aload_n 0, 1) := by decide +kernel
theorem d9_115 : decode prog_24_method_8_code 115 = .ok (.getfield 50, 3) := by decide +kernel
theorem d9_118 : decode prog_24_method_8_code 118 = .ok (.iload 4, 2) := by decide +kernel
theorem d9_120 : decode prog_24_method_8_code 120 = .ok (.iastore, 1) := by decide +kernel
theorem d9_121 : decode prog_24_method_8_code 121 = .ok (.aload_n 0, 1) := by decide +kernel
theorem d9_122 : decode prog_24_method_8_code 122 = .ok (.dup, 1) := by decide +kernel
theorem d9_123 : decode prog_24_method_8_code 123 = .ok (.getfield 50, 3) := by decide +kernel
theorem d9_126 : decode prog_24_method_8_code 126 = .ok (.dup_x1, 1) := by decide +kernel
theorem d9_127 : decode prog_24_method_8_code 127 = .ok (.iconst 1, 1) := by decide +kernel
theorem d9_128 : decode prog_24_method_8_code 128 = .ok (.iadd, 1) := by decide +kernel
theorem d9_129 : decode prog_24_method_8_code 129 = .ok (.putfield 50, 3) := by decide +kernel
theorem d9_132 : decode prog_24_method_8_code 132 = .ok (.ireturn, 1) := by decide +kernel
def P9 (Z : State) (hE : Heap) (a1 : Addr) (a2 : Addr) (a3 : Addr) (a4 : Addr) (a5 : Addr) (a6 : Addr) (a7 : Addr) (a8 : Addr) (q_a1_transitionCount : Int32) (q_a1_size : Int32) (q_a2_size : Int32) (q_a3 : List Int64) (q_a4 : List Int32) (q_a5 : List Int32) (q_a6 : List Int32) (q_a7 : List Int32) (q_a8 : List Int32) (n0 : Nat) (r : Int32 × Int32 × List Int32 × List Int32 × List Int32 × List Int32) (v : Option Value) (h : Heap) (L : List Loc) : Prop := v = some (.int r.1) ∧ Fr n0 L ∧ Keep hE h [a1, a5, a6, a7, a8] ∧ Exa Z h a1 "com/example/mopor/mopor/reduction/VectorTree" ∧ Fld Z h a1 "com/example/mopor/mopor/reduction/VectorTree" "nodes" "Lcom/example/mopor/mopor/reduction/LongIntTable;" (.ref a2) ∧ Fld Z h a1 "com/example/mopor/mopor/reduction/VectorTree" "parent" "[I" (.ref a5) ∧ Fld Z h a1 "com/example/mopor/mopor/reduction/VectorTree" "last" "[I" (.ref a6) ∧ Fld Z h a1 "com/example/mopor/mopor/reduction/VectorTree" "marking" "[I" (.ref a7) ∧ Fld Z h a1 "com/example/mopor/mopor/reduction/VectorTree" "depth" "[I" (.ref a8) ∧ Fld Z h a1 "com/example/mopor/mopor/reduction/VectorTree" "transitionCount" "I" (.int q_a1_transitionCount) ∧ Fld Z h a1 "com/example/mopor/mopor/reduction/VectorTree" "size" "I" (.int r.2.1) ∧ AI Z h a5 .int r.2.2.1 ∧ AI Z h a6 .int r.2.2.2.1 ∧ AI Z h a7 .int r.2.2.2.2.1 ∧ AI Z h a8 .int r.2.2.2.2.2
def g9_80 (x1 : Int32) (x2 : Int32) (x3 : Int32) (x4 : Int32) (q_a1_transitionCount : Int32) (q_a1_size : Int32) (q_a2_size : Int32) (q_a3 : List Int64) (q_a4 : List Int32) (q_a5 : List Int32) (q_a6 : List Int32) (q_a7 : List Int32) (q_a8 : List Int32) : Option (Int32 × Int32 × List Int32 × List Int32 × List Int32 × List Int32) := ((wrO q_a5 q_a1_size x1).bind fun v3 => ((wrO q_a6 q_a1_size x2).bind fun v6 => ((wrO q_a7 q_a1_size x3).bind fun v9 => ((wrO q_a8 q_a1_size x4).bind fun v12 => (letO (q_a1_size + (1 : Int32)) fun v14 => some (q_a1_size, v14, v3, v6, v9, v12))))))
set_option maxRecDepth 65536 in
set_option maxHeartbeats 4000000 in
theorem b9_80 {hE : Heap} {a1 : Addr} {a2 : Addr} {a3 : Addr} {a4 : Addr} {a5 : Addr} {a6 : Addr} {a7 : Addr} {a8 : Addr} {q_a1_transitionCount : Int32} {q_a2_size : Int32} {q_a3 : List Int64} {q_a4 : List Int32} {q_a1_size₀ : Int32} {q_a5₀ : List Int32} {q_a6₀ : List Int32} {q_a7₀ : List Int32} {q_a8₀ : List Int32} {r : Int32 × Int32 × List Int32 × List Int32 × List Int32 × List Int32} (C : Ctx p s m meth c Z a0 "com/example/mopor/mopor/reduction/VectorTree" prog_24_method_8_code 5 (some .int) "add") (X0 : Stand p l e ({ frames := 0, cells := 0, slots := 0, locals := 0 } : Room) s m args below meth c T0 locs cells slots) (e0 : T0.heap = h0) (N0 : Fr n0 locs) (hk : cells ≤ 0) (hn : slots ≤ 0) (Z1 : n0 ≤ h0.size) (KE : Keep hE h0 [a1, a5, a6, a7, a8]) (o0 : n0 ≤ a1) (o1 : @LT.lt Nat instLTNat a1 a2) (o2 : @LT.lt Nat instLTNat a2 a3) (o3 : @LT.lt Nat instLTNat a3 a4) (o4 : @LT.lt Nat instLTNat a4 a5) (o5 : @LT.lt Nat instLTNat a5 a6) (o6 : @LT.lt Nat instLTNat a6 a7) (o7 : @LT.lt Nat instLTNat a7 a8) (q_a1_size : Int32) (q_a5 : List Int32) (q_a6 : List Int32) (q_a7 : List Int32) (q_a8 : List Int32) (x1 : Int32) (x2 : Int32) (x3 : Int32) (x4 : Int32) (E_a1_0 : Exa Z h0 a1 "com/example/mopor/mopor/reduction/VectorTree") (F_a1_nodes_0 : Fld Z h0 a1 "com/example/mopor/mopor/reduction/VectorTree" "nodes" "Lcom/example/mopor/mopor/reduction/LongIntTable;" (.ref a2)) (F_a1_parent_0 : Fld Z h0 a1 "com/example/mopor/mopor/reduction/VectorTree" "parent" "[I" (.ref a5)) (F_a1_last_0 : Fld Z h0 a1 "com/example/mopor/mopor/reduction/VectorTree" "last" "[I" (.ref a6)) (F_a1_marking_0 : Fld Z h0 a1 "com/example/mopor/mopor/reduction/VectorTree" "marking" "[I" (.ref a7)) (F_a1_depth_0 : Fld Z h0 a1 "com/example/mopor/mopor/reduction/VectorTree" "depth" "[I" (.ref a8)) (F_a1_transitionCount_0 : Fld Z h0 a1 "com/example/mopor/mopor/reduction/VectorTree" "transitionCount" "I" (.int q_a1_transitionCount)) (F_a1_size_0 : Fld Z h0 a1 "com/example/mopor/mopor/reduction/VectorTree" "size" "I" (.int q_a1_size)) (E_a2_0 : Exa Z h0 a2 "com/example/mopor/mopor/reduction/LongIntTable") (F_a2_keys_0 : Fld Z h0 a2 "com/example/mopor/mopor/reduction/LongIntTable" "keys" "[J" (.ref a3)) (F_a2_values_0 : Fld Z h0 a2 "com/example/mopor/mopor/reduction/LongIntTable" "values" "[I" (.ref a4)) (F_a2_size_0 : Fld Z h0 a2 "com/example/mopor/mopor/reduction/LongIntTable" "size" "I" (.int q_a2_size)) (A_a3_0 : AJ Z h0 a3 .long q_a3) (A_a4_0 : AI Z h0 a4 .int q_a4) (A_a5_0 : AI Z h0 a5 .int q_a5) (A_a6_0 : AI Z h0 a6 .int q_a6) (A_a7_0 : AI Z h0 a7 .int q_a7) (A_a8_0 : AI Z h0 a8 .int q_a8) (hr : g9_80 x1 x2 x3 x4 q_a1_transitionCount q_a1_size q_a2_size q_a3 q_a4 q_a5 q_a6 q_a7 q_a8 = some r) :
    Runs p e below s (P9 Z hE a1 a2 a3 a4 a5 a6 a7 a8 q_a1_transitionCount q_a1_size₀ q_a2_size q_a3 q_a4 q_a5₀ q_a6₀ q_a7₀ q_a8₀ n0 r) 0 0 T0 (mkF m 80 #[.val (.ref a1), .val (.int x1), .val (.int x2), .val (.int x3), .val (.int x4)] []) := by
  unfold g9_80 at hr
  have ⟨hx, hZ, hw, hby, hml, hown, hret, hlk, hnm⟩ := C
  refine Runs.via (T' := T0) (g' := (mkF m 81 #[.val (.ref a1), .val (.int x1), .val (.int x2), .val (.int x3), .val (.int x4)] [(.ref a1)])) (fun t k => ?_) ?_
  · show Steps p.tables e below (T0.setTop (mkF m 80 #[.val (.ref a1), .val (.int x1), .val (.int x2), .val (.int x3), .val (.int x4)] [])) t
    refine XS.aloadN X0.here hx rfl (hb hby d9_80) rfl rfl ?_
    exact k
  obtain ⟨T1, X1, e1, st1⟩ := getF X0 hx hZ hown (host := "") (Or.inl (hw _ (List.mem_of_getElem? (i := 32) rfl))) Via.refl e0 F_a1_parent_0 (g := (mkF m 81 #[.val (.ref a1), .val (.int x1), .val (.int x2), .val (.int x3), .val (.int x4)] [(.ref a1)])) rfl rfl (hb hby d9_81)
  refine Runs.via (T' := T1) (g' := (mkF m 84 #[.val (.ref a1), .val (.int x1), .val (.int x2), .val (.int x3), .val (.int x4)] [(.ref a5)])) (fun t k => st1 _ k) ?_
  refine Runs.via (T' := T1) (g' := (mkF m 85 #[.val (.ref a1), .val (.int x1), .val (.int x2), .val (.int x3), .val (.int x4)] [(.ref a1), (.ref a5)])) (fun t k => ?_) ?_
  · show Steps p.tables e below (T1.setTop (mkF m 84 #[.val (.ref a1), .val (.int x1), .val (.int x2), .val (.int x3), .val (.int x4)] [(.ref a5)])) t
    refine XS.aloadN X1.here hx rfl (hb hby d9_84) rfl rfl ?_
    exact k
  obtain ⟨T2, X2, e2, st2⟩ := getF X1 hx hZ hown (host := "") (Or.inl (hw _ (List.mem_of_getElem? (i := 61) rfl))) Via.refl e1 F_a1_size_0 (g := (mkF m 85 #[.val (.ref a1), .val (.int x1), .val (.int x2), .val (.int x3), .val (.int x4)] [(.ref a1), (.ref a5)])) rfl rfl (hb hby d9_85)
  refine Runs.via (T' := T2) (g' := (mkF m 88 #[.val (.ref a1), .val (.int x1), .val (.int x2), .val (.int x3), .val (.int x4)] [(.int q_a1_size), (.ref a5)])) (fun t k => st2 _ k) ?_
  refine Runs.via (T' := T2) (g' := (mkF m 89 #[.val (.ref a1), .val (.int x1), .val (.int x2), .val (.int x3), .val (.int x4)] [(.int x1), (.int q_a1_size), (.ref a5)])) (fun t k => ?_) ?_
  · show Steps p.tables e below (T2.setTop (mkF m 88 #[.val (.ref a1), .val (.int x1), .val (.int x2), .val (.int x3), .val (.int x4)] [(.int q_a1_size), (.ref a5)])) t
    refine XS.iloadN X2.here hx rfl (hb hby d9_88) rfl ?_
    exact k
  refine bindE hr ?_; intro v3 hv3 hr
  obtain ⟨T3, h3, X3, e3, W3, A3, st3⟩ := soI X2 hx hZ e2 A_a5_0 hv3 (g := (mkF m 89 #[.val (.ref a1), .val (.int x1), .val (.int x2), .val (.int x3), .val (.int x4)] [(.int x1), (.int q_a1_size), (.ref a5)])) rfl rfl (hb hby d9_89)
  have E_a1_3 : Exa Z h3 a1 "com/example/mopor/mopor/reduction/VectorTree" := E_a1_0.wr W3
  have F_a1_nodes_3 : Fld Z h3 a1 "com/example/mopor/mopor/reduction/VectorTree" "nodes" "Lcom/example/mopor/mopor/reduction/LongIntTable;" (.ref a2) := F_a1_nodes_0.other W3 (Or.inl (by omega : @Ne Nat a1 a5))
  have F_a1_parent_3 : Fld Z h3 a1 "com/example/mopor/mopor/reduction/VectorTree" "parent" "[I" (.ref a5) := F_a1_parent_0.other W3 (Or.inl (by omega : @Ne Nat a1 a5))
  have F_a1_last_3 : Fld Z h3 a1 "com/example/mopor/mopor/reduction/VectorTree" "last" "[I" (.ref a6) := F_a1_last_0.other W3 (Or.inl (by omega : @Ne Nat a1 a5))
  have F_a1_marking_3 : Fld Z h3 a1 "com/example/mopor/mopor/reduction/VectorTree" "marking" "[I" (.ref a7) := F_a1_marking_0.other W3 (Or.inl (by omega : @Ne Nat a1 a5))
  have F_a1_depth_3 : Fld Z h3 a1 "com/example/mopor/mopor/reduction/VectorTree" "depth" "[I" (.ref a8) := F_a1_depth_0.other W3 (Or.inl (by omega : @Ne Nat a1 a5))
  have F_a1_transitionCount_3 : Fld Z h3 a1 "com/example/mopor/mopor/reduction/VectorTree" "transitionCount" "I" (.int q_a1_transitionCount) := F_a1_transitionCount_0.other W3 (Or.inl (by omega : @Ne Nat a1 a5))
  have F_a1_size_3 : Fld Z h3 a1 "com/example/mopor/mopor/reduction/VectorTree" "size" "I" (.int q_a1_size) := F_a1_size_0.other W3 (Or.inl (by omega : @Ne Nat a1 a5))
  have E_a2_3 : Exa Z h3 a2 "com/example/mopor/mopor/reduction/LongIntTable" := E_a2_0.wr W3
  have F_a2_keys_3 : Fld Z h3 a2 "com/example/mopor/mopor/reduction/LongIntTable" "keys" "[J" (.ref a3) := F_a2_keys_0.other W3 (Or.inl (by omega : @Ne Nat a2 a5))
  have F_a2_values_3 : Fld Z h3 a2 "com/example/mopor/mopor/reduction/LongIntTable" "values" "[I" (.ref a4) := F_a2_values_0.other W3 (Or.inl (by omega : @Ne Nat a2 a5))
  have F_a2_size_3 : Fld Z h3 a2 "com/example/mopor/mopor/reduction/LongIntTable" "size" "I" (.int q_a2_size) := F_a2_size_0.other W3 (Or.inl (by omega : @Ne Nat a2 a5))
  have A_a3_3 : AJ Z h3 a3 .long q_a3 := A_a3_0.other W3 (by omega : @Ne Nat a3 a5)
  have A_a4_3 : AI Z h3 a4 .int q_a4 := A_a4_0.other W3 (by omega : @Ne Nat a4 a5)
  have A_a5_3 : AI Z h3 a5 .int v3 := A3
  have A_a6_3 : AI Z h3 a6 .int q_a6 := A_a6_0.other W3 (by omega : @Ne Nat a6 a5)
  have A_a7_3 : AI Z h3 a7 .int q_a7 := A_a7_0.other W3 (by omega : @Ne Nat a7 a5)
  have A_a8_3 : AI Z h3 a8 .int q_a8 := A_a8_0.other W3 (by omega : @Ne Nat a8 a5)
  have N3 := Fr.snoc X3 N0 (by omega : n0 ≤ a5)
  have zz3 : n0 ≤ h3.size := Nat.le_trans Z1 (Keep.of_wr W3).1
  have K3 := KE.wr W3 (Or.inl (List.mem_of_getElem? (i := 1) rfl))
  refine Runs.via (T' := T3) (g' := (mkF m 90 #[.val (.ref a1), .val (.int x1), .val (.int x2), .val (.int x3), .val (.int x4)] [])) (fun t k => st3 _ k) ?_
  refine Runs.via (T' := T3) (g' := (mkF m 91 #[.val (.ref a1), .val (.int x1), .val (.int x2), .val (.int x3), .val (.int x4)] [(.ref a1)])) (fun t k => ?_) ?_
  · show Steps p.tables e below (T3.setTop (mkF m 90 #[.val (.ref a1), .val (.int x1), .val (.int x2), .val (.int x3), .val (.int x4)] [])) t
    refine XS.aloadN X3.here hx rfl (hb hby d9_90) rfl rfl ?_
    exact k
  obtain ⟨T4, X4, e4, st4⟩ := getF X3 hx hZ hown (host := "") (Or.inl (hw _ (List.mem_of_getElem? (i := 34) rfl))) Via.refl e3 F_a1_last_3 (g := (mkF m 91 #[.val (.ref a1), .val (.int x1), .val (.int x2), .val (.int x3), .val (.int x4)] [(.ref a1)])) rfl rfl (hb hby d9_91)
  refine Runs.via (T' := T4) (g' := (mkF m 94 #[.val (.ref a1), .val (.int x1), .val (.int x2), .val (.int x3), .val (.int x4)] [(.ref a6)])) (fun t k => st4 _ k) ?_
  refine Runs.via (T' := T4) (g' := (mkF m 95 #[.val (.ref a1), .val (.int x1), .val (.int x2), .val (.int x3), .val (.int x4)] [(.ref a1), (.ref a6)])) (fun t k => ?_) ?_
  · show Steps p.tables e below (T4.setTop (mkF m 94 #[.val (.ref a1), .val (.int x1), .val (.int x2), .val (.int x3), .val (.int x4)] [(.ref a6)])) t
    refine XS.aloadN X4.here hx rfl (hb hby d9_94) rfl rfl ?_
    exact k
  obtain ⟨T5, X5, e5, st5⟩ := getF X4 hx hZ hown (host := "") (Or.inl (hw _ (List.mem_of_getElem? (i := 61) rfl))) Via.refl e4 F_a1_size_3 (g := (mkF m 95 #[.val (.ref a1), .val (.int x1), .val (.int x2), .val (.int x3), .val (.int x4)] [(.ref a1), (.ref a6)])) rfl rfl (hb hby d9_95)
  refine Runs.via (T' := T5) (g' := (mkF m 98 #[.val (.ref a1), .val (.int x1), .val (.int x2), .val (.int x3), .val (.int x4)] [(.int q_a1_size), (.ref a6)])) (fun t k => st5 _ k) ?_
  refine Runs.via (T' := T5) (g' := (mkF m 99 #[.val (.ref a1), .val (.int x1), .val (.int x2), .val (.int x3), .val (.int x4)] [(.int x2), (.int q_a1_size), (.ref a6)])) (fun t k => ?_) ?_
  · show Steps p.tables e below (T5.setTop (mkF m 98 #[.val (.ref a1), .val (.int x1), .val (.int x2), .val (.int x3), .val (.int x4)] [(.int q_a1_size), (.ref a6)])) t
    refine XS.iloadN X5.here hx rfl (hb hby d9_98) rfl ?_
    exact k
  refine bindE hr ?_; intro v6 hv6 hr
  obtain ⟨T6, h6, X6, e6, W6, A6, st6⟩ := soI X5 hx hZ e5 A_a6_3 hv6 (g := (mkF m 99 #[.val (.ref a1), .val (.int x1), .val (.int x2), .val (.int x3), .val (.int x4)] [(.int x2), (.int q_a1_size), (.ref a6)])) rfl rfl (hb hby d9_99)
  have E_a1_6 : Exa Z h6 a1 "com/example/mopor/mopor/reduction/VectorTree" := E_a1_3.wr W6
  have F_a1_nodes_6 : Fld Z h6 a1 "com/example/mopor/mopor/reduction/VectorTree" "nodes" "Lcom/example/mopor/mopor/reduction/LongIntTable;" (.ref a2) := F_a1_nodes_3.other W6 (Or.inl (by omega : @Ne Nat a1 a6))
  have F_a1_parent_6 : Fld Z h6 a1 "com/example/mopor/mopor/reduction/VectorTree" "parent" "[I" (.ref a5) := F_a1_parent_3.other W6 (Or.inl (by omega : @Ne Nat a1 a6))
  have F_a1_last_6 : Fld Z h6 a1 "com/example/mopor/mopor/reduction/VectorTree" "last" "[I" (.ref a6) := F_a1_last_3.other W6 (Or.inl (by omega : @Ne Nat a1 a6))
  have F_a1_marking_6 : Fld Z h6 a1 "com/example/mopor/mopor/reduction/VectorTree" "marking" "[I" (.ref a7) := F_a1_marking_3.other W6 (Or.inl (by omega : @Ne Nat a1 a6))
  have F_a1_depth_6 : Fld Z h6 a1 "com/example/mopor/mopor/reduction/VectorTree" "depth" "[I" (.ref a8) := F_a1_depth_3.other W6 (Or.inl (by omega : @Ne Nat a1 a6))
  have F_a1_transitionCount_6 : Fld Z h6 a1 "com/example/mopor/mopor/reduction/VectorTree" "transitionCount" "I" (.int q_a1_transitionCount) := F_a1_transitionCount_3.other W6 (Or.inl (by omega : @Ne Nat a1 a6))
  have F_a1_size_6 : Fld Z h6 a1 "com/example/mopor/mopor/reduction/VectorTree" "size" "I" (.int q_a1_size) := F_a1_size_3.other W6 (Or.inl (by omega : @Ne Nat a1 a6))
  have E_a2_6 : Exa Z h6 a2 "com/example/mopor/mopor/reduction/LongIntTable" := E_a2_3.wr W6
  have F_a2_keys_6 : Fld Z h6 a2 "com/example/mopor/mopor/reduction/LongIntTable" "keys" "[J" (.ref a3) := F_a2_keys_3.other W6 (Or.inl (by omega : @Ne Nat a2 a6))
  have F_a2_values_6 : Fld Z h6 a2 "com/example/mopor/mopor/reduction/LongIntTable" "values" "[I" (.ref a4) := F_a2_values_3.other W6 (Or.inl (by omega : @Ne Nat a2 a6))
  have F_a2_size_6 : Fld Z h6 a2 "com/example/mopor/mopor/reduction/LongIntTable" "size" "I" (.int q_a2_size) := F_a2_size_3.other W6 (Or.inl (by omega : @Ne Nat a2 a6))
  have A_a3_6 : AJ Z h6 a3 .long q_a3 := A_a3_3.other W6 (by omega : @Ne Nat a3 a6)
  have A_a4_6 : AI Z h6 a4 .int q_a4 := A_a4_3.other W6 (by omega : @Ne Nat a4 a6)
  have A_a5_6 : AI Z h6 a5 .int v3 := A_a5_3.other W6 (by omega : @Ne Nat a5 a6)
  have A_a6_6 : AI Z h6 a6 .int v6 := A6
  have A_a7_6 : AI Z h6 a7 .int q_a7 := A_a7_3.other W6 (by omega : @Ne Nat a7 a6)
  have A_a8_6 : AI Z h6 a8 .int q_a8 := A_a8_3.other W6 (by omega : @Ne Nat a8 a6)
  have N6 := Fr.snoc X6 N3 (by omega : n0 ≤ a6)
  have zz6 : n0 ≤ h6.size := Nat.le_trans zz3 (Keep.of_wr W6).1
  have K6 := K3.wr W6 (Or.inl (List.mem_of_getElem? (i := 2) rfl))
  refine Runs.via (T' := T6) (g' := (mkF m 100 #[.val (.ref a1), .val (.int x1), .val (.int x2), .val (.int x3), .val (.int x4)] [])) (fun t k => st6 _ k) ?_
  refine Runs.via (T' := T6) (g' := (mkF m 101 #[.val (.ref a1), .val (.int x1), .val (.int x2), .val (.int x3), .val (.int x4)] [(.ref a1)])) (fun t k => ?_) ?_
  · show Steps p.tables e below (T6.setTop (mkF m 100 #[.val (.ref a1), .val (.int x1), .val (.int x2), .val (.int x3), .val (.int x4)] [])) t
    refine XS.aloadN X6.here hx rfl (hb hby d9_100) rfl rfl ?_
    exact k
  obtain ⟨T7, X7, e7, st7⟩ := getF X6 hx hZ hown (host := "") (Or.inl (hw _ (List.mem_of_getElem? (i := 36) rfl))) Via.refl e6 F_a1_marking_6 (g := (mkF m 101 #[.val (.ref a1), .val (.int x1), .val (.int x2), .val (.int x3), .val (.int x4)] [(.ref a1)])) rfl rfl (hb hby d9_101)
  refine Runs.via (T' := T7) (g' := (mkF m 104 #[.val (.ref a1), .val (.int x1), .val (.int x2), .val (.int x3), .val (.int x4)] [(.ref a7)])) (fun t k => st7 _ k) ?_
  refine Runs.via (T' := T7) (g' := (mkF m 105 #[.val (.ref a1), .val (.int x1), .val (.int x2), .val (.int x3), .val (.int x4)] [(.ref a1), (.ref a7)])) (fun t k => ?_) ?_
  · show Steps p.tables e below (T7.setTop (mkF m 104 #[.val (.ref a1), .val (.int x1), .val (.int x2), .val (.int x3), .val (.int x4)] [(.ref a7)])) t
    refine XS.aloadN X7.here hx rfl (hb hby d9_104) rfl rfl ?_
    exact k
  obtain ⟨T8, X8, e8, st8⟩ := getF X7 hx hZ hown (host := "") (Or.inl (hw _ (List.mem_of_getElem? (i := 61) rfl))) Via.refl e7 F_a1_size_6 (g := (mkF m 105 #[.val (.ref a1), .val (.int x1), .val (.int x2), .val (.int x3), .val (.int x4)] [(.ref a1), (.ref a7)])) rfl rfl (hb hby d9_105)
  refine Runs.via (T' := T8) (g' := (mkF m 108 #[.val (.ref a1), .val (.int x1), .val (.int x2), .val (.int x3), .val (.int x4)] [(.int q_a1_size), (.ref a7)])) (fun t k => st8 _ k) ?_
  refine Runs.via (T' := T8) (g' := (mkF m 109 #[.val (.ref a1), .val (.int x1), .val (.int x2), .val (.int x3), .val (.int x4)] [(.int x3), (.int q_a1_size), (.ref a7)])) (fun t k => ?_) ?_
  · show Steps p.tables e below (T8.setTop (mkF m 108 #[.val (.ref a1), .val (.int x1), .val (.int x2), .val (.int x3), .val (.int x4)] [(.int q_a1_size), (.ref a7)])) t
    refine XS.iloadN X8.here hx rfl (hb hby d9_108) rfl ?_
    exact k
  refine bindE hr ?_; intro v9 hv9 hr
  obtain ⟨T9, h9, X9, e9, W9, A9, st9⟩ := soI X8 hx hZ e8 A_a7_6 hv9 (g := (mkF m 109 #[.val (.ref a1), .val (.int x1), .val (.int x2), .val (.int x3), .val (.int x4)] [(.int x3), (.int q_a1_size), (.ref a7)])) rfl rfl (hb hby d9_109)
  have E_a1_9 : Exa Z h9 a1 "com/example/mopor/mopor/reduction/VectorTree" := E_a1_6.wr W9
  have F_a1_nodes_9 : Fld Z h9 a1 "com/example/mopor/mopor/reduction/VectorTree" "nodes" "Lcom/example/mopor/mopor/reduction/LongIntTable;" (.ref a2) := F_a1_nodes_6.other W9 (Or.inl (by omega : @Ne Nat a1 a7))
  have F_a1_parent_9 : Fld Z h9 a1 "com/example/mopor/mopor/reduction/VectorTree" "parent" "[I" (.ref a5) := F_a1_parent_6.other W9 (Or.inl (by omega : @Ne Nat a1 a7))
  have F_a1_last_9 : Fld Z h9 a1 "com/example/mopor/mopor/reduction/VectorTree" "last" "[I" (.ref a6) := F_a1_last_6.other W9 (Or.inl (by omega : @Ne Nat a1 a7))
  have F_a1_marking_9 : Fld Z h9 a1 "com/example/mopor/mopor/reduction/VectorTree" "marking" "[I" (.ref a7) := F_a1_marking_6.other W9 (Or.inl (by omega : @Ne Nat a1 a7))
  have F_a1_depth_9 : Fld Z h9 a1 "com/example/mopor/mopor/reduction/VectorTree" "depth" "[I" (.ref a8) := F_a1_depth_6.other W9 (Or.inl (by omega : @Ne Nat a1 a7))
  have F_a1_transitionCount_9 : Fld Z h9 a1 "com/example/mopor/mopor/reduction/VectorTree" "transitionCount" "I" (.int q_a1_transitionCount) := F_a1_transitionCount_6.other W9 (Or.inl (by omega : @Ne Nat a1 a7))
  have F_a1_size_9 : Fld Z h9 a1 "com/example/mopor/mopor/reduction/VectorTree" "size" "I" (.int q_a1_size) := F_a1_size_6.other W9 (Or.inl (by omega : @Ne Nat a1 a7))
  have E_a2_9 : Exa Z h9 a2 "com/example/mopor/mopor/reduction/LongIntTable" := E_a2_6.wr W9
  have F_a2_keys_9 : Fld Z h9 a2 "com/example/mopor/mopor/reduction/LongIntTable" "keys" "[J" (.ref a3) := F_a2_keys_6.other W9 (Or.inl (by omega : @Ne Nat a2 a7))
  have F_a2_values_9 : Fld Z h9 a2 "com/example/mopor/mopor/reduction/LongIntTable" "values" "[I" (.ref a4) := F_a2_values_6.other W9 (Or.inl (by omega : @Ne Nat a2 a7))
  have F_a2_size_9 : Fld Z h9 a2 "com/example/mopor/mopor/reduction/LongIntTable" "size" "I" (.int q_a2_size) := F_a2_size_6.other W9 (Or.inl (by omega : @Ne Nat a2 a7))
  have A_a3_9 : AJ Z h9 a3 .long q_a3 := A_a3_6.other W9 (by omega : @Ne Nat a3 a7)
  have A_a4_9 : AI Z h9 a4 .int q_a4 := A_a4_6.other W9 (by omega : @Ne Nat a4 a7)
  have A_a5_9 : AI Z h9 a5 .int v3 := A_a5_6.other W9 (by omega : @Ne Nat a5 a7)
  have A_a6_9 : AI Z h9 a6 .int v6 := A_a6_6.other W9 (by omega : @Ne Nat a6 a7)
  have A_a7_9 : AI Z h9 a7 .int v9 := A9
  have A_a8_9 : AI Z h9 a8 .int q_a8 := A_a8_6.other W9 (by omega : @Ne Nat a8 a7)
  have N9 := Fr.snoc X9 N6 (by omega : n0 ≤ a7)
  have zz9 : n0 ≤ h9.size := Nat.le_trans zz6 (Keep.of_wr W9).1
  have K9 := K6.wr W9 (Or.inl (List.mem_of_getElem? (i := 3) rfl))
  refine Runs.via (T' := T9) (g' := (mkF m 110 #[.val (.ref a1), .val (.int x1), .val (.int x2), .val (.int x3), .val (.int x4)] [])) (fun t k => st9 _ k) ?_
  refine Runs.via (T' := T9) (g' := (mkF m 111 #[.val (.ref a1), .val (.int x1), .val (.int x2), .val (.int x3), .val (.int x4)] [(.ref a1)])) (fun t k => ?_) ?_
  · show Steps p.tables e below (T9.setTop (mkF m 110 #[.val (.ref a1), .val (.int x1), .val (.int x2), .val (.int x3), .val (.int x4)] [])) t
    refine XS.aloadN X9.here hx rfl (hb hby d9_110) rfl rfl ?_
    exact k
  obtain ⟨T10, X10, e10, st10⟩ := getF X9 hx hZ hown (host := "") (Or.inl (hw _ (List.mem_of_getElem? (i := 38) rfl))) Via.refl e9 F_a1_depth_9 (g := (mkF m 111 #[.val (.ref a1), .val (.int x1), .val (.int x2), .val (.int x3), .val (.int x4)] [(.ref a1)])) rfl rfl (hb hby d9_111)
  refine Runs.via (T' := T10) (g' := (mkF m 114 #[.val (.ref a1), .val (.int x1), .val (.int x2), .val (.int x3), .val (.int x4)] [(.ref a8)])) (fun t k => st10 _ k) ?_
  refine Runs.via (T' := T10) (g' := (mkF m 115 #[.val (.ref a1), .val (.int x1), .val (.int x2), .val (.int x3), .val (.int x4)] [(.ref a1), (.ref a8)])) (fun t k => ?_) ?_
  · show Steps p.tables e below (T10.setTop (mkF m 114 #[.val (.ref a1), .val (.int x1), .val (.int x2), .val (.int x3), .val (.int x4)] [(.ref a8)])) t
    refine XS.aloadN X10.here hx rfl (hb hby d9_114) rfl rfl ?_
    exact k
  obtain ⟨T11, X11, e11, st11⟩ := getF X10 hx hZ hown (host := "") (Or.inl (hw _ (List.mem_of_getElem? (i := 61) rfl))) Via.refl e10 F_a1_size_9 (g := (mkF m 115 #[.val (.ref a1), .val (.int x1), .val (.int x2), .val (.int x3), .val (.int x4)] [(.ref a1), (.ref a8)])) rfl rfl (hb hby d9_115)
  refine Runs.via (T' := T11) (g' := (mkF m 118 #[.val (.ref a1), .val (.int x1), .val (.int x2), .val (.int x3), .val (.int x4)] [(.int q_a1_size), (.ref a8)])) (fun t k => st11 _ k) ?_
  refine Runs.via (T' := T11) (g' := (mkF m 120 #[.val (.ref a1), .val (.int x1), .val (.int x2), .val (.int x3), .val (.int x4)] [(.int x4), (.int q_a1_size), (.ref a8)])) (fun t k => ?_) ?_
  · show Steps p.tables e below (T11.setTop (mkF m 118 #[.val (.ref a1), .val (.int x1), .val (.int x2), .val (.int x3), .val (.int x4)] [(.int q_a1_size), (.ref a8)])) t
    refine XS.iload X11.here hx rfl (hb hby d9_118) rfl ?_
    exact k
  refine bindE hr ?_; intro v12 hv12 hr
  obtain ⟨T12, h12, X12, e12, W12, A12, st12⟩ := soI X11 hx hZ e11 A_a8_9 hv12 (g := (mkF m 120 #[.val (.ref a1), .val (.int x1), .val (.int x2), .val (.int x3), .val (.int x4)] [(.int x4), (.int q_a1_size), (.ref a8)])) rfl rfl (hb hby d9_120)
  have E_a1_12 : Exa Z h12 a1 "com/example/mopor/mopor/reduction/VectorTree" := E_a1_9.wr W12
  have F_a1_nodes_12 : Fld Z h12 a1 "com/example/mopor/mopor/reduction/VectorTree" "nodes" "Lcom/example/mopor/mopor/reduction/LongIntTable;" (.ref a2) := F_a1_nodes_9.other W12 (Or.inl (by omega : @Ne Nat a1 a8))
  have F_a1_parent_12 : Fld Z h12 a1 "com/example/mopor/mopor/reduction/VectorTree" "parent" "[I" (.ref a5) := F_a1_parent_9.other W12 (Or.inl (by omega : @Ne Nat a1 a8))
  have F_a1_last_12 : Fld Z h12 a1 "com/example/mopor/mopor/reduction/VectorTree" "last" "[I" (.ref a6) := F_a1_last_9.other W12 (Or.inl (by omega : @Ne Nat a1 a8))
  have F_a1_marking_12 : Fld Z h12 a1 "com/example/mopor/mopor/reduction/VectorTree" "marking" "[I" (.ref a7) := F_a1_marking_9.other W12 (Or.inl (by omega : @Ne Nat a1 a8))
  have F_a1_depth_12 : Fld Z h12 a1 "com/example/mopor/mopor/reduction/VectorTree" "depth" "[I" (.ref a8) := F_a1_depth_9.other W12 (Or.inl (by omega : @Ne Nat a1 a8))
  have F_a1_transitionCount_12 : Fld Z h12 a1 "com/example/mopor/mopor/reduction/VectorTree" "transitionCount" "I" (.int q_a1_transitionCount) := F_a1_transitionCount_9.other W12 (Or.inl (by omega : @Ne Nat a1 a8))
  have F_a1_size_12 : Fld Z h12 a1 "com/example/mopor/mopor/reduction/VectorTree" "size" "I" (.int q_a1_size) := F_a1_size_9.other W12 (Or.inl (by omega : @Ne Nat a1 a8))
  have E_a2_12 : Exa Z h12 a2 "com/example/mopor/mopor/reduction/LongIntTable" := E_a2_9.wr W12
  have F_a2_keys_12 : Fld Z h12 a2 "com/example/mopor/mopor/reduction/LongIntTable" "keys" "[J" (.ref a3) := F_a2_keys_9.other W12 (Or.inl (by omega : @Ne Nat a2 a8))
  have F_a2_values_12 : Fld Z h12 a2 "com/example/mopor/mopor/reduction/LongIntTable" "values" "[I" (.ref a4) := F_a2_values_9.other W12 (Or.inl (by omega : @Ne Nat a2 a8))
  have F_a2_size_12 : Fld Z h12 a2 "com/example/mopor/mopor/reduction/LongIntTable" "size" "I" (.int q_a2_size) := F_a2_size_9.other W12 (Or.inl (by omega : @Ne Nat a2 a8))
  have A_a3_12 : AJ Z h12 a3 .long q_a3 := A_a3_9.other W12 (by omega : @Ne Nat a3 a8)
  have A_a4_12 : AI Z h12 a4 .int q_a4 := A_a4_9.other W12 (by omega : @Ne Nat a4 a8)
  have A_a5_12 : AI Z h12 a5 .int v3 := A_a5_9.other W12 (by omega : @Ne Nat a5 a8)
  have A_a6_12 : AI Z h12 a6 .int v6 := A_a6_9.other W12 (by omega : @Ne Nat a6 a8)
  have A_a7_12 : AI Z h12 a7 .int v9 := A_a7_9.other W12 (by omega : @Ne Nat a7 a8)
  have A_a8_12 : AI Z h12 a8 .int v12 := A12
  have N12 := Fr.snoc X12 N9 (by omega : n0 ≤ a8)
  have zz12 : n0 ≤ h12.size := Nat.le_trans zz9 (Keep.of_wr W12).1
  have K12 := K9.wr W12 (Or.inl (List.mem_of_getElem? (i := 4) rfl))
  refine Runs.via (T' := T12) (g' := (mkF m 121 #[.val (.ref a1), .val (.int x1), .val (.int x2), .val (.int x3), .val (.int x4)] [])) (fun t k => st12 _ k) ?_
  refine Runs.via (T' := T12) (g' := (mkF m 123 #[.val (.ref a1), .val (.int x1), .val (.int x2), .val (.int x3), .val (.int x4)] [(.ref a1), (.ref a1)])) (fun t k => ?_) ?_
  · show Steps p.tables e below (T12.setTop (mkF m 121 #[.val (.ref a1), .val (.int x1), .val (.int x2), .val (.int x3), .val (.int x4)] [])) t
    refine XS.aloadN X12.here hx rfl (hb hby d9_121) rfl rfl ?_
    show Steps p.tables e below (T12.setTop (mkF m 122 #[.val (.ref a1), .val (.int x1), .val (.int x2), .val (.int x3), .val (.int x4)] [(.ref a1)])) t
    refine XS.dup X12.here hx rfl (hb hby d9_122) rfl rfl ?_
    exact k
  obtain ⟨T13, X13, e13, st13⟩ := getF X12 hx hZ hown (host := "") (Or.inl (hw _ (List.mem_of_getElem? (i := 61) rfl))) Via.refl e12 F_a1_size_12 (g := (mkF m 123 #[.val (.ref a1), .val (.int x1), .val (.int x2), .val (.int x3), .val (.int x4)] [(.ref a1), (.ref a1)])) rfl rfl (hb hby d9_123)
  refine Runs.via (T' := T13) (g' := (mkF m 126 #[.val (.ref a1), .val (.int x1), .val (.int x2), .val (.int x3), .val (.int x4)] [(.int q_a1_size), (.ref a1)])) (fun t k => st13 _ k) ?_
  refine Runs.via (T' := T13) (g' := (mkF m 129 #[.val (.ref a1), .val (.int x1), .val (.int x2), .val (.int x3), .val (.int x4)] [(.int (q_a1_size + (1 : Int32))), (.ref a1), (.int q_a1_size)])) (fun t k => ?_) ?_
  · show Steps p.tables e below (T13.setTop (mkF m 126 #[.val (.ref a1), .val (.int x1), .val (.int x2), .val (.int x3), .val (.int x4)] [(.int q_a1_size), (.ref a1)])) t
    refine XS.dupX1 X13.here hx rfl (hb hby d9_126) rfl rfl rfl ?_
    show Steps p.tables e below (T13.setTop (mkF m 127 #[.val (.ref a1), .val (.int x1), .val (.int x2), .val (.int x3), .val (.int x4)] [(.int q_a1_size), (.ref a1), (.int q_a1_size)])) t
    refine XS.iconst X13.here hx rfl (hb hby d9_127) ?_
    show Steps p.tables e below (T13.setTop (mkF m 128 #[.val (.ref a1), .val (.int x1), .val (.int x2), .val (.int x3), .val (.int x4)] [(.int (1 : Int32)), (.int q_a1_size), (.ref a1), (.int q_a1_size)])) t
    refine XS.iadd X13.here hx rfl (hb hby d9_128) rfl ?_
    exact k
  refine letE hr ?_; intro v14 hv14 hr
  rw [← hv14]
  obtain ⟨T15, h15, X15, e15, W15, st15⟩ := putF X13 hx hZ hown (host := "") (Or.inl (hw _ (List.mem_of_getElem? (i := 61) rfl))) Via.refl e13 F_a1_size_12 E_a1_12 (Or.inl (hw _ (List.mem_of_getElem? (i := 62) rfl))) (hw _ (List.mem_of_getElem? (i := 1) rfl)) (ty := .int) (by decide) rfl rfl (g := (mkF m 129 #[.val (.ref a1), .val (.int x1), .val (.int x2), .val (.int x3), .val (.int x4)] [(.int v14), (.ref a1), (.int q_a1_size)])) rfl rfl (hb hby d9_129)
  have E_a1_15 : Exa Z h15 a1 "com/example/mopor/mopor/reduction/VectorTree" := E_a1_12.wr W15
  have F_a1_nodes_15 : Fld Z h15 a1 "com/example/mopor/mopor/reduction/VectorTree" "nodes" "Lcom/example/mopor/mopor/reduction/LongIntTable;" (.ref a2) := F_a1_nodes_12.other W15 (Or.inr (slot_ne (Or.inr (hw _ (List.mem_of_getElem? (i := 31) rfl))) (Or.inl (hw _ (List.mem_of_getElem? (i := 62) rfl))) (by decide) (t := (.object "com/example/mopor/mopor/reduction/LongIntTable")) (t' := .int) (by decide) (by decide)))
  have F_a1_parent_15 : Fld Z h15 a1 "com/example/mopor/mopor/reduction/VectorTree" "parent" "[I" (.ref a5) := F_a1_parent_12.other W15 (Or.inr (slot_ne (Or.inl (hw _ (List.mem_of_getElem? (i := 33) rfl))) (Or.inl (hw _ (List.mem_of_getElem? (i := 62) rfl))) (by decide) (t := (.array .int)) (t' := .int) (by decide) (by decide)))
  have F_a1_last_15 : Fld Z h15 a1 "com/example/mopor/mopor/reduction/VectorTree" "last" "[I" (.ref a6) := F_a1_last_12.other W15 (Or.inr (slot_ne (Or.inl (hw _ (List.mem_of_getElem? (i := 35) rfl))) (Or.inl (hw _ (List.mem_of_getElem? (i := 62) rfl))) (by decide) (t := (.array .int)) (t' := .int) (by decide) (by decide)))
  have F_a1_marking_15 : Fld Z h15 a1 "com/example/mopor/mopor/reduction/VectorTree" "marking" "[I" (.ref a7) := F_a1_marking_12.other W15 (Or.inr (slot_ne (Or.inl (hw _ (List.mem_of_getElem? (i := 37) rfl))) (Or.inl (hw _ (List.mem_of_getElem? (i := 62) rfl))) (by decide) (t := (.array .int)) (t' := .int) (by decide) (by decide)))
  have F_a1_depth_15 : Fld Z h15 a1 "com/example/mopor/mopor/reduction/VectorTree" "depth" "[I" (.ref a8) := F_a1_depth_12.other W15 (Or.inr (slot_ne (Or.inl (hw _ (List.mem_of_getElem? (i := 39) rfl))) (Or.inl (hw _ (List.mem_of_getElem? (i := 62) rfl))) (by decide) (t := (.array .int)) (t' := .int) (by decide) (by decide)))
  have F_a1_transitionCount_15 : Fld Z h15 a1 "com/example/mopor/mopor/reduction/VectorTree" "transitionCount" "I" (.int q_a1_transitionCount) := F_a1_transitionCount_12.other W15 (Or.inr (slot_ne (Or.inr (hw _ (List.mem_of_getElem? (i := 41) rfl))) (Or.inl (hw _ (List.mem_of_getElem? (i := 62) rfl))) (by decide) (t := .int) (t' := .int) (by decide) (by decide)))
  have F_a1_size_15 : Fld Z h15 a1 "com/example/mopor/mopor/reduction/VectorTree" "size" "I" (.int v14) := F_a1_size_12.same W15
  have E_a2_15 : Exa Z h15 a2 "com/example/mopor/mopor/reduction/LongIntTable" := E_a2_12.wr W15
  have F_a2_keys_15 : Fld Z h15 a2 "com/example/mopor/mopor/reduction/LongIntTable" "keys" "[J" (.ref a3) := F_a2_keys_12.other W15 (Or.inl (by omega : @Ne Nat a2 a1))
  have F_a2_values_15 : Fld Z h15 a2 "com/example/mopor/mopor/reduction/LongIntTable" "values" "[I" (.ref a4) := F_a2_values_12.other W15 (Or.inl (by omega : @Ne Nat a2 a1))
  have F_a2_size_15 : Fld Z h15 a2 "com/example/mopor/mopor/reduction/LongIntTable" "size" "I" (.int q_a2_size) := F_a2_size_12.other W15 (Or.inl (by omega : @Ne Nat a2 a1))
  have A_a3_15 : AJ Z h15 a3 .long q_a3 := A_a3_12.other W15 (by omega : @Ne Nat a3 a1)
  have A_a4_15 : AI Z h15 a4 .int q_a4 := A_a4_12.other W15 (by omega : @Ne Nat a4 a1)
  have A_a5_15 : AI Z h15 a5 .int v3 := A_a5_12.other W15 (by omega : @Ne Nat a5 a1)
  have A_a6_15 : AI Z h15 a6 .int v6 := A_a6_12.other W15 (by omega : @Ne Nat a6 a1)
  have A_a7_15 : AI Z h15 a7 .int v9 := A_a7_12.other W15 (by omega : @Ne Nat a7 a1)
  have A_a8_15 : AI Z h15 a8 .int v12 := A_a8_12.other W15 (by omega : @Ne Nat a8 a1)
  have N15 := Fr.snoc X15 N12 (by omega : n0 ≤ a1)
  have zz15 : n0 ≤ h15.size := Nat.le_trans zz12 (Keep.of_wr W15).1
  have K15 := K12.wr W15 (Or.inl (List.mem_of_getElem? (i := 0) rfl))
  refine Runs.via (T' := T15) (g' := (mkF m 132 #[.val (.ref a1), .val (.int x1), .val (.int x2), .val (.int x3), .val (.int x4)] [(.int q_a1_size)])) (fun t k => st15 _ k) ?_
  obtain rfl := Option.some.inj hr
  exact own_retI X15 hx hlk hret (hb hby d9_132) (by show cells ≤ 0; omega) (by show slots ≤ 0; omega) ⟨rfl, N15, (by rw [e15]; exact K15), (by rw [e15]; exact E_a1_15), (by rw [e15]; exact F_a1_nodes_15), (by rw [e15]; exact F_a1_parent_15), (by rw [e15]; exact F_a1_last_15), (by rw [e15]; exact F_a1_marking_15), (by rw [e15]; exact F_a1_depth_15), (by rw [e15]; exact F_a1_transitionCount_15), (by rw [e15]; exact F_a1_size_15), (by rw [e15]; exact A_a5_15), (by rw [e15]; exact A_a6_15), (by rw [e15]; exact A_a7_15), (by rw [e15]; exact A_a8_15)⟩
def g9_0 (x1 : Int32) (x2 : Int32) (x3 : Int32) (x4 : Int32) (q_a1_transitionCount : Int32) (q_a1_size : Int32) (q_a2_size : Int32) (q_a3 : List Int64) (q_a4 : List Int32) (q_a5 : List Int32) (q_a6 : List Int32) (q_a7 : List Int32) (q_a8 : List Int32) : Option (Int32 × Int32 × List Int32 × List Int32 × List Int32 × List Int32) := (if q_a1_size = (lenO q_a5) then none else (g9_80 x1 x2 x3 x4 q_a1_transitionCount q_a1_size q_a2_size q_a3 q_a4 q_a5 q_a6 q_a7 q_a8))
set_option maxRecDepth 65536 in
set_option maxHeartbeats 4000000 in
theorem b9_0 {hE : Heap} {a1 : Addr} {a2 : Addr} {a3 : Addr} {a4 : Addr} {a5 : Addr} {a6 : Addr} {a7 : Addr} {a8 : Addr} {q_a1_transitionCount : Int32} {q_a2_size : Int32} {q_a3 : List Int64} {q_a4 : List Int32} {q_a1_size₀ : Int32} {q_a5₀ : List Int32} {q_a6₀ : List Int32} {q_a7₀ : List Int32} {q_a8₀ : List Int32} {r : Int32 × Int32 × List Int32 × List Int32 × List Int32 × List Int32} (C : Ctx p s m meth c Z a0 "com/example/mopor/mopor/reduction/VectorTree" prog_24_method_8_code 5 (some .int) "add") (X0 : Stand p l e ({ frames := 0, cells := 0, slots := 0, locals := 0 } : Room) s m args below meth c T0 locs cells slots) (e0 : T0.heap = h0) (N0 : Fr n0 locs) (hk : cells ≤ 0) (hn : slots ≤ 0) (Z1 : n0 ≤ h0.size) (KE : Keep hE h0 [a1, a5, a6, a7, a8]) (o0 : n0 ≤ a1) (o1 : @LT.lt Nat instLTNat a1 a2) (o2 : @LT.lt Nat instLTNat a2 a3) (o3 : @LT.lt Nat instLTNat a3 a4) (o4 : @LT.lt Nat instLTNat a4 a5) (o5 : @LT.lt Nat instLTNat a5 a6) (o6 : @LT.lt Nat instLTNat a6 a7) (o7 : @LT.lt Nat instLTNat a7 a8) (q_a1_size : Int32) (q_a5 : List Int32) (q_a6 : List Int32) (q_a7 : List Int32) (q_a8 : List Int32) (x1 : Int32) (x2 : Int32) (x3 : Int32) (x4 : Int32) (E_a1_0 : Exa Z h0 a1 "com/example/mopor/mopor/reduction/VectorTree") (F_a1_nodes_0 : Fld Z h0 a1 "com/example/mopor/mopor/reduction/VectorTree" "nodes" "Lcom/example/mopor/mopor/reduction/LongIntTable;" (.ref a2)) (F_a1_parent_0 : Fld Z h0 a1 "com/example/mopor/mopor/reduction/VectorTree" "parent" "[I" (.ref a5)) (F_a1_last_0 : Fld Z h0 a1 "com/example/mopor/mopor/reduction/VectorTree" "last" "[I" (.ref a6)) (F_a1_marking_0 : Fld Z h0 a1 "com/example/mopor/mopor/reduction/VectorTree" "marking" "[I" (.ref a7)) (F_a1_depth_0 : Fld Z h0 a1 "com/example/mopor/mopor/reduction/VectorTree" "depth" "[I" (.ref a8)) (F_a1_transitionCount_0 : Fld Z h0 a1 "com/example/mopor/mopor/reduction/VectorTree" "transitionCount" "I" (.int q_a1_transitionCount)) (F_a1_size_0 : Fld Z h0 a1 "com/example/mopor/mopor/reduction/VectorTree" "size" "I" (.int q_a1_size)) (E_a2_0 : Exa Z h0 a2 "com/example/mopor/mopor/reduction/LongIntTable") (F_a2_keys_0 : Fld Z h0 a2 "com/example/mopor/mopor/reduction/LongIntTable" "keys" "[J" (.ref a3)) (F_a2_values_0 : Fld Z h0 a2 "com/example/mopor/mopor/reduction/LongIntTable" "values" "[I" (.ref a4)) (F_a2_size_0 : Fld Z h0 a2 "com/example/mopor/mopor/reduction/LongIntTable" "size" "I" (.int q_a2_size)) (A_a3_0 : AJ Z h0 a3 .long q_a3) (A_a4_0 : AI Z h0 a4 .int q_a4) (A_a5_0 : AI Z h0 a5 .int q_a5) (A_a6_0 : AI Z h0 a6 .int q_a6) (A_a7_0 : AI Z h0 a7 .int q_a7) (A_a8_0 : AI Z h0 a8 .int q_a8) (hr : g9_0 x1 x2 x3 x4 q_a1_transitionCount q_a1_size q_a2_size q_a3 q_a4 q_a5 q_a6 q_a7 q_a8 = some r) :
    Runs p e below s (P9 Z hE a1 a2 a3 a4 a5 a6 a7 a8 q_a1_transitionCount q_a1_size₀ q_a2_size q_a3 q_a4 q_a5₀ q_a6₀ q_a7₀ q_a8₀ n0 r) 0 0 T0 (mkF m 0 #[.val (.ref a1), .val (.int x1), .val (.int x2), .val (.int x3), .val (.int x4)] []) := by
  unfold g9_0 at hr
  have ⟨hx, hZ, hw, hby, hml, hown, hret, hlk, hnm⟩ := C
  refine Runs.via (T' := T0) (g' := (mkF m 1 #[.val (.ref a1), .val (.int x1), .val (.int x2), .val (.int x3), .val (.int x4)] [(.ref a1)])) (fun t k => ?_) ?_
  · show Steps p.tables e below (T0.setTop (mkF m 0 #[.val (.ref a1), .val (.int x1), .val (.int x2), .val (.int x3), .val (.int x4)] [])) t
    refine XS.aloadN X0.here hx rfl (hb hby d9_0) rfl rfl ?_
    exact k
  obtain ⟨T1, X1, e1, st1⟩ := getF X0 hx hZ hown (host := "") (Or.inl (hw _ (List.mem_of_getElem? (i := 61) rfl))) Via.refl e0 F_a1_size_0 (g := (mkF m 1 #[.val (.ref a1), .val (.int x1), .val (.int x2), .val (.int x3), .val (.int x4)] [(.ref a1)])) rfl rfl (hb hby d9_1)
  refine Runs.via (T' := T1) (g' := (mkF m 4 #[.val (.ref a1), .val (.int x1), .val (.int x2), .val (.int x3), .val (.int x4)] [(.int q_a1_size)])) (fun t k => st1 _ k) ?_
  refine Runs.via (T' := T1) (g' := (mkF m 5 #[.val (.ref a1), .val (.int x1), .val (.int x2), .val (.int x3), .val (.int x4)] [(.ref a1), (.int q_a1_size)])) (fun t k => ?_) ?_
  · show Steps p.tables e below (T1.setTop (mkF m 4 #[.val (.ref a1), .val (.int x1), .val (.int x2), .val (.int x3), .val (.int x4)] [(.int q_a1_size)])) t
    refine XS.aloadN X1.here hx rfl (hb hby d9_4) rfl rfl ?_
    exact k
  obtain ⟨T2, X2, e2, st2⟩ := getF X1 hx hZ hown (host := "") (Or.inl (hw _ (List.mem_of_getElem? (i := 32) rfl))) Via.refl e1 F_a1_parent_0 (g := (mkF m 5 #[.val (.ref a1), .val (.int x1), .val (.int x2), .val (.int x3), .val (.int x4)] [(.ref a1), (.int q_a1_size)])) rfl rfl (hb hby d9_5)
  refine Runs.via (T' := T2) (g' := (mkF m 8 #[.val (.ref a1), .val (.int x1), .val (.int x2), .val (.int x3), .val (.int x4)] [(.ref a5), (.int q_a1_size)])) (fun t k => st2 _ k) ?_
  refine Runs.via (T' := T2) (g' := (mkF m 9 #[.val (.ref a1), .val (.int x1), .val (.int x2), .val (.int x3), .val (.int x4)] [(.int (lenO q_a5)), (.int q_a1_size)])) (fun t k => ?_) ?_
  · show Steps p.tables e below (T2.setTop (mkF m 8 #[.val (.ref a1), .val (.int x1), .val (.int x2), .val (.int x3), .val (.int x4)] [(.ref a5), (.int q_a1_size)])) t
    refine lenAI X2 hx hZ e2 A_a5_0 rfl (g := (mkF m 8 #[.val (.ref a1), .val (.int x1), .val (.int x2), .val (.int x3), .val (.int x4)] [(.ref a5), (.int q_a1_size)])) rfl (hb hby d9_8) _ ?_
    exact k
  refine iteE hr (fun hc3 hr => ?_) (fun hc3 hr => ?_)
  · refine Runs.via (T' := T2) (g' := (mkF m 12 #[.val (.ref a1), .val (.int x1), .val (.int x2), .val (.int x3), .val (.int x4)] [])) (fun t k => ?_) ?_
    · show Steps p.tables e below (T2.setTop (mkF m 9 #[.val (.ref a1), .val (.int x1), .val (.int x2), .val (.int x3), .val (.int x4)] [(.int (lenO q_a5)), (.int q_a1_size)])) t
      exact XS.icmpNo X2.here hx rfl (hb hby d9_9) rfl (teq hc3).2 k
    refine Runs.via (T' := T2) (g' := (mkF m 14 #[.val (.ref a1), .val (.int x1), .val (.int x2), .val (.int x3), .val (.int x4)] [(.ref a1), (.ref a1)])) (fun t k => ?_) ?_
    · show Steps p.tables e below (T2.setTop (mkF m 12 #[.val (.ref a1), .val (.int x1), .val (.int x2), .val (.int x3), .val (.int x4)] [])) t
      refine XS.aloadN X2.here hx rfl (hb hby d9_12) rfl rfl ?_
      show Steps p.tables e below (T2.setTop (mkF m 13 #[.val (.ref a1), .val (.int x1), .val (.int x2), .val (.int x3), .val (.int x4)] [(.ref a1)])) t
      refine XS.aloadN X2.here hx rfl (hb hby d9_13) rfl rfl ?_
      exact k
    obtain ⟨T4, X4, e4, st4⟩ := getF X2 hx hZ hown (host := "") (Or.inl (hw _ (List.mem_of_getElem? (i := 32) rfl))) Via.refl e2 F_a1_parent_0 (g := (mkF m 14 #[.val (.ref a1), .val (.int x1), .val (.int x2), .val (.int x3), .val (.int x4)] [(.ref a1), (.ref a1)])) rfl rfl (hb hby d9_14)
    refine Runs.via (T' := T4) (g' := (mkF m 17 #[.val (.ref a1), .val (.int x1), .val (.int x2), .val (.int x3), .val (.int x4)] [(.ref a5), (.ref a1)])) (fun t k => st4 _ k) ?_
    refine Runs.via (T' := T4) (g' := (mkF m 18 #[.val (.ref a1), .val (.int x1), .val (.int x2), .val (.int x3), .val (.int x4)] [(.ref a1), (.ref a5), (.ref a1)])) (fun t k => ?_) ?_
    · show Steps p.tables e below (T4.setTop (mkF m 17 #[.val (.ref a1), .val (.int x1), .val (.int x2), .val (.int x3), .val (.int x4)] [(.ref a5), (.ref a1)])) t
      refine XS.aloadN X4.here hx rfl (hb hby d9_17) rfl rfl ?_
      exact k
    obtain ⟨T5, X5, e5, st5⟩ := getF X4 hx hZ hown (host := "") (Or.inl (hw _ (List.mem_of_getElem? (i := 61) rfl))) Via.refl e4 F_a1_size_0 (g := (mkF m 18 #[.val (.ref a1), .val (.int x1), .val (.int x2), .val (.int x3), .val (.int x4)] [(.ref a1), (.ref a5), (.ref a1)])) rfl rfl (hb hby d9_18)
    refine Runs.via (T' := T5) (g' := (mkF m 21 #[.val (.ref a1), .val (.int x1), .val (.int x2), .val (.int x3), .val (.int x4)] [(.int q_a1_size), (.ref a5), (.ref a1)])) (fun t k => st5 _ k) ?_
    refine Runs.via (T' := T5) (g' := (mkF m 23 #[.val (.ref a1), .val (.int x1), .val (.int x2), .val (.int x3), .val (.int x4)] [(.int (q_a1_size * (2 : Int32))), (.ref a5), (.ref a1)])) (fun t k => ?_) ?_
    · show Steps p.tables e below (T5.setTop (mkF m 21 #[.val (.ref a1), .val (.int x1), .val (.int x2), .val (.int x3), .val (.int x4)] [(.int q_a1_size), (.ref a5), (.ref a1)])) t
      refine XS.iconst X5.here hx rfl (hb hby d9_21) ?_
      show Steps p.tables e below (T5.setTop (mkF m 22 #[.val (.ref a1), .val (.int x1), .val (.int x2), .val (.int x3), .val (.int x4)] [(.int (2 : Int32)), (.int q_a1_size), (.ref a5), (.ref a1)])) t
      refine XS.imul X5.here hx rfl (hb hby d9_22) rfl ?_
      exact k
    exact nomatch hr
  · refine Runs.via (T' := T2) (g' := (mkF m 80 #[.val (.ref a1), .val (.int x1), .val (.int x2), .val (.int x3), .val (.int x4)] [])) (fun t k => ?_) ?_
    · show Steps p.tables e below (T2.setTop (mkF m 9 #[.val (.ref a1), .val (.int x1), .val (.int x2), .val (.int x3), .val (.int x4)] [(.int (lenO q_a5)), (.int q_a1_size)])) t
      exact XS.icmpYes X2.here hx rfl (pc0 := 9) (pc' := 80) rfl (hb hby d9_9) rfl (feq hc3).2 (by decide) (by decide) k
    exact b9_80 C X2 e2 N0 (by show cells ≤ 0; omega) (by show slots ≤ 0; omega) Z1 KE (by omega) (by omega) (by omega) (by omega) (by omega) (by omega) (by omega) (by omega) q_a1_size q_a5 q_a6 q_a7 q_a8 x1 x2 x3 x4 E_a1_0 F_a1_nodes_0 F_a1_parent_0 F_a1_last_0 F_a1_marking_0 F_a1_depth_0 F_a1_transitionCount_0 F_a1_size_0 E_a2_0 F_a2_keys_0 F_a2_values_0 F_a2_size_0 A_a3_0 A_a4_0 A_a5_0 A_a6_0 A_a7_0 A_a8_0 hr
def f9 (x1 : Int32) (x2 : Int32) (x3 : Int32) (x4 : Int32) (q_a1_transitionCount : Int32) (q_a1_size : Int32) (q_a2_size : Int32) (q_a3 : List Int64) (q_a4 : List Int32) (q_a5 : List Int32) (q_a6 : List Int32) (q_a7 : List Int32) (q_a8 : List Int32) : Option (Int32 × Int32 × List Int32 × List Int32 × List Int32 × List Int32) := g9_0 x1 x2 x3 x4 q_a1_transitionCount q_a1_size q_a2_size q_a3 q_a4 q_a5 q_a6 q_a7 q_a8
theorem pn_9 : plainName "com/example/mopor/mopor/reduction/VectorTree" = true := by first | (simp [plainName, overriddenIn]; done) | decide +kernel
theorem ef_9 (m : MethodId) (x1 : Int32) (x2 : Int32) (x3 : Int32) (x4 : Int32) (a1 : Addr) (a2 : Addr) (a3 : Addr) (a4 : Addr) (a5 : Addr) (a6 : Addr) (a7 : Addr) (a8 : Addr) : entryFrame m #[(.ref a1), (.int x1), (.int x2), (.int x3), (.int x4)] 5 = mkF m 0 #[.val (.ref a1), .val (.int x1), .val (.int x2), .val (.int x3), .val (.int x4)] [] := by first | (simp [entryFrame, mkF, argsToLocals, Value.category]; done) | rfl
set_option maxRecDepth 65536 in
set_option maxHeartbeats 4000000 in
theorem rm9 (l : Launch) (Z : State) (a0 : Array Value) (hw : ∀ d ∈ tables_1, d.before a0 Z = true) (ws : List Jvm.Cond) (x1 : Int32) (x2 : Int32) (x3 : Int32) (x4 : Int32) (a1 : Addr) (a2 : Addr) (a3 : Addr) (a4 : Addr) (a5 : Addr) (a6 : Addr) (a7 : Addr) (a8 : Addr) (q_a1_transitionCount : Int32) (q_a1_size : Int32) (q_a2_size : Int32) (q_a3 : List Int64) (q_a4 : List Int32) (q_a5 : List Int32) (q_a6 : List Int32) (q_a7 : List Int32) (q_a8 : List Int32) (hE : Heap) (n0 : Nat) (Z0 : n0 ≤ hE.size) (o0 : n0 ≤ a1) (o1 : @LT.lt Nat instLTNat a1 a2) (o2 : @LT.lt Nat instLTNat a2 a3) (o3 : @LT.lt Nat instLTNat a3 a4) (o4 : @LT.lt Nat instLTNat a4 a5) (o5 : @LT.lt Nat instLTNat a5 a6) (o6 : @LT.lt Nat instLTNat a6 a7) (o7 : @LT.lt Nat instLTNat a7 a8) (E_a1_0 : Exa Z hE a1 "com/example/mopor/mopor/reduction/VectorTree") (F_a1_nodes_0 : Fld Z hE a1 "com/example/mopor/mopor/reduction/VectorTree" "nodes" "Lcom/example/mopor/mopor/reduction/LongIntTable;" (.ref a2)) (F_a1_parent_0 : Fld Z hE a1 "com/example/mopor/mopor/reduction/VectorTree" "parent" "[I" (.ref a5)) (F_a1_last_0 : Fld Z hE a1 "com/example/mopor/mopor/reduction/VectorTree" "last" "[I" (.ref a6)) (F_a1_marking_0 : Fld Z hE a1 "com/example/mopor/mopor/reduction/VectorTree" "marking" "[I" (.ref a7)) (F_a1_depth_0 : Fld Z hE a1 "com/example/mopor/mopor/reduction/VectorTree" "depth" "[I" (.ref a8)) (F_a1_transitionCount_0 : Fld Z hE a1 "com/example/mopor/mopor/reduction/VectorTree" "transitionCount" "I" (.int q_a1_transitionCount)) (F_a1_size_0 : Fld Z hE a1 "com/example/mopor/mopor/reduction/VectorTree" "size" "I" (.int q_a1_size)) (E_a2_0 : Exa Z hE a2 "com/example/mopor/mopor/reduction/LongIntTable") (F_a2_keys_0 : Fld Z hE a2 "com/example/mopor/mopor/reduction/LongIntTable" "keys" "[J" (.ref a3)) (F_a2_values_0 : Fld Z hE a2 "com/example/mopor/mopor/reduction/LongIntTable" "values" "[I" (.ref a4)) (F_a2_size_0 : Fld Z hE a2 "com/example/mopor/mopor/reduction/LongIntTable" "size" "I" (.int q_a2_size)) (A_a3_0 : AJ Z hE a3 .long q_a3) (A_a4_0 : AI Z hE a4 .int q_a4) (A_a5_0 : AI Z hE a5 .int q_a5) (A_a6_0 : AI Z hE a6 .int q_a6) (A_a7_0 : AI Z hE a7 .int q_a7) (A_a8_0 : AI Z hE a8 .int q_a8) (r : Int32 × Int32 × List Int32 × List Int32 × List Int32 × List Int32) (hr : f9 x1 x2 x3 x4 q_a1_transitionCount q_a1_size q_a2_size q_a3 q_a4 q_a5 q_a6 q_a7 q_a8 = some r) :
    MetFree l (⟨"com/example/mopor/mopor/reduction/VectorTree", "add", "(IIII)I"⟩ : MethodName) (head1 (Jvm.Cond.code (⟨"com/example/mopor/mopor/reduction/VectorTree", "add", "(IIII)I"⟩ : MethodName) prog_24_method_8_code 5 (some .int) :: ws) ({ frames := 0, cells := 0, slots := 0, locals := 0 } : Room)) (fun a U => a = #[(.ref a1), (.int x1), (.int x2), (.int x3), (.int x4)] ∧ Z.Warmed39 U.vm ∧ U.heap = hE) (fun _ _ _ _ _ => True) (fun _ U o U' => ∃ v L, o = .returned v ∧ (P9 Z hE a1 a2 a3 a4 a5 a6 a7 a8 q_a1_transitionCount q_a1_size q_a2_size q_a3 q_a4 q_a5 q_a6 q_a7 q_a8 n0 r v U'.heap L) ∧ FrameEnd U o U' L ({ frames := 0, cells := 0, slots := 0, locals := 0 } : Room).cells ({ frames := 0, cells := 0, slots := 0, locals := 0 } : Room).slots) := by
  refine MetFree.of_bodySF (plainFor_of_name pn_9) hisR ?_
  intro p e s m args below meth c s₁ Bd hml0 hP hK
  obtain ⟨rfl, hZ, hh⟩ := hP
  have X0 : Stand p l e ({ frames := 0, cells := 0, slots := 0, locals := 0 } : Room) s m #[(.ref a1), (.int x1), (.int x2), (.int x3), (.int x4)] below meth c s₁ [] 0 0 := Stand.of_body Bd
  have e0 : s₁.heap = hE := by rw [← hh, Bd.state]; rfl
  have C : Ctx p s m meth c Z a0 "com/example/mopor/mopor/reduction/VectorTree" prog_24_method_8_code 5 (some .int) "add" := ⟨Bd.exec, hZ, hw, Bd.bytes, hml0, findClass_of_methodNamed Bd.named, Bd.returns, BodyLoose.notSynchronized Bd, (name_of_methodNamed Bd.named Bd.method).1⟩
  refine Runs.via (fun t k => castTop (ef_9 m x1 x2 x3 x4 a1 a2 a3 a4 a5 a6 a7 a8) k) (b9_0 C X0 e0 (Fr.nil n0) (by show 0 ≤ 0; omega) (by show 0 ≤ 0; omega) Z0 (Keep.refl hE [a1, a5, a6, a7, a8]) (by omega) (by omega) (by omega) (by omega) (by omega) (by omega) (by omega) (by omega) q_a1_size q_a5 q_a6 q_a7 q_a8 x1 x2 x3 x4 E_a1_0 F_a1_nodes_0 F_a1_parent_0 F_a1_last_0 F_a1_marking_0 F_a1_depth_0 F_a1_transitionCount_0 F_a1_size_0 E_a2_0 F_a2_keys_0 F_a2_values_0 F_a2_size_0 A_a3_0 A_a4_0 A_a5_0 A_a6_0 A_a7_0 A_a8_0 hr)
theorem pd_6 : parseMethodDescriptor "(IIII)I" = some ⟨[.int, .int, .int, .int], some .int⟩ := by decide +kernel
theorem d10_0 : decode prog_19_method_3_code 0 = .ok (.lload_n 1, 1) := by decide +kernel
theorem d10_1 : decode prog_19_method_3_code 1 = .ok (.ldc2_w 27, 3) := by decide +kernel
theorem d10_4 : decode prog_19_method_3_code 4 = .ok (.lcmp, 1) := by decide +kernel
theorem d10_5 : decode prog_19_method_3_code 5 = .ok (.ifCond .ne 17, 3) := by decide +kernel
theorem d10_8 : decode prog_19_method_3_code 8 = .ok (.new 29, 3) := by decide +kernel
theorem d10_11 : decode prog_19_method_3_code 11 = .ok (.dup, 1) := by decide +kernel
theorem d10_12 : decode prog_19_method_3_code 12 = .ok (.lload_n 1, 1) := by decide +kernel
theorem d10_18 : decode prog_19_method_3_code 18 = .ok (.invokespecial 35, 3) := by decide +kernel
theorem d10_21 : decode prog_19_method_3_code 21 = .ok (.athrow, 1) := by decide +kernel
theorem d10_22 : decode prog_19_method_3_code 22 = .ok (.aload_n 0, 1) := by decide +kernel
theorem d10_23 : decode prog_19_method_3_code 23 = .ok (.getfield 15, 3) := by decide +kernel
theorem d10_26 : decode prog_19_method_3_code 26 = .ok (.lload_n 1, 1) := by decide +kernel
theorem d10_27 : decode prog_19_method_3_code 27 = .ok (.invokestatic 23, 3) := by decide +kernel
theorem d10_30 : decode prog_19_method_3_code 30 = .ok (.istore 4, 2) := by decide +kernel
theorem d10_32 : decode prog_19_method_3_code 32 = .ok (.aload_n 0, 1) := by decide +kernel
theorem d10_33 : decode prog_19_method_3_code 33 = .ok (.getfield 15, 3) := by decide +kernel
theorem d10_36 : decode prog_19_method_3_code 36 = .ok (.iload 4, 2) := by decide +kernel
theorem d10_38 : decode prog_19_method_3_code 38 = .ok (.laload, 1) := by decide +kernel
theorem d10_39 : decode prog_19_method_3_code 39 = .ok (.ldc2_w 27, 3) := by decide +kernel
theorem d10_42 : decode prog_19_method_3_code 42 = .ok (.lcmp, 1) := by decide +kernel
theorem d10_43 : decode prog_19_method_3_code 43 = .ok (.ifCond .eq 5, 3) := by decide +kernel
theorem d10_46 : decode prog_19_method_3_code 46 = .ok (.iconst 0, 1) := by decide +kernel
theorem d10_47 : decode prog_19_method_3_code 47 = .ok (.ireturn, 1) := by decide +kernel
theorem d10_48 : decode prog_19_method_3_code 48 = .ok (.aload_n 0, 1) := by decide +kernel
theorem d10_49 : decode prog_19_method_3_code 49 = .ok (.getfield 15, 3) := by decide +kernel
theorem d10_52 : decode prog_19_method_3_code 52 = .ok (.iload 4, 2) := by decide +kernel
theorem d10_54 : decode prog_19_method_3_code 54 = .ok (.lload_n 1, 1) := by decide +kernel
theorem d10_55 : decode prog_19_method_3_code 55 = .ok (.lastore, 1) := by decide +kernel
theorem d10_56 : decode prog_19_method_3_code 56 = .ok (.aload_n 0, 1) := by decide +kernel
theorem d10_57 : decode prog_19_method_3_code 57 = .ok (.getfield 19, 3) := by decide +kernel
theorem d10_60 : decode prog_19_method_3_code 60 = .ok (.iload 4, 2) := by decide +kernel
theorem d10_62 : decode prog_19_method_3_code 62 = .ok (.iload_n 3, 1) := by decide +kernel
theorem d10_63 : decode prog_19_method_3_code 63 = .ok (.iastore, 1) := by decide +kernel
theorem d10_64 : decode prog_19_method_3_code 64 = .ok (.aload_n 0, 1) := by decide +kernel
theorem d10_65 : decode prog_19_method_3_code 65 = .ok (.dup, 1) := by decide +kernel
theorem d10_66 : decode prog_19_method_3_code 66 = .ok (.getfield 38, 3) := by decide +kernel
theorem d10_69 : decode prog_19_method_3_code 69 = .ok (.iconst 1, 1) := by decide +kernel
theorem d10_70 : decode prog_19_method_3_code 70 = .ok (.iadd, 1) := by decide +kernel
theorem d10_71 : decode prog_19_method_3_code 71 = .ok (.dup_x1, 1) := by decide +kernel
theorem d10_72 : decode prog_19_method_3_code 72 = .ok (.putfield 38, 3) := by decide +kernel
theorem d10_75 : decode prog_19_method_3_code 75 = .ok (.aload_n 0, 1) := by decide +kernel
theorem d10_76 : decode prog_19_method_3_code 76 = .ok (.getfield 15, 3) := by decide +kernel
theorem d10_79 : decode prog_19_method_3_code 79 = .ok (.arraylength, 1) := by decide +kernel
theorem d10_80 : decode prog_19_method_3_code 80 = .ok (.iconst 2, 1) := by decide +kernel
theorem d10_81 : decode prog_19_method_3_code 81 = .ok (.idiv, 1) := by decide +kernel
theorem d10_82 : decode prog_19_method_3_code 82 = .ok (.if_icmp .le 7, 3) := by decide +kernel
theorem d10_85 : decode prog_19_method_3_code 85 = .ok (.aload_n 0, 1) := by decide +kernel
theorem d10_86 : decode prog_19_method_3_code 86 = .ok (.invokevirtual 42, 3) := by decide +kernel
theorem d10_89 : decode prog_19_method_3_code 89 = .ok (.iconst 1, 1) := by decide +kernel
theorem d10_90 : decode prog_19_method_3_code 90 = .ok (.ireturn, 1) := by decide +kernel
def P10 (Z : State) (hE : Heap) (a1 : Addr) (a2 : Addr) (a3 : Addr) (q_a1_size : Int32) (q_a2 : List Int64) (q_a3 : List Int32) (n0 : Nat) (r : Int32 × Int32 × List Int64 × List Int32) (v : Option Value) (h : Heap) (L : List Loc) : Prop := v = some (.int r.1) ∧ Fr n0 L ∧ Keep hE h [a1, a2, a3] ∧ Exa Z h a1 "com/example/mopor/mopor/reduction/LongIntTable" ∧ Fld Z h a1 "com/example/mopor/mopor/reduction/LongIntTable" "keys" "[J" (.ref a2) ∧ Fld Z h a1 "com/example/mopor/mopor/reduction/LongIntTable" "values" "[I" (.ref a3) ∧ Fld Z h a1 "com/example/mopor/mopor/reduction/LongIntTable" "size" "I" (.int r.2.1) ∧ AJ Z h a2 .long r.2.2.1 ∧ AI Z h a3 .int r.2.2.2
def g10_0 (fuel : Nat) (y1 : Int64) (x3 : Int32) (q_a1_size : Int32) (q_a2 : List Int64) (q_a3 : List Int32) : Option (Int32 × Int32 × List Int64 × List Int32) := (if y1 = (-9223372036854775808 : Int64) then none else ((f8 fuel y1 q_a2).bind fun r3 => ((rdO q_a2 r3).bind fun v5 => (if v5 = (-9223372036854775808 : Int64) then ((wrO q_a2 r3 y1).bind fun v8 => ((wrO q_a3 r3 x3).bind fun v10 => (letO (q_a1_size + (1 : Int32)) fun v12 => (if ((lenO v8) / (2 : Int32)) < v12 then none else some ((1 : Int32), v12, v8, v10))))) else some ((0 : Int32), q_a1_size, q_a2, q_a3)))))
set_option maxRecDepth 65536 in
set_option maxHeartbeats 4000000 in
theorem b10_0 {hE : Heap} {a1 : Addr} {a2 : Addr} {a3 : Addr} {q_a1_size₀ : Int32} {q_a2₀ : List Int64} {q_a3₀ : List Int32} {r : Int32 × Int32 × List Int64 × List Int32} (C : Ctx p s m meth c Z a0 "com/example/mopor/mopor/reduction/LongIntTable" prog_19_method_3_code 5 (some .boolean) "add") (fuel : Nat) (X0 : Stand p l e ({ frames := 1, cells := 0, slots := 0, locals := 18 } : Room) s m args below meth c T0 locs cells slots) (e0 : T0.heap = h0) (N0 : Fr n0 locs) (hk : cells ≤ 0) (hn : slots ≤ 0) (Z1 : n0 ≤ h0.size) (KE : Keep hE h0 [a1, a2, a3]) (o0 : n0 ≤ a1) (o1 : @LT.lt Nat instLTNat a1 a2) (o2 : @LT.lt Nat instLTNat a2 a3) (q_a1_size : Int32) (q_a2 : List Int64) (q_a3 : List Int32) (y1 : Int64) (x3 : Int32) (E_a1_0 : Exa Z h0 a1 "com/example/mopor/mopor/reduction/LongIntTable") (F_a1_keys_0 : Fld Z h0 a1 "com/example/mopor/mopor/reduction/LongIntTable" "keys" "[J" (.ref a2)) (F_a1_values_0 : Fld Z h0 a1 "com/example/mopor/mopor/reduction/LongIntTable" "values" "[I" (.ref a3)) (F_a1_size_0 : Fld Z h0 a1 "com/example/mopor/mopor/reduction/LongIntTable" "size" "I" (.int q_a1_size)) (A_a2_0 : AJ Z h0 a2 .long q_a2) (A_a3_0 : AI Z h0 a3 .int q_a3) (hr : g10_0 fuel y1 x3 q_a1_size q_a2 q_a3 = some r) :
    Runs p e below s (P10 Z hE a1 a2 a3 q_a1_size₀ q_a2₀ q_a3₀ n0 r) 0 0 T0 (mkF m 0 #[.val (.ref a1), .val (.long y1), .second, .val (.int x3), .unset] []) := by
  unfold g10_0 at hr
  have ⟨hx, hZ, hw, hby, hml, hown, hret, hlk, hnm⟩ := C
  refine Runs.via (T' := T0) (g' := (mkF m 5 #[.val (.ref a1), .val (.long y1), .second, .val (.int x3), .unset] [(.int (lcmpW y1 (-9223372036854775808 : Int64)))])) (fun t k => ?_) ?_
  · show Steps p.tables e below (T0.setTop (mkF m 0 #[.val (.ref a1), .val (.long y1), .second, .val (.int x3), .unset] [])) t
    refine XS.lloadN X0.here hx rfl (hb hby d10_0) rfl ?_
    show Steps p.tables e below (T0.setTop (mkF m 1 #[.val (.ref a1), .val (.long y1), .second, .val (.int x3), .unset] [(.long y1)])) t
    refine X0.ldc2Long hx hown (mvT hZ (hw _ (List.mem_of_getElem? (i := 20) rfl))) (g := (mkF m 1 #[.val (.ref a1), .val (.long y1), .second, .val (.int x3), .unset] [(.long y1)])) rfl (hb hby d10_1) _ ?_
    show Steps p.tables e below (T0.setTop (mkF m 4 #[.val (.ref a1), .val (.long y1), .second, .val (.int x3), .unset] [(.long (-9223372036854775808 : Int64)), (.long y1)])) t
    refine XS.lcmp X0.here hx rfl (hb hby d10_4) rfl ?_
    exact k
  refine iteE hr (fun hc1 hr => ?_) (fun hc1 hr => ?_)
  · refine Runs.via (T' := T0) (g' := (mkF m 8 #[.val (.ref a1), .val (.long y1), .second, .val (.int x3), .unset] [])) (fun t k => ?_) ?_
    · show Steps p.tables e below (T0.setTop (mkF m 5 #[.val (.ref a1), .val (.long y1), .second, .val (.int x3), .unset] [(.int (lcmpW y1 (-9223372036854775808 : Int64)))])) t
      exact XS.ifNo X0.here hx rfl (hb hby d10_5) rfl ((if0 _ _).trans (teq ((lw_eq _ _).mpr hc1)).2) k
    exact nomatch hr
  · refine Runs.via (T' := T0) (g' := (mkF m 22 #[.val (.ref a1), .val (.long y1), .second, .val (.int x3), .unset] [])) (fun t k => ?_) ?_
    · show Steps p.tables e below (T0.setTop (mkF m 5 #[.val (.ref a1), .val (.long y1), .second, .val (.int x3), .unset] [(.int (lcmpW y1 (-9223372036854775808 : Int64)))])) t
      exact XS.ifYes X0.here hx rfl (pc0 := 5) (pc' := 22) rfl (hb hby d10_5) rfl ((if0 _ _).trans (feq (fun q => hc1 ((lw_eq _ _).mp q))).2) (by decide) (by decide) k
    refine Runs.via (T' := T0) (g' := (mkF m 23 #[.val (.ref a1), .val (.long y1), .second, .val (.int x3), .unset] [(.ref a1)])) (fun t k => ?_) ?_
    · show Steps p.tables e below (T0.setTop (mkF m 22 #[.val (.ref a1), .val (.long y1), .second, .val (.int x3), .unset] [])) t
      refine XS.aloadN X0.here hx rfl (hb hby d10_22) rfl rfl ?_
      exact k
    obtain ⟨T2, X2, e2, st2⟩ := getF X0 hx hZ hown (host := "") (Or.inl (hw _ (List.mem_of_getElem? (i := 25) rfl))) Via.refl e0 F_a1_keys_0 (g := (mkF m 23 #[.val (.ref a1), .val (.long y1), .second, .val (.int x3), .unset] [(.ref a1)])) rfl rfl (hb hby d10_23)
    refine Runs.via (T' := T2) (g' := (mkF m 26 #[.val (.ref a1), .val (.long y1), .second, .val (.int x3), .unset] [(.ref a2)])) (fun t k => st2 _ k) ?_
    refine Runs.via (T' := T2) (g' := (mkF m 27 #[.val (.ref a1), .val (.long y1), .second, .val (.int x3), .unset] [(.long y1), (.ref a2)])) (fun t k => ?_) ?_
    · show Steps p.tables e below (T2.setTop (mkF m 26 #[.val (.ref a1), .val (.long y1), .second, .val (.int x3), .unset] [(.ref a2)])) t
      refine XS.lloadN X2.here hx rfl (hb hby d10_26) rfl ?_
      exact k
    refine bindE hr ?_; intro r3 hr3m hr
    obtain ⟨_, _, ⟨T3, L3, k3, n3⟩, -, X3, ⟨Lc3, hQ3, l3, y3, z3⟩, st3⟩ := Jvm.LawKit.callS X2 hx (y := (⟨"com/example/mopor/mopor/reduction/LongIntTable", "slotOf", "([JJ)I"⟩ : MethodName)) hown (mvT hZ (hw _ (List.mem_of_getElem? (i := 53) rfl))) (mvT hZ (hw _ (List.mem_of_getElem? (i := 54) rfl))) (mvT hZ (hw _ (List.mem_of_getElem? (i := 11) rfl))) (mvT hZ (hw _ (List.mem_of_getElem? (i := 55) rfl))) (by decide) (backOf (W := 0) (rm8 l Z a0 hw [] y1 a2 q_a2 h0 n0 Z1 (by omega) A_a2_0 fuel r3 hr3m) hZ (hw _ (List.mem_of_getElem? (i := 55) rfl)) (hw _ (List.mem_of_getElem? (i := 11) rfl)) (by decide) (by decide)) (g := (mkF m 27 #[.val (.ref a1), .val (.long y1), .second, .val (.int x3), .unset] [(.long y1), (.ref a2)])) rfl (by rw [hml]; rfl) (argsL := [(.ref a2), (.long y1)]) (rest := []) (lenOf pd_4 rfl) rfl (by show 2 * 0 + _ ≤ _; exact Nat.le_of_eq rfl) (hb hby d10_27) (fun _ _ => ⟨rfl, e2, (by show cells + 0 ≤ 0; omega), (by show slots + 0 ≤ 0; omega)⟩)
    dsimp only [Pt.U, Pt.locs, Pt.cells, Pt.slots] at X3 l3 y3 z3 st3 hQ3
    replace y3 := y3.symm; replace z3 := z3.symm; subst l3 y3 z3
    obtain ⟨rfl, N3q, e3⟩ := hQ3
    have N3 := Fr.app N0 N3q
    refine Runs.via (T' := T3) (g' := (mkF m 30 #[.val (.ref a1), .val (.long y1), .second, .val (.int x3), .unset] [(.int r3)])) (fun t k => st3 _ k) ?_
    refine Runs.via (T' := T3) (g' := (mkF m 33 #[.val (.ref a1), .val (.long y1), .second, .val (.int x3), .val (.int r3)] [(.ref a1)])) (fun t k => ?_) ?_
    · show Steps p.tables e below (T3.setTop (mkF m 30 #[.val (.ref a1), .val (.long y1), .second, .val (.int x3), .unset] [(.int r3)])) t
      refine XS.istore X3.here hx rfl (hb hby d10_30) rfl (l' := #[.val (.ref a1), .val (.long y1), .second, .val (.int x3), .val (.int r3)]) rfl ?_
      show Steps p.tables e below (T3.setTop (mkF m 32 #[.val (.ref a1), .val (.long y1), .second, .val (.int x3), .val (.int r3)] [])) t
      refine XS.aloadN X3.here hx rfl (hb hby d10_32) rfl rfl ?_
      exact k
    obtain ⟨T4, X4, e4, st4⟩ := getF X3 hx hZ hown (host := "") (Or.inl (hw _ (List.mem_of_getElem? (i := 25) rfl))) Via.refl e3 F_a1_keys_0 (g := (mkF m 33 #[.val (.ref a1), .val (.long y1), .second, .val (.int x3), .val (.int r3)] [(.ref a1)])) rfl rfl (hb hby d10_33)
    refine Runs.via (T' := T4) (g' := (mkF m 36 #[.val (.ref a1), .val (.long y1), .second, .val (.int x3), .val (.int r3)] [(.ref a2)])) (fun t k => st4 _ k) ?_
    refine Runs.via (T' := T4) (g' := (mkF m 38 #[.val (.ref a1), .val (.long y1), .second, .val (.int x3), .val (.int r3)] [(.int r3), (.ref a2)])) (fun t k => ?_) ?_
    · show Steps p.tables e below (T4.setTop (mkF m 36 #[.val (.ref a1), .val (.long y1), .second, .val (.int x3), .val (.int r3)] [(.ref a2)])) t
      refine XS.iload X4.here hx rfl (hb hby d10_36) rfl ?_
      exact k
    refine bindE hr ?_; intro v5 hv5 hr
    refine Runs.via (T' := T4) (g' := (mkF m 39 #[.val (.ref a1), .val (.long y1), .second, .val (.int x3), .val (.int r3)] [(.long v5)])) (fun t k => ldJ X4 hx hZ e4 A_a2_0 hv5 (g := (mkF m 38 #[.val (.ref a1), .val (.long y1), .second, .val (.int x3), .val (.int r3)] [(.int r3), (.ref a2)])) rfl rfl (hb hby d10_38) _ k) ?_
    refine Runs.via (T' := T4) (g' := (mkF m 43 #[.val (.ref a1), .val (.long y1), .second, .val (.int x3), .val (.int r3)] [(.int (lcmpW v5 (-9223372036854775808 : Int64)))])) (fun t k => ?_) ?_
    · show Steps p.tables e below (T4.setTop (mkF m 39 #[.val (.ref a1), .val (.long y1), .second, .val (.int x3), .val (.int r3)] [(.long v5)])) t
      refine X4.ldc2Long hx hown (mvT hZ (hw _ (List.mem_of_getElem? (i := 20) rfl))) (g := (mkF m 39 #[.val (.ref a1), .val (.long y1), .second, .val (.int x3), .val (.int r3)] [(.long v5)])) rfl (hb hby d10_39) _ ?_
      show Steps p.tables e below (T4.setTop (mkF m 42 #[.val (.ref a1), .val (.long y1), .second, .val (.int x3), .val (.int r3)] [(.long (-9223372036854775808 : Int64)), (.long v5)])) t
      refine XS.lcmp X4.here hx rfl (hb hby d10_42) rfl ?_
      exact k
    refine iteE hr (fun hc6 hr => ?_) (fun hc6 hr => ?_)
    · refine Runs.via (T' := T4) (g' := (mkF m 48 #[.val (.ref a1), .val (.long y1), .second, .val (.int x3), .val (.int r3)] [])) (fun t k => ?_) ?_
      · show Steps p.tables e below (T4.setTop (mkF m 43 #[.val (.ref a1), .val (.long y1), .second, .val (.int x3), .val (.int r3)] [(.int (lcmpW v5 (-9223372036854775808 : Int64)))])) t
        exact XS.ifYes X4.here hx rfl (pc0 := 43) (pc' := 48) rfl (hb hby d10_43) rfl ((if0 _ _).trans (teq ((lw_eq _ _).mpr hc6)).1) (by decide) (by decide) k
      refine Runs.via (T' := T4) (g' := (mkF m 49 #[.val (.ref a1), .val (.long y1), .second, .val (.int x3), .val (.int r3)] [(.ref a1)])) (fun t k => ?_) ?_
      · show Steps p.tables e below (T4.setTop (mkF m 48 #[.val (.ref a1), .val (.long y1), .second, .val (.int x3), .val (.int r3)] [])) t
        refine XS.aloadN X4.here hx rfl (hb hby d10_48) rfl rfl ?_
        exact k
      obtain ⟨T7, X7, e7, st7⟩ := getF X4 hx hZ hown (host := "") (Or.inl (hw _ (List.mem_of_getElem? (i := 25) rfl))) Via.refl e4 F_a1_keys_0 (g := (mkF m 49 #[.val (.ref a1), .val (.long y1), .second, .val (.int x3), .val (.int r3)] [(.ref a1)])) rfl rfl (hb hby d10_49)
      refine Runs.via (T' := T7) (g' := (mkF m 52 #[.val (.ref a1), .val (.long y1), .second, .val (.int x3), .val (.int r3)] [(.ref a2)])) (fun t k => st7 _ k) ?_
      refine Runs.via (T' := T7) (g' := (mkF m 55 #[.val (.ref a1), .val (.long y1), .second, .val (.int x3), .val (.int r3)] [(.long y1), (.int r3), (.ref a2)])) (fun t k => ?_) ?_
      · show Steps p.tables e below (T7.setTop (mkF m 52 #[.val (.ref a1), .val (.long y1), .second, .val (.int x3), .val (.int r3)] [(.ref a2)])) t
        refine XS.iload X7.here hx rfl (hb hby d10_52) rfl ?_
        show Steps p.tables e below (T7.setTop (mkF m 54 #[.val (.ref a1), .val (.long y1), .second, .val (.int x3), .val (.int r3)] [(.int r3), (.ref a2)])) t
        refine XS.lloadN X7.here hx rfl (hb hby d10_54) rfl ?_
        exact k
      refine bindE hr ?_; intro v8 hv8 hr
      obtain ⟨T8, h8, X8, e8, W8, A8, st8⟩ := soJ X7 hx hZ e7 A_a2_0 hv8 (g := (mkF m 55 #[.val (.ref a1), .val (.long y1), .second, .val (.int x3), .val (.int r3)] [(.long y1), (.int r3), (.ref a2)])) rfl rfl (hb hby d10_55)
      have E_a1_8 : Exa Z h8 a1 "com/example/mopor/mopor/reduction/LongIntTable" := E_a1_0.wr W8
      have F_a1_keys_8 : Fld Z h8 a1 "com/example/mopor/mopor/reduction/LongIntTable" "keys" "[J" (.ref a2) := F_a1_keys_0.other W8 (Or.inl (by omega : @Ne Nat a1 a2))
      have F_a1_values_8 : Fld Z h8 a1 "com/example/mopor/mopor/reduction/LongIntTable" "values" "[I" (.ref a3) := F_a1_values_0.other W8 (Or.inl (by omega : @Ne Nat a1 a2))
      have F_a1_size_8 : Fld Z h8 a1 "com/example/mopor/mopor/reduction/LongIntTable" "size" "I" (.int q_a1_size) := F_a1_size_0.other W8 (Or.inl (by omega : @Ne Nat a1 a2))
      have A_a2_8 : AJ Z h8 a2 .long v8 := A8
      have A_a3_8 : AI Z h8 a3 .int q_a3 := A_a3_0.other W8 (by omega : @Ne Nat a3 a2)
      have N8 := Fr.snoc X8 N3 (by omega : n0 ≤ a2)
      have zz8 : n0 ≤ h8.size := Nat.le_trans Z1 (Keep.of_wr W8).1
      have K8 := KE.wr W8 (Or.inl (List.mem_of_getElem? (i := 1) rfl))
      refine Runs.via (T' := T8) (g' := (mkF m 56 #[.val (.ref a1), .val (.long y1), .second, .val (.int x3), .val (.int r3)] [])) (fun t k => st8 _ k) ?_
      refine Runs.via (T' := T8) (g' := (mkF m 57 #[.val (.ref a1), .val (.long y1), .second, .val (.int x3), .val (.int r3)] [(.ref a1)])) (fun t k => ?_) ?_
      · show Steps p.tables e below (T8.setTop (mkF m 56 #[.val (.ref a1), .val (.long y1), .second, .val (.int x3), .val (.int r3)] [])) t
        refine XS.aloadN X8.here hx rfl (hb hby d10_56) rfl rfl ?_
        exact k
      obtain ⟨T9, X9, e9, st9⟩ := getF X8 hx hZ hown (host := "") (Or.inl (hw _ (List.mem_of_getElem? (i := 28) rfl))) Via.refl e8 F_a1_values_8 (g := (mkF m 57 #[.val (.ref a1), .val (.long y1), .second, .val (.int x3), .val (.int r3)] [(.ref a1)])) rfl rfl (hb hby d10_57)
      refine Runs.via (T' := T9) (g' := (mkF m 60 #[.val (.ref a1), .val (.long y1), .second, .val (.int x3), .val (.int r3)] [(.ref a3)])) (fun t k => st9 _ k) ?_
      refine Runs.via (T' := T9) (g' := (mkF m 63 #[.val (.ref a1), .val (.long y1), .second, .val (.int x3), .val (.int r3)] [(.int x3), (.int r3), (.ref a3)])) (fun t k => ?_) ?_
      · show Steps p.tables e below (T9.setTop (mkF m 60 #[.val (.ref a1), .val (.long y1), .second, .val (.int x3), .val (.int r3)] [(.ref a3)])) t
        refine XS.iload X9.here hx rfl (hb hby d10_60) rfl ?_
        show Steps p.tables e below (T9.setTop (mkF m 62 #[.val (.ref a1), .val (.long y1), .second, .val (.int x3), .val (.int r3)] [(.int r3), (.ref a3)])) t
        refine XS.iloadN X9.here hx rfl (hb hby d10_62) rfl ?_
        exact k
      refine bindE hr ?_; intro v10 hv10 hr
      obtain ⟨T10, h10, X10, e10, W10, A10, st10⟩ := soI X9 hx hZ e9 A_a3_8 hv10 (g := (mkF m 63 #[.val (.ref a1), .val (.long y1), .second, .val (.int x3), .val (.int r3)] [(.int x3), (.int r3), (.ref a3)])) rfl rfl (hb hby d10_63)
      have E_a1_10 : Exa Z h10 a1 "com/example/mopor/mopor/reduction/LongIntTable" := E_a1_8.wr W10
      have F_a1_keys_10 : Fld Z h10 a1 "com/example/mopor/mopor/reduction/LongIntTable" "keys" "[J" (.ref a2) := F_a1_keys_8.other W10 (Or.inl (by omega : @Ne Nat a1 a3))
      have F_a1_values_10 : Fld Z h10 a1 "com/example/mopor/mopor/reduction/LongIntTable" "values" "[I" (.ref a3) := F_a1_values_8.other W10 (Or.inl (by omega : @Ne Nat a1 a3))
      have F_a1_size_10 : Fld Z h10 a1 "com/example/mopor/mopor/reduction/LongIntTable" "size" "I" (.int q_a1_size) := F_a1_size_8.other W10 (Or.inl (by omega : @Ne Nat a1 a3))
      have A_a2_10 : AJ Z h10 a2 .long v8 := A_a2_8.other W10 (by omega : @Ne Nat a2 a3)
      have A_a3_10 : AI Z h10 a3 .int v10 := A10
      have N10 := Fr.snoc X10 N8 (by omega : n0 ≤ a3)
      have zz10 : n0 ≤ h10.size := Nat.le_trans zz8 (Keep.of_wr W10).1
      have K10 := K8.wr W10 (Or.inl (List.mem_of_getElem? (i := 2) rfl))
      refine Runs.via (T' := T10) (g' := (mkF m 64 #[.val (.ref a1), .val (.long y1), .second, .val (.int x3), .val (.int r3)] [])) (fun t k => st10 _ k) ?_
      refine Runs.via (T' := T10) (g' := (mkF m 66 #[.val (.ref a1), .val (.long y1), .second, .val (.int x3), .val (.int r3)] [(.ref a1), (.ref a1)])) (fun t k => ?_) ?_
      · show Steps p.tables e below (T10.setTop (mkF m 64 #[.val (.ref a1), .val (.long y1), .second, .val (.int x3), .val (.int r3)] [])) t
        refine XS.aloadN X10.here hx rfl (hb hby d10_64) rfl rfl ?_
        show Steps p.tables e below (T10.setTop (mkF m 65 #[.val (.ref a1), .val (.long y1), .second, .val (.int x3), .val (.int r3)] [(.ref a1)])) t
        refine XS.dup X10.here hx rfl (hb hby d10_65) rfl rfl ?_
        exact k
      obtain ⟨T11, X11, e11, st11⟩ := getF X10 hx hZ hown (host := "") (Or.inl (hw _ (List.mem_of_getElem? (i := 68) rfl))) Via.refl e10 F_a1_size_10 (g := (mkF m 66 #[.val (.ref a1), .val (.long y1), .second, .val (.int x3), .val (.int r3)] [(.ref a1), (.ref a1)])) rfl rfl (hb hby d10_66)
      refine Runs.via (T' := T11) (g' := (mkF m 69 #[.val (.ref a1), .val (.long y1), .second, .val (.int x3), .val (.int r3)] [(.int q_a1_size), (.ref a1)])) (fun t k => st11 _ k) ?_
      refine Runs.via (T' := T11) (g' := (mkF m 72 #[.val (.ref a1), .val (.long y1), .second, .val (.int x3), .val (.int r3)] [(.int (q_a1_size + (1 : Int32))), (.ref a1), (.int (q_a1_size + (1 : Int32)))])) (fun t k => ?_) ?_
      · show Steps p.tables e below (T11.setTop (mkF m 69 #[.val (.ref a1), .val (.long y1), .second, .val (.int x3), .val (.int r3)] [(.int q_a1_size), (.ref a1)])) t
        refine XS.iconst X11.here hx rfl (hb hby d10_69) ?_
        show Steps p.tables e below (T11.setTop (mkF m 70 #[.val (.ref a1), .val (.long y1), .second, .val (.int x3), .val (.int r3)] [(.int (1 : Int32)), (.int q_a1_size), (.ref a1)])) t
        refine XS.iadd X11.here hx rfl (hb hby d10_70) rfl ?_
        show Steps p.tables e below (T11.setTop (mkF m 71 #[.val (.ref a1), .val (.long y1), .second, .val (.int x3), .val (.int r3)] [(.int (q_a1_size + (1 : Int32))), (.ref a1)])) t
        refine XS.dupX1 X11.here hx rfl (hb hby d10_71) rfl rfl rfl ?_
        exact k
      refine letE hr ?_; intro v12 hv12 hr
      rw [← hv12]
      obtain ⟨T13, h13, X13, e13, W13, st13⟩ := putF X11 hx hZ hown (host := "") (Or.inl (hw _ (List.mem_of_getElem? (i := 68) rfl))) Via.refl e11 F_a1_size_10 E_a1_10 (Or.inl (hw _ (List.mem_of_getElem? (i := 69) rfl))) (hw _ (List.mem_of_getElem? (i := 10) rfl)) (ty := .int) (by decide) rfl rfl (g := (mkF m 72 #[.val (.ref a1), .val (.long y1), .second, .val (.int x3), .val (.int r3)] [(.int v12), (.ref a1), (.int v12)])) rfl rfl (hb hby d10_72)
      have E_a1_13 : Exa Z h13 a1 "com/example/mopor/mopor/reduction/LongIntTable" := E_a1_10.wr W13
      have F_a1_keys_13 : Fld Z h13 a1 "com/example/mopor/mopor/reduction/LongIntTable" "keys" "[J" (.ref a2) := F_a1_keys_10.other W13 (Or.inr (slot_ne (Or.inl (hw _ (List.mem_of_getElem? (i := 26) rfl))) (Or.inl (hw _ (List.mem_of_getElem? (i := 69) rfl))) (by decide) (t := (.array .long)) (t' := .int) (by decide) (by decide)))
      have F_a1_values_13 : Fld Z h13 a1 "com/example/mopor/mopor/reduction/LongIntTable" "values" "[I" (.ref a3) := F_a1_values_10.other W13 (Or.inr (slot_ne (Or.inl (hw _ (List.mem_of_getElem? (i := 29) rfl))) (Or.inl (hw _ (List.mem_of_getElem? (i := 69) rfl))) (by decide) (t := (.array .int)) (t' := .int) (by decide) (by decide)))
      have F_a1_size_13 : Fld Z h13 a1 "com/example/mopor/mopor/reduction/LongIntTable" "size" "I" (.int v12) := F_a1_size_10.same W13
      have A_a2_13 : AJ Z h13 a2 .long v8 := A_a2_10.other W13 (by omega : @Ne Nat a2 a1)
      have A_a3_13 : AI Z h13 a3 .int v10 := A_a3_10.other W13 (by omega : @Ne Nat a3 a1)
      have N13 := Fr.snoc X13 N10 (by omega : n0 ≤ a1)
      have zz13 : n0 ≤ h13.size := Nat.le_trans zz10 (Keep.of_wr W13).1
      have K13 := K10.wr W13 (Or.inl (List.mem_of_getElem? (i := 0) rfl))
      refine Runs.via (T' := T13) (g' := (mkF m 75 #[.val (.ref a1), .val (.long y1), .second, .val (.int x3), .val (.int r3)] [(.int v12)])) (fun t k => st13 _ k) ?_
      refine Runs.via (T' := T13) (g' := (mkF m 76 #[.val (.ref a1), .val (.long y1), .second, .val (.int x3), .val (.int r3)] [(.ref a1), (.int v12)])) (fun t k => ?_) ?_
      · show Steps p.tables e below (T13.setTop (mkF m 75 #[.val (.ref a1), .val (.long y1), .second, .val (.int x3), .val (.int r3)] [(.int v12)])) t
        refine XS.aloadN X13.here hx rfl (hb hby d10_75) rfl rfl ?_
        exact k
      obtain ⟨T14, X14, e14, st14⟩ := getF X13 hx hZ hown (host := "") (Or.inl (hw _ (List.mem_of_getElem? (i := 25) rfl))) Via.refl e13 F_a1_keys_13 (g := (mkF m 76 #[.val (.ref a1), .val (.long y1), .second, .val (.int x3), .val (.int r3)] [(.ref a1), (.int v12)])) rfl rfl (hb hby d10_76)
      refine Runs.via (T' := T14) (g' := (mkF m 79 #[.val (.ref a1), .val (.long y1), .second, .val (.int x3), .val (.int r3)] [(.ref a2), (.int v12)])) (fun t k => st14 _ k) ?_
      refine Runs.via (T' := T14) (g' := (mkF m 82 #[.val (.ref a1), .val (.long y1), .second, .val (.int x3), .val (.int r3)] [(.int ((lenO v8) / (2 : Int32))), (.int v12)])) (fun t k => ?_) ?_
      · show Steps p.tables e below (T14.setTop (mkF m 79 #[.val (.ref a1), .val (.long y1), .second, .val (.int x3), .val (.int r3)] [(.ref a2), (.int v12)])) t
        refine lenAJ X14 hx hZ e14 A_a2_13 rfl (g := (mkF m 79 #[.val (.ref a1), .val (.long y1), .second, .val (.int x3), .val (.int r3)] [(.ref a2), (.int v12)])) rfl (hb hby d10_79) _ ?_
        show Steps p.tables e below (T14.setTop (mkF m 80 #[.val (.ref a1), .val (.long y1), .second, .val (.int x3), .val (.int r3)] [(.int (lenO v8)), (.int v12)])) t
        refine XS.iconst X14.here hx rfl (hb hby d10_80) ?_
        show Steps p.tables e below (T14.setTop (mkF m 81 #[.val (.ref a1), .val (.long y1), .second, .val (.int x3), .val (.int r3)] [(.int (2 : Int32)), (.int (lenO v8)), (.int v12)])) t
        refine XS.idiv X14.here hx rfl (hb hby d10_81) rfl (by decide) ?_
        exact k
      refine iteE hr (fun hc15 hr => ?_) (fun hc15 hr => ?_)
      · refine Runs.via (T' := T14) (g' := (mkF m 85 #[.val (.ref a1), .val (.long y1), .second, .val (.int x3), .val (.int r3)] [])) (fun t k => ?_) ?_
        · show Steps p.tables e below (T14.setTop (mkF m 82 #[.val (.ref a1), .val (.long y1), .second, .val (.int x3), .val (.int r3)] [(.int ((lenO v8) / (2 : Int32))), (.int v12)])) t
          exact XS.icmpNo X14.here hx rfl (hb hby d10_82) rfl (tlt hc15).2.2.2 k
        refine Runs.via (T' := T14) (g' := (mkF m 86 #[.val (.ref a1), .val (.long y1), .second, .val (.int x3), .val (.int r3)] [(.ref a1)])) (fun t k => ?_) ?_
        · show Steps p.tables e below (T14.setTop (mkF m 85 #[.val (.ref a1), .val (.long y1), .second, .val (.int x3), .val (.int r3)] [])) t
          refine XS.aloadN X14.here hx rfl (hb hby d10_85) rfl rfl ?_
          exact k
        exact nomatch hr
      · refine Runs.via (T' := T14) (g' := (mkF m 89 #[.val (.ref a1), .val (.long y1), .second, .val (.int x3), .val (.int r3)] [])) (fun t k => ?_) ?_
        · show Steps p.tables e below (T14.setTop (mkF m 82 #[.val (.ref a1), .val (.long y1), .second, .val (.int x3), .val (.int r3)] [(.int ((lenO v8) / (2 : Int32))), (.int v12)])) t
          exact XS.icmpYes X14.here hx rfl (pc0 := 82) (pc' := 89) rfl (hb hby d10_82) rfl (flt hc15).2.2.2 (by decide) (by decide) k
        refine Runs.via (T' := T14) (g' := (mkF m 90 #[.val (.ref a1), .val (.long y1), .second, .val (.int x3), .val (.int r3)] [(.int (1 : Int32))])) (fun t k => ?_) ?_
        · show Steps p.tables e below (T14.setTop (mkF m 89 #[.val (.ref a1), .val (.long y1), .second, .val (.int x3), .val (.int r3)] [])) t
          refine XS.iconst X14.here hx rfl (hb hby d10_89) ?_
          exact k
        obtain rfl := Option.some.inj hr
        exact own_retN X14 hx hlk (t := .boolean) hret (by simp) (hb hby d10_90) (by show (cells + 0) ≤ 0; omega) (by show (slots + 0) ≤ 0; omega) ⟨rfl, N13, (by rw [e14]; exact K13), (by rw [e14]; exact E_a1_13), (by rw [e14]; exact F_a1_keys_13), (by rw [e14]; exact F_a1_values_13), (by rw [e14]; exact F_a1_size_13), (by rw [e14]; exact A_a2_13), (by rw [e14]; exact A_a3_13)⟩
    · refine Runs.via (T' := T4) (g' := (mkF m 46 #[.val (.ref a1), .val (.long y1), .second, .val (.int x3), .val (.int r3)] [])) (fun t k => ?_) ?_
      · show Steps p.tables e below (T4.setTop (mkF m 43 #[.val (.ref a1), .val (.long y1), .second, .val (.int x3), .val (.int r3)] [(.int (lcmpW v5 (-9223372036854775808 : Int64)))])) t
        exact XS.ifNo X4.here hx rfl (hb hby d10_43) rfl ((if0 _ _).trans (feq (fun q => hc6 ((lw_eq _ _).mp q))).1) k
      refine Runs.via (T' := T4) (g' := (mkF m 47 #[.val (.ref a1), .val (.long y1), .second, .val (.int x3), .val (.int r3)] [(.int (0 : Int32))])) (fun t k => ?_) ?_
      · show Steps p.tables e below (T4.setTop (mkF m 46 #[.val (.ref a1), .val (.long y1), .second, .val (.int x3), .val (.int r3)] [])) t
        refine XS.iconst X4.here hx rfl (hb hby d10_46) ?_
        exact k
      obtain rfl := Option.some.inj hr
      exact own_retN X4 hx hlk (t := .boolean) hret (by simp) (hb hby d10_47) (by show (cells + 0) ≤ 0; omega) (by show (slots + 0) ≤ 0; omega) ⟨rfl, N3, (by rw [e4]; exact KE), (by rw [e4]; exact E_a1_0), (by rw [e4]; exact F_a1_keys_0), (by rw [e4]; exact F_a1_values_0), (by rw [e4]; exact F_a1_size_0), (by rw [e4]; exact A_a2_0), (by rw [e4]; exact A_a3_0)⟩
def f10 (fuel : Nat) (y1 : Int64) (x3 : Int32) (q_a1_size : Int32) (q_a2 : List Int64) (q_a3 : List Int32) : Option (Int32 × Int32 × List Int64 × List Int32) := g10_0 fuel y1 x3 q_a1_size q_a2 q_a3
theorem pn_10 : plainName "com/example/mopor/mopor/reduction/LongIntTable" = true := by first | (simp [plainName, overriddenIn]; done) | decide +kernel
theorem ef_10 (m : MethodId) (y1 : Int64) (x3 : Int32) (a1 : Addr) (a2 : Addr) (a3 : Addr) : entryFrame m #[(.ref a1), (.long y1), (.int x3)] 5 = mkF m 0 #[.val (.ref a1), .val (.long y1), .second, .val (.int x3), .unset] [] := by first | (simp [entryFrame, mkF, argsToLocals, Value.category]; done) | rfl
set_option maxRecDepth 65536 in
set_option maxHeartbeats 4000000 in
theorem rm10 (l : Launch) (Z : State) (a0 : Array Value) (hw : ∀ d ∈ tables_1, d.before a0 Z = true) (ws : List Jvm.Cond) (y1 : Int64) (x3 : Int32) (a1 : Addr) (a2 : Addr) (a3 : Addr) (q_a1_size : Int32) (q_a2 : List Int64) (q_a3 : List Int32) (hE : Heap) (n0 : Nat) (Z0 : n0 ≤ hE.size) (o0 : n0 ≤ a1) (o1 : @LT.lt Nat instLTNat a1 a2) (o2 : @LT.lt Nat instLTNat a2 a3) (E_a1_0 : Exa Z hE a1 "com/example/mopor/mopor/reduction/LongIntTable") (F_a1_keys_0 : Fld Z hE a1 "com/example/mopor/mopor/reduction/LongIntTable" "keys" "[J" (.ref a2)) (F_a1_values_0 : Fld Z hE a1 "com/example/mopor/mopor/reduction/LongIntTable" "values" "[I" (.ref a3)) (F_a1_size_0 : Fld Z hE a1 "com/example/mopor/mopor/reduction/LongIntTable" "size" "I" (.int q_a1_size)) (A_a2_0 : AJ Z hE a2 .long q_a2) (A_a3_0 : AI Z hE a3 .int q_a3) (fuel : Nat) (r : Int32 × Int32 × List Int64 × List Int32) (hr : f10 fuel y1 x3 q_a1_size q_a2 q_a3 = some r) :
    MetFree l (⟨"com/example/mopor/mopor/reduction/LongIntTable", "add", "(JI)Z"⟩ : MethodName) (head1 (Jvm.Cond.code (⟨"com/example/mopor/mopor/reduction/LongIntTable", "add", "(JI)Z"⟩ : MethodName) prog_19_method_3_code 5 (some .boolean) :: ws) ({ frames := 1, cells := 0, slots := 0, locals := 18 } : Room)) (fun a U => a = #[(.ref a1), (.long y1), (.int x3)] ∧ Z.Warmed39 U.vm ∧ U.heap = hE) (fun _ _ _ _ _ => True) (fun _ U o U' => ∃ v L, o = .returned v ∧ (P10 Z hE a1 a2 a3 q_a1_size q_a2 q_a3 n0 r v U'.heap L) ∧ FrameEnd U o U' L ({ frames := 1, cells := 0, slots := 0, locals := 18 } : Room).cells ({ frames := 1, cells := 0, slots := 0, locals := 18 } : Room).slots) := by
  refine MetFree.of_bodySF (plainFor_of_name pn_10) hisR ?_
  intro p e s m args below meth c s₁ Bd hml0 hP hK
  obtain ⟨rfl, hZ, hh⟩ := hP
  have X0 : Stand p l e ({ frames := 1, cells := 0, slots := 0, locals := 18 } : Room) s m #[(.ref a1), (.long y1), (.int x3)] below meth c s₁ [] 0 0 := Stand.of_body Bd
  have e0 : s₁.heap = hE := by rw [← hh, Bd.state]; rfl
  have C : Ctx p s m meth c Z a0 "com/example/mopor/mopor/reduction/LongIntTable" prog_19_method_3_code 5 (some .boolean) "add" := ⟨Bd.exec, hZ, hw, Bd.bytes, hml0, findClass_of_methodNamed Bd.named, Bd.returns, BodyLoose.notSynchronized Bd, (name_of_methodNamed Bd.named Bd.method).1⟩
  refine Runs.via (fun t k => castTop (ef_10 m y1 x3 a1 a2 a3) k) (b10_0 C fuel X0 e0 (Fr.nil n0) (by show 0 ≤ 0; omega) (by show 0 ≤ 0; omega) Z0 (Keep.refl hE [a1, a2, a3]) (by omega) (by omega) (by omega) q_a1_size q_a2 q_a3 y1 x3 E_a1_0 F_a1_keys_0 F_a1_values_0 F_a1_size_0 A_a2_0 A_a3_0 hr)
theorem pd_7 : parseMethodDescriptor "(JI)Z" = some ⟨[.long, .int], some .boolean⟩ := by decide +kernel
theorem d6_0 : decode prog_24_method_2_code 0 = .ok (.aload_n 0, 1) := by decide +kernel
theorem d6_1 : decode prog_24_method_2_code 1 = .ok (.getfield 10, 3) := by decide +kernel
theorem d6_4 : decode prog_24_method_2_code 4 = .ok (.ldc2_w 33, 3) := by decide +kernel
theorem d6_7 : decode prog_24_method_2_code 7 = .ok (.iload_n 1, 1) := by decide +kernel
theorem d6_8 : decode prog_24_method_2_code 8 = .ok (.i2l, 1) := by decide +kernel
theorem d6_9 : decode prog_24_method_2_code 9 = .ok (.lsub, 1) := by decide +kernel
theorem d6_10 : decode prog_24_method_2_code 10 = .ok (.invokevirtual 35, 3) := by decide +kernel
theorem d6_13 : decode prog_24_method_2_code 13 = .ok (.istore_n 2, 1) := by decide +kernel
theorem d6_14 : decode prog_24_method_2_code 14 = .ok (.iload_n 2, 1) := by decide +kernel
theorem d6_15 : decode prog_24_method_2_code 15 = .ok (.ifCond .ge 27, 3) := by decide +kernel
theorem d6_18 : decode prog_24_method_2_code 18 = .ok (.aload_n 0, 1) := by decide +kernel
theorem d6_19 : decode prog_24_method_2_code 19 = .ok (.iconst (-1), 1) := by decide +kernel
theorem d6_20 : decode prog_24_method_2_code 20 = .ok (.iload_n 1, 1) := by decide +kernel
theorem d6_21 : decode prog_24_method_2_code 21 = .ok (.iload_n 1, 1) := by decide +kernel
theorem d6_22 : decode prog_24_method_2_code 22 = .ok (.iconst 0, 1) := by decide +kernel
theorem d6_23 : decode prog_24_method_2_code 23 = .ok (.invokevirtual 39, 3) := by decide +kernel
theorem d6_26 : decode prog_24_method_2_code 26 = .ok (.istore_n 2, 1) := by decide +kernel
theorem d6_27 : decode prog_24_method_2_code 27 = .ok (.aload_n 0, 1) := by decide +kernel
theorem d6_28 : decode prog_24_method_2_code 28 = .ok (.getfield 10, 3) := by decide +kernel
theorem d6_31 : decode prog_24_method_2_code 31 = .ok (.ldc2_w 33, 3) := by decide +kernel
theorem d6_34 : decode prog_24_method_2_code 34 = .ok (.iload_n 1, 1) := by decide +kernel
theorem d6_35 : decode prog_24_method_2_code 35 = .ok (.i2l, 1) := by decide +kernel
theorem d6_36 : decode prog_24_method_2_code 36 = .ok (.lsub, 1) := by decide +kernel
theorem d6_37 : decode prog_24_method_2_code 37 = .ok (.iload_n 2, 1) := by decide +kernel
theorem d6_38 : decode prog_24_method_2_code 38 = .ok (.invokevirtual 43, 3) := by decide +kernel
theorem d6_41 : decode prog_24_method_2_code 41 = .ok (.pop, 1) := by decide +kernel
theorem d6_42 : decode prog_24_method_2_code 42 = .ok (.iload_n 2, 1) := by decide +kernel
theorem d6_43 : decode prog_24_method_2_code 43 = .ok (.ireturn, 1) := by decide +kernel
def P6 (Z : State) (hE : Heap) (a1 : Addr) (a2 : Addr) (a3 : Addr) (a4 : Addr) (a5 : Addr) (a6 : Addr) (a7 : Addr) (a8 : Addr) (q_a1_transitionCount : Int32) (q_a1_size : Int32) (q_a2_size : Int32) (q_a3 : List Int64) (q_a4 : List Int32) (q_a5 : List Int32) (q_a6 : List Int32) (q_a7 : List Int32) (q_a8 : List Int32) (n0 : Nat) (r : Int32 × Int32 × Int32 × List Int64 × List Int32 × List Int32 × List Int32 × List Int32 × List Int32) (v : Option Value) (h : Heap) (L : List Loc) : Prop := v = some (.int r.1) ∧ Fr n0 L ∧ Keep hE h [a1, a2, a3, a4, a5, a6, a7, a8] ∧ Exa Z h a1 "com/example/mopor/mopor/reduction/VectorTree" ∧ Fld Z h a1 "com/example/mopor/mopor/reduction/VectorTree" "nodes" "Lcom/example/mopor/mopor/reduction/LongIntTable;" (.ref a2) ∧ Fld Z h a1 "com/example/mopor/mopor/reduction/VectorTree" "parent" "[I" (.ref a5) ∧ Fld Z h a1 "com/example/mopor/mopor/reduction/VectorTree" "last" "[I" (.ref a6) ∧ Fld Z h a1 "com/example/mopor/mopor/reduction/VectorTree" "marking" "[I" (.ref a7) ∧ Fld Z h a1 "com/example/mopor/mopor/reduction/VectorTree" "depth" "[I" (.ref a8) ∧ Fld Z h a1 "com/example/mopor/mopor/reduction/VectorTree" "transitionCount" "I" (.int q_a1_transitionCount) ∧ Fld Z h a1 "com/example/mopor/mopor/reduction/VectorTree" "size" "I" (.int r.2.1) ∧ Exa Z h a2 "com/example/mopor/mopor/reduction/LongIntTable" ∧ Fld Z h a2 "com/example/mopor/mopor/reduction/LongIntTable" "keys" "[J" (.ref a3) ∧ Fld Z h a2 "com/example/mopor/mopor/reduction/LongIntTable" "values" "[I" (.ref a4) ∧ Fld Z h a2 "com/example/mopor/mopor/reduction/LongIntTable" "size" "I" (.int r.2.2.1) ∧ AJ Z h a3 .long r.2.2.2.1 ∧ AI Z h a4 .int r.2.2.2.2.1 ∧ AI Z h a5 .int r.2.2.2.2.2.1 ∧ AI Z h a6 .int r.2.2.2.2.2.2.1 ∧ AI Z h a7 .int r.2.2.2.2.2.2.2.1 ∧ AI Z h a8 .int r.2.2.2.2.2.2.2.2
def g6_0 (fuel : Nat) (x1 : Int32) (q_a1_transitionCount : Int32) (q_a1_size : Int32) (q_a2_size : Int32) (q_a3 : List Int64) (q_a4 : List Int32) (q_a5 : List Int32) (q_a6 : List Int32) (q_a7 : List Int32) (q_a8 : List Int32) : Option (Int32 × Int32 × Int32 × List Int64 × List Int32 × List Int32 × List Int32 × List Int32 × List Int32) := ((f7 fuel ((-1 : Int64) - (Int32.toInt64 x1)) q_a2_size q_a3 q_a4).bind fun r2 => (if r2 < (0 : Int32) then ((f9 (-1 : Int32) x1 x1 (0 : Int32) q_a1_transitionCount q_a1_size q_a2_size q_a3 q_a4 q_a5 q_a6 q_a7 q_a8).bind fun r4 => ((f10 fuel ((-1 : Int64) - (Int32.toInt64 x1)) r4.1 q_a2_size q_a3 q_a4).bind fun r6 => some (r4.1, r4.2.1, r6.2.1, r6.2.2.1, r6.2.2.2, r4.2.2.1, r4.2.2.2.1, r4.2.2.2.2.1, r4.2.2.2.2.2))) else some (r2, q_a1_size, q_a2_size, q_a3, q_a4, q_a5, q_a6, q_a7, q_a8)))
set_option maxRecDepth 65536 in
set_option maxHeartbeats 4000000 in
theorem b6_0 {hE : Heap} {a1 : Addr} {a2 : Addr} {a3 : Addr} {a4 : Addr} {a5 : Addr} {a6 : Addr} {a7 : Addr} {a8 : Addr} {q_a1_transitionCount : Int32} {q_a1_size₀ : Int32} {q_a2_size₀ : Int32} {q_a3₀ : List Int64} {q_a4₀ : List Int32} {q_a5₀ : List Int32} {q_a6₀ : List Int32} {q_a7₀ : List Int32} {q_a8₀ : List Int32} {r : Int32 × Int32 × Int32 × List Int64 × List Int32 × List Int32 × List Int32 × List Int32 × List Int32} (C : Ctx p s m meth c Z a0 "com/example/mopor/mopor/reduction/VectorTree" prog_24_method_2_code 3 (some .int) "root") (fuel : Nat) (X0 : Stand p l e ({ frames := 2, cells := 0, slots := 0, locals := 34 } : Room) s m args below meth c T0 locs cells slots) (e0 : T0.heap = h0) (N0 : Fr n0 locs) (hk : cells ≤ 0) (hn : slots ≤ 0) (Z1 : n0 ≤ h0.size) (KE : Keep hE h0 [a1, a2, a3, a4, a5, a6, a7, a8]) (o0 : n0 ≤ a1) (o1 : @LT.lt Nat instLTNat a1 a2) (o2 : @LT.lt Nat instLTNat a2 a3) (o3 : @LT.lt Nat instLTNat a3 a4) (o4 : @LT.lt Nat instLTNat a4 a5) (o5 : @LT.lt Nat instLTNat a5 a6) (o6 : @LT.lt Nat instLTNat a6 a7) (o7 : @LT.lt Nat instLTNat a7 a8) (q_a1_size : Int32) (q_a2_size : Int32) (q_a3 : List Int64) (q_a4 : List Int32) (q_a5 : List Int32) (q_a6 : List Int32) (q_a7 : List Int32) (q_a8 : List Int32) (x1 : Int32) (E_a1_0 : Exa Z h0 a1 "com/example/mopor/mopor/reduction/VectorTree") (F_a1_nodes_0 : Fld Z h0 a1 "com/example/mopor/mopor/reduction/VectorTree" "nodes" "Lcom/example/mopor/mopor/reduction/LongIntTable;" (.ref a2)) (F_a1_parent_0 : Fld Z h0 a1 "com/example/mopor/mopor/reduction/VectorTree" "parent" "[I" (.ref a5)) (F_a1_last_0 : Fld Z h0 a1 "com/example/mopor/mopor/reduction/VectorTree" "last" "[I" (.ref a6)) (F_a1_marking_0 : Fld Z h0 a1 "com/example/mopor/mopor/reduction/VectorTree" "marking" "[I" (.ref a7)) (F_a1_depth_0 : Fld Z h0 a1 "com/example/mopor/mopor/reduction/VectorTree" "depth" "[I" (.ref a8)) (F_a1_transitionCount_0 : Fld Z h0 a1 "com/example/mopor/mopor/reduction/VectorTree" "transitionCount" "I" (.int q_a1_transitionCount)) (F_a1_size_0 : Fld Z h0 a1 "com/example/mopor/mopor/reduction/VectorTree" "size" "I" (.int q_a1_size)) (E_a2_0 : Exa Z h0 a2 "com/example/mopor/mopor/reduction/LongIntTable") (F_a2_keys_0 : Fld Z h0 a2 "com/example/mopor/mopor/reduction/LongIntTable" "keys" "[J" (.ref a3)) (F_a2_values_0 : Fld Z h0 a2 "com/example/mopor/mopor/reduction/LongIntTable" "values" "[I" (.ref a4)) (F_a2_size_0 : Fld Z h0 a2 "com/example/mopor/mopor/reduction/LongIntTable" "size" "I" (.int q_a2_size)) (A_a3_0 : AJ Z h0 a3 .long q_a3) (A_a4_0 : AI Z h0 a4 .int q_a4) (A_a5_0 : AI Z h0 a5 .int q_a5) (A_a6_0 : AI Z h0 a6 .int q_a6) (A_a7_0 : AI Z h0 a7 .int q_a7) (A_a8_0 : AI Z h0 a8 .int q_a8) (hr : g6_0 fuel x1 q_a1_transitionCount q_a1_size q_a2_size q_a3 q_a4 q_a5 q_a6 q_a7 q_a8 = some r) :
    Runs p e below s (P6 Z hE a1 a2 a3 a4 a5 a6 a7 a8 q_a1_transitionCount q_a1_size₀ q_a2_size₀ q_a3₀ q_a4₀ q_a5₀ q_a6₀ q_a7₀ q_a8₀ n0 r) 0 0 T0 (mkF m 0 #[.val (.ref a1), .val (.int x1), .unset] []) := by
  unfold g6_0 at hr
  have ⟨hx, hZ, hw, hby, hml, hown, hret, hlk, hnm⟩ := C
  refine Runs.via (T' := T0) (g' := (mkF m 1 #[.val (.ref a1), .val (.int x1), .unset] [(.ref a1)])) (fun t k => ?_) ?_
  · show Steps p.tables e below (T0.setTop (mkF m 0 #[.val (.ref a1), .val (.int x1), .unset] [])) t
    refine XS.aloadN X0.here hx rfl (hb hby d6_0) rfl rfl ?_
    exact k
  obtain ⟨T1, X1, e1, st1⟩ := getF X0 hx hZ hown (host := "") (Or.inl (hw _ (List.mem_of_getElem? (i := 30) rfl))) Via.refl e0 F_a1_nodes_0 (g := (mkF m 1 #[.val (.ref a1), .val (.int x1), .unset] [(.ref a1)])) rfl rfl (hb hby d6_1)
  refine Runs.via (T' := T1) (g' := (mkF m 4 #[.val (.ref a1), .val (.int x1), .unset] [(.ref a2)])) (fun t k => st1 _ k) ?_
  refine Runs.via (T' := T1) (g' := (mkF m 10 #[.val (.ref a1), .val (.int x1), .unset] [(.long ((-1 : Int64) - (Int32.toInt64 x1))), (.ref a2)])) (fun t k => ?_) ?_
  · show Steps p.tables e below (T1.setTop (mkF m 4 #[.val (.ref a1), .val (.int x1), .unset] [(.ref a2)])) t
    refine X1.ldc2Long hx hown (mvT hZ (hw _ (List.mem_of_getElem? (i := 47) rfl))) (g := (mkF m 4 #[.val (.ref a1), .val (.int x1), .unset] [(.ref a2)])) rfl (hb hby d6_4) _ ?_
    show Steps p.tables e below (T1.setTop (mkF m 7 #[.val (.ref a1), .val (.int x1), .unset] [(.long (-1 : Int64)), (.ref a2)])) t
    refine XS.iloadN X1.here hx rfl (hb hby d6_7) rfl ?_
    show Steps p.tables e below (T1.setTop (mkF m 8 #[.val (.ref a1), .val (.int x1), .unset] [(.int x1), (.long (-1 : Int64)), (.ref a2)])) t
    refine XS.i2l X1.here hx rfl (hb hby d6_8) rfl ?_
    show Steps p.tables e below (T1.setTop (mkF m 9 #[.val (.ref a1), .val (.int x1), .unset] [(.long (Int32.toInt64 x1)), (.long (-1 : Int64)), (.ref a2)])) t
    refine XS.lsub X1.here hx rfl (hb hby d6_9) rfl ?_
    exact k
  refine bindE hr ?_; intro r2 hr2m hr
  obtain ⟨cq2, kq2, q2a, q2b, q2c⟩ := isOf hZ e1 E_a2_0
  obtain ⟨_, _, ⟨T2, L2, k2, n2⟩, -, X2, ⟨Lc2, hQ2, l2, y2, z2⟩, st2⟩ := X1.virtualBack hx (y := (⟨"com/example/mopor/mopor/reduction/LongIntTable", "get", "(J)I"⟩ : MethodName)) (z := (⟨"com/example/mopor/mopor/reduction/LongIntTable", "get", "(J)I"⟩ : MethodName)) hown (mvT hZ (hw _ (List.mem_of_getElem? (i := 48) rfl))) (mvT hZ (hw _ (List.mem_of_getElem? (i := 49) rfl))) (notFace_of_selects (args := #[]) (mvT hZ (hw _ (List.mem_of_getElem? (i := 51) rfl)))) (mvT hZ (hw _ (List.mem_of_getElem? (i := 51) rfl))) (mvT hZ (hw _ (List.mem_of_getElem? (i := 50) rfl))) (by decide) (backOf (W := 0) (rm7 l Z a0 hw [] ((-1 : Int64) - (Int32.toInt64 x1)) a2 a3 a4 q_a2_size q_a3 q_a4 h0 n0 Z1 (by omega) (by omega) (by omega) E_a2_0 F_a2_keys_0 F_a2_values_0 F_a2_size_0 A_a3_0 A_a4_0 fuel r2 hr2m) hZ (hw _ (List.mem_of_getElem? (i := 52) rfl)) (hw _ (List.mem_of_getElem? (i := 11) rfl)) (by decide) (by decide)) q2a q2c (g := (mkF m 10 #[.val (.ref a1), .val (.int x1), .unset] [(.long ((-1 : Int64) - (Int32.toInt64 x1))), (.ref a2)])) rfl (by rw [hml]; rfl) (Steps.refl _) (argsL := [(.long ((-1 : Int64) - (Int32.toInt64 x1)))]) (rest := []) (lenOf pd_5 rfl) rfl (by show 2 * 0 + _ ≤ _; exact Nat.le_of_eq rfl) (hb hby d6_10) (fun _ _ => ⟨rfl, e1, (by show cells + 0 ≤ 0; omega), (by show slots + 0 ≤ 0; omega)⟩)
  dsimp only [Pt.U, Pt.locs, Pt.cells, Pt.slots] at X2 l2 y2 z2 st2 hQ2
  replace y2 := y2.symm; replace z2 := z2.symm; subst l2 y2 z2
  obtain ⟨rfl, N2q, e2⟩ := hQ2
  have N2 := Fr.app N0 N2q
  refine Runs.via (T' := T2) (g' := (mkF m 13 #[.val (.ref a1), .val (.int x1), .unset] [(.int r2)])) (fun t k => st2.trans k) ?_
  refine Runs.via (T' := T2) (g' := (mkF m 15 #[.val (.ref a1), .val (.int x1), .val (.int r2)] [(.int r2)])) (fun t k => ?_) ?_
  · show Steps p.tables e below (T2.setTop (mkF m 13 #[.val (.ref a1), .val (.int x1), .unset] [(.int r2)])) t
    refine XS.istoreN X2.here hx rfl (hb hby d6_13) rfl (l' := #[.val (.ref a1), .val (.int x1), .val (.int r2)]) rfl ?_
    show Steps p.tables e below (T2.setTop (mkF m 14 #[.val (.ref a1), .val (.int x1), .val (.int r2)] [])) t
    refine XS.iloadN X2.here hx rfl (hb hby d6_14) rfl ?_
    exact k
  refine iteE hr (fun hc3 hr => ?_) (fun hc3 hr => ?_)
  · refine Runs.via (T' := T2) (g' := (mkF m 18 #[.val (.ref a1), .val (.int x1), .val (.int r2)] [])) (fun t k => ?_) ?_
    · show Steps p.tables e below (T2.setTop (mkF m 15 #[.val (.ref a1), .val (.int x1), .val (.int r2)] [(.int r2)])) t
      exact XS.ifNo X2.here hx rfl (hb hby d6_15) rfl ((if0 _ _).trans (tlt hc3).2.1) k
    refine Runs.via (T' := T2) (g' := (mkF m 23 #[.val (.ref a1), .val (.int x1), .val (.int r2)] [(.int (0 : Int32)), (.int x1), (.int x1), (.int (-1 : Int32)), (.ref a1)])) (fun t k => ?_) ?_
    · show Steps p.tables e below (T2.setTop (mkF m 18 #[.val (.ref a1), .val (.int x1), .val (.int r2)] [])) t
      refine XS.aloadN X2.here hx rfl (hb hby d6_18) rfl rfl ?_
      show Steps p.tables e below (T2.setTop (mkF m 19 #[.val (.ref a1), .val (.int x1), .val (.int r2)] [(.ref a1)])) t
      refine XS.iconst X2.here hx rfl (hb hby d6_19) ?_
      show Steps p.tables e below (T2.setTop (mkF m 20 #[.val (.ref a1), .val (.int x1), .val (.int r2)] [(.int (-1 : Int32)), (.ref a1)])) t
      refine XS.iloadN X2.here hx rfl (hb hby d6_20) rfl ?_
      show Steps p.tables e below (T2.setTop (mkF m 21 #[.val (.ref a1), .val (.int x1), .val (.int r2)] [(.int x1), (.int (-1 : Int32)), (.ref a1)])) t
      refine XS.iloadN X2.here hx rfl (hb hby d6_21) rfl ?_
      show Steps p.tables e below (T2.setTop (mkF m 22 #[.val (.ref a1), .val (.int x1), .val (.int r2)] [(.int x1), (.int x1), (.int (-1 : Int32)), (.ref a1)])) t
      refine XS.iconst X2.here hx rfl (hb hby d6_22) ?_
      exact k
    refine bindE hr ?_; intro r4 hr4m hr
    obtain ⟨cq4, q4, q4'⟩ := E_a1_0.cell
    obtain ⟨_, _, ⟨T4, L4, k4, n4⟩, -, X4, ⟨Lc4, hQ4, l4, y4, z4⟩, st4⟩ := X2.privateBack hx (y := (⟨"com/example/mopor/mopor/reduction/VectorTree", "add", "(IIII)I"⟩ : MethodName)) hown (mvT hZ (hw _ (List.mem_of_getElem? (i := 57) rfl))) (mvT hZ (hw _ (List.mem_of_getElem? (i := 58) rfl))) (own_privSel (mvT hZ (hw _ (List.mem_of_getElem? (i := 1) rfl))) (mvP hZ (hw _ (List.mem_of_getElem? (i := 59) rfl))) (mvT hZ (hw _ (List.mem_of_getElem? (i := 58) rfl))) (by decide)) (Cond.privateMethod_at (mvP hZ (hw _ (List.mem_of_getElem? (i := 59) rfl)) (args := #[]))) (mvT hZ (hw _ (List.mem_of_getElem? (i := 60) rfl))) (by decide) (backOf (W := 0) (rm9 l Z a0 hw [] (-1 : Int32) x1 x1 (0 : Int32) a1 a2 a3 a4 a5 a6 a7 a8 q_a1_transitionCount q_a1_size q_a2_size q_a3 q_a4 q_a5 q_a6 q_a7 q_a8 h0 n0 Z1 (by omega) (by omega) (by omega) (by omega) (by omega) (by omega) (by omega) (by omega) E_a1_0 F_a1_nodes_0 F_a1_parent_0 F_a1_last_0 F_a1_marking_0 F_a1_depth_0 F_a1_transitionCount_0 F_a1_size_0 E_a2_0 F_a2_keys_0 F_a2_values_0 F_a2_size_0 A_a3_0 A_a4_0 A_a5_0 A_a6_0 A_a7_0 A_a8_0 r4 hr4m) hZ (hw _ (List.mem_of_getElem? (i := 60) rfl)) (hw _ (List.mem_of_getElem? (i := 2) rfl)) (by decide) (by decide)) (g := (mkF m 23 #[.val (.ref a1), .val (.int x1), .val (.int r2)] [(.int (0 : Int32)), (.int x1), (.int x1), (.int (-1 : Int32)), (.ref a1)])) rfl (by rw [hml]; rfl) (Steps.refl _) (a := a1) (by rw [e2]; exact q4) q4' (argsL := [(.int (-1 : Int32)), (.int x1), (.int x1), (.int (0 : Int32))]) (rest := []) (lenOf pd_6 rfl) rfl (by show 2 * 0 + _ ≤ _; exact Nat.le_of_eq rfl) (hb hby d6_23) (fun _ _ => ⟨rfl, e2, (by show (cells + 0) + 0 ≤ 0; omega), (by show (slots + 0) + 0 ≤ 0; omega)⟩)
    dsimp only [Pt.U, Pt.locs, Pt.cells, Pt.slots] at X4 l4 y4 z4 st4 hQ4
    replace y4 := y4.symm; replace z4 := z4.symm; subst l4 y4 z4
    obtain ⟨h4, e4⟩ : ∃ z, T4.heap = z := ⟨_, rfl⟩
    rw [e4] at hQ4
    obtain ⟨rfl, N4q, K4q, E_a1_4, F_a1_nodes_4, F_a1_parent_4, F_a1_last_4, F_a1_marking_4, F_a1_depth_4, F_a1_transitionCount_4, F_a1_size_4, A_a5_4, A_a6_4, A_a7_4, A_a8_4⟩ := hQ4
    have N4 := Fr.app N2 N4q
    have E_a2_4 := E_a2_0.keep K4q
    have F_a2_keys_4 := F_a2_keys_0.keep K4q (ninS (by omega : @Ne Nat a2 a1) (ninS (by omega : @Ne Nat a2 a5) (ninS (by omega : @Ne Nat a2 a6) (ninS (by omega : @Ne Nat a2 a7) (ninS (by omega : @Ne Nat a2 a8) nin0)))))
    have F_a2_values_4 := F_a2_values_0.keep K4q (ninS (by omega : @Ne Nat a2 a1) (ninS (by omega : @Ne Nat a2 a5) (ninS (by omega : @Ne Nat a2 a6) (ninS (by omega : @Ne Nat a2 a7) (ninS (by omega : @Ne Nat a2 a8) nin0)))))
    have F_a2_size_4 := F_a2_size_0.keep K4q (ninS (by omega : @Ne Nat a2 a1) (ninS (by omega : @Ne Nat a2 a5) (ninS (by omega : @Ne Nat a2 a6) (ninS (by omega : @Ne Nat a2 a7) (ninS (by omega : @Ne Nat a2 a8) nin0)))))
    have A_a3_4 := A_a3_0.keep K4q (ninS (by omega : @Ne Nat a3 a1) (ninS (by omega : @Ne Nat a3 a5) (ninS (by omega : @Ne Nat a3 a6) (ninS (by omega : @Ne Nat a3 a7) (ninS (by omega : @Ne Nat a3 a8) nin0)))))
    have A_a4_4 := A_a4_0.keep K4q (ninS (by omega : @Ne Nat a4 a1) (ninS (by omega : @Ne Nat a4 a5) (ninS (by omega : @Ne Nat a4 a6) (ninS (by omega : @Ne Nat a4 a7) (ninS (by omega : @Ne Nat a4 a8) nin0)))))
    have K4 := KE.trans K4q (allS (Or.inl (List.mem_of_getElem? (i := 0) rfl)) (allS (Or.inl (List.mem_of_getElem? (i := 4) rfl)) (allS (Or.inl (List.mem_of_getElem? (i := 5) rfl)) (allS (Or.inl (List.mem_of_getElem? (i := 6) rfl)) (allS (Or.inl (List.mem_of_getElem? (i := 7) rfl)) all0)))))
    have zz4 : n0 ≤ h4.size := Nat.le_trans Z1 K4q.1
    refine Runs.via (T' := T4) (g' := (mkF m 26 #[.val (.ref a1), .val (.int x1), .val (.int r2)] [(.int r4.1)])) (fun t k => st4.trans k) ?_
    refine Runs.via (T' := T4) (g' := (mkF m 28 #[.val (.ref a1), .val (.int x1), .val (.int r4.1)] [(.ref a1)])) (fun t k => ?_) ?_
    · show Steps p.tables e below (T4.setTop (mkF m 26 #[.val (.ref a1), .val (.int x1), .val (.int r2)] [(.int r4.1)])) t
      refine XS.istoreN X4.here hx rfl (hb hby d6_26) rfl (l' := #[.val (.ref a1), .val (.int x1), .val (.int r4.1)]) rfl ?_
      show Steps p.tables e below (T4.setTop (mkF m 27 #[.val (.ref a1), .val (.int x1), .val (.int r4.1)] [])) t
      refine XS.aloadN X4.here hx rfl (hb hby d6_27) rfl rfl ?_
      exact k
    obtain ⟨T5, X5, e5, st5⟩ := getF X4 hx hZ hown (host := "") (Or.inl (hw _ (List.mem_of_getElem? (i := 30) rfl))) Via.refl e4 F_a1_nodes_4 (g := (mkF m 28 #[.val (.ref a1), .val (.int x1), .val (.int r4.1)] [(.ref a1)])) rfl rfl (hb hby d6_28)
    refine Runs.via (T' := T5) (g' := (mkF m 31 #[.val (.ref a1), .val (.int x1), .val (.int r4.1)] [(.ref a2)])) (fun t k => st5 _ k) ?_
    refine Runs.via (T' := T5) (g' := (mkF m 38 #[.val (.ref a1), .val (.int x1), .val (.int r4.1)] [(.int r4.1), (.long ((-1 : Int64) - (Int32.toInt64 x1))), (.ref a2)])) (fun t k => ?_) ?_
    · show Steps p.tables e below (T5.setTop (mkF m 31 #[.val (.ref a1), .val (.int x1), .val (.int r4.1)] [(.ref a2)])) t
      refine X5.ldc2Long hx hown (mvT hZ (hw _ (List.mem_of_getElem? (i := 47) rfl))) (g := (mkF m 31 #[.val (.ref a1), .val (.int x1), .val (.int r4.1)] [(.ref a2)])) rfl (hb hby d6_31) _ ?_
      show Steps p.tables e below (T5.setTop (mkF m 34 #[.val (.ref a1), .val (.int x1), .val (.int r4.1)] [(.long (-1 : Int64)), (.ref a2)])) t
      refine XS.iloadN X5.here hx rfl (hb hby d6_34) rfl ?_
      show Steps p.tables e below (T5.setTop (mkF m 35 #[.val (.ref a1), .val (.int x1), .val (.int r4.1)] [(.int x1), (.long (-1 : Int64)), (.ref a2)])) t
      refine XS.i2l X5.here hx rfl (hb hby d6_35) rfl ?_
      show Steps p.tables e below (T5.setTop (mkF m 36 #[.val (.ref a1), .val (.int x1), .val (.int r4.1)] [(.long (Int32.toInt64 x1)), (.long (-1 : Int64)), (.ref a2)])) t
      refine XS.lsub X5.here hx rfl (hb hby d6_36) rfl ?_
      show Steps p.tables e below (T5.setTop (mkF m 37 #[.val (.ref a1), .val (.int x1), .val (.int r4.1)] [(.long ((-1 : Int64) - (Int32.toInt64 x1))), (.ref a2)])) t
      refine XS.iloadN X5.here hx rfl (hb hby d6_37) rfl ?_
      exact k
    refine bindE hr ?_; intro r6 hr6m hr
    obtain ⟨cq6, kq6, q6a, q6b, q6c⟩ := isOf hZ e5 E_a2_4
    obtain ⟨_, _, ⟨T6, L6, k6, n6⟩, -, X6, ⟨Lc6, hQ6, l6, y6, z6⟩, st6⟩ := X5.virtualBack hx (y := (⟨"com/example/mopor/mopor/reduction/LongIntTable", "add", "(JI)Z"⟩ : MethodName)) (z := (⟨"com/example/mopor/mopor/reduction/LongIntTable", "add", "(JI)Z"⟩ : MethodName)) hown (mvT hZ (hw _ (List.mem_of_getElem? (i := 63) rfl))) (mvT hZ (hw _ (List.mem_of_getElem? (i := 64) rfl))) (notFace_of_selects (args := #[]) (mvT hZ (hw _ (List.mem_of_getElem? (i := 66) rfl)))) (mvT hZ (hw _ (List.mem_of_getElem? (i := 66) rfl))) (mvT hZ (hw _ (List.mem_of_getElem? (i := 65) rfl))) (by decide) (backOf (W := 0) (rm10 l Z a0 hw [] ((-1 : Int64) - (Int32.toInt64 x1)) r4.1 a2 a3 a4 q_a2_size q_a3 q_a4 h4 n0 zz4 (by omega) (by omega) (by omega) E_a2_4 F_a2_keys_4 F_a2_values_4 F_a2_size_4 A_a3_4 A_a4_4 fuel r6 hr6m) hZ (hw _ (List.mem_of_getElem? (i := 67) rfl)) (hw _ (List.mem_of_getElem? (i := 11) rfl)) (by decide) (by decide)) q6a q6c (g := (mkF m 38 #[.val (.ref a1), .val (.int x1), .val (.int r4.1)] [(.int r4.1), (.long ((-1 : Int64) - (Int32.toInt64 x1))), (.ref a2)])) rfl (by rw [hml]; rfl) (Steps.refl _) (argsL := [(.long ((-1 : Int64) - (Int32.toInt64 x1))), (.int r4.1)]) (rest := []) (lenOf pd_7 rfl) rfl (by show 2 * 0 + _ ≤ _; exact Nat.le_of_eq rfl) (hb hby d6_38) (fun _ _ => ⟨rfl, e5, (by show ((cells + 0) + 0) + 0 ≤ 0; omega), (by show ((slots + 0) + 0) + 0 ≤ 0; omega)⟩)
    dsimp only [Pt.U, Pt.locs, Pt.cells, Pt.slots] at X6 l6 y6 z6 st6 hQ6
    replace y6 := y6.symm; replace z6 := z6.symm; subst l6 y6 z6
    obtain ⟨h6, e6⟩ : ∃ z, T6.heap = z := ⟨_, rfl⟩
    rw [e6] at hQ6
    obtain ⟨rfl, N6q, K6q, E_a2_6, F_a2_keys_6, F_a2_values_6, F_a2_size_6, A_a3_6, A_a4_6⟩ := hQ6
    have N6 := Fr.app N4 N6q
    have E_a1_6 := E_a1_4.keep K6q
    have F_a1_nodes_6 := F_a1_nodes_4.keep K6q (ninS (by omega : @Ne Nat a1 a2) (ninS (by omega : @Ne Nat a1 a3) (ninS (by omega : @Ne Nat a1 a4) nin0)))
    have F_a1_parent_6 := F_a1_parent_4.keep K6q (ninS (by omega : @Ne Nat a1 a2) (ninS (by omega : @Ne Nat a1 a3) (ninS (by omega : @Ne Nat a1 a4) nin0)))
    have F_a1_last_6 := F_a1_last_4.keep K6q (ninS (by omega : @Ne Nat a1 a2) (ninS (by omega : @Ne Nat a1 a3) (ninS (by omega : @Ne Nat a1 a4) nin0)))
    have F_a1_marking_6 := F_a1_marking_4.keep K6q (ninS (by omega : @Ne Nat a1 a2) (ninS (by omega : @Ne Nat a1 a3) (ninS (by omega : @Ne Nat a1 a4) nin0)))
    have F_a1_depth_6 := F_a1_depth_4.keep K6q (ninS (by omega : @Ne Nat a1 a2) (ninS (by omega : @Ne Nat a1 a3) (ninS (by omega : @Ne Nat a1 a4) nin0)))
    have F_a1_transitionCount_6 := F_a1_transitionCount_4.keep K6q (ninS (by omega : @Ne Nat a1 a2) (ninS (by omega : @Ne Nat a1 a3) (ninS (by omega : @Ne Nat a1 a4) nin0)))
    have F_a1_size_6 := F_a1_size_4.keep K6q (ninS (by omega : @Ne Nat a1 a2) (ninS (by omega : @Ne Nat a1 a3) (ninS (by omega : @Ne Nat a1 a4) nin0)))
    have A_a5_6 := A_a5_4.keep K6q (ninS (by omega : @Ne Nat a5 a2) (ninS (by omega : @Ne Nat a5 a3) (ninS (by omega : @Ne Nat a5 a4) nin0)))
    have A_a6_6 := A_a6_4.keep K6q (ninS (by omega : @Ne Nat a6 a2) (ninS (by omega : @Ne Nat a6 a3) (ninS (by omega : @Ne Nat a6 a4) nin0)))
    have A_a7_6 := A_a7_4.keep K6q (ninS (by omega : @Ne Nat a7 a2) (ninS (by omega : @Ne Nat a7 a3) (ninS (by omega : @Ne Nat a7 a4) nin0)))
    have A_a8_6 := A_a8_4.keep K6q (ninS (by omega : @Ne Nat a8 a2) (ninS (by omega : @Ne Nat a8 a3) (ninS (by omega : @Ne Nat a8 a4) nin0)))
    have K6 := K4.trans K6q (allS (Or.inl (List.mem_of_getElem? (i := 1) rfl)) (allS (Or.inl (List.mem_of_getElem? (i := 2) rfl)) (allS (Or.inl (List.mem_of_getElem? (i := 3) rfl)) all0)))
    have zz6 : n0 ≤ h6.size := Nat.le_trans zz4 K6q.1
    refine Runs.via (T' := T6) (g' := (mkF m 41 #[.val (.ref a1), .val (.int x1), .val (.int r4.1)] [(.int r6.1)])) (fun t k => st6.trans k) ?_
    refine Runs.via (T' := T6) (g' := (mkF m 43 #[.val (.ref a1), .val (.int x1), .val (.int r4.1)] [(.int r4.1)])) (fun t k => ?_) ?_
    · show Steps p.tables e below (T6.setTop (mkF m 41 #[.val (.ref a1), .val (.int x1), .val (.int r4.1)] [(.int r6.1)])) t
      refine XS.pop X6.here hx rfl (hb hby d6_41) rfl rfl ?_
      show Steps p.tables e below (T6.setTop (mkF m 42 #[.val (.ref a1), .val (.int x1), .val (.int r4.1)] [])) t
      refine XS.iloadN X6.here hx rfl (hb hby d6_42) rfl ?_
      exact k
    obtain rfl := Option.some.inj hr
    exact own_retI X6 hx hlk hret (hb hby d6_43) (by show (((cells + 0) + 0) + 0) ≤ 0; omega) (by show (((slots + 0) + 0) + 0) ≤ 0; omega) ⟨rfl, N6, (by rw [e6]; exact K6), (by rw [e6]; exact E_a1_6), (by rw [e6]; exact F_a1_nodes_6), (by rw [e6]; exact F_a1_parent_6), (by rw [e6]; exact F_a1_last_6), (by rw [e6]; exact F_a1_marking_6), (by rw [e6]; exact F_a1_depth_6), (by rw [e6]; exact F_a1_transitionCount_6), (by rw [e6]; exact F_a1_size_6), (by rw [e6]; exact E_a2_6), (by rw [e6]; exact F_a2_keys_6), (by rw [e6]; exact F_a2_values_6), (by rw [e6]; exact F_a2_size_6), (by rw [e6]; exact A_a3_6), (by rw [e6]; exact A_a4_6), (by rw [e6]; exact A_a5_6), (by rw [e6]; exact A_a6_6), (by rw [e6]; exact A_a7_6), (by rw [e6]; exact A_a8_6)⟩
  · refine Runs.via (T' := T2) (g' := (mkF m 42 #[.val (.ref a1), .val (.int x1), .val (.int r2)] [])) (fun t k => ?_) ?_
    · show Steps p.tables e below (T2.setTop (mkF m 15 #[.val (.ref a1), .val (.int x1), .val (.int r2)] [(.int r2)])) t
      exact XS.ifYes X2.here hx rfl (pc0 := 15) (pc' := 42) rfl (hb hby d6_15) rfl ((if0 _ _).trans (flt hc3).2.1) (by decide) (by decide) k
    refine Runs.via (T' := T2) (g' := (mkF m 43 #[.val (.ref a1), .val (.int x1), .val (.int r2)] [(.int r2)])) (fun t k => ?_) ?_
    · show Steps p.tables e below (T2.setTop (mkF m 42 #[.val (.ref a1), .val (.int x1), .val (.int r2)] [])) t
      refine XS.iloadN X2.here hx rfl (hb hby d6_42) rfl ?_
      exact k
    obtain rfl := Option.some.inj hr
    exact own_retI X2 hx hlk hret (hb hby d6_43) (by show (cells + 0) ≤ 0; omega) (by show (slots + 0) ≤ 0; omega) ⟨rfl, N2, (by rw [e2]; exact KE), (by rw [e2]; exact E_a1_0), (by rw [e2]; exact F_a1_nodes_0), (by rw [e2]; exact F_a1_parent_0), (by rw [e2]; exact F_a1_last_0), (by rw [e2]; exact F_a1_marking_0), (by rw [e2]; exact F_a1_depth_0), (by rw [e2]; exact F_a1_transitionCount_0), (by rw [e2]; exact F_a1_size_0), (by rw [e2]; exact E_a2_0), (by rw [e2]; exact F_a2_keys_0), (by rw [e2]; exact F_a2_values_0), (by rw [e2]; exact F_a2_size_0), (by rw [e2]; exact A_a3_0), (by rw [e2]; exact A_a4_0), (by rw [e2]; exact A_a5_0), (by rw [e2]; exact A_a6_0), (by rw [e2]; exact A_a7_0), (by rw [e2]; exact A_a8_0)⟩
def f6 (fuel : Nat) (x1 : Int32) (q_a1_transitionCount : Int32) (q_a1_size : Int32) (q_a2_size : Int32) (q_a3 : List Int64) (q_a4 : List Int32) (q_a5 : List Int32) (q_a6 : List Int32) (q_a7 : List Int32) (q_a8 : List Int32) : Option (Int32 × Int32 × Int32 × List Int64 × List Int32 × List Int32 × List Int32 × List Int32 × List Int32) := g6_0 fuel x1 q_a1_transitionCount q_a1_size q_a2_size q_a3 q_a4 q_a5 q_a6 q_a7 q_a8
theorem pn_6 : plainName "com/example/mopor/mopor/reduction/VectorTree" = true := by first | (simp [plainName, overriddenIn]; done) | decide +kernel
theorem ef_6 (m : MethodId) (x1 : Int32) (a1 : Addr) (a2 : Addr) (a3 : Addr) (a4 : Addr) (a5 : Addr) (a6 : Addr) (a7 : Addr) (a8 : Addr) : entryFrame m #[(.ref a1), (.int x1)] 3 = mkF m 0 #[.val (.ref a1), .val (.int x1), .unset] [] := by first | (simp [entryFrame, mkF, argsToLocals, Value.category]; done) | rfl
set_option maxRecDepth 65536 in
set_option maxHeartbeats 4000000 in
theorem rm6 (l : Launch) (Z : State) (a0 : Array Value) (hw : ∀ d ∈ tables_1, d.before a0 Z = true) (ws : List Jvm.Cond) (x1 : Int32) (a1 : Addr) (a2 : Addr) (a3 : Addr) (a4 : Addr) (a5 : Addr) (a6 : Addr) (a7 : Addr) (a8 : Addr) (q_a1_transitionCount : Int32) (q_a1_size : Int32) (q_a2_size : Int32) (q_a3 : List Int64) (q_a4 : List Int32) (q_a5 : List Int32) (q_a6 : List Int32) (q_a7 : List Int32) (q_a8 : List Int32) (hE : Heap) (n0 : Nat) (Z0 : n0 ≤ hE.size) (o0 : n0 ≤ a1) (o1 : @LT.lt Nat instLTNat a1 a2) (o2 : @LT.lt Nat instLTNat a2 a3) (o3 : @LT.lt Nat instLTNat a3 a4) (o4 : @LT.lt Nat instLTNat a4 a5) (o5 : @LT.lt Nat instLTNat a5 a6) (o6 : @LT.lt Nat instLTNat a6 a7) (o7 : @LT.lt Nat instLTNat a7 a8) (E_a1_0 : Exa Z hE a1 "com/example/mopor/mopor/reduction/VectorTree") (F_a1_nodes_0 : Fld Z hE a1 "com/example/mopor/mopor/reduction/VectorTree" "nodes" "Lcom/example/mopor/mopor/reduction/LongIntTable;" (.ref a2)) (F_a1_parent_0 : Fld Z hE a1 "com/example/mopor/mopor/reduction/VectorTree" "parent" "[I" (.ref a5)) (F_a1_last_0 : Fld Z hE a1 "com/example/mopor/mopor/reduction/VectorTree" "last" "[I" (.ref a6)) (F_a1_marking_0 : Fld Z hE a1 "com/example/mopor/mopor/reduction/VectorTree" "marking" "[I" (.ref a7)) (F_a1_depth_0 : Fld Z hE a1 "com/example/mopor/mopor/reduction/VectorTree" "depth" "[I" (.ref a8)) (F_a1_transitionCount_0 : Fld Z hE a1 "com/example/mopor/mopor/reduction/VectorTree" "transitionCount" "I" (.int q_a1_transitionCount)) (F_a1_size_0 : Fld Z hE a1 "com/example/mopor/mopor/reduction/VectorTree" "size" "I" (.int q_a1_size)) (E_a2_0 : Exa Z hE a2 "com/example/mopor/mopor/reduction/LongIntTable") (F_a2_keys_0 : Fld Z hE a2 "com/example/mopor/mopor/reduction/LongIntTable" "keys" "[J" (.ref a3)) (F_a2_values_0 : Fld Z hE a2 "com/example/mopor/mopor/reduction/LongIntTable" "values" "[I" (.ref a4)) (F_a2_size_0 : Fld Z hE a2 "com/example/mopor/mopor/reduction/LongIntTable" "size" "I" (.int q_a2_size)) (A_a3_0 : AJ Z hE a3 .long q_a3) (A_a4_0 : AI Z hE a4 .int q_a4) (A_a5_0 : AI Z hE a5 .int q_a5) (A_a6_0 : AI Z hE a6 .int q_a6) (A_a7_0 : AI Z hE a7 .int q_a7) (A_a8_0 : AI Z hE a8 .int q_a8) (fuel : Nat) (r : Int32 × Int32 × Int32 × List Int64 × List Int32 × List Int32 × List Int32 × List Int32 × List Int32) (hr : f6 fuel x1 q_a1_transitionCount q_a1_size q_a2_size q_a3 q_a4 q_a5 q_a6 q_a7 q_a8 = some r) :
    MetFree l (⟨"com/example/mopor/mopor/reduction/VectorTree", "root", "(I)I"⟩ : MethodName) (head1 (Jvm.Cond.code (⟨"com/example/mopor/mopor/reduction/VectorTree", "root", "(I)I"⟩ : MethodName) prog_24_method_2_code 3 (some .int) :: ws) ({ frames := 2, cells := 0, slots := 0, locals := 34 } : Room)) (fun a U => a = #[(.ref a1), (.int x1)] ∧ Z.Warmed39 U.vm ∧ U.heap = hE) (fun _ _ _ _ _ => True) (fun _ U o U' => ∃ v L, o = .returned v ∧ (P6 Z hE a1 a2 a3 a4 a5 a6 a7 a8 q_a1_transitionCount q_a1_size q_a2_size q_a3 q_a4 q_a5 q_a6 q_a7 q_a8 n0 r v U'.heap L) ∧ FrameEnd U o U' L ({ frames := 2, cells := 0, slots := 0, locals := 34 } : Room).cells ({ frames := 2, cells := 0, slots := 0, locals := 34 } : Room).slots) := by
  refine MetFree.of_bodySF (plainFor_of_name pn_6) hisR ?_
  intro p e s m args below meth c s₁ Bd hml0 hP hK
  obtain ⟨rfl, hZ, hh⟩ := hP
  have X0 : Stand p l e ({ frames := 2, cells := 0, slots := 0, locals := 34 } : Room) s m #[(.ref a1), (.int x1)] below meth c s₁ [] 0 0 := Stand.of_body Bd
  have e0 : s₁.heap = hE := by rw [← hh, Bd.state]; rfl
  have C : Ctx p s m meth c Z a0 "com/example/mopor/mopor/reduction/VectorTree" prog_24_method_2_code 3 (some .int) "root" := ⟨Bd.exec, hZ, hw, Bd.bytes, hml0, findClass_of_methodNamed Bd.named, Bd.returns, BodyLoose.notSynchronized Bd, (name_of_methodNamed Bd.named Bd.method).1⟩
  refine Runs.via (fun t k => castTop (ef_6 m x1 a1 a2 a3 a4 a5 a6 a7 a8) k) (b6_0 C fuel X0 e0 (Fr.nil n0) (by show 0 ≤ 0; omega) (by show 0 ≤ 0; omega) Z0 (Keep.refl hE [a1, a2, a3, a4, a5, a6, a7, a8]) (by omega) (by omega) (by omega) (by omega) (by omega) (by omega) (by omega) (by omega) q_a1_size q_a2_size q_a3 q_a4 q_a5 q_a6 q_a7 q_a8 x1 E_a1_0 F_a1_nodes_0 F_a1_parent_0 F_a1_last_0 F_a1_marking_0 F_a1_depth_0 F_a1_transitionCount_0 F_a1_size_0 E_a2_0 F_a2_keys_0 F_a2_values_0 F_a2_size_0 A_a3_0 A_a4_0 A_a5_0 A_a6_0 A_a7_0 A_a8_0 hr)
theorem pd_8 : parseMethodDescriptor "(I)I" = some ⟨[.int], some .int⟩ := by decide +kernel
theorem d12_0 : decode prog_24_method_9_code 0 = .ok (.iload_n 1, 1) := by decide +kernel
theorem d12_1 : decode prog_24_method_9_code 1 = .ok (.i2l, 1) := by decide +kernel
theorem d12_2 : decode prog_24_method_9_code 2 = .ok (.aload_n 0, 1) := by decide +kernel
theorem d12_3 : decode prog_24_method_9_code 3 = .ok (.getfield 29, 3) := by decide +kernel
theorem d12_6 : decode prog_24_method_9_code 6 = .ok (.i2l, 1) := by decide +kernel
theorem d12_7 : decode prog_24_method_9_code 7 = .ok (.lmul, 1) := by decide +kernel
theorem d12_8 : decode prog_24_method_9_code 8 = .ok (.iload_n 2, 1) := by decide +kernel
theorem d12_9 : decode prog_24_method_9_code 9 = .ok (.i2l, 1) := by decide +kernel
theorem d12_10 : decode prog_24_method_9_code 10 = .ok (.ladd, 1) := by decide +kernel
theorem d12_11 : decode prog_24_method_9_code 11 = .ok (.lreturn, 1) := by decide +kernel
def P12 (Z : State) (hE : Heap) (a1 : Addr) (a2 : Addr) (a3 : Addr) (a4 : Addr) (a5 : Addr) (a6 : Addr) (a7 : Addr) (a8 : Addr) (q_a1_transitionCount : Int32) (q_a1_size : Int32) (q_a2_size : Int32) (q_a3 : List Int64) (q_a4 : List Int32) (q_a5 : List Int32) (q_a6 : List Int32) (q_a7 : List Int32) (q_a8 : List Int32) (n0 : Nat) (r : Int64) (v : Option Value) (h : Heap) (L : List Loc) : Prop := v = some (.long r) ∧ Fr n0 L ∧ h = hE
def g12_0 (x1 : Int32) (x2 : Int32) (q_a1_transitionCount : Int32) (q_a1_size : Int32) (q_a2_size : Int32) (q_a3 : List Int64) (q_a4 : List Int32) (q_a5 : List Int32) (q_a6 : List Int32) (q_a7 : List Int32) (q_a8 : List Int32) : Option (Int64) := some (((Int32.toInt64 x1) * (Int32.toInt64 q_a1_transitionCount)) + (Int32.toInt64 x2))
set_option maxRecDepth 65536 in
set_option maxHeartbeats 4000000 in
theorem b12_0 {hE : Heap} {a1 : Addr} {a2 : Addr} {a3 : Addr} {a4 : Addr} {a5 : Addr} {a6 : Addr} {a7 : Addr} {a8 : Addr} {q_a1_transitionCount : Int32} {q_a1_size : Int32} {q_a2_size : Int32} {q_a3 : List Int64} {q_a4 : List Int32} {q_a5 : List Int32} {q_a6 : List Int32} {q_a7 : List Int32} {q_a8 : List Int32} {r : Int64} (C : Ctx p s m meth c Z a0 "com/example/mopor/mopor/reduction/VectorTree" prog_24_method_9_code 3 (some .long) "key") (X0 : Stand p l e ({ frames := 0, cells := 0, slots := 0, locals := 0 } : Room) s m args below meth c T0 locs cells slots) (e0 : T0.heap = hE) (N0 : Fr n0 locs) (hk : cells ≤ 0) (hn : slots ≤ 0) (Z1 : n0 ≤ hE.size) (o0 : n0 ≤ a1) (o1 : @LT.lt Nat instLTNat a1 a2) (o2 : @LT.lt Nat instLTNat a2 a3) (o3 : @LT.lt Nat instLTNat a3 a4) (o4 : @LT.lt Nat instLTNat a4 a5) (o5 : @LT.lt Nat instLTNat a5 a6) (o6 : @LT.lt Nat instLTNat a6 a7) (o7 : @LT.lt Nat instLTNat a7 a8) (x1 : Int32) (x2 : Int32) (E_a1_0 : Exa Z hE a1 "com/example/mopor/mopor/reduction/VectorTree") (F_a1_nodes_0 : Fld Z hE a1 "com/example/mopor/mopor/reduction/VectorTree" "nodes" "Lcom/example/mopor/mopor/reduction/LongIntTable;" (.ref a2)) (F_a1_parent_0 : Fld Z hE a1 "com/example/mopor/mopor/reduction/VectorTree" "parent" "[I" (.ref a5)) (F_a1_last_0 : Fld Z hE a1 "com/example/mopor/mopor/reduction/VectorTree" "last" "[I" (.ref a6)) (F_a1_marking_0 : Fld Z hE a1 "com/example/mopor/mopor/reduction/VectorTree" "marking" "[I" (.ref a7)) (F_a1_depth_0 : Fld Z hE a1 "com/example/mopor/mopor/reduction/VectorTree" "depth" "[I" (.ref a8)) (F_a1_transitionCount_0 : Fld Z hE a1 "com/example/mopor/mopor/reduction/VectorTree" "transitionCount" "I" (.int q_a1_transitionCount)) (F_a1_size_0 : Fld Z hE a1 "com/example/mopor/mopor/reduction/VectorTree" "size" "I" (.int q_a1_size)) (E_a2_0 : Exa Z hE a2 "com/example/mopor/mopor/reduction/LongIntTable") (F_a2_keys_0 : Fld Z hE a2 "com/example/mopor/mopor/reduction/LongIntTable" "keys" "[J" (.ref a3)) (F_a2_values_0 : Fld Z hE a2 "com/example/mopor/mopor/reduction/LongIntTable" "values" "[I" (.ref a4)) (F_a2_size_0 : Fld Z hE a2 "com/example/mopor/mopor/reduction/LongIntTable" "size" "I" (.int q_a2_size)) (A_a3_0 : AJ Z hE a3 .long q_a3) (A_a4_0 : AI Z hE a4 .int q_a4) (A_a5_0 : AI Z hE a5 .int q_a5) (A_a6_0 : AI Z hE a6 .int q_a6) (A_a7_0 : AI Z hE a7 .int q_a7) (A_a8_0 : AI Z hE a8 .int q_a8) (hr : g12_0 x1 x2 q_a1_transitionCount q_a1_size q_a2_size q_a3 q_a4 q_a5 q_a6 q_a7 q_a8 = some r) :
    Runs p e below s (P12 Z hE a1 a2 a3 a4 a5 a6 a7 a8 q_a1_transitionCount q_a1_size q_a2_size q_a3 q_a4 q_a5 q_a6 q_a7 q_a8 n0 r) 0 0 T0 (mkF m 0 #[.val (.ref a1), .val (.int x1), .val (.int x2)] []) := by
  unfold g12_0 at hr
  have ⟨hx, hZ, hw, hby, hml, hown, hret, hlk, hnm⟩ := C
  refine Runs.via (T' := T0) (g' := (mkF m 3 #[.val (.ref a1), .val (.int x1), .val (.int x2)] [(.ref a1), (.long (Int32.toInt64 x1))])) (fun t k => ?_) ?_
  · show Steps p.tables e below (T0.setTop (mkF m 0 #[.val (.ref a1), .val (.int x1), .val (.int x2)] [])) t
    refine XS.iloadN X0.here hx rfl (hb hby d12_0) rfl ?_
    show Steps p.tables e below (T0.setTop (mkF m 1 #[.val (.ref a1), .val (.int x1), .val (.int x2)] [(.int x1)])) t
    refine XS.i2l X0.here hx rfl (hb hby d12_1) rfl ?_
    show Steps p.tables e below (T0.setTop (mkF m 2 #[.val (.ref a1), .val (.int x1), .val (.int x2)] [(.long (Int32.toInt64 x1))])) t
    refine XS.aloadN X0.here hx rfl (hb hby d12_2) rfl rfl ?_
    exact k
  obtain ⟨T1, X1, e1, st1⟩ := getF X0 hx hZ hown (host := "") (Or.inl (hw _ (List.mem_of_getElem? (i := 40) rfl))) Via.refl e0 F_a1_transitionCount_0 (g := (mkF m 3 #[.val (.ref a1), .val (.int x1), .val (.int x2)] [(.ref a1), (.long (Int32.toInt64 x1))])) rfl rfl (hb hby d12_3)
  refine Runs.via (T' := T1) (g' := (mkF m 6 #[.val (.ref a1), .val (.int x1), .val (.int x2)] [(.int q_a1_transitionCount), (.long (Int32.toInt64 x1))])) (fun t k => st1 _ k) ?_
  refine Runs.via (T' := T1) (g' := (mkF m 11 #[.val (.ref a1), .val (.int x1), .val (.int x2)] [(.long (((Int32.toInt64 x1) * (Int32.toInt64 q_a1_transitionCount)) + (Int32.toInt64 x2)))])) (fun t k => ?_) ?_
  · show Steps p.tables e below (T1.setTop (mkF m 6 #[.val (.ref a1), .val (.int x1), .val (.int x2)] [(.int q_a1_transitionCount), (.long (Int32.toInt64 x1))])) t
    refine XS.i2l X1.here hx rfl (hb hby d12_6) rfl ?_
    show Steps p.tables e below (T1.setTop (mkF m 7 #[.val (.ref a1), .val (.int x1), .val (.int x2)] [(.long (Int32.toInt64 q_a1_transitionCount)), (.long (Int32.toInt64 x1))])) t
    refine XS.lmul X1.here hx rfl (hb hby d12_7) rfl ?_
    show Steps p.tables e below (T1.setTop (mkF m 8 #[.val (.ref a1), .val (.int x1), .val (.int x2)] [(.long ((Int32.toInt64 x1) * (Int32.toInt64 q_a1_transitionCount)))])) t
    refine XS.iloadN X1.here hx rfl (hb hby d12_8) rfl ?_
    show Steps p.tables e below (T1.setTop (mkF m 9 #[.val (.ref a1), .val (.int x1), .val (.int x2)] [(.int x2), (.long ((Int32.toInt64 x1) * (Int32.toInt64 q_a1_transitionCount)))])) t
    refine XS.i2l X1.here hx rfl (hb hby d12_9) rfl ?_
    show Steps p.tables e below (T1.setTop (mkF m 10 #[.val (.ref a1), .val (.int x1), .val (.int x2)] [(.long (Int32.toInt64 x2)), (.long ((Int32.toInt64 x1) * (Int32.toInt64 q_a1_transitionCount)))])) t
    refine XS.ladd X1.here hx rfl (hb hby d12_10) rfl ?_
    exact k
  obtain rfl := Option.some.inj hr
  exact own_retJ X1 hx hlk hret (hb hby d12_11) (by show cells ≤ 0; omega) (by show slots ≤ 0; omega) ⟨rfl, N0, e1⟩
def f12 (x1 : Int32) (x2 : Int32) (q_a1_transitionCount : Int32) (q_a1_size : Int32) (q_a2_size : Int32) (q_a3 : List Int64) (q_a4 : List Int32) (q_a5 : List Int32) (q_a6 : List Int32) (q_a7 : List Int32) (q_a8 : List Int32) : Option (Int64) := g12_0 x1 x2 q_a1_transitionCount q_a1_size q_a2_size q_a3 q_a4 q_a5 q_a6 q_a7 q_a8
theorem pn_12 : plainName "com/example/mopor/mopor/reduction/VectorTree" = true := by first | (simp [plainName, overriddenIn]; done) | decide +kernel
theorem ef_12 (m : MethodId) (x1 : Int32) (x2 : Int32) (a1 : Addr) (a2 : Addr) (a3 : Addr) (a4 : Addr) (a5 : Addr) (a6 : Addr) (a7 : Addr) (a8 : Addr) : entryFrame m #[(.ref a1), (.int x1), (.int x2)] 3 = mkF m 0 #[.val (.ref a1), .val (.int x1), .val (.int x2)] [] := by first | (simp [entryFrame, mkF, argsToLocals, Value.category]; done) | rfl
set_option maxRecDepth 65536 in
set_option maxHeartbeats 4000000 in
theorem rm12 (l : Launch) (Z : State) (a0 : Array Value) (hw : ∀ d ∈ tables_1, d.before a0 Z = true) (ws : List Jvm.Cond) (x1 : Int32) (x2 : Int32) (a1 : Addr) (a2 : Addr) (a3 : Addr) (a4 : Addr) (a5 : Addr) (a6 : Addr) (a7 : Addr) (a8 : Addr) (q_a1_transitionCount : Int32) (q_a1_size : Int32) (q_a2_size : Int32) (q_a3 : List Int64) (q_a4 : List Int32) (q_a5 : List Int32) (q_a6 : List Int32) (q_a7 : List Int32) (q_a8 : List Int32) (hE : Heap) (n0 : Nat) (Z0 : n0 ≤ hE.size) (o0 : n0 ≤ a1) (o1 : @LT.lt Nat instLTNat a1 a2) (o2 : @LT.lt Nat instLTNat a2 a3) (o3 : @LT.lt Nat instLTNat a3 a4) (o4 : @LT.lt Nat instLTNat a4 a5) (o5 : @LT.lt Nat instLTNat a5 a6) (o6 : @LT.lt Nat instLTNat a6 a7) (o7 : @LT.lt Nat instLTNat a7 a8) (E_a1_0 : Exa Z hE a1 "com/example/mopor/mopor/reduction/VectorTree") (F_a1_nodes_0 : Fld Z hE a1 "com/example/mopor/mopor/reduction/VectorTree" "nodes" "Lcom/example/mopor/mopor/reduction/LongIntTable;" (.ref a2)) (F_a1_parent_0 : Fld Z hE a1 "com/example/mopor/mopor/reduction/VectorTree" "parent" "[I" (.ref a5)) (F_a1_last_0 : Fld Z hE a1 "com/example/mopor/mopor/reduction/VectorTree" "last" "[I" (.ref a6)) (F_a1_marking_0 : Fld Z hE a1 "com/example/mopor/mopor/reduction/VectorTree" "marking" "[I" (.ref a7)) (F_a1_depth_0 : Fld Z hE a1 "com/example/mopor/mopor/reduction/VectorTree" "depth" "[I" (.ref a8)) (F_a1_transitionCount_0 : Fld Z hE a1 "com/example/mopor/mopor/reduction/VectorTree" "transitionCount" "I" (.int q_a1_transitionCount)) (F_a1_size_0 : Fld Z hE a1 "com/example/mopor/mopor/reduction/VectorTree" "size" "I" (.int q_a1_size)) (E_a2_0 : Exa Z hE a2 "com/example/mopor/mopor/reduction/LongIntTable") (F_a2_keys_0 : Fld Z hE a2 "com/example/mopor/mopor/reduction/LongIntTable" "keys" "[J" (.ref a3)) (F_a2_values_0 : Fld Z hE a2 "com/example/mopor/mopor/reduction/LongIntTable" "values" "[I" (.ref a4)) (F_a2_size_0 : Fld Z hE a2 "com/example/mopor/mopor/reduction/LongIntTable" "size" "I" (.int q_a2_size)) (A_a3_0 : AJ Z hE a3 .long q_a3) (A_a4_0 : AI Z hE a4 .int q_a4) (A_a5_0 : AI Z hE a5 .int q_a5) (A_a6_0 : AI Z hE a6 .int q_a6) (A_a7_0 : AI Z hE a7 .int q_a7) (A_a8_0 : AI Z hE a8 .int q_a8) (r : Int64) (hr : f12 x1 x2 q_a1_transitionCount q_a1_size q_a2_size q_a3 q_a4 q_a5 q_a6 q_a7 q_a8 = some r) :
    MetFree l (⟨"com/example/mopor/mopor/reduction/VectorTree", "key", "(II)J"⟩ : MethodName) (head1 (Jvm.Cond.code (⟨"com/example/mopor/mopor/reduction/VectorTree", "key", "(II)J"⟩ : MethodName) prog_24_method_9_code 3 (some .long) :: ws) ({ frames := 0, cells := 0, slots := 0, locals := 0 } : Room)) (fun a U => a = #[(.ref a1), (.int x1), (.int x2)] ∧ Z.Warmed39 U.vm ∧ U.heap = hE) (fun _ _ _ _ _ => True) (fun _ U o U' => ∃ v L, o = .returned v ∧ (P12 Z hE a1 a2 a3 a4 a5 a6 a7 a8 q_a1_transitionCount q_a1_size q_a2_size q_a3 q_a4 q_a5 q_a6 q_a7 q_a8 n0 r v U'.heap L) ∧ FrameEnd U o U' L ({ frames := 0, cells := 0, slots := 0, locals := 0 } : Room).cells ({ frames := 0, cells := 0, slots := 0, locals := 0 } : Room).slots) := by
  refine MetFree.of_bodySF (plainFor_of_name pn_12) hisR ?_
  intro p e s m args below meth c s₁ Bd hml0 hP hK
  obtain ⟨rfl, hZ, hh⟩ := hP
  have X0 : Stand p l e ({ frames := 0, cells := 0, slots := 0, locals := 0 } : Room) s m #[(.ref a1), (.int x1), (.int x2)] below meth c s₁ [] 0 0 := Stand.of_body Bd
  have e0 : s₁.heap = hE := by rw [← hh, Bd.state]; rfl
  have C : Ctx p s m meth c Z a0 "com/example/mopor/mopor/reduction/VectorTree" prog_24_method_9_code 3 (some .long) "key" := ⟨Bd.exec, hZ, hw, Bd.bytes, hml0, findClass_of_methodNamed Bd.named, Bd.returns, BodyLoose.notSynchronized Bd, (name_of_methodNamed Bd.named Bd.method).1⟩
  refine Runs.via (fun t k => castTop (ef_12 m x1 x2 a1 a2 a3 a4 a5 a6 a7 a8) k) (b12_0 C X0 e0 (Fr.nil n0) (by show 0 ≤ 0; omega) (by show 0 ≤ 0; omega) Z0 (by omega) (by omega) (by omega) (by omega) (by omega) (by omega) (by omega) (by omega) x1 x2 E_a1_0 F_a1_nodes_0 F_a1_parent_0 F_a1_last_0 F_a1_marking_0 F_a1_depth_0 F_a1_transitionCount_0 F_a1_size_0 E_a2_0 F_a2_keys_0 F_a2_values_0 F_a2_size_0 A_a3_0 A_a4_0 A_a5_0 A_a6_0 A_a7_0 A_a8_0 hr)
theorem pd_9 : parseMethodDescriptor "(II)J" = some ⟨[.int, .int], some .long⟩ := by decide +kernel
theorem d11_0 : decode prog_24_method_4_code 0 = .ok (.aload_n 0, 1) := by decide +kernel
theorem d11_1 : decode prog_24_method_4_code 1 = .ok (.iload_n 1, 1) := by decide +kernel
theorem d11_2 : decode prog_24_method_4_code 2 = .ok (.iload_n 2, 1) := by decide +kernel
theorem d11_3 : decode prog_24_method_4_code 3 = .ok (.iload_n 3, 1) := by decide +kernel
theorem d11_4 : decode prog_24_method_4_code 4 = .ok (.aload_n 0, 1) := by decide +kernel
theorem d11_5 : decode prog_24_method_4_code 5 = .ok (.getfield 26, 3) := by decide +kernel
theorem d11_8 : decode prog_24_method_4_code 8 = .ok (.iload_n 1, 1) := by decide +kernel
theorem d11_9 : decode prog_24_method_4_code 9 = .ok (.iaload, 1) := by decide +kernel
theorem d11_10 : decode prog_24_method_4_code 10 = .ok (.iconst 1, 1) := by decide +kernel
theorem d11_11 : decode prog_24_method_4_code 11 = .ok (.iadd, 1) := by decide +kernel
theorem d11_12 : decode prog_24_method_4_code 12 = .ok (.invokevirtual 39, 3) := by decide +kernel
theorem d11_15 : decode prog_24_method_4_code 15 = .ok (.istore 4, 2) := by decide +kernel
theorem d11_17 : decode prog_24_method_4_code 17 = .ok (.aload_n 0, 1) := by decide +kernel
theorem d11_18 : decode prog_24_method_4_code 18 = .ok (.getfield 10, 3) := by decide +kernel
theorem d11_21 : decode prog_24_method_4_code 21 = .ok (.aload_n 0, 1) := by decide +kernel
theorem d11_22 : decode prog_24_method_4_code 22 = .ok (.iload_n 1, 1) := by decide +kernel
theorem d11_23 : decode prog_24_method_4_code 23 = .ok (.iload_n 2, 1) := by decide +kernel
theorem d11_24 : decode prog_24_method_4_code 24 = .ok (.invokevirtual 46, 3) := by decide +kernel
theorem d11_27 : decode prog_24_method_4_code 27 = .ok (.iload 4, 2) := by decide +kernel
theorem d11_29 : decode prog_24_method_4_code 29 = .ok (.invokevirtual 43, 3) := by decide +kernel
theorem d11_32 : decode prog_24_method_4_code 32 = .ok (.pop, 1) := by decide +kernel
theorem d11_33 : decode prog_24_method_4_code 33 = .ok (.iload 4, 2) := by decide +kernel
theorem d11_35 : decode prog_24_method_4_code 35 = .ok (.ireturn, 1) := by decide +kernel
def P11 (Z : State) (hE : Heap) (a1 : Addr) (a2 : Addr) (a3 : Addr) (a4 : Addr) (a5 : Addr) (a6 : Addr) (a7 : Addr) (a8 : Addr) (q_a1_transitionCount : Int32) (q_a1_size : Int32) (q_a2_size : Int32) (q_a3 : List Int64) (q_a4 : List Int32) (q_a5 : List Int32) (q_a6 : List Int32) (q_a7 : List Int32) (q_a8 : List Int32) (n0 : Nat) (r : Int32 × Int32 × Int32 × List Int64 × List Int32 × List Int32 × List Int32 × List Int32 × List Int32) (v : Option Value) (h : Heap) (L : List Loc) : Prop := v = some (.int r.1) ∧ Fr n0 L ∧ Keep hE h [a1, a2, a3, a4, a5, a6, a7, a8] ∧ Exa Z h a1 "com/example/mopor/mopor/reduction/VectorTree" ∧ Fld Z h a1 "com/example/mopor/mopor/reduction/VectorTree" "nodes" "Lcom/example/mopor/mopor/reduction/LongIntTable;" (.ref a2) ∧ Fld Z h a1 "com/example/mopor/mopor/reduction/VectorTree" "parent" "[I" (.ref a5) ∧ Fld Z h a1 "com/example/mopor/mopor/reduction/VectorTree" "last" "[I" (.ref a6) ∧ Fld Z h a1 "com/example/mopor/mopor/reduction/VectorTree" "marking" "[I" (.ref a7) ∧ Fld Z h a1 "com/example/mopor/mopor/reduction/VectorTree" "depth" "[I" (.ref a8) ∧ Fld Z h a1 "com/example/mopor/mopor/reduction/VectorTree" "transitionCount" "I" (.int q_a1_transitionCount) ∧ Fld Z h a1 "com/example/mopor/mopor/reduction/VectorTree" "size" "I" (.int r.2.1) ∧ Exa Z h a2 "com/example/mopor/mopor/reduction/LongIntTable" ∧ Fld Z h a2 "com/example/mopor/mopor/reduction/LongIntTable" "keys" "[J" (.ref a3) ∧ Fld Z h a2 "com/example/mopor/mopor/reduction/LongIntTable" "values" "[I" (.ref a4) ∧ Fld Z h a2 "com/example/mopor/mopor/reduction/LongIntTable" "size" "I" (.int r.2.2.1) ∧ AJ Z h a3 .long r.2.2.2.1 ∧ AI Z h a4 .int r.2.2.2.2.1 ∧ AI Z h a5 .int r.2.2.2.2.2.1 ∧ AI Z h a6 .int r.2.2.2.2.2.2.1 ∧ AI Z h a7 .int r.2.2.2.2.2.2.2.1 ∧ AI Z h a8 .int r.2.2.2.2.2.2.2.2
def g11_0 (fuel : Nat) (x1 : Int32) (x2 : Int32) (x3 : Int32) (q_a1_transitionCount : Int32) (q_a1_size : Int32) (q_a2_size : Int32) (q_a3 : List Int64) (q_a4 : List Int32) (q_a5 : List Int32) (q_a6 : List Int32) (q_a7 : List Int32) (q_a8 : List Int32) : Option (Int32 × Int32 × Int32 × List Int64 × List Int32 × List Int32 × List Int32 × List Int32 × List Int32) := ((rdO q_a8 x1).bind fun v2 => ((f9 x1 x2 x3 (v2 + (1 : Int32)) q_a1_transitionCount q_a1_size q_a2_size q_a3 q_a4 q_a5 q_a6 q_a7 q_a8).bind fun r3 => ((f12 x1 x2 q_a1_transitionCount r3.2.1 q_a2_size q_a3 q_a4 r3.2.2.1 r3.2.2.2.1 r3.2.2.2.2.1 r3.2.2.2.2.2).bind fun r5 => ((f10 fuel r5 r3.1 q_a2_size q_a3 q_a4).bind fun r6 => some (r3.1, r3.2.1, r6.2.1, r6.2.2.1, r6.2.2.2, r3.2.2.1, r3.2.2.2.1, r3.2.2.2.2.1, r3.2.2.2.2.2)))))
set_option maxRecDepth 65536 in
set_option maxHeartbeats 4000000 in
theorem b11_0 {hE : Heap} {a1 : Addr} {a2 : Addr} {a3 : Addr} {a4 : Addr} {a5 : Addr} {a6 : Addr} {a7 : Addr} {a8 : Addr} {q_a1_transitionCount : Int32} {q_a1_size₀ : Int32} {q_a2_size₀ : Int32} {q_a3₀ : List Int64} {q_a4₀ : List Int32} {q_a5₀ : List Int32} {q_a6₀ : List Int32} {q_a7₀ : List Int32} {q_a8₀ : List Int32} {r : Int32 × Int32 × Int32 × List Int64 × List Int32 × List Int32 × List Int32 × List Int32 × List Int32} (C : Ctx p s m meth c Z a0 "com/example/mopor/mopor/reduction/VectorTree" prog_24_method_4_code 5 (some .int) "addChild") (fuel : Nat) (X0 : Stand p l e ({ frames := 2, cells := 0, slots := 0, locals := 34 } : Room) s m args below meth c T0 locs cells slots) (e0 : T0.heap = h0) (N0 : Fr n0 locs) (hk : cells ≤ 0) (hn : slots ≤ 0) (Z1 : n0 ≤ h0.size) (KE : Keep hE h0 [a1, a2, a3, a4, a5, a6, a7, a8]) (o0 : n0 ≤ a1) (o1 : @LT.lt Nat instLTNat a1 a2) (o2 : @LT.lt Nat instLTNat a2 a3) (o3 : @LT.lt Nat instLTNat a3 a4) (o4 : @LT.lt Nat instLTNat a4 a5) (o5 : @LT.lt Nat instLTNat a5 a6) (o6 : @LT.lt Nat instLTNat a6 a7) (o7 : @LT.lt Nat instLTNat a7 a8) (q_a1_size : Int32) (q_a2_size : Int32) (q_a3 : List Int64) (q_a4 : List Int32) (q_a5 : List Int32) (q_a6 : List Int32) (q_a7 : List Int32) (q_a8 : List Int32) (x1 : Int32) (x2 : Int32) (x3 : Int32) (E_a1_0 : Exa Z h0 a1 "com/example/mopor/mopor/reduction/VectorTree") (F_a1_nodes_0 : Fld Z h0 a1 "com/example/mopor/mopor/reduction/VectorTree" "nodes" "Lcom/example/mopor/mopor/reduction/LongIntTable;" (.ref a2)) (F_a1_parent_0 : Fld Z h0 a1 "com/example/mopor/mopor/reduction/VectorTree" "parent" "[I" (.ref a5)) (F_a1_last_0 : Fld Z h0 a1 "com/example/mopor/mopor/reduction/VectorTree" "last" "[I" (.ref a6)) (F_a1_marking_0 : Fld Z h0 a1 "com/example/mopor/mopor/reduction/VectorTree" "marking" "[I" (.ref a7)) (F_a1_depth_0 : Fld Z h0 a1 "com/example/mopor/mopor/reduction/VectorTree" "depth" "[I" (.ref a8)) (F_a1_transitionCount_0 : Fld Z h0 a1 "com/example/mopor/mopor/reduction/VectorTree" "transitionCount" "I" (.int q_a1_transitionCount)) (F_a1_size_0 : Fld Z h0 a1 "com/example/mopor/mopor/reduction/VectorTree" "size" "I" (.int q_a1_size)) (E_a2_0 : Exa Z h0 a2 "com/example/mopor/mopor/reduction/LongIntTable") (F_a2_keys_0 : Fld Z h0 a2 "com/example/mopor/mopor/reduction/LongIntTable" "keys" "[J" (.ref a3)) (F_a2_values_0 : Fld Z h0 a2 "com/example/mopor/mopor/reduction/LongIntTable" "values" "[I" (.ref a4)) (F_a2_size_0 : Fld Z h0 a2 "com/example/mopor/mopor/reduction/LongIntTable" "size" "I" (.int q_a2_size)) (A_a3_0 : AJ Z h0 a3 .long q_a3) (A_a4_0 : AI Z h0 a4 .int q_a4) (A_a5_0 : AI Z h0 a5 .int q_a5) (A_a6_0 : AI Z h0 a6 .int q_a6) (A_a7_0 : AI Z h0 a7 .int q_a7) (A_a8_0 : AI Z h0 a8 .int q_a8) (hr : g11_0 fuel x1 x2 x3 q_a1_transitionCount q_a1_size q_a2_size q_a3 q_a4 q_a5 q_a6 q_a7 q_a8 = some r) :
    Runs p e below s (P11 Z hE a1 a2 a3 a4 a5 a6 a7 a8 q_a1_transitionCount q_a1_size₀ q_a2_size₀ q_a3₀ q_a4₀ q_a5₀ q_a6₀ q_a7₀ q_a8₀ n0 r) 0 0 T0 (mkF m 0 #[.val (.ref a1), .val (.int x1), .val (.int x2), .val (.int x3), .unset] []) := by
  unfold g11_0 at hr
  have ⟨hx, hZ, hw, hby, hml, hown, hret, hlk, hnm⟩ := C
  refine Runs.via (T' := T0) (g' := (mkF m 5 #[.val (.ref a1), .val (.int x1), .val (.int x2), .val (.int x3), .unset] [(.ref a1), (.int x3), (.int x2), (.int x1), (.ref a1)])) (fun t k => ?_) ?_
  · show Steps p.tables e below (T0.setTop (mkF m 0 #[.val (.ref a1), .val (.int x1), .val (.int x2), .val (.int x3), .unset] [])) t
    refine XS.aloadN X0.here hx rfl (hb hby d11_0) rfl rfl ?_
    show Steps p.tables e below (T0.setTop (mkF m 1 #[.val (.ref a1), .val (.int x1), .val (.int x2), .val (.int x3), .unset] [(.ref a1)])) t
    refine XS.iloadN X0.here hx rfl (hb hby d11_1) rfl ?_
    show Steps p.tables e below (T0.setTop (mkF m 2 #[.val (.ref a1), .val (.int x1), .val (.int x2), .val (.int x3), .unset] [(.int x1), (.ref a1)])) t
    refine XS.iloadN X0.here hx rfl (hb hby d11_2) rfl ?_
    show Steps p.tables e below (T0.setTop (mkF m 3 #[.val (.ref a1), .val (.int x1), .val (.int x2), .val (.int x3), .unset] [(.int x2), (.int x1), (.ref a1)])) t
    refine XS.iloadN X0.here hx rfl (hb hby d11_3) rfl ?_
    show Steps p.tables e below (T0.setTop (mkF m 4 #[.val (.ref a1), .val (.int x1), .val (.int x2), .val (.int x3), .unset] [(.int x3), (.int x2), (.int x1), (.ref a1)])) t
    refine XS.aloadN X0.here hx rfl (hb hby d11_4) rfl rfl ?_
    exact k
  obtain ⟨T1, X1, e1, st1⟩ := getF X0 hx hZ hown (host := "") (Or.inl (hw _ (List.mem_of_getElem? (i := 38) rfl))) Via.refl e0 F_a1_depth_0 (g := (mkF m 5 #[.val (.ref a1), .val (.int x1), .val (.int x2), .val (.int x3), .unset] [(.ref a1), (.int x3), (.int x2), (.int x1), (.ref a1)])) rfl rfl (hb hby d11_5)
  refine Runs.via (T' := T1) (g' := (mkF m 8 #[.val (.ref a1), .val (.int x1), .val (.int x2), .val (.int x3), .unset] [(.ref a8), (.int x3), (.int x2), (.int x1), (.ref a1)])) (fun t k => st1 _ k) ?_
  refine Runs.via (T' := T1) (g' := (mkF m 9 #[.val (.ref a1), .val (.int x1), .val (.int x2), .val (.int x3), .unset] [(.int x1), (.ref a8), (.int x3), (.int x2), (.int x1), (.ref a1)])) (fun t k => ?_) ?_
  · show Steps p.tables e below (T1.setTop (mkF m 8 #[.val (.ref a1), .val (.int x1), .val (.int x2), .val (.int x3), .unset] [(.ref a8), (.int x3), (.int x2), (.int x1), (.ref a1)])) t
    refine XS.iloadN X1.here hx rfl (hb hby d11_8) rfl ?_
    exact k
  refine bindE hr ?_; intro v2 hv2 hr
  refine Runs.via (T' := T1) (g' := (mkF m 10 #[.val (.ref a1), .val (.int x1), .val (.int x2), .val (.int x3), .unset] [(.int v2), (.int x3), (.int x2), (.int x1), (.ref a1)])) (fun t k => ldI X1 hx hZ e1 A_a8_0 hv2 (g := (mkF m 9 #[.val (.ref a1), .val (.int x1), .val (.int x2), .val (.int x3), .unset] [(.int x1), (.ref a8), (.int x3), (.int x2), (.int x1), (.ref a1)])) rfl rfl (hb hby d11_9) _ k) ?_
  refine Runs.via (T' := T1) (g' := (mkF m 12 #[.val (.ref a1), .val (.int x1), .val (.int x2), .val (.int x3), .unset] [(.int (v2 + (1 : Int32))), (.int x3), (.int x2), (.int x1), (.ref a1)])) (fun t k => ?_) ?_
  · show Steps p.tables e below (T1.setTop (mkF m 10 #[.val (.ref a1), .val (.int x1), .val (.int x2), .val (.int x3), .unset] [(.int v2), (.int x3), (.int x2), (.int x1), (.ref a1)])) t
    refine XS.iconst X1.here hx rfl (hb hby d11_10) ?_
    show Steps p.tables e below (T1.setTop (mkF m 11 #[.val (.ref a1), .val (.int x1), .val (.int x2), .val (.int x3), .unset] [(.int (1 : Int32)), (.int v2), (.int x3), (.int x2), (.int x1), (.ref a1)])) t
    refine XS.iadd X1.here hx rfl (hb hby d11_11) rfl ?_
    exact k
  refine bindE hr ?_; intro r3 hr3m hr
  obtain ⟨cq3, q3, q3'⟩ := E_a1_0.cell
  obtain ⟨_, _, ⟨T3, L3, k3, n3⟩, -, X3, ⟨Lc3, hQ3, l3, y3, z3⟩, st3⟩ := X1.privateBack hx (y := (⟨"com/example/mopor/mopor/reduction/VectorTree", "add", "(IIII)I"⟩ : MethodName)) hown (mvT hZ (hw _ (List.mem_of_getElem? (i := 57) rfl))) (mvT hZ (hw _ (List.mem_of_getElem? (i := 58) rfl))) (own_privSel (mvT hZ (hw _ (List.mem_of_getElem? (i := 1) rfl))) (mvP hZ (hw _ (List.mem_of_getElem? (i := 59) rfl))) (mvT hZ (hw _ (List.mem_of_getElem? (i := 58) rfl))) (by decide)) (Cond.privateMethod_at (mvP hZ (hw _ (List.mem_of_getElem? (i := 59) rfl)) (args := #[]))) (mvT hZ (hw _ (List.mem_of_getElem? (i := 60) rfl))) (by decide) (backOf (W := 0) (rm9 l Z a0 hw [] x1 x2 x3 (v2 + (1 : Int32)) a1 a2 a3 a4 a5 a6 a7 a8 q_a1_transitionCount q_a1_size q_a2_size q_a3 q_a4 q_a5 q_a6 q_a7 q_a8 h0 n0 Z1 (by omega) (by omega) (by omega) (by omega) (by omega) (by omega) (by omega) (by omega) E_a1_0 F_a1_nodes_0 F_a1_parent_0 F_a1_last_0 F_a1_marking_0 F_a1_depth_0 F_a1_transitionCount_0 F_a1_size_0 E_a2_0 F_a2_keys_0 F_a2_values_0 F_a2_size_0 A_a3_0 A_a4_0 A_a5_0 A_a6_0 A_a7_0 A_a8_0 r3 hr3m) hZ (hw _ (List.mem_of_getElem? (i := 60) rfl)) (hw _ (List.mem_of_getElem? (i := 2) rfl)) (by decide) (by decide)) (g := (mkF m 12 #[.val (.ref a1), .val (.int x1), .val (.int x2), .val (.int x3), .unset] [(.int (v2 + (1 : Int32))), (.int x3), (.int x2), (.int x1), (.ref a1)])) rfl (by rw [hml]; rfl) (Steps.refl _) (a := a1) (by rw [e1]; exact q3) q3' (argsL := [(.int x1), (.int x2), (.int x3), (.int (v2 + (1 : Int32)))]) (rest := []) (lenOf pd_6 rfl) rfl (by show 2 * 0 + _ ≤ _; exact Nat.le_of_eq rfl) (hb hby d11_12) (fun _ _ => ⟨rfl, e1, (by show cells + 0 ≤ 0; omega), (by show slots + 0 ≤ 0; omega)⟩)
  dsimp only [Pt.U, Pt.locs, Pt.cells, Pt.slots] at X3 l3 y3 z3 st3 hQ3
  replace y3 := y3.symm; replace z3 := z3.symm; subst l3 y3 z3
  obtain ⟨h3, e3⟩ : ∃ z, T3.heap = z := ⟨_, rfl⟩
  rw [e3] at hQ3
  obtain ⟨rfl, N3q, K3q, E_a1_3, F_a1_nodes_3, F_a1_parent_3, F_a1_last_3, F_a1_marking_3, F_a1_depth_3, F_a1_transitionCount_3, F_a1_size_3, A_a5_3, A_a6_3, A_a7_3, A_a8_3⟩ := hQ3
  have N3 := Fr.app N0 N3q
  have E_a2_3 := E_a2_0.keep K3q
  have F_a2_keys_3 := F_a2_keys_0.keep K3q (ninS (by omega : @Ne Nat a2 a1) (ninS (by omega : @Ne Nat a2 a5) (ninS (by omega : @Ne Nat a2 a6) (ninS (by omega : @Ne Nat a2 a7) (ninS (by omega : @Ne Nat a2 a8) nin0)))))
  have F_a2_values_3 := F_a2_values_0.keep K3q (ninS (by omega : @Ne Nat a2 a1) (ninS (by omega : @Ne Nat a2 a5) (ninS (by omega : @Ne Nat a2 a6) (ninS (by omega : @Ne Nat a2 a7) (ninS (by omega : @Ne Nat a2 a8) nin0)))))
  have F_a2_size_3 := F_a2_size_0.keep K3q (ninS (by omega : @Ne Nat a2 a1) (ninS (by omega : @Ne Nat a2 a5) (ninS (by omega : @Ne Nat a2 a6) (ninS (by omega : @Ne Nat a2 a7) (ninS (by omega : @Ne Nat a2 a8) nin0)))))
  have A_a3_3 := A_a3_0.keep K3q (ninS (by omega : @Ne Nat a3 a1) (ninS (by omega : @Ne Nat a3 a5) (ninS (by omega : @Ne Nat a3 a6) (ninS (by omega : @Ne Nat a3 a7) (ninS (by omega : @Ne Nat a3 a8) nin0)))))
  have A_a4_3 := A_a4_0.keep K3q (ninS (by omega : @Ne Nat a4 a1) (ninS (by omega : @Ne Nat a4 a5) (ninS (by omega : @Ne Nat a4 a6) (ninS (by omega : @Ne Nat a4 a7) (ninS (by omega : @Ne Nat a4 a8) nin0)))))
  have K3 := KE.trans K3q (allS (Or.inl (List.mem_of_getElem? (i := 0) rfl)) (allS (Or.inl (List.mem_of_getElem? (i := 4) rfl)) (allS (Or.inl (List.mem_of_getElem? (i := 5) rfl)) (allS (Or.inl (List.mem_of_getElem? (i := 6) rfl)) (allS (Or.inl (List.mem_of_getElem? (i := 7) rfl)) all0)))))
  have zz3 : n0 ≤ h3.size := Nat.le_trans Z1 K3q.1
  refine Runs.via (T' := T3) (g' := (mkF m 15 #[.val (.ref a1), .val (.int x1), .val (.int x2), .val (.int x3), .unset] [(.int r3.1)])) (fun t k => st3.trans k) ?_
  refine Runs.via (T' := T3) (g' := (mkF m 18 #[.val (.ref a1), .val (.int x1), .val (.int x2), .val (.int x3), .val (.int r3.1)] [(.ref a1)])) (fun t k => ?_) ?_
  · show Steps p.tables e below (T3.setTop (mkF m 15 #[.val (.ref a1), .val (.int x1), .val (.int x2), .val (.int x3), .unset] [(.int r3.1)])) t
    refine XS.istore X3.here hx rfl (hb hby d11_15) rfl (l' := #[.val (.ref a1), .val (.int x1), .val (.int x2), .val (.int x3), .val (.int r3.1)]) rfl ?_
    show Steps p.tables e below (T3.setTop (mkF m 17 #[.val (.ref a1), .val (.int x1), .val (.int x2), .val (.int x3), .val (.int r3.1)] [])) t
    refine XS.aloadN X3.here hx rfl (hb hby d11_17) rfl rfl ?_
    exact k
  obtain ⟨T4, X4, e4, st4⟩ := getF X3 hx hZ hown (host := "") (Or.inl (hw _ (List.mem_of_getElem? (i := 30) rfl))) Via.refl e3 F_a1_nodes_3 (g := (mkF m 18 #[.val (.ref a1), .val (.int x1), .val (.int x2), .val (.int x3), .val (.int r3.1)] [(.ref a1)])) rfl rfl (hb hby d11_18)
  refine Runs.via (T' := T4) (g' := (mkF m 21 #[.val (.ref a1), .val (.int x1), .val (.int x2), .val (.int x3), .val (.int r3.1)] [(.ref a2)])) (fun t k => st4 _ k) ?_
  refine Runs.via (T' := T4) (g' := (mkF m 24 #[.val (.ref a1), .val (.int x1), .val (.int x2), .val (.int x3), .val (.int r3.1)] [(.int x2), (.int x1), (.ref a1), (.ref a2)])) (fun t k => ?_) ?_
  · show Steps p.tables e below (T4.setTop (mkF m 21 #[.val (.ref a1), .val (.int x1), .val (.int x2), .val (.int x3), .val (.int r3.1)] [(.ref a2)])) t
    refine XS.aloadN X4.here hx rfl (hb hby d11_21) rfl rfl ?_
    show Steps p.tables e below (T4.setTop (mkF m 22 #[.val (.ref a1), .val (.int x1), .val (.int x2), .val (.int x3), .val (.int r3.1)] [(.ref a1), (.ref a2)])) t
    refine XS.iloadN X4.here hx rfl (hb hby d11_22) rfl ?_
    show Steps p.tables e below (T4.setTop (mkF m 23 #[.val (.ref a1), .val (.int x1), .val (.int x2), .val (.int x3), .val (.int r3.1)] [(.int x1), (.ref a1), (.ref a2)])) t
    refine XS.iloadN X4.here hx rfl (hb hby d11_23) rfl ?_
    exact k
  refine bindE hr ?_; intro r5 hr5m hr
  obtain ⟨cq5, q5, q5'⟩ := E_a1_3.cell
  obtain ⟨_, _, ⟨T5, L5, k5, n5⟩, -, X5, ⟨Lc5, hQ5, l5, y5, z5⟩, st5⟩ := X4.privateBack hx (y := (⟨"com/example/mopor/mopor/reduction/VectorTree", "key", "(II)J"⟩ : MethodName)) hown (mvT hZ (hw _ (List.mem_of_getElem? (i := 75) rfl))) (mvT hZ (hw _ (List.mem_of_getElem? (i := 76) rfl))) (own_privSel (mvT hZ (hw _ (List.mem_of_getElem? (i := 1) rfl))) (mvP hZ (hw _ (List.mem_of_getElem? (i := 77) rfl))) (mvT hZ (hw _ (List.mem_of_getElem? (i := 76) rfl))) (by decide)) (Cond.privateMethod_at (mvP hZ (hw _ (List.mem_of_getElem? (i := 77) rfl)) (args := #[]))) (mvT hZ (hw _ (List.mem_of_getElem? (i := 78) rfl))) (by decide) (backOf (W := 1) (rm12 l Z a0 hw [] x1 x2 a1 a2 a3 a4 a5 a6 a7 a8 q_a1_transitionCount r3.2.1 q_a2_size q_a3 q_a4 r3.2.2.1 r3.2.2.2.1 r3.2.2.2.2.1 r3.2.2.2.2.2 h3 n0 zz3 (by omega) (by omega) (by omega) (by omega) (by omega) (by omega) (by omega) (by omega) E_a1_3 F_a1_nodes_3 F_a1_parent_3 F_a1_last_3 F_a1_marking_3 F_a1_depth_3 F_a1_transitionCount_3 F_a1_size_3 E_a2_3 F_a2_keys_3 F_a2_values_3 F_a2_size_3 A_a3_3 A_a4_3 A_a5_3 A_a6_3 A_a7_3 A_a8_3 r5 hr5m) hZ (hw _ (List.mem_of_getElem? (i := 78) rfl)) (hw _ (List.mem_of_getElem? (i := 2) rfl)) (by decide) (by decide)) (g := (mkF m 24 #[.val (.ref a1), .val (.int x1), .val (.int x2), .val (.int x3), .val (.int r3.1)] [(.int x2), (.int x1), (.ref a1), (.ref a2)])) rfl (by rw [hml]; rfl) (Steps.refl _) (a := a1) (by rw [e4]; exact q5) q5' (argsL := [(.int x1), (.int x2)]) (rest := [(.ref a2)]) (lenOf pd_9 rfl) rfl (by show 2 * 0 + _ ≤ _; exact Nat.le_of_eq rfl) (hb hby d11_24) (fun _ _ => ⟨rfl, e4, (by show (cells + 0) + 0 ≤ 0; omega), (by show (slots + 0) + 0 ≤ 0; omega)⟩)
  dsimp only [Pt.U, Pt.locs, Pt.cells, Pt.slots] at X5 l5 y5 z5 st5 hQ5
  replace y5 := y5.symm; replace z5 := z5.symm; subst l5 y5 z5
  obtain ⟨rfl, N5q, e5⟩ := hQ5
  have N5 := Fr.app N3 N5q
  refine Runs.via (T' := T5) (g' := (mkF m 27 #[.val (.ref a1), .val (.int x1), .val (.int x2), .val (.int x3), .val (.int r3.1)] [(.long r5), (.ref a2)])) (fun t k => st5.trans k) ?_
  refine Runs.via (T' := T5) (g' := (mkF m 29 #[.val (.ref a1), .val (.int x1), .val (.int x2), .val (.int x3), .val (.int r3.1)] [(.int r3.1), (.long r5), (.ref a2)])) (fun t k => ?_) ?_
  · show Steps p.tables e below (T5.setTop (mkF m 27 #[.val (.ref a1), .val (.int x1), .val (.int x2), .val (.int x3), .val (.int r3.1)] [(.long r5), (.ref a2)])) t
    refine XS.iload X5.here hx rfl (hb hby d11_27) rfl ?_
    exact k
  refine bindE hr ?_; intro r6 hr6m hr
  obtain ⟨cq6, kq6, q6a, q6b, q6c⟩ := isOf hZ e5 E_a2_3
  obtain ⟨_, _, ⟨T6, L6, k6, n6⟩, -, X6, ⟨Lc6, hQ6, l6, y6, z6⟩, st6⟩ := X5.virtualBack hx (y := (⟨"com/example/mopor/mopor/reduction/LongIntTable", "add", "(JI)Z"⟩ : MethodName)) (z := (⟨"com/example/mopor/mopor/reduction/LongIntTable", "add", "(JI)Z"⟩ : MethodName)) hown (mvT hZ (hw _ (List.mem_of_getElem? (i := 63) rfl))) (mvT hZ (hw _ (List.mem_of_getElem? (i := 64) rfl))) (notFace_of_selects (args := #[]) (mvT hZ (hw _ (List.mem_of_getElem? (i := 66) rfl)))) (mvT hZ (hw _ (List.mem_of_getElem? (i := 66) rfl))) (mvT hZ (hw _ (List.mem_of_getElem? (i := 65) rfl))) (by decide) (backOf (W := 0) (rm10 l Z a0 hw [] r5 r3.1 a2 a3 a4 q_a2_size q_a3 q_a4 h3 n0 zz3 (by omega) (by omega) (by omega) E_a2_3 F_a2_keys_3 F_a2_values_3 F_a2_size_3 A_a3_3 A_a4_3 fuel r6 hr6m) hZ (hw _ (List.mem_of_getElem? (i := 67) rfl)) (hw _ (List.mem_of_getElem? (i := 11) rfl)) (by decide) (by decide)) q6a q6c (g := (mkF m 29 #[.val (.ref a1), .val (.int x1), .val (.int x2), .val (.int x3), .val (.int r3.1)] [(.int r3.1), (.long r5), (.ref a2)])) rfl (by rw [hml]; rfl) (Steps.refl _) (argsL := [(.long r5), (.int r3.1)]) (rest := []) (lenOf pd_7 rfl) rfl (by show 2 * 0 + _ ≤ _; exact Nat.le_of_eq rfl) (hb hby d11_29) (fun _ _ => ⟨rfl, e5, (by show ((cells + 0) + 0) + 0 ≤ 0; omega), (by show ((slots + 0) + 0) + 0 ≤ 0; omega)⟩)
  dsimp only [Pt.U, Pt.locs, Pt.cells, Pt.slots] at X6 l6 y6 z6 st6 hQ6
  replace y6 := y6.symm; replace z6 := z6.symm; subst l6 y6 z6
  obtain ⟨h6, e6⟩ : ∃ z, T6.heap = z := ⟨_, rfl⟩
  rw [e6] at hQ6
  obtain ⟨rfl, N6q, K6q, E_a2_6, F_a2_keys_6, F_a2_values_6, F_a2_size_6, A_a3_6, A_a4_6⟩ := hQ6
  have N6 := Fr.app N5 N6q
  have E_a1_6 := E_a1_3.keep K6q
  have F_a1_nodes_6 := F_a1_nodes_3.keep K6q (ninS (by omega : @Ne Nat a1 a2) (ninS (by omega : @Ne Nat a1 a3) (ninS (by omega : @Ne Nat a1 a4) nin0)))
  have F_a1_parent_6 := F_a1_parent_3.keep K6q (ninS (by omega : @Ne Nat a1 a2) (ninS (by omega : @Ne Nat a1 a3) (ninS (by omega : @Ne Nat a1 a4) nin0)))
  have F_a1_last_6 := F_a1_last_3.keep K6q (ninS (by omega : @Ne Nat a1 a2) (ninS (by omega : @Ne Nat a1 a3) (ninS (by omega : @Ne Nat a1 a4) nin0)))
  have F_a1_marking_6 := F_a1_marking_3.keep K6q (ninS (by omega : @Ne Nat a1 a2) (ninS (by omega : @Ne Nat a1 a3) (ninS (by omega : @Ne Nat a1 a4) nin0)))
  have F_a1_depth_6 := F_a1_depth_3.keep K6q (ninS (by omega : @Ne Nat a1 a2) (ninS (by omega : @Ne Nat a1 a3) (ninS (by omega : @Ne Nat a1 a4) nin0)))
  have F_a1_transitionCount_6 := F_a1_transitionCount_3.keep K6q (ninS (by omega : @Ne Nat a1 a2) (ninS (by omega : @Ne Nat a1 a3) (ninS (by omega : @Ne Nat a1 a4) nin0)))
  have F_a1_size_6 := F_a1_size_3.keep K6q (ninS (by omega : @Ne Nat a1 a2) (ninS (by omega : @Ne Nat a1 a3) (ninS (by omega : @Ne Nat a1 a4) nin0)))
  have A_a5_6 := A_a5_3.keep K6q (ninS (by omega : @Ne Nat a5 a2) (ninS (by omega : @Ne Nat a5 a3) (ninS (by omega : @Ne Nat a5 a4) nin0)))
  have A_a6_6 := A_a6_3.keep K6q (ninS (by omega : @Ne Nat a6 a2) (ninS (by omega : @Ne Nat a6 a3) (ninS (by omega : @Ne Nat a6 a4) nin0)))
  have A_a7_6 := A_a7_3.keep K6q (ninS (by omega : @Ne Nat a7 a2) (ninS (by omega : @Ne Nat a7 a3) (ninS (by omega : @Ne Nat a7 a4) nin0)))
  have A_a8_6 := A_a8_3.keep K6q (ninS (by omega : @Ne Nat a8 a2) (ninS (by omega : @Ne Nat a8 a3) (ninS (by omega : @Ne Nat a8 a4) nin0)))
  have K6 := K3.trans K6q (allS (Or.inl (List.mem_of_getElem? (i := 1) rfl)) (allS (Or.inl (List.mem_of_getElem? (i := 2) rfl)) (allS (Or.inl (List.mem_of_getElem? (i := 3) rfl)) all0)))
  have zz6 : n0 ≤ h6.size := Nat.le_trans zz3 K6q.1
  refine Runs.via (T' := T6) (g' := (mkF m 32 #[.val (.ref a1), .val (.int x1), .val (.int x2), .val (.int x3), .val (.int r3.1)] [(.int r6.1)])) (fun t k => st6.trans k) ?_
  refine Runs.via (T' := T6) (g' := (mkF m 35 #[.val (.ref a1), .val (.int x1), .val (.int x2), .val (.int x3), .val (.int r3.1)] [(.int r3.1)])) (fun t k => ?_) ?_
  · show Steps p.tables e below (T6.setTop (mkF m 32 #[.val (.ref a1), .val (.int x1), .val (.int x2), .val (.int x3), .val (.int r3.1)] [(.int r6.1)])) t
    refine XS.pop X6.here hx rfl (hb hby d11_32) rfl rfl ?_
    show Steps p.tables e below (T6.setTop (mkF m 33 #[.val (.ref a1), .val (.int x1), .val (.int x2), .val (.int x3), .val (.int r3.1)] [])) t
    refine XS.iload X6.here hx rfl (hb hby d11_33) rfl ?_
    exact k
  obtain rfl := Option.some.inj hr
  exact own_retI X6 hx hlk hret (hb hby d11_35) (by show (((cells + 0) + 0) + 0) ≤ 0; omega) (by show (((slots + 0) + 0) + 0) ≤ 0; omega) ⟨rfl, N6, (by rw [e6]; exact K6), (by rw [e6]; exact E_a1_6), (by rw [e6]; exact F_a1_nodes_6), (by rw [e6]; exact F_a1_parent_6), (by rw [e6]; exact F_a1_last_6), (by rw [e6]; exact F_a1_marking_6), (by rw [e6]; exact F_a1_depth_6), (by rw [e6]; exact F_a1_transitionCount_6), (by rw [e6]; exact F_a1_size_6), (by rw [e6]; exact E_a2_6), (by rw [e6]; exact F_a2_keys_6), (by rw [e6]; exact F_a2_values_6), (by rw [e6]; exact F_a2_size_6), (by rw [e6]; exact A_a3_6), (by rw [e6]; exact A_a4_6), (by rw [e6]; exact A_a5_6), (by rw [e6]; exact A_a6_6), (by rw [e6]; exact A_a7_6), (by rw [e6]; exact A_a8_6)⟩
def f11 (fuel : Nat) (x1 : Int32) (x2 : Int32) (x3 : Int32) (q_a1_transitionCount : Int32) (q_a1_size : Int32) (q_a2_size : Int32) (q_a3 : List Int64) (q_a4 : List Int32) (q_a5 : List Int32) (q_a6 : List Int32) (q_a7 : List Int32) (q_a8 : List Int32) : Option (Int32 × Int32 × Int32 × List Int64 × List Int32 × List Int32 × List Int32 × List Int32 × List Int32) := g11_0 fuel x1 x2 x3 q_a1_transitionCount q_a1_size q_a2_size q_a3 q_a4 q_a5 q_a6 q_a7 q_a8
theorem pn_11 : plainName "com/example/mopor/mopor/reduction/VectorTree" = true := by first | (simp [plainName, overriddenIn]; done) | decide +kernel
theorem ef_11 (m : MethodId) (x1 : Int32) (x2 : Int32) (x3 : Int32) (a1 : Addr) (a2 : Addr) (a3 : Addr) (a4 : Addr) (a5 : Addr) (a6 : Addr) (a7 : Addr) (a8 : Addr) : entryFrame m #[(.ref a1), (.int x1), (.int x2), (.int x3)] 5 = mkF m 0 #[.val (.ref a1), .val (.int x1), .val (.int x2), .val (.int x3), .unset] [] := by first | (simp [entryFrame, mkF, argsToLocals, Value.category]; done) | rfl
set_option maxRecDepth 65536 in
set_option maxHeartbeats 4000000 in
theorem rm11 (l : Launch) (Z : State) (a0 : Array Value) (hw : ∀ d ∈ tables_1, d.before a0 Z = true) (ws : List Jvm.Cond) (x1 : Int32) (x2 : Int32) (x3 : Int32) (a1 : Addr) (a2 : Addr) (a3 : Addr) (a4 : Addr) (a5 : Addr) (a6 : Addr) (a7 : Addr) (a8 : Addr) (q_a1_transitionCount : Int32) (q_a1_size : Int32) (q_a2_size : Int32) (q_a3 : List Int64) (q_a4 : List Int32) (q_a5 : List Int32) (q_a6 : List Int32) (q_a7 : List Int32) (q_a8 : List Int32) (hE : Heap) (n0 : Nat) (Z0 : n0 ≤ hE.size) (o0 : n0 ≤ a1) (o1 : @LT.lt Nat instLTNat a1 a2) (o2 : @LT.lt Nat instLTNat a2 a3) (o3 : @LT.lt Nat instLTNat a3 a4) (o4 : @LT.lt Nat instLTNat a4 a5) (o5 : @LT.lt Nat instLTNat a5 a6) (o6 : @LT.lt Nat instLTNat a6 a7) (o7 : @LT.lt Nat instLTNat a7 a8) (E_a1_0 : Exa Z hE a1 "com/example/mopor/mopor/reduction/VectorTree") (F_a1_nodes_0 : Fld Z hE a1 "com/example/mopor/mopor/reduction/VectorTree" "nodes" "Lcom/example/mopor/mopor/reduction/LongIntTable;" (.ref a2)) (F_a1_parent_0 : Fld Z hE a1 "com/example/mopor/mopor/reduction/VectorTree" "parent" "[I" (.ref a5)) (F_a1_last_0 : Fld Z hE a1 "com/example/mopor/mopor/reduction/VectorTree" "last" "[I" (.ref a6)) (F_a1_marking_0 : Fld Z hE a1 "com/example/mopor/mopor/reduction/VectorTree" "marking" "[I" (.ref a7)) (F_a1_depth_0 : Fld Z hE a1 "com/example/mopor/mopor/reduction/VectorTree" "depth" "[I" (.ref a8)) (F_a1_transitionCount_0 : Fld Z hE a1 "com/example/mopor/mopor/reduction/VectorTree" "transitionCount" "I" (.int q_a1_transitionCount)) (F_a1_size_0 : Fld Z hE a1 "com/example/mopor/mopor/reduction/VectorTree" "size" "I" (.int q_a1_size)) (E_a2_0 : Exa Z hE a2 "com/example/mopor/mopor/reduction/LongIntTable") (F_a2_keys_0 : Fld Z hE a2 "com/example/mopor/mopor/reduction/LongIntTable" "keys" "[J" (.ref a3)) (F_a2_values_0 : Fld Z hE a2 "com/example/mopor/mopor/reduction/LongIntTable" "values" "[I" (.ref a4)) (F_a2_size_0 : Fld Z hE a2 "com/example/mopor/mopor/reduction/LongIntTable" "size" "I" (.int q_a2_size)) (A_a3_0 : AJ Z hE a3 .long q_a3) (A_a4_0 : AI Z hE a4 .int q_a4) (A_a5_0 : AI Z hE a5 .int q_a5) (A_a6_0 : AI Z hE a6 .int q_a6) (A_a7_0 : AI Z hE a7 .int q_a7) (A_a8_0 : AI Z hE a8 .int q_a8) (fuel : Nat) (r : Int32 × Int32 × Int32 × List Int64 × List Int32 × List Int32 × List Int32 × List Int32 × List Int32) (hr : f11 fuel x1 x2 x3 q_a1_transitionCount q_a1_size q_a2_size q_a3 q_a4 q_a5 q_a6 q_a7 q_a8 = some r) :
    MetFree l (⟨"com/example/mopor/mopor/reduction/VectorTree", "addChild", "(III)I"⟩ : MethodName) (head1 (Jvm.Cond.code (⟨"com/example/mopor/mopor/reduction/VectorTree", "addChild", "(III)I"⟩ : MethodName) prog_24_method_4_code 5 (some .int) :: ws) ({ frames := 2, cells := 0, slots := 0, locals := 34 } : Room)) (fun a U => a = #[(.ref a1), (.int x1), (.int x2), (.int x3)] ∧ Z.Warmed39 U.vm ∧ U.heap = hE) (fun _ _ _ _ _ => True) (fun _ U o U' => ∃ v L, o = .returned v ∧ (P11 Z hE a1 a2 a3 a4 a5 a6 a7 a8 q_a1_transitionCount q_a1_size q_a2_size q_a3 q_a4 q_a5 q_a6 q_a7 q_a8 n0 r v U'.heap L) ∧ FrameEnd U o U' L ({ frames := 2, cells := 0, slots := 0, locals := 34 } : Room).cells ({ frames := 2, cells := 0, slots := 0, locals := 34 } : Room).slots) := by
  refine MetFree.of_bodySF (plainFor_of_name pn_11) hisR ?_
  intro p e s m args below meth c s₁ Bd hml0 hP hK
  obtain ⟨rfl, hZ, hh⟩ := hP
  have X0 : Stand p l e ({ frames := 2, cells := 0, slots := 0, locals := 34 } : Room) s m #[(.ref a1), (.int x1), (.int x2), (.int x3)] below meth c s₁ [] 0 0 := Stand.of_body Bd
  have e0 : s₁.heap = hE := by rw [← hh, Bd.state]; rfl
  have C : Ctx p s m meth c Z a0 "com/example/mopor/mopor/reduction/VectorTree" prog_24_method_4_code 5 (some .int) "addChild" := ⟨Bd.exec, hZ, hw, Bd.bytes, hml0, findClass_of_methodNamed Bd.named, Bd.returns, BodyLoose.notSynchronized Bd, (name_of_methodNamed Bd.named Bd.method).1⟩
  refine Runs.via (fun t k => castTop (ef_11 m x1 x2 x3 a1 a2 a3 a4 a5 a6 a7 a8) k) (b11_0 C fuel X0 e0 (Fr.nil n0) (by show 0 ≤ 0; omega) (by show 0 ≤ 0; omega) Z0 (Keep.refl hE [a1, a2, a3, a4, a5, a6, a7, a8]) (by omega) (by omega) (by omega) (by omega) (by omega) (by omega) (by omega) (by omega) q_a1_size q_a2_size q_a3 q_a4 q_a5 q_a6 q_a7 q_a8 x1 x2 x3 E_a1_0 F_a1_nodes_0 F_a1_parent_0 F_a1_last_0 F_a1_marking_0 F_a1_depth_0 F_a1_transitionCount_0 F_a1_size_0 E_a2_0 F_a2_keys_0 F_a2_values_0 F_a2_size_0 A_a3_0 A_a4_0 A_a5_0 A_a6_0 A_a7_0 A_a8_0 hr)
theorem pd_10 : parseMethodDescriptor "(III)I" = some ⟨[.int, .int, .int], some .int⟩ := by decide +kernel
theorem d13_0 : decode prog_24_method_6_code 0 = .ok (.iload_n 1, 1) := by decide +kernel
theorem d13_1 : decode prog_24_method_6_code 1 = .ok (.istore_n 2, 1) := by decide +kernel
theorem d13_2 : decode prog_24_method_6_code 2 = .ok (.aload_n 0, 1) := by decide +kernel
theorem d13_3 : decode prog_24_method_6_code 3 = .ok (.getfield 16, 3) := by decide +kernel
theorem d13_6 : decode prog_24_method_6_code 6 = .ok (.iload_n 2, 1) := by decide +kernel
theorem d13_7 : decode prog_24_method_6_code 7 = .ok (.iaload, 1) := by decide +kernel
theorem d13_8 : decode prog_24_method_6_code 8 = .ok (.ifCond .lt 13, 3) := by decide +kernel
theorem d13_11 : decode prog_24_method_6_code 11 = .ok (.aload_n 0, 1) := by decide +kernel
theorem d13_12 : decode prog_24_method_6_code 12 = .ok (.getfield 16, 3) := by decide +kernel
theorem d13_15 : decode prog_24_method_6_code 15 = .ok (.iload_n 2, 1) := by decide +kernel
theorem d13_16 : decode prog_24_method_6_code 16 = .ok (.iaload, 1) := by decide +kernel
theorem d13_17 : decode prog_24_method_6_code 17 = .ok (.istore_n 2, 1) := by decide +kernel
theorem d13_18 : decode prog_24_method_6_code 18 = .ok (.goto (-16), 3) := by decide +kernel
theorem d13_21 : decode prog_24_method_6_code 21 = .ok (.aload_n 0, 1) := by decide +kernel
theorem d13_22 : decode prog_24_method_6_code 22 = .ok (.getfield 20, 3) := by decide +kernel
theorem d13_25 : decode prog_24_method_6_code 25 = .ok (.iload_n 2, 1) := by decide +kernel
theorem d13_26 : decode prog_24_method_6_code 26 = .ok (.iaload, 1) := by decide +kernel
theorem d13_27 : decode prog_24_method_6_code 27 = .ok (.ireturn, 1) := by decide +kernel
def P13 (Z : State) (hE : Heap) (a1 : Addr) (a2 : Addr) (a3 : Addr) (a4 : Addr) (a5 : Addr) (a6 : Addr) (a7 : Addr) (a8 : Addr) (q_a1_transitionCount : Int32) (q_a1_size : Int32) (q_a2_size : Int32) (q_a3 : List Int64) (q_a4 : List Int32) (q_a5 : List Int32) (q_a6 : List Int32) (q_a7 : List Int32) (q_a8 : List Int32) (n0 : Nat) (r : Int32) (v : Option Value) (h : Heap) (L : List Loc) : Prop := v = some (.int r) ∧ Fr n0 L ∧ h = hE
def s13_2 (K2 : Int32 → Int32 → Int32 → Int32 → List Int64 → List Int32 → List Int32 → List Int32 → List Int32 → List Int32 → Option (Int32)) (fuel : Nat) (x2 : Int32) (q_a1_transitionCount : Int32) (q_a1_size : Int32) (q_a2_size : Int32) (q_a3 : List Int64) (q_a4 : List Int32) (q_a5 : List Int32) (q_a6 : List Int32) (q_a7 : List Int32) (q_a8 : List Int32) : Option (Int32) := ((rdO q_a5 x2).bind fun v2 => (if v2 < (0 : Int32) then ((rdO q_a6 x2).bind fun v5 => some v5) else ((rdO q_a5 x2).bind fun v7 => (K2 v7 q_a1_transitionCount q_a1_size q_a2_size q_a3 q_a4 q_a5 q_a6 q_a7 q_a8))))
def h13_2 (fuel : Nat) : Nat → Int32 → Int32 → Int32 → Int32 → List Int64 → List Int32 → List Int32 → List Int32 → List Int32 → List Int32 → Option (Int32)
  | 0 => fun _ _ _ _ _ _ _ _ _ _ => none
  | n + 1 => fun x2 q_a1_transitionCount q_a1_size q_a2_size q_a3 q_a4 q_a5 q_a6 q_a7 q_a8 => s13_2 (h13_2 fuel n) fuel x2 q_a1_transitionCount q_a1_size q_a2_size q_a3 q_a4 q_a5 q_a6 q_a7 q_a8
def g13_2 (fuel : Nat) (x2 : Int32) (q_a1_transitionCount : Int32) (q_a1_size : Int32) (q_a2_size : Int32) (q_a3 : List Int64) (q_a4 : List Int32) (q_a5 : List Int32) (q_a6 : List Int32) (q_a7 : List Int32) (q_a8 : List Int32) : Option (Int32) := h13_2 fuel fuel x2 q_a1_transitionCount q_a1_size q_a2_size q_a3 q_a4 q_a5 q_a6 q_a7 q_a8
set_option maxRecDepth 65536 in
set_option maxHeartbeats 4000000 in
theorem t13_2 {hE : Heap} {a1 : Addr} {a2 : Addr} {a3 : Addr} {a4 : Addr} {a5 : Addr} {a6 : Addr} {a7 : Addr} {a8 : Addr} {q_a1_transitionCount : Int32} {q_a1_size : Int32} {q_a2_size : Int32} {q_a3 : List Int64} {q_a4 : List Int32} {q_a5 : List Int32} {q_a6 : List Int32} {q_a7 : List Int32} {q_a8 : List Int32} (fuel : Nat) {r : Int32} (C : Ctx p s m meth c Z a0 "com/example/mopor/mopor/reduction/VectorTree" prog_24_method_6_code 3 (some .int) "start") (K2 : Int32 → Int32 → Int32 → Int32 → List Int64 → List Int32 → List Int32 → List Int32 → List Int32 → List Int32 → Option (Int32)) (hK2 : ∀ {T0 : State} {locs : List Loc} {cells slots : Nat} (X0 : Stand p l e ({ frames := 0, cells := 0, slots := 0, locals := 0 } : Room) s m args below meth c T0 locs cells slots) (e0 : T0.heap = hE) (N0 : Fr n0 locs) (hk : cells ≤ 0) (hn : slots ≤ 0) (Z1 : n0 ≤ hE.size) (o0 : n0 ≤ a1) (o1 : @LT.lt Nat instLTNat a1 a2) (o2 : @LT.lt Nat instLTNat a2 a3) (o3 : @LT.lt Nat instLTNat a3 a4) (o4 : @LT.lt Nat instLTNat a4 a5) (o5 : @LT.lt Nat instLTNat a5 a6) (o6 : @LT.lt Nat instLTNat a6 a7) (o7 : @LT.lt Nat instLTNat a7 a8) (x1 : Int32) (x2 : Int32) (E_a1_0 : Exa Z hE a1 "com/example/mopor/mopor/reduction/VectorTree") (F_a1_nodes_0 : Fld Z hE a1 "com/example/mopor/mopor/reduction/VectorTree" "nodes" "Lcom/example/mopor/mopor/reduction/LongIntTable;" (.ref a2)) (F_a1_parent_0 : Fld Z hE a1 "com/example/mopor/mopor/reduction/VectorTree" "parent" "[I" (.ref a5)) (F_a1_last_0 : Fld Z hE a1 "com/example/mopor/mopor/reduction/VectorTree" "last" "[I" (.ref a6)) (F_a1_marking_0 : Fld Z hE a1 "com/example/mopor/mopor/reduction/VectorTree" "marking" "[I" (.ref a7)) (F_a1_depth_0 : Fld Z hE a1 "com/example/mopor/mopor/reduction/VectorTree" "depth" "[I" (.ref a8)) (F_a1_transitionCount_0 : Fld Z hE a1 "com/example/mopor/mopor/reduction/VectorTree" "transitionCount" "I" (.int q_a1_transitionCount)) (F_a1_size_0 : Fld Z hE a1 "com/example/mopor/mopor/reduction/VectorTree" "size" "I" (.int q_a1_size)) (E_a2_0 : Exa Z hE a2 "com/example/mopor/mopor/reduction/LongIntTable") (F_a2_keys_0 : Fld Z hE a2 "com/example/mopor/mopor/reduction/LongIntTable" "keys" "[J" (.ref a3)) (F_a2_values_0 : Fld Z hE a2 "com/example/mopor/mopor/reduction/LongIntTable" "values" "[I" (.ref a4)) (F_a2_size_0 : Fld Z hE a2 "com/example/mopor/mopor/reduction/LongIntTable" "size" "I" (.int q_a2_size)) (A_a3_0 : AJ Z hE a3 .long q_a3) (A_a4_0 : AI Z hE a4 .int q_a4) (A_a5_0 : AI Z hE a5 .int q_a5) (A_a6_0 : AI Z hE a6 .int q_a6) (A_a7_0 : AI Z hE a7 .int q_a7) (A_a8_0 : AI Z hE a8 .int q_a8), K2 x2 q_a1_transitionCount q_a1_size q_a2_size q_a3 q_a4 q_a5 q_a6 q_a7 q_a8 = some r → Runs p e below s (P13 Z hE a1 a2 a3 a4 a5 a6 a7 a8 q_a1_transitionCount q_a1_size q_a2_size q_a3 q_a4 q_a5 q_a6 q_a7 q_a8 n0 r) 0 0 T0 (mkF m 2 #[.val (.ref a1), .val (.int x1), .val (.int x2)] [])) (X0 : Stand p l e ({ frames := 0, cells := 0, slots := 0, locals := 0 } : Room) s m args below meth c T0 locs cells slots) (e0 : T0.heap = hE) (N0 : Fr n0 locs) (hk : cells ≤ 0) (hn : slots ≤ 0) (Z1 : n0 ≤ hE.size) (o0 : n0 ≤ a1) (o1 : @LT.lt Nat instLTNat a1 a2) (o2 : @LT.lt Nat instLTNat a2 a3) (o3 : @LT.lt Nat instLTNat a3 a4) (o4 : @LT.lt Nat instLTNat a4 a5) (o5 : @LT.lt Nat instLTNat a5 a6) (o6 : @LT.lt Nat instLTNat a6 a7) (o7 : @LT.lt Nat instLTNat a7 a8) (x1 : Int32) (x2 : Int32) (E_a1_0 : Exa Z hE a1 "com/example/mopor/mopor/reduction/VectorTree") (F_a1_nodes_0 : Fld Z hE a1 "com/example/mopor/mopor/reduction/VectorTree" "nodes" "Lcom/example/mopor/mopor/reduction/LongIntTable;" (.ref a2)) (F_a1_parent_0 : Fld Z hE a1 "com/example/mopor/mopor/reduction/VectorTree" "parent" "[I" (.ref a5)) (F_a1_last_0 : Fld Z hE a1 "com/example/mopor/mopor/reduction/VectorTree" "last" "[I" (.ref a6)) (F_a1_marking_0 : Fld Z hE a1 "com/example/mopor/mopor/reduction/VectorTree" "marking" "[I" (.ref a7)) (F_a1_depth_0 : Fld Z hE a1 "com/example/mopor/mopor/reduction/VectorTree" "depth" "[I" (.ref a8)) (F_a1_transitionCount_0 : Fld Z hE a1 "com/example/mopor/mopor/reduction/VectorTree" "transitionCount" "I" (.int q_a1_transitionCount)) (F_a1_size_0 : Fld Z hE a1 "com/example/mopor/mopor/reduction/VectorTree" "size" "I" (.int q_a1_size)) (E_a2_0 : Exa Z hE a2 "com/example/mopor/mopor/reduction/LongIntTable") (F_a2_keys_0 : Fld Z hE a2 "com/example/mopor/mopor/reduction/LongIntTable" "keys" "[J" (.ref a3)) (F_a2_values_0 : Fld Z hE a2 "com/example/mopor/mopor/reduction/LongIntTable" "values" "[I" (.ref a4)) (F_a2_size_0 : Fld Z hE a2 "com/example/mopor/mopor/reduction/LongIntTable" "size" "I" (.int q_a2_size)) (A_a3_0 : AJ Z hE a3 .long q_a3) (A_a4_0 : AI Z hE a4 .int q_a4) (A_a5_0 : AI Z hE a5 .int q_a5) (A_a6_0 : AI Z hE a6 .int q_a6) (A_a7_0 : AI Z hE a7 .int q_a7) (A_a8_0 : AI Z hE a8 .int q_a8) (hr : s13_2 K2 fuel x2 q_a1_transitionCount q_a1_size q_a2_size q_a3 q_a4 q_a5 q_a6 q_a7 q_a8 = some r) :
    Runs p e below s (P13 Z hE a1 a2 a3 a4 a5 a6 a7 a8 q_a1_transitionCount q_a1_size q_a2_size q_a3 q_a4 q_a5 q_a6 q_a7 q_a8 n0 r) 0 0 T0 (mkF m 2 #[.val (.ref a1), .val (.int x1), .val (.int x2)] []) := by
  unfold s13_2 at hr
  have ⟨hx, hZ, hw, hby, hml, hown, hret, hlk, hnm⟩ := C
  refine Runs.via (T' := T0) (g' := (mkF m 3 #[.val (.ref a1), .val (.int x1), .val (.int x2)] [(.ref a1)])) (fun t k => ?_) ?_
  · show Steps p.tables e below (T0.setTop (mkF m 2 #[.val (.ref a1), .val (.int x1), .val (.int x2)] [])) t
    refine XS.aloadN X0.here hx rfl (hb hby d13_2) rfl rfl ?_
    exact k
  obtain ⟨T1, X1, e1, st1⟩ := getF X0 hx hZ hown (host := "") (Or.inl (hw _ (List.mem_of_getElem? (i := 32) rfl))) Via.refl e0 F_a1_parent_0 (g := (mkF m 3 #[.val (.ref a1), .val (.int x1), .val (.int x2)] [(.ref a1)])) rfl rfl (hb hby d13_3)
  refine Runs.via (T' := T1) (g' := (mkF m 6 #[.val (.ref a1), .val (.int x1), .val (.int x2)] [(.ref a5)])) (fun t k => st1 _ k) ?_
  refine Runs.via (T' := T1) (g' := (mkF m 7 #[.val (.ref a1), .val (.int x1), .val (.int x2)] [(.int x2), (.ref a5)])) (fun t k => ?_) ?_
  · show Steps p.tables e below (T1.setTop (mkF m 6 #[.val (.ref a1), .val (.int x1), .val (.int x2)] [(.ref a5)])) t
    refine XS.iloadN X1.here hx rfl (hb hby d13_6) rfl ?_
    exact k
  refine bindE hr ?_; intro v2 hv2 hr
  refine Runs.via (T' := T1) (g' := (mkF m 8 #[.val (.ref a1), .val (.int x1), .val (.int x2)] [(.int v2)])) (fun t k => ldI X1 hx hZ e1 A_a5_0 hv2 (g := (mkF m 7 #[.val (.ref a1), .val (.int x1), .val (.int x2)] [(.int x2), (.ref a5)])) rfl rfl (hb hby d13_7) _ k) ?_
  refine iteE hr (fun hc3 hr => ?_) (fun hc3 hr => ?_)
  · refine Runs.via (T' := T1) (g' := (mkF m 21 #[.val (.ref a1), .val (.int x1), .val (.int x2)] [])) (fun t k => ?_) ?_
    · show Steps p.tables e below (T1.setTop (mkF m 8 #[.val (.ref a1), .val (.int x1), .val (.int x2)] [(.int v2)])) t
      exact XS.ifYes X1.here hx rfl (pc0 := 8) (pc' := 21) rfl (hb hby d13_8) rfl ((if0 _ _).trans (tlt hc3).1) (by decide) (by decide) k
    refine Runs.via (T' := T1) (g' := (mkF m 22 #[.val (.ref a1), .val (.int x1), .val (.int x2)] [(.ref a1)])) (fun t k => ?_) ?_
    · show Steps p.tables e below (T1.setTop (mkF m 21 #[.val (.ref a1), .val (.int x1), .val (.int x2)] [])) t
      refine XS.aloadN X1.here hx rfl (hb hby d13_21) rfl rfl ?_
      exact k
    obtain ⟨T4, X4, e4, st4⟩ := getF X1 hx hZ hown (host := "") (Or.inl (hw _ (List.mem_of_getElem? (i := 34) rfl))) Via.refl e1 F_a1_last_0 (g := (mkF m 22 #[.val (.ref a1), .val (.int x1), .val (.int x2)] [(.ref a1)])) rfl rfl (hb hby d13_22)
    refine Runs.via (T' := T4) (g' := (mkF m 25 #[.val (.ref a1), .val (.int x1), .val (.int x2)] [(.ref a6)])) (fun t k => st4 _ k) ?_
    refine Runs.via (T' := T4) (g' := (mkF m 26 #[.val (.ref a1), .val (.int x1), .val (.int x2)] [(.int x2), (.ref a6)])) (fun t k => ?_) ?_
    · show Steps p.tables e below (T4.setTop (mkF m 25 #[.val (.ref a1), .val (.int x1), .val (.int x2)] [(.ref a6)])) t
      refine XS.iloadN X4.here hx rfl (hb hby d13_25) rfl ?_
      exact k
    refine bindE hr ?_; intro v5 hv5 hr
    refine Runs.via (T' := T4) (g' := (mkF m 27 #[.val (.ref a1), .val (.int x1), .val (.int x2)] [(.int v5)])) (fun t k => ldI X4 hx hZ e4 A_a6_0 hv5 (g := (mkF m 26 #[.val (.ref a1), .val (.int x1), .val (.int x2)] [(.int x2), (.ref a6)])) rfl rfl (hb hby d13_26) _ k) ?_
    obtain rfl := Option.some.inj hr
    exact own_retI X4 hx hlk hret (hb hby d13_27) (by show cells ≤ 0; omega) (by show slots ≤ 0; omega) ⟨rfl, N0, e4⟩
  · refine Runs.via (T' := T1) (g' := (mkF m 11 #[.val (.ref a1), .val (.int x1), .val (.int x2)] [])) (fun t k => ?_) ?_
    · show Steps p.tables e below (T1.setTop (mkF m 8 #[.val (.ref a1), .val (.int x1), .val (.int x2)] [(.int v2)])) t
      exact XS.ifNo X1.here hx rfl (hb hby d13_8) rfl ((if0 _ _).trans (flt hc3).1) k
    refine Runs.via (T' := T1) (g' := (mkF m 12 #[.val (.ref a1), .val (.int x1), .val (.int x2)] [(.ref a1)])) (fun t k => ?_) ?_
    · show Steps p.tables e below (T1.setTop (mkF m 11 #[.val (.ref a1), .val (.int x1), .val (.int x2)] [])) t
      refine XS.aloadN X1.here hx rfl (hb hby d13_11) rfl rfl ?_
      exact k
    obtain ⟨T6, X6, e6, st6⟩ := getF X1 hx hZ hown (host := "") (Or.inl (hw _ (List.mem_of_getElem? (i := 32) rfl))) Via.refl e1 F_a1_parent_0 (g := (mkF m 12 #[.val (.ref a1), .val (.int x1), .val (.int x2)] [(.ref a1)])) rfl rfl (hb hby d13_12)
    refine Runs.via (T' := T6) (g' := (mkF m 15 #[.val (.ref a1), .val (.int x1), .val (.int x2)] [(.ref a5)])) (fun t k => st6 _ k) ?_
    refine Runs.via (T' := T6) (g' := (mkF m 16 #[.val (.ref a1), .val (.int x1), .val (.int x2)] [(.int x2), (.ref a5)])) (fun t k => ?_) ?_
    · show Steps p.tables e below (T6.setTop (mkF m 15 #[.val (.ref a1), .val (.int x1), .val (.int x2)] [(.ref a5)])) t
      refine XS.iloadN X6.here hx rfl (hb hby d13_15) rfl ?_
      exact k
    refine bindE hr ?_; intro v7 hv7 hr
    refine Runs.via (T' := T6) (g' := (mkF m 17 #[.val (.ref a1), .val (.int x1), .val (.int x2)] [(.int v7)])) (fun t k => ldI X6 hx hZ e6 A_a5_0 hv7 (g := (mkF m 16 #[.val (.ref a1), .val (.int x1), .val (.int x2)] [(.int x2), (.ref a5)])) rfl rfl (hb hby d13_16) _ k) ?_
    refine Runs.via (T' := T6) (g' := (mkF m 2 #[.val (.ref a1), .val (.int x1), .val (.int v7)] [])) (fun t k => ?_) ?_
    · show Steps p.tables e below (T6.setTop (mkF m 17 #[.val (.ref a1), .val (.int x1), .val (.int x2)] [(.int v7)])) t
      refine XS.istoreN X6.here hx rfl (hb hby d13_17) rfl (l' := #[.val (.ref a1), .val (.int x1), .val (.int v7)]) rfl ?_
      show Steps p.tables e below (T6.setTop (mkF m 18 #[.val (.ref a1), .val (.int x1), .val (.int v7)] [])) t
      refine XS.goto X6.here hx rfl (pc0 := 18) (pc' := 2) rfl (hb hby d13_18) (by decide) (by decide) ?_
      exact k
    exact hK2 X6 e6 N0 (by show cells ≤ 0; omega) (by show slots ≤ 0; omega) Z1 (by omega) (by omega) (by omega) (by omega) (by omega) (by omega) (by omega) (by omega) x1 v7 E_a1_0 F_a1_nodes_0 F_a1_parent_0 F_a1_last_0 F_a1_marking_0 F_a1_depth_0 F_a1_transitionCount_0 F_a1_size_0 E_a2_0 F_a2_keys_0 F_a2_values_0 F_a2_size_0 A_a3_0 A_a4_0 A_a5_0 A_a6_0 A_a7_0 A_a8_0 hr
set_option maxRecDepth 65536 in
set_option maxHeartbeats 4000000 in
theorem u13_2 {hE : Heap} {a1 : Addr} {a2 : Addr} {a3 : Addr} {a4 : Addr} {a5 : Addr} {a6 : Addr} {a7 : Addr} {a8 : Addr} {q_a1_transitionCount : Int32} {q_a1_size : Int32} {q_a2_size : Int32} {q_a3 : List Int64} {q_a4 : List Int32} {q_a5 : List Int32} {q_a6 : List Int32} {q_a7 : List Int32} {q_a8 : List Int32} (fuel : Nat) {r : Int32} (C : Ctx p s m meth c Z a0 "com/example/mopor/mopor/reduction/VectorTree" prog_24_method_6_code 3 (some .int) "start") : ∀ n : Nat, ∀ {T0 : State} {locs : List Loc} {cells slots : Nat} (X0 : Stand p l e ({ frames := 0, cells := 0, slots := 0, locals := 0 } : Room) s m args below meth c T0 locs cells slots) (e0 : T0.heap = hE) (N0 : Fr n0 locs) (hk : cells ≤ 0) (hn : slots ≤ 0) (Z1 : n0 ≤ hE.size) (o0 : n0 ≤ a1) (o1 : @LT.lt Nat instLTNat a1 a2) (o2 : @LT.lt Nat instLTNat a2 a3) (o3 : @LT.lt Nat instLTNat a3 a4) (o4 : @LT.lt Nat instLTNat a4 a5) (o5 : @LT.lt Nat instLTNat a5 a6) (o6 : @LT.lt Nat instLTNat a6 a7) (o7 : @LT.lt Nat instLTNat a7 a8) (x1 : Int32) (x2 : Int32) (E_a1_0 : Exa Z hE a1 "com/example/mopor/mopor/reduction/VectorTree") (F_a1_nodes_0 : Fld Z hE a1 "com/example/mopor/mopor/reduction/VectorTree" "nodes" "Lcom/example/mopor/mopor/reduction/LongIntTable;" (.ref a2)) (F_a1_parent_0 : Fld Z hE a1 "com/example/mopor/mopor/reduction/VectorTree" "parent" "[I" (.ref a5)) (F_a1_last_0 : Fld Z hE a1 "com/example/mopor/mopor/reduction/VectorTree" "last" "[I" (.ref a6)) (F_a1_marking_0 : Fld Z hE a1 "com/example/mopor/mopor/reduction/VectorTree" "marking" "[I" (.ref a7)) (F_a1_depth_0 : Fld Z hE a1 "com/example/mopor/mopor/reduction/VectorTree" "depth" "[I" (.ref a8)) (F_a1_transitionCount_0 : Fld Z hE a1 "com/example/mopor/mopor/reduction/VectorTree" "transitionCount" "I" (.int q_a1_transitionCount)) (F_a1_size_0 : Fld Z hE a1 "com/example/mopor/mopor/reduction/VectorTree" "size" "I" (.int q_a1_size)) (E_a2_0 : Exa Z hE a2 "com/example/mopor/mopor/reduction/LongIntTable") (F_a2_keys_0 : Fld Z hE a2 "com/example/mopor/mopor/reduction/LongIntTable" "keys" "[J" (.ref a3)) (F_a2_values_0 : Fld Z hE a2 "com/example/mopor/mopor/reduction/LongIntTable" "values" "[I" (.ref a4)) (F_a2_size_0 : Fld Z hE a2 "com/example/mopor/mopor/reduction/LongIntTable" "size" "I" (.int q_a2_size)) (A_a3_0 : AJ Z hE a3 .long q_a3) (A_a4_0 : AI Z hE a4 .int q_a4) (A_a5_0 : AI Z hE a5 .int q_a5) (A_a6_0 : AI Z hE a6 .int q_a6) (A_a7_0 : AI Z hE a7 .int q_a7) (A_a8_0 : AI Z hE a8 .int q_a8), h13_2 fuel n x2 q_a1_transitionCount q_a1_size q_a2_size q_a3 q_a4 q_a5 q_a6 q_a7 q_a8 = some r → Runs p e below s (P13 Z hE a1 a2 a3 a4 a5 a6 a7 a8 q_a1_transitionCount q_a1_size q_a2_size q_a3 q_a4 q_a5 q_a6 q_a7 q_a8 n0 r) 0 0 T0 (mkF m 2 #[.val (.ref a1), .val (.int x1), .val (.int x2)] []) := by
  intro n
  induction n with
  | zero => intros; rename_i hr; exact absurd hr (by simp [h13_2])
  | succ n ih =>
    intro T0 locs cells slots X0 e0 N0 hk hn Z1 o0 o1 o2 o3 o4 o5 o6 o7 x1 x2 E_a1_0 F_a1_nodes_0 F_a1_parent_0 F_a1_last_0 F_a1_marking_0 F_a1_depth_0 F_a1_transitionCount_0 F_a1_size_0 E_a2_0 F_a2_keys_0 F_a2_values_0 F_a2_size_0 A_a3_0 A_a4_0 A_a5_0 A_a6_0 A_a7_0 A_a8_0 hr
    exact t13_2 fuel C _ ih X0 e0 N0 hk hn Z1 o0 o1 o2 o3 o4 o5 o6 o7 x1 x2 E_a1_0 F_a1_nodes_0 F_a1_parent_0 F_a1_last_0 F_a1_marking_0 F_a1_depth_0 F_a1_transitionCount_0 F_a1_size_0 E_a2_0 F_a2_keys_0 F_a2_values_0 F_a2_size_0 A_a3_0 A_a4_0 A_a5_0 A_a6_0 A_a7_0 A_a8_0 hr
set_option maxRecDepth 65536 in
set_option maxHeartbeats 4000000 in
theorem b13_2 {hE : Heap} {a1 : Addr} {a2 : Addr} {a3 : Addr} {a4 : Addr} {a5 : Addr} {a6 : Addr} {a7 : Addr} {a8 : Addr} {q_a1_transitionCount : Int32} {q_a1_size : Int32} {q_a2_size : Int32} {q_a3 : List Int64} {q_a4 : List Int32} {q_a5 : List Int32} {q_a6 : List Int32} {q_a7 : List Int32} {q_a8 : List Int32} {r : Int32} (C : Ctx p s m meth c Z a0 "com/example/mopor/mopor/reduction/VectorTree" prog_24_method_6_code 3 (some .int) "start") (fuel : Nat) (X0 : Stand p l e ({ frames := 0, cells := 0, slots := 0, locals := 0 } : Room) s m args below meth c T0 locs cells slots) (e0 : T0.heap = hE) (N0 : Fr n0 locs) (hk : cells ≤ 0) (hn : slots ≤ 0) (Z1 : n0 ≤ hE.size) (o0 : n0 ≤ a1) (o1 : @LT.lt Nat instLTNat a1 a2) (o2 : @LT.lt Nat instLTNat a2 a3) (o3 : @LT.lt Nat instLTNat a3 a4) (o4 : @LT.lt Nat instLTNat a4 a5) (o5 : @LT.lt Nat instLTNat a5 a6) (o6 : @LT.lt Nat instLTNat a6 a7) (o7 : @LT.lt Nat instLTNat a7 a8) (x1 : Int32) (x2 : Int32) (E_a1_0 : Exa Z hE a1 "com/example/mopor/mopor/reduction/VectorTree") (F_a1_nodes_0 : Fld Z hE a1 "com/example/mopor/mopor/reduction/VectorTree" "nodes" "Lcom/example/mopor/mopor/reduction/LongIntTable;" (.ref a2)) (F_a1_parent_0 : Fld Z hE a1 "com/example/mopor/mopor/reduction/VectorTree" "parent" "[I" (.ref a5)) (F_a1_last_0 : Fld Z hE a1 "com/example/mopor/mopor/reduction/VectorTree" "last" "[I" (.ref a6)) (F_a1_marking_0 : Fld Z hE a1 "com/example/mopor/mopor/reduction/VectorTree" "marking" "[I" (.ref a7)) (F_a1_depth_0 : Fld Z hE a1 "com/example/mopor/mopor/reduction/VectorTree" "depth" "[I" (.ref a8)) (F_a1_transitionCount_0 : Fld Z hE a1 "com/example/mopor/mopor/reduction/VectorTree" "transitionCount" "I" (.int q_a1_transitionCount)) (F_a1_size_0 : Fld Z hE a1 "com/example/mopor/mopor/reduction/VectorTree" "size" "I" (.int q_a1_size)) (E_a2_0 : Exa Z hE a2 "com/example/mopor/mopor/reduction/LongIntTable") (F_a2_keys_0 : Fld Z hE a2 "com/example/mopor/mopor/reduction/LongIntTable" "keys" "[J" (.ref a3)) (F_a2_values_0 : Fld Z hE a2 "com/example/mopor/mopor/reduction/LongIntTable" "values" "[I" (.ref a4)) (F_a2_size_0 : Fld Z hE a2 "com/example/mopor/mopor/reduction/LongIntTable" "size" "I" (.int q_a2_size)) (A_a3_0 : AJ Z hE a3 .long q_a3) (A_a4_0 : AI Z hE a4 .int q_a4) (A_a5_0 : AI Z hE a5 .int q_a5) (A_a6_0 : AI Z hE a6 .int q_a6) (A_a7_0 : AI Z hE a7 .int q_a7) (A_a8_0 : AI Z hE a8 .int q_a8) (hr : g13_2 fuel x2 q_a1_transitionCount q_a1_size q_a2_size q_a3 q_a4 q_a5 q_a6 q_a7 q_a8 = some r) :
    Runs p e below s (P13 Z hE a1 a2 a3 a4 a5 a6 a7 a8 q_a1_transitionCount q_a1_size q_a2_size q_a3 q_a4 q_a5 q_a6 q_a7 q_a8 n0 r) 0 0 T0 (mkF m 2 #[.val (.ref a1), .val (.int x1), .val (.int x2)] []) := u13_2 fuel C fuel X0 e0 N0 hk hn Z1 o0 o1 o2 o3 o4 o5 o6 o7 x1 x2 E_a1_0 F_a1_nodes_0 F_a1_parent_0 F_a1_last_0 F_a1_marking_0 F_a1_depth_0 F_a1_transitionCount_0 F_a1_size_0 E_a2_0 F_a2_keys_0 F_a2_values_0 F_a2_size_0 A_a3_0 A_a4_0 A_a5_0 A_a6_0 A_a7_0 A_a8_0 hr
def g13_0 (fuel : Nat) (x1 : Int32) (q_a1_transitionCount : Int32) (q_a1_size : Int32) (q_a2_size : Int32) (q_a3 : List Int64) (q_a4 : List Int32) (q_a5 : List Int32) (q_a6 : List Int32) (q_a7 : List Int32) (q_a8 : List Int32) : Option (Int32) := (g13_2 fuel x1 q_a1_transitionCount q_a1_size q_a2_size q_a3 q_a4 q_a5 q_a6 q_a7 q_a8)
set_option maxRecDepth 65536 in
set_option maxHeartbeats 4000000 in
theorem b13_0 {hE : Heap} {a1 : Addr} {a2 : Addr} {a3 : Addr} {a4 : Addr} {a5 : Addr} {a6 : Addr} {a7 : Addr} {a8 : Addr} {q_a1_transitionCount : Int32} {q_a1_size : Int32} {q_a2_size : Int32} {q_a3 : List Int64} {q_a4 : List Int32} {q_a5 : List Int32} {q_a6 : List Int32} {q_a7 : List Int32} {q_a8 : List Int32} {r : Int32} (C : Ctx p s m meth c Z a0 "com/example/mopor/mopor/reduction/VectorTree" prog_24_method_6_code 3 (some .int) "start") (fuel : Nat) (X0 : Stand p l e ({ frames := 0, cells := 0, slots := 0, locals := 0 } : Room) s m args below meth c T0 locs cells slots) (e0 : T0.heap = hE) (N0 : Fr n0 locs) (hk : cells ≤ 0) (hn : slots ≤ 0) (Z1 : n0 ≤ hE.size) (o0 : n0 ≤ a1) (o1 : @LT.lt Nat instLTNat a1 a2) (o2 : @LT.lt Nat instLTNat a2 a3) (o3 : @LT.lt Nat instLTNat a3 a4) (o4 : @LT.lt Nat instLTNat a4 a5) (o5 : @LT.lt Nat instLTNat a5 a6) (o6 : @LT.lt Nat instLTNat a6 a7) (o7 : @LT.lt Nat instLTNat a7 a8) (x1 : Int32) (E_a1_0 : Exa Z hE a1 "com/example/mopor/mopor/reduction/VectorTree") (F_a1_nodes_0 : Fld Z hE a1 "com/example/mopor/mopor/reduction/VectorTree" "nodes" "Lcom/example/mopor/mopor/reduction/LongIntTable;" (.ref a2)) (F_a1_parent_0 : Fld Z hE a1 "com/example/mopor/mopor/reduction/VectorTree" "parent" "[I" (.ref a5)) (F_a1_last_0 : Fld Z hE a1 "com/example/mopor/mopor/reduction/VectorTree" "last" "[I" (.ref a6)) (F_a1_marking_0 : Fld Z hE a1 "com/example/mopor/mopor/reduction/VectorTree" "marking" "[I" (.ref a7)) (F_a1_depth_0 : Fld Z hE a1 "com/example/mopor/mopor/reduction/VectorTree" "depth" "[I" (.ref a8)) (F_a1_transitionCount_0 : Fld Z hE a1 "com/example/mopor/mopor/reduction/VectorTree" "transitionCount" "I" (.int q_a1_transitionCount)) (F_a1_size_0 : Fld Z hE a1 "com/example/mopor/mopor/reduction/VectorTree" "size" "I" (.int q_a1_size)) (E_a2_0 : Exa Z hE a2 "com/example/mopor/mopor/reduction/LongIntTable") (F_a2_keys_0 : Fld Z hE a2 "com/example/mopor/mopor/reduction/LongIntTable" "keys" "[J" (.ref a3)) (F_a2_values_0 : Fld Z hE a2 "com/example/mopor/mopor/reduction/LongIntTable" "values" "[I" (.ref a4)) (F_a2_size_0 : Fld Z hE a2 "com/example/mopor/mopor/reduction/LongIntTable" "size" "I" (.int q_a2_size)) (A_a3_0 : AJ Z hE a3 .long q_a3) (A_a4_0 : AI Z hE a4 .int q_a4) (A_a5_0 : AI Z hE a5 .int q_a5) (A_a6_0 : AI Z hE a6 .int q_a6) (A_a7_0 : AI Z hE a7 .int q_a7) (A_a8_0 : AI Z hE a8 .int q_a8) (hr : g13_0 fuel x1 q_a1_transitionCount q_a1_size q_a2_size q_a3 q_a4 q_a5 q_a6 q_a7 q_a8 = some r) :
    Runs p e below s (P13 Z hE a1 a2 a3 a4 a5 a6 a7 a8 q_a1_transitionCount q_a1_size q_a2_size q_a3 q_a4 q_a5 q_a6 q_a7 q_a8 n0 r) 0 0 T0 (mkF m 0 #[.val (.ref a1), .val (.int x1), .unset] []) := by
  unfold g13_0 at hr
  have ⟨hx, hZ, hw, hby, hml, hown, hret, hlk, hnm⟩ := C
  refine Runs.via (T' := T0) (g' := (mkF m 2 #[.val (.ref a1), .val (.int x1), .val (.int x1)] [])) (fun t k => ?_) ?_
  · show Steps p.tables e below (T0.setTop (mkF m 0 #[.val (.ref a1), .val (.int x1), .unset] [])) t
    refine XS.iloadN X0.here hx rfl (hb hby d13_0) rfl ?_
    show Steps p.tables e below (T0.setTop (mkF m 1 #[.val (.ref a1), .val (.int x1), .unset] [(.int x1)])) t
    refine XS.istoreN X0.here hx rfl (hb hby d13_1) rfl (l' := #[.val (.ref a1), .val (.int x1), .val (.int x1)]) rfl ?_
    exact k
  exact b13_2 C fuel X0 e0 N0 (by show cells ≤ 0; omega) (by show slots ≤ 0; omega) Z1 (by omega) (by omega) (by omega) (by omega) (by omega) (by omega) (by omega) (by omega) x1 x1 E_a1_0 F_a1_nodes_0 F_a1_parent_0 F_a1_last_0 F_a1_marking_0 F_a1_depth_0 F_a1_transitionCount_0 F_a1_size_0 E_a2_0 F_a2_keys_0 F_a2_values_0 F_a2_size_0 A_a3_0 A_a4_0 A_a5_0 A_a6_0 A_a7_0 A_a8_0 hr
def f13 (fuel : Nat) (x1 : Int32) (q_a1_transitionCount : Int32) (q_a1_size : Int32) (q_a2_size : Int32) (q_a3 : List Int64) (q_a4 : List Int32) (q_a5 : List Int32) (q_a6 : List Int32) (q_a7 : List Int32) (q_a8 : List Int32) : Option (Int32) := g13_0 fuel x1 q_a1_transitionCount q_a1_size q_a2_size q_a3 q_a4 q_a5 q_a6 q_a7 q_a8
theorem pn_13 : plainName "com/example/mopor/mopor/reduction/VectorTree" = true := by first | (simp [plainName, overriddenIn]; done) | decide +kernel
theorem ef_13 (m : MethodId) (x1 : Int32) (a1 : Addr) (a2 : Addr) (a3 : Addr) (a4 : Addr) (a5 : Addr) (a6 : Addr) (a7 : Addr) (a8 : Addr) : entryFrame m #[(.ref a1), (.int x1)] 3 = mkF m 0 #[.val (.ref a1), .val (.int x1), .unset] [] := by first | (simp [entryFrame, mkF, argsToLocals, Value.category]; done) | rfl
set_option maxRecDepth 65536 in
set_option maxHeartbeats 4000000 in
theorem rm13 (l : Launch) (Z : State) (a0 : Array Value) (hw : ∀ d ∈ tables_1, d.before a0 Z = true) (ws : List Jvm.Cond) (x1 : Int32) (a1 : Addr) (a2 : Addr) (a3 : Addr) (a4 : Addr) (a5 : Addr) (a6 : Addr) (a7 : Addr) (a8 : Addr) (q_a1_transitionCount : Int32) (q_a1_size : Int32) (q_a2_size : Int32) (q_a3 : List Int64) (q_a4 : List Int32) (q_a5 : List Int32) (q_a6 : List Int32) (q_a7 : List Int32) (q_a8 : List Int32) (hE : Heap) (n0 : Nat) (Z0 : n0 ≤ hE.size) (o0 : n0 ≤ a1) (o1 : @LT.lt Nat instLTNat a1 a2) (o2 : @LT.lt Nat instLTNat a2 a3) (o3 : @LT.lt Nat instLTNat a3 a4) (o4 : @LT.lt Nat instLTNat a4 a5) (o5 : @LT.lt Nat instLTNat a5 a6) (o6 : @LT.lt Nat instLTNat a6 a7) (o7 : @LT.lt Nat instLTNat a7 a8) (E_a1_0 : Exa Z hE a1 "com/example/mopor/mopor/reduction/VectorTree") (F_a1_nodes_0 : Fld Z hE a1 "com/example/mopor/mopor/reduction/VectorTree" "nodes" "Lcom/example/mopor/mopor/reduction/LongIntTable;" (.ref a2)) (F_a1_parent_0 : Fld Z hE a1 "com/example/mopor/mopor/reduction/VectorTree" "parent" "[I" (.ref a5)) (F_a1_last_0 : Fld Z hE a1 "com/example/mopor/mopor/reduction/VectorTree" "last" "[I" (.ref a6)) (F_a1_marking_0 : Fld Z hE a1 "com/example/mopor/mopor/reduction/VectorTree" "marking" "[I" (.ref a7)) (F_a1_depth_0 : Fld Z hE a1 "com/example/mopor/mopor/reduction/VectorTree" "depth" "[I" (.ref a8)) (F_a1_transitionCount_0 : Fld Z hE a1 "com/example/mopor/mopor/reduction/VectorTree" "transitionCount" "I" (.int q_a1_transitionCount)) (F_a1_size_0 : Fld Z hE a1 "com/example/mopor/mopor/reduction/VectorTree" "size" "I" (.int q_a1_size)) (E_a2_0 : Exa Z hE a2 "com/example/mopor/mopor/reduction/LongIntTable") (F_a2_keys_0 : Fld Z hE a2 "com/example/mopor/mopor/reduction/LongIntTable" "keys" "[J" (.ref a3)) (F_a2_values_0 : Fld Z hE a2 "com/example/mopor/mopor/reduction/LongIntTable" "values" "[I" (.ref a4)) (F_a2_size_0 : Fld Z hE a2 "com/example/mopor/mopor/reduction/LongIntTable" "size" "I" (.int q_a2_size)) (A_a3_0 : AJ Z hE a3 .long q_a3) (A_a4_0 : AI Z hE a4 .int q_a4) (A_a5_0 : AI Z hE a5 .int q_a5) (A_a6_0 : AI Z hE a6 .int q_a6) (A_a7_0 : AI Z hE a7 .int q_a7) (A_a8_0 : AI Z hE a8 .int q_a8) (fuel : Nat) (r : Int32) (hr : f13 fuel x1 q_a1_transitionCount q_a1_size q_a2_size q_a3 q_a4 q_a5 q_a6 q_a7 q_a8 = some r) :
    MetFree l (⟨"com/example/mopor/mopor/reduction/VectorTree", "start", "(I)I"⟩ : MethodName) (head1 (Jvm.Cond.code (⟨"com/example/mopor/mopor/reduction/VectorTree", "start", "(I)I"⟩ : MethodName) prog_24_method_6_code 3 (some .int) :: ws) ({ frames := 0, cells := 0, slots := 0, locals := 0 } : Room)) (fun a U => a = #[(.ref a1), (.int x1)] ∧ Z.Warmed39 U.vm ∧ U.heap = hE) (fun _ _ _ _ _ => True) (fun _ U o U' => ∃ v L, o = .returned v ∧ (P13 Z hE a1 a2 a3 a4 a5 a6 a7 a8 q_a1_transitionCount q_a1_size q_a2_size q_a3 q_a4 q_a5 q_a6 q_a7 q_a8 n0 r v U'.heap L) ∧ FrameEnd U o U' L ({ frames := 0, cells := 0, slots := 0, locals := 0 } : Room).cells ({ frames := 0, cells := 0, slots := 0, locals := 0 } : Room).slots) := by
  refine MetFree.of_bodySF (plainFor_of_name pn_13) hisR ?_
  intro p e s m args below meth c s₁ Bd hml0 hP hK
  obtain ⟨rfl, hZ, hh⟩ := hP
  have X0 : Stand p l e ({ frames := 0, cells := 0, slots := 0, locals := 0 } : Room) s m #[(.ref a1), (.int x1)] below meth c s₁ [] 0 0 := Stand.of_body Bd
  have e0 : s₁.heap = hE := by rw [← hh, Bd.state]; rfl
  have C : Ctx p s m meth c Z a0 "com/example/mopor/mopor/reduction/VectorTree" prog_24_method_6_code 3 (some .int) "start" := ⟨Bd.exec, hZ, hw, Bd.bytes, hml0, findClass_of_methodNamed Bd.named, Bd.returns, BodyLoose.notSynchronized Bd, (name_of_methodNamed Bd.named Bd.method).1⟩
  refine Runs.via (fun t k => castTop (ef_13 m x1 a1 a2 a3 a4 a5 a6 a7 a8) k) (b13_0 C fuel X0 e0 (Fr.nil n0) (by show 0 ≤ 0; omega) (by show 0 ≤ 0; omega) Z0 (by omega) (by omega) (by omega) (by omega) (by omega) (by omega) (by omega) (by omega) x1 E_a1_0 F_a1_nodes_0 F_a1_parent_0 F_a1_last_0 F_a1_marking_0 F_a1_depth_0 F_a1_transitionCount_0 F_a1_size_0 E_a2_0 F_a2_keys_0 F_a2_values_0 F_a2_size_0 A_a3_0 A_a4_0 A_a5_0 A_a6_0 A_a7_0 A_a8_0 hr)
def P0 (n0 : Nat) (r : Int32) (v : Option Value) (h : Heap) (L : List Loc) : Prop := v = some (.int r) ∧ Fr n0 L
def g0_133 (fuel : Nat) (x1 : Int32) (x2 : Int32) (x8 : Int32) (x9 : Int32) (x12 : Int32) (x13 : Int32) (x14 : Int32) (u0 : Int32) (q_n0_0_transitionCount : Int32) (q_n0_0_size : Int32) (q_n1_0_size : Int32) (q_n2_0 : List Int64) (q_n3_0 : List Int32) (q_n4_0 : List Int32) (q_n5_0 : List Int32) (q_n6_0 : List Int32) (q_n7_0 : List Int32) : Option (Int32) := ((f13 fuel x8 q_n0_0_transitionCount q_n0_0_size q_n1_0_size q_n2_0 q_n3_0 q_n4_0 q_n5_0 q_n6_0 q_n7_0).bind fun r1 => (if r1 = x2 then ((f13 fuel x9 q_n0_0_transitionCount q_n0_0_size q_n1_0_size q_n2_0 q_n3_0 q_n4_0 q_n5_0 q_n6_0 q_n7_0).bind fun r3 => (if r3 = x1 then ((f13 fuel x12 q_n0_0_transitionCount q_n0_0_size q_n1_0_size q_n2_0 q_n3_0 q_n4_0 q_n5_0 q_n6_0 q_n7_0).bind fun r5 => (if r5 = x14 then ((f13 fuel x13 q_n0_0_transitionCount q_n0_0_size q_n1_0_size q_n2_0 q_n3_0 q_n4_0 q_n5_0 q_n6_0 q_n7_0).bind fun r7 => (if r7 = u0 then some (1 : Int32) else some (0 : Int32))) else some (0 : Int32))) else some (0 : Int32))) else some (0 : Int32)))
set_option maxRecDepth 65536 in
set_option maxHeartbeats 4000000 in
theorem b0_133 {r : Int32} (C : Ctx p s m meth c Z a0 "com/example/mopor/mopor/reduction/VectorTreeStartPinLaw" code 16 (some .boolean) "law") (fuel : Nat) (X0 : Stand p l e room_1 s m args below meth c T0 locs cells slots) (e0 : T0.heap = h0) (N0 : Fr n0 locs) (hk : cells ≤ 8) (hn : slots ≤ 4138) (Z1 : n0 ≤ h0.size) (n0_0 : Addr) (n1_0 : Addr) (n2_0 : Addr) (n3_0 : Addr) (n4_0 : Addr) (n5_0 : Addr) (n6_0 : Addr) (n7_0 : Addr) (o0 : n0 ≤ n0_0) (o1 : @LT.lt Nat instLTNat n0_0 n1_0) (o2 : @LT.lt Nat instLTNat n1_0 n2_0) (o3 : @LT.lt Nat instLTNat n2_0 n3_0) (o4 : @LT.lt Nat instLTNat n3_0 n4_0) (o5 : @LT.lt Nat instLTNat n4_0 n5_0) (o6 : @LT.lt Nat instLTNat n5_0 n6_0) (o7 : @LT.lt Nat instLTNat n6_0 n7_0) (q_n0_0_transitionCount : Int32) (q_n0_0_size : Int32) (q_n1_0_size : Int32) (q_n2_0 : List Int64) (q_n3_0 : List Int32) (q_n4_0 : List Int32) (q_n5_0 : List Int32) (q_n6_0 : List Int32) (q_n7_0 : List Int32) (x0 : Int32) (x1 : Int32) (x2 : Int32) (x3 : Int32) (x4 : Int32) (x5 : Int32) (x7 : Int32) (x8 : Int32) (x9 : Int32) (x10 : Int32) (x11 : Int32) (x12 : Int32) (x13 : Int32) (x14 : Int32) (u0 : Int32) (E_n0_0_0 : Exa Z h0 n0_0 "com/example/mopor/mopor/reduction/VectorTree") (F_n0_0_nodes_0 : Fld Z h0 n0_0 "com/example/mopor/mopor/reduction/VectorTree" "nodes" "Lcom/example/mopor/mopor/reduction/LongIntTable;" (.ref n1_0)) (F_n0_0_parent_0 : Fld Z h0 n0_0 "com/example/mopor/mopor/reduction/VectorTree" "parent" "[I" (.ref n4_0)) (F_n0_0_last_0 : Fld Z h0 n0_0 "com/example/mopor/mopor/reduction/VectorTree" "last" "[I" (.ref n5_0)) (F_n0_0_marking_0 : Fld Z h0 n0_0 "com/example/mopor/mopor/reduction/VectorTree" "marking" "[I" (.ref n6_0)) (F_n0_0_depth_0 : Fld Z h0 n0_0 "com/example/mopor/mopor/reduction/VectorTree" "depth" "[I" (.ref n7_0)) (F_n0_0_transitionCount_0 : Fld Z h0 n0_0 "com/example/mopor/mopor/reduction/VectorTree" "transitionCount" "I" (.int q_n0_0_transitionCount)) (F_n0_0_size_0 : Fld Z h0 n0_0 "com/example/mopor/mopor/reduction/VectorTree" "size" "I" (.int q_n0_0_size)) (E_n1_0_0 : Exa Z h0 n1_0 "com/example/mopor/mopor/reduction/LongIntTable") (F_n1_0_keys_0 : Fld Z h0 n1_0 "com/example/mopor/mopor/reduction/LongIntTable" "keys" "[J" (.ref n2_0)) (F_n1_0_values_0 : Fld Z h0 n1_0 "com/example/mopor/mopor/reduction/LongIntTable" "values" "[I" (.ref n3_0)) (F_n1_0_size_0 : Fld Z h0 n1_0 "com/example/mopor/mopor/reduction/LongIntTable" "size" "I" (.int q_n1_0_size)) (A_n2_0_0 : AJ Z h0 n2_0 .long q_n2_0) (A_n3_0_0 : AI Z h0 n3_0 .int q_n3_0) (A_n4_0_0 : AI Z h0 n4_0 .int q_n4_0) (A_n5_0_0 : AI Z h0 n5_0 .int q_n5_0) (A_n6_0_0 : AI Z h0 n6_0 .int q_n6_0) (A_n7_0_0 : AI Z h0 n7_0 .int q_n7_0) (hr : g0_133 fuel x1 x2 x8 x9 x12 x13 x14 u0 q_n0_0_transitionCount q_n0_0_size q_n1_0_size q_n2_0 q_n3_0 q_n4_0 q_n5_0 q_n6_0 q_n7_0 = some r) :
    Runs p e below s (P0 n0 r) 8 4138 T0 (mkF m 133 #[.val (.int x0), .val (.int x1), .val (.int x2), .val (.int x3), .val (.int x4), .val (.int x5), .val (.ref n0_0), .val (.int x7), .val (.int x8), .val (.int x9), .val (.int x10), .val (.int x11), .val (.int x12), .val (.int x13), .val (.int x14), .unset] [(.int u0)]) := by
  unfold g0_133 at hr
  have ⟨hx, hZ, hw, hby, hml, hown, hret, hlk, hnm⟩ := C
  refine Runs.via (T' := T0) (g' := (mkF m 139 #[.val (.int x0), .val (.int x1), .val (.int x2), .val (.int x3), .val (.int x4), .val (.int x5), .val (.ref n0_0), .val (.int x7), .val (.int x8), .val (.int x9), .val (.int x10), .val (.int x11), .val (.int x12), .val (.int x13), .val (.int x14), .val (.int u0)] [(.int x8), (.ref n0_0)])) (fun t k => ?_) ?_
  · show Steps p.tables e below (T0.setTop (mkF m 133 #[.val (.int x0), .val (.int x1), .val (.int x2), .val (.int x3), .val (.int x4), .val (.int x5), .val (.ref n0_0), .val (.int x7), .val (.int x8), .val (.int x9), .val (.int x10), .val (.int x11), .val (.int x12), .val (.int x13), .val (.int x14), .unset] [(.int u0)])) t
    refine XS.istore X0.here hx rfl (hb hby at_133) rfl (l' := #[.val (.int x0), .val (.int x1), .val (.int x2), .val (.int x3), .val (.int x4), .val (.int x5), .val (.ref n0_0), .val (.int x7), .val (.int x8), .val (.int x9), .val (.int x10), .val (.int x11), .val (.int x12), .val (.int x13), .val (.int x14), .val (.int u0)]) rfl ?_
    show Steps p.tables e below (T0.setTop (mkF m 135 #[.val (.int x0), .val (.int x1), .val (.int x2), .val (.int x3), .val (.int x4), .val (.int x5), .val (.ref n0_0), .val (.int x7), .val (.int x8), .val (.int x9), .val (.int x10), .val (.int x11), .val (.int x12), .val (.int x13), .val (.int x14), .val (.int u0)] [])) t
    refine XS.aload X0.here hx rfl (hb hby at_135) rfl rfl ?_
    show Steps p.tables e below (T0.setTop (mkF m 137 #[.val (.int x0), .val (.int x1), .val (.int x2), .val (.int x3), .val (.int x4), .val (.int x5), .val (.ref n0_0), .val (.int x7), .val (.int x8), .val (.int x9), .val (.int x10), .val (.int x11), .val (.int x12), .val (.int x13), .val (.int x14), .val (.int u0)] [(.ref n0_0)])) t
    refine XS.iload X0.here hx rfl (hb hby at_137) rfl ?_
    exact k
  refine bindE hr ?_; intro r1 hr1m hr
  obtain ⟨cq1, kq1, q1a, q1b, q1c⟩ := isOf hZ e0 E_n0_0_0
  obtain ⟨_, _, ⟨T1, L1, k1, n1⟩, -, X1, ⟨Lc1, hQ1, l1, y1, z1⟩, st1⟩ := X0.virtualBack hx (y := (⟨"com/example/mopor/mopor/reduction/VectorTree", "start", "(I)I"⟩ : MethodName)) (z := (⟨"com/example/mopor/mopor/reduction/VectorTree", "start", "(I)I"⟩ : MethodName)) hown (mvT hZ (hw _ (List.mem_of_getElem? (i := 79) rfl))) (mvT hZ (hw _ (List.mem_of_getElem? (i := 80) rfl))) (notFace_of_selects (args := #[]) (mvT hZ (hw _ (List.mem_of_getElem? (i := 82) rfl)))) (mvT hZ (hw _ (List.mem_of_getElem? (i := 82) rfl))) (mvT hZ (hw _ (List.mem_of_getElem? (i := 81) rfl))) (by decide) (backOf (W := 0) (rm13 l Z a0 hw [] x8 n0_0 n1_0 n2_0 n3_0 n4_0 n5_0 n6_0 n7_0 q_n0_0_transitionCount q_n0_0_size q_n1_0_size q_n2_0 q_n3_0 q_n4_0 q_n5_0 q_n6_0 q_n7_0 h0 n0 Z1 (by omega) (by omega) (by omega) (by omega) (by omega) (by omega) (by omega) (by omega) E_n0_0_0 F_n0_0_nodes_0 F_n0_0_parent_0 F_n0_0_last_0 F_n0_0_marking_0 F_n0_0_depth_0 F_n0_0_transitionCount_0 F_n0_0_size_0 E_n1_0_0 F_n1_0_keys_0 F_n1_0_values_0 F_n1_0_size_0 A_n2_0_0 A_n3_0_0 A_n4_0_0 A_n5_0_0 A_n6_0_0 A_n7_0_0 fuel r1 hr1m) hZ (hw _ (List.mem_of_getElem? (i := 83) rfl)) (hw _ (List.mem_of_getElem? (i := 2) rfl)) (by decide) (by decide)) q1a q1c (g := (mkF m 139 #[.val (.int x0), .val (.int x1), .val (.int x2), .val (.int x3), .val (.int x4), .val (.int x5), .val (.ref n0_0), .val (.int x7), .val (.int x8), .val (.int x9), .val (.int x10), .val (.int x11), .val (.int x12), .val (.int x13), .val (.int x14), .val (.int u0)] [(.int x8), (.ref n0_0)])) rfl (by rw [hml]; rfl) (Steps.refl _) (argsL := [(.int x8)]) (rest := []) (lenOf pd_8 rfl) rfl (by show 2 * 0 + _ ≤ _; exact Nat.le_of_eq rfl) (hb hby at_139) (fun _ _ => ⟨rfl, e0, (by show cells + 0 ≤ 24; omega), (by show slots + 0 ≤ 8384; omega)⟩)
  dsimp only [Pt.U, Pt.locs, Pt.cells, Pt.slots] at X1 l1 y1 z1 st1 hQ1
  replace y1 := y1.symm; replace z1 := z1.symm; subst l1 y1 z1
  obtain ⟨rfl, N1q, e1⟩ := hQ1
  have N1 := Fr.app N0 N1q
  refine Runs.via (T' := T1) (g' := (mkF m 142 #[.val (.int x0), .val (.int x1), .val (.int x2), .val (.int x3), .val (.int x4), .val (.int x5), .val (.ref n0_0), .val (.int x7), .val (.int x8), .val (.int x9), .val (.int x10), .val (.int x11), .val (.int x12), .val (.int x13), .val (.int x14), .val (.int u0)] [(.int r1)])) (fun t k => st1.trans k) ?_
  refine Runs.via (T' := T1) (g' := (mkF m 143 #[.val (.int x0), .val (.int x1), .val (.int x2), .val (.int x3), .val (.int x4), .val (.int x5), .val (.ref n0_0), .val (.int x7), .val (.int x8), .val (.int x9), .val (.int x10), .val (.int x11), .val (.int x12), .val (.int x13), .val (.int x14), .val (.int u0)] [(.int x2), (.int r1)])) (fun t k => ?_) ?_
  · show Steps p.tables e below (T1.setTop (mkF m 142 #[.val (.int x0), .val (.int x1), .val (.int x2), .val (.int x3), .val (.int x4), .val (.int x5), .val (.ref n0_0), .val (.int x7), .val (.int x8), .val (.int x9), .val (.int x10), .val (.int x11), .val (.int x12), .val (.int x13), .val (.int x14), .val (.int u0)] [(.int r1)])) t
    refine XS.iloadN X1.here hx rfl (hb hby at_142) rfl ?_
    exact k
  refine iteE hr (fun hc2 hr => ?_) (fun hc2 hr => ?_)
  · refine Runs.via (T' := T1) (g' := (mkF m 146 #[.val (.int x0), .val (.int x1), .val (.int x2), .val (.int x3), .val (.int x4), .val (.int x5), .val (.ref n0_0), .val (.int x7), .val (.int x8), .val (.int x9), .val (.int x10), .val (.int x11), .val (.int x12), .val (.int x13), .val (.int x14), .val (.int u0)] [])) (fun t k => ?_) ?_
    · show Steps p.tables e below (T1.setTop (mkF m 143 #[.val (.int x0), .val (.int x1), .val (.int x2), .val (.int x3), .val (.int x4), .val (.int x5), .val (.ref n0_0), .val (.int x7), .val (.int x8), .val (.int x9), .val (.int x10), .val (.int x11), .val (.int x12), .val (.int x13), .val (.int x14), .val (.int u0)] [(.int x2), (.int r1)])) t
      exact XS.icmpNo X1.here hx rfl (hb hby at_143) rfl (teq hc2).2 k
    refine Runs.via (T' := T1) (g' := (mkF m 150 #[.val (.int x0), .val (.int x1), .val (.int x2), .val (.int x3), .val (.int x4), .val (.int x5), .val (.ref n0_0), .val (.int x7), .val (.int x8), .val (.int x9), .val (.int x10), .val (.int x11), .val (.int x12), .val (.int x13), .val (.int x14), .val (.int u0)] [(.int x9), (.ref n0_0)])) (fun t k => ?_) ?_
    · show Steps p.tables e below (T1.setTop (mkF m 146 #[.val (.int x0), .val (.int x1), .val (.int x2), .val (.int x3), .val (.int x4), .val (.int x5), .val (.ref n0_0), .val (.int x7), .val (.int x8), .val (.int x9), .val (.int x10), .val (.int x11), .val (.int x12), .val (.int x13), .val (.int x14), .val (.int u0)] [])) t
      refine XS.aload X1.here hx rfl (hb hby at_146) rfl rfl ?_
      show Steps p.tables e below (T1.setTop (mkF m 148 #[.val (.int x0), .val (.int x1), .val (.int x2), .val (.int x3), .val (.int x4), .val (.int x5), .val (.ref n0_0), .val (.int x7), .val (.int x8), .val (.int x9), .val (.int x10), .val (.int x11), .val (.int x12), .val (.int x13), .val (.int x14), .val (.int u0)] [(.ref n0_0)])) t
      refine XS.iload X1.here hx rfl (hb hby at_148) rfl ?_
      exact k
    refine bindE hr ?_; intro r3 hr3m hr
    obtain ⟨cq3, kq3, q3a, q3b, q3c⟩ := isOf hZ e1 E_n0_0_0
    obtain ⟨_, _, ⟨T3, L3, k3, n3⟩, -, X3, ⟨Lc3, hQ3, l3, y3, z3⟩, st3⟩ := X1.virtualBack hx (y := (⟨"com/example/mopor/mopor/reduction/VectorTree", "start", "(I)I"⟩ : MethodName)) (z := (⟨"com/example/mopor/mopor/reduction/VectorTree", "start", "(I)I"⟩ : MethodName)) hown (mvT hZ (hw _ (List.mem_of_getElem? (i := 79) rfl))) (mvT hZ (hw _ (List.mem_of_getElem? (i := 80) rfl))) (notFace_of_selects (args := #[]) (mvT hZ (hw _ (List.mem_of_getElem? (i := 82) rfl)))) (mvT hZ (hw _ (List.mem_of_getElem? (i := 82) rfl))) (mvT hZ (hw _ (List.mem_of_getElem? (i := 81) rfl))) (by decide) (backOf (W := 0) (rm13 l Z a0 hw [] x9 n0_0 n1_0 n2_0 n3_0 n4_0 n5_0 n6_0 n7_0 q_n0_0_transitionCount q_n0_0_size q_n1_0_size q_n2_0 q_n3_0 q_n4_0 q_n5_0 q_n6_0 q_n7_0 h0 n0 Z1 (by omega) (by omega) (by omega) (by omega) (by omega) (by omega) (by omega) (by omega) E_n0_0_0 F_n0_0_nodes_0 F_n0_0_parent_0 F_n0_0_last_0 F_n0_0_marking_0 F_n0_0_depth_0 F_n0_0_transitionCount_0 F_n0_0_size_0 E_n1_0_0 F_n1_0_keys_0 F_n1_0_values_0 F_n1_0_size_0 A_n2_0_0 A_n3_0_0 A_n4_0_0 A_n5_0_0 A_n6_0_0 A_n7_0_0 fuel r3 hr3m) hZ (hw _ (List.mem_of_getElem? (i := 83) rfl)) (hw _ (List.mem_of_getElem? (i := 2) rfl)) (by decide) (by decide)) q3a q3c (g := (mkF m 150 #[.val (.int x0), .val (.int x1), .val (.int x2), .val (.int x3), .val (.int x4), .val (.int x5), .val (.ref n0_0), .val (.int x7), .val (.int x8), .val (.int x9), .val (.int x10), .val (.int x11), .val (.int x12), .val (.int x13), .val (.int x14), .val (.int u0)] [(.int x9), (.ref n0_0)])) rfl (by rw [hml]; rfl) (Steps.refl _) (argsL := [(.int x9)]) (rest := []) (lenOf pd_8 rfl) rfl (by show 2 * 0 + _ ≤ _; exact Nat.le_of_eq rfl) (hb hby at_150) (fun _ _ => ⟨rfl, e1, (by show (cells + 0) + 0 ≤ 24; omega), (by show (slots + 0) + 0 ≤ 8384; omega)⟩)
    dsimp only [Pt.U, Pt.locs, Pt.cells, Pt.slots] at X3 l3 y3 z3 st3 hQ3
    replace y3 := y3.symm; replace z3 := z3.symm; subst l3 y3 z3
    obtain ⟨rfl, N3q, e3⟩ := hQ3
    have N3 := Fr.app N1 N3q
    refine Runs.via (T' := T3) (g' := (mkF m 153 #[.val (.int x0), .val (.int x1), .val (.int x2), .val (.int x3), .val (.int x4), .val (.int x5), .val (.ref n0_0), .val (.int x7), .val (.int x8), .val (.int x9), .val (.int x10), .val (.int x11), .val (.int x12), .val (.int x13), .val (.int x14), .val (.int u0)] [(.int r3)])) (fun t k => st3.trans k) ?_
    refine Runs.via (T' := T3) (g' := (mkF m 154 #[.val (.int x0), .val (.int x1), .val (.int x2), .val (.int x3), .val (.int x4), .val (.int x5), .val (.ref n0_0), .val (.int x7), .val (.int x8), .val (.int x9), .val (.int x10), .val (.int x11), .val (.int x12), .val (.int x13), .val (.int x14), .val (.int u0)] [(.int x1), (.int r3)])) (fun t k => ?_) ?_
    · show Steps p.tables e below (T3.setTop (mkF m 153 #[.val (.int x0), .val (.int x1), .val (.int x2), .val (.int x3), .val (.int x4), .val (.int x5), .val (.ref n0_0), .val (.int x7), .val (.int x8), .val (.int x9), .val (.int x10), .val (.int x11), .val (.int x12), .val (.int x13), .val (.int x14), .val (.int u0)] [(.int r3)])) t
      refine XS.iloadN X3.here hx rfl (hb hby at_153) rfl ?_
      exact k
    refine iteE hr (fun hc4 hr => ?_) (fun hc4 hr => ?_)
    · refine Runs.via (T' := T3) (g' := (mkF m 157 #[.val (.int x0), .val (.int x1), .val (.int x2), .val (.int x3), .val (.int x4), .val (.int x5), .val (.ref n0_0), .val (.int x7), .val (.int x8), .val (.int x9), .val (.int x10), .val (.int x11), .val (.int x12), .val (.int x13), .val (.int x14), .val (.int u0)] [])) (fun t k => ?_) ?_
      · show Steps p.tables e below (T3.setTop (mkF m 154 #[.val (.int x0), .val (.int x1), .val (.int x2), .val (.int x3), .val (.int x4), .val (.int x5), .val (.ref n0_0), .val (.int x7), .val (.int x8), .val (.int x9), .val (.int x10), .val (.int x11), .val (.int x12), .val (.int x13), .val (.int x14), .val (.int u0)] [(.int x1), (.int r3)])) t
        exact XS.icmpNo X3.here hx rfl (hb hby at_154) rfl (teq hc4).2 k
      refine Runs.via (T' := T3) (g' := (mkF m 161 #[.val (.int x0), .val (.int x1), .val (.int x2), .val (.int x3), .val (.int x4), .val (.int x5), .val (.ref n0_0), .val (.int x7), .val (.int x8), .val (.int x9), .val (.int x10), .val (.int x11), .val (.int x12), .val (.int x13), .val (.int x14), .val (.int u0)] [(.int x12), (.ref n0_0)])) (fun t k => ?_) ?_
      · show Steps p.tables e below (T3.setTop (mkF m 157 #[.val (.int x0), .val (.int x1), .val (.int x2), .val (.int x3), .val (.int x4), .val (.int x5), .val (.ref n0_0), .val (.int x7), .val (.int x8), .val (.int x9), .val (.int x10), .val (.int x11), .val (.int x12), .val (.int x13), .val (.int x14), .val (.int u0)] [])) t
        refine XS.aload X3.here hx rfl (hb hby at_157) rfl rfl ?_
        show Steps p.tables e below (T3.setTop (mkF m 159 #[.val (.int x0), .val (.int x1), .val (.int x2), .val (.int x3), .val (.int x4), .val (.int x5), .val (.ref n0_0), .val (.int x7), .val (.int x8), .val (.int x9), .val (.int x10), .val (.int x11), .val (.int x12), .val (.int x13), .val (.int x14), .val (.int u0)] [(.ref n0_0)])) t
        refine XS.iload X3.here hx rfl (hb hby at_159) rfl ?_
        exact k
      refine bindE hr ?_; intro r5 hr5m hr
      obtain ⟨cq5, kq5, q5a, q5b, q5c⟩ := isOf hZ e3 E_n0_0_0
      obtain ⟨_, _, ⟨T5, L5, k5, n5⟩, -, X5, ⟨Lc5, hQ5, l5, y5, z5⟩, st5⟩ := X3.virtualBack hx (y := (⟨"com/example/mopor/mopor/reduction/VectorTree", "start", "(I)I"⟩ : MethodName)) (z := (⟨"com/example/mopor/mopor/reduction/VectorTree", "start", "(I)I"⟩ : MethodName)) hown (mvT hZ (hw _ (List.mem_of_getElem? (i := 79) rfl))) (mvT hZ (hw _ (List.mem_of_getElem? (i := 80) rfl))) (notFace_of_selects (args := #[]) (mvT hZ (hw _ (List.mem_of_getElem? (i := 82) rfl)))) (mvT hZ (hw _ (List.mem_of_getElem? (i := 82) rfl))) (mvT hZ (hw _ (List.mem_of_getElem? (i := 81) rfl))) (by decide) (backOf (W := 0) (rm13 l Z a0 hw [] x12 n0_0 n1_0 n2_0 n3_0 n4_0 n5_0 n6_0 n7_0 q_n0_0_transitionCount q_n0_0_size q_n1_0_size q_n2_0 q_n3_0 q_n4_0 q_n5_0 q_n6_0 q_n7_0 h0 n0 Z1 (by omega) (by omega) (by omega) (by omega) (by omega) (by omega) (by omega) (by omega) E_n0_0_0 F_n0_0_nodes_0 F_n0_0_parent_0 F_n0_0_last_0 F_n0_0_marking_0 F_n0_0_depth_0 F_n0_0_transitionCount_0 F_n0_0_size_0 E_n1_0_0 F_n1_0_keys_0 F_n1_0_values_0 F_n1_0_size_0 A_n2_0_0 A_n3_0_0 A_n4_0_0 A_n5_0_0 A_n6_0_0 A_n7_0_0 fuel r5 hr5m) hZ (hw _ (List.mem_of_getElem? (i := 83) rfl)) (hw _ (List.mem_of_getElem? (i := 2) rfl)) (by decide) (by decide)) q5a q5c (g := (mkF m 161 #[.val (.int x0), .val (.int x1), .val (.int x2), .val (.int x3), .val (.int x4), .val (.int x5), .val (.ref n0_0), .val (.int x7), .val (.int x8), .val (.int x9), .val (.int x10), .val (.int x11), .val (.int x12), .val (.int x13), .val (.int x14), .val (.int u0)] [(.int x12), (.ref n0_0)])) rfl (by rw [hml]; rfl) (Steps.refl _) (argsL := [(.int x12)]) (rest := []) (lenOf pd_8 rfl) rfl (by show 2 * 0 + _ ≤ _; exact Nat.le_of_eq rfl) (hb hby at_161) (fun _ _ => ⟨rfl, e3, (by show ((cells + 0) + 0) + 0 ≤ 24; omega), (by show ((slots + 0) + 0) + 0 ≤ 8384; omega)⟩)
      dsimp only [Pt.U, Pt.locs, Pt.cells, Pt.slots] at X5 l5 y5 z5 st5 hQ5
      replace y5 := y5.symm; replace z5 := z5.symm; subst l5 y5 z5
      obtain ⟨rfl, N5q, e5⟩ := hQ5
      have N5 := Fr.app N3 N5q
      refine Runs.via (T' := T5) (g' := (mkF m 164 #[.val (.int x0), .val (.int x1), .val (.int x2), .val (.int x3), .val (.int x4), .val (.int x5), .val (.ref n0_0), .val (.int x7), .val (.int x8), .val (.int x9), .val (.int x10), .val (.int x11), .val (.int x12), .val (.int x13), .val (.int x14), .val (.int u0)] [(.int r5)])) (fun t k => st5.trans k) ?_
      refine Runs.via (T' := T5) (g' := (mkF m 166 #[.val (.int x0), .val (.int x1), .val (.int x2), .val (.int x3), .val (.int x4), .val (.int x5), .val (.ref n0_0), .val (.int x7), .val (.int x8), .val (.int x9), .val (.int x10), .val (.int x11), .val (.int x12), .val (.int x13), .val (.int x14), .val (.int u0)] [(.int x14), (.int r5)])) (fun t k => ?_) ?_
      · show Steps p.tables e below (T5.setTop (mkF m 164 #[.val (.int x0), .val (.int x1), .val (.int x2), .val (.int x3), .val (.int x4), .val (.int x5), .val (.ref n0_0), .val (.int x7), .val (.int x8), .val (.int x9), .val (.int x10), .val (.int x11), .val (.int x12), .val (.int x13), .val (.int x14), .val (.int u0)] [(.int r5)])) t
        refine XS.iload X5.here hx rfl (hb hby at_164) rfl ?_
        exact k
      refine iteE hr (fun hc6 hr => ?_) (fun hc6 hr => ?_)
      · refine Runs.via (T' := T5) (g' := (mkF m 169 #[.val (.int x0), .val (.int x1), .val (.int x2), .val (.int x3), .val (.int x4), .val (.int x5), .val (.ref n0_0), .val (.int x7), .val (.int x8), .val (.int x9), .val (.int x10), .val (.int x11), .val (.int x12), .val (.int x13), .val (.int x14), .val (.int u0)] [])) (fun t k => ?_) ?_
        · show Steps p.tables e below (T5.setTop (mkF m 166 #[.val (.int x0), .val (.int x1), .val (.int x2), .val (.int x3), .val (.int x4), .val (.int x5), .val (.ref n0_0), .val (.int x7), .val (.int x8), .val (.int x9), .val (.int x10), .val (.int x11), .val (.int x12), .val (.int x13), .val (.int x14), .val (.int u0)] [(.int x14), (.int r5)])) t
          exact XS.icmpNo X5.here hx rfl (hb hby at_166) rfl (teq hc6).2 k
        refine Runs.via (T' := T5) (g' := (mkF m 173 #[.val (.int x0), .val (.int x1), .val (.int x2), .val (.int x3), .val (.int x4), .val (.int x5), .val (.ref n0_0), .val (.int x7), .val (.int x8), .val (.int x9), .val (.int x10), .val (.int x11), .val (.int x12), .val (.int x13), .val (.int x14), .val (.int u0)] [(.int x13), (.ref n0_0)])) (fun t k => ?_) ?_
        · show Steps p.tables e below (T5.setTop (mkF m 169 #[.val (.int x0), .val (.int x1), .val (.int x2), .val (.int x3), .val (.int x4), .val (.int x5), .val (.ref n0_0), .val (.int x7), .val (.int x8), .val (.int x9), .val (.int x10), .val (.int x11), .val (.int x12), .val (.int x13), .val (.int x14), .val (.int u0)] [])) t
          refine XS.aload X5.here hx rfl (hb hby at_169) rfl rfl ?_
          show Steps p.tables e below (T5.setTop (mkF m 171 #[.val (.int x0), .val (.int x1), .val (.int x2), .val (.int x3), .val (.int x4), .val (.int x5), .val (.ref n0_0), .val (.int x7), .val (.int x8), .val (.int x9), .val (.int x10), .val (.int x11), .val (.int x12), .val (.int x13), .val (.int x14), .val (.int u0)] [(.ref n0_0)])) t
          refine XS.iload X5.here hx rfl (hb hby at_171) rfl ?_
          exact k
        refine bindE hr ?_; intro r7 hr7m hr
        obtain ⟨cq7, kq7, q7a, q7b, q7c⟩ := isOf hZ e5 E_n0_0_0
        obtain ⟨_, _, ⟨T7, L7, k7, n7⟩, -, X7, ⟨Lc7, hQ7, l7, y7, z7⟩, st7⟩ := X5.virtualBack hx (y := (⟨"com/example/mopor/mopor/reduction/VectorTree", "start", "(I)I"⟩ : MethodName)) (z := (⟨"com/example/mopor/mopor/reduction/VectorTree", "start", "(I)I"⟩ : MethodName)) hown (mvT hZ (hw _ (List.mem_of_getElem? (i := 79) rfl))) (mvT hZ (hw _ (List.mem_of_getElem? (i := 80) rfl))) (notFace_of_selects (args := #[]) (mvT hZ (hw _ (List.mem_of_getElem? (i := 82) rfl)))) (mvT hZ (hw _ (List.mem_of_getElem? (i := 82) rfl))) (mvT hZ (hw _ (List.mem_of_getElem? (i := 81) rfl))) (by decide) (backOf (W := 0) (rm13 l Z a0 hw [] x13 n0_0 n1_0 n2_0 n3_0 n4_0 n5_0 n6_0 n7_0 q_n0_0_transitionCount q_n0_0_size q_n1_0_size q_n2_0 q_n3_0 q_n4_0 q_n5_0 q_n6_0 q_n7_0 h0 n0 Z1 (by omega) (by omega) (by omega) (by omega) (by omega) (by omega) (by omega) (by omega) E_n0_0_0 F_n0_0_nodes_0 F_n0_0_parent_0 F_n0_0_last_0 F_n0_0_marking_0 F_n0_0_depth_0 F_n0_0_transitionCount_0 F_n0_0_size_0 E_n1_0_0 F_n1_0_keys_0 F_n1_0_values_0 F_n1_0_size_0 A_n2_0_0 A_n3_0_0 A_n4_0_0 A_n5_0_0 A_n6_0_0 A_n7_0_0 fuel r7 hr7m) hZ (hw _ (List.mem_of_getElem? (i := 83) rfl)) (hw _ (List.mem_of_getElem? (i := 2) rfl)) (by decide) (by decide)) q7a q7c (g := (mkF m 173 #[.val (.int x0), .val (.int x1), .val (.int x2), .val (.int x3), .val (.int x4), .val (.int x5), .val (.ref n0_0), .val (.int x7), .val (.int x8), .val (.int x9), .val (.int x10), .val (.int x11), .val (.int x12), .val (.int x13), .val (.int x14), .val (.int u0)] [(.int x13), (.ref n0_0)])) rfl (by rw [hml]; rfl) (Steps.refl _) (argsL := [(.int x13)]) (rest := []) (lenOf pd_8 rfl) rfl (by show 2 * 0 + _ ≤ _; exact Nat.le_of_eq rfl) (hb hby at_173) (fun _ _ => ⟨rfl, e5, (by show (((cells + 0) + 0) + 0) + 0 ≤ 24; omega), (by show (((slots + 0) + 0) + 0) + 0 ≤ 8384; omega)⟩)
        dsimp only [Pt.U, Pt.locs, Pt.cells, Pt.slots] at X7 l7 y7 z7 st7 hQ7
        replace y7 := y7.symm; replace z7 := z7.symm; subst l7 y7 z7
        obtain ⟨rfl, N7q, e7⟩ := hQ7
        have N7 := Fr.app N5 N7q
        refine Runs.via (T' := T7) (g' := (mkF m 176 #[.val (.int x0), .val (.int x1), .val (.int x2), .val (.int x3), .val (.int x4), .val (.int x5), .val (.ref n0_0), .val (.int x7), .val (.int x8), .val (.int x9), .val (.int x10), .val (.int x11), .val (.int x12), .val (.int x13), .val (.int x14), .val (.int u0)] [(.int r7)])) (fun t k => st7.trans k) ?_
        refine Runs.via (T' := T7) (g' := (mkF m 178 #[.val (.int x0), .val (.int x1), .val (.int x2), .val (.int x3), .val (.int x4), .val (.int x5), .val (.ref n0_0), .val (.int x7), .val (.int x8), .val (.int x9), .val (.int x10), .val (.int x11), .val (.int x12), .val (.int x13), .val (.int x14), .val (.int u0)] [(.int u0), (.int r7)])) (fun t k => ?_) ?_
        · show Steps p.tables e below (T7.setTop (mkF m 176 #[.val (.int x0), .val (.int x1), .val (.int x2), .val (.int x3), .val (.int x4), .val (.int x5), .val (.ref n0_0), .val (.int x7), .val (.int x8), .val (.int x9), .val (.int x10), .val (.int x11), .val (.int x12), .val (.int x13), .val (.int x14), .val (.int u0)] [(.int r7)])) t
          refine XS.iload X7.here hx rfl (hb hby at_176) rfl ?_
          exact k
        refine iteE hr (fun hc8 hr => ?_) (fun hc8 hr => ?_)
        · refine Runs.via (T' := T7) (g' := (mkF m 181 #[.val (.int x0), .val (.int x1), .val (.int x2), .val (.int x3), .val (.int x4), .val (.int x5), .val (.ref n0_0), .val (.int x7), .val (.int x8), .val (.int x9), .val (.int x10), .val (.int x11), .val (.int x12), .val (.int x13), .val (.int x14), .val (.int u0)] [])) (fun t k => ?_) ?_
          · show Steps p.tables e below (T7.setTop (mkF m 178 #[.val (.int x0), .val (.int x1), .val (.int x2), .val (.int x3), .val (.int x4), .val (.int x5), .val (.ref n0_0), .val (.int x7), .val (.int x8), .val (.int x9), .val (.int x10), .val (.int x11), .val (.int x12), .val (.int x13), .val (.int x14), .val (.int u0)] [(.int u0), (.int r7)])) t
            exact XS.icmpNo X7.here hx rfl (hb hby at_178) rfl (teq hc8).2 k
          refine Runs.via (T' := T7) (g' := (mkF m 186 #[.val (.int x0), .val (.int x1), .val (.int x2), .val (.int x3), .val (.int x4), .val (.int x5), .val (.ref n0_0), .val (.int x7), .val (.int x8), .val (.int x9), .val (.int x10), .val (.int x11), .val (.int x12), .val (.int x13), .val (.int x14), .val (.int u0)] [(.int (1 : Int32))])) (fun t k => ?_) ?_
          · show Steps p.tables e below (T7.setTop (mkF m 181 #[.val (.int x0), .val (.int x1), .val (.int x2), .val (.int x3), .val (.int x4), .val (.int x5), .val (.ref n0_0), .val (.int x7), .val (.int x8), .val (.int x9), .val (.int x10), .val (.int x11), .val (.int x12), .val (.int x13), .val (.int x14), .val (.int u0)] [])) t
            refine XS.iconst X7.here hx rfl (hb hby at_181) ?_
            show Steps p.tables e below (T7.setTop (mkF m 182 #[.val (.int x0), .val (.int x1), .val (.int x2), .val (.int x3), .val (.int x4), .val (.int x5), .val (.ref n0_0), .val (.int x7), .val (.int x8), .val (.int x9), .val (.int x10), .val (.int x11), .val (.int x12), .val (.int x13), .val (.int x14), .val (.int u0)] [(.int (1 : Int32))])) t
            refine XS.goto X7.here hx rfl (pc0 := 182) (pc' := 186) rfl (hb hby at_182) (by decide) (by decide) ?_
            exact k
          obtain rfl := Option.some.inj hr
          exact own_retN X7 hx hlk (t := .boolean) hret (by simp) (hb hby at_186) (by show ((((cells + 0) + 0) + 0) + 0) ≤ 8; omega) (by show ((((slots + 0) + 0) + 0) + 0) ≤ 4138; omega) ⟨rfl, N7⟩
        · refine Runs.via (T' := T7) (g' := (mkF m 185 #[.val (.int x0), .val (.int x1), .val (.int x2), .val (.int x3), .val (.int x4), .val (.int x5), .val (.ref n0_0), .val (.int x7), .val (.int x8), .val (.int x9), .val (.int x10), .val (.int x11), .val (.int x12), .val (.int x13), .val (.int x14), .val (.int u0)] [])) (fun t k => ?_) ?_
          · show Steps p.tables e below (T7.setTop (mkF m 178 #[.val (.int x0), .val (.int x1), .val (.int x2), .val (.int x3), .val (.int x4), .val (.int x5), .val (.ref n0_0), .val (.int x7), .val (.int x8), .val (.int x9), .val (.int x10), .val (.int x11), .val (.int x12), .val (.int x13), .val (.int x14), .val (.int u0)] [(.int u0), (.int r7)])) t
            exact XS.icmpYes X7.here hx rfl (pc0 := 178) (pc' := 185) rfl (hb hby at_178) rfl (feq hc8).2 (by decide) (by decide) k
          refine Runs.via (T' := T7) (g' := (mkF m 186 #[.val (.int x0), .val (.int x1), .val (.int x2), .val (.int x3), .val (.int x4), .val (.int x5), .val (.ref n0_0), .val (.int x7), .val (.int x8), .val (.int x9), .val (.int x10), .val (.int x11), .val (.int x12), .val (.int x13), .val (.int x14), .val (.int u0)] [(.int (0 : Int32))])) (fun t k => ?_) ?_
          · show Steps p.tables e below (T7.setTop (mkF m 185 #[.val (.int x0), .val (.int x1), .val (.int x2), .val (.int x3), .val (.int x4), .val (.int x5), .val (.ref n0_0), .val (.int x7), .val (.int x8), .val (.int x9), .val (.int x10), .val (.int x11), .val (.int x12), .val (.int x13), .val (.int x14), .val (.int u0)] [])) t
            refine XS.iconst X7.here hx rfl (hb hby at_185) ?_
            exact k
          obtain rfl := Option.some.inj hr
          exact own_retN X7 hx hlk (t := .boolean) hret (by simp) (hb hby at_186) (by show ((((cells + 0) + 0) + 0) + 0) ≤ 8; omega) (by show ((((slots + 0) + 0) + 0) + 0) ≤ 4138; omega) ⟨rfl, N7⟩
      · refine Runs.via (T' := T5) (g' := (mkF m 185 #[.val (.int x0), .val (.int x1), .val (.int x2), .val (.int x3), .val (.int x4), .val (.int x5), .val (.ref n0_0), .val (.int x7), .val (.int x8), .val (.int x9), .val (.int x10), .val (.int x11), .val (.int x12), .val (.int x13), .val (.int x14), .val (.int u0)] [])) (fun t k => ?_) ?_
        · show Steps p.tables e below (T5.setTop (mkF m 166 #[.val (.int x0), .val (.int x1), .val (.int x2), .val (.int x3), .val (.int x4), .val (.int x5), .val (.ref n0_0), .val (.int x7), .val (.int x8), .val (.int x9), .val (.int x10), .val (.int x11), .val (.int x12), .val (.int x13), .val (.int x14), .val (.int u0)] [(.int x14), (.int r5)])) t
          exact XS.icmpYes X5.here hx rfl (pc0 := 166) (pc' := 185) rfl (hb hby at_166) rfl (feq hc6).2 (by decide) (by decide) k
        refine Runs.via (T' := T5) (g' := (mkF m 186 #[.val (.int x0), .val (.int x1), .val (.int x2), .val (.int x3), .val (.int x4), .val (.int x5), .val (.ref n0_0), .val (.int x7), .val (.int x8), .val (.int x9), .val (.int x10), .val (.int x11), .val (.int x12), .val (.int x13), .val (.int x14), .val (.int u0)] [(.int (0 : Int32))])) (fun t k => ?_) ?_
        · show Steps p.tables e below (T5.setTop (mkF m 185 #[.val (.int x0), .val (.int x1), .val (.int x2), .val (.int x3), .val (.int x4), .val (.int x5), .val (.ref n0_0), .val (.int x7), .val (.int x8), .val (.int x9), .val (.int x10), .val (.int x11), .val (.int x12), .val (.int x13), .val (.int x14), .val (.int u0)] [])) t
          refine XS.iconst X5.here hx rfl (hb hby at_185) ?_
          exact k
        obtain rfl := Option.some.inj hr
        exact own_retN X5 hx hlk (t := .boolean) hret (by simp) (hb hby at_186) (by show (((cells + 0) + 0) + 0) ≤ 8; omega) (by show (((slots + 0) + 0) + 0) ≤ 4138; omega) ⟨rfl, N5⟩
    · refine Runs.via (T' := T3) (g' := (mkF m 185 #[.val (.int x0), .val (.int x1), .val (.int x2), .val (.int x3), .val (.int x4), .val (.int x5), .val (.ref n0_0), .val (.int x7), .val (.int x8), .val (.int x9), .val (.int x10), .val (.int x11), .val (.int x12), .val (.int x13), .val (.int x14), .val (.int u0)] [])) (fun t k => ?_) ?_
      · show Steps p.tables e below (T3.setTop (mkF m 154 #[.val (.int x0), .val (.int x1), .val (.int x2), .val (.int x3), .val (.int x4), .val (.int x5), .val (.ref n0_0), .val (.int x7), .val (.int x8), .val (.int x9), .val (.int x10), .val (.int x11), .val (.int x12), .val (.int x13), .val (.int x14), .val (.int u0)] [(.int x1), (.int r3)])) t
        exact XS.icmpYes X3.here hx rfl (pc0 := 154) (pc' := 185) rfl (hb hby at_154) rfl (feq hc4).2 (by decide) (by decide) k
      refine Runs.via (T' := T3) (g' := (mkF m 186 #[.val (.int x0), .val (.int x1), .val (.int x2), .val (.int x3), .val (.int x4), .val (.int x5), .val (.ref n0_0), .val (.int x7), .val (.int x8), .val (.int x9), .val (.int x10), .val (.int x11), .val (.int x12), .val (.int x13), .val (.int x14), .val (.int u0)] [(.int (0 : Int32))])) (fun t k => ?_) ?_
      · show Steps p.tables e below (T3.setTop (mkF m 185 #[.val (.int x0), .val (.int x1), .val (.int x2), .val (.int x3), .val (.int x4), .val (.int x5), .val (.ref n0_0), .val (.int x7), .val (.int x8), .val (.int x9), .val (.int x10), .val (.int x11), .val (.int x12), .val (.int x13), .val (.int x14), .val (.int u0)] [])) t
        refine XS.iconst X3.here hx rfl (hb hby at_185) ?_
        exact k
      obtain rfl := Option.some.inj hr
      exact own_retN X3 hx hlk (t := .boolean) hret (by simp) (hb hby at_186) (by show ((cells + 0) + 0) ≤ 8; omega) (by show ((slots + 0) + 0) ≤ 4138; omega) ⟨rfl, N3⟩
  · refine Runs.via (T' := T1) (g' := (mkF m 185 #[.val (.int x0), .val (.int x1), .val (.int x2), .val (.int x3), .val (.int x4), .val (.int x5), .val (.ref n0_0), .val (.int x7), .val (.int x8), .val (.int x9), .val (.int x10), .val (.int x11), .val (.int x12), .val (.int x13), .val (.int x14), .val (.int u0)] [])) (fun t k => ?_) ?_
    · show Steps p.tables e below (T1.setTop (mkF m 143 #[.val (.int x0), .val (.int x1), .val (.int x2), .val (.int x3), .val (.int x4), .val (.int x5), .val (.ref n0_0), .val (.int x7), .val (.int x8), .val (.int x9), .val (.int x10), .val (.int x11), .val (.int x12), .val (.int x13), .val (.int x14), .val (.int u0)] [(.int x2), (.int r1)])) t
      exact XS.icmpYes X1.here hx rfl (pc0 := 143) (pc' := 185) rfl (hb hby at_143) rfl (feq hc2).2 (by decide) (by decide) k
    refine Runs.via (T' := T1) (g' := (mkF m 186 #[.val (.int x0), .val (.int x1), .val (.int x2), .val (.int x3), .val (.int x4), .val (.int x5), .val (.ref n0_0), .val (.int x7), .val (.int x8), .val (.int x9), .val (.int x10), .val (.int x11), .val (.int x12), .val (.int x13), .val (.int x14), .val (.int u0)] [(.int (0 : Int32))])) (fun t k => ?_) ?_
    · show Steps p.tables e below (T1.setTop (mkF m 185 #[.val (.int x0), .val (.int x1), .val (.int x2), .val (.int x3), .val (.int x4), .val (.int x5), .val (.ref n0_0), .val (.int x7), .val (.int x8), .val (.int x9), .val (.int x10), .val (.int x11), .val (.int x12), .val (.int x13), .val (.int x14), .val (.int u0)] [])) t
      refine XS.iconst X1.here hx rfl (hb hby at_185) ?_
      exact k
    obtain rfl := Option.some.inj hr
    exact own_retN X1 hx hlk (t := .boolean) hret (by simp) (hb hby at_186) (by show (cells + 0) ≤ 8; omega) (by show (slots + 0) ≤ 4138; omega) ⟨rfl, N1⟩
def g0_120 (fuel : Nat) (x1 : Int32) (x2 : Int32) (x8 : Int32) (x9 : Int32) (x11 : Int32) (x12 : Int32) (x13 : Int32) (u0 : Int32) (q_n0_0_transitionCount : Int32) (q_n0_0_size : Int32) (q_n1_0_size : Int32) (q_n2_0 : List Int64) (q_n3_0 : List Int32) (q_n4_0 : List Int32) (q_n5_0 : List Int32) (q_n6_0 : List Int32) (q_n7_0 : List Int32) : Option (Int32) := (if x11 = (0 : Int32) then (g0_133 fuel x1 x2 x8 x9 x12 x13 u0 x1 q_n0_0_transitionCount q_n0_0_size q_n1_0_size q_n2_0 q_n3_0 q_n4_0 q_n5_0 q_n6_0 q_n7_0) else (g0_133 fuel x1 x2 x8 x9 x12 x13 u0 u0 q_n0_0_transitionCount q_n0_0_size q_n1_0_size q_n2_0 q_n3_0 q_n4_0 q_n5_0 q_n6_0 q_n7_0))
set_option maxRecDepth 65536 in
set_option maxHeartbeats 4000000 in
theorem b0_120 {r : Int32} (C : Ctx p s m meth c Z a0 "com/example/mopor/mopor/reduction/VectorTreeStartPinLaw" code 16 (some .boolean) "law") (fuel : Nat) (X0 : Stand p l e room_1 s m args below meth c T0 locs cells slots) (e0 : T0.heap = h0) (N0 : Fr n0 locs) (hk : cells ≤ 8) (hn : slots ≤ 4138) (Z1 : n0 ≤ h0.size) (n0_0 : Addr) (n1_0 : Addr) (n2_0 : Addr) (n3_0 : Addr) (n4_0 : Addr) (n5_0 : Addr) (n6_0 : Addr) (n7_0 : Addr) (o0 : n0 ≤ n0_0) (o1 : @LT.lt Nat instLTNat n0_0 n1_0) (o2 : @LT.lt Nat instLTNat n1_0 n2_0) (o3 : @LT.lt Nat instLTNat n2_0 n3_0) (o4 : @LT.lt Nat instLTNat n3_0 n4_0) (o5 : @LT.lt Nat instLTNat n4_0 n5_0) (o6 : @LT.lt Nat instLTNat n5_0 n6_0) (o7 : @LT.lt Nat instLTNat n6_0 n7_0) (q_n0_0_transitionCount : Int32) (q_n0_0_size : Int32) (q_n1_0_size : Int32) (q_n2_0 : List Int64) (q_n3_0 : List Int32) (q_n4_0 : List Int32) (q_n5_0 : List Int32) (q_n6_0 : List Int32) (q_n7_0 : List Int32) (x0 : Int32) (x1 : Int32) (x2 : Int32) (x3 : Int32) (x4 : Int32) (x5 : Int32) (x7 : Int32) (x8 : Int32) (x9 : Int32) (x10 : Int32) (x11 : Int32) (x12 : Int32) (x13 : Int32) (u0 : Int32) (E_n0_0_0 : Exa Z h0 n0_0 "com/example/mopor/mopor/reduction/VectorTree") (F_n0_0_nodes_0 : Fld Z h0 n0_0 "com/example/mopor/mopor/reduction/VectorTree" "nodes" "Lcom/example/mopor/mopor/reduction/LongIntTable;" (.ref n1_0)) (F_n0_0_parent_0 : Fld Z h0 n0_0 "com/example/mopor/mopor/reduction/VectorTree" "parent" "[I" (.ref n4_0)) (F_n0_0_last_0 : Fld Z h0 n0_0 "com/example/mopor/mopor/reduction/VectorTree" "last" "[I" (.ref n5_0)) (F_n0_0_marking_0 : Fld Z h0 n0_0 "com/example/mopor/mopor/reduction/VectorTree" "marking" "[I" (.ref n6_0)) (F_n0_0_depth_0 : Fld Z h0 n0_0 "com/example/mopor/mopor/reduction/VectorTree" "depth" "[I" (.ref n7_0)) (F_n0_0_transitionCount_0 : Fld Z h0 n0_0 "com/example/mopor/mopor/reduction/VectorTree" "transitionCount" "I" (.int q_n0_0_transitionCount)) (F_n0_0_size_0 : Fld Z h0 n0_0 "com/example/mopor/mopor/reduction/VectorTree" "size" "I" (.int q_n0_0_size)) (E_n1_0_0 : Exa Z h0 n1_0 "com/example/mopor/mopor/reduction/LongIntTable") (F_n1_0_keys_0 : Fld Z h0 n1_0 "com/example/mopor/mopor/reduction/LongIntTable" "keys" "[J" (.ref n2_0)) (F_n1_0_values_0 : Fld Z h0 n1_0 "com/example/mopor/mopor/reduction/LongIntTable" "values" "[I" (.ref n3_0)) (F_n1_0_size_0 : Fld Z h0 n1_0 "com/example/mopor/mopor/reduction/LongIntTable" "size" "I" (.int q_n1_0_size)) (A_n2_0_0 : AJ Z h0 n2_0 .long q_n2_0) (A_n3_0_0 : AI Z h0 n3_0 .int q_n3_0) (A_n4_0_0 : AI Z h0 n4_0 .int q_n4_0) (A_n5_0_0 : AI Z h0 n5_0 .int q_n5_0) (A_n6_0_0 : AI Z h0 n6_0 .int q_n6_0) (A_n7_0_0 : AI Z h0 n7_0 .int q_n7_0) (hr : g0_120 fuel x1 x2 x8 x9 x11 x12 x13 u0 q_n0_0_transitionCount q_n0_0_size q_n1_0_size q_n2_0 q_n3_0 q_n4_0 q_n5_0 q_n6_0 q_n7_0 = some r) :
    Runs p e below s (P0 n0 r) 8 4138 T0 (mkF m 120 #[.val (.int x0), .val (.int x1), .val (.int x2), .val (.int x3), .val (.int x4), .val (.int x5), .val (.ref n0_0), .val (.int x7), .val (.int x8), .val (.int x9), .val (.int x10), .val (.int x11), .val (.int x12), .val (.int x13), .unset, .unset] [(.int u0)]) := by
  unfold g0_120 at hr
  have ⟨hx, hZ, hw, hby, hml, hown, hret, hlk, hnm⟩ := C
  refine Runs.via (T' := T0) (g' := (mkF m 124 #[.val (.int x0), .val (.int x1), .val (.int x2), .val (.int x3), .val (.int x4), .val (.int x5), .val (.ref n0_0), .val (.int x7), .val (.int x8), .val (.int x9), .val (.int x10), .val (.int x11), .val (.int x12), .val (.int x13), .val (.int u0), .unset] [(.int x11)])) (fun t k => ?_) ?_
  · show Steps p.tables e below (T0.setTop (mkF m 120 #[.val (.int x0), .val (.int x1), .val (.int x2), .val (.int x3), .val (.int x4), .val (.int x5), .val (.ref n0_0), .val (.int x7), .val (.int x8), .val (.int x9), .val (.int x10), .val (.int x11), .val (.int x12), .val (.int x13), .unset, .unset] [(.int u0)])) t
    refine XS.istore X0.here hx rfl (hb hby at_120) rfl (l' := #[.val (.int x0), .val (.int x1), .val (.int x2), .val (.int x3), .val (.int x4), .val (.int x5), .val (.ref n0_0), .val (.int x7), .val (.int x8), .val (.int x9), .val (.int x10), .val (.int x11), .val (.int x12), .val (.int x13), .val (.int u0), .unset]) rfl ?_
    show Steps p.tables e below (T0.setTop (mkF m 122 #[.val (.int x0), .val (.int x1), .val (.int x2), .val (.int x3), .val (.int x4), .val (.int x5), .val (.ref n0_0), .val (.int x7), .val (.int x8), .val (.int x9), .val (.int x10), .val (.int x11), .val (.int x12), .val (.int x13), .val (.int u0), .unset] [])) t
    refine XS.iload X0.here hx rfl (hb hby at_122) rfl ?_
    exact k
  refine iteE hr (fun hc1 hr => ?_) (fun hc1 hr => ?_)
  · refine Runs.via (T' := T0) (g' := (mkF m 132 #[.val (.int x0), .val (.int x1), .val (.int x2), .val (.int x3), .val (.int x4), .val (.int x5), .val (.ref n0_0), .val (.int x7), .val (.int x8), .val (.int x9), .val (.int x10), .val (.int x11), .val (.int x12), .val (.int x13), .val (.int u0), .unset] [])) (fun t k => ?_) ?_
    · show Steps p.tables e below (T0.setTop (mkF m 124 #[.val (.int x0), .val (.int x1), .val (.int x2), .val (.int x3), .val (.int x4), .val (.int x5), .val (.ref n0_0), .val (.int x7), .val (.int x8), .val (.int x9), .val (.int x10), .val (.int x11), .val (.int x12), .val (.int x13), .val (.int u0), .unset] [(.int x11)])) t
      exact XS.ifYes X0.here hx rfl (pc0 := 124) (pc' := 132) rfl (hb hby at_124) rfl ((if0 _ _).trans (teq hc1).1) (by decide) (by decide) k
    refine Runs.via (T' := T0) (g' := (mkF m 133 #[.val (.int x0), .val (.int x1), .val (.int x2), .val (.int x3), .val (.int x4), .val (.int x5), .val (.ref n0_0), .val (.int x7), .val (.int x8), .val (.int x9), .val (.int x10), .val (.int x11), .val (.int x12), .val (.int x13), .val (.int u0), .unset] [(.int x1)])) (fun t k => ?_) ?_
    · show Steps p.tables e below (T0.setTop (mkF m 132 #[.val (.int x0), .val (.int x1), .val (.int x2), .val (.int x3), .val (.int x4), .val (.int x5), .val (.ref n0_0), .val (.int x7), .val (.int x8), .val (.int x9), .val (.int x10), .val (.int x11), .val (.int x12), .val (.int x13), .val (.int u0), .unset] [])) t
      refine XS.iloadN X0.here hx rfl (hb hby at_132) rfl ?_
      exact k
    exact b0_133 C fuel X0 e0 N0 (by show cells ≤ 8; omega) (by show slots ≤ 4138; omega) Z1 n0_0 n1_0 n2_0 n3_0 n4_0 n5_0 n6_0 n7_0 (by omega) (by omega) (by omega) (by omega) (by omega) (by omega) (by omega) (by omega) q_n0_0_transitionCount q_n0_0_size q_n1_0_size q_n2_0 q_n3_0 q_n4_0 q_n5_0 q_n6_0 q_n7_0 x0 x1 x2 x3 x4 x5 x7 x8 x9 x10 x11 x12 x13 u0 x1 E_n0_0_0 F_n0_0_nodes_0 F_n0_0_parent_0 F_n0_0_last_0 F_n0_0_marking_0 F_n0_0_depth_0 F_n0_0_transitionCount_0 F_n0_0_size_0 E_n1_0_0 F_n1_0_keys_0 F_n1_0_values_0 F_n1_0_size_0 A_n2_0_0 A_n3_0_0 A_n4_0_0 A_n5_0_0 A_n6_0_0 A_n7_0_0 hr
  · refine Runs.via (T' := T0) (g' := (mkF m 127 #[.val (.int x0), .val (.int x1), .val (.int x2), .val (.int x3), .val (.int x4), .val (.int x5), .val (.ref n0_0), .val (.int x7), .val (.int x8), .val (.int x9), .val (.int x10), .val (.int x11), .val (.int x12), .val (.int x13), .val (.int u0), .unset] [])) (fun t k => ?_) ?_
    · show Steps p.tables e below (T0.setTop (mkF m 124 #[.val (.int x0), .val (.int x1), .val (.int x2), .val (.int x3), .val (.int x4), .val (.int x5), .val (.ref n0_0), .val (.int x7), .val (.int x8), .val (.int x9), .val (.int x10), .val (.int x11), .val (.int x12), .val (.int x13), .val (.int u0), .unset] [(.int x11)])) t
      exact XS.ifNo X0.here hx rfl (hb hby at_124) rfl ((if0 _ _).trans (feq hc1).1) k
    refine Runs.via (T' := T0) (g' := (mkF m 133 #[.val (.int x0), .val (.int x1), .val (.int x2), .val (.int x3), .val (.int x4), .val (.int x5), .val (.ref n0_0), .val (.int x7), .val (.int x8), .val (.int x9), .val (.int x10), .val (.int x11), .val (.int x12), .val (.int x13), .val (.int u0), .unset] [(.int u0)])) (fun t k => ?_) ?_
    · show Steps p.tables e below (T0.setTop (mkF m 127 #[.val (.int x0), .val (.int x1), .val (.int x2), .val (.int x3), .val (.int x4), .val (.int x5), .val (.ref n0_0), .val (.int x7), .val (.int x8), .val (.int x9), .val (.int x10), .val (.int x11), .val (.int x12), .val (.int x13), .val (.int u0), .unset] [])) t
      refine XS.iload X0.here hx rfl (hb hby at_127) rfl ?_
      show Steps p.tables e below (T0.setTop (mkF m 129 #[.val (.int x0), .val (.int x1), .val (.int x2), .val (.int x3), .val (.int x4), .val (.int x5), .val (.ref n0_0), .val (.int x7), .val (.int x8), .val (.int x9), .val (.int x10), .val (.int x11), .val (.int x12), .val (.int x13), .val (.int u0), .unset] [(.int u0)])) t
      refine XS.goto X0.here hx rfl (pc0 := 129) (pc' := 133) rfl (hb hby at_129) (by decide) (by decide) ?_
      exact k
    exact b0_133 C fuel X0 e0 N0 (by show cells ≤ 8; omega) (by show slots ≤ 4138; omega) Z1 n0_0 n1_0 n2_0 n3_0 n4_0 n5_0 n6_0 n7_0 (by omega) (by omega) (by omega) (by omega) (by omega) (by omega) (by omega) (by omega) q_n0_0_transitionCount q_n0_0_size q_n1_0_size q_n2_0 q_n3_0 q_n4_0 q_n5_0 q_n6_0 q_n7_0 x0 x1 x2 x3 x4 x5 x7 x8 x9 x10 x11 x12 x13 u0 u0 E_n0_0_0 F_n0_0_nodes_0 F_n0_0_parent_0 F_n0_0_last_0 F_n0_0_marking_0 F_n0_0_depth_0 F_n0_0_transitionCount_0 F_n0_0_size_0 E_n1_0_0 F_n1_0_keys_0 F_n1_0_values_0 F_n1_0_size_0 A_n2_0_0 A_n3_0_0 A_n4_0_0 A_n5_0_0 A_n6_0_0 A_n7_0_0 hr
def g0_102 (fuel : Nat) (x1 : Int32) (x2 : Int32) (x3 : Int32) (x4 : Int32) (x8 : Int32) (x9 : Int32) (x10 : Int32) (x11 : Int32) (x12 : Int32) (u0 : Int32) (q_n0_0_transitionCount : Int32) (q_n0_0_size : Int32) (q_n1_0_size : Int32) (q_n2_0 : List Int64) (q_n3_0 : List Int32) (q_n4_0 : List Int32) (q_n5_0 : List Int32) (q_n6_0 : List Int32) (q_n7_0 : List Int32) : Option (Int32) := ((f11 fuel u0 x3 x4 q_n0_0_transitionCount q_n0_0_size q_n1_0_size q_n2_0 q_n3_0 q_n4_0 q_n5_0 q_n6_0 q_n7_0).bind fun r1 => (if x10 = (0 : Int32) then (g0_120 fuel x1 x2 x8 x9 x11 x12 r1.1 x2 q_n0_0_transitionCount r1.2.1 r1.2.2.1 r1.2.2.2.1 r1.2.2.2.2.1 r1.2.2.2.2.2.1 r1.2.2.2.2.2.2.1 r1.2.2.2.2.2.2.2.1 r1.2.2.2.2.2.2.2.2) else (g0_120 fuel x1 x2 x8 x9 x11 x12 r1.1 x1 q_n0_0_transitionCount r1.2.1 r1.2.2.1 r1.2.2.2.1 r1.2.2.2.2.1 r1.2.2.2.2.2.1 r1.2.2.2.2.2.2.1 r1.2.2.2.2.2.2.2.1 r1.2.2.2.2.2.2.2.2)))
set_option maxRecDepth 65536 in
set_option maxHeartbeats 4000000 in
theorem b0_102 {r : Int32} (C : Ctx p s m meth c Z a0 "com/example/mopor/mopor/reduction/VectorTreeStartPinLaw" code 16 (some .boolean) "law") (fuel : Nat) (X0 : Stand p l e room_1 s m args below meth c T0 locs cells slots) (e0 : T0.heap = h0) (N0 : Fr n0 locs) (hk : cells ≤ 8) (hn : slots ≤ 4138) (Z1 : n0 ≤ h0.size) (n0_0 : Addr) (n1_0 : Addr) (n2_0 : Addr) (n3_0 : Addr) (n4_0 : Addr) (n5_0 : Addr) (n6_0 : Addr) (n7_0 : Addr) (o0 : n0 ≤ n0_0) (o1 : @LT.lt Nat instLTNat n0_0 n1_0) (o2 : @LT.lt Nat instLTNat n1_0 n2_0) (o3 : @LT.lt Nat instLTNat n2_0 n3_0) (o4 : @LT.lt Nat instLTNat n3_0 n4_0) (o5 : @LT.lt Nat instLTNat n4_0 n5_0) (o6 : @LT.lt Nat instLTNat n5_0 n6_0) (o7 : @LT.lt Nat instLTNat n6_0 n7_0) (q_n0_0_transitionCount : Int32) (q_n0_0_size : Int32) (q_n1_0_size : Int32) (q_n2_0 : List Int64) (q_n3_0 : List Int32) (q_n4_0 : List Int32) (q_n5_0 : List Int32) (q_n6_0 : List Int32) (q_n7_0 : List Int32) (x0 : Int32) (x1 : Int32) (x2 : Int32) (x3 : Int32) (x4 : Int32) (x5 : Int32) (x7 : Int32) (x8 : Int32) (x9 : Int32) (x10 : Int32) (x11 : Int32) (x12 : Int32) (u0 : Int32) (E_n0_0_0 : Exa Z h0 n0_0 "com/example/mopor/mopor/reduction/VectorTree") (F_n0_0_nodes_0 : Fld Z h0 n0_0 "com/example/mopor/mopor/reduction/VectorTree" "nodes" "Lcom/example/mopor/mopor/reduction/LongIntTable;" (.ref n1_0)) (F_n0_0_parent_0 : Fld Z h0 n0_0 "com/example/mopor/mopor/reduction/VectorTree" "parent" "[I" (.ref n4_0)) (F_n0_0_last_0 : Fld Z h0 n0_0 "com/example/mopor/mopor/reduction/VectorTree" "last" "[I" (.ref n5_0)) (F_n0_0_marking_0 : Fld Z h0 n0_0 "com/example/mopor/mopor/reduction/VectorTree" "marking" "[I" (.ref n6_0)) (F_n0_0_depth_0 : Fld Z h0 n0_0 "com/example/mopor/mopor/reduction/VectorTree" "depth" "[I" (.ref n7_0)) (F_n0_0_transitionCount_0 : Fld Z h0 n0_0 "com/example/mopor/mopor/reduction/VectorTree" "transitionCount" "I" (.int q_n0_0_transitionCount)) (F_n0_0_size_0 : Fld Z h0 n0_0 "com/example/mopor/mopor/reduction/VectorTree" "size" "I" (.int q_n0_0_size)) (E_n1_0_0 : Exa Z h0 n1_0 "com/example/mopor/mopor/reduction/LongIntTable") (F_n1_0_keys_0 : Fld Z h0 n1_0 "com/example/mopor/mopor/reduction/LongIntTable" "keys" "[J" (.ref n2_0)) (F_n1_0_values_0 : Fld Z h0 n1_0 "com/example/mopor/mopor/reduction/LongIntTable" "values" "[I" (.ref n3_0)) (F_n1_0_size_0 : Fld Z h0 n1_0 "com/example/mopor/mopor/reduction/LongIntTable" "size" "I" (.int q_n1_0_size)) (A_n2_0_0 : AJ Z h0 n2_0 .long q_n2_0) (A_n3_0_0 : AI Z h0 n3_0 .int q_n3_0) (A_n4_0_0 : AI Z h0 n4_0 .int q_n4_0) (A_n5_0_0 : AI Z h0 n5_0 .int q_n5_0) (A_n6_0_0 : AI Z h0 n6_0 .int q_n6_0) (A_n7_0_0 : AI Z h0 n7_0 .int q_n7_0) (hr : g0_102 fuel x1 x2 x3 x4 x8 x9 x10 x11 x12 u0 q_n0_0_transitionCount q_n0_0_size q_n1_0_size q_n2_0 q_n3_0 q_n4_0 q_n5_0 q_n6_0 q_n7_0 = some r) :
    Runs p e below s (P0 n0 r) 8 4138 T0 (mkF m 102 #[.val (.int x0), .val (.int x1), .val (.int x2), .val (.int x3), .val (.int x4), .val (.int x5), .val (.ref n0_0), .val (.int x7), .val (.int x8), .val (.int x9), .val (.int x10), .val (.int x11), .val (.int x12), .unset, .unset, .unset] [(.int u0), (.ref n0_0)]) := by
  unfold g0_102 at hr
  have ⟨hx, hZ, hw, hby, hml, hown, hret, hlk, hnm⟩ := C
  refine Runs.via (T' := T0) (g' := (mkF m 105 #[.val (.int x0), .val (.int x1), .val (.int x2), .val (.int x3), .val (.int x4), .val (.int x5), .val (.ref n0_0), .val (.int x7), .val (.int x8), .val (.int x9), .val (.int x10), .val (.int x11), .val (.int x12), .unset, .unset, .unset] [(.int x4), (.int x3), (.int u0), (.ref n0_0)])) (fun t k => ?_) ?_
  · show Steps p.tables e below (T0.setTop (mkF m 102 #[.val (.int x0), .val (.int x1), .val (.int x2), .val (.int x3), .val (.int x4), .val (.int x5), .val (.ref n0_0), .val (.int x7), .val (.int x8), .val (.int x9), .val (.int x10), .val (.int x11), .val (.int x12), .unset, .unset, .unset] [(.int u0), (.ref n0_0)])) t
    refine XS.iloadN X0.here hx rfl (hb hby at_102) rfl ?_
    show Steps p.tables e below (T0.setTop (mkF m 103 #[.val (.int x0), .val (.int x1), .val (.int x2), .val (.int x3), .val (.int x4), .val (.int x5), .val (.ref n0_0), .val (.int x7), .val (.int x8), .val (.int x9), .val (.int x10), .val (.int x11), .val (.int x12), .unset, .unset, .unset] [(.int x3), (.int u0), (.ref n0_0)])) t
    refine XS.iload X0.here hx rfl (hb hby at_103) rfl ?_
    exact k
  refine bindE hr ?_; intro r1 hr1m hr
  obtain ⟨cq1, kq1, q1a, q1b, q1c⟩ := isOf hZ e0 E_n0_0_0
  obtain ⟨_, _, ⟨T1, L1, k1, n1⟩, -, X1, ⟨Lc1, hQ1, l1, y1, z1⟩, st1⟩ := X0.virtualBack hx (y := (⟨"com/example/mopor/mopor/reduction/VectorTree", "addChild", "(III)I"⟩ : MethodName)) (z := (⟨"com/example/mopor/mopor/reduction/VectorTree", "addChild", "(III)I"⟩ : MethodName)) hown (mvT hZ (hw _ (List.mem_of_getElem? (i := 70) rfl))) (mvT hZ (hw _ (List.mem_of_getElem? (i := 71) rfl))) (notFace_of_selects (args := #[]) (mvT hZ (hw _ (List.mem_of_getElem? (i := 73) rfl)))) (mvT hZ (hw _ (List.mem_of_getElem? (i := 73) rfl))) (mvT hZ (hw _ (List.mem_of_getElem? (i := 72) rfl))) (by decide) (backOf (W := 0) (rm11 l Z a0 hw [] u0 x3 x4 n0_0 n1_0 n2_0 n3_0 n4_0 n5_0 n6_0 n7_0 q_n0_0_transitionCount q_n0_0_size q_n1_0_size q_n2_0 q_n3_0 q_n4_0 q_n5_0 q_n6_0 q_n7_0 h0 n0 Z1 (by omega) (by omega) (by omega) (by omega) (by omega) (by omega) (by omega) (by omega) E_n0_0_0 F_n0_0_nodes_0 F_n0_0_parent_0 F_n0_0_last_0 F_n0_0_marking_0 F_n0_0_depth_0 F_n0_0_transitionCount_0 F_n0_0_size_0 E_n1_0_0 F_n1_0_keys_0 F_n1_0_values_0 F_n1_0_size_0 A_n2_0_0 A_n3_0_0 A_n4_0_0 A_n5_0_0 A_n6_0_0 A_n7_0_0 fuel r1 hr1m) hZ (hw _ (List.mem_of_getElem? (i := 74) rfl)) (hw _ (List.mem_of_getElem? (i := 2) rfl)) (by decide) (by decide)) q1a q1c (g := (mkF m 105 #[.val (.int x0), .val (.int x1), .val (.int x2), .val (.int x3), .val (.int x4), .val (.int x5), .val (.ref n0_0), .val (.int x7), .val (.int x8), .val (.int x9), .val (.int x10), .val (.int x11), .val (.int x12), .unset, .unset, .unset] [(.int x4), (.int x3), (.int u0), (.ref n0_0)])) rfl (by rw [hml]; rfl) (Steps.refl _) (argsL := [(.int u0), (.int x3), (.int x4)]) (rest := []) (lenOf pd_10 rfl) rfl (by show 2 * 0 + _ ≤ _; exact Nat.le_of_eq rfl) (hb hby at_105) (fun _ _ => ⟨rfl, e0, (by show cells + 0 ≤ 24; omega), (by show slots + 0 ≤ 8384; omega)⟩)
  dsimp only [Pt.U, Pt.locs, Pt.cells, Pt.slots] at X1 l1 y1 z1 st1 hQ1
  replace y1 := y1.symm; replace z1 := z1.symm; subst l1 y1 z1
  obtain ⟨h1, e1⟩ : ∃ z, T1.heap = z := ⟨_, rfl⟩
  rw [e1] at hQ1
  obtain ⟨rfl, N1q, K1q, E_n0_0_1, F_n0_0_nodes_1, F_n0_0_parent_1, F_n0_0_last_1, F_n0_0_marking_1, F_n0_0_depth_1, F_n0_0_transitionCount_1, F_n0_0_size_1, E_n1_0_1, F_n1_0_keys_1, F_n1_0_values_1, F_n1_0_size_1, A_n2_0_1, A_n3_0_1, A_n4_0_1, A_n5_0_1, A_n6_0_1, A_n7_0_1⟩ := hQ1
  have N1 := Fr.app N0 N1q
  have zz1 : n0 ≤ h1.size := Nat.le_trans Z1 K1q.1
  refine Runs.via (T' := T1) (g' := (mkF m 108 #[.val (.int x0), .val (.int x1), .val (.int x2), .val (.int x3), .val (.int x4), .val (.int x5), .val (.ref n0_0), .val (.int x7), .val (.int x8), .val (.int x9), .val (.int x10), .val (.int x11), .val (.int x12), .unset, .unset, .unset] [(.int r1.1)])) (fun t k => st1.trans k) ?_
  refine Runs.via (T' := T1) (g' := (mkF m 112 #[.val (.int x0), .val (.int x1), .val (.int x2), .val (.int x3), .val (.int x4), .val (.int x5), .val (.ref n0_0), .val (.int x7), .val (.int x8), .val (.int x9), .val (.int x10), .val (.int x11), .val (.int x12), .val (.int r1.1), .unset, .unset] [(.int x10)])) (fun t k => ?_) ?_
  · show Steps p.tables e below (T1.setTop (mkF m 108 #[.val (.int x0), .val (.int x1), .val (.int x2), .val (.int x3), .val (.int x4), .val (.int x5), .val (.ref n0_0), .val (.int x7), .val (.int x8), .val (.int x9), .val (.int x10), .val (.int x11), .val (.int x12), .unset, .unset, .unset] [(.int r1.1)])) t
    refine XS.istore X1.here hx rfl (hb hby at_108) rfl (l' := #[.val (.int x0), .val (.int x1), .val (.int x2), .val (.int x3), .val (.int x4), .val (.int x5), .val (.ref n0_0), .val (.int x7), .val (.int x8), .val (.int x9), .val (.int x10), .val (.int x11), .val (.int x12), .val (.int r1.1), .unset, .unset]) rfl ?_
    show Steps p.tables e below (T1.setTop (mkF m 110 #[.val (.int x0), .val (.int x1), .val (.int x2), .val (.int x3), .val (.int x4), .val (.int x5), .val (.ref n0_0), .val (.int x7), .val (.int x8), .val (.int x9), .val (.int x10), .val (.int x11), .val (.int x12), .val (.int r1.1), .unset, .unset] [])) t
    refine XS.iload X1.here hx rfl (hb hby at_110) rfl ?_
    exact k
  refine iteE hr (fun hc2 hr => ?_) (fun hc2 hr => ?_)
  · refine Runs.via (T' := T1) (g' := (mkF m 119 #[.val (.int x0), .val (.int x1), .val (.int x2), .val (.int x3), .val (.int x4), .val (.int x5), .val (.ref n0_0), .val (.int x7), .val (.int x8), .val (.int x9), .val (.int x10), .val (.int x11), .val (.int x12), .val (.int r1.1), .unset, .unset] [])) (fun t k => ?_) ?_
    · show Steps p.tables e below (T1.setTop (mkF m 112 #[.val (.int x0), .val (.int x1), .val (.int x2), .val (.int x3), .val (.int x4), .val (.int x5), .val (.ref n0_0), .val (.int x7), .val (.int x8), .val (.int x9), .val (.int x10), .val (.int x11), .val (.int x12), .val (.int r1.1), .unset, .unset] [(.int x10)])) t
      exact XS.ifYes X1.here hx rfl (pc0 := 112) (pc' := 119) rfl (hb hby at_112) rfl ((if0 _ _).trans (teq hc2).1) (by decide) (by decide) k
    refine Runs.via (T' := T1) (g' := (mkF m 120 #[.val (.int x0), .val (.int x1), .val (.int x2), .val (.int x3), .val (.int x4), .val (.int x5), .val (.ref n0_0), .val (.int x7), .val (.int x8), .val (.int x9), .val (.int x10), .val (.int x11), .val (.int x12), .val (.int r1.1), .unset, .unset] [(.int x2)])) (fun t k => ?_) ?_
    · show Steps p.tables e below (T1.setTop (mkF m 119 #[.val (.int x0), .val (.int x1), .val (.int x2), .val (.int x3), .val (.int x4), .val (.int x5), .val (.ref n0_0), .val (.int x7), .val (.int x8), .val (.int x9), .val (.int x10), .val (.int x11), .val (.int x12), .val (.int r1.1), .unset, .unset] [])) t
      refine XS.iloadN X1.here hx rfl (hb hby at_119) rfl ?_
      exact k
    exact b0_120 C fuel X1 e1 N1 (by show (cells + 0) ≤ 8; omega) (by show (slots + 0) ≤ 4138; omega) zz1 n0_0 n1_0 n2_0 n3_0 n4_0 n5_0 n6_0 n7_0 (by omega) (by omega) (by omega) (by omega) (by omega) (by omega) (by omega) (by omega) q_n0_0_transitionCount r1.2.1 r1.2.2.1 r1.2.2.2.1 r1.2.2.2.2.1 r1.2.2.2.2.2.1 r1.2.2.2.2.2.2.1 r1.2.2.2.2.2.2.2.1 r1.2.2.2.2.2.2.2.2 x0 x1 x2 x3 x4 x5 x7 x8 x9 x10 x11 x12 r1.1 x2 E_n0_0_1 F_n0_0_nodes_1 F_n0_0_parent_1 F_n0_0_last_1 F_n0_0_marking_1 F_n0_0_depth_1 F_n0_0_transitionCount_1 F_n0_0_size_1 E_n1_0_1 F_n1_0_keys_1 F_n1_0_values_1 F_n1_0_size_1 A_n2_0_1 A_n3_0_1 A_n4_0_1 A_n5_0_1 A_n6_0_1 A_n7_0_1 hr
  · refine Runs.via (T' := T1) (g' := (mkF m 115 #[.val (.int x0), .val (.int x1), .val (.int x2), .val (.int x3), .val (.int x4), .val (.int x5), .val (.ref n0_0), .val (.int x7), .val (.int x8), .val (.int x9), .val (.int x10), .val (.int x11), .val (.int x12), .val (.int r1.1), .unset, .unset] [])) (fun t k => ?_) ?_
    · show Steps p.tables e below (T1.setTop (mkF m 112 #[.val (.int x0), .val (.int x1), .val (.int x2), .val (.int x3), .val (.int x4), .val (.int x5), .val (.ref n0_0), .val (.int x7), .val (.int x8), .val (.int x9), .val (.int x10), .val (.int x11), .val (.int x12), .val (.int r1.1), .unset, .unset] [(.int x10)])) t
      exact XS.ifNo X1.here hx rfl (hb hby at_112) rfl ((if0 _ _).trans (feq hc2).1) k
    refine Runs.via (T' := T1) (g' := (mkF m 120 #[.val (.int x0), .val (.int x1), .val (.int x2), .val (.int x3), .val (.int x4), .val (.int x5), .val (.ref n0_0), .val (.int x7), .val (.int x8), .val (.int x9), .val (.int x10), .val (.int x11), .val (.int x12), .val (.int r1.1), .unset, .unset] [(.int x1)])) (fun t k => ?_) ?_
    · show Steps p.tables e below (T1.setTop (mkF m 115 #[.val (.int x0), .val (.int x1), .val (.int x2), .val (.int x3), .val (.int x4), .val (.int x5), .val (.ref n0_0), .val (.int x7), .val (.int x8), .val (.int x9), .val (.int x10), .val (.int x11), .val (.int x12), .val (.int r1.1), .unset, .unset] [])) t
      refine XS.iloadN X1.here hx rfl (hb hby at_115) rfl ?_
      show Steps p.tables e below (T1.setTop (mkF m 116 #[.val (.int x0), .val (.int x1), .val (.int x2), .val (.int x3), .val (.int x4), .val (.int x5), .val (.ref n0_0), .val (.int x7), .val (.int x8), .val (.int x9), .val (.int x10), .val (.int x11), .val (.int x12), .val (.int r1.1), .unset, .unset] [(.int x1)])) t
      refine XS.goto X1.here hx rfl (pc0 := 116) (pc' := 120) rfl (hb hby at_116) (by decide) (by decide) ?_
      exact k
    exact b0_120 C fuel X1 e1 N1 (by show (cells + 0) ≤ 8; omega) (by show (slots + 0) ≤ 4138; omega) zz1 n0_0 n1_0 n2_0 n3_0 n4_0 n5_0 n6_0 n7_0 (by omega) (by omega) (by omega) (by omega) (by omega) (by omega) (by omega) (by omega) q_n0_0_transitionCount r1.2.1 r1.2.2.1 r1.2.2.2.1 r1.2.2.2.2.1 r1.2.2.2.2.2.1 r1.2.2.2.2.2.2.1 r1.2.2.2.2.2.2.2.1 r1.2.2.2.2.2.2.2.2 x0 x1 x2 x3 x4 x5 x7 x8 x9 x10 x11 x12 r1.1 x1 E_n0_0_1 F_n0_0_nodes_1 F_n0_0_parent_1 F_n0_0_last_1 F_n0_0_marking_1 F_n0_0_depth_1 F_n0_0_transitionCount_1 F_n0_0_size_1 E_n1_0_1 F_n1_0_keys_1 F_n1_0_values_1 F_n1_0_size_1 A_n2_0_1 A_n3_0_1 A_n4_0_1 A_n5_0_1 A_n6_0_1 A_n7_0_1 hr
def g0_80 (fuel : Nat) (x1 : Int32) (x2 : Int32) (x3 : Int32) (x4 : Int32) (x7 : Int32) (x8 : Int32) (x9 : Int32) (x10 : Int32) (x11 : Int32) (u0 : Int32) (q_n0_0_transitionCount : Int32) (q_n0_0_size : Int32) (q_n1_0_size : Int32) (q_n2_0 : List Int64) (q_n3_0 : List Int32) (q_n4_0 : List Int32) (q_n5_0 : List Int32) (q_n6_0 : List Int32) (q_n7_0 : List Int32) : Option (Int32) := ((f11 fuel u0 x3 x4 q_n0_0_transitionCount q_n0_0_size q_n1_0_size q_n2_0 q_n3_0 q_n4_0 q_n5_0 q_n6_0 q_n7_0).bind fun r1 => (if x11 = (0 : Int32) then (g0_102 fuel x1 x2 x3 x4 x8 x9 x10 x11 r1.1 x7 q_n0_0_transitionCount r1.2.1 r1.2.2.1 r1.2.2.2.1 r1.2.2.2.2.1 r1.2.2.2.2.2.1 r1.2.2.2.2.2.2.1 r1.2.2.2.2.2.2.2.1 r1.2.2.2.2.2.2.2.2) else (g0_102 fuel x1 x2 x3 x4 x8 x9 x10 x11 r1.1 r1.1 q_n0_0_transitionCount r1.2.1 r1.2.2.1 r1.2.2.2.1 r1.2.2.2.2.1 r1.2.2.2.2.2.1 r1.2.2.2.2.2.2.1 r1.2.2.2.2.2.2.2.1 r1.2.2.2.2.2.2.2.2)))
set_option maxRecDepth 65536 in
set_option maxHeartbeats 4000000 in
theorem b0_80 {r : Int32} (C : Ctx p s m meth c Z a0 "com/example/mopor/mopor/reduction/VectorTreeStartPinLaw" code 16 (some .boolean) "law") (fuel : Nat) (X0 : Stand p l e room_1 s m args below meth c T0 locs cells slots) (e0 : T0.heap = h0) (N0 : Fr n0 locs) (hk : cells ≤ 8) (hn : slots ≤ 4138) (Z1 : n0 ≤ h0.size) (n0_0 : Addr) (n1_0 : Addr) (n2_0 : Addr) (n3_0 : Addr) (n4_0 : Addr) (n5_0 : Addr) (n6_0 : Addr) (n7_0 : Addr) (o0 : n0 ≤ n0_0) (o1 : @LT.lt Nat instLTNat n0_0 n1_0) (o2 : @LT.lt Nat instLTNat n1_0 n2_0) (o3 : @LT.lt Nat instLTNat n2_0 n3_0) (o4 : @LT.lt Nat instLTNat n3_0 n4_0) (o5 : @LT.lt Nat instLTNat n4_0 n5_0) (o6 : @LT.lt Nat instLTNat n5_0 n6_0) (o7 : @LT.lt Nat instLTNat n6_0 n7_0) (q_n0_0_transitionCount : Int32) (q_n0_0_size : Int32) (q_n1_0_size : Int32) (q_n2_0 : List Int64) (q_n3_0 : List Int32) (q_n4_0 : List Int32) (q_n5_0 : List Int32) (q_n6_0 : List Int32) (q_n7_0 : List Int32) (x0 : Int32) (x1 : Int32) (x2 : Int32) (x3 : Int32) (x4 : Int32) (x5 : Int32) (x7 : Int32) (x8 : Int32) (x9 : Int32) (x10 : Int32) (x11 : Int32) (u0 : Int32) (E_n0_0_0 : Exa Z h0 n0_0 "com/example/mopor/mopor/reduction/VectorTree") (F_n0_0_nodes_0 : Fld Z h0 n0_0 "com/example/mopor/mopor/reduction/VectorTree" "nodes" "Lcom/example/mopor/mopor/reduction/LongIntTable;" (.ref n1_0)) (F_n0_0_parent_0 : Fld Z h0 n0_0 "com/example/mopor/mopor/reduction/VectorTree" "parent" "[I" (.ref n4_0)) (F_n0_0_last_0 : Fld Z h0 n0_0 "com/example/mopor/mopor/reduction/VectorTree" "last" "[I" (.ref n5_0)) (F_n0_0_marking_0 : Fld Z h0 n0_0 "com/example/mopor/mopor/reduction/VectorTree" "marking" "[I" (.ref n6_0)) (F_n0_0_depth_0 : Fld Z h0 n0_0 "com/example/mopor/mopor/reduction/VectorTree" "depth" "[I" (.ref n7_0)) (F_n0_0_transitionCount_0 : Fld Z h0 n0_0 "com/example/mopor/mopor/reduction/VectorTree" "transitionCount" "I" (.int q_n0_0_transitionCount)) (F_n0_0_size_0 : Fld Z h0 n0_0 "com/example/mopor/mopor/reduction/VectorTree" "size" "I" (.int q_n0_0_size)) (E_n1_0_0 : Exa Z h0 n1_0 "com/example/mopor/mopor/reduction/LongIntTable") (F_n1_0_keys_0 : Fld Z h0 n1_0 "com/example/mopor/mopor/reduction/LongIntTable" "keys" "[J" (.ref n2_0)) (F_n1_0_values_0 : Fld Z h0 n1_0 "com/example/mopor/mopor/reduction/LongIntTable" "values" "[I" (.ref n3_0)) (F_n1_0_size_0 : Fld Z h0 n1_0 "com/example/mopor/mopor/reduction/LongIntTable" "size" "I" (.int q_n1_0_size)) (A_n2_0_0 : AJ Z h0 n2_0 .long q_n2_0) (A_n3_0_0 : AI Z h0 n3_0 .int q_n3_0) (A_n4_0_0 : AI Z h0 n4_0 .int q_n4_0) (A_n5_0_0 : AI Z h0 n5_0 .int q_n5_0) (A_n6_0_0 : AI Z h0 n6_0 .int q_n6_0) (A_n7_0_0 : AI Z h0 n7_0 .int q_n7_0) (hr : g0_80 fuel x1 x2 x3 x4 x7 x8 x9 x10 x11 u0 q_n0_0_transitionCount q_n0_0_size q_n1_0_size q_n2_0 q_n3_0 q_n4_0 q_n5_0 q_n6_0 q_n7_0 = some r) :
    Runs p e below s (P0 n0 r) 8 4138 T0 (mkF m 80 #[.val (.int x0), .val (.int x1), .val (.int x2), .val (.int x3), .val (.int x4), .val (.int x5), .val (.ref n0_0), .val (.int x7), .val (.int x8), .val (.int x9), .val (.int x10), .val (.int x11), .unset, .unset, .unset, .unset] [(.int u0), (.ref n0_0)]) := by
  unfold g0_80 at hr
  have ⟨hx, hZ, hw, hby, hml, hown, hret, hlk, hnm⟩ := C
  refine Runs.via (T' := T0) (g' := (mkF m 83 #[.val (.int x0), .val (.int x1), .val (.int x2), .val (.int x3), .val (.int x4), .val (.int x5), .val (.ref n0_0), .val (.int x7), .val (.int x8), .val (.int x9), .val (.int x10), .val (.int x11), .unset, .unset, .unset, .unset] [(.int x4), (.int x3), (.int u0), (.ref n0_0)])) (fun t k => ?_) ?_
  · show Steps p.tables e below (T0.setTop (mkF m 80 #[.val (.int x0), .val (.int x1), .val (.int x2), .val (.int x3), .val (.int x4), .val (.int x5), .val (.ref n0_0), .val (.int x7), .val (.int x8), .val (.int x9), .val (.int x10), .val (.int x11), .unset, .unset, .unset, .unset] [(.int u0), (.ref n0_0)])) t
    refine XS.iloadN X0.here hx rfl (hb hby at_80) rfl ?_
    show Steps p.tables e below (T0.setTop (mkF m 81 #[.val (.int x0), .val (.int x1), .val (.int x2), .val (.int x3), .val (.int x4), .val (.int x5), .val (.ref n0_0), .val (.int x7), .val (.int x8), .val (.int x9), .val (.int x10), .val (.int x11), .unset, .unset, .unset, .unset] [(.int x3), (.int u0), (.ref n0_0)])) t
    refine XS.iload X0.here hx rfl (hb hby at_81) rfl ?_
    exact k
  refine bindE hr ?_; intro r1 hr1m hr
  obtain ⟨cq1, kq1, q1a, q1b, q1c⟩ := isOf hZ e0 E_n0_0_0
  obtain ⟨_, _, ⟨T1, L1, k1, n1⟩, -, X1, ⟨Lc1, hQ1, l1, y1, z1⟩, st1⟩ := X0.virtualBack hx (y := (⟨"com/example/mopor/mopor/reduction/VectorTree", "addChild", "(III)I"⟩ : MethodName)) (z := (⟨"com/example/mopor/mopor/reduction/VectorTree", "addChild", "(III)I"⟩ : MethodName)) hown (mvT hZ (hw _ (List.mem_of_getElem? (i := 70) rfl))) (mvT hZ (hw _ (List.mem_of_getElem? (i := 71) rfl))) (notFace_of_selects (args := #[]) (mvT hZ (hw _ (List.mem_of_getElem? (i := 73) rfl)))) (mvT hZ (hw _ (List.mem_of_getElem? (i := 73) rfl))) (mvT hZ (hw _ (List.mem_of_getElem? (i := 72) rfl))) (by decide) (backOf (W := 0) (rm11 l Z a0 hw [] u0 x3 x4 n0_0 n1_0 n2_0 n3_0 n4_0 n5_0 n6_0 n7_0 q_n0_0_transitionCount q_n0_0_size q_n1_0_size q_n2_0 q_n3_0 q_n4_0 q_n5_0 q_n6_0 q_n7_0 h0 n0 Z1 (by omega) (by omega) (by omega) (by omega) (by omega) (by omega) (by omega) (by omega) E_n0_0_0 F_n0_0_nodes_0 F_n0_0_parent_0 F_n0_0_last_0 F_n0_0_marking_0 F_n0_0_depth_0 F_n0_0_transitionCount_0 F_n0_0_size_0 E_n1_0_0 F_n1_0_keys_0 F_n1_0_values_0 F_n1_0_size_0 A_n2_0_0 A_n3_0_0 A_n4_0_0 A_n5_0_0 A_n6_0_0 A_n7_0_0 fuel r1 hr1m) hZ (hw _ (List.mem_of_getElem? (i := 74) rfl)) (hw _ (List.mem_of_getElem? (i := 2) rfl)) (by decide) (by decide)) q1a q1c (g := (mkF m 83 #[.val (.int x0), .val (.int x1), .val (.int x2), .val (.int x3), .val (.int x4), .val (.int x5), .val (.ref n0_0), .val (.int x7), .val (.int x8), .val (.int x9), .val (.int x10), .val (.int x11), .unset, .unset, .unset, .unset] [(.int x4), (.int x3), (.int u0), (.ref n0_0)])) rfl (by rw [hml]; rfl) (Steps.refl _) (argsL := [(.int u0), (.int x3), (.int x4)]) (rest := []) (lenOf pd_10 rfl) rfl (by show 2 * 0 + _ ≤ _; exact Nat.le_of_eq rfl) (hb hby at_83) (fun _ _ => ⟨rfl, e0, (by show cells + 0 ≤ 24; omega), (by show slots + 0 ≤ 8384; omega)⟩)
  dsimp only [Pt.U, Pt.locs, Pt.cells, Pt.slots] at X1 l1 y1 z1 st1 hQ1
  replace y1 := y1.symm; replace z1 := z1.symm; subst l1 y1 z1
  obtain ⟨h1, e1⟩ : ∃ z, T1.heap = z := ⟨_, rfl⟩
  rw [e1] at hQ1
  obtain ⟨rfl, N1q, K1q, E_n0_0_1, F_n0_0_nodes_1, F_n0_0_parent_1, F_n0_0_last_1, F_n0_0_marking_1, F_n0_0_depth_1, F_n0_0_transitionCount_1, F_n0_0_size_1, E_n1_0_1, F_n1_0_keys_1, F_n1_0_values_1, F_n1_0_size_1, A_n2_0_1, A_n3_0_1, A_n4_0_1, A_n5_0_1, A_n6_0_1, A_n7_0_1⟩ := hQ1
  have N1 := Fr.app N0 N1q
  have zz1 : n0 ≤ h1.size := Nat.le_trans Z1 K1q.1
  refine Runs.via (T' := T1) (g' := (mkF m 86 #[.val (.int x0), .val (.int x1), .val (.int x2), .val (.int x3), .val (.int x4), .val (.int x5), .val (.ref n0_0), .val (.int x7), .val (.int x8), .val (.int x9), .val (.int x10), .val (.int x11), .unset, .unset, .unset, .unset] [(.int r1.1)])) (fun t k => st1.trans k) ?_
  refine Runs.via (T' := T1) (g' := (mkF m 92 #[.val (.int x0), .val (.int x1), .val (.int x2), .val (.int x3), .val (.int x4), .val (.int x5), .val (.ref n0_0), .val (.int x7), .val (.int x8), .val (.int x9), .val (.int x10), .val (.int x11), .val (.int r1.1), .unset, .unset, .unset] [(.int x11), (.ref n0_0)])) (fun t k => ?_) ?_
  · show Steps p.tables e below (T1.setTop (mkF m 86 #[.val (.int x0), .val (.int x1), .val (.int x2), .val (.int x3), .val (.int x4), .val (.int x5), .val (.ref n0_0), .val (.int x7), .val (.int x8), .val (.int x9), .val (.int x10), .val (.int x11), .unset, .unset, .unset, .unset] [(.int r1.1)])) t
    refine XS.istore X1.here hx rfl (hb hby at_86) rfl (l' := #[.val (.int x0), .val (.int x1), .val (.int x2), .val (.int x3), .val (.int x4), .val (.int x5), .val (.ref n0_0), .val (.int x7), .val (.int x8), .val (.int x9), .val (.int x10), .val (.int x11), .val (.int r1.1), .unset, .unset, .unset]) rfl ?_
    show Steps p.tables e below (T1.setTop (mkF m 88 #[.val (.int x0), .val (.int x1), .val (.int x2), .val (.int x3), .val (.int x4), .val (.int x5), .val (.ref n0_0), .val (.int x7), .val (.int x8), .val (.int x9), .val (.int x10), .val (.int x11), .val (.int r1.1), .unset, .unset, .unset] [])) t
    refine XS.aload X1.here hx rfl (hb hby at_88) rfl rfl ?_
    show Steps p.tables e below (T1.setTop (mkF m 90 #[.val (.int x0), .val (.int x1), .val (.int x2), .val (.int x3), .val (.int x4), .val (.int x5), .val (.ref n0_0), .val (.int x7), .val (.int x8), .val (.int x9), .val (.int x10), .val (.int x11), .val (.int r1.1), .unset, .unset, .unset] [(.ref n0_0)])) t
    refine XS.iload X1.here hx rfl (hb hby at_90) rfl ?_
    exact k
  refine iteE hr (fun hc2 hr => ?_) (fun hc2 hr => ?_)
  · refine Runs.via (T' := T1) (g' := (mkF m 100 #[.val (.int x0), .val (.int x1), .val (.int x2), .val (.int x3), .val (.int x4), .val (.int x5), .val (.ref n0_0), .val (.int x7), .val (.int x8), .val (.int x9), .val (.int x10), .val (.int x11), .val (.int r1.1), .unset, .unset, .unset] [(.ref n0_0)])) (fun t k => ?_) ?_
    · show Steps p.tables e below (T1.setTop (mkF m 92 #[.val (.int x0), .val (.int x1), .val (.int x2), .val (.int x3), .val (.int x4), .val (.int x5), .val (.ref n0_0), .val (.int x7), .val (.int x8), .val (.int x9), .val (.int x10), .val (.int x11), .val (.int r1.1), .unset, .unset, .unset] [(.int x11), (.ref n0_0)])) t
      exact XS.ifYes X1.here hx rfl (pc0 := 92) (pc' := 100) rfl (hb hby at_92) rfl ((if0 _ _).trans (teq hc2).1) (by decide) (by decide) k
    refine Runs.via (T' := T1) (g' := (mkF m 102 #[.val (.int x0), .val (.int x1), .val (.int x2), .val (.int x3), .val (.int x4), .val (.int x5), .val (.ref n0_0), .val (.int x7), .val (.int x8), .val (.int x9), .val (.int x10), .val (.int x11), .val (.int r1.1), .unset, .unset, .unset] [(.int x7), (.ref n0_0)])) (fun t k => ?_) ?_
    · show Steps p.tables e below (T1.setTop (mkF m 100 #[.val (.int x0), .val (.int x1), .val (.int x2), .val (.int x3), .val (.int x4), .val (.int x5), .val (.ref n0_0), .val (.int x7), .val (.int x8), .val (.int x9), .val (.int x10), .val (.int x11), .val (.int r1.1), .unset, .unset, .unset] [(.ref n0_0)])) t
      refine XS.iload X1.here hx rfl (hb hby at_100) rfl ?_
      exact k
    exact b0_102 C fuel X1 e1 N1 (by show (cells + 0) ≤ 8; omega) (by show (slots + 0) ≤ 4138; omega) zz1 n0_0 n1_0 n2_0 n3_0 n4_0 n5_0 n6_0 n7_0 (by omega) (by omega) (by omega) (by omega) (by omega) (by omega) (by omega) (by omega) q_n0_0_transitionCount r1.2.1 r1.2.2.1 r1.2.2.2.1 r1.2.2.2.2.1 r1.2.2.2.2.2.1 r1.2.2.2.2.2.2.1 r1.2.2.2.2.2.2.2.1 r1.2.2.2.2.2.2.2.2 x0 x1 x2 x3 x4 x5 x7 x8 x9 x10 x11 r1.1 x7 E_n0_0_1 F_n0_0_nodes_1 F_n0_0_parent_1 F_n0_0_last_1 F_n0_0_marking_1 F_n0_0_depth_1 F_n0_0_transitionCount_1 F_n0_0_size_1 E_n1_0_1 F_n1_0_keys_1 F_n1_0_values_1 F_n1_0_size_1 A_n2_0_1 A_n3_0_1 A_n4_0_1 A_n5_0_1 A_n6_0_1 A_n7_0_1 hr
  · refine Runs.via (T' := T1) (g' := (mkF m 95 #[.val (.int x0), .val (.int x1), .val (.int x2), .val (.int x3), .val (.int x4), .val (.int x5), .val (.ref n0_0), .val (.int x7), .val (.int x8), .val (.int x9), .val (.int x10), .val (.int x11), .val (.int r1.1), .unset, .unset, .unset] [(.ref n0_0)])) (fun t k => ?_) ?_
    · show Steps p.tables e below (T1.setTop (mkF m 92 #[.val (.int x0), .val (.int x1), .val (.int x2), .val (.int x3), .val (.int x4), .val (.int x5), .val (.ref n0_0), .val (.int x7), .val (.int x8), .val (.int x9), .val (.int x10), .val (.int x11), .val (.int r1.1), .unset, .unset, .unset] [(.int x11), (.ref n0_0)])) t
      exact XS.ifNo X1.here hx rfl (hb hby at_92) rfl ((if0 _ _).trans (feq hc2).1) k
    refine Runs.via (T' := T1) (g' := (mkF m 102 #[.val (.int x0), .val (.int x1), .val (.int x2), .val (.int x3), .val (.int x4), .val (.int x5), .val (.ref n0_0), .val (.int x7), .val (.int x8), .val (.int x9), .val (.int x10), .val (.int x11), .val (.int r1.1), .unset, .unset, .unset] [(.int r1.1), (.ref n0_0)])) (fun t k => ?_) ?_
    · show Steps p.tables e below (T1.setTop (mkF m 95 #[.val (.int x0), .val (.int x1), .val (.int x2), .val (.int x3), .val (.int x4), .val (.int x5), .val (.ref n0_0), .val (.int x7), .val (.int x8), .val (.int x9), .val (.int x10), .val (.int x11), .val (.int r1.1), .unset, .unset, .unset] [(.ref n0_0)])) t
      refine XS.iload X1.here hx rfl (hb hby at_95) rfl ?_
      show Steps p.tables e below (T1.setTop (mkF m 97 #[.val (.int x0), .val (.int x1), .val (.int x2), .val (.int x3), .val (.int x4), .val (.int x5), .val (.ref n0_0), .val (.int x7), .val (.int x8), .val (.int x9), .val (.int x10), .val (.int x11), .val (.int r1.1), .unset, .unset, .unset] [(.int r1.1), (.ref n0_0)])) t
      refine XS.goto X1.here hx rfl (pc0 := 97) (pc' := 102) rfl (hb hby at_97) (by decide) (by decide) ?_
      exact k
    exact b0_102 C fuel X1 e1 N1 (by show (cells + 0) ≤ 8; omega) (by show (slots + 0) ≤ 4138; omega) zz1 n0_0 n1_0 n2_0 n3_0 n4_0 n5_0 n6_0 n7_0 (by omega) (by omega) (by omega) (by omega) (by omega) (by omega) (by omega) (by omega) q_n0_0_transitionCount r1.2.1 r1.2.2.1 r1.2.2.2.1 r1.2.2.2.2.1 r1.2.2.2.2.2.1 r1.2.2.2.2.2.2.1 r1.2.2.2.2.2.2.2.1 r1.2.2.2.2.2.2.2.2 x0 x1 x2 x3 x4 x5 x7 x8 x9 x10 x11 r1.1 r1.1 E_n0_0_1 F_n0_0_nodes_1 F_n0_0_parent_1 F_n0_0_last_1 F_n0_0_marking_1 F_n0_0_depth_1 F_n0_0_transitionCount_1 F_n0_0_size_1 E_n1_0_1 F_n1_0_keys_1 F_n1_0_values_1 F_n1_0_size_1 A_n2_0_1 A_n3_0_1 A_n4_0_1 A_n5_0_1 A_n6_0_1 A_n7_0_1 hr
def g0_64 (fuel : Nat) (x1 : Int32) (x2 : Int32) (x3 : Int32) (x4 : Int32) (x7 : Int32) (x8 : Int32) (x9 : Int32) (x10 : Int32) (u0 : Int32) (q_n0_0_transitionCount : Int32) (q_n0_0_size : Int32) (q_n1_0_size : Int32) (q_n2_0 : List Int64) (q_n3_0 : List Int32) (q_n4_0 : List Int32) (q_n5_0 : List Int32) (q_n6_0 : List Int32) (q_n7_0 : List Int32) : Option (Int32) := (if x10 = (0 : Int32) then (g0_80 fuel x1 x2 x3 x4 x7 x8 x9 x10 u0 x8 q_n0_0_transitionCount q_n0_0_size q_n1_0_size q_n2_0 q_n3_0 q_n4_0 q_n5_0 q_n6_0 q_n7_0) else (g0_80 fuel x1 x2 x3 x4 x7 x8 x9 x10 u0 x9 q_n0_0_transitionCount q_n0_0_size q_n1_0_size q_n2_0 q_n3_0 q_n4_0 q_n5_0 q_n6_0 q_n7_0))
set_option maxRecDepth 65536 in
set_option maxHeartbeats 4000000 in
theorem b0_64 {r : Int32} (C : Ctx p s m meth c Z a0 "com/example/mopor/mopor/reduction/VectorTreeStartPinLaw" code 16 (some .boolean) "law") (fuel : Nat) (X0 : Stand p l e room_1 s m args below meth c T0 locs cells slots) (e0 : T0.heap = h0) (N0 : Fr n0 locs) (hk : cells ≤ 8) (hn : slots ≤ 4138) (Z1 : n0 ≤ h0.size) (n0_0 : Addr) (n1_0 : Addr) (n2_0 : Addr) (n3_0 : Addr) (n4_0 : Addr) (n5_0 : Addr) (n6_0 : Addr) (n7_0 : Addr) (o0 : n0 ≤ n0_0) (o1 : @LT.lt Nat instLTNat n0_0 n1_0) (o2 : @LT.lt Nat instLTNat n1_0 n2_0) (o3 : @LT.lt Nat instLTNat n2_0 n3_0) (o4 : @LT.lt Nat instLTNat n3_0 n4_0) (o5 : @LT.lt Nat instLTNat n4_0 n5_0) (o6 : @LT.lt Nat instLTNat n5_0 n6_0) (o7 : @LT.lt Nat instLTNat n6_0 n7_0) (q_n0_0_transitionCount : Int32) (q_n0_0_size : Int32) (q_n1_0_size : Int32) (q_n2_0 : List Int64) (q_n3_0 : List Int32) (q_n4_0 : List Int32) (q_n5_0 : List Int32) (q_n6_0 : List Int32) (q_n7_0 : List Int32) (x0 : Int32) (x1 : Int32) (x2 : Int32) (x3 : Int32) (x4 : Int32) (x5 : Int32) (x7 : Int32) (x8 : Int32) (x9 : Int32) (x10 : Int32) (u0 : Int32) (E_n0_0_0 : Exa Z h0 n0_0 "com/example/mopor/mopor/reduction/VectorTree") (F_n0_0_nodes_0 : Fld Z h0 n0_0 "com/example/mopor/mopor/reduction/VectorTree" "nodes" "Lcom/example/mopor/mopor/reduction/LongIntTable;" (.ref n1_0)) (F_n0_0_parent_0 : Fld Z h0 n0_0 "com/example/mopor/mopor/reduction/VectorTree" "parent" "[I" (.ref n4_0)) (F_n0_0_last_0 : Fld Z h0 n0_0 "com/example/mopor/mopor/reduction/VectorTree" "last" "[I" (.ref n5_0)) (F_n0_0_marking_0 : Fld Z h0 n0_0 "com/example/mopor/mopor/reduction/VectorTree" "marking" "[I" (.ref n6_0)) (F_n0_0_depth_0 : Fld Z h0 n0_0 "com/example/mopor/mopor/reduction/VectorTree" "depth" "[I" (.ref n7_0)) (F_n0_0_transitionCount_0 : Fld Z h0 n0_0 "com/example/mopor/mopor/reduction/VectorTree" "transitionCount" "I" (.int q_n0_0_transitionCount)) (F_n0_0_size_0 : Fld Z h0 n0_0 "com/example/mopor/mopor/reduction/VectorTree" "size" "I" (.int q_n0_0_size)) (E_n1_0_0 : Exa Z h0 n1_0 "com/example/mopor/mopor/reduction/LongIntTable") (F_n1_0_keys_0 : Fld Z h0 n1_0 "com/example/mopor/mopor/reduction/LongIntTable" "keys" "[J" (.ref n2_0)) (F_n1_0_values_0 : Fld Z h0 n1_0 "com/example/mopor/mopor/reduction/LongIntTable" "values" "[I" (.ref n3_0)) (F_n1_0_size_0 : Fld Z h0 n1_0 "com/example/mopor/mopor/reduction/LongIntTable" "size" "I" (.int q_n1_0_size)) (A_n2_0_0 : AJ Z h0 n2_0 .long q_n2_0) (A_n3_0_0 : AI Z h0 n3_0 .int q_n3_0) (A_n4_0_0 : AI Z h0 n4_0 .int q_n4_0) (A_n5_0_0 : AI Z h0 n5_0 .int q_n5_0) (A_n6_0_0 : AI Z h0 n6_0 .int q_n6_0) (A_n7_0_0 : AI Z h0 n7_0 .int q_n7_0) (hr : g0_64 fuel x1 x2 x3 x4 x7 x8 x9 x10 u0 q_n0_0_transitionCount q_n0_0_size q_n1_0_size q_n2_0 q_n3_0 q_n4_0 q_n5_0 q_n6_0 q_n7_0 = some r) :
    Runs p e below s (P0 n0 r) 8 4138 T0 (mkF m 64 #[.val (.int x0), .val (.int x1), .val (.int x2), .val (.int x3), .val (.int x4), .val (.int x5), .val (.ref n0_0), .val (.int x7), .val (.int x8), .val (.int x9), .val (.int x10), .unset, .unset, .unset, .unset, .unset] [(.int u0)]) := by
  unfold g0_64 at hr
  have ⟨hx, hZ, hw, hby, hml, hown, hret, hlk, hnm⟩ := C
  refine Runs.via (T' := T0) (g' := (mkF m 70 #[.val (.int x0), .val (.int x1), .val (.int x2), .val (.int x3), .val (.int x4), .val (.int x5), .val (.ref n0_0), .val (.int x7), .val (.int x8), .val (.int x9), .val (.int x10), .val (.int u0), .unset, .unset, .unset, .unset] [(.int x10), (.ref n0_0)])) (fun t k => ?_) ?_
  · show Steps p.tables e below (T0.setTop (mkF m 64 #[.val (.int x0), .val (.int x1), .val (.int x2), .val (.int x3), .val (.int x4), .val (.int x5), .val (.ref n0_0), .val (.int x7), .val (.int x8), .val (.int x9), .val (.int x10), .unset, .unset, .unset, .unset, .unset] [(.int u0)])) t
    refine XS.istore X0.here hx rfl (hb hby at_64) rfl (l' := #[.val (.int x0), .val (.int x1), .val (.int x2), .val (.int x3), .val (.int x4), .val (.int x5), .val (.ref n0_0), .val (.int x7), .val (.int x8), .val (.int x9), .val (.int x10), .val (.int u0), .unset, .unset, .unset, .unset]) rfl ?_
    show Steps p.tables e below (T0.setTop (mkF m 66 #[.val (.int x0), .val (.int x1), .val (.int x2), .val (.int x3), .val (.int x4), .val (.int x5), .val (.ref n0_0), .val (.int x7), .val (.int x8), .val (.int x9), .val (.int x10), .val (.int u0), .unset, .unset, .unset, .unset] [])) t
    refine XS.aload X0.here hx rfl (hb hby at_66) rfl rfl ?_
    show Steps p.tables e below (T0.setTop (mkF m 68 #[.val (.int x0), .val (.int x1), .val (.int x2), .val (.int x3), .val (.int x4), .val (.int x5), .val (.ref n0_0), .val (.int x7), .val (.int x8), .val (.int x9), .val (.int x10), .val (.int u0), .unset, .unset, .unset, .unset] [(.ref n0_0)])) t
    refine XS.iload X0.here hx rfl (hb hby at_68) rfl ?_
    exact k
  refine iteE hr (fun hc1 hr => ?_) (fun hc1 hr => ?_)
  · refine Runs.via (T' := T0) (g' := (mkF m 78 #[.val (.int x0), .val (.int x1), .val (.int x2), .val (.int x3), .val (.int x4), .val (.int x5), .val (.ref n0_0), .val (.int x7), .val (.int x8), .val (.int x9), .val (.int x10), .val (.int u0), .unset, .unset, .unset, .unset] [(.ref n0_0)])) (fun t k => ?_) ?_
    · show Steps p.tables e below (T0.setTop (mkF m 70 #[.val (.int x0), .val (.int x1), .val (.int x2), .val (.int x3), .val (.int x4), .val (.int x5), .val (.ref n0_0), .val (.int x7), .val (.int x8), .val (.int x9), .val (.int x10), .val (.int u0), .unset, .unset, .unset, .unset] [(.int x10), (.ref n0_0)])) t
      exact XS.ifYes X0.here hx rfl (pc0 := 70) (pc' := 78) rfl (hb hby at_70) rfl ((if0 _ _).trans (teq hc1).1) (by decide) (by decide) k
    refine Runs.via (T' := T0) (g' := (mkF m 80 #[.val (.int x0), .val (.int x1), .val (.int x2), .val (.int x3), .val (.int x4), .val (.int x5), .val (.ref n0_0), .val (.int x7), .val (.int x8), .val (.int x9), .val (.int x10), .val (.int u0), .unset, .unset, .unset, .unset] [(.int x8), (.ref n0_0)])) (fun t k => ?_) ?_
    · show Steps p.tables e below (T0.setTop (mkF m 78 #[.val (.int x0), .val (.int x1), .val (.int x2), .val (.int x3), .val (.int x4), .val (.int x5), .val (.ref n0_0), .val (.int x7), .val (.int x8), .val (.int x9), .val (.int x10), .val (.int u0), .unset, .unset, .unset, .unset] [(.ref n0_0)])) t
      refine XS.iload X0.here hx rfl (hb hby at_78) rfl ?_
      exact k
    exact b0_80 C fuel X0 e0 N0 (by show cells ≤ 8; omega) (by show slots ≤ 4138; omega) Z1 n0_0 n1_0 n2_0 n3_0 n4_0 n5_0 n6_0 n7_0 (by omega) (by omega) (by omega) (by omega) (by omega) (by omega) (by omega) (by omega) q_n0_0_transitionCount q_n0_0_size q_n1_0_size q_n2_0 q_n3_0 q_n4_0 q_n5_0 q_n6_0 q_n7_0 x0 x1 x2 x3 x4 x5 x7 x8 x9 x10 u0 x8 E_n0_0_0 F_n0_0_nodes_0 F_n0_0_parent_0 F_n0_0_last_0 F_n0_0_marking_0 F_n0_0_depth_0 F_n0_0_transitionCount_0 F_n0_0_size_0 E_n1_0_0 F_n1_0_keys_0 F_n1_0_values_0 F_n1_0_size_0 A_n2_0_0 A_n3_0_0 A_n4_0_0 A_n5_0_0 A_n6_0_0 A_n7_0_0 hr
  · refine Runs.via (T' := T0) (g' := (mkF m 73 #[.val (.int x0), .val (.int x1), .val (.int x2), .val (.int x3), .val (.int x4), .val (.int x5), .val (.ref n0_0), .val (.int x7), .val (.int x8), .val (.int x9), .val (.int x10), .val (.int u0), .unset, .unset, .unset, .unset] [(.ref n0_0)])) (fun t k => ?_) ?_
    · show Steps p.tables e below (T0.setTop (mkF m 70 #[.val (.int x0), .val (.int x1), .val (.int x2), .val (.int x3), .val (.int x4), .val (.int x5), .val (.ref n0_0), .val (.int x7), .val (.int x8), .val (.int x9), .val (.int x10), .val (.int u0), .unset, .unset, .unset, .unset] [(.int x10), (.ref n0_0)])) t
      exact XS.ifNo X0.here hx rfl (hb hby at_70) rfl ((if0 _ _).trans (feq hc1).1) k
    refine Runs.via (T' := T0) (g' := (mkF m 80 #[.val (.int x0), .val (.int x1), .val (.int x2), .val (.int x3), .val (.int x4), .val (.int x5), .val (.ref n0_0), .val (.int x7), .val (.int x8), .val (.int x9), .val (.int x10), .val (.int u0), .unset, .unset, .unset, .unset] [(.int x9), (.ref n0_0)])) (fun t k => ?_) ?_
    · show Steps p.tables e below (T0.setTop (mkF m 73 #[.val (.int x0), .val (.int x1), .val (.int x2), .val (.int x3), .val (.int x4), .val (.int x5), .val (.ref n0_0), .val (.int x7), .val (.int x8), .val (.int x9), .val (.int x10), .val (.int u0), .unset, .unset, .unset, .unset] [(.ref n0_0)])) t
      refine XS.iload X0.here hx rfl (hb hby at_73) rfl ?_
      show Steps p.tables e below (T0.setTop (mkF m 75 #[.val (.int x0), .val (.int x1), .val (.int x2), .val (.int x3), .val (.int x4), .val (.int x5), .val (.ref n0_0), .val (.int x7), .val (.int x8), .val (.int x9), .val (.int x10), .val (.int u0), .unset, .unset, .unset, .unset] [(.int x9), (.ref n0_0)])) t
      refine XS.goto X0.here hx rfl (pc0 := 75) (pc' := 80) rfl (hb hby at_75) (by decide) (by decide) ?_
      exact k
    exact b0_80 C fuel X0 e0 N0 (by show cells ≤ 8; omega) (by show slots ≤ 4138; omega) Z1 n0_0 n1_0 n2_0 n3_0 n4_0 n5_0 n6_0 n7_0 (by omega) (by omega) (by omega) (by omega) (by omega) (by omega) (by omega) (by omega) q_n0_0_transitionCount q_n0_0_size q_n1_0_size q_n2_0 q_n3_0 q_n4_0 q_n5_0 q_n6_0 q_n7_0 x0 x1 x2 x3 x4 x5 x7 x8 x9 x10 u0 x9 E_n0_0_0 F_n0_0_nodes_0 F_n0_0_parent_0 F_n0_0_last_0 F_n0_0_marking_0 F_n0_0_depth_0 F_n0_0_transitionCount_0 F_n0_0_size_0 E_n1_0_0 F_n1_0_keys_0 F_n1_0_values_0 F_n1_0_size_0 A_n2_0_0 A_n3_0_0 A_n4_0_0 A_n5_0_0 A_n6_0_0 A_n7_0_0 hr
def g0_50 (fuel : Nat) (x1 : Int32) (x2 : Int32) (x3 : Int32) (x4 : Int32) (x5 : Int32) (x7 : Int32) (x8 : Int32) (x9 : Int32) (u0 : Int32) (q_n0_0_transitionCount : Int32) (q_n0_0_size : Int32) (q_n1_0_size : Int32) (q_n2_0 : List Int64) (q_n3_0 : List Int32) (q_n4_0 : List Int32) (q_n5_0 : List Int32) (q_n6_0 : List Int32) (q_n7_0 : List Int32) : Option (Int32) := (if (x5 &&& (2 : Int32)) = (0 : Int32) then (g0_64 fuel x1 x2 x3 x4 x7 x8 x9 u0 (0 : Int32) q_n0_0_transitionCount q_n0_0_size q_n1_0_size q_n2_0 q_n3_0 q_n4_0 q_n5_0 q_n6_0 q_n7_0) else (g0_64 fuel x1 x2 x3 x4 x7 x8 x9 u0 (1 : Int32) q_n0_0_transitionCount q_n0_0_size q_n1_0_size q_n2_0 q_n3_0 q_n4_0 q_n5_0 q_n6_0 q_n7_0))
set_option maxRecDepth 65536 in
set_option maxHeartbeats 4000000 in
theorem b0_50 {r : Int32} (C : Ctx p s m meth c Z a0 "com/example/mopor/mopor/reduction/VectorTreeStartPinLaw" code 16 (some .boolean) "law") (fuel : Nat) (X0 : Stand p l e room_1 s m args below meth c T0 locs cells slots) (e0 : T0.heap = h0) (N0 : Fr n0 locs) (hk : cells ≤ 8) (hn : slots ≤ 4138) (Z1 : n0 ≤ h0.size) (n0_0 : Addr) (n1_0 : Addr) (n2_0 : Addr) (n3_0 : Addr) (n4_0 : Addr) (n5_0 : Addr) (n6_0 : Addr) (n7_0 : Addr) (o0 : n0 ≤ n0_0) (o1 : @LT.lt Nat instLTNat n0_0 n1_0) (o2 : @LT.lt Nat instLTNat n1_0 n2_0) (o3 : @LT.lt Nat instLTNat n2_0 n3_0) (o4 : @LT.lt Nat instLTNat n3_0 n4_0) (o5 : @LT.lt Nat instLTNat n4_0 n5_0) (o6 : @LT.lt Nat instLTNat n5_0 n6_0) (o7 : @LT.lt Nat instLTNat n6_0 n7_0) (q_n0_0_transitionCount : Int32) (q_n0_0_size : Int32) (q_n1_0_size : Int32) (q_n2_0 : List Int64) (q_n3_0 : List Int32) (q_n4_0 : List Int32) (q_n5_0 : List Int32) (q_n6_0 : List Int32) (q_n7_0 : List Int32) (x0 : Int32) (x1 : Int32) (x2 : Int32) (x3 : Int32) (x4 : Int32) (x5 : Int32) (x7 : Int32) (x8 : Int32) (x9 : Int32) (u0 : Int32) (E_n0_0_0 : Exa Z h0 n0_0 "com/example/mopor/mopor/reduction/VectorTree") (F_n0_0_nodes_0 : Fld Z h0 n0_0 "com/example/mopor/mopor/reduction/VectorTree" "nodes" "Lcom/example/mopor/mopor/reduction/LongIntTable;" (.ref n1_0)) (F_n0_0_parent_0 : Fld Z h0 n0_0 "com/example/mopor/mopor/reduction/VectorTree" "parent" "[I" (.ref n4_0)) (F_n0_0_last_0 : Fld Z h0 n0_0 "com/example/mopor/mopor/reduction/VectorTree" "last" "[I" (.ref n5_0)) (F_n0_0_marking_0 : Fld Z h0 n0_0 "com/example/mopor/mopor/reduction/VectorTree" "marking" "[I" (.ref n6_0)) (F_n0_0_depth_0 : Fld Z h0 n0_0 "com/example/mopor/mopor/reduction/VectorTree" "depth" "[I" (.ref n7_0)) (F_n0_0_transitionCount_0 : Fld Z h0 n0_0 "com/example/mopor/mopor/reduction/VectorTree" "transitionCount" "I" (.int q_n0_0_transitionCount)) (F_n0_0_size_0 : Fld Z h0 n0_0 "com/example/mopor/mopor/reduction/VectorTree" "size" "I" (.int q_n0_0_size)) (E_n1_0_0 : Exa Z h0 n1_0 "com/example/mopor/mopor/reduction/LongIntTable") (F_n1_0_keys_0 : Fld Z h0 n1_0 "com/example/mopor/mopor/reduction/LongIntTable" "keys" "[J" (.ref n2_0)) (F_n1_0_values_0 : Fld Z h0 n1_0 "com/example/mopor/mopor/reduction/LongIntTable" "values" "[I" (.ref n3_0)) (F_n1_0_size_0 : Fld Z h0 n1_0 "com/example/mopor/mopor/reduction/LongIntTable" "size" "I" (.int q_n1_0_size)) (A_n2_0_0 : AJ Z h0 n2_0 .long q_n2_0) (A_n3_0_0 : AI Z h0 n3_0 .int q_n3_0) (A_n4_0_0 : AI Z h0 n4_0 .int q_n4_0) (A_n5_0_0 : AI Z h0 n5_0 .int q_n5_0) (A_n6_0_0 : AI Z h0 n6_0 .int q_n6_0) (A_n7_0_0 : AI Z h0 n7_0 .int q_n7_0) (hr : g0_50 fuel x1 x2 x3 x4 x5 x7 x8 x9 u0 q_n0_0_transitionCount q_n0_0_size q_n1_0_size q_n2_0 q_n3_0 q_n4_0 q_n5_0 q_n6_0 q_n7_0 = some r) :
    Runs p e below s (P0 n0 r) 8 4138 T0 (mkF m 50 #[.val (.int x0), .val (.int x1), .val (.int x2), .val (.int x3), .val (.int x4), .val (.int x5), .val (.ref n0_0), .val (.int x7), .val (.int x8), .val (.int x9), .unset, .unset, .unset, .unset, .unset, .unset] [(.int u0)]) := by
  unfold g0_50 at hr
  have ⟨hx, hZ, hw, hby, hml, hown, hret, hlk, hnm⟩ := C
  refine Runs.via (T' := T0) (g' := (mkF m 56 #[.val (.int x0), .val (.int x1), .val (.int x2), .val (.int x3), .val (.int x4), .val (.int x5), .val (.ref n0_0), .val (.int x7), .val (.int x8), .val (.int x9), .val (.int u0), .unset, .unset, .unset, .unset, .unset] [(.int (x5 &&& (2 : Int32)))])) (fun t k => ?_) ?_
  · show Steps p.tables e below (T0.setTop (mkF m 50 #[.val (.int x0), .val (.int x1), .val (.int x2), .val (.int x3), .val (.int x4), .val (.int x5), .val (.ref n0_0), .val (.int x7), .val (.int x8), .val (.int x9), .unset, .unset, .unset, .unset, .unset, .unset] [(.int u0)])) t
    refine XS.istore X0.here hx rfl (hb hby at_50) rfl (l' := #[.val (.int x0), .val (.int x1), .val (.int x2), .val (.int x3), .val (.int x4), .val (.int x5), .val (.ref n0_0), .val (.int x7), .val (.int x8), .val (.int x9), .val (.int u0), .unset, .unset, .unset, .unset, .unset]) rfl ?_
    show Steps p.tables e below (T0.setTop (mkF m 52 #[.val (.int x0), .val (.int x1), .val (.int x2), .val (.int x3), .val (.int x4), .val (.int x5), .val (.ref n0_0), .val (.int x7), .val (.int x8), .val (.int x9), .val (.int u0), .unset, .unset, .unset, .unset, .unset] [])) t
    refine XS.iload X0.here hx rfl (hb hby at_52) rfl ?_
    show Steps p.tables e below (T0.setTop (mkF m 54 #[.val (.int x0), .val (.int x1), .val (.int x2), .val (.int x3), .val (.int x4), .val (.int x5), .val (.ref n0_0), .val (.int x7), .val (.int x8), .val (.int x9), .val (.int u0), .unset, .unset, .unset, .unset, .unset] [(.int x5)])) t
    refine XS.iconst X0.here hx rfl (hb hby at_54) ?_
    show Steps p.tables e below (T0.setTop (mkF m 55 #[.val (.int x0), .val (.int x1), .val (.int x2), .val (.int x3), .val (.int x4), .val (.int x5), .val (.ref n0_0), .val (.int x7), .val (.int x8), .val (.int x9), .val (.int u0), .unset, .unset, .unset, .unset, .unset] [(.int (2 : Int32)), (.int x5)])) t
    refine XS.iand X0.here hx rfl (hb hby at_55) rfl ?_
    exact k
  refine iteE hr (fun hc1 hr => ?_) (fun hc1 hr => ?_)
  · refine Runs.via (T' := T0) (g' := (mkF m 63 #[.val (.int x0), .val (.int x1), .val (.int x2), .val (.int x3), .val (.int x4), .val (.int x5), .val (.ref n0_0), .val (.int x7), .val (.int x8), .val (.int x9), .val (.int u0), .unset, .unset, .unset, .unset, .unset] [])) (fun t k => ?_) ?_
    · show Steps p.tables e below (T0.setTop (mkF m 56 #[.val (.int x0), .val (.int x1), .val (.int x2), .val (.int x3), .val (.int x4), .val (.int x5), .val (.ref n0_0), .val (.int x7), .val (.int x8), .val (.int x9), .val (.int u0), .unset, .unset, .unset, .unset, .unset] [(.int (x5 &&& (2 : Int32)))])) t
      exact XS.ifYes X0.here hx rfl (pc0 := 56) (pc' := 63) rfl (hb hby at_56) rfl ((if0 _ _).trans (teq hc1).1) (by decide) (by decide) k
    refine Runs.via (T' := T0) (g' := (mkF m 64 #[.val (.int x0), .val (.int x1), .val (.int x2), .val (.int x3), .val (.int x4), .val (.int x5), .val (.ref n0_0), .val (.int x7), .val (.int x8), .val (.int x9), .val (.int u0), .unset, .unset, .unset, .unset, .unset] [(.int (0 : Int32))])) (fun t k => ?_) ?_
    · show Steps p.tables e below (T0.setTop (mkF m 63 #[.val (.int x0), .val (.int x1), .val (.int x2), .val (.int x3), .val (.int x4), .val (.int x5), .val (.ref n0_0), .val (.int x7), .val (.int x8), .val (.int x9), .val (.int u0), .unset, .unset, .unset, .unset, .unset] [])) t
      refine XS.iconst X0.here hx rfl (hb hby at_63) ?_
      exact k
    exact b0_64 C fuel X0 e0 N0 (by show cells ≤ 8; omega) (by show slots ≤ 4138; omega) Z1 n0_0 n1_0 n2_0 n3_0 n4_0 n5_0 n6_0 n7_0 (by omega) (by omega) (by omega) (by omega) (by omega) (by omega) (by omega) (by omega) q_n0_0_transitionCount q_n0_0_size q_n1_0_size q_n2_0 q_n3_0 q_n4_0 q_n5_0 q_n6_0 q_n7_0 x0 x1 x2 x3 x4 x5 x7 x8 x9 u0 (0 : Int32) E_n0_0_0 F_n0_0_nodes_0 F_n0_0_parent_0 F_n0_0_last_0 F_n0_0_marking_0 F_n0_0_depth_0 F_n0_0_transitionCount_0 F_n0_0_size_0 E_n1_0_0 F_n1_0_keys_0 F_n1_0_values_0 F_n1_0_size_0 A_n2_0_0 A_n3_0_0 A_n4_0_0 A_n5_0_0 A_n6_0_0 A_n7_0_0 hr
  · refine Runs.via (T' := T0) (g' := (mkF m 59 #[.val (.int x0), .val (.int x1), .val (.int x2), .val (.int x3), .val (.int x4), .val (.int x5), .val (.ref n0_0), .val (.int x7), .val (.int x8), .val (.int x9), .val (.int u0), .unset, .unset, .unset, .unset, .unset] [])) (fun t k => ?_) ?_
    · show Steps p.tables e below (T0.setTop (mkF m 56 #[.val (.int x0), .val (.int x1), .val (.int x2), .val (.int x3), .val (.int x4), .val (.int x5), .val (.ref n0_0), .val (.int x7), .val (.int x8), .val (.int x9), .val (.int u0), .unset, .unset, .unset, .unset, .unset] [(.int (x5 &&& (2 : Int32)))])) t
      exact XS.ifNo X0.here hx rfl (hb hby at_56) rfl ((if0 _ _).trans (feq hc1).1) k
    refine Runs.via (T' := T0) (g' := (mkF m 64 #[.val (.int x0), .val (.int x1), .val (.int x2), .val (.int x3), .val (.int x4), .val (.int x5), .val (.ref n0_0), .val (.int x7), .val (.int x8), .val (.int x9), .val (.int u0), .unset, .unset, .unset, .unset, .unset] [(.int (1 : Int32))])) (fun t k => ?_) ?_
    · show Steps p.tables e below (T0.setTop (mkF m 59 #[.val (.int x0), .val (.int x1), .val (.int x2), .val (.int x3), .val (.int x4), .val (.int x5), .val (.ref n0_0), .val (.int x7), .val (.int x8), .val (.int x9), .val (.int u0), .unset, .unset, .unset, .unset, .unset] [])) t
      refine XS.iconst X0.here hx rfl (hb hby at_59) ?_
      show Steps p.tables e below (T0.setTop (mkF m 60 #[.val (.int x0), .val (.int x1), .val (.int x2), .val (.int x3), .val (.int x4), .val (.int x5), .val (.ref n0_0), .val (.int x7), .val (.int x8), .val (.int x9), .val (.int u0), .unset, .unset, .unset, .unset, .unset] [(.int (1 : Int32))])) t
      refine XS.goto X0.here hx rfl (pc0 := 60) (pc' := 64) rfl (hb hby at_60) (by decide) (by decide) ?_
      exact k
    exact b0_64 C fuel X0 e0 N0 (by show cells ≤ 8; omega) (by show slots ≤ 4138; omega) Z1 n0_0 n1_0 n2_0 n3_0 n4_0 n5_0 n6_0 n7_0 (by omega) (by omega) (by omega) (by omega) (by omega) (by omega) (by omega) (by omega) q_n0_0_transitionCount q_n0_0_size q_n1_0_size q_n2_0 q_n3_0 q_n4_0 q_n5_0 q_n6_0 q_n7_0 x0 x1 x2 x3 x4 x5 x7 x8 x9 u0 (1 : Int32) E_n0_0_0 F_n0_0_nodes_0 F_n0_0_parent_0 F_n0_0_last_0 F_n0_0_marking_0 F_n0_0_depth_0 F_n0_0_transitionCount_0 F_n0_0_size_0 E_n1_0_0 F_n1_0_keys_0 F_n1_0_values_0 F_n1_0_size_0 A_n2_0_0 A_n3_0_0 A_n4_0_0 A_n5_0_0 A_n6_0_0 A_n7_0_0 hr
def g0_0 (fuel : Nat) (x0 : Int32) (x1 : Int32) (x2 : Int32) (x3 : Int32) (x4 : Int32) (x5 : Int32) : Option (Int32) := ((f1 fuel x0 (0 : Int32) (0 : Int32)).bind fun r2 => ((f6 fuel x1 r2.1 (0 : Int32) r2.2.1 r2.2.2.1 r2.2.2.2.1 r2.2.2.2.2.1 r2.2.2.2.2.2.1 r2.2.2.2.2.2.2.1 r2.2.2.2.2.2.2.2).bind fun r3 => ((f6 fuel x2 r2.1 r3.2.1 r3.2.2.1 r3.2.2.2.1 r3.2.2.2.2.1 r3.2.2.2.2.2.1 r3.2.2.2.2.2.2.1 r3.2.2.2.2.2.2.2.1 r3.2.2.2.2.2.2.2.2).bind fun r4 => ((f11 fuel r3.1 x3 x4 r2.1 r4.2.1 r4.2.2.1 r4.2.2.2.1 r4.2.2.2.2.1 r4.2.2.2.2.2.1 r4.2.2.2.2.2.2.1 r4.2.2.2.2.2.2.2.1 r4.2.2.2.2.2.2.2.2).bind fun r5 => (if (x5 &&& (1 : Int32)) = (0 : Int32) then (g0_50 fuel x1 x2 x3 x4 x5 r3.1 r4.1 r5.1 (0 : Int32) r2.1 r5.2.1 r5.2.2.1 r5.2.2.2.1 r5.2.2.2.2.1 r5.2.2.2.2.2.1 r5.2.2.2.2.2.2.1 r5.2.2.2.2.2.2.2.1 r5.2.2.2.2.2.2.2.2) else (g0_50 fuel x1 x2 x3 x4 x5 r3.1 r4.1 r5.1 (1 : Int32) r2.1 r5.2.1 r5.2.2.1 r5.2.2.2.1 r5.2.2.2.2.1 r5.2.2.2.2.2.1 r5.2.2.2.2.2.2.1 r5.2.2.2.2.2.2.2.1 r5.2.2.2.2.2.2.2.2))))))
set_option maxRecDepth 65536 in
set_option maxHeartbeats 4000000 in
theorem b0_0 {r : Int32} (C : Ctx p s m meth c Z a0 "com/example/mopor/mopor/reduction/VectorTreeStartPinLaw" code 16 (some .boolean) "law") (fuel : Nat) (X0 : Stand p l e room_1 s m args below meth c T0 locs cells slots) (e0 : T0.heap = h0) (N0 : Fr n0 locs) (hk : cells ≤ 0) (hn : slots ≤ 0) (Z1 : n0 ≤ h0.size) (x0 : Int32) (x1 : Int32) (x2 : Int32) (x3 : Int32) (x4 : Int32) (x5 : Int32) (hr : g0_0 fuel x0 x1 x2 x3 x4 x5 = some r) :
    Runs p e below s (P0 n0 r) 8 4138 T0 (mkF m 0 #[.val (.int x0), .val (.int x1), .val (.int x2), .val (.int x3), .val (.int x4), .val (.int x5), .unset, .unset, .unset, .unset, .unset, .unset, .unset, .unset, .unset, .unset] []) := by
  unfold g0_0 at hr
  have ⟨hx, hZ, hw, hby, hml, hown, hret, hlk, hnm⟩ := C
  obtain ⟨T1, h1, X1, e1, E1, A1, D1, -, st1⟩ := newO X0 hx hZ hown (hw _ (List.mem_of_getElem? (i := 0) rfl)) (hw _ (List.mem_of_getElem? (i := 1) rfl)) (hw _ (List.mem_of_getElem? (i := 2) rfl)) e0 (g := (mkF m 0 #[.val (.int x0), .val (.int x1), .val (.int x2), .val (.int x3), .val (.int x4), .val (.int x5), .unset, .unset, .unset, .unset, .unset, .unset, .unset, .unset, .unset, .unset] [])) rfl (hb hby at_0) (by show cells + 1 ≤ 24; omega) (by show slots + 7 ≤ 8384; omega)
  obtain ⟨b0, g1⟩ : ∃ z, z = h0.size := ⟨_, rfl⟩
  rw [← g1] at A1 D1 st1
  have i1 := E1.1
  have zz1 : n0 ≤ h1.size := Nat.le_trans Z1 i1
  have E_b0_1 := A1
  have F_b0_nodes_1 : Fld Z h1 b0 "com/example/mopor/mopor/reduction/VectorTree" "nodes" "Lcom/example/mopor/mopor/reduction/LongIntTable;" .null := D1 (Or.inr (hw _ (List.mem_of_getElem? (i := 31) rfl))) (ty := (.object "com/example/mopor/mopor/reduction/LongIntTable")) (by decide)
  have F_b0_parent_1 : Fld Z h1 b0 "com/example/mopor/mopor/reduction/VectorTree" "parent" "[I" .null := D1 (Or.inl (hw _ (List.mem_of_getElem? (i := 33) rfl))) (ty := (.array .int)) (by decide)
  have F_b0_last_1 : Fld Z h1 b0 "com/example/mopor/mopor/reduction/VectorTree" "last" "[I" .null := D1 (Or.inl (hw _ (List.mem_of_getElem? (i := 35) rfl))) (ty := (.array .int)) (by decide)
  have F_b0_marking_1 : Fld Z h1 b0 "com/example/mopor/mopor/reduction/VectorTree" "marking" "[I" .null := D1 (Or.inl (hw _ (List.mem_of_getElem? (i := 37) rfl))) (ty := (.array .int)) (by decide)
  have F_b0_depth_1 : Fld Z h1 b0 "com/example/mopor/mopor/reduction/VectorTree" "depth" "[I" .null := D1 (Or.inl (hw _ (List.mem_of_getElem? (i := 39) rfl))) (ty := (.array .int)) (by decide)
  have F_b0_transitionCount_1 : Fld Z h1 b0 "com/example/mopor/mopor/reduction/VectorTree" "transitionCount" "I" (.int (0 : Int32)) := D1 (Or.inr (hw _ (List.mem_of_getElem? (i := 41) rfl))) (ty := .int) (by decide)
  have F_b0_size_1 : Fld Z h1 b0 "com/example/mopor/mopor/reduction/VectorTree" "size" "I" (.int (0 : Int32)) := D1 (Or.inl (hw _ (List.mem_of_getElem? (i := 62) rfl))) (ty := .int) (by decide)
  have sb0 : n0 ≤ b0 := by omega
  refine Runs.via (T' := T1) (g' := (mkF m 3 #[.val (.int x0), .val (.int x1), .val (.int x2), .val (.int x3), .val (.int x4), .val (.int x5), .unset, .unset, .unset, .unset, .unset, .unset, .unset, .unset, .unset, .unset] [(.ref b0)])) (fun t k => st1 _ k) ?_
  refine Runs.via (T' := T1) (g' := (mkF m 5 #[.val (.int x0), .val (.int x1), .val (.int x2), .val (.int x3), .val (.int x4), .val (.int x5), .unset, .unset, .unset, .unset, .unset, .unset, .unset, .unset, .unset, .unset] [(.int x0), (.ref b0), (.ref b0)])) (fun t k => ?_) ?_
  · show Steps p.tables e below (T1.setTop (mkF m 3 #[.val (.int x0), .val (.int x1), .val (.int x2), .val (.int x3), .val (.int x4), .val (.int x5), .unset, .unset, .unset, .unset, .unset, .unset, .unset, .unset, .unset, .unset] [(.ref b0)])) t
    refine XS.dup X1.here hx rfl (hb hby at_3) rfl rfl ?_
    show Steps p.tables e below (T1.setTop (mkF m 4 #[.val (.int x0), .val (.int x1), .val (.int x2), .val (.int x3), .val (.int x4), .val (.int x5), .unset, .unset, .unset, .unset, .unset, .unset, .unset, .unset, .unset, .unset] [(.ref b0), (.ref b0)])) t
    refine XS.iloadN X1.here hx rfl (hb hby at_4) rfl ?_
    exact k
  refine bindE hr ?_; intro r2 hr2m hr
  obtain ⟨_, _, ⟨T2, L2, k2, n2⟩, -, X2, ⟨Lc2, hQ2, l2, y2, z2⟩, st2⟩ := X1.specialBack hx (y := (⟨"com/example/mopor/mopor/reduction/VectorTree", "<init>", "(I)V"⟩ : MethodName)) rfl hown (mvT hZ (hw _ (List.mem_of_getElem? (i := 3) rfl))) (mvT hZ (hw _ (List.mem_of_getElem? (i := 4) rfl))) (mvT hZ (hw _ (List.mem_of_getElem? (i := 5) rfl))) (by decide) (backOf (W := 1) (rm1 l Z a0 hw [] x0 b0 (0 : Int32) (0 : Int32) h1 n0 zz1 (by omega) E_b0_1 F_b0_nodes_1 F_b0_parent_1 F_b0_last_1 F_b0_marking_1 F_b0_depth_1 F_b0_transitionCount_1 F_b0_size_1 fuel r2 hr2m) hZ (hw _ (List.mem_of_getElem? (i := 5) rfl)) (hw _ (List.mem_of_getElem? (i := 2) rfl)) (by decide) (by decide)) (g := (mkF m 5 #[.val (.int x0), .val (.int x1), .val (.int x2), .val (.int x3), .val (.int x4), .val (.int x5), .unset, .unset, .unset, .unset, .unset, .unset, .unset, .unset, .unset, .unset] [(.int x0), (.ref b0), (.ref b0)])) rfl (by rw [hml]; rfl) (Steps.refl _) (a := b0) (argsL := [(.int x0)]) (rest := [(.ref b0)]) (lenOf pd_3 rfl) rfl (by show 2 * 0 + _ ≤ _; exact Nat.le_of_eq rfl) (hb hby at_5) (fun _ _ => ⟨rfl, e1, (by show (cells + 1) + 7 ≤ 24; omega), (by show (slots + 7) + 4131 ≤ 8384; omega)⟩)
  dsimp only [Pt.U, Pt.locs, Pt.cells, Pt.slots] at X2 l2 y2 z2 st2 hQ2
  replace y2 := y2.symm; replace z2 := z2.symm; subst l2 y2 z2
  obtain ⟨h2, e2⟩ : ∃ z, T2.heap = z := ⟨_, rfl⟩
  rw [e2] at hQ2
  obtain ⟨b5_0, b5_1, b5_2, b5_3, b5_4, b5_5, b5_6, rfl, N2q, K2q, zn2_0, zn2_1, zn2_2, zn2_3, zn2_4, zn2_5, zn2_6, on2_0, on2_1, on2_2, on2_3, on2_4, on2_5, E_b0_2, F_b0_nodes_2, F_b0_parent_2, F_b0_last_2, F_b0_marking_2, F_b0_depth_2, F_b0_transitionCount_2, F_b0_size_2, E_b5_0_2, F_b5_0_keys_2, F_b5_0_values_2, F_b5_0_size_2, A_b5_1_2, A_b5_2_2, A_b5_3_2, A_b5_4_2, A_b5_5_2, A_b5_6_2⟩ := hQ2
  have N2 := Fr.app N0 N2q
  have pn2 : @LT.lt Nat instLTNat b0 b5_0 := by have : @LT.lt Nat instLTNat _ _ := E_b0_1.lt; omega
  have sn2_0 : n0 ≤ b5_0 := by omega
  have sn2_1 : n0 ≤ b5_1 := by omega
  have sn2_2 : n0 ≤ b5_2 := by omega
  have sn2_3 : n0 ≤ b5_3 := by omega
  have sn2_4 : n0 ≤ b5_4 := by omega
  have sn2_5 : n0 ≤ b5_5 := by omega
  have sn2_6 : n0 ≤ b5_6 := by omega
  have zz2 : n0 ≤ h2.size := Nat.le_trans zz1 K2q.1
  refine Runs.via (T' := T2) (g' := (mkF m 8 #[.val (.int x0), .val (.int x1), .val (.int x2), .val (.int x3), .val (.int x4), .val (.int x5), .unset, .unset, .unset, .unset, .unset, .unset, .unset, .unset, .unset, .unset] [(.ref b0)])) (fun t k => st2.trans k) ?_
  refine Runs.via (T' := T2) (g' := (mkF m 13 #[.val (.int x0), .val (.int x1), .val (.int x2), .val (.int x3), .val (.int x4), .val (.int x5), .val (.ref b0), .unset, .unset, .unset, .unset, .unset, .unset, .unset, .unset, .unset] [(.int x1), (.ref b0)])) (fun t k => ?_) ?_
  · show Steps p.tables e below (T2.setTop (mkF m 8 #[.val (.int x0), .val (.int x1), .val (.int x2), .val (.int x3), .val (.int x4), .val (.int x5), .unset, .unset, .unset, .unset, .unset, .unset, .unset, .unset, .unset, .unset] [(.ref b0)])) t
    refine XS.astore X2.here hx rfl (hb hby at_8) rfl rfl (l' := #[.val (.int x0), .val (.int x1), .val (.int x2), .val (.int x3), .val (.int x4), .val (.int x5), .val (.ref b0), .unset, .unset, .unset, .unset, .unset, .unset, .unset, .unset, .unset]) rfl ?_
    show Steps p.tables e below (T2.setTop (mkF m 10 #[.val (.int x0), .val (.int x1), .val (.int x2), .val (.int x3), .val (.int x4), .val (.int x5), .val (.ref b0), .unset, .unset, .unset, .unset, .unset, .unset, .unset, .unset, .unset] [])) t
    refine XS.aload X2.here hx rfl (hb hby at_10) rfl rfl ?_
    show Steps p.tables e below (T2.setTop (mkF m 12 #[.val (.int x0), .val (.int x1), .val (.int x2), .val (.int x3), .val (.int x4), .val (.int x5), .val (.ref b0), .unset, .unset, .unset, .unset, .unset, .unset, .unset, .unset, .unset] [(.ref b0)])) t
    refine XS.iloadN X2.here hx rfl (hb hby at_12) rfl ?_
    exact k
  refine bindE hr ?_; intro r3 hr3m hr
  obtain ⟨cq3, kq3, q3a, q3b, q3c⟩ := isOf hZ e2 E_b0_2
  obtain ⟨_, _, ⟨T3, L3, k3, n3⟩, -, X3, ⟨Lc3, hQ3, l3, y3, z3⟩, st3⟩ := X2.virtualBack hx (y := (⟨"com/example/mopor/mopor/reduction/VectorTree", "root", "(I)I"⟩ : MethodName)) (z := (⟨"com/example/mopor/mopor/reduction/VectorTree", "root", "(I)I"⟩ : MethodName)) hown (mvT hZ (hw _ (List.mem_of_getElem? (i := 42) rfl))) (mvT hZ (hw _ (List.mem_of_getElem? (i := 43) rfl))) (notFace_of_selects (args := #[]) (mvT hZ (hw _ (List.mem_of_getElem? (i := 45) rfl)))) (mvT hZ (hw _ (List.mem_of_getElem? (i := 45) rfl))) (mvT hZ (hw _ (List.mem_of_getElem? (i := 44) rfl))) (by decide) (backOf (W := 0) (rm6 l Z a0 hw [] x1 b0 b5_0 b5_1 b5_2 b5_3 b5_4 b5_5 b5_6 r2.1 (0 : Int32) r2.2.1 r2.2.2.1 r2.2.2.2.1 r2.2.2.2.2.1 r2.2.2.2.2.2.1 r2.2.2.2.2.2.2.1 r2.2.2.2.2.2.2.2 h2 n0 zz2 (by omega) (by omega) (by omega) (by omega) (by omega) (by omega) (by omega) (by omega) E_b0_2 F_b0_nodes_2 F_b0_parent_2 F_b0_last_2 F_b0_marking_2 F_b0_depth_2 F_b0_transitionCount_2 F_b0_size_2 E_b5_0_2 F_b5_0_keys_2 F_b5_0_values_2 F_b5_0_size_2 A_b5_1_2 A_b5_2_2 A_b5_3_2 A_b5_4_2 A_b5_5_2 A_b5_6_2 fuel r3 hr3m) hZ (hw _ (List.mem_of_getElem? (i := 46) rfl)) (hw _ (List.mem_of_getElem? (i := 2) rfl)) (by decide) (by decide)) q3a q3c (g := (mkF m 13 #[.val (.int x0), .val (.int x1), .val (.int x2), .val (.int x3), .val (.int x4), .val (.int x5), .val (.ref b0), .unset, .unset, .unset, .unset, .unset, .unset, .unset, .unset, .unset] [(.int x1), (.ref b0)])) rfl (by rw [hml]; rfl) (Steps.refl _) (argsL := [(.int x1)]) (rest := []) (lenOf pd_8 rfl) rfl (by show 2 * 0 + _ ≤ _; exact Nat.le_of_eq rfl) (hb hby at_13) (fun _ _ => ⟨rfl, e2, (by show ((cells + 1) + 7) + 0 ≤ 24; omega), (by show ((slots + 7) + 4131) + 0 ≤ 8384; omega)⟩)
  dsimp only [Pt.U, Pt.locs, Pt.cells, Pt.slots] at X3 l3 y3 z3 st3 hQ3
  replace y3 := y3.symm; replace z3 := z3.symm; subst l3 y3 z3
  obtain ⟨h3, e3⟩ : ∃ z, T3.heap = z := ⟨_, rfl⟩
  rw [e3] at hQ3
  obtain ⟨rfl, N3q, K3q, E_b0_3, F_b0_nodes_3, F_b0_parent_3, F_b0_last_3, F_b0_marking_3, F_b0_depth_3, F_b0_transitionCount_3, F_b0_size_3, E_b5_0_3, F_b5_0_keys_3, F_b5_0_values_3, F_b5_0_size_3, A_b5_1_3, A_b5_2_3, A_b5_3_3, A_b5_4_3, A_b5_5_3, A_b5_6_3⟩ := hQ3
  have N3 := Fr.app N2 N3q
  have zz3 : n0 ≤ h3.size := Nat.le_trans zz2 K3q.1
  refine Runs.via (T' := T3) (g' := (mkF m 16 #[.val (.int x0), .val (.int x1), .val (.int x2), .val (.int x3), .val (.int x4), .val (.int x5), .val (.ref b0), .unset, .unset, .unset, .unset, .unset, .unset, .unset, .unset, .unset] [(.int r3.1)])) (fun t k => st3.trans k) ?_
  refine Runs.via (T' := T3) (g' := (mkF m 21 #[.val (.int x0), .val (.int x1), .val (.int x2), .val (.int x3), .val (.int x4), .val (.int x5), .val (.ref b0), .val (.int r3.1), .unset, .unset, .unset, .unset, .unset, .unset, .unset, .unset] [(.int x2), (.ref b0)])) (fun t k => ?_) ?_
  · show Steps p.tables e below (T3.setTop (mkF m 16 #[.val (.int x0), .val (.int x1), .val (.int x2), .val (.int x3), .val (.int x4), .val (.int x5), .val (.ref b0), .unset, .unset, .unset, .unset, .unset, .unset, .unset, .unset, .unset] [(.int r3.1)])) t
    refine XS.istore X3.here hx rfl (hb hby at_16) rfl (l' := #[.val (.int x0), .val (.int x1), .val (.int x2), .val (.int x3), .val (.int x4), .val (.int x5), .val (.ref b0), .val (.int r3.1), .unset, .unset, .unset, .unset, .unset, .unset, .unset, .unset]) rfl ?_
    show Steps p.tables e below (T3.setTop (mkF m 18 #[.val (.int x0), .val (.int x1), .val (.int x2), .val (.int x3), .val (.int x4), .val (.int x5), .val (.ref b0), .val (.int r3.1), .unset, .unset, .unset, .unset, .unset, .unset, .unset, .unset] [])) t
    refine XS.aload X3.here hx rfl (hb hby at_18) rfl rfl ?_
    show Steps p.tables e below (T3.setTop (mkF m 20 #[.val (.int x0), .val (.int x1), .val (.int x2), .val (.int x3), .val (.int x4), .val (.int x5), .val (.ref b0), .val (.int r3.1), .unset, .unset, .unset, .unset, .unset, .unset, .unset, .unset] [(.ref b0)])) t
    refine XS.iloadN X3.here hx rfl (hb hby at_20) rfl ?_
    exact k
  refine bindE hr ?_; intro r4 hr4m hr
  obtain ⟨cq4, kq4, q4a, q4b, q4c⟩ := isOf hZ e3 E_b0_3
  obtain ⟨_, _, ⟨T4, L4, k4, n4⟩, -, X4, ⟨Lc4, hQ4, l4, y4, z4⟩, st4⟩ := X3.virtualBack hx (y := (⟨"com/example/mopor/mopor/reduction/VectorTree", "root", "(I)I"⟩ : MethodName)) (z := (⟨"com/example/mopor/mopor/reduction/VectorTree", "root", "(I)I"⟩ : MethodName)) hown (mvT hZ (hw _ (List.mem_of_getElem? (i := 42) rfl))) (mvT hZ (hw _ (List.mem_of_getElem? (i := 43) rfl))) (notFace_of_selects (args := #[]) (mvT hZ (hw _ (List.mem_of_getElem? (i := 45) rfl)))) (mvT hZ (hw _ (List.mem_of_getElem? (i := 45) rfl))) (mvT hZ (hw _ (List.mem_of_getElem? (i := 44) rfl))) (by decide) (backOf (W := 0) (rm6 l Z a0 hw [] x2 b0 b5_0 b5_1 b5_2 b5_3 b5_4 b5_5 b5_6 r2.1 r3.2.1 r3.2.2.1 r3.2.2.2.1 r3.2.2.2.2.1 r3.2.2.2.2.2.1 r3.2.2.2.2.2.2.1 r3.2.2.2.2.2.2.2.1 r3.2.2.2.2.2.2.2.2 h3 n0 zz3 (by omega) (by omega) (by omega) (by omega) (by omega) (by omega) (by omega) (by omega) E_b0_3 F_b0_nodes_3 F_b0_parent_3 F_b0_last_3 F_b0_marking_3 F_b0_depth_3 F_b0_transitionCount_3 F_b0_size_3 E_b5_0_3 F_b5_0_keys_3 F_b5_0_values_3 F_b5_0_size_3 A_b5_1_3 A_b5_2_3 A_b5_3_3 A_b5_4_3 A_b5_5_3 A_b5_6_3 fuel r4 hr4m) hZ (hw _ (List.mem_of_getElem? (i := 46) rfl)) (hw _ (List.mem_of_getElem? (i := 2) rfl)) (by decide) (by decide)) q4a q4c (g := (mkF m 21 #[.val (.int x0), .val (.int x1), .val (.int x2), .val (.int x3), .val (.int x4), .val (.int x5), .val (.ref b0), .val (.int r3.1), .unset, .unset, .unset, .unset, .unset, .unset, .unset, .unset] [(.int x2), (.ref b0)])) rfl (by rw [hml]; rfl) (Steps.refl _) (argsL := [(.int x2)]) (rest := []) (lenOf pd_8 rfl) rfl (by show 2 * 0 + _ ≤ _; exact Nat.le_of_eq rfl) (hb hby at_21) (fun _ _ => ⟨rfl, e3, (by show (((cells + 1) + 7) + 0) + 0 ≤ 24; omega), (by show (((slots + 7) + 4131) + 0) + 0 ≤ 8384; omega)⟩)
  dsimp only [Pt.U, Pt.locs, Pt.cells, Pt.slots] at X4 l4 y4 z4 st4 hQ4
  replace y4 := y4.symm; replace z4 := z4.symm; subst l4 y4 z4
  obtain ⟨h4, e4⟩ : ∃ z, T4.heap = z := ⟨_, rfl⟩
  rw [e4] at hQ4
  obtain ⟨rfl, N4q, K4q, E_b0_4, F_b0_nodes_4, F_b0_parent_4, F_b0_last_4, F_b0_marking_4, F_b0_depth_4, F_b0_transitionCount_4, F_b0_size_4, E_b5_0_4, F_b5_0_keys_4, F_b5_0_values_4, F_b5_0_size_4, A_b5_1_4, A_b5_2_4, A_b5_3_4, A_b5_4_4, A_b5_5_4, A_b5_6_4⟩ := hQ4
  have N4 := Fr.app N3 N4q
  have zz4 : n0 ≤ h4.size := Nat.le_trans zz3 K4q.1
  refine Runs.via (T' := T4) (g' := (mkF m 24 #[.val (.int x0), .val (.int x1), .val (.int x2), .val (.int x3), .val (.int x4), .val (.int x5), .val (.ref b0), .val (.int r3.1), .unset, .unset, .unset, .unset, .unset, .unset, .unset, .unset] [(.int r4.1)])) (fun t k => st4.trans k) ?_
  refine Runs.via (T' := T4) (g' := (mkF m 33 #[.val (.int x0), .val (.int x1), .val (.int x2), .val (.int x3), .val (.int x4), .val (.int x5), .val (.ref b0), .val (.int r3.1), .val (.int r4.1), .unset, .unset, .unset, .unset, .unset, .unset, .unset] [(.int x4), (.int x3), (.int r3.1), (.ref b0)])) (fun t k => ?_) ?_
  · show Steps p.tables e below (T4.setTop (mkF m 24 #[.val (.int x0), .val (.int x1), .val (.int x2), .val (.int x3), .val (.int x4), .val (.int x5), .val (.ref b0), .val (.int r3.1), .unset, .unset, .unset, .unset, .unset, .unset, .unset, .unset] [(.int r4.1)])) t
    refine XS.istore X4.here hx rfl (hb hby at_24) rfl (l' := #[.val (.int x0), .val (.int x1), .val (.int x2), .val (.int x3), .val (.int x4), .val (.int x5), .val (.ref b0), .val (.int r3.1), .val (.int r4.1), .unset, .unset, .unset, .unset, .unset, .unset, .unset]) rfl ?_
    show Steps p.tables e below (T4.setTop (mkF m 26 #[.val (.int x0), .val (.int x1), .val (.int x2), .val (.int x3), .val (.int x4), .val (.int x5), .val (.ref b0), .val (.int r3.1), .val (.int r4.1), .unset, .unset, .unset, .unset, .unset, .unset, .unset] [])) t
    refine XS.aload X4.here hx rfl (hb hby at_26) rfl rfl ?_
    show Steps p.tables e below (T4.setTop (mkF m 28 #[.val (.int x0), .val (.int x1), .val (.int x2), .val (.int x3), .val (.int x4), .val (.int x5), .val (.ref b0), .val (.int r3.1), .val (.int r4.1), .unset, .unset, .unset, .unset, .unset, .unset, .unset] [(.ref b0)])) t
    refine XS.iload X4.here hx rfl (hb hby at_28) rfl ?_
    show Steps p.tables e below (T4.setTop (mkF m 30 #[.val (.int x0), .val (.int x1), .val (.int x2), .val (.int x3), .val (.int x4), .val (.int x5), .val (.ref b0), .val (.int r3.1), .val (.int r4.1), .unset, .unset, .unset, .unset, .unset, .unset, .unset] [(.int r3.1), (.ref b0)])) t
    refine XS.iloadN X4.here hx rfl (hb hby at_30) rfl ?_
    show Steps p.tables e below (T4.setTop (mkF m 31 #[.val (.int x0), .val (.int x1), .val (.int x2), .val (.int x3), .val (.int x4), .val (.int x5), .val (.ref b0), .val (.int r3.1), .val (.int r4.1), .unset, .unset, .unset, .unset, .unset, .unset, .unset] [(.int x3), (.int r3.1), (.ref b0)])) t
    refine XS.iload X4.here hx rfl (hb hby at_31) rfl ?_
    exact k
  refine bindE hr ?_; intro r5 hr5m hr
  obtain ⟨cq5, kq5, q5a, q5b, q5c⟩ := isOf hZ e4 E_b0_4
  obtain ⟨_, _, ⟨T5, L5, k5, n5⟩, -, X5, ⟨Lc5, hQ5, l5, y5, z5⟩, st5⟩ := X4.virtualBack hx (y := (⟨"com/example/mopor/mopor/reduction/VectorTree", "addChild", "(III)I"⟩ : MethodName)) (z := (⟨"com/example/mopor/mopor/reduction/VectorTree", "addChild", "(III)I"⟩ : MethodName)) hown (mvT hZ (hw _ (List.mem_of_getElem? (i := 70) rfl))) (mvT hZ (hw _ (List.mem_of_getElem? (i := 71) rfl))) (notFace_of_selects (args := #[]) (mvT hZ (hw _ (List.mem_of_getElem? (i := 73) rfl)))) (mvT hZ (hw _ (List.mem_of_getElem? (i := 73) rfl))) (mvT hZ (hw _ (List.mem_of_getElem? (i := 72) rfl))) (by decide) (backOf (W := 0) (rm11 l Z a0 hw [] r3.1 x3 x4 b0 b5_0 b5_1 b5_2 b5_3 b5_4 b5_5 b5_6 r2.1 r4.2.1 r4.2.2.1 r4.2.2.2.1 r4.2.2.2.2.1 r4.2.2.2.2.2.1 r4.2.2.2.2.2.2.1 r4.2.2.2.2.2.2.2.1 r4.2.2.2.2.2.2.2.2 h4 n0 zz4 (by omega) (by omega) (by omega) (by omega) (by omega) (by omega) (by omega) (by omega) E_b0_4 F_b0_nodes_4 F_b0_parent_4 F_b0_last_4 F_b0_marking_4 F_b0_depth_4 F_b0_transitionCount_4 F_b0_size_4 E_b5_0_4 F_b5_0_keys_4 F_b5_0_values_4 F_b5_0_size_4 A_b5_1_4 A_b5_2_4 A_b5_3_4 A_b5_4_4 A_b5_5_4 A_b5_6_4 fuel r5 hr5m) hZ (hw _ (List.mem_of_getElem? (i := 74) rfl)) (hw _ (List.mem_of_getElem? (i := 2) rfl)) (by decide) (by decide)) q5a q5c (g := (mkF m 33 #[.val (.int x0), .val (.int x1), .val (.int x2), .val (.int x3), .val (.int x4), .val (.int x5), .val (.ref b0), .val (.int r3.1), .val (.int r4.1), .unset, .unset, .unset, .unset, .unset, .unset, .unset] [(.int x4), (.int x3), (.int r3.1), (.ref b0)])) rfl (by rw [hml]; rfl) (Steps.refl _) (argsL := [(.int r3.1), (.int x3), (.int x4)]) (rest := []) (lenOf pd_10 rfl) rfl (by show 2 * 0 + _ ≤ _; exact Nat.le_of_eq rfl) (hb hby at_33) (fun _ _ => ⟨rfl, e4, (by show ((((cells + 1) + 7) + 0) + 0) + 0 ≤ 24; omega), (by show ((((slots + 7) + 4131) + 0) + 0) + 0 ≤ 8384; omega)⟩)
  dsimp only [Pt.U, Pt.locs, Pt.cells, Pt.slots] at X5 l5 y5 z5 st5 hQ5
  replace y5 := y5.symm; replace z5 := z5.symm; subst l5 y5 z5
  obtain ⟨h5, e5⟩ : ∃ z, T5.heap = z := ⟨_, rfl⟩
  rw [e5] at hQ5
  obtain ⟨rfl, N5q, K5q, E_b0_5, F_b0_nodes_5, F_b0_parent_5, F_b0_last_5, F_b0_marking_5, F_b0_depth_5, F_b0_transitionCount_5, F_b0_size_5, E_b5_0_5, F_b5_0_keys_5, F_b5_0_values_5, F_b5_0_size_5, A_b5_1_5, A_b5_2_5, A_b5_3_5, A_b5_4_5, A_b5_5_5, A_b5_6_5⟩ := hQ5
  have N5 := Fr.app N4 N5q
  have zz5 : n0 ≤ h5.size := Nat.le_trans zz4 K5q.1
  refine Runs.via (T' := T5) (g' := (mkF m 36 #[.val (.int x0), .val (.int x1), .val (.int x2), .val (.int x3), .val (.int x4), .val (.int x5), .val (.ref b0), .val (.int r3.1), .val (.int r4.1), .unset, .unset, .unset, .unset, .unset, .unset, .unset] [(.int r5.1)])) (fun t k => st5.trans k) ?_
  refine Runs.via (T' := T5) (g' := (mkF m 42 #[.val (.int x0), .val (.int x1), .val (.int x2), .val (.int x3), .val (.int x4), .val (.int x5), .val (.ref b0), .val (.int r3.1), .val (.int r4.1), .val (.int r5.1), .unset, .unset, .unset, .unset, .unset, .unset] [(.int (x5 &&& (1 : Int32)))])) (fun t k => ?_) ?_
  · show Steps p.tables e below (T5.setTop (mkF m 36 #[.val (.int x0), .val (.int x1), .val (.int x2), .val (.int x3), .val (.int x4), .val (.int x5), .val (.ref b0), .val (.int r3.1), .val (.int r4.1), .unset, .unset, .unset, .unset, .unset, .unset, .unset] [(.int r5.1)])) t
    refine XS.istore X5.here hx rfl (hb hby at_36) rfl (l' := #[.val (.int x0), .val (.int x1), .val (.int x2), .val (.int x3), .val (.int x4), .val (.int x5), .val (.ref b0), .val (.int r3.1), .val (.int r4.1), .val (.int r5.1), .unset, .unset, .unset, .unset, .unset, .unset]) rfl ?_
    show Steps p.tables e below (T5.setTop (mkF m 38 #[.val (.int x0), .val (.int x1), .val (.int x2), .val (.int x3), .val (.int x4), .val (.int x5), .val (.ref b0), .val (.int r3.1), .val (.int r4.1), .val (.int r5.1), .unset, .unset, .unset, .unset, .unset, .unset] [])) t
    refine XS.iload X5.here hx rfl (hb hby at_38) rfl ?_
    show Steps p.tables e below (T5.setTop (mkF m 40 #[.val (.int x0), .val (.int x1), .val (.int x2), .val (.int x3), .val (.int x4), .val (.int x5), .val (.ref b0), .val (.int r3.1), .val (.int r4.1), .val (.int r5.1), .unset, .unset, .unset, .unset, .unset, .unset] [(.int x5)])) t
    refine XS.iconst X5.here hx rfl (hb hby at_40) ?_
    show Steps p.tables e below (T5.setTop (mkF m 41 #[.val (.int x0), .val (.int x1), .val (.int x2), .val (.int x3), .val (.int x4), .val (.int x5), .val (.ref b0), .val (.int r3.1), .val (.int r4.1), .val (.int r5.1), .unset, .unset, .unset, .unset, .unset, .unset] [(.int (1 : Int32)), (.int x5)])) t
    refine XS.iand X5.here hx rfl (hb hby at_41) rfl ?_
    exact k
  refine iteE hr (fun hc6 hr => ?_) (fun hc6 hr => ?_)
  · refine Runs.via (T' := T5) (g' := (mkF m 49 #[.val (.int x0), .val (.int x1), .val (.int x2), .val (.int x3), .val (.int x4), .val (.int x5), .val (.ref b0), .val (.int r3.1), .val (.int r4.1), .val (.int r5.1), .unset, .unset, .unset, .unset, .unset, .unset] [])) (fun t k => ?_) ?_
    · show Steps p.tables e below (T5.setTop (mkF m 42 #[.val (.int x0), .val (.int x1), .val (.int x2), .val (.int x3), .val (.int x4), .val (.int x5), .val (.ref b0), .val (.int r3.1), .val (.int r4.1), .val (.int r5.1), .unset, .unset, .unset, .unset, .unset, .unset] [(.int (x5 &&& (1 : Int32)))])) t
      exact XS.ifYes X5.here hx rfl (pc0 := 42) (pc' := 49) rfl (hb hby at_42) rfl ((if0 _ _).trans (teq hc6).1) (by decide) (by decide) k
    refine Runs.via (T' := T5) (g' := (mkF m 50 #[.val (.int x0), .val (.int x1), .val (.int x2), .val (.int x3), .val (.int x4), .val (.int x5), .val (.ref b0), .val (.int r3.1), .val (.int r4.1), .val (.int r5.1), .unset, .unset, .unset, .unset, .unset, .unset] [(.int (0 : Int32))])) (fun t k => ?_) ?_
    · show Steps p.tables e below (T5.setTop (mkF m 49 #[.val (.int x0), .val (.int x1), .val (.int x2), .val (.int x3), .val (.int x4), .val (.int x5), .val (.ref b0), .val (.int r3.1), .val (.int r4.1), .val (.int r5.1), .unset, .unset, .unset, .unset, .unset, .unset] [])) t
      refine XS.iconst X5.here hx rfl (hb hby at_49) ?_
      exact k
    exact b0_50 C fuel X5 e5 N5 (by show (((((cells + 1) + 7) + 0) + 0) + 0) ≤ 8; omega) (by show (((((slots + 7) + 4131) + 0) + 0) + 0) ≤ 4138; omega) zz5 b0 b5_0 b5_1 b5_2 b5_3 b5_4 b5_5 b5_6 (by omega) (by omega) (by omega) (by omega) (by omega) (by omega) (by omega) (by omega) r2.1 r5.2.1 r5.2.2.1 r5.2.2.2.1 r5.2.2.2.2.1 r5.2.2.2.2.2.1 r5.2.2.2.2.2.2.1 r5.2.2.2.2.2.2.2.1 r5.2.2.2.2.2.2.2.2 x0 x1 x2 x3 x4 x5 r3.1 r4.1 r5.1 (0 : Int32) E_b0_5 F_b0_nodes_5 F_b0_parent_5 F_b0_last_5 F_b0_marking_5 F_b0_depth_5 F_b0_transitionCount_5 F_b0_size_5 E_b5_0_5 F_b5_0_keys_5 F_b5_0_values_5 F_b5_0_size_5 A_b5_1_5 A_b5_2_5 A_b5_3_5 A_b5_4_5 A_b5_5_5 A_b5_6_5 hr
  · refine Runs.via (T' := T5) (g' := (mkF m 45 #[.val (.int x0), .val (.int x1), .val (.int x2), .val (.int x3), .val (.int x4), .val (.int x5), .val (.ref b0), .val (.int r3.1), .val (.int r4.1), .val (.int r5.1), .unset, .unset, .unset, .unset, .unset, .unset] [])) (fun t k => ?_) ?_
    · show Steps p.tables e below (T5.setTop (mkF m 42 #[.val (.int x0), .val (.int x1), .val (.int x2), .val (.int x3), .val (.int x4), .val (.int x5), .val (.ref b0), .val (.int r3.1), .val (.int r4.1), .val (.int r5.1), .unset, .unset, .unset, .unset, .unset, .unset] [(.int (x5 &&& (1 : Int32)))])) t
      exact XS.ifNo X5.here hx rfl (hb hby at_42) rfl ((if0 _ _).trans (feq hc6).1) k
    refine Runs.via (T' := T5) (g' := (mkF m 50 #[.val (.int x0), .val (.int x1), .val (.int x2), .val (.int x3), .val (.int x4), .val (.int x5), .val (.ref b0), .val (.int r3.1), .val (.int r4.1), .val (.int r5.1), .unset, .unset, .unset, .unset, .unset, .unset] [(.int (1 : Int32))])) (fun t k => ?_) ?_
    · show Steps p.tables e below (T5.setTop (mkF m 45 #[.val (.int x0), .val (.int x1), .val (.int x2), .val (.int x3), .val (.int x4), .val (.int x5), .val (.ref b0), .val (.int r3.1), .val (.int r4.1), .val (.int r5.1), .unset, .unset, .unset, .unset, .unset, .unset] [])) t
      refine XS.iconst X5.here hx rfl (hb hby at_45) ?_
      show Steps p.tables e below (T5.setTop (mkF m 46 #[.val (.int x0), .val (.int x1), .val (.int x2), .val (.int x3), .val (.int x4), .val (.int x5), .val (.ref b0), .val (.int r3.1), .val (.int r4.1), .val (.int r5.1), .unset, .unset, .unset, .unset, .unset, .unset] [(.int (1 : Int32))])) t
      refine XS.goto X5.here hx rfl (pc0 := 46) (pc' := 50) rfl (hb hby at_46) (by decide) (by decide) ?_
      exact k
    exact b0_50 C fuel X5 e5 N5 (by show (((((cells + 1) + 7) + 0) + 0) + 0) ≤ 8; omega) (by show (((((slots + 7) + 4131) + 0) + 0) + 0) ≤ 4138; omega) zz5 b0 b5_0 b5_1 b5_2 b5_3 b5_4 b5_5 b5_6 (by omega) (by omega) (by omega) (by omega) (by omega) (by omega) (by omega) (by omega) r2.1 r5.2.1 r5.2.2.1 r5.2.2.2.1 r5.2.2.2.2.1 r5.2.2.2.2.2.1 r5.2.2.2.2.2.2.1 r5.2.2.2.2.2.2.2.1 r5.2.2.2.2.2.2.2.2 x0 x1 x2 x3 x4 x5 r3.1 r4.1 r5.1 (1 : Int32) E_b0_5 F_b0_nodes_5 F_b0_parent_5 F_b0_last_5 F_b0_marking_5 F_b0_depth_5 F_b0_transitionCount_5 F_b0_size_5 E_b5_0_5 F_b5_0_keys_5 F_b5_0_values_5 F_b5_0_size_5 A_b5_1_5 A_b5_2_5 A_b5_3_5 A_b5_4_5 A_b5_5_5 A_b5_6_5 hr
def f0 (fuel : Nat) (x0 : Int32) (x1 : Int32) (x2 : Int32) (x3 : Int32) (x4 : Int32) (x5 : Int32) : Option (Int32) := g0_0 fuel x0 x1 x2 x3 x4 x5
theorem pn_0 : plainName "com/example/mopor/mopor/reduction/VectorTreeStartPinLaw" = true := by first | (simp [plainName, overriddenIn]; done) | decide +kernel
theorem ef_0 (m : MethodId) (x0 : Int32) (x1 : Int32) (x2 : Int32) (x3 : Int32) (x4 : Int32) (x5 : Int32) : entryFrame m #[(.int x0), (.int x1), (.int x2), (.int x3), (.int x4), (.int x5)] maxLocals = mkF m 0 #[.val (.int x0), .val (.int x1), .val (.int x2), .val (.int x3), .val (.int x4), .val (.int x5), .unset, .unset, .unset, .unset, .unset, .unset, .unset, .unset, .unset, .unset] [] := by first | (simp [entryFrame, mkF, argsToLocals, Value.category, maxLocals]; done) | rfl
set_option maxRecDepth 65536 in
set_option maxHeartbeats 4000000 in
theorem rm0 (l : Launch) (Z : State) (a0 : Array Value) (hw : ∀ d ∈ tables_1, d.before a0 Z = true) (ws : List Jvm.Cond) (x0 : Int32) (x1 : Int32) (x2 : Int32) (x3 : Int32) (x4 : Int32) (x5 : Int32) (hE : Heap) (n0 : Nat) (Z0 : n0 ≤ hE.size) (fuel : Nat) (r : Int32) (hr : f0 fuel x0 x1 x2 x3 x4 x5 = some r) :
    MetFree l x (head1 (Jvm.Cond.code x code maxLocals ret :: ws) room_1) (fun a U => a = #[(.int x0), (.int x1), (.int x2), (.int x3), (.int x4), (.int x5)] ∧ Z.Warmed39 U.vm ∧ U.heap = hE) (fun _ _ _ _ _ => True) (fun _ U o U' => ∃ v L, o = .returned v ∧ (P0 n0 r v U'.heap L) ∧ FrameEnd U o U' L 8 4138) := by
  refine MetFree.of_bodySF (plainFor_of_name pn_0) hisR ?_
  intro p e s m args below meth c s₁ Bd hml0 hP hK
  obtain ⟨rfl, hZ, hh⟩ := hP
  have X0 : Stand p l e room_1 s m #[(.int x0), (.int x1), (.int x2), (.int x3), (.int x4), (.int x5)] below meth c s₁ [] 0 0 := Stand.of_body Bd
  have e0 : s₁.heap = hE := by rw [← hh, Bd.state]; rfl
  have C : Ctx p s m meth c Z a0 "com/example/mopor/mopor/reduction/VectorTreeStartPinLaw" code 16 (some .boolean) "law" := ⟨Bd.exec, hZ, hw, Bd.bytes, hml0, findClass_of_methodNamed Bd.named, Bd.returns, BodyLoose.notSynchronized Bd, (name_of_methodNamed Bd.named Bd.method).1⟩
  refine Runs.via (fun t k => castTop (ef_0 m x0 x1 x2 x3 x4 x5) k) (b0_0 C fuel X0 e0 (Fr.nil n0) (by show 0 ≤ 0; omega) (by show 0 ≤ 0; omega) Z0 x0 x1 x2 x3 x4 x5 hr)
end Own
theorem bindS {α β : Type} {x : Option α} {k : α → Option β} {r : Option β} {v : α} (h : x = some v) (H : k v = r) : x.bind k = r := by rw [h]; exact H
theorem letS {α β : Type} {x : α} {k : α → β} {r : β} (H : k x = r) : letO x k = r := H
abbrev own_E : Int64 := (-9223372036854775808 : Int64)
/-- the probe, on naturals -/
def own_P : Nat → Int64 → Nat → List Int64 → Option Nat
  | 0, _, _, _ => none
  | n + 1, y, i, ks => match ks[i]? with
    | none => none
    | some v => if v = own_E then some i else if v = y then some i else own_P n y ((i + 1) % 16) ks
theorem own_ofNat {i : Nat} (h : i < 16) : (Int32.ofNat i).toInt = i ∧ (Int32.ofNat i).toNatClampNeg = i ∧ ¬ (Int32.ofNat i) < 0 := by
  have : ∀ j : Fin 16, (Int32.ofNat j.val).toInt = (j.val : Int) ∧ (Int32.ofNat j.val).toNatClampNeg = j.val ∧ ¬ (Int32.ofNat j.val) < 0 := by decide +kernel
  exact this ⟨i, h⟩
theorem own_next {i : Nat} (h : i < 16) : ((Int32.ofNat i) + (1 : Int32)) &&& (15 : Int32) = Int32.ofNat ((i + 1) % 16) := by
  have : ∀ j : Fin 16, ((Int32.ofNat j.val) + (1 : Int32)) &&& (15 : Int32) = Int32.ofNat ((j.val + 1) % 16) := by decide +kernel
  exact this ⟨i, h⟩
theorem own_rd {α : Type} (xs : List α) {i : Nat} (h : i < 16) : rdO xs (Int32.ofNat i) = xs[i]? := by
  obtain ⟨-, h2, h3⟩ := own_ofNat h
  unfold rdO
  rw [if_neg h3, h2]
theorem own_wr {α : Type} (xs : List α) (v : α) {i : Nat} (h : i < 16) (hl : xs.length = 16) : wrO xs (Int32.ofNat i) v = some (xs.set i v) := by
  obtain ⟨-, h2, h3⟩ := own_ofNat h
  unfold wrO
  rw [h2, if_neg]
  rintro (q | q)
  · exact h3 q
  · omega
theorem own_H (fuel : Nat) (ks : List Int64) (y : Int64) : ∀ n i, i < 16 → h8_29 fuel n y 15 (Int32.ofNat i) ks = (own_P n y i ks).map Int32.ofNat := by
  intro n
  induction n with
  | zero => intro i h; rfl
  | succ n ih =>
    intro i h
    show s8_29 (h8_29 fuel n) fuel y 15 (Int32.ofNat i) ks = _
    unfold s8_29
    rw [own_rd ks h]
    unfold own_P
    cases hk : ks[i]? with
    | none => rfl
    | some v =>
      simp only [Option.bind_some]
      by_cases h1 : v = own_E
      · rw [if_pos h1, if_pos h1]; rfl
      · rw [if_neg h1, if_neg h1]
        by_cases h2 : v = y
        · rw [if_pos h2, if_pos h2]; rfl
        · rw [if_neg h2, if_neg h2]
          unfold letO
          rw [own_next h]
          exact ih _ (Nat.mod_lt _ (by decide))
theorem own_P_ok (ks : List Int64) (hl : ks.length = 16) (y : Int64) {j : Nat} (hj : j < 16) (he : ks[j]? = some own_E) :
    ∀ n i, i < 16 → (j + 16 - i) % 16 < n → ∃ q, own_P n y i ks = some q ∧ q < 16 ∧ (ks[q]? = some own_E ∨ ks[q]? = some y) := by
  intro n
  induction n with
  | zero => intro i _ h; exact absurd h (Nat.not_lt_zero _)
  | succ n ih =>
    intro i hi h
    unfold own_P
    have hk : ks[i]? = some (ks[i]'(by omega)) := List.getElem?_eq_getElem _
    rw [hk]
    show ∃ q, (if ks[i]'(by omega) = own_E then some i else if ks[i]'(by omega) = y then some i else own_P n y ((i + 1) % 16) ks) = some q ∧ _
    by_cases h1 : ks[i]'(by omega) = own_E
    · rw [if_pos h1]; exact ⟨i, rfl, hi, Or.inl (by rw [hk, h1])⟩
    · rw [if_neg h1]
      by_cases h2 : ks[i]'(by omega) = y
      · rw [if_pos h2]; exact ⟨i, rfl, hi, Or.inr (by rw [hk, h2])⟩
      · rw [if_neg h2]
        have hne : i ≠ j := fun q => by
          subst q
          rw [hk] at he
          exact h1 (Option.some.inj he)
        exact ih _ (Nat.mod_lt _ (by decide)) (by omega)
theorem own_P_new (y : Int64) (hy : y ≠ own_E) : ∀ n i (ks : List Int64) r, own_P n y i ks = some r → ks[r]? = some own_E → own_P n y i (ks.set r y) = some r := by
  intro n
  induction n with
  | zero => intro i ks r h; exact nomatch h
  | succ n ih =>
    intro i ks r h hr
    unfold own_P at h ⊢
    cases hk : ks[i]? with
    | none => rw [hk] at h; exact nomatch h
    | some v =>
      rw [hk] at h
      replace h : (if v = own_E then some i else if v = y then some i else own_P n y ((i + 1) % 16) ks) = some r := h
      have hil : i < ks.length := (List.getElem?_eq_some_iff.mp hk).1
      by_cases h1 : v = own_E
      · rw [if_pos h1] at h
        obtain rfl := Option.some.inj h
        rw [List.getElem?_set_self hil]
        show (if y = own_E then some i else if y = y then some i else _) = some i
        rw [if_neg hy, if_pos rfl]
      · rw [if_neg h1] at h
        by_cases h2 : v = y
        · rw [if_pos h2] at h
          obtain rfl := Option.some.inj h
          rw [hk] at hr
          exact absurd (Option.some.inj hr) h1
        · rw [if_neg h2] at h
          have hne : r ≠ i := fun q => by
            subst q
            rw [hk] at hr
            exact h1 (Option.some.inj hr)
          rw [List.getElem?_set_ne hne, hk]
          show (if v = own_E then some i else if v = y then some i else own_P n y ((i + 1) % 16) (ks.set r y)) = some r
          rw [if_neg h1, if_neg h2]
          exact ih _ _ _ h hr
theorem own_P_old (y z : Int64) (hz : z ≠ own_E) : ∀ n i (ks : List Int64) q r, own_P n z i ks = some q → ks[q]? = some z → ks[r]? = some own_E → own_P n z i (ks.set r y) = some q := by
  intro n
  induction n with
  | zero => intro i ks q r h; exact nomatch h
  | succ n ih =>
    intro i ks q r h hq hr
    unfold own_P at h ⊢
    cases hk : ks[i]? with
    | none => rw [hk] at h; exact nomatch h
    | some v =>
      rw [hk] at h
      replace h : (if v = own_E then some i else if v = z then some i else own_P n z ((i + 1) % 16) ks) = some q := h
      by_cases h1 : v = own_E
      · rw [if_pos h1] at h
        obtain rfl := Option.some.inj h
        rw [hk] at hq
        exact absurd ((Option.some.inj hq).symm.trans h1) hz
      · have hne : r ≠ i := fun q => by
          subst q
          rw [hk] at hr
          exact h1 (Option.some.inj hr)
        rw [List.getElem?_set_ne hne, hk]
        rw [if_neg h1] at h
        show (if v = own_E then some i else if v = z then some i else own_P n z ((i + 1) % 16) (ks.set r y)) = some q
        rw [if_neg h1]
        by_cases h2 : v = z
        · rw [if_pos h2] at h ⊢; exact h
        · rw [if_neg h2] at h ⊢; exact ih _ _ _ _ h hq hr
/-- where the probe of a key starts -/
def own_st (y : Int64) : Int32 := (Int64.toInt32 ((y * (-7046029254386353131 : Int64)) ^^^ (((y * (-7046029254386353131 : Int64)).toUInt64 >>> ((29 : Int32) &&& 0x3f).toInt64.toUInt64).toInt64))) &&& (15 : Int32)
theorem own_st_lt (y : Int64) : (own_st y).toNatClampNeg < 16 ∧ Int32.ofNat (own_st y).toNatClampNeg = own_st y := by
  unfold own_st
  generalize (Int64.toInt32 ((y * (-7046029254386353131 : Int64)) ^^^ (((y * (-7046029254386353131 : Int64)).toUInt64 >>> ((29 : Int32) &&& 0x3f).toInt64.toUInt64).toInt64))) = u
  have h := c_mask u 15 4 (by decide) (by decide)
  have h1 : 0 ≤ (u &&& (15 : Int32)).toInt ∧ (u &&& (15 : Int32)).toInt < 16 := by rw [h]; exact ⟨Int.emod_nonneg _ (by decide), Int.emod_lt_of_pos _ (by decide)⟩
  generalize (u &&& (15 : Int32)) = w at h1
  have hw : w.toNatClampNeg < 16 := by show w.toInt.toNat < 16; omega
  refine ⟨hw, ?_⟩
  apply Int32.toInt_inj.mp
  rw [(own_ofNat hw).1]
  show (w.toInt.toNat : Int) = w.toInt
  omega
abbrev own_s (y : Int64) : Nat := (own_st y).toNatClampNeg
theorem own_slot (ks : List Int64) (hl : ks.length = 16) (y : Int64) {q : Nat} (h : own_P 17 y (own_s y) ks = some q) : f8 17 y ks = some (Int32.ofNat q) := by
  unfold f8 g8_0
  refine letS (letS (letS (letS ?_)))
  have e : lenO ks - (1 : Int32) = 15 := by unfold lenO; rw [hl]; decide
  rw [e]
  show g8_29 17 y 15 (own_st y) ks = _
  unfold g8_29
  rw [← (own_st_lt y).2, own_H 17 ks y 17 _ (own_st_lt y).1, h]
  rfl
/-- the table holds just what M says -/
def own_T (ks : List Int64) (vs : List Int32) (M : Int64 → Option Int32) : Prop :=
  ks.length = 16 ∧ vs.length = 16 ∧ (∀ z, z ≠ own_E → M z = none → ¬ z ∈ ks) ∧ (∀ z v, M z = some v → z ≠ own_E ∧ ∃ q, own_P 17 z (own_s z) ks = some q ∧ ks[q]? = some z ∧ vs[q]? = some v)
theorem own_found (ks : List Int64) (hl : ks.length = 16) (hc : 0 < ks.count own_E) (y : Int64) : ∃ q, own_P 17 y (own_s y) ks = some q ∧ q < 16 ∧ (ks[q]? = some own_E ∨ ks[q]? = some y) := by
  obtain ⟨j, hj⟩ := List.mem_iff_getElem?.mp (List.count_pos_iff.mp hc)
  have hj2 := (List.getElem?_eq_some_iff.mp hj).1
  exact own_P_ok ks hl y (by omega : j < 16) hj 17 _ (own_st_lt y).1 (by omega)
theorem own_get {ks : List Int64} {vs : List Int32} {M : Int64 → Option Int32} (T : own_T ks vs M) (hc : 0 < ks.count own_E) (y : Int64) (s : Int32) (hE : y = own_E → M y = none) : f7 17 y s ks vs = some ((M y).getD (-1)) := by
  obtain ⟨h1, h2, h3, h4⟩ := T
  unfold f7 g7_0
  cases hM : M y with
  | some v =>
    obtain ⟨hy, q, p1, p2, p3⟩ := h4 y v hM
    have hq : q < 16 := by have := (List.getElem?_eq_some_iff.mp p2).1; omega
    refine bindS (own_slot ks h1 y p1) ?_
    refine bindS (by rw [own_rd ks hq]; exact p2) ?_
    rw [if_neg hy]
    refine bindS (by rw [own_rd vs hq]; exact p3) ?_
    rfl
  | none =>
    obtain ⟨q, p1, hq, p2⟩ := own_found ks h1 hc y
    refine bindS (own_slot ks h1 y p1) ?_
    have p3 : ks[q]? = some own_E := by
      rcases p2 with p2 | p2
      · exact p2
      · by_cases hy : y = own_E
        · rw [hy] at p2; exact p2
        · exact absurd (List.mem_iff_getElem?.mpr ⟨q, p2⟩) (h3 y hy hM)
    refine bindS (by rw [own_rd ks hq]; exact p3) ?_
    rw [if_pos rfl]
    rfl
theorem own_add {ks : List Int64} {vs : List Int32} {M : Int64 → Option Int32} (T : own_T ks vs M) (y : Int64) (x s : Int32) (k : Nat) (hy : y ≠ own_E) (hk : s.toInt = k) (h8 : k < 8) (hc : 16 ≤ ks.count own_E + k) :
    ∃ r : Int32 × Int32 × List Int64 × List Int32, f10 17 y x s ks vs = some r ∧ own_T r.2.2.1 r.2.2.2 (fun z => if z = y ∧ M y = none then some x else M z) ∧ ∃ k' : Nat, r.2.1.toInt = k' ∧ k' ≤ k + 1 ∧ 16 ≤ r.2.2.1.count own_E + k' := by
  have T0 := T
  obtain ⟨h1, h2, h3, h4⟩ := T
  obtain ⟨q, p1, hq, p2⟩ := own_found ks h1 (by omega) y
  have sl := own_slot ks h1 y p1
  unfold f10 g10_0
  rw [if_neg hy]
  by_cases hM : M y = none
  · have p3 : ks[q]? = some own_E := by
      rcases p2 with p2 | p2
      · exact p2
      · exact absurd (List.mem_iff_getElem?.mpr ⟨q, p2⟩) (h3 y hy hM)
    have hql : q < ks.length := by omega
    have e1 : (s + (1 : Int32)).toInt = k + 1 := by
      have e := c_iadd s 1
      have r1 := rng32 (s + 1)
      have k1 : (1 : Int32).toInt = 1 := by decide
      omega
    have e2 : ¬ ((lenO (ks.set q y)) / (2 : Int32)) < (s + (1 : Int32)) := by
      have : (lenO (ks.set q y)) / (2 : Int32) = 8 := by unfold lenO; rw [List.length_set, h1]; decide
      rw [this, Int32.lt_iff_toInt_lt, e1]
      have : (8 : Int32).toInt = 8 := by decide
      omega
    refine ⟨(1, s + 1, ks.set q y, vs.set q x), ?_, ?_, k + 1, e1, Nat.le_refl _, ?_⟩
    · refine bindS sl ?_
      refine bindS (by rw [own_rd ks hq]; exact p3) ?_
      rw [if_pos rfl]
      refine bindS (own_wr ks y hq h1) ?_
      refine bindS (own_wr vs x hq h2) ?_
      refine letS ?_
      rw [if_neg e2]
    · refine ⟨by simp [h1], by simp [h2], fun z hz hm => ?_, fun z v hm => ?_⟩
      · replace hm : (if z = y ∧ M y = none then some x else M z) = none := hm
        by_cases hzy : z = y
        · rw [if_pos ⟨hzy, hM⟩] at hm; exact nomatch hm
        · rw [if_neg (fun c => hzy c.1)] at hm
          intro hmem
          rcases List.mem_or_eq_of_mem_set hmem with c | c
          · exact h3 z hz hm c
          · exact hzy c
      · replace hm : (if z = y ∧ M y = none then some x else M z) = some v := hm
        by_cases hzy : z = y
        · rw [if_pos ⟨hzy, hM⟩] at hm
          subst hzy
          refine ⟨hy, q, own_P_new z hy 17 _ ks q p1 p3, by rw [List.getElem?_set_self hql], ?_⟩
          rw [List.getElem?_set_self (by omega)]
          exact hm
        · rw [if_neg (fun c => hzy c.1)] at hm
          obtain ⟨hz, q', t1, t2, t3⟩ := h4 z v hm
          have hne : q ≠ q' := fun c => by
            subst c
            rw [p3] at t2
            exact hz (Option.some.inj t2).symm
          exact ⟨hz, q', own_P_old y z hz 17 _ ks q' q t1 t2 p3, by rw [List.getElem?_set_ne hne]; exact t2, by rw [List.getElem?_set_ne hne]; exact t3⟩
    · have e3 := List.count_set (a := y) (b := own_E) (l := ks) (i := q) hql
      have e4 : ks[q] = own_E := by
        have := List.getElem?_eq_getElem hql
        rw [p3] at this
        exact (Option.some.inj this).symm
      show 16 ≤ (ks.set q y).count own_E + (k + 1)
      rw [e3, e4]
      simp
      omega
  · have p3 : ks[q]? = some y ∧ ∃ v, M y = some v := by
      cases hm : M y with
      | none => exact absurd hm hM
      | some v =>
        obtain ⟨-, q', t1, t2, -⟩ := h4 y v hm
        rw [p1] at t1
        obtain rfl := Option.some.inj t1
        exact ⟨t2, v, rfl⟩
    refine ⟨(0, s, ks, vs), ?_, ?_, k, hk, Nat.le_succ _, hc⟩
    · refine bindS sl ?_
      refine bindS (by rw [own_rd ks hq]; exact p3.1) ?_
      rw [if_neg hy]
    · have : (fun z => if z = y ∧ M y = none then some x else M z) = M := by
        funext z
        rw [if_neg (fun c => hM c.2)]
      rw [this]
      exact T0
theorem own_init : f3 17 0 = some (List.replicate 16 own_E, List.replicate 16 0) := by decide +kernel
theorem own_T0 : own_T (List.replicate 16 own_E) (List.replicate 16 0) (fun _ => none) :=
  ⟨by simp, by simp, fun z hz _ hm => hz (List.eq_of_mem_replicate hm), fun _ _ h => nomatch h⟩
theorem own_sm {i : Nat} (h : i ≤ 12) : (Int32.ofNat i).toInt = i ∧ (Int32.ofNat i).toNatClampNeg = i ∧ ¬ (Int32.ofNat i) < 0 ∧ Int32.ofNat i + 1 = Int32.ofNat (i + 1) ∧ ¬ Int32.ofNat i = 1024 := by
  have : ∀ j : Fin 13, (Int32.ofNat j.val).toInt = (j.val : Int) ∧ (Int32.ofNat j.val).toNatClampNeg = j.val ∧ ¬ (Int32.ofNat j.val) < 0 ∧ Int32.ofNat j.val + 1 = Int32.ofNat (j.val + 1) ∧ ¬ Int32.ofNat j.val = 1024 := by decide +kernel
  exact this ⟨i, by omega⟩
theorem own_rdN {α : Type} (xs : List α) {i : Nat} (h : i ≤ 12) : rdO xs (Int32.ofNat i) = xs[i]? := by
  obtain ⟨-, h2, h3, -⟩ := own_sm h
  unfold rdO
  rw [if_neg h3, h2]
theorem own_wrN {α : Type} (xs : List α) (v : α) {i : Nat} (h : i ≤ 12) (hl : xs.length = 1024) : wrO xs (Int32.ofNat i) v = some (xs.set i v) := by
  obtain ⟨-, h2, h3, -⟩ := own_sm h
  unfold wrO
  rw [h2, if_neg]
  rintro (q | q)
  · exact h3 q
  · omega
/-- one node more -/
theorem own_node (x1 x2 x3 x4 tc ts : Int32) (k : Nat) (hk : k ≤ 12) (ks : List Int64) (vs pa la ma de : List Int32) (h1 : pa.length = 1024) (h2 : la.length = 1024) (h3 : ma.length = 1024) (h4 : de.length = 1024) :
    f9 x1 x2 x3 x4 tc (Int32.ofNat k) ts ks vs pa la ma de = some (Int32.ofNat k, Int32.ofNat (k + 1), pa.set k x1, la.set k x2, ma.set k x3, de.set k x4) := by
  unfold f9 g9_0 g9_80
  have e : lenO pa = 1024 := by unfold lenO; rw [h1]; decide
  rw [e, if_neg (own_sm hk).2.2.2.2]
  refine bindS (own_wrN pa x1 hk h1) ?_
  refine bindS (own_wrN la x2 hk h2) ?_
  refine bindS (own_wrN ma x3 hk h3) ?_
  refine bindS (own_wrN de x4 hk h4) ?_
  refine letS ?_
  rw [(own_sm hk).2.2.2.1]
/-- the tree's lists at k nodes -/
def own_W (k : Nat) (sz ts : Int32) (ks : List Int64) (vs : List Int32) (M : Int64 → Option Int32) (pa la ma de : List Int32) : Prop :=
  sz = Int32.ofNat k ∧ k ≤ 6 ∧ own_T ks vs M ∧ (∃ j : Nat, ts.toInt = j ∧ j ≤ k ∧ 16 ≤ ks.count own_E + j) ∧ pa.length = 1024 ∧ la.length = 1024 ∧ ma.length = 1024 ∧ de.length = 1024
theorem own_key (i : Nat) (hi : i ≤ 12) (tc t : Int32) : ((Int32.toInt64 (Int32.ofNat i)) * (Int32.toInt64 tc)) + (Int32.toInt64 t) ≠ own_E := by
  intro q
  have e1 := c_i2l (Int32.ofNat i)
  have e2 := c_i2l tc
  have e3 := c_i2l t
  have e4 := c_lmul (Int32.toInt64 (Int32.ofNat i)) (Int32.toInt64 tc)
  have e5 := c_ladd ((Int32.toInt64 (Int32.ofNat i)) * (Int32.toInt64 tc)) (Int32.toInt64 t)
  have r1 := rng32 tc
  have r2 := rng32 t
  rw [q] at e5
  have z : own_E.toInt = -9223372036854775808 := by decide
  rw [e1, (own_sm hi).1, e2] at e4
  rw [z, e3] at e5
  have r3 := rng64 ((Int32.toInt64 (Int32.ofNat i)) * (Int32.toInt64 tc))
  have b1 : (i : Int) * tc.toInt ≤ 12 * 2147483648 := by
    rcases Int.le_total 0 tc.toInt with h | h
    · exact Int.mul_le_mul (by omega) (by omega) h (by decide)
    · exact Int.le_trans (Int.mul_nonpos_of_nonneg_of_nonpos (by omega) h) (by decide)
  have b2 : -(12 * 2147483648) ≤ (i : Int) * tc.toInt := by
    have : (i : Int) * (-tc.toInt) ≤ 12 * 2147483648 := by
      rcases Int.le_total 0 (-tc.toInt) with h | h
      · exact Int.mul_le_mul (by omega) (by omega) h (by decide)
      · exact Int.le_trans (Int.mul_nonpos_of_nonneg_of_nonpos (by omega) h) (by decide)
    rw [Int.mul_neg] at this
    omega
  generalize (i : Int) * tc.toInt = p at *
  omega
theorem own_child (i k : Nat) (hi : i < k) (t r tc sz ts : Int32) (ks : List Int64) (vs : List Int32) (M : Int64 → Option Int32) (pa la ma de : List Int32) (dv : Int32) (hd : de[i]? = some dv) (W : own_W k sz ts ks vs M pa la ma de) (hk : k ≤ 5) :
    ∃ ts' ks' vs' M', f11 17 (Int32.ofNat i) t r tc sz ts ks vs pa la ma de = some (Int32.ofNat k, Int32.ofNat (k + 1), ts', ks', vs', pa.set k (Int32.ofNat i), la.set k t, ma.set k r, de.set k (dv + 1)) ∧ own_W (k + 1) (Int32.ofNat (k + 1)) ts' ks' vs' M' (pa.set k (Int32.ofNat i)) (la.set k t) (ma.set k r) (de.set k (dv + 1)) := by
  obtain ⟨rfl, hk6, T, ⟨j, j1, j2, j3⟩, h1, h2, h3, h4⟩ := W
  obtain ⟨r6, a6, T6, j', c1, c2, c3⟩ := own_add T (((Int32.toInt64 (Int32.ofNat i)) * (Int32.toInt64 tc)) + (Int32.toInt64 t)) (Int32.ofNat k) ts j (own_key i (by omega) tc t) j1 (by omega) j3
  refine ⟨r6.2.1, r6.2.2.1, r6.2.2.2, _, ?_, rfl, by omega, T6, ⟨j', c1, by omega, c3⟩, by simp [h1], by simp [h2], by simp [h3], by simp [h4]⟩
  unfold f11 g11_0
  refine bindS (by rw [own_rdN de (by omega)]; exact hd) ?_
  refine bindS (own_node (Int32.ofNat i) t r (dv + 1) tc ts k (by omega) ks vs pa la ma de h1 h2 h3 h4) ?_
  refine bindS (v := ((Int32.toInt64 (Int32.ofNat i)) * (Int32.toInt64 tc)) + (Int32.toInt64 t)) rfl ?_
  refine bindS a6 ?_
  rfl
theorem own_rkey (s : Int32) : (-1 : Int64) - (Int32.toInt64 s) ≠ own_E ∧ ∀ s', (-1 : Int64) - (Int32.toInt64 s) = (-1 : Int64) - (Int32.toInt64 s') → s = s' := by
  have e1 := c_i2l s
  have e2 := c_lsub (-1) (Int32.toInt64 s)
  have k1 : (-1 : Int64).toInt = -1 := by decide
  have r1 := rng32 s
  have r2 := rng64 ((-1 : Int64) - (Int32.toInt64 s))
  rw [k1, e1] at e2
  refine ⟨fun q => ?_, fun s' q => ?_⟩
  · have z : own_E.toInt = -9223372036854775808 := by decide
    rw [q, z] at e2
    omega
  · have f1 := c_i2l s'
    have f2 := c_lsub (-1) (Int32.toInt64 s')
    have r3 := rng32 s'
    have r4 := rng64 ((-1 : Int64) - (Int32.toInt64 s'))
    rw [k1, f1] at f2
    rw [q] at e2
    apply Int32.toInt_inj.mp
    omega
/-- a new root -/
theorem own_root (k : Nat) (s tc sz ts : Int32) (ks : List Int64) (vs : List Int32) (M : Int64 → Option Int32) (pa la ma de : List Int32) (W : own_W k sz ts ks vs M pa la ma de) (hk : k ≤ 5) (hM : M ((-1 : Int64) - (Int32.toInt64 s)) = none) :
    ∃ ts' ks' vs', f6 17 s tc sz ts ks vs pa la ma de = some (Int32.ofNat k, Int32.ofNat (k + 1), ts', ks', vs', pa.set k (-1), la.set k s, ma.set k s, de.set k 0) ∧ own_W (k + 1) (Int32.ofNat (k + 1)) ts' ks' vs' (fun z => if z = (-1 : Int64) - (Int32.toInt64 s) ∧ M ((-1 : Int64) - (Int32.toInt64 s)) = none then some (Int32.ofNat k) else M z) (pa.set k (-1)) (la.set k s) (ma.set k s) (de.set k 0) := by
  obtain ⟨rfl, hk6, T, ⟨j, j1, j2, j3⟩, h1, h2, h3, h4⟩ := W
  have hne := (own_rkey s).1
  obtain ⟨r6, a6, T6, j', c1, c2, c3⟩ := own_add T ((-1 : Int64) - (Int32.toInt64 s)) (Int32.ofNat k) ts j hne j1 (by omega) j3
  refine ⟨r6.2.1, r6.2.2.1, r6.2.2.2, ?_, rfl, by omega, T6, ⟨j', c1, by omega, c3⟩, by simp [h1], by simp [h2], by simp [h3], by simp [h4]⟩
  unfold f6 g6_0
  refine bindS (own_get T (by omega) _ _ (fun q => absurd q hne)) ?_
  rw [hM]
  rw [if_pos (by decide)]
  refine bindS (own_node (-1) s s 0 tc ts k (by omega) ks vs pa la ma de h1 h2 h3 h4) ?_
  refine bindS a6 ?_
  rfl
/-- a root that is there -/
theorem own_root2 (k i : Nat) (hi : i ≤ 6) (s tc sz ts : Int32) (ks : List Int64) (vs : List Int32) (M : Int64 → Option Int32) (pa la ma de : List Int32) (W : own_W k sz ts ks vs M pa la ma de) (hM : M ((-1 : Int64) - (Int32.toInt64 s)) = some (Int32.ofNat i)) :
    f6 17 s tc sz ts ks vs pa la ma de = some (Int32.ofNat i, sz, ts, ks, vs, pa, la, ma, de) := by
  obtain ⟨rfl, hk6, T, ⟨j, j1, j2, j3⟩, h1, h2, h3, h4⟩ := W
  unfold f6 g6_0
  refine bindS (own_get T (by omega) _ _ (fun q => absurd q (own_rkey s).1)) ?_
  rw [hM]
  show (if Int32.ofNat i < 0 then _ else _) = _
  rw [if_neg (own_sm (i := i) (by omega)).2.2.1]
  rfl
set_option maxRecDepth 100000 in
theorem own_made (x : Int32) : f1 17 x 0 0 = some (x, 0, List.replicate 16 own_E, List.replicate 16 0, List.replicate 1024 0, List.replicate 1024 0, List.replicate 1024 0, List.replicate 1024 0) := by
  have m : mkO 1024 1024 = some (List.replicate 1024 0) := by
    unfold mkO
    rw [if_neg (by decide)]
    rfl
  unfold f1 g1_0
  refine bindS own_init ?_
  refine bindS m ?_
  refine bindS m ?_
  refine bindS m ?_
  refine bindS m ?_
  rfl
theorem own_W0 : own_W 0 0 0 (List.replicate 16 own_E) (List.replicate 16 0) (fun _ => none) (List.replicate 1024 0) (List.replicate 1024 0) (List.replicate 1024 0) (List.replicate 1024 0) :=
  ⟨rfl, by omega, own_T0, ⟨0, by decide, Nat.le_refl _, by decide⟩, by rw [List.length_replicate], by rw [List.length_replicate], by rw [List.length_replicate], by rw [List.length_replicate]⟩
/-- the way up from node i ends at a root whose start is s -/
def own_S (pa la : List Int32) : Nat → Nat → Int32 → Prop
  | 0, i, s => i ≤ 12 ∧ pa[i]? = some (-1 : Int32) ∧ la[i]? = some s
  | n + 1, i, s => i ≤ 12 ∧ ∃ j, j ≤ 12 ∧ pa[i]? = some (Int32.ofNat j) ∧ own_S pa la n j s
theorem own_up (tc sz ts : Int32) (ks : List Int64) (vs pa la ma de : List Int32) (s : Int32) : ∀ n i m, own_S pa la n i s → n < m → h13_2 17 m (Int32.ofNat i) tc sz ts ks vs pa la ma de = some s := by
  intro n
  induction n with
  | zero =>
    intro i m ⟨h0, h1, h2⟩ hm
    obtain ⟨m, rfl⟩ : ∃ k, m = k + 1 := ⟨m - 1, by omega⟩
    show s13_2 (h13_2 17 m) 17 (Int32.ofNat i) tc sz ts ks vs pa la ma de = some s
    unfold s13_2
    refine bindS (by rw [own_rdN pa h0]; exact h1) ?_
    rw [if_pos (by decide)]
    refine bindS (by rw [own_rdN la h0]; exact h2) ?_
    rfl
  | succ n ih =>
    intro i m ⟨h0, j, hj, h1, h2⟩ hm
    obtain ⟨m, rfl⟩ : ∃ k, m = k + 1 := ⟨m - 1, by omega⟩
    show s13_2 (h13_2 17 m) 17 (Int32.ofNat i) tc sz ts ks vs pa la ma de = some s
    unfold s13_2
    refine bindS (by rw [own_rdN pa h0]; exact h1) ?_
    rw [if_neg (own_sm hj).2.2.1]
    refine bindS (by rw [own_rdN pa h0]; exact h1) ?_
    exact ih j m h2 (by omega)
theorem own_start (tc sz ts : Int32) (ks : List Int64) (vs pa la ma de : List Int32) (s : Int32) (n i : Nat) (h : own_S pa la n i s) (hn : n < 17) : f13 17 (Int32.ofNat i) tc sz ts ks vs pa la ma de = some s := by
  unfold f13 g13_0 g13_2
  exact own_up tc sz ts ks vs pa la ma de s n i 17 h hn
theorem own_S_new (pa la : List Int32) (k : Nat) (u t : Int32) : ∀ n i s, own_S pa la n i s → (∀ j, j ≤ 12 → pa[j]? = some (-1 : Int32) ∨ (∃ q, q ≤ 12 ∧ pa[j]? = some (Int32.ofNat q)) → True) → (∀ n' j', own_S pa la n' j' s → j' ≠ k) → own_S (pa.set k u) (la.set k t) n i s := by
  intro n
  induction n with
  | zero =>
    intro i s h _ hne
    have hk := hne 0 i h
    obtain ⟨h0, h1, h2⟩ := h
    exact ⟨h0, by rw [List.getElem?_set_ne (Ne.symm hk)]; exact h1, by rw [List.getElem?_set_ne (Ne.symm hk)]; exact h2⟩
  | succ n ih =>
    intro i s h hx hne
    have hk := hne (n + 1) i h
    obtain ⟨h0, j, hj, h1, h2⟩ := h
    exact ⟨h0, j, hj, by rw [List.getElem?_set_ne (Ne.symm hk)]; exact h1, ih j s h2 hx hne⟩
/-- the last part: four nodes b, c, d, e -/
theorem own_133 (x1 x2 : Int32) (b c d e : Nat) (sd se : Int32) (tc sz ts : Int32) (ks : List Int64) (vs pa la ma de : List Int32) (nb nc nd ne : Nat) (hb : own_S pa la nb b x2) (hc : own_S pa la nc c x1) (hd : own_S pa la nd d sd) (he : own_S pa la ne e se) (l1 : nb < 17) (l2 : nc < 17) (l3 : nd < 17) (l4 : ne < 17) :
    g0_133 17 x1 x2 (Int32.ofNat b) (Int32.ofNat c) (Int32.ofNat d) (Int32.ofNat e) sd se tc sz ts ks vs pa la ma de = some 1 := by
  unfold g0_133
  refine bindS (own_start tc sz ts ks vs pa la ma de x2 nb b hb l1) ?_
  rw [if_pos rfl]
  refine bindS (own_start tc sz ts ks vs pa la ma de x1 nc c hc l2) ?_
  rw [if_pos rfl]
  refine bindS (own_start tc sz ts ks vs pa la ma de sd nd d hd l3) ?_
  rw [if_pos rfl]
  refine bindS (own_start tc sz ts ks vs pa la ma de se ne e he l4) ?_
  rw [if_pos rfl]
set_option maxHeartbeats 4000000 in
/-- behind the two roots: k nodes, a = 0, b is a root of x2; then c, d, e -/
theorem own_rest (k b : Nat) (hk : k = 1 ∧ b = 0 ∨ k = 2 ∧ b = 1) (x1 x2 x3 x4 x5 tc sz ts : Int32) (ks : List Int64) (vs : List Int32) (M : Int64 → Option Int32) (pa la ma de : List Int32) (W : own_W k sz ts ks vs M pa la ma de)
    (ha : pa[0]? = some (-1 : Int32) ∧ la[0]? = some x1) (hb : pa[b]? = some (-1 : Int32) ∧ la[b]? = some x2) (hd : ∀ i, i < 8 → ∃ dv, de[i]? = some dv) :
    (f11 17 (Int32.ofNat 0) x3 x4 tc sz ts ks vs pa la ma de).bind (fun r5 => (if (x5 &&& (1 : Int32)) = (0 : Int32) then (g0_50 17 x1 x2 x3 x4 x5 (Int32.ofNat 0) (Int32.ofNat b) r5.1 (0 : Int32) tc r5.2.1 r5.2.2.1 r5.2.2.2.1 r5.2.2.2.2.1 r5.2.2.2.2.2.1 r5.2.2.2.2.2.2.1 r5.2.2.2.2.2.2.2.1 r5.2.2.2.2.2.2.2.2) else (g0_50 17 x1 x2 x3 x4 x5 (Int32.ofNat 0) (Int32.ofNat b) r5.1 (1 : Int32) tc r5.2.1 r5.2.2.1 r5.2.2.2.1 r5.2.2.2.2.1 r5.2.2.2.2.2.1 r5.2.2.2.2.2.2.1 r5.2.2.2.2.2.2.2.1 r5.2.2.2.2.2.2.2.2))) = some 1 := by
  have L := W.2.2.2.2
  obtain ⟨dv, hdv⟩ := hd 0 (by omega)
  obtain ⟨ts1, ks1, vs1, M1, a1, W1⟩ := own_child 0 k (by omega) x3 x4 tc sz ts ks vs M pa la ma de dv hdv W (by omega)
  refine bindS a1 ?_
  have D1 : ∀ i, i < 8 → ∃ v, (de.set k (dv + 1))[i]? = some v := fun i hi => ⟨_, List.getElem?_eq_getElem (by simp; have := L.2.2.2; omega)⟩
  -- d under c (index k) or under b
  have step : ∀ (u v : Nat), (u = k ∨ u = b) → ∀ xd xe : Int32, (xd = 0 ↔ u = b) →
      ∀ sd, (u = b → sd = x2) → (u = k → sd = x1) → (u = k → xd = 1) → (u = b → xd = 0) → (xe = 0 ∨ xe = 1) →
      g0_80 17 x1 x2 x3 x4 (Int32.ofNat 0) (Int32.ofNat b) (Int32.ofNat k) xd xe (Int32.ofNat u) tc (Int32.ofNat (k + 1)) ts1 ks1 vs1 (pa.set k (Int32.ofNat 0)) (la.set k x3) (ma.set k x4) (de.set k (dv + 1)) = some 1 := by
    intro u v hu xd xe hxd sd s1 s2 s3 s4 hxe
    obtain ⟨dv2, hdv2⟩ := D1 u (by omega)
    obtain ⟨ts2, ks2, vs2, M2, a2, W2⟩ := own_child u (k + 1) (by omega) x3 x4 tc _ ts1 ks1 vs1 M1 _ _ _ _ dv2 hdv2 W1 (by omega)
    unfold g0_80
    refine bindS a2 ?_
    have D2 : ∀ i, i < 8 → ∃ v, ((de.set k (dv + 1)).set (k + 1) (dv2 + 1))[i]? = some v := fun i hi => ⟨_, List.getElem?_eq_getElem (by simp; have := L.2.2.2; omega)⟩
    have last : ∀ (w : Nat) (se : Int32), (w = k + 1 ∨ w = 0) → (w = 0 → se = x1) → (w = k + 1 → se = sd) → (w = 0 → xe = 0) → (w = k + 1 → xe = 1) →
        g0_102 17 x1 x2 x3 x4 (Int32.ofNat b) (Int32.ofNat k) xd xe (Int32.ofNat (k + 1)) (Int32.ofNat w) tc (Int32.ofNat (k + 1 + 1)) ts2 ks2 vs2 ((pa.set k (Int32.ofNat 0)).set (k + 1) (Int32.ofNat u)) ((la.set k x3).set (k + 1) x3) ((ma.set k x4).set (k + 1) x4) ((de.set k (dv + 1)).set (k + 1) (dv2 + 1)) = some 1 := by
      intro w se hw e1 e2 e3 e4
      obtain ⟨dv3, hdv3⟩ := D2 w (by omega)
      obtain ⟨ts3, ks3, vs3, M3, a3, W3⟩ := own_child w (k + 1 + 1) (by omega) x3 x4 tc _ ts2 ks2 vs2 M2 _ _ _ _ dv3 hdv3 W2 (by omega)
      unfold g0_102
      refine bindS a3 ?_
      -- what the lists hold now
      have P : ∀ i, i < k → (((pa.set k (Int32.ofNat 0)).set (k + 1) (Int32.ofNat u)).set (k + 1 + 1) (Int32.ofNat w))[i]? = pa[i]? := fun i hi => by
        rw [List.getElem?_set_ne (by omega), List.getElem?_set_ne (by omega), List.getElem?_set_ne (by omega)]
      have Q : ∀ i, i < k → (((la.set k x3).set (k + 1) x3).set (k + 1 + 1) x3)[i]? = la[i]? := fun i hi => by
        rw [List.getElem?_set_ne (by omega), List.getElem?_set_ne (by omega), List.getElem?_set_ne (by omega)]
      have Pk : (((pa.set k (Int32.ofNat 0)).set (k + 1) (Int32.ofNat u)).set (k + 1 + 1) (Int32.ofNat w))[k]? = some (Int32.ofNat 0) := by
        rw [List.getElem?_set_ne (by omega), List.getElem?_set_ne (by omega), List.getElem?_set_self (by have := L.1; omega)]
      have Pk1 : (((pa.set k (Int32.ofNat 0)).set (k + 1) (Int32.ofNat u)).set (k + 1 + 1) (Int32.ofNat w))[k + 1]? = some (Int32.ofNat u) := by
        rw [List.getElem?_set_ne (by omega), List.getElem?_set_self (by simp; have := L.1; omega)]
      have Pk2 : (((pa.set k (Int32.ofNat 0)).set (k + 1) (Int32.ofNat u)).set (k + 1 + 1) (Int32.ofNat w))[k + 1 + 1]? = some (Int32.ofNat w) := by
        rw [List.getElem?_set_self (by simp; have := L.1; omega)]
      generalize (((pa.set k (Int32.ofNat 0)).set (k + 1) (Int32.ofNat u)).set (k + 1 + 1) (Int32.ofNat w)) = pa' at *
      generalize (((la.set k x3).set (k + 1) x3).set (k + 1 + 1) x3) = la' at *
      have Sa : own_S pa' la' 0 0 x1 := ⟨by omega, by rw [P 0 (by omega)]; exact ha.1, by rw [Q 0 (by omega)]; exact ha.2⟩
      have Sb : own_S pa' la' 0 b x2 := ⟨by omega, by rw [P b (by omega)]; exact hb.1, by rw [Q b (by omega)]; exact hb.2⟩
      have Sc : own_S pa' la' 1 k x1 := ⟨by omega, 0, by omega, Pk, Sa⟩
      obtain ⟨nd, hnd, Sd⟩ : ∃ nd, nd < 5 ∧ own_S pa' la' nd (k + 1) sd := by
        rcases hu with rfl | rfl
        · exact ⟨2, by omega, by omega, u, by omega, Pk1, by rw [s2 rfl]; exact Sc⟩
        · exact ⟨1, by omega, by omega, u, by omega, Pk1, by rw [s1 rfl]; exact Sb⟩
      obtain ⟨ne, hne, Se⟩ : ∃ ne, ne < 10 ∧ own_S pa' la' ne (k + 1 + 1) se := by
        rcases hw with rfl | rfl
        · exact ⟨nd + 1, by omega, by omega, _, by omega, Pk2, by rw [e2 rfl]; exact Sd⟩
        · exact ⟨1, by omega, by omega, _, by omega, Pk2, by rw [e1 rfl]; exact Sa⟩
      have fin := own_133 x1 x2 b k (k + 1) (k + 1 + 1) sd se tc (Int32.ofNat (k + 1 + 1 + 1)) ts3 ks3 vs3 pa' la' ((((ma.set k x4).set (k + 1) x4)).set (k + 1 + 1) x4) (((de.set k (dv + 1)).set (k + 1) (dv2 + 1)).set (k + 1 + 1) (dv3 + 1)) 0 1 nd ne Sb Sc Sd Se (by omega) (by omega) (by omega) (by omega)
      have f120 : g0_120 17 x1 x2 (Int32.ofNat b) (Int32.ofNat k) xe (Int32.ofNat (k + 1)) (Int32.ofNat (k + 1 + 1)) sd tc (Int32.ofNat (k + 1 + 1 + 1)) ts3 ks3 vs3 pa' la' ((((ma.set k x4).set (k + 1) x4)).set (k + 1 + 1) x4) (((de.set k (dv + 1)).set (k + 1) (dv2 + 1)).set (k + 1 + 1) (dv3 + 1)) = some 1 := by
        unfold g0_120
        rcases hw with rfl | rfl
        · rw [e4 rfl, if_neg (by decide), ← e2 rfl]
          rw [e2 rfl] at fin ⊢
          exact fin
        · rw [e3 rfl, if_pos rfl, ← e1 rfl]
          rw [e1 rfl] at fin ⊢
          exact fin
      by_cases c : xd = 0
      · rw [s1 (hxd.mp c)] at f120
        rw [if_pos c]; exact f120
      · have hu2 : u = k := by
          rcases hu with h | h
          · exact h
          · exact absurd (hxd.mpr h) c
        rw [s2 hu2] at f120
        rw [if_neg c]; exact f120
    rcases hxe with rfl | rfl
    · rw [if_pos rfl]
      exact last 0 x1 (Or.inr rfl) (fun _ => rfl) (fun q => absurd q (by omega)) (fun _ => rfl) (fun q => absurd q (by omega))
    · rw [if_neg (by decide)]
      exact last (k + 1) sd (Or.inl rfl) (fun q => absurd q (by omega)) (fun _ => rfl) (fun q => absurd q (by omega)) (fun _ => rfl)
  have mid : ∀ xd xe : Int32, (xd = 0 ∨ xd = 1) → (xe = 0 ∨ xe = 1) → g0_64 17 x1 x2 x3 x4 (Int32.ofNat 0) (Int32.ofNat b) (Int32.ofNat k) xd xe tc (Int32.ofNat (k + 1)) ts1 ks1 vs1 (pa.set k (Int32.ofNat 0)) (la.set k x3) (ma.set k x4) (de.set k (dv + 1)) = some 1 := by
    intro xd xe h1 h2
    unfold g0_64
    rcases h1 with rfl | rfl
    · rw [if_pos rfl]
      exact step b 0 (Or.inr rfl) 0 xe (by simp) x2 (fun _ => rfl) (fun q => absurd q (by omega)) (fun q => absurd q (by omega)) (fun _ => rfl) h2
    · rw [if_neg (by decide)]
      exact step k 0 (Or.inl rfl) 1 xe ⟨fun q => absurd q (by decide), fun q => absurd q (by omega)⟩ x1 (fun q => absurd q (by omega)) (fun _ => rfl) (fun _ => rfl) (fun q => absurd q (by omega)) h2
  have m50 : ∀ xd : Int32, (xd = 0 ∨ xd = 1) → g0_50 17 x1 x2 x3 x4 x5 (Int32.ofNat 0) (Int32.ofNat b) (Int32.ofNat k) xd tc (Int32.ofNat (k + 1)) ts1 ks1 vs1 (pa.set k (Int32.ofNat 0)) (la.set k x3) (ma.set k x4) (de.set k (dv + 1)) = some 1 := by
    intro xd h1
    unfold g0_50
    split
    · exact mid xd 0 h1 (Or.inl rfl)
    · exact mid xd 1 h1 (Or.inr rfl)
  split
  · exact m50 0 (Or.inl rfl)
  · exact m50 1 (Or.inr rfl)
theorem own_law (x0 x1 x2 x3 x4 x5 : Int32) : ∃ fuel, f0 fuel x0 x1 x2 x3 x4 x5 = some 1 := by
  refine ⟨17, ?_⟩
  unfold f0 g0_0
  refine bindS (own_made x0) ?_
  obtain ⟨ts, ks, vs, a1, W1⟩ := own_root 0 x1 x0 0 0 _ _ _ _ _ _ _ own_W0 (by omega) rfl
  refine bindS a1 ?_
  have L := W1.2.2.2.2
  have p0 : ((List.replicate 1024 (0 : Int32)).set 0 (-1))[0]? = some (-1 : Int32) := List.getElem?_set_self (by rw [List.length_replicate]; decide)
  have l0 : ((List.replicate 1024 (0 : Int32)).set 0 x1)[0]? = some x1 := List.getElem?_set_self (by rw [List.length_replicate]; decide)
  have D0 : ∀ i, i < 8 → ∃ v, ((List.replicate 1024 (0 : Int32)).set 0 0)[i]? = some v := fun i hi => ⟨_, List.getElem?_eq_getElem (by rw [List.length_set, List.length_replicate]; omega)⟩
  have D1 : ∀ i, i < 8 → ∃ v, (((List.replicate 1024 (0 : Int32)).set 0 0).set 1 0)[i]? = some v := fun i hi => ⟨_, List.getElem?_eq_getElem (by rw [List.length_set, List.length_set, List.length_replicate]; omega)⟩
  by_cases h : x1 = x2
  · subst h
    refine bindS (own_root2 1 0 (by omega) x1 x0 _ ts ks vs _ _ _ _ _ W1 (by simp)) ?_
    exact own_rest 1 0 (Or.inl ⟨rfl, rfl⟩) x1 x1 x3 x4 x5 x0 _ ts ks vs _ _ _ _ _ W1 ⟨p0, l0⟩ ⟨p0, l0⟩ D0
  · obtain ⟨ts2, ks2, vs2, a2, W2⟩ := own_root 1 x2 x0 _ ts ks vs _ _ _ _ _ W1 (by omega) (by
      have : ¬ (-1 : Int64) - (Int32.toInt64 x2) = (-1 : Int64) - (Int32.toInt64 x1) := fun q => h ((own_rkey x2).2 x1 q).symm
      simp [this])
    refine bindS a2 ?_
    have L2 := W2.2.2.2.2
    refine own_rest 2 1 (Or.inr ⟨rfl, rfl⟩) x1 x2 x3 x4 x5 x0 _ ts2 ks2 vs2 _ _ _ _ _ W2 ⟨?_, ?_⟩ ⟨?_, ?_⟩ D1
    · rw [List.getElem?_set_ne (by omega)]; exact p0
    · rw [List.getElem?_set_ne (by omega)]; exact l0
    · exact List.getElem?_set_self (by rw [List.length_set, List.length_replicate]; decide)
    · exact List.getElem?_set_self (by rw [List.length_set, List.length_replicate]; decide)
set_option maxRecDepth 65536 in
set_option maxHeartbeats 40000000 in
theorem comes_1 {Post : Tables → Env → Array Value → State → Outcome → State → Prop} (hpost : ∀ tb e args s v u, (limb_1_1.after args s (.returned v) u = true ∧ limb_1_2.after args s (.returned v) u = true ∧ True) → FrameEnd s (.returned v) u (Jvm.fieldLocs frame_1_writes args s ++ Jvm.arrayLocs frame_1_arrays args s ++ Jvm.staticLocs frame_1_statics s) 24 8384 → Post tb e args s (.returned v) u) :
    ArmFor flags0 classFile x code maxLocals ret World_1 tables_1 room_1 Calls_1 rest_1 Pre_1 Post := by
  intro l hfl _ _ p e ha hc hk s m args below hf hA hF happ hP
  obtain ⟨hcalls, hrest, hpre⟩ := hP
  obtain ⟨-, -, -, hnamed, -, -, -, hat⟩ := (Spec.applies_iff hf).mp happ
  obtain ⟨hg, hn⟩ := and_e (Cond.before_iff.mp (show (Jvm.Cond.and given_1 narrow_1).before args s = true from hpre))
  obtain ⟨g1, g2⟩ := and_e hg
  obtain ⟨g3, g4⟩ := and_e g2
  obtain ⟨g5, g6⟩ := and_e g4
  obtain ⟨g7, g8⟩ := and_e g6
  obtain ⟨g9, g10⟩ := and_e g8
  obtain ⟨g11, g12⟩ := and_e g10
  obtain ⟨w0, w1, w2, w3, w4, w5, rfl⟩ : ∃ w0 w1 w2 w3 w4 w5 : Value, args = #[w0, w1, w2, w3, w4, w5] := by
    have hs : args.size = 6 := by simpa [Cond.value, given_1] using g1
    obtain ⟨L⟩ := args
    match L, hs with
    | [w0, w1, w2, w3, w4, w5], _ => exact ⟨w0, w1, w2, w3, w4, w5, rfl⟩
  have hw := fun d (hd : d ∈ tables_1) => atoms_spec (ws := Jvm.Cond.code x code maxLocals ret :: tables_1) hat d (List.mem_cons_of_mem _ hd)
  obtain ⟨i0, ei0⟩ := is_v g3
  obtain rfl : w0 = (.int i0) := Option.some.inj ei0
  obtain ⟨i1, ei1⟩ := is_v g5
  obtain rfl : w1 = (.int i1) := Option.some.inj ei1
  obtain ⟨i2, ei2⟩ := is_v g7
  obtain rfl : w2 = (.int i2) := Option.some.inj ei2
  obtain ⟨i3, ei3⟩ := is_v g9
  obtain rfl : w3 = (.int i3) := Option.some.inj ei3
  obtain ⟨i4, ei4⟩ := is_v g11
  obtain rfl : w4 = (.int i4) := Option.some.inj ei4
  obtain ⟨i5, ei5⟩ := is_v g12
  obtain rfl : w5 = (.int i5) := Option.some.inj ei5
  obtain ⟨fuel, hone⟩ := own_law i0 i1 i2 i3 i4 i5
  obtain ⟨n, o, h1, h2, h3, _, L, rfl, ⟨rfl, N⟩, hq⟩ := rm0 l s _ hw tables_1 i0 i1 i2 i3 i4 i5 s.heap s.heap.size (Nat.le_refl _) fuel _ hone p e ha hc hk s m _ below hf ((Spec.applies_iff_loose hf).mp happ).1 ⟨rfl, State.Warmed39.refl s, rfl⟩ trivial
  refine ⟨n, _, h1, h2, h3, hpost _ _ _ _ _ _ ⟨Cond.after_iff.mpr rfl, Cond.after_iff.mpr (eq_i res_at (Term.int_eval (1)) rfl), trivial⟩ ⟨hq.1, hq.2.1, (hq.2.2.sift fun y hy => Or.inr (N y hy)).mono (by decide) (by decide)⟩⟩
theorem main_1_1 : Claimed_1_1 := comes_1 fun _ _ _ _ _ _ h hF => ⟨h.1, hF⟩
theorem main_1_2 : Claimed_1_2 := comes_1 fun _ _ _ _ _ _ h hF => ⟨h.2.1, hF⟩
end Jvm.Pilot.@@N@@
namespace Jvm.Pilot.@@N@@
open Jvm Jvm.ClassFile Sem Op Lib Jvm.Free Jvm.Stand Jvm.Pilot.@@N@@.Jvm.D
/-! MADE BY PROGRAM (witnessworld.py) out of the Statement's table words and the real class files: 13 classes; the members and pool entries that the words name. The judged class is class 1, her method 1. -/
namespace start1
open Jvm.ClassFile
def u (s : String) : CpInfo := .utf8 (stringToUtf16 s)
/-- a pool by its gaps: so many unusable entries, then the entry; so many at the end -/
def gap : Nat → List CpInfo → List CpInfo
  | 0, r => r
  | n + 1, r => .unusable :: gap n r
def poolList (es : List (Nat × CpInfo)) (last : Nat) : List CpInfo := es.foldr (fun e r => gap e.1 (e.2 :: r)) (gap last [])
def pool (es : List (Nat × CpInfo)) (last : Nat) : Array CpInfo := ⟨poolList es last⟩
def fileOf (pool : Array CpInfo) (this : Nat) (attrs : Array Attribute := #[]) (ms : Array MethodInfo := #[]) (fl : Nat := 33) (sup : Nat := 0) (ifs : Array Nat := #[]) (fds : Array FieldInfo := #[]) : ClassFile where
  minorVersion := 0
  majorVersion := 65
  constantPool := pool
  accessFlags := fl
  thisClass := this
  superClass := sup
  interfaces := ifs
  fields := fds
  methods := ms
  attributes := attrs
def plain (name : String) (sup : Option ClassId) : Class where
  name := name
  kind := .ordinary
  loader := none
  accessFlags := 33
  super := sup
  interfaces := #[]
  cf := none
  fields := #[]
  methods := #[]
  instanceTypes := #[]
  staticTypes := #[]
  resolved := #[]
  callSites := []
  init := .initialized
  statics := none
  mirror := none

def pool0 : Array CpInfo := pool [(5, u "<init>"), (0, u "()V"), (1, .class_ 10), (1, u "java/lang/Object")] 113

def k0c0 : Code := { maxStack := 0, maxLocals := 1, code := object_method_1_code, exceptionTable := #[], attributes := #[] }
def k0m0 : Method := { name := "<init>", desc := "()V", sig := { parameters := [], returnType := none }, accessFlags := 1, code := some k0c0 }
/-- java/lang/Object -/
def k0 : Class := { plain "java/lang/Object" none with
  accessFlags := 33
  interfaces := #[]
  cf := some (fileOf pool0 8 #[] #[{ accessFlags := 1, nameIndex := 5, descriptorIndex := 6, attributes := #[] }] 33 0 #[] #[])
  fields := #[]
  methods := #[k0m0]
  instanceTypes := #[]
  staticTypes := #[]
  resolved := Array.replicate 124 none
  statics := none }

def pool1 : Array CpInfo := pool [(2, .class_ 4), (1, u "java/lang/Object"), (0, u "<init>"), (0, u "()V"), (0, .class_ 8), (0, u "com/example/mopor/mopor/reduction/VectorTree"), (0, .methodref 7 10), (0, .nameAndType 5 11), (0, u "(I)V"), (0, .methodref 7 13), (0, .nameAndType 14 15), (0, u "root"), (0, u "(I)I"), (0, .methodref 7 17), (0, .nameAndType 18 19), (0, u "addChild"), (0, u "(III)I"), (0, .methodref 7 21), (0, .nameAndType 22 15), (0, u "start"), (0, .class_ 24), (0, u "com/example/mopor/mopor/reduction/VectorTreeStartPinLaw"), (2, u "law"), (0, u "(IIIIII)Z")] 3

def k1m0 : Method := { name := "<init>", desc := "()V", sig := { parameters := [], returnType := none }, accessFlags := 1, code := none }
def k1c1 : Code := { maxStack := 4, maxLocals := 16, code := code, exceptionTable := #[], attributes := #[] }
def k1m1 : Method := { name := "law", desc := "(IIIIII)Z", sig := { parameters := [.int, .int, .int, .int, .int, .int], returnType := some .boolean }, accessFlags := 9, code := some k1c1 }
/-- com/example/mopor/mopor/reduction/VectorTreeStartPinLaw -/
def k1 : Class := { plain "com/example/mopor/mopor/reduction/VectorTreeStartPinLaw" (some 0) with
  accessFlags := 49
  interfaces := #[]
  cf := some (fileOf pool1 23 #[] #[{ accessFlags := 1, nameIndex := 5, descriptorIndex := 6, attributes := #[] }, { accessFlags := 9, nameIndex := 27, descriptorIndex := 28, attributes := #[] }] 49 2 #[] #[])
  fields := #[]
  methods := #[k1m0, k1m1]
  instanceTypes := #[]
  staticTypes := #[]
  resolved := Array.replicate 32 none
  statics := none }

def pool2 : Array CpInfo := pool [(1, .methodref 2 3), (0, .class_ 4), (0, .nameAndType 5 6), (0, u "java/lang/Object"), (0, u "<init>"), (0, u "()V"), (0, .class_ 8), (0, u "com/example/mopor/mopor/reduction/LongIntTable"), (0, .methodref 7 3), (0, .fieldref 11 12), (0, .class_ 13), (0, .nameAndType 14 15), (0, u "com/example/mopor/mopor/reduction/VectorTree"), (0, u "nodes"), (0, u "Lcom/example/mopor/mopor/reduction/LongIntTable;"), (0, .fieldref 11 17), (0, .nameAndType 18 19), (0, u "parent"), (0, u "[I"), (0, .fieldref 11 21), (0, .nameAndType 22 19), (0, u "last"), (0, .fieldref 11 24), (0, .nameAndType 25 19), (0, u "marking"), (0, .fieldref 11 27), (0, .nameAndType 28 19), (0, u "depth"), (0, .fieldref 11 30), (0, .nameAndType 31 32), (0, u "transitionCount"), (0, u "I"), (0, .long 18446744073709551615), (1, .methodref 7 36), (0, .nameAndType 37 38), (0, u "get"), (0, u "(J)I"), (0, .methodref 11 40), (0, .nameAndType 41 42), (0, u "add"), (0, u "(IIII)I"), (0, .methodref 7 44), (0, .nameAndType 41 45), (0, u "(JI)Z"), (0, .methodref 11 47), (0, .nameAndType 48 49), (0, u "key"), (0, u "(II)J"), (0, .fieldref 11 51), (0, .nameAndType 52 32), (0, u "size"), (6, u "(I)V"), (2, u "root"), (0, u "(I)I"), (3, u "addChild"), (0, u "(III)I"), (0, u "start")] 5

def k2c0 : Code := { maxStack := 3, maxLocals := 2, code := prog_24_method_1_code, exceptionTable := #[], attributes := #[] }
def k2m0 : Method := { name := "<init>", desc := "(I)V", sig := { parameters := [.int], returnType := none }, accessFlags := 0, code := some k2c0 }
def k2c1 : Code := { maxStack := 5, maxLocals := 3, code := prog_24_method_2_code, exceptionTable := #[], attributes := #[] }
def k2m1 : Method := { name := "root", desc := "(I)I", sig := { parameters := [.int], returnType := some .int }, accessFlags := 0, code := some k2c1 }
def k2c2 : Code := { maxStack := 6, maxLocals := 5, code := prog_24_method_4_code, exceptionTable := #[], attributes := #[] }
def k2m2 : Method := { name := "addChild", desc := "(III)I", sig := { parameters := [.int, .int, .int], returnType := some .int }, accessFlags := 0, code := some k2c2 }
def k2c3 : Code := { maxStack := 2, maxLocals := 3, code := prog_24_method_6_code, exceptionTable := #[], attributes := #[] }
def k2m3 : Method := { name := "start", desc := "(I)I", sig := { parameters := [.int], returnType := some .int }, accessFlags := 0, code := some k2c3 }
def k2c4 : Code := { maxStack := 4, maxLocals := 5, code := prog_24_method_8_code, exceptionTable := #[], attributes := #[] }
def k2m4 : Method := { name := "add", desc := "(IIII)I", sig := { parameters := [.int, .int, .int, .int], returnType := some .int }, accessFlags := 2, code := some k2c4 }
def k2c5 : Code := { maxStack := 4, maxLocals := 3, code := prog_24_method_9_code, exceptionTable := #[], attributes := #[] }
def k2m5 : Method := { name := "key", desc := "(II)J", sig := { parameters := [.int, .int], returnType := some .long }, accessFlags := 2, code := some k2c5 }
/-- com/example/mopor/mopor/reduction/VectorTree -/
def k2 : Class := { plain "com/example/mopor/mopor/reduction/VectorTree" (some 0) with
  accessFlags := 48
  interfaces := #[]
  cf := some (fileOf pool2 11 #[] #[{ accessFlags := 0, nameIndex := 5, descriptorIndex := 59, attributes := #[] }, { accessFlags := 0, nameIndex := 62, descriptorIndex := 63, attributes := #[] }, { accessFlags := 0, nameIndex := 67, descriptorIndex := 68, attributes := #[] }, { accessFlags := 0, nameIndex := 69, descriptorIndex := 63, attributes := #[] }, { accessFlags := 2, nameIndex := 41, descriptorIndex := 42, attributes := #[] }, { accessFlags := 2, nameIndex := 48, descriptorIndex := 49, attributes := #[] }] 48 2 #[] #[{ accessFlags := 18, nameIndex := 31, descriptorIndex := 32, attributes := #[] }, { accessFlags := 18, nameIndex := 14, descriptorIndex := 15, attributes := #[] }, { accessFlags := 2, nameIndex := 18, descriptorIndex := 19, attributes := #[] }, { accessFlags := 2, nameIndex := 22, descriptorIndex := 19, attributes := #[] }, { accessFlags := 2, nameIndex := 25, descriptorIndex := 19, attributes := #[] }, { accessFlags := 2, nameIndex := 28, descriptorIndex := 19, attributes := #[] }, { accessFlags := 2, nameIndex := 52, descriptorIndex := 32, attributes := #[] }])
  fields := #[{ name := "transitionCount", type := .int, accessFlags := 18, slot := 0, constantValue := 0 }, { name := "nodes", type := (.object "com/example/mopor/mopor/reduction/LongIntTable"), accessFlags := 18, slot := 1, constantValue := 0 }, { name := "parent", type := (.array .int), accessFlags := 2, slot := 2, constantValue := 0 }, { name := "last", type := (.array .int), accessFlags := 2, slot := 3, constantValue := 0 }, { name := "marking", type := (.array .int), accessFlags := 2, slot := 4, constantValue := 0 }, { name := "depth", type := (.array .int), accessFlags := 2, slot := 5, constantValue := 0 }, { name := "size", type := .int, accessFlags := 2, slot := 6, constantValue := 0 }]
  methods := #[k2m0, k2m1, k2m2, k2m3, k2m4, k2m5]
  instanceTypes := #[.int, (.object "com/example/mopor/mopor/reduction/LongIntTable"), (.array .int), (.array .int), (.array .int), (.array .int), .int]
  staticTypes := #[]
  resolved := Array.replicate 75 none
  statics := none }

def pool3 : Array CpInfo := pool [(3, .methodref 4 5), (0, .class_ 6), (0, .nameAndType 7 8), (0, u "java/lang/Object"), (0, u "<init>"), (0, u "()V"), (0, .methodref 10 11), (0, .class_ 12), (0, .nameAndType 13 14), (0, u "com/example/mopor/mopor/reduction/LongIntTable"), (0, u "emptyKeys"), (0, u "(I)[J"), (0, .fieldref 10 16), (0, .nameAndType 17 18), (0, u "keys"), (0, u "[J"), (0, .fieldref 10 20), (0, .nameAndType 21 22), (0, u "values"), (0, u "[I"), (0, .methodref 10 24), (0, .nameAndType 25 26), (0, u "slotOf"), (0, u "([JJ)I"), (0, .long 9223372036854775808), (10, .fieldref 10 39), (0, .nameAndType 40 41), (0, u "size"), (0, u "I"), (3, .long 11400714819323198485), (1, .methodref 48 49), (0, .class_ 50), (0, .nameAndType 51 52), (0, u "java/util/Arrays"), (0, u "fill"), (0, u "([JJ)V"), (0, u "EMPTY"), (0, u "J"), (3, u "get"), (0, u "(J)I"), (1, u "add"), (0, u "(JI)Z")] 19

def k3c0 : Code := { maxStack := 2, maxLocals := 1, code := prog_19_method_1_code, exceptionTable := #[], attributes := #[] }
def k3m0 : Method := { name := "<init>", desc := "()V", sig := { parameters := [], returnType := none }, accessFlags := 0, code := some k3c0 }
def k3c1 : Code := { maxStack := 4, maxLocals := 4, code := prog_19_method_2_code, exceptionTable := #[], attributes := #[] }
def k3m1 : Method := { name := "get", desc := "(J)I", sig := { parameters := [.long], returnType := some .int }, accessFlags := 0, code := some k3c1 }
def k3c2 : Code := { maxStack := 4, maxLocals := 5, code := prog_19_method_3_code, exceptionTable := #[], attributes := #[] }
def k3m2 : Method := { name := "add", desc := "(JI)Z", sig := { parameters := [.long, .int], returnType := some .boolean }, accessFlags := 0, code := some k3c2 }
def k3c3 : Code := { maxStack := 5, maxLocals := 7, code := prog_19_method_5_code, exceptionTable := #[], attributes := #[] }
def k3m3 : Method := { name := "slotOf", desc := "([JJ)I", sig := { parameters := [(.array .long), .long], returnType := some .int }, accessFlags := 10, code := some k3c3 }
def k3c4 : Code := { maxStack := 3, maxLocals := 2, code := prog_19_method_6_code, exceptionTable := #[], attributes := #[] }
def k3m4 : Method := { name := "emptyKeys", desc := "(I)[J", sig := { parameters := [.int], returnType := some (.array .long) }, accessFlags := 10, code := some k3c4 }
/-- com/example/mopor/mopor/reduction/LongIntTable -/
def k3 : Class := { plain "com/example/mopor/mopor/reduction/LongIntTable" (some 0) with
  accessFlags := 48
  interfaces := #[]
  cf := some (fileOf pool3 10 #[] #[{ accessFlags := 0, nameIndex := 7, descriptorIndex := 8, attributes := #[] }, { accessFlags := 0, nameIndex := 58, descriptorIndex := 59, attributes := #[] }, { accessFlags := 0, nameIndex := 61, descriptorIndex := 62, attributes := #[] }, { accessFlags := 10, nameIndex := 25, descriptorIndex := 26, attributes := #[] }, { accessFlags := 10, nameIndex := 13, descriptorIndex := 14, attributes := #[] }] 48 4 #[] #[{ accessFlags := 26, nameIndex := 53, descriptorIndex := 54, attributes := #[] }, { accessFlags := 2, nameIndex := 17, descriptorIndex := 18, attributes := #[] }, { accessFlags := 2, nameIndex := 21, descriptorIndex := 22, attributes := #[] }, { accessFlags := 2, nameIndex := 40, descriptorIndex := 41, attributes := #[] }])
  fields := #[{ name := "EMPTY", type := .long, accessFlags := 26, slot := 0, constantValue := 0 }, { name := "keys", type := (.array .long), accessFlags := 2, slot := 0, constantValue := 0 }, { name := "values", type := (.array .int), accessFlags := 2, slot := 1, constantValue := 0 }, { name := "size", type := .int, accessFlags := 2, slot := 2, constantValue := 0 }]
  methods := #[k3m0, k3m1, k3m2, k3m3, k3m4]
  instanceTypes := #[(.array .long), (.array .int), .int]
  staticTypes := #[.long]
  resolved := Array.replicate 82 none
  statics := none }

def pool4 : Array CpInfo := pool [(2, .class_ 4), (1, u "java/lang/Object"), (0, u "<init>"), (0, u "()V"), (7, .class_ 16), (1, u "java/util/Arrays"), (57, .class_ 76), (1, u "java/util/Arrays$NaturalOrder"), (36, .class_ 115), (1, u "java/util/Arrays$LegacyMergeSort"), (1, u "Z"), (257, .class_ 376), (0, u "java/util/Arrays$ArrayList"), (68, u "$assertionsDisabled"), (269, u "MIN_ARRAY_SORT_GRAN"), (0, u "I"), (2, u "INSERTIONSORT_THRESHOLD"), (120, u "fill"), (0, u "([JJ)V"), (133, .class_ 976), (0, u "java/util/Arrays$ArrayItr")] 52

def k4m0 : Method := { name := "<init>", desc := "()V", sig := { parameters := [], returnType := none }, accessFlags := 2, code := none }
def k4c1 : Code := { maxStack := 4, maxLocals := 5, code := jdk_65_method_101_code, exceptionTable := #[], attributes := #[] }
def k4m1 : Method := { name := "fill", desc := "([JJ)V", sig := { parameters := [(.array .long), .long], returnType := none }, accessFlags := 9, code := some k4c1 }
/-- java/util/Arrays -/
def k4 : Class := { plain "java/util/Arrays" (some 0) with
  accessFlags := 49
  interfaces := #[]
  cf := some (fileOf pool4 14 #[.nestMembers #[975, 375, 113, 74]] #[{ accessFlags := 2, nameIndex := 5, descriptorIndex := 6, attributes := #[] }, { accessFlags := 9, nameIndex := 840, descriptorIndex := 841, attributes := #[] }] 49 2 #[] #[{ accessFlags := 26, nameIndex := 715, descriptorIndex := 716, attributes := #[] }, { accessFlags := 26, nameIndex := 719, descriptorIndex := 716, attributes := #[] }, { accessFlags := 4120, nameIndex := 445, descriptorIndex := 117, attributes := #[] }])
  fields := #[{ name := "MIN_ARRAY_SORT_GRAN", type := .int, accessFlags := 26, slot := 0, constantValue := 0 }, { name := "INSERTIONSORT_THRESHOLD", type := .int, accessFlags := 26, slot := 1, constantValue := 0 }, { name := "$assertionsDisabled", type := .boolean, accessFlags := 4120, slot := 2, constantValue := 0 }]
  methods := #[k4m0, k4m1]
  instanceTypes := #[]
  staticTypes := #[.int, .int, .boolean]
  resolved := Array.replicate 1029 none
  statics := none }

def pool5 : Array CpInfo := pool [(1, u "java/lang/Cloneable"), (0, .class_ 1), (0, u "java/lang/Object"), (0, .class_ 3)] 3

/-- java/lang/Cloneable -/
def k5 : Class := { plain "java/lang/Cloneable" (some 0) with
  accessFlags := 1537
  interfaces := #[]
  cf := some (fileOf pool5 2 #[] #[] 1537 4 #[] #[])
  fields := #[]
  methods := #[]
  instanceTypes := #[]
  staticTypes := #[]
  resolved := Array.replicate 8 none
  statics := none }

def pool6 : Array CpInfo := pool [(1, u "java/io/Serializable"), (0, .class_ 1), (0, u "java/lang/Object"), (0, .class_ 3)] 3

/-- java/io/Serializable -/
def k6 : Class := { plain "java/io/Serializable" (some 0) with
  accessFlags := 1537
  interfaces := #[]
  cf := some (fileOf pool6 2 #[] #[] 1537 4 #[] #[])
  fields := #[]
  methods := #[]
  instanceTypes := #[]
  staticTypes := #[]
  resolved := Array.replicate 8 none
  statics := none }

/-- the primitive byte -/
def k7 : Class := { plain "byte" none with kind := .primitive 'B', accessFlags := 0x411 }
/-- [B -/
def k8 : Class := { plain "[B" (some 0) with kind := .array 7 .byte, interfaces := #[5, 6], accessFlags := 1041 }

/-- the primitive int -/
def k9 : Class := { plain "int" none with kind := .primitive 'I', accessFlags := 0x411 }
/-- [I -/
def k10 : Class := { plain "[I" (some 0) with kind := .array 9 .int, interfaces := #[5, 6], accessFlags := 1041 }

/-- the primitive long -/
def k11 : Class := { plain "long" none with kind := .primitive 'J', accessFlags := 0x411 }
/-- [J -/
def k12 : Class := { plain "[J" (some 0) with kind := .array 11 .long, interfaces := #[5, 6], accessFlags := 1041 }

def heap : Heap := #[]
def classes : Array Class := #[k0, k1, k2, k3, k4, k5, k6, k7, k8, k9, k10, k11, k12]
def interned : List (Array UInt16 × Addr) := []
def slotsUsed : Nat := 0
def theMethod : MethodId := ⟨1, 1⟩
def args0 : Array Value := #[.int 1, .int 3, .int 2, .int 5, .int 4, .int 6]
def aboutOver (below : List Frame) : State where
  vm := { classes := classes, interned := interned.toArray }
  heap := heap
  slotsUsed := slotsUsed
  threads := #[{ frames := .invoking theMethod args0 :: below }]
def below0 : List Frame := [.native { method := ⟨0, 0⟩, args := #[] }]
def about1 : State := aboutOver below0
def p0 : Program := .bare "" "" ""
def e0 : Env := launch0.env 0 0 0
theorem w_frames : about1.frames = Frame.invoking theMethod args0 :: below0 := rfl
set_option maxRecDepth 65536 in
theorem w_args : argsFit about1.vm theMethod args0 = true := by decide +kernel
set_option maxRecDepth 65536 in
theorem w_heap : heapFits about1 = true := by decide +kernel
set_option maxRecDepth 65536 in
theorem w_runnable : about1.curStatus? = some .runnable := by decide +kernel
set_option maxRecDepth 65536 in
theorem w_alone : about1.alone = true := by decide +kernel
set_option maxRecDepth 65536 in
theorem w_named : about1.methodNamed? x = some theMethod := by decide +kernel
set_option maxRecDepth 65536 in
theorem w_hears : about1.hears theMethod below0 = true := by decide +kernel
set_option maxRecDepth 65536 in
theorem w_ripe : about1.ripe theMethod args0 below0 = true := by decide +kernel
theorem w_running : about1.status = .running := rfl
set_option maxRecDepth 65536 in
theorem w_room : about1.hasRoom e0.platform room_1 = true :=
  launch0.hasRoom_least _ room_1 (by decide +kernel) (by decide +kernel) (by decide +kernel) (by decide +kernel) (by decide +kernel) (by decide +kernel)
theorem allAtoms_all (ts : List Jvm.Cond) (a : Array Jvm.Value) (st : Jvm.State) : (allAtoms ts).before a st = ts.all (fun c => c.before a st) := by
  induction ts with
  | nil => rfl
  | cons c t ih =>
    show (Jvm.Cond.and c (allAtoms t)).before a st = _
    rw [Jvm.Cond.before_and, ih, List.all_cons]
def words1 : List Jvm.Cond := Jvm.Cond.code x code maxLocals ret :: tables_1
/-- a 'code' word, met by the world's own term for the bytes: nothing is compared byte by byte -/
theorem code_word {y : MethodName} {bytes : ByteArray} {mx : Nat} {rt : Option FieldType} {a : Array Value} {s : State} {m : MethodId} {meth : Method} {c : Code} (h1 : s.methodNamed? y = some m) (h2 : s.vm.method? m = some meth) (h3 : meth.code = some c) (h4 : c.code = bytes)
    (h5 : (c.maxLocals == mx && c.exceptionTable.isEmpty && decide (c.maxStack ≤ mostOperands) && decide (meth.sig.returnType = rt) && !meth.locks && decide (parseMethodDescriptor y.desc = some meth.sig)) = true) : (Jvm.Cond.code y bytes mx rt).before a s = true := by
  simp only [Bool.and_eq_true, beq_iff_eq, Bool.not_eq_true', decide_eq_true_eq] at h5
  obtain ⟨⟨⟨⟨⟨g1, g2⟩, g3⟩, g4⟩, g5⟩, g6⟩ := h5
  simp [Cond.before, Cond.holds, Cond.value, h1, h2, h3, h4, g1, g2, g3, g4, g5, g6]
def isCode : Jvm.Cond → Bool
  | .code _ _ _ _ => true
  | _ => false
theorem all_split {L : List Jvm.Cond} {P : Jvm.Cond → Bool} (h1 : L.all (fun c => isCode c || P c) = true) (h2 : ∀ c ∈ L.filter isCode, P c = true) : L.all P = true := by
  refine List.all_eq_true.mpr fun c hc => ?_
  have h := List.all_eq_true.mp h1 c hc
  rcases Bool.eq_false_or_eq_true (isCode c) with hi | hi
  · exact h2 c (List.mem_filter.mpr ⟨hc, hi⟩)
  · simpa [hi] using h
set_option maxRecDepth 65536 in
theorem w_c0 : (Jvm.Cond.code x code maxLocals ret).before args0 about1 = true := code_word (m := ⟨1, 1⟩) (meth := k1m1) (c := k1c1) (by decide +kernel) rfl rfl rfl (by decide +kernel)
set_option maxRecDepth 65536 in
theorem w_c1 : (Jvm.Cond.code ({ cls := "com/example/mopor/mopor/reduction/VectorTree", name := "<init>", desc := "(I)V" } : Jvm.MethodName) prog_24_method_1_code (2 : Nat) (Option.none : Option Jvm.ClassFile.FieldType)).before args0 about1 = true := code_word (m := ⟨2, 0⟩) (meth := k2m0) (c := k2c0) (by decide +kernel) rfl rfl rfl (by decide +kernel)
set_option maxRecDepth 65536 in
theorem w_c2 : (Jvm.Cond.code ({ cls := "java/lang/Object", name := "<init>", desc := "()V" } : Jvm.MethodName) object_method_1_code (1 : Nat) (Option.none : Option Jvm.ClassFile.FieldType)).before args0 about1 = true := code_word (m := ⟨0, 0⟩) (meth := k0m0) (c := k0c0) (by decide +kernel) rfl rfl rfl (by decide +kernel)
set_option maxRecDepth 65536 in
theorem w_c3 : (Jvm.Cond.code ({ cls := "com/example/mopor/mopor/reduction/LongIntTable", name := "<init>", desc := "()V" } : Jvm.MethodName) prog_19_method_1_code (1 : Nat) (Option.none : Option Jvm.ClassFile.FieldType)).before args0 about1 = true := code_word (m := ⟨3, 0⟩) (meth := k3m0) (c := k3c0) (by decide +kernel) rfl rfl rfl (by decide +kernel)
set_option maxRecDepth 65536 in
theorem w_c4 : (Jvm.Cond.code ({ cls := "com/example/mopor/mopor/reduction/LongIntTable", name := "emptyKeys", desc := "(I)[J" } : Jvm.MethodName) prog_19_method_6_code (2 : Nat) (Option.some (Jvm.ClassFile.FieldType.array Jvm.ClassFile.FieldType.long))).before args0 about1 = true := code_word (m := ⟨3, 4⟩) (meth := k3m4) (c := k3c4) (by decide +kernel) rfl rfl rfl (by decide +kernel)
set_option maxRecDepth 65536 in
theorem w_c5 : (Jvm.Cond.code ({ cls := "java/util/Arrays", name := "fill", desc := "([JJ)V" } : Jvm.MethodName) jdk_65_method_101_code (5 : Nat) (Option.none : Option Jvm.ClassFile.FieldType)).before args0 about1 = true := code_word (m := ⟨4, 1⟩) (meth := k4m1) (c := k4c1) (by decide +kernel) rfl rfl rfl (by decide +kernel)
set_option maxRecDepth 65536 in
theorem w_c6 : (Jvm.Cond.code ({ cls := "com/example/mopor/mopor/reduction/VectorTree", name := "root", desc := "(I)I" } : Jvm.MethodName) prog_24_method_2_code (3 : Nat) (Option.some Jvm.ClassFile.FieldType.int)).before args0 about1 = true := code_word (m := ⟨2, 1⟩) (meth := k2m1) (c := k2c1) (by decide +kernel) rfl rfl rfl (by decide +kernel)
set_option maxRecDepth 65536 in
theorem w_c7 : (Jvm.Cond.code ({ cls := "com/example/mopor/mopor/reduction/LongIntTable", name := "get", desc := "(J)I" } : Jvm.MethodName) prog_19_method_2_code (4 : Nat) (Option.some Jvm.ClassFile.FieldType.int)).before args0 about1 = true := code_word (m := ⟨3, 1⟩) (meth := k3m1) (c := k3c1) (by decide +kernel) rfl rfl rfl (by decide +kernel)
set_option maxRecDepth 65536 in
theorem w_c8 : (Jvm.Cond.code ({ cls := "com/example/mopor/mopor/reduction/LongIntTable", name := "slotOf", desc := "([JJ)I" } : Jvm.MethodName) prog_19_method_5_code (7 : Nat) (Option.some Jvm.ClassFile.FieldType.int)).before args0 about1 = true := code_word (m := ⟨3, 3⟩) (meth := k3m3) (c := k3c3) (by decide +kernel) rfl rfl rfl (by decide +kernel)
set_option maxRecDepth 65536 in
theorem w_c9 : (Jvm.Cond.code ({ cls := "com/example/mopor/mopor/reduction/VectorTree", name := "add", desc := "(IIII)I" } : Jvm.MethodName) prog_24_method_8_code (5 : Nat) (Option.some Jvm.ClassFile.FieldType.int)).before args0 about1 = true := code_word (m := ⟨2, 4⟩) (meth := k2m4) (c := k2c4) (by decide +kernel) rfl rfl rfl (by decide +kernel)
set_option maxRecDepth 65536 in
theorem w_c10 : (Jvm.Cond.code ({ cls := "com/example/mopor/mopor/reduction/LongIntTable", name := "add", desc := "(JI)Z" } : Jvm.MethodName) prog_19_method_3_code (5 : Nat) (Option.some Jvm.ClassFile.FieldType.boolean)).before args0 about1 = true := code_word (m := ⟨3, 2⟩) (meth := k3m2) (c := k3c2) (by decide +kernel) rfl rfl rfl (by decide +kernel)
set_option maxRecDepth 65536 in
theorem w_c11 : (Jvm.Cond.code ({ cls := "com/example/mopor/mopor/reduction/VectorTree", name := "addChild", desc := "(III)I" } : Jvm.MethodName) prog_24_method_4_code (5 : Nat) (Option.some Jvm.ClassFile.FieldType.int)).before args0 about1 = true := code_word (m := ⟨2, 2⟩) (meth := k2m2) (c := k2c2) (by decide +kernel) rfl rfl rfl (by decide +kernel)
set_option maxRecDepth 65536 in
theorem w_c12 : (Jvm.Cond.code ({ cls := "com/example/mopor/mopor/reduction/VectorTree", name := "key", desc := "(II)J" } : Jvm.MethodName) prog_24_method_9_code (3 : Nat) (Option.some Jvm.ClassFile.FieldType.long)).before args0 about1 = true := code_word (m := ⟨2, 5⟩) (meth := k2m5) (c := k2c5) (by decide +kernel) rfl rfl rfl (by decide +kernel)
set_option maxRecDepth 65536 in
theorem w_c13 : (Jvm.Cond.code ({ cls := "com/example/mopor/mopor/reduction/VectorTree", name := "start", desc := "(I)I" } : Jvm.MethodName) prog_24_method_6_code (3 : Nat) (Option.some Jvm.ClassFile.FieldType.int)).before args0 about1 = true := code_word (m := ⟨2, 3⟩) (meth := k2m3) (c := k2c3) (by decide +kernel) rfl rfl rfl (by decide +kernel)
def codes1 : List Jvm.Cond := [Jvm.Cond.code x code maxLocals ret, Jvm.Cond.code ({ cls := "com/example/mopor/mopor/reduction/VectorTree", name := "<init>", desc := "(I)V" } : Jvm.MethodName) prog_24_method_1_code (2 : Nat) (Option.none : Option Jvm.ClassFile.FieldType), Jvm.Cond.code ({ cls := "java/lang/Object", name := "<init>", desc := "()V" } : Jvm.MethodName) object_method_1_code (1 : Nat) (Option.none : Option Jvm.ClassFile.FieldType), Jvm.Cond.code ({ cls := "com/example/mopor/mopor/reduction/LongIntTable", name := "<init>", desc := "()V" } : Jvm.MethodName) prog_19_method_1_code (1 : Nat) (Option.none : Option Jvm.ClassFile.FieldType), Jvm.Cond.code ({ cls := "com/example/mopor/mopor/reduction/LongIntTable", name := "emptyKeys", desc := "(I)[J" } : Jvm.MethodName) prog_19_method_6_code (2 : Nat) (Option.some (Jvm.ClassFile.FieldType.array Jvm.ClassFile.FieldType.long)), Jvm.Cond.code ({ cls := "java/util/Arrays", name := "fill", desc := "([JJ)V" } : Jvm.MethodName) jdk_65_method_101_code (5 : Nat) (Option.none : Option Jvm.ClassFile.FieldType), Jvm.Cond.code ({ cls := "com/example/mopor/mopor/reduction/VectorTree", name := "root", desc := "(I)I" } : Jvm.MethodName) prog_24_method_2_code (3 : Nat) (Option.some Jvm.ClassFile.FieldType.int), Jvm.Cond.code ({ cls := "com/example/mopor/mopor/reduction/LongIntTable", name := "get", desc := "(J)I" } : Jvm.MethodName) prog_19_method_2_code (4 : Nat) (Option.some Jvm.ClassFile.FieldType.int), Jvm.Cond.code ({ cls := "com/example/mopor/mopor/reduction/LongIntTable", name := "slotOf", desc := "([JJ)I" } : Jvm.MethodName) prog_19_method_5_code (7 : Nat) (Option.some Jvm.ClassFile.FieldType.int), Jvm.Cond.code ({ cls := "com/example/mopor/mopor/reduction/VectorTree", name := "add", desc := "(IIII)I" } : Jvm.MethodName) prog_24_method_8_code (5 : Nat) (Option.some Jvm.ClassFile.FieldType.int), Jvm.Cond.code ({ cls := "com/example/mopor/mopor/reduction/LongIntTable", name := "add", desc := "(JI)Z" } : Jvm.MethodName) prog_19_method_3_code (5 : Nat) (Option.some Jvm.ClassFile.FieldType.boolean), Jvm.Cond.code ({ cls := "com/example/mopor/mopor/reduction/VectorTree", name := "addChild", desc := "(III)I" } : Jvm.MethodName) prog_24_method_4_code (5 : Nat) (Option.some Jvm.ClassFile.FieldType.int), Jvm.Cond.code ({ cls := "com/example/mopor/mopor/reduction/VectorTree", name := "key", desc := "(II)J" } : Jvm.MethodName) prog_24_method_9_code (3 : Nat) (Option.some Jvm.ClassFile.FieldType.long), Jvm.Cond.code ({ cls := "com/example/mopor/mopor/reduction/VectorTree", name := "start", desc := "(I)I" } : Jvm.MethodName) prog_24_method_6_code (3 : Nat) (Option.some Jvm.ClassFile.FieldType.int)]
set_option maxRecDepth 65536 in
theorem codes_eq : words1.filter isCode = codes1 := rfl
theorem w_codes : ∀ c ∈ words1.filter isCode, c.before args0 about1 = true := by
  rw [codes_eq]
  intro c hc
  simp only [codes1, List.mem_cons, List.not_mem_nil, or_false] at hc
  rcases hc with rfl | rfl | rfl | rfl | rfl | rfl | rfl | rfl | rfl | rfl | rfl | rfl | rfl | rfl
  · exact w_c0
  · exact w_c1
  · exact w_c2
  · exact w_c3
  · exact w_c4
  · exact w_c5
  · exact w_c6
  · exact w_c7
  · exact w_c8
  · exact w_c9
  · exact w_c10
  · exact w_c11
  · exact w_c12
  · exact w_c13
set_option maxRecDepth 65536 in
theorem w_t1 : (words1.take 24).all (fun c => isCode c || c.before args0 about1) = true := by decide +kernel
set_option maxRecDepth 65536 in
theorem w_t2 : ((words1.drop 24).take 24).all (fun c => isCode c || c.before args0 about1) = true := by decide +kernel
set_option maxRecDepth 65536 in
theorem w_t3 : (((words1.drop 24).drop 24).take 24).all (fun c => isCode c || c.before args0 about1) = true := by decide +kernel
set_option maxRecDepth 65536 in
theorem w_t4 : (((words1.drop 24).drop 24).drop 24).all (fun c => isCode c || c.before args0 about1) = true := by decide +kernel
theorem w_tables : (allAtoms (Jvm.Cond.code x code maxLocals ret :: tables_1)).before args0 about1 = true := by
  rw [allAtoms_all]
  show words1.all (fun c => c.before args0 about1) = true
  refine all_split ?_ w_codes
  rw [← List.take_append_drop 24 words1, List.all_append, w_t1, ← List.take_append_drop 24 (words1.drop 24), List.all_append, w_t2, ← List.take_append_drop 24 ((words1.drop 24).drop 24), List.all_append, w_t3, w_t4]
  rfl
set_option maxRecDepth 65536 in
theorem w_case : (Jvm.Cond.and given_1 narrow_1).before args0 about1 = true := by decide +kernel
theorem w_applies : (headSpec (Jvm.Cond.code x code maxLocals ret :: tables_1) room_1).applies x e0.platform about1 = true :=
  (Spec.applies_iff w_frames).mpr ⟨w_running, w_runnable, w_alone, w_named, w_hears, w_ripe, w_room, w_tables⟩
theorem atStart : AtStart classFile x code maxLocals ret World_1 tables_1 room_1 Calls_1 rest_1 Pre_1 launch0 p0 e0 about1 theMethod args0 below0 :=
  ⟨lists_1, trivial, launch0.admits_env _ _ _, launch0.least_env, fairChoices_fair.cas, fairChoices_fair.clock, w_frames, w_args, w_heap, w_applies, trivial, trivial, w_case⟩
end start1
theorem witness_1 : WitnessClaimed_1 := ⟨start1.p0, start1.e0, start1.about1, start1.theMethod, start1.args0, start1.below0, start1.atStart⟩
end Jvm.Pilot.@@N@@
