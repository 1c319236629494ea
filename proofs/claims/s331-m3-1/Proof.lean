import JvmDerived
import JvmDerived.Pilot.@@N@@Statement
import JvmDerived.Pilot.@@N@@Code
set_option linter.unusedVariables false
set_option linter.unusedSimpArgs false
namespace Jvm.RoadKit
open Sem ClassFile Op Lib Jvm.Stand Jvm.Free Jvm.LawKit
section New
variable {p : Program} {l : Launch} {e : Env} {R : Room} {s : State} {m : MethodId} {args : Array Value} {below : List Frame} {meth : Method} {c : Code} {T : State} {locs : List Loc} {cells slots : Nat}
theorem retI (X : Stand p l e R s m args below meth c T locs cells slots) (hx : p.tables.exec = Jvm.exec) {pc : Nat} {Ls : Array Slot} {z : Int32} {rest : List Value} (hret : meth.sig.returnType = some .int) (hd : decode c.code pc = .ok (.ireturn, 1)) {fs : List Frame}
    (hl : ∀ (f : JFrame) (acts : List Action), f.method = m → f.locked = none → f.entered = [] → (doReturn e (T.setTop f) acts (some (.int z))).1 = T.setFrames fs) : Steps p.tables e below (T.setTop (mkF m pc Ls (.int z :: rest))) (T.setFrames fs) := by
  have hm' : T.vm.method? m = some meth := X.method'
  have hn : narrow .int (.int z) = .int z := rfl
  show Steps p.tables e below (T.setTop { method := m, pc := pc, locals := Ls, stack := _ :: rest, locked := none }) _
  jvm_step X.here [X.here.top, hx, hd, hm', hret, hn]
  first | (intro acts; rw [hl _ acts rfl rfl rfl]) | rw [hl _ _ rfl rfl rfl]
  exact Steps.refl _
end New
end Jvm.RoadKit
namespace Jvm.Pilot.@@N@@
open Jvm Jvm.ClassFile Sem Op Lib Jvm.Free Jvm.Stand Jvm.LawKit Jvm.RoadKit Bundle Jvm.Pilot.@@N@@.Jvm.D
def QP (r : Option Value) (h0 : Heap) (n0 : Nat) (v : Option Value) (h : Heap) (L : List Loc) : Prop := v = r ∧ Fr n0 L ∧ h = h0
def Ctx (p : Program) (s : State) (m : MethodId) (meth : Method) (c : Code) (Z : State) (a0 : Array Value) (own : String) (bytes : ByteArray) (ml : Nat) (rt : Option FieldType) (name : String) : Prop :=
  p.tables.exec = Jvm.exec ∧ Z.Warmed39 s.vm ∧ (∀ d ∈ tables_1, d.before a0 Z = true) ∧ c.code = bytes ∧ c.maxLocals = ml ∧ s.vm.findClass own = some m.cls ∧ meth.sig.returnType = rt ∧ meth.locks = false ∧ meth.name = name
/-- from T with the frame g on top the run comes to a return, of which Φ holds -/
def Runs (p : Program) (e : Env) (below : List Frame) (s : State) (Φ : Option Value → Heap → List Loc → Prop) (k n : Nat) (T : State) (g : JFrame) : Prop :=
  ∃ s₂ o, Steps p.tables e below (T.setTop g) s₂ ∧ s₂.status = .running ∧ Ended s₂ below o ∧ ∃ v L, o = .returned v ∧ Φ v s₂.heap L ∧ FrameEnd s o s₂ L k n
section Own
variable {p : Program} {l : Launch} {e : Env} {R : Room} {s : State} {m : MethodId} {args : Array Value} {below : List Frame} {meth : Method} {c : Code} {T T' T0 Z : State} {a0 : Array Value} {locs : List Loc} {cells slots k n n0 : Nat} {h0 : Heap} {g g' : JFrame} {Φ : Option Value → Heap → List Loc → Prop}
theorem Runs.via (h : ∀ t, Steps p.tables e below (T'.setTop g') t → Steps p.tables e below (T.setTop g) t) (r : Runs p e below s Φ k n T' g') : Runs p e below s Φ k n T g := by
  obtain ⟨s₂, o, h1, r⟩ := r
  exact ⟨s₂, o, h _ h1, r⟩
theorem QP.cast {r r' : Option Value} (h : r = r') (H : Runs p e below s (QP r' h0 n0) k n T g) : Runs p e below s (QP r h0 n0) k n T g := by rw [h]; exact H
theorem own_retI (X : Stand p l e R s m args below meth c T locs cells slots) (hx : p.tables.exec = Jvm.exec) (hlk : meth.locks = false) (hret : meth.sig.returnType = some .int) {pc : Nat} {Ls : Array Slot} {z : Int32} {rest : List Value} (hd : decode c.code pc = .ok (.ireturn, 1)) (hk : cells ≤ k) (hn : slots ≤ n) (hΦ : Φ (some (.int z)) T.heap locs) :
    Runs p e below s Φ k n T (mkF m pc Ls (.int z :: rest)) := by
  obtain ⟨fs, hr, hrun, hended, hW, hsame⟩ := X.leave (v := some (.int z)) (fun h => by rw [hret] at h; cases h) hlk
  exact ⟨_, _, retI X hx hret hd hr, hrun, hended, _, _, rfl, hΦ, ⟨_, rfl⟩, hW, hsame.mono hk hn⟩
theorem own_retN (X : Stand p l e R s m args below meth c T locs cells slots) (hx : p.tables.exec = Jvm.exec) (hlk : meth.locks = false) {t : FieldType} (hret : meth.sig.returnType = some t) (ht : t = .boolean ∨ t = .byte ∨ t = .char ∨ t = .short) {pc : Nat} {Ls : Array Slot} {z : Int32} {rest : List Value} (hd : decode c.code pc = .ok (.ireturn, 1)) (hk : cells ≤ k) (hn : slots ≤ n) (hΦ : Φ (some (.int (nar t z))) T.heap locs) :
    Runs p e below s Φ k n T (mkF m pc Ls (.int z :: rest)) := by
  obtain ⟨fs, hr, hrun, hended, hW, hsame⟩ := X.leave (v := some (.int (nar t z))) (fun h => by rw [hret] at h; cases h) hlk
  exact ⟨_, _, retN X hx hret ht hd hr, hrun, hended, _, _, rfl, hΦ, ⟨_, rfl⟩, hW, hsame.mono hk hn⟩
theorem own_retJ (X : Stand p l e R s m args below meth c T locs cells slots) (hx : p.tables.exec = Jvm.exec) (hlk : meth.locks = false) (hret : meth.sig.returnType = some .long) {pc : Nat} {Ls : Array Slot} {z : Int64} (hd : decode c.code pc = .ok (.lreturn, 1)) (hk : cells ≤ k) (hn : slots ≤ n) (hΦ : Φ (some (.long z)) T.heap locs) :
    Runs p e below s Φ k n T (mkF m pc Ls [.long z]) := by
  obtain ⟨fs, hr, hrun, hended, hW, hsame⟩ := X.leave (v := some (.long z)) (fun h => by rw [hret] at h; cases h) hlk
  exact ⟨_, _, X.lreturnOut hx hret hd hr, hrun, hended, _, _, rfl, hΦ, ⟨_, rfl⟩, hW, hsame.mono hk hn⟩
theorem own_privSel {s : State} {args : Array Value} {y : MethodName} {n : Nat} (hwi : (Cond.instantiable y.cls n).before args s = true) (hp : (Cond.privateMethod y).before args s = true) (hinst : (Cond.instanceMethod y).before args s = true) (hy : y.cls ≠ "java/lang/invoke/MethodHandle" ∧ y.cls ≠ "java/lang/invoke/VarHandle") : (Cond.selects y.cls y y).before args s = true := by
  obtain ⟨c, k, h1, h2, h3, h4, -⟩ := Cond.instantiable_spec hwi
  exact selects_self_of_private h1 h2 (by simp only [Bool.or_eq_false_iff] at h4; exact h4.1) (Cond.privateMethod_at hp) hinst hy
theorem own_retV (X : Stand p l e R s m args below meth c T locs cells slots) (hx : p.tables.exec = Jvm.exec) (hlk : meth.locks = false) (hret : meth.sig.returnType = none) {pc : Nat} {Ls : Array Slot} (hd : decode c.code pc = .ok (.return_, 1)) (hk : cells ≤ k) (hn : slots ≤ n) (hΦ : Φ none T.heap locs) :
    Runs p e below s Φ k n T (mkF m pc Ls []) := by
  obtain ⟨fs, hr, hrun, hended, hW, hsame⟩ := X.leave (v := none) (fun _ => rfl) hlk
  exact ⟨_, _, X.returnOut hx hret hd hr, hrun, hended, _, _, rfl, hΦ, ⟨_, rfl⟩, hW, hsame.mono hk hn⟩
theorem own_retR (X : Stand p l e R s m args below meth c T locs cells slots) (hx : p.tables.exec = Jvm.exec) (hlk : meth.locks = false) {t : FieldType} (hret : meth.sig.returnType = some t) (ht : t.isReference = true) {pc : Nat} {Ls : Array Slot} {a : Addr} {rest : List Value} (hd : decode c.code pc = .ok (.areturn, 1)) (hk : cells ≤ k) (hn : slots ≤ n) (hΦ : Φ (some (.ref a)) T.heap locs) :
    Runs p e below s Φ k n T (mkF m pc Ls (.ref a :: rest)) := by
  obtain ⟨fs, hr, hrun, hended, hW, hsame⟩ := X.leave (v := some (.ref a)) (fun h => by rw [hret] at h; cases h) hlk
  exact ⟨_, _, retOut X hx hret (by cases t <;> first | rfl | (cases ht; done)) (Or.inr (Or.inr (Or.inr (Or.inr ⟨rfl, ht, rfl⟩)))) hd hr, hrun, hended, _, _, rfl, hΦ, ⟨_, rfl⟩, hW, hsame.mono hk hn⟩
theorem bindE {α β : Type} {G : Prop} {x : Option α} {k : α → Option β} {r : β} (hr : x.bind k = some r) (H : ∀ v, x = some v → k v = some r → G) : G := by
  cases x with
  | none => exact nomatch hr
  | some v => exact H v rfl hr
def letO {α β : Type} (x : α) (k : α → β) : β := k x
theorem letE {α β : Type} {G : Prop} {x : α} {k : α → Option β} {r : β} (hr : letO x k = some r) (H : ∀ v, v = x → k v = some r → G) : G := H x rfl hr
theorem iteE {β : Type} {G P : Prop} [Decidable P] {a b : Option β} {r : β} (hr : (if P then a else b) = some r) (H1 : P → a = some r → G) (H2 : ¬ P → b = some r → G) : G := by
  by_cases h : P
  · rw [if_pos h] at hr; exact H1 h hr
  · rw [if_neg h] at hr; exact H2 h hr
/-- an array's place, a store, its length, a new array -/
def rdO {α : Type} (xs : List α) (j : Int32) : Option α := if j < 0 then none else xs[j.toNatClampNeg]?
def wrO {α : Type} (xs : List α) (j : Int32) (v : α) : Option (List α) := if j < 0 ∨ xs.length ≤ j.toNatClampNeg then none else some (xs.set j.toNatClampNeg v)
def lenO {α : Type} (xs : List α) : Int32 := xs.length.toInt32
def mkO (n : Int32) (cap : Nat) : Option (List Int32) := if n < 0 ∨ cap < n.toNatClampNeg then none else some (List.replicate n.toNatClampNeg 0)
def mkOJ (n : Int32) (cap : Nat) : Option (List Int64) := if n < 0 ∨ cap < n.toNatClampNeg then none else some (List.replicate n.toNatClampNeg 0)
def AI (Z : State) (h : Heap) (a : Addr) (ty : FieldType) (xs : List Int32) : Prop := ∃ c : Cell, Arr Z h a c ty ∧ c.slots = (xs.map Value.int).toArray
def AJ (Z : State) (h : Heap) (a : Addr) (ty : FieldType) (xs : List Int64) : Prop := ∃ c : Cell, Arr Z h a c ty ∧ c.slots = (xs.map Value.long).toArray
section Arrs
variable {p : Program} {l : Launch} {e : Env} {R : Room} {s : State} {m : MethodId} {args : Array Value} {below : List Frame} {meth : Method} {c : Code} {T Z : State} {a0 : Array Value} {locs : List Loc} {cells slots : Nat} {h h' : Heap} {a b : Addr} {ty : FieldType} {sl : Nat} {v : Value} {ws : List Addr}
theorem AI.lt {xs : List Int32} (F : AI Z h a ty xs) : a < h.size := by obtain ⟨c, A, -⟩ := F; exact A.lt
theorem AI.ext {xs : List Int32} (F : AI Z h a ty xs) (E : Ext h h') : AI Z h' a ty xs := by obtain ⟨c, A, q⟩ := F; exact ⟨c, A.ext E, q⟩
theorem AI.other {xs : List Int32} (F : AI Z h b ty xs) (W : Wr h h' a sl v) (q : b ≠ a) : AI Z h' b ty xs := by obtain ⟨c, A, r⟩ := F; exact ⟨c, A.other W q, r⟩
theorem AI.keep {xs : List Int32} (F : AI Z h a ty xs) (K : Keep h h' ws) (q : a ∉ ws) : AI Z h' a ty xs := by obtain ⟨c, A, r⟩ := F; exact ⟨c, ⟨K.2.1 a c A.1 q, A.2⟩, r⟩
theorem AJ.lt {xs : List Int64} (F : AJ Z h a ty xs) : a < h.size := by obtain ⟨c, A, -⟩ := F; exact A.lt
theorem AJ.ext {xs : List Int64} (F : AJ Z h a ty xs) (E : Ext h h') : AJ Z h' a ty xs := by obtain ⟨c, A, q⟩ := F; exact ⟨c, A.ext E, q⟩
theorem AJ.other {xs : List Int64} (F : AJ Z h b ty xs) (W : Wr h h' a sl v) (q : b ≠ a) : AJ Z h' b ty xs := by obtain ⟨c, A, r⟩ := F; exact ⟨c, A.other W q, r⟩
theorem AJ.keep {xs : List Int64} (F : AJ Z h a ty xs) (K : Keep h h' ws) (q : a ∉ ws) : AJ Z h' a ty xs := by obtain ⟨c, A, r⟩ := F; exact ⟨c, ⟨K.2.1 a c A.1 q, A.2⟩, r⟩
theorem rd_at {α : Type} {f : α → Value} {xs : List α} {j : Int32} {z : α} {cl : Cell} (q : cl.slots = (xs.map f).toArray) (hr : rdO xs j = some z) : ¬ (j < 0 ∨ cl.slots.size ≤ j.toNatClampNeg) ∧ cl.slots[j.toNatClampNeg]? = some (f z) := by
  unfold rdO at hr
  by_cases hj : j < 0
  · rw [if_pos hj] at hr; exact nomatch hr
  · rw [if_neg hj] at hr
    obtain ⟨hi, he⟩ := List.getElem?_eq_some_iff.mp hr
    rw [q]
    refine ⟨?_, by simp [hr]⟩
    rintro (h1 | h1)
    · exact hj h1
    · simp at h1; omega
theorem wr_at2 {α : Type} {f : α → Value} {xs xs' : List α} {j : Int32} {z : α} {cl : Cell} (q : cl.slots = (xs.map f).toArray) (hr : wrO xs j z = some xs') : ¬ (j < 0 ∨ cl.slots.size ≤ j.toNatClampNeg) ∧ (cl.setSlot j.toNatClampNeg (f z)).slots = (xs'.map f).toArray := by
  unfold wrO at hr
  by_cases hj : j < 0 ∨ xs.length ≤ j.toNatClampNeg
  · rw [if_pos hj] at hr; exact nomatch hr
  · rw [if_neg hj] at hr
    obtain rfl := Option.some.inj hr
    refine ⟨by rw [q]; simpa using hj, ?_⟩
    simp only [Cell.setSlot, q]
    simp [List.map_set]
theorem ldI (X : Stand p l e R s m args below meth c T locs cells slots) (hx : p.tables.exec = Jvm.exec) (hZ : Z.Warmed39 s.vm) (eT : T.heap = h) {xs : List Int32} (A : AI Z h a .int xs) {j z : Int32} (hr : rdO xs j = some z) {g : JFrame} (hg : g.method = m) {rest : List Value} (hs : g.stack = .int j :: .ref a :: rest) (hd : decode c.code g.pc = .ok (.iaload, 1)) :
    ∀ target, Steps p.tables e below (T.setTop { g with pc := g.pc + 1, stack := .int z :: rest }) target → Steps p.tables e below (T.setTop g) target := by
  obtain ⟨cl, A, q⟩ := A
  obtain ⟨h1, h2⟩ := rd_at q hr
  exact X.iaload hx (j := j) (v := .int z) (by rw [eT]; exact A.1) (State.isArrayOf_alike hZ.alike A.2.1) A.2.2 h1 h2 hg hs hd
theorem ldB (X : Stand p l e R s m args below meth c T locs cells slots) (hx : p.tables.exec = Jvm.exec) (hZ : Z.Warmed39 s.vm) (eT : T.heap = h) {xs : List Int32} (A : AI Z h a .byte xs) {j z : Int32} (hr : rdO xs j = some z) {g : JFrame} (hg : g.method = m) {rest : List Value} (hs : g.stack = .int j :: .ref a :: rest) (hd : decode c.code g.pc = .ok (.baload, 1)) :
    ∀ target, Steps p.tables e below (T.setTop { g with pc := g.pc + 1, stack := .int z :: rest }) target → Steps p.tables e below (T.setTop g) target := by
  obtain ⟨cl, A, q⟩ := A
  obtain ⟨h1, h2⟩ := rd_at q hr
  exact X.baloadBytes hx (j := j) (v := .int z) (by rw [eT]; exact A.1) (State.isArrayOf_alike hZ.alike A.2.1) A.2.2 h1 h2 hg hs hd
theorem ldJ (X : Stand p l e R s m args below meth c T locs cells slots) (hx : p.tables.exec = Jvm.exec) (hZ : Z.Warmed39 s.vm) (eT : T.heap = h) {xs : List Int64} (A : AJ Z h a .long xs) {j : Int32} {z : Int64} (hr : rdO xs j = some z) {g : JFrame} (hg : g.method = m) {rest : List Value} (hs : g.stack = .int j :: .ref a :: rest) (hd : decode c.code g.pc = .ok (.laload, 1)) :
    ∀ target, Steps p.tables e below (T.setTop { g with pc := g.pc + 1, stack := .long z :: rest }) target → Steps p.tables e below (T.setTop g) target := by
  obtain ⟨cl, A, q⟩ := A
  obtain ⟨h1, h2⟩ := rd_at q hr
  exact X.laload hx (j := j) (v := .long z) (by rw [eT]; exact A.1) (State.isArrayOf_alike hZ.alike A.2.1) A.2.2 h1 h2 hg hs hd
theorem soI (X : Stand p l e R s m args below meth c T locs cells slots) (hx : p.tables.exec = Jvm.exec) (hZ : Z.Warmed39 s.vm) (eT : T.heap = h) {xs xs' : List Int32} (A : AI Z h a .int xs) {j z : Int32} (hr : wrO xs j z = some xs') {g : JFrame} (hg : g.method = m) {rest : List Value} (hs : g.stack = .int z :: .int j :: .ref a :: rest) (hd : decode c.code g.pc = .ok (.iastore, 1)) :
    ∃ T' h', Stand p l e R s m args below meth c T' (locs ++ [⟨a, j.toNatClampNeg⟩]) cells slots ∧ T'.heap = h' ∧ Wr h h' a j.toNatClampNeg (.int z) ∧ AI Z h' a .int xs' ∧ ∀ target, Steps p.tables e below (T'.setTop { g with pc := g.pc + 1, stack := rest }) target → Steps p.tables e below (T.setTop g) target := by
  obtain ⟨cl, A, q⟩ := A
  obtain ⟨h1, h2⟩ := wr_at2 q hr
  obtain ⟨T', h', X', e', W, st⟩ := stI X hx hZ eT A h1 hg hs hd
  exact ⟨T', h', X', e', W, ⟨_, A.same W, h2⟩, st⟩
theorem soB (X : Stand p l e R s m args below meth c T locs cells slots) (hx : p.tables.exec = Jvm.exec) (hZ : Z.Warmed39 s.vm) (eT : T.heap = h) {xs xs' : List Int32} (A : AI Z h a .byte xs) {j z : Int32} (hr : wrO xs j (z.toInt8.toInt32) = some xs') {g : JFrame} (hg : g.method = m) {rest : List Value} (hs : g.stack = .int z :: .int j :: .ref a :: rest) (hd : decode c.code g.pc = .ok (.bastore, 1)) :
    ∃ T' h', Stand p l e R s m args below meth c T' (locs ++ [⟨a, j.toNatClampNeg⟩]) cells slots ∧ T'.heap = h' ∧ Wr h h' a j.toNatClampNeg (.int (z.toInt8.toInt32)) ∧ AI Z h' a .byte xs' ∧ ∀ target, Steps p.tables e below (T'.setTop { g with pc := g.pc + 1, stack := rest }) target → Steps p.tables e below (T.setTop g) target := by
  obtain ⟨cl, A, q⟩ := A
  obtain ⟨h1, h2⟩ := wr_at2 q hr
  obtain ⟨T', h', X', e', W, st⟩ := stB X hx hZ eT A h1 hg hs hd
  exact ⟨T', h', X', e', W, ⟨_, A.same W, h2⟩, st⟩
theorem soJ (X : Stand p l e R s m args below meth c T locs cells slots) (hx : p.tables.exec = Jvm.exec) (hZ : Z.Warmed39 s.vm) (eT : T.heap = h) {xs xs' : List Int64} (A : AJ Z h a .long xs) {j : Int32} {z : Int64} (hr : wrO xs j z = some xs') {g : JFrame} (hg : g.method = m) {rest : List Value} (hs : g.stack = .long z :: .int j :: .ref a :: rest) (hd : decode c.code g.pc = .ok (.lastore, 1)) :
    ∃ T' h', Stand p l e R s m args below meth c T' (locs ++ [⟨a, j.toNatClampNeg⟩]) cells slots ∧ T'.heap = h' ∧ Wr h h' a j.toNatClampNeg (.long z) ∧ AJ Z h' a .long xs' ∧ ∀ target, Steps p.tables e below (T'.setTop { g with pc := g.pc + 1, stack := rest }) target → Steps p.tables e below (T.setTop g) target := by
  obtain ⟨cl, A, q⟩ := A
  obtain ⟨h1, h2⟩ := wr_at2 q hr
  obtain ⟨T', h', X', e', W, st⟩ := stJ X hx hZ eT A h1 hg hs hd
  exact ⟨T', h', X', e', W, ⟨_, A.same W, h2⟩, st⟩
theorem lenAI (X : Stand p l e R s m args below meth c T locs cells slots) (hx : p.tables.exec = Jvm.exec) (hZ : Z.Warmed39 s.vm) (eT : T.heap = h) {xs : List Int32} (A : AI Z h a ty xs) {g : JFrame} (hg : g.method = m) {rest : List Value} (hs : g.stack = .ref a :: rest) (hd : decode c.code g.pc = .ok (.arraylength, 1)) :
    ∀ target, Steps p.tables e below (T.setTop { g with pc := g.pc + 1, stack := .int (lenO xs) :: rest }) target → Steps p.tables e below (T.setTop g) target := by
  obtain ⟨cl, A, q⟩ := A
  have e1 : cl.slots.size.toInt32 = lenO xs := by rw [q]; simp [lenO]
  intro t k
  refine X.arraylength hx (by rw [eT]; exact A.1) (State.isArrayOf_alike hZ.alike A.2.1) hg hs hd _ ?_
  rw [e1]; exact k
theorem lenAJ (X : Stand p l e R s m args below meth c T locs cells slots) (hx : p.tables.exec = Jvm.exec) (hZ : Z.Warmed39 s.vm) (eT : T.heap = h) {xs : List Int64} (A : AJ Z h a ty xs) {g : JFrame} (hg : g.method = m) {rest : List Value} (hs : g.stack = .ref a :: rest) (hd : decode c.code g.pc = .ok (.arraylength, 1)) :
    ∀ target, Steps p.tables e below (T.setTop { g with pc := g.pc + 1, stack := .int (lenO xs) :: rest }) target → Steps p.tables e below (T.setTop g) target := by
  obtain ⟨cl, A, q⟩ := A
  have e1 : cl.slots.size.toInt32 = lenO xs := by rw [q]; simp [lenO]
  intro t k
  refine X.arraylength hx (by rw [eT]; exact A.1) (State.isArrayOf_alike hZ.alike A.2.1) hg hs hd _ ?_
  rw [e1]; exact k
theorem newI (X : Stand p l e R s m args below meth c T locs cells slots) (hx : p.tables.exec = Jvm.exec) (hZ : Z.Warmed39 s.vm) {aty : ArrayType} (ht : newarray.typeOf aty = ty) (hdv : defaultValue ty = .int 0) (w : (Cond.arrayClass ty).before a0 Z = true) (eT : T.heap = h) {n : Int32} {cap : Nat} {xs : List Int32} (hr : mkO n cap = some xs) {g : JFrame} (hg : g.method = m) (hd : decode c.code g.pc = .ok (.newarray aty, 2)) {rest : List Value} (hs : g.stack = .int n :: rest) (hb : cap * 8 ≤ 536870912) (hc : cells + 1 ≤ R.cells) (hl : slots + cap ≤ R.slots) :
    ∃ T' h', Stand p l e R s m args below meth c T' locs (cells + 1) (slots + cap) ∧ T'.heap = h' ∧ Ext h h' ∧ AI Z h' h.size ty xs ∧ ∀ target, Steps p.tables e below (T'.setTop { g with pc := g.pc + 2, stack := .ref h.size :: rest }) target → Steps p.tables e below (T.setTop g) target := by
  subst ht
  unfold mkO at hr
  by_cases hn : n < 0 ∨ cap < n.toNatClampNeg
  · rw [if_pos hn] at hr; exact nomatch hr
  · rw [if_neg hn] at hr
    obtain rfl := Option.some.inj hr
    obtain ⟨T', h', cA, X', e', E, A, st⟩ := newP X hx hZ w eT hg hd hs (fun q => hn (Or.inl q)) (cap := cap) (Nat.le_of_not_lt fun q => hn (Or.inr q)) hb hc hl
    exact ⟨T', h', X', e', E, ⟨_, A, by simp [newA, hdv]⟩, st⟩
theorem newJ (X : Stand p l e R s m args below meth c T locs cells slots) (hx : p.tables.exec = Jvm.exec) (hZ : Z.Warmed39 s.vm) {aty : ArrayType} (ht : newarray.typeOf aty = .long) (w : (Cond.arrayClass .long).before a0 Z = true) (eT : T.heap = h) {n : Int32} {cap : Nat} {xs : List Int64} (hr : mkOJ n cap = some xs) {g : JFrame} (hg : g.method = m) (hd : decode c.code g.pc = .ok (.newarray aty, 2)) {rest : List Value} (hs : g.stack = .int n :: rest) (hb : cap * 8 ≤ 536870912) (hc : cells + 1 ≤ R.cells) (hl : slots + cap ≤ R.slots) :
    ∃ T' h', Stand p l e R s m args below meth c T' locs (cells + 1) (slots + cap) ∧ T'.heap = h' ∧ Ext h h' ∧ AJ Z h' h.size .long xs ∧ ∀ target, Steps p.tables e below (T'.setTop { g with pc := g.pc + 2, stack := .ref h.size :: rest }) target → Steps p.tables e below (T.setTop g) target := by
  unfold mkOJ at hr
  by_cases hn : n < 0 ∨ cap < n.toNatClampNeg
  · rw [if_pos hn] at hr; exact nomatch hr
  · rw [if_neg hn] at hr
    obtain rfl := Option.some.inj hr
    obtain ⟨T', h', cA, X', e', E, A, st⟩ := newP X hx hZ (by rw [ht]; exact w) eT hg hd hs (fun q => hn (Or.inl q)) (cap := cap) (Nat.le_of_not_lt fun q => hn (Or.inr q)) hb hc hl
    rw [ht] at A
    exact ⟨T', h', X', e', E, ⟨_, A, by simp [newA, defaultValue]⟩, st⟩
end Arrs
theorem d1_0 : decode method_3_code 0 = .ok (.lload_n 0, 1) := by decide +kernel
theorem d1_1 : decode method_3_code 1 = .ok (.ldc2_w 30, 3) := by decide +kernel
theorem d1_4 : decode method_3_code 4 = .ok (.lcmp, 1) := by decide +kernel
theorem d1_5 : decode method_3_code 5 = .ok (.ifCond .ne 9, 3) := by decide +kernel
theorem d1_8 : decode method_3_code 8 = .ok (.ldc2_w 32, 3) := by decide +kernel
theorem d1_11 : decode method_3_code 11 = .ok (.goto 4, 3) := by decide +kernel
theorem d1_14 : decode method_3_code 14 = .ok (.lload_n 0, 1) := by decide +kernel
theorem d1_15 : decode method_3_code 15 = .ok (.lreturn, 1) := by decide +kernel
def g1_0 (y0 : Int64) : Int64 := (if y0 = (-9223372036854775808 : Int64) then (9223372036854775807 : Int64) else y0)
set_option maxRecDepth 65536 in
set_option maxHeartbeats 4000000 in
theorem b1_0 (C : Ctx p s m meth c Z a0 "com/example/mopor/mopor/reduction/LongIntTableGetPinLaw" method_3_code 2 (some .long) "fix") (X0 : Stand p l e ({ frames := 0, cells := 0, slots := 0, locals := 0 } : Room) s m args below meth c T0 locs cells slots) (e0 : T0.heap = h0) (N0 : Fr n0 locs) (hk : cells ≤ 0) (hn : slots ≤ 0) (y0 : Int64) :
    Runs p e below s (QP (some (.long (g1_0 y0))) h0 n0) 0 0 T0 (mkF m 0 #[.val (.long y0), .second] []) := by
  have ⟨hx, hZ, hw, hby, hml, hown, hret, hlk, hnm⟩ := C
  refine Runs.via (T' := T0) (g' := (mkF m 5 #[.val (.long y0), .second] [(.int (lcmpW y0 (-9223372036854775808 : Int64)))])) (fun t k => ?_) ?_
  · show Steps p.tables e below (T0.setTop (mkF m 0 #[.val (.long y0), .second] [])) t
    refine XS.lloadN X0.here hx rfl (hb hby d1_0) rfl ?_
    show Steps p.tables e below (T0.setTop (mkF m 1 #[.val (.long y0), .second] [(.long y0)])) t
    refine X0.ldc2Long hx hown (mvT hZ (hw _ (List.mem_of_getElem? (i := 4) rfl))) (g := (mkF m 1 #[.val (.long y0), .second] [(.long y0)])) rfl (hb hby d1_1) _ ?_
    show Steps p.tables e below (T0.setTop (mkF m 4 #[.val (.long y0), .second] [(.long (-9223372036854775808 : Int64)), (.long y0)])) t
    refine XS.lcmp X0.here hx rfl (hb hby d1_4) rfl ?_
    exact k
  by_cases hc1 : y0 = (-9223372036854775808 : Int64)
  · refine Runs.via (T' := T0) (g' := (mkF m 8 #[.val (.long y0), .second] [])) (fun t k => ?_) ?_
    · show Steps p.tables e below (T0.setTop (mkF m 5 #[.val (.long y0), .second] [(.int (lcmpW y0 (-9223372036854775808 : Int64)))])) t
      exact XS.ifNo X0.here hx rfl (hb hby d1_5) rfl ((if0 _ _).trans (teq ((lw_eq _ _).mpr hc1)).2) k
    refine Runs.via (T' := T0) (g' := (mkF m 15 #[.val (.long y0), .second] [(.long (9223372036854775807 : Int64))])) (fun t k => ?_) ?_
    · show Steps p.tables e below (T0.setTop (mkF m 8 #[.val (.long y0), .second] [])) t
      refine X0.ldc2Long hx hown (mvT hZ (hw _ (List.mem_of_getElem? (i := 47) rfl))) (g := (mkF m 8 #[.val (.long y0), .second] [])) rfl (hb hby d1_8) _ ?_
      show Steps p.tables e below (T0.setTop (mkF m 11 #[.val (.long y0), .second] [(.long (9223372036854775807 : Int64))])) t
      refine XS.goto X0.here hx rfl (pc0 := 11) (pc' := 15) rfl (hb hby d1_11) (by decide) (by decide) ?_
      exact k
    refine QP.cast (congrArg (fun z => some (Value.long z)) (show (g1_0 y0) = (9223372036854775807 : Int64) from (if_pos hc1))) ?_
    exact own_retJ X0 hx hlk hret (hb hby d1_15) hk hn ⟨rfl, N0, e0⟩
  · refine Runs.via (T' := T0) (g' := (mkF m 14 #[.val (.long y0), .second] [])) (fun t k => ?_) ?_
    · show Steps p.tables e below (T0.setTop (mkF m 5 #[.val (.long y0), .second] [(.int (lcmpW y0 (-9223372036854775808 : Int64)))])) t
      exact XS.ifYes X0.here hx rfl (pc0 := 5) (pc' := 14) rfl (hb hby d1_5) rfl ((if0 _ _).trans (feq (fun q => hc1 ((lw_eq _ _).mp q))).2) (by decide) (by decide) k
    refine Runs.via (T' := T0) (g' := (mkF m 15 #[.val (.long y0), .second] [(.long y0)])) (fun t k => ?_) ?_
    · show Steps p.tables e below (T0.setTop (mkF m 14 #[.val (.long y0), .second] [])) t
      refine XS.lloadN X0.here hx rfl (hb hby d1_14) rfl ?_
      exact k
    refine QP.cast (congrArg (fun z => some (Value.long z)) (show (g1_0 y0) = y0 from (if_neg hc1))) ?_
    exact own_retJ X0 hx hlk hret (hb hby d1_15) hk hn ⟨rfl, N0, e0⟩
def f1 (y0 : Int64) : Int64 := g1_0 y0
theorem pn_1 : plainName "com/example/mopor/mopor/reduction/LongIntTableGetPinLaw" = true := by first | (simp [plainName, overriddenIn]; done) | decide +kernel
theorem ef_1 (m : MethodId) (y0 : Int64) : entryFrame m #[(.long y0)] 2 = mkF m 0 #[.val (.long y0), .second] [] := by first | (simp [entryFrame, mkF, argsToLocals, Value.category]; done) | rfl
set_option maxRecDepth 65536 in
set_option maxHeartbeats 4000000 in
theorem rm1 (l : Launch) (Z : State) (a0 : Array Value) (hw : ∀ d ∈ tables_1, d.before a0 Z = true) (ws : List Jvm.Cond) (y0 : Int64) (h0 : Heap) (n0 : Nat) :
    MetFree l (⟨"com/example/mopor/mopor/reduction/LongIntTableGetPinLaw", "fix", "(J)J"⟩ : MethodName) (head1 (Jvm.Cond.code (⟨"com/example/mopor/mopor/reduction/LongIntTableGetPinLaw", "fix", "(J)J"⟩ : MethodName) method_3_code 2 (some .long) :: ws) ({ frames := 0, cells := 0, slots := 0, locals := 0 } : Room)) (fun a U => a = #[(.long y0)] ∧ Z.Warmed39 U.vm ∧ U.heap = h0) (fun _ _ _ _ _ => True) (fun _ U o U' => ∃ v L, o = .returned v ∧ QP (some (.long (f1 y0))) h0 n0 v U'.heap L ∧ FrameEnd U o U' L ({ frames := 0, cells := 0, slots := 0, locals := 0 } : Room).cells ({ frames := 0, cells := 0, slots := 0, locals := 0 } : Room).slots) := by
  refine MetFree.of_bodySF (plainFor_of_name pn_1) hisR ?_
  intro p e s m args below meth c s₁ Bd hml0 hP hK
  obtain ⟨rfl, hZ, hh⟩ := hP
  have X0 : Stand p l e ({ frames := 0, cells := 0, slots := 0, locals := 0 } : Room) s m #[(.long y0)] below meth c s₁ [] 0 0 := Stand.of_body Bd
  have e0 : s₁.heap = h0 := by rw [← hh, Bd.state]; rfl
  have C : Ctx p s m meth c Z a0 "com/example/mopor/mopor/reduction/LongIntTableGetPinLaw" method_3_code 2 (some .long) "fix" := ⟨Bd.exec, hZ, hw, Bd.bytes, hml0, findClass_of_methodNamed Bd.named, Bd.returns, BodyLoose.notSynchronized Bd, (name_of_methodNamed Bd.named Bd.method).1⟩
  refine Runs.via (fun t k => castTop (ef_1 m y0) k) (b1_0 C X0 e0 (Fr.nil n0) (Nat.le_refl 0) (Nat.le_refl 0) y0)
theorem pd_0 : parseMethodDescriptor "(J)J" = some ⟨[.long], some .long⟩ := by decide +kernel
theorem d5_0 : decode jdk_65_method_101_code 0 = .ok (.iconst 0, 1) := by decide +kernel
theorem d5_1 : decode jdk_65_method_101_code 1 = .ok (.istore_n 3, 1) := by decide +kernel
theorem d5_2 : decode jdk_65_method_101_code 2 = .ok (.aload_n 0, 1) := by decide +kernel
theorem d5_3 : decode jdk_65_method_101_code 3 = .ok (.arraylength, 1) := by decide +kernel
theorem d5_4 : decode jdk_65_method_101_code 4 = .ok (.istore 4, 2) := by decide +kernel
theorem d5_6 : decode jdk_65_method_101_code 6 = .ok (.iload_n 3, 1) := by decide +kernel
theorem d5_7 : decode jdk_65_method_101_code 7 = .ok (.iload 4, 2) := by decide +kernel
theorem d5_9 : decode jdk_65_method_101_code 9 = .ok (.if_icmp .ge 13, 3) := by decide +kernel
theorem d5_12 : decode jdk_65_method_101_code 12 = .ok (.aload_n 0, 1) := by decide +kernel
theorem d5_13 : decode jdk_65_method_101_code 13 = .ok (.iload_n 3, 1) := by decide +kernel
theorem d5_14 : decode jdk_65_method_101_code 14 = .ok (.lload_n 1, 1) := by decide +kernel
theorem d5_15 : decode jdk_65_method_101_code 15 = .ok (.lastore, 1) := by decide +kernel
theorem d5_16 : decode jdk_65_method_101_code 16 = .ok (.iinc 3 1, 3) := by decide +kernel
theorem d5_19 : decode jdk_65_method_101_code 19 = .ok (.goto (-13), 3) := by decide +kernel
theorem d5_22 : decode jdk_65_method_101_code 22 = .ok (.return_, 1) := by decide +kernel
def P5 (Z : State) (hE : Heap) (a1 : Addr) (q_a1 : List Int64) (n0 : Nat) (r : List Int64) (v : Option Value) (h : Heap) (L : List Loc) : Prop := v = none ∧ Fr n0 L ∧ Keep hE h [a1] ∧ AJ Z h a1 .long r
def s5_6 (K6 : Int64 → Int32 → Int32 → List Int64 → Option (List Int64)) (fuel : Nat) (y1 : Int64) (x3 : Int32) (x4 : Int32) (q_a1 : List Int64) : Option (List Int64) := (if x3 < x4 then ((wrO q_a1 x3 y1).bind fun v2 => (K6 y1 (x3 + (1 : Int32)) x4 v2)) else some q_a1)
def h5_6 (fuel : Nat) : Nat → Int64 → Int32 → Int32 → List Int64 → Option (List Int64)
  | 0 => fun _ _ _ _ => none
  | n + 1 => fun y1 x3 x4 q_a1 => s5_6 (h5_6 fuel n) fuel y1 x3 x4 q_a1
def g5_6 (fuel : Nat) (y1 : Int64) (x3 : Int32) (x4 : Int32) (q_a1 : List Int64) : Option (List Int64) := h5_6 fuel fuel y1 x3 x4 q_a1
set_option maxRecDepth 65536 in
set_option maxHeartbeats 4000000 in
theorem t5_6 {hE : Heap} {a1 : Addr} {q_a1₀ : List Int64} (fuel : Nat) {r : List Int64} (C : Ctx p s m meth c Z a0 "java/util/Arrays" jdk_65_method_101_code 5 none "fill") (K6 : Int64 → Int32 → Int32 → List Int64 → Option (List Int64)) (hK6 : ∀ {T0 : State} {locs : List Loc} {cells slots : Nat} {h0 : Heap} (X0 : Stand p l e ({ frames := 0, cells := 0, slots := 0, locals := 0 } : Room) s m args below meth c T0 locs cells slots) (e0 : T0.heap = h0) (N0 : Fr n0 locs) (hk : cells ≤ 0) (hn : slots ≤ 0) (Z1 : n0 ≤ h0.size) (KE : Keep hE h0 [a1]) (o0 : n0 ≤ a1) (q_a1 : List Int64) (y1 : Int64) (x3 : Int32) (x4 : Int32) (A_a1_0 : AJ Z h0 a1 .long q_a1), K6 y1 x3 x4 q_a1 = some r → Runs p e below s (P5 Z hE a1 q_a1₀ n0 r) 0 0 T0 (mkF m 6 #[.val (.ref a1), .val (.long y1), .second, .val (.int x3), .val (.int x4)] [])) (X0 : Stand p l e ({ frames := 0, cells := 0, slots := 0, locals := 0 } : Room) s m args below meth c T0 locs cells slots) (e0 : T0.heap = h0) (N0 : Fr n0 locs) (hk : cells ≤ 0) (hn : slots ≤ 0) (Z1 : n0 ≤ h0.size) (KE : Keep hE h0 [a1]) (o0 : n0 ≤ a1) (q_a1 : List Int64) (y1 : Int64) (x3 : Int32) (x4 : Int32) (A_a1_0 : AJ Z h0 a1 .long q_a1) (hr : s5_6 K6 fuel y1 x3 x4 q_a1 = some r) :
    Runs p e below s (P5 Z hE a1 q_a1₀ n0 r) 0 0 T0 (mkF m 6 #[.val (.ref a1), .val (.long y1), .second, .val (.int x3), .val (.int x4)] []) := by
  unfold s5_6 at hr
  have ⟨hx, hZ, hw, hby, hml, hown, hret, hlk, hnm⟩ := C
  refine Runs.via (T' := T0) (g' := (mkF m 9 #[.val (.ref a1), .val (.long y1), .second, .val (.int x3), .val (.int x4)] [(.int x4), (.int x3)])) (fun t k => ?_) ?_
  · show Steps p.tables e below (T0.setTop (mkF m 6 #[.val (.ref a1), .val (.long y1), .second, .val (.int x3), .val (.int x4)] [])) t
    refine XS.iloadN X0.here hx rfl (hb hby d5_6) rfl ?_
    show Steps p.tables e below (T0.setTop (mkF m 7 #[.val (.ref a1), .val (.long y1), .second, .val (.int x3), .val (.int x4)] [(.int x3)])) t
    refine XS.iload X0.here hx rfl (hb hby d5_7) rfl ?_
    exact k
  refine iteE hr (fun hc1 hr => ?_) (fun hc1 hr => ?_)
  · refine Runs.via (T' := T0) (g' := (mkF m 12 #[.val (.ref a1), .val (.long y1), .second, .val (.int x3), .val (.int x4)] [])) (fun t k => ?_) ?_
    · show Steps p.tables e below (T0.setTop (mkF m 9 #[.val (.ref a1), .val (.long y1), .second, .val (.int x3), .val (.int x4)] [(.int x4), (.int x3)])) t
      exact XS.icmpNo X0.here hx rfl (hb hby d5_9) rfl (tlt hc1).2.1 k
    refine Runs.via (T' := T0) (g' := (mkF m 15 #[.val (.ref a1), .val (.long y1), .second, .val (.int x3), .val (.int x4)] [(.long y1), (.int x3), (.ref a1)])) (fun t k => ?_) ?_
    · show Steps p.tables e below (T0.setTop (mkF m 12 #[.val (.ref a1), .val (.long y1), .second, .val (.int x3), .val (.int x4)] [])) t
      refine XS.aloadN X0.here hx rfl (hb hby d5_12) rfl rfl ?_
      show Steps p.tables e below (T0.setTop (mkF m 13 #[.val (.ref a1), .val (.long y1), .second, .val (.int x3), .val (.int x4)] [(.ref a1)])) t
      refine XS.iloadN X0.here hx rfl (hb hby d5_13) rfl ?_
      show Steps p.tables e below (T0.setTop (mkF m 14 #[.val (.ref a1), .val (.long y1), .second, .val (.int x3), .val (.int x4)] [(.int x3), (.ref a1)])) t
      refine XS.lloadN X0.here hx rfl (hb hby d5_14) rfl ?_
      exact k
    refine bindE hr ?_; intro v2 hv2 hr
    obtain ⟨T2, h2, X2, e2, W2, A2, st2⟩ := soJ X0 hx hZ e0 A_a1_0 hv2 (g := (mkF m 15 #[.val (.ref a1), .val (.long y1), .second, .val (.int x3), .val (.int x4)] [(.long y1), (.int x3), (.ref a1)])) rfl rfl (hb hby d5_15)
    have A_a1_2 : AJ Z h2 a1 .long v2 := A2
    have N2 := Fr.snoc X2 N0 (by omega : n0 ≤ a1)
    have zz2 : n0 ≤ h2.size := Nat.le_trans Z1 (Keep.of_wr W2).1
    have K2 := KE.wr W2 (Or.inl (List.mem_of_getElem? (i := 0) rfl))
    refine Runs.via (T' := T2) (g' := (mkF m 16 #[.val (.ref a1), .val (.long y1), .second, .val (.int x3), .val (.int x4)] [])) (fun t k => st2 _ k) ?_
    refine Runs.via (T' := T2) (g' := (mkF m 6 #[.val (.ref a1), .val (.long y1), .second, .val (.int (x3 + (1 : Int32))), .val (.int x4)] [])) (fun t k => ?_) ?_
    · show Steps p.tables e below (T2.setTop (mkF m 16 #[.val (.ref a1), .val (.long y1), .second, .val (.int x3), .val (.int x4)] [])) t
      refine XS.iinc X2.here hx rfl (hb hby d5_16) rfl (l' := #[.val (.ref a1), .val (.long y1), .second, .val (.int (x3 + (1 : Int32))), .val (.int x4)]) rfl ?_
      show Steps p.tables e below (T2.setTop (mkF m 19 #[.val (.ref a1), .val (.long y1), .second, .val (.int (x3 + (1 : Int32))), .val (.int x4)] [])) t
      refine XS.goto X2.here hx rfl (pc0 := 19) (pc' := 6) rfl (hb hby d5_19) (by decide) (by decide) ?_
      exact k
    exact hK6 X2 e2 N2 (by show cells ≤ 0; omega) (by show slots ≤ 0; omega) zz2 K2 (by omega) v2 y1 (x3 + (1 : Int32)) x4 A_a1_2 hr
  · refine Runs.via (T' := T0) (g' := (mkF m 22 #[.val (.ref a1), .val (.long y1), .second, .val (.int x3), .val (.int x4)] [])) (fun t k => ?_) ?_
    · show Steps p.tables e below (T0.setTop (mkF m 9 #[.val (.ref a1), .val (.long y1), .second, .val (.int x3), .val (.int x4)] [(.int x4), (.int x3)])) t
      exact XS.icmpYes X0.here hx rfl (pc0 := 9) (pc' := 22) rfl (hb hby d5_9) rfl (flt hc1).2.1 (by decide) (by decide) k
    obtain rfl := Option.some.inj hr
    exact own_retV X0 hx hlk hret (hb hby d5_22) (by show cells ≤ 0; omega) (by show slots ≤ 0; omega) ⟨rfl, N0, (by rw [e0]; exact KE), (by rw [e0]; exact A_a1_0)⟩
set_option maxRecDepth 65536 in
set_option maxHeartbeats 4000000 in
theorem u5_6 {hE : Heap} {a1 : Addr} {q_a1₀ : List Int64} (fuel : Nat) {r : List Int64} (C : Ctx p s m meth c Z a0 "java/util/Arrays" jdk_65_method_101_code 5 none "fill") : ∀ n : Nat, ∀ {T0 : State} {locs : List Loc} {cells slots : Nat} {h0 : Heap} (X0 : Stand p l e ({ frames := 0, cells := 0, slots := 0, locals := 0 } : Room) s m args below meth c T0 locs cells slots) (e0 : T0.heap = h0) (N0 : Fr n0 locs) (hk : cells ≤ 0) (hn : slots ≤ 0) (Z1 : n0 ≤ h0.size) (KE : Keep hE h0 [a1]) (o0 : n0 ≤ a1) (q_a1 : List Int64) (y1 : Int64) (x3 : Int32) (x4 : Int32) (A_a1_0 : AJ Z h0 a1 .long q_a1), h5_6 fuel n y1 x3 x4 q_a1 = some r → Runs p e below s (P5 Z hE a1 q_a1₀ n0 r) 0 0 T0 (mkF m 6 #[.val (.ref a1), .val (.long y1), .second, .val (.int x3), .val (.int x4)] []) := by
  intro n
  induction n with
  | zero => intros; rename_i hr; exact absurd hr (by simp [h5_6])
  | succ n ih =>
    intro T0 locs cells slots h0 X0 e0 N0 hk hn Z1 KE o0 q_a1 y1 x3 x4 A_a1_0 hr
    exact t5_6 fuel C _ ih X0 e0 N0 hk hn Z1 KE o0 q_a1 y1 x3 x4 A_a1_0 hr
set_option maxRecDepth 65536 in
set_option maxHeartbeats 4000000 in
theorem b5_6 {hE : Heap} {a1 : Addr} {q_a1₀ : List Int64} {r : List Int64} (C : Ctx p s m meth c Z a0 "java/util/Arrays" jdk_65_method_101_code 5 none "fill") (fuel : Nat) (X0 : Stand p l e ({ frames := 0, cells := 0, slots := 0, locals := 0 } : Room) s m args below meth c T0 locs cells slots) (e0 : T0.heap = h0) (N0 : Fr n0 locs) (hk : cells ≤ 0) (hn : slots ≤ 0) (Z1 : n0 ≤ h0.size) (KE : Keep hE h0 [a1]) (o0 : n0 ≤ a1) (q_a1 : List Int64) (y1 : Int64) (x3 : Int32) (x4 : Int32) (A_a1_0 : AJ Z h0 a1 .long q_a1) (hr : g5_6 fuel y1 x3 x4 q_a1 = some r) :
    Runs p e below s (P5 Z hE a1 q_a1₀ n0 r) 0 0 T0 (mkF m 6 #[.val (.ref a1), .val (.long y1), .second, .val (.int x3), .val (.int x4)] []) := u5_6 fuel C fuel X0 e0 N0 hk hn Z1 KE o0 q_a1 y1 x3 x4 A_a1_0 hr
def g5_0 (fuel : Nat) (y1 : Int64) (q_a1 : List Int64) : Option (List Int64) := (letO (lenO q_a1) fun v1 => (g5_6 fuel y1 (0 : Int32) v1 q_a1))
set_option maxRecDepth 65536 in
set_option maxHeartbeats 4000000 in
theorem b5_0 {hE : Heap} {a1 : Addr} {q_a1₀ : List Int64} {r : List Int64} (C : Ctx p s m meth c Z a0 "java/util/Arrays" jdk_65_method_101_code 5 none "fill") (fuel : Nat) (X0 : Stand p l e ({ frames := 0, cells := 0, slots := 0, locals := 0 } : Room) s m args below meth c T0 locs cells slots) (e0 : T0.heap = h0) (N0 : Fr n0 locs) (hk : cells ≤ 0) (hn : slots ≤ 0) (Z1 : n0 ≤ h0.size) (KE : Keep hE h0 [a1]) (o0 : n0 ≤ a1) (q_a1 : List Int64) (y1 : Int64) (A_a1_0 : AJ Z h0 a1 .long q_a1) (hr : g5_0 fuel y1 q_a1 = some r) :
    Runs p e below s (P5 Z hE a1 q_a1₀ n0 r) 0 0 T0 (mkF m 0 #[.val (.ref a1), .val (.long y1), .second, .unset, .unset] []) := by
  unfold g5_0 at hr
  have ⟨hx, hZ, hw, hby, hml, hown, hret, hlk, hnm⟩ := C
  refine Runs.via (T' := T0) (g' := (mkF m 4 #[.val (.ref a1), .val (.long y1), .second, .val (.int (0 : Int32)), .unset] [(.int (lenO q_a1))])) (fun t k => ?_) ?_
  · show Steps p.tables e below (T0.setTop (mkF m 0 #[.val (.ref a1), .val (.long y1), .second, .unset, .unset] [])) t
    refine XS.iconst X0.here hx rfl (hb hby d5_0) ?_
    show Steps p.tables e below (T0.setTop (mkF m 1 #[.val (.ref a1), .val (.long y1), .second, .unset, .unset] [(.int (0 : Int32))])) t
    refine XS.istoreN X0.here hx rfl (hb hby d5_1) rfl (l' := #[.val (.ref a1), .val (.long y1), .second, .val (.int (0 : Int32)), .unset]) rfl ?_
    show Steps p.tables e below (T0.setTop (mkF m 2 #[.val (.ref a1), .val (.long y1), .second, .val (.int (0 : Int32)), .unset] [])) t
    refine XS.aloadN X0.here hx rfl (hb hby d5_2) rfl rfl ?_
    show Steps p.tables e below (T0.setTop (mkF m 3 #[.val (.ref a1), .val (.long y1), .second, .val (.int (0 : Int32)), .unset] [(.ref a1)])) t
    refine lenAJ X0 hx hZ e0 A_a1_0 rfl (g := (mkF m 3 #[.val (.ref a1), .val (.long y1), .second, .val (.int (0 : Int32)), .unset] [(.ref a1)])) rfl (hb hby d5_3) _ ?_
    exact k
  refine letE hr ?_; intro v1 hv1 hr
  rw [← hv1]
  refine Runs.via (T' := T0) (g' := (mkF m 6 #[.val (.ref a1), .val (.long y1), .second, .val (.int (0 : Int32)), .val (.int v1)] [])) (fun t k => ?_) ?_
  · show Steps p.tables e below (T0.setTop (mkF m 4 #[.val (.ref a1), .val (.long y1), .second, .val (.int (0 : Int32)), .unset] [(.int v1)])) t
    refine XS.istore X0.here hx rfl (hb hby d5_4) rfl (l' := #[.val (.ref a1), .val (.long y1), .second, .val (.int (0 : Int32)), .val (.int v1)]) rfl ?_
    exact k
  exact b5_6 C fuel X0 e0 N0 (by show cells ≤ 0; omega) (by show slots ≤ 0; omega) Z1 KE (by omega) q_a1 y1 (0 : Int32) v1 A_a1_0 hr
def f5 (fuel : Nat) (y1 : Int64) (q_a1 : List Int64) : Option (List Int64) := g5_0 fuel y1 q_a1
theorem pn_5 : plainName "java/util/Arrays" = true := by first | (simp [plainName, overriddenIn]; done) | decide +kernel
theorem ef_5 (m : MethodId) (y1 : Int64) (a1 : Addr) : entryFrame m #[(.ref a1), (.long y1)] 5 = mkF m 0 #[.val (.ref a1), .val (.long y1), .second, .unset, .unset] [] := by first | (simp [entryFrame, mkF, argsToLocals, Value.category]; done) | rfl
set_option maxRecDepth 65536 in
set_option maxHeartbeats 4000000 in
theorem rm5 (l : Launch) (Z : State) (a0 : Array Value) (hw : ∀ d ∈ tables_1, d.before a0 Z = true) (ws : List Jvm.Cond) (y1 : Int64) (a1 : Addr) (q_a1 : List Int64) (hE : Heap) (n0 : Nat) (Z0 : n0 ≤ hE.size) (o0 : n0 ≤ a1) (A_a1_0 : AJ Z hE a1 .long q_a1) (fuel : Nat) (r : List Int64) (hr : f5 fuel y1 q_a1 = some r) :
    MetFree l (⟨"java/util/Arrays", "fill", "([JJ)V"⟩ : MethodName) (head1 (Jvm.Cond.code (⟨"java/util/Arrays", "fill", "([JJ)V"⟩ : MethodName) jdk_65_method_101_code 5 none :: ws) ({ frames := 0, cells := 0, slots := 0, locals := 0 } : Room)) (fun a U => a = #[(.ref a1), (.long y1)] ∧ Z.Warmed39 U.vm ∧ U.heap = hE) (fun _ _ _ _ _ => True) (fun _ U o U' => ∃ v L, o = .returned v ∧ (P5 Z hE a1 q_a1 n0 r v U'.heap L) ∧ FrameEnd U o U' L ({ frames := 0, cells := 0, slots := 0, locals := 0 } : Room).cells ({ frames := 0, cells := 0, slots := 0, locals := 0 } : Room).slots) := by
  refine MetFree.of_bodySF (plainFor_of_name pn_5) hisR ?_
  intro p e s m args below meth c s₁ Bd hml0 hP hK
  obtain ⟨rfl, hZ, hh⟩ := hP
  have X0 : Stand p l e ({ frames := 0, cells := 0, slots := 0, locals := 0 } : Room) s m #[(.ref a1), (.long y1)] below meth c s₁ [] 0 0 := Stand.of_body Bd
  have e0 : s₁.heap = hE := by rw [← hh, Bd.state]; rfl
  have C : Ctx p s m meth c Z a0 "java/util/Arrays" jdk_65_method_101_code 5 none "fill" := ⟨Bd.exec, hZ, hw, Bd.bytes, hml0, findClass_of_methodNamed Bd.named, Bd.returns, BodyLoose.notSynchronized Bd, (name_of_methodNamed Bd.named Bd.method).1⟩
  refine Runs.via (fun t k => castTop (ef_5 m y1 a1) k) (b5_0 C fuel X0 e0 (Fr.nil n0) (by show 0 ≤ 0; omega) (by show 0 ≤ 0; omega) Z0 (Keep.refl hE [a1]) (by omega) q_a1 y1 A_a1_0 hr)
theorem pd_1 : parseMethodDescriptor "([JJ)V" = some ⟨[(.array .long), .long], none⟩ := by decide +kernel
theorem d4_0 : decode prog_19_method_6_code 0 = .ok (.iload_n 0, 1) := by decide +kernel
theorem d4_1 : decode prog_19_method_6_code 1 = .ok (.newarray .long, 2) := by decide +kernel
theorem d4_3 : decode prog_19_method_6_code 3 = .ok (.astore_n 1, 1) := by decide +kernel
theorem d4_4 : decode prog_19_method_6_code 4 = .ok (.aload_n 1, 1) := by decide +kernel
theorem d4_5 : decode prog_19_method_6_code 5 = .ok (.ldc2_w 27, 3) := by decide +kernel
theorem d4_8 : decode prog_19_method_6_code 8 = .ok (.invokestatic 47, 3) := by decide +kernel
theorem d4_11 : decode prog_19_method_6_code 11 = .ok (.aload_n 1, 1) := by decide +kernel
theorem d4_12 : decode prog_19_method_6_code 12 = .ok (.areturn, 1) := by decide +kernel
def P4 (Z : State) (hE : Heap) (n0 : Nat) (r : List Int64) (v : Option Value) (h : Heap) (L : List Loc) : Prop := ∃ n0_4 : Addr, v = some (.ref n0_4) ∧ Fr n0 L ∧ Keep hE h [] ∧ hE.size ≤ n0_4 ∧ AJ Z h n0_4 .long r
def g4_0 (fuel : Nat) (x0 : Int32) : Option (List Int64) := ((mkOJ x0 16).bind fun v1 => ((f5 fuel (-9223372036854775808 : Int64) v1).bind fun r2 => some r2))
set_option maxRecDepth 65536 in
set_option maxHeartbeats 4000000 in
theorem b4_0 {hE : Heap} {r : List Int64} (C : Ctx p s m meth c Z a0 "com/example/mopor/mopor/reduction/LongIntTable" prog_19_method_6_code 2 (some (.array .long)) "emptyKeys") (fuel : Nat) (X0 : Stand p l e ({ frames := 1, cells := 1, slots := 16, locals := 16 } : Room) s m args below meth c T0 locs cells slots) (e0 : T0.heap = h0) (N0 : Fr n0 locs) (hk : cells ≤ 0) (hn : slots ≤ 0) (Z1 : n0 ≤ h0.size) (KE : Keep hE h0 []) (x0 : Int32) (hr : g4_0 fuel x0 = some r) :
    Runs p e below s (P4 Z hE n0 r) 1 16 T0 (mkF m 0 #[.val (.int x0), .unset] []) := by
  unfold g4_0 at hr
  have ⟨hx, hZ, hw, hby, hml, hown, hret, hlk, hnm⟩ := C
  refine Runs.via (T' := T0) (g' := (mkF m 1 #[.val (.int x0), .unset] [(.int x0)])) (fun t k => ?_) ?_
  · show Steps p.tables e below (T0.setTop (mkF m 0 #[.val (.int x0), .unset] [])) t
    refine XS.iloadN X0.here hx rfl (hb hby d4_0) rfl ?_
    exact k
  refine bindE hr ?_; intro v1 hv1 hr
  obtain ⟨T1, h1, X1, e1, E1, A1, st1⟩ := newJ X0 hx hZ (aty := .long) rfl  (hw _ (List.mem_of_getElem? (i := 17) rfl)) e0 hv1 (g := (mkF m 1 #[.val (.int x0), .unset] [(.int x0)])) rfl (hb hby d4_1) rfl (by decide) (by show cells + 1 ≤ 1; omega) (by show slots + 16 ≤ 16; omega)
  obtain ⟨c1_4, g1⟩ : ∃ z, z = h0.size := ⟨_, rfl⟩
  rw [← g1] at A1 st1
  have i1 := E1.1
  have K1 := KE.ext E1
  have zs1 : hE.size ≤ c1_4 := by have := KE.1; omega
  have zz1 : n0 ≤ h1.size := Nat.le_trans Z1 i1
  have A_c1_4_1 := A1
  have sc1_4 : n0 ≤ c1_4 := by omega
  refine Runs.via (T' := T1) (g' := (mkF m 3 #[.val (.int x0), .unset] [(.ref c1_4)])) (fun t k => st1 _ k) ?_
  refine Runs.via (T' := T1) (g' := (mkF m 8 #[.val (.int x0), .val (.ref c1_4)] [(.long (-9223372036854775808 : Int64)), (.ref c1_4)])) (fun t k => ?_) ?_
  · show Steps p.tables e below (T1.setTop (mkF m 3 #[.val (.int x0), .unset] [(.ref c1_4)])) t
    refine XS.astoreN X1.here hx rfl (hb hby d4_3) rfl rfl (l' := #[.val (.int x0), .val (.ref c1_4)]) rfl ?_
    show Steps p.tables e below (T1.setTop (mkF m 4 #[.val (.int x0), .val (.ref c1_4)] [])) t
    refine XS.aloadN X1.here hx rfl (hb hby d4_4) rfl rfl ?_
    show Steps p.tables e below (T1.setTop (mkF m 5 #[.val (.int x0), .val (.ref c1_4)] [(.ref c1_4)])) t
    refine X1.ldc2Long hx hown (mvT hZ (hw _ (List.mem_of_getElem? (i := 18) rfl))) (g := (mkF m 5 #[.val (.int x0), .val (.ref c1_4)] [(.ref c1_4)])) rfl (hb hby d4_5) _ ?_
    exact k
  refine bindE hr ?_; intro r2 hr2m hr
  obtain ⟨_, _, ⟨T2, L2, k2, n2⟩, -, X2, ⟨Lc2, hQ2, l2, y2, z2⟩, st2⟩ := Jvm.LawKit.callS X1 hx (y := (⟨"java/util/Arrays", "fill", "([JJ)V"⟩ : MethodName)) hown (mvT hZ (hw _ (List.mem_of_getElem? (i := 19) rfl))) (mvT hZ (hw _ (List.mem_of_getElem? (i := 20) rfl))) (mvT hZ (hw _ (List.mem_of_getElem? (i := 21) rfl))) (mvT hZ (hw _ (List.mem_of_getElem? (i := 22) rfl))) (by decide) (backOf (W := 0) (rm5 l Z a0 hw [] (-9223372036854775808 : Int64) c1_4 v1 h1 n0 zz1 (by omega) A_c1_4_1 fuel r2 hr2m) hZ (hw _ (List.mem_of_getElem? (i := 22) rfl)) (hw _ (List.mem_of_getElem? (i := 21) rfl)) (by decide) (by decide)) (g := (mkF m 8 #[.val (.int x0), .val (.ref c1_4)] [(.long (-9223372036854775808 : Int64)), (.ref c1_4)])) rfl (by rw [hml]; rfl) (argsL := [(.ref c1_4), (.long (-9223372036854775808 : Int64))]) (rest := []) (lenOf pd_1 rfl) rfl (by show 2 * 0 + _ ≤ _; exact Nat.le_of_eq rfl) (hb hby d4_8) (fun _ _ => ⟨rfl, e1, (by show (cells + 1) + 0 ≤ 1; omega), (by show (slots + 16) + 0 ≤ 16; omega)⟩)
  dsimp only [Pt.U, Pt.locs, Pt.cells, Pt.slots] at X2 l2 y2 z2 st2 hQ2
  replace y2 := y2.symm; replace z2 := z2.symm; subst l2 y2 z2
  obtain ⟨h2, e2⟩ : ∃ z, T2.heap = z := ⟨_, rfl⟩
  rw [e2] at hQ2
  obtain ⟨rfl, N2q, K2q, A_c1_4_2⟩ := hQ2
  have N2 := Fr.app N0 N2q
  have K2 := K1.trans K2q (allS (Or.inr (by omega)) all0)
  have zz2 : n0 ≤ h2.size := Nat.le_trans zz1 K2q.1
  refine Runs.via (T' := T2) (g' := (mkF m 11 #[.val (.int x0), .val (.ref c1_4)] [])) (fun t k => st2 _ k) ?_
  refine Runs.via (T' := T2) (g' := (mkF m 12 #[.val (.int x0), .val (.ref c1_4)] [(.ref c1_4)])) (fun t k => ?_) ?_
  · show Steps p.tables e below (T2.setTop (mkF m 11 #[.val (.int x0), .val (.ref c1_4)] [])) t
    refine XS.aloadN X2.here hx rfl (hb hby d4_11) rfl rfl ?_
    exact k
  obtain rfl := Option.some.inj hr
  exact own_retR X2 hx hlk hret rfl (hb hby d4_12) (by show ((cells + 1) + 0) ≤ 1; omega) (by show ((slots + 16) + 0) ≤ 16; omega) ⟨c1_4, rfl, N2, (by rw [e2]; exact K2), (by omega), (by rw [e2]; exact A_c1_4_2)⟩
def f4 (fuel : Nat) (x0 : Int32) : Option (List Int64) := g4_0 fuel x0
theorem pn_4 : plainName "com/example/mopor/mopor/reduction/LongIntTable" = true := by first | (simp [plainName, overriddenIn]; done) | decide +kernel
theorem ef_4 (m : MethodId) (x0 : Int32) : entryFrame m #[(.int x0)] 2 = mkF m 0 #[.val (.int x0), .unset] [] := by first | (simp [entryFrame, mkF, argsToLocals, Value.category]; done) | rfl
set_option maxRecDepth 65536 in
set_option maxHeartbeats 4000000 in
theorem rm4 (l : Launch) (Z : State) (a0 : Array Value) (hw : ∀ d ∈ tables_1, d.before a0 Z = true) (ws : List Jvm.Cond) (x0 : Int32) (hE : Heap) (n0 : Nat) (Z0 : n0 ≤ hE.size) (fuel : Nat) (r : List Int64) (hr : f4 fuel x0 = some r) :
    MetFree l (⟨"com/example/mopor/mopor/reduction/LongIntTable", "emptyKeys", "(I)[J"⟩ : MethodName) (head1 (Jvm.Cond.code (⟨"com/example/mopor/mopor/reduction/LongIntTable", "emptyKeys", "(I)[J"⟩ : MethodName) prog_19_method_6_code 2 (some (.array .long)) :: ws) ({ frames := 1, cells := 1, slots := 16, locals := 16 } : Room)) (fun a U => a = #[(.int x0)] ∧ Z.Warmed39 U.vm ∧ U.heap = hE) (fun _ _ _ _ _ => True) (fun _ U o U' => ∃ v L, o = .returned v ∧ (P4 Z hE n0 r v U'.heap L) ∧ FrameEnd U o U' L ({ frames := 1, cells := 1, slots := 16, locals := 16 } : Room).cells ({ frames := 1, cells := 1, slots := 16, locals := 16 } : Room).slots) := by
  refine MetFree.of_bodySF (plainFor_of_name pn_4) hisR ?_
  intro p e s m args below meth c s₁ Bd hml0 hP hK
  obtain ⟨rfl, hZ, hh⟩ := hP
  have X0 : Stand p l e ({ frames := 1, cells := 1, slots := 16, locals := 16 } : Room) s m #[(.int x0)] below meth c s₁ [] 0 0 := Stand.of_body Bd
  have e0 : s₁.heap = hE := by rw [← hh, Bd.state]; rfl
  have C : Ctx p s m meth c Z a0 "com/example/mopor/mopor/reduction/LongIntTable" prog_19_method_6_code 2 (some (.array .long)) "emptyKeys" := ⟨Bd.exec, hZ, hw, Bd.bytes, hml0, findClass_of_methodNamed Bd.named, Bd.returns, BodyLoose.notSynchronized Bd, (name_of_methodNamed Bd.named Bd.method).1⟩
  refine Runs.via (fun t k => castTop (ef_4 m x0) k) (b4_0 C fuel X0 e0 (Fr.nil n0) (by show 0 ≤ 0; omega) (by show 0 ≤ 0; omega) Z0 (Keep.refl hE []) x0 hr)
theorem pd_2 : parseMethodDescriptor "(I)[J" = some ⟨[.int], some (.array .long)⟩ := by decide +kernel
theorem d2_0 : decode prog_19_method_1_code 0 = .ok (.aload_n 0, 1) := by decide +kernel
theorem d2_1 : decode prog_19_method_1_code 1 = .ok (.invokespecial 3, 3) := by decide +kernel
theorem d2_4 : decode prog_19_method_1_code 4 = .ok (.aload_n 0, 1) := by decide +kernel
theorem d2_5 : decode prog_19_method_1_code 5 = .ok (.bipush 16, 2) := by decide +kernel
theorem d2_7 : decode prog_19_method_1_code 7 = .ok (.invokestatic 9, 3) := by decide +kernel
theorem d2_10 : decode prog_19_method_1_code 10 = .ok (.putfield 15, 3) := by decide +kernel
theorem d2_13 : decode prog_19_method_1_code 13 = .ok (.aload_n 0, 1) := by decide +kernel
theorem d2_14 : decode prog_19_method_1_code 14 = .ok (.bipush 16, 2) := by decide +kernel
theorem d2_16 : decode prog_19_method_1_code 16 = .ok (.newarray .int, 2) := by decide +kernel
theorem d2_18 : decode prog_19_method_1_code 18 = .ok (.putfield 19, 3) := by decide +kernel
theorem d2_21 : decode prog_19_method_1_code 21 = .ok (.return_, 1) := by decide +kernel
def P2 (Z : State) (hE : Heap) (a1 : Addr) (q_a1_size : Int32) (n0 : Nat) (r : List Int64 × List Int32) (v : Option Value) (h : Heap) (L : List Loc) : Prop := ∃ n1_2 : Addr, ∃ n2_2 : Addr, v = none ∧ Fr n0 L ∧ Keep hE h [a1] ∧ hE.size ≤ n1_2 ∧ hE.size ≤ n2_2 ∧ @LT.lt Nat instLTNat n1_2 n2_2 ∧ Exa Z h a1 "com/example/mopor/mopor/reduction/LongIntTable" ∧ Fld Z h a1 "com/example/mopor/mopor/reduction/LongIntTable" "keys" "[J" (.ref n1_2) ∧ Fld Z h a1 "com/example/mopor/mopor/reduction/LongIntTable" "values" "[I" (.ref n2_2) ∧ Fld Z h a1 "com/example/mopor/mopor/reduction/LongIntTable" "size" "I" (.int q_a1_size) ∧ AJ Z h n1_2 .long r.1 ∧ AI Z h n2_2 .int r.2
def g2_0 (fuel : Nat) (q_a1_size : Int32) : Option (List Int64 × List Int32) := ((f4 fuel (16 : Int32)).bind fun r2 => ((mkO (16 : Int32) 16).bind fun v4 => some (r2, v4)))
set_option maxRecDepth 65536 in
set_option maxHeartbeats 4000000 in
theorem b2_0 {hE : Heap} {a1 : Addr} {q_a1_size : Int32} {r : List Int64 × List Int32} (C : Ctx p s m meth c Z a0 "com/example/mopor/mopor/reduction/LongIntTable" prog_19_method_1_code 1 none "<init>") (fuel : Nat) (X0 : Stand p l e ({ frames := 2, cells := 2, slots := 32, locals := 30 } : Room) s m args below meth c T0 locs cells slots) (e0 : T0.heap = h0) (N0 : Fr n0 locs) (hk : cells ≤ 0) (hn : slots ≤ 0) (Z1 : n0 ≤ h0.size) (KE : Keep hE h0 [a1]) (o0 : n0 ≤ a1) (E_a1_0 : Exa Z h0 a1 "com/example/mopor/mopor/reduction/LongIntTable") (F_a1_keys_0 : Fld Z h0 a1 "com/example/mopor/mopor/reduction/LongIntTable" "keys" "[J" .null) (F_a1_values_0 : Fld Z h0 a1 "com/example/mopor/mopor/reduction/LongIntTable" "values" "[I" .null) (F_a1_size_0 : Fld Z h0 a1 "com/example/mopor/mopor/reduction/LongIntTable" "size" "I" (.int q_a1_size)) (hr : g2_0 fuel q_a1_size = some r) :
    Runs p e below s (P2 Z hE a1 q_a1_size n0 r) 2 32 T0 (mkF m 0 #[.val (.ref a1)] []) := by
  unfold g2_0 at hr
  have ⟨hx, hZ, hw, hby, hml, hown, hret, hlk, hnm⟩ := C
  refine Runs.via (T' := T0) (g' := (mkF m 1 #[.val (.ref a1)] [(.ref a1)])) (fun t k => ?_) ?_
  · show Steps p.tables e below (T0.setTop (mkF m 0 #[.val (.ref a1)] [])) t
    refine XS.aloadN X0.here hx rfl (hb hby d2_0) rfl rfl ?_
    exact k
  obtain ⟨T1, X1, e1, st1⟩ := initO X0 hx hZ hown (hw _ (List.mem_of_getElem? (i := 11) rfl)) (hw _ (List.mem_of_getElem? (i := 12) rfl)) (hw _ (List.mem_of_getElem? (i := 13) rfl)) e0 (g := (mkF m 1 #[.val (.ref a1)] [(.ref a1)])) rfl (by rw [hml]; rfl) rfl (hb hby d2_1) (by decide) (W := 0) (by show 2 * 0 + _ ≤ _; exact Nat.le_of_eq rfl) (by decide)
  refine Runs.via (T' := T1) (g' := (mkF m 4 #[.val (.ref a1)] [])) (fun t k => st1 _ k) ?_
  refine Runs.via (T' := T1) (g' := (mkF m 7 #[.val (.ref a1)] [(.int (16 : Int32)), (.ref a1)])) (fun t k => ?_) ?_
  · show Steps p.tables e below (T1.setTop (mkF m 4 #[.val (.ref a1)] [])) t
    refine XS.aloadN X1.here hx rfl (hb hby d2_4) rfl rfl ?_
    show Steps p.tables e below (T1.setTop (mkF m 5 #[.val (.ref a1)] [(.ref a1)])) t
    refine XS.bipush X1.here hx rfl (hb hby d2_5) ?_
    exact k
  refine bindE hr ?_; intro r2 hr2m hr
  obtain ⟨_, _, ⟨T2, L2, k2, n2⟩, -, X2, ⟨Lc2, hQ2, l2, y2, z2⟩, st2⟩ := Jvm.LawKit.callS X1 hx (y := (⟨"com/example/mopor/mopor/reduction/LongIntTable", "emptyKeys", "(I)[J"⟩ : MethodName)) hown (mvT hZ (hw _ (List.mem_of_getElem? (i := 14) rfl))) (mvT hZ (hw _ (List.mem_of_getElem? (i := 15) rfl))) (mvT hZ (hw _ (List.mem_of_getElem? (i := 7) rfl))) (mvT hZ (hw _ (List.mem_of_getElem? (i := 16) rfl))) (by decide) (backOf (W := 1) (rm4 l Z a0 hw [] (16 : Int32) h0 n0 Z1 fuel r2 hr2m) hZ (hw _ (List.mem_of_getElem? (i := 16) rfl)) (hw _ (List.mem_of_getElem? (i := 7) rfl)) (by decide) (by decide)) (g := (mkF m 7 #[.val (.ref a1)] [(.int (16 : Int32)), (.ref a1)])) rfl (by rw [hml]; rfl) (argsL := [(.int (16 : Int32))]) (rest := [(.ref a1)]) (lenOf pd_2 rfl) rfl (by show 2 * 0 + _ ≤ _; exact Nat.le_of_eq rfl) (hb hby d2_7) (fun _ _ => ⟨rfl, e1, (by show cells + 1 ≤ 2; omega), (by show slots + 16 ≤ 32; omega)⟩)
  dsimp only [Pt.U, Pt.locs, Pt.cells, Pt.slots] at X2 l2 y2 z2 st2 hQ2
  replace y2 := y2.symm; replace z2 := z2.symm; subst l2 y2 z2
  obtain ⟨h2, e2⟩ : ∃ z, T2.heap = z := ⟨_, rfl⟩
  rw [e2] at hQ2
  obtain ⟨c7_0_2, rfl, N2q, K2q, zn2_0, A_c7_0_2_2⟩ := hQ2
  have N2 := Fr.app N0 N2q
  have E_a1_2 := E_a1_0.keep K2q
  have F_a1_keys_2 := F_a1_keys_0.keep K2q nin0
  have F_a1_values_2 := F_a1_values_0.keep K2q nin0
  have F_a1_size_2 := F_a1_size_0.keep K2q nin0
  have pn2 : @LT.lt Nat instLTNat a1 c7_0_2 := by have : @LT.lt Nat instLTNat _ _ := E_a1_0.lt; omega
  have zs2_0 : hE.size ≤ c7_0_2 := by have := KE.1; omega
  have sn2_0 : n0 ≤ c7_0_2 := by omega
  have K2 := KE.trans K2q all0
  have zz2 : n0 ≤ h2.size := Nat.le_trans Z1 K2q.1
  refine Runs.via (T' := T2) (g' := (mkF m 10 #[.val (.ref a1)] [(.ref c7_0_2), (.ref a1)])) (fun t k => st2 _ k) ?_
  obtain ⟨T3, h3, X3, e3, W3, st3⟩ := putF X2 hx hZ hown (host := "") (Or.inl (hw _ (List.mem_of_getElem? (i := 23) rfl))) Via.refl e2 F_a1_keys_2 E_a1_2 (Or.inl (hw _ (List.mem_of_getElem? (i := 24) rfl))) (hw _ (List.mem_of_getElem? (i := 6) rfl)) (ty := (.array .long)) (by decide) rfl rfl (g := (mkF m 10 #[.val (.ref a1)] [(.ref c7_0_2), (.ref a1)])) rfl rfl (hb hby d2_10)
  have E_a1_3 : Exa Z h3 a1 "com/example/mopor/mopor/reduction/LongIntTable" := E_a1_2.wr W3
  have F_a1_keys_3 : Fld Z h3 a1 "com/example/mopor/mopor/reduction/LongIntTable" "keys" "[J" (.ref c7_0_2) := F_a1_keys_2.same W3
  have F_a1_values_3 : Fld Z h3 a1 "com/example/mopor/mopor/reduction/LongIntTable" "values" "[I" .null := F_a1_values_2.other W3 (Or.inr (slot_ne (Or.inl (hw _ (List.mem_of_getElem? (i := 27) rfl))) (Or.inl (hw _ (List.mem_of_getElem? (i := 24) rfl))) (by decide) (t := (.array .int)) (t' := (.array .long)) (by decide) (by decide)))
  have F_a1_size_3 : Fld Z h3 a1 "com/example/mopor/mopor/reduction/LongIntTable" "size" "I" (.int q_a1_size) := F_a1_size_2.other W3 (Or.inr (slot_ne (Or.inl (hw _ (List.mem_of_getElem? (i := 43) rfl))) (Or.inl (hw _ (List.mem_of_getElem? (i := 24) rfl))) (by decide) (t := .int) (t' := (.array .long)) (by decide) (by decide)))
  have A_c7_0_2_3 : AJ Z h3 c7_0_2 .long r2 := A_c7_0_2_2.other W3 (by omega : @Ne Nat c7_0_2 a1)
  have N3 := Fr.snoc X3 N2 (by omega : n0 ≤ a1)
  have zz3 : n0 ≤ h3.size := Nat.le_trans zz2 (Keep.of_wr W3).1
  have K3 := K2.wr W3 (Or.inl (List.mem_of_getElem? (i := 0) rfl))
  refine Runs.via (T' := T3) (g' := (mkF m 13 #[.val (.ref a1)] [])) (fun t k => st3 _ k) ?_
  refine Runs.via (T' := T3) (g' := (mkF m 16 #[.val (.ref a1)] [(.int (16 : Int32)), (.ref a1)])) (fun t k => ?_) ?_
  · show Steps p.tables e below (T3.setTop (mkF m 13 #[.val (.ref a1)] [])) t
    refine XS.aloadN X3.here hx rfl (hb hby d2_13) rfl rfl ?_
    show Steps p.tables e below (T3.setTop (mkF m 14 #[.val (.ref a1)] [(.ref a1)])) t
    refine XS.bipush X3.here hx rfl (hb hby d2_14) ?_
    exact k
  refine bindE hr ?_; intro v4 hv4 hr
  obtain ⟨T4, h4, X4, e4, E4, A4, st4⟩ := newI X3 hx hZ (aty := .int) (ty := .int) rfl rfl (hw _ (List.mem_of_getElem? (i := 25) rfl)) e3 hv4 (g := (mkF m 16 #[.val (.ref a1)] [(.int (16 : Int32)), (.ref a1)])) rfl (hb hby d2_16) rfl (by decide) (by show (cells + 1) + 1 ≤ 2; omega) (by show (slots + 16) + 16 ≤ 32; omega)
  obtain ⟨c16_2, g4⟩ : ∃ z, z = h3.size := ⟨_, rfl⟩
  rw [← g4] at A4 st4
  have i4 := E4.1
  have E_a1_4 := E_a1_3.ext E4
  have F_a1_keys_4 := F_a1_keys_3.ext E4
  have F_a1_values_4 := F_a1_values_3.ext E4
  have F_a1_size_4 := F_a1_size_3.ext E4
  have A_c7_0_2_4 := A_c7_0_2_3.ext E4
  have K4 := K3.ext E4
  have zs4 : hE.size ≤ c16_2 := by have := K3.1; omega
  have zz4 : n0 ≤ h4.size := Nat.le_trans zz3 i4
  have A_c16_2_4 := A4
  have pc16_2 : @LT.lt Nat instLTNat c7_0_2 c16_2 := by have : @LT.lt Nat instLTNat _ _ := A_c7_0_2_3.lt; omega
  have sc16_2 : n0 ≤ c16_2 := by omega
  refine Runs.via (T' := T4) (g' := (mkF m 18 #[.val (.ref a1)] [(.ref c16_2), (.ref a1)])) (fun t k => st4 _ k) ?_
  obtain ⟨T5, h5, X5, e5, W5, st5⟩ := putF X4 hx hZ hown (host := "") (Or.inl (hw _ (List.mem_of_getElem? (i := 26) rfl))) Via.refl e4 F_a1_values_4 E_a1_4 (Or.inl (hw _ (List.mem_of_getElem? (i := 27) rfl))) (hw _ (List.mem_of_getElem? (i := 6) rfl)) (ty := (.array .int)) (by decide) rfl rfl (g := (mkF m 18 #[.val (.ref a1)] [(.ref c16_2), (.ref a1)])) rfl rfl (hb hby d2_18)
  have E_a1_5 : Exa Z h5 a1 "com/example/mopor/mopor/reduction/LongIntTable" := E_a1_4.wr W5
  have F_a1_keys_5 : Fld Z h5 a1 "com/example/mopor/mopor/reduction/LongIntTable" "keys" "[J" (.ref c7_0_2) := F_a1_keys_4.other W5 (Or.inr (slot_ne (Or.inl (hw _ (List.mem_of_getElem? (i := 24) rfl))) (Or.inl (hw _ (List.mem_of_getElem? (i := 27) rfl))) (by decide) (t := (.array .long)) (t' := (.array .int)) (by decide) (by decide)))
  have F_a1_values_5 : Fld Z h5 a1 "com/example/mopor/mopor/reduction/LongIntTable" "values" "[I" (.ref c16_2) := F_a1_values_4.same W5
  have F_a1_size_5 : Fld Z h5 a1 "com/example/mopor/mopor/reduction/LongIntTable" "size" "I" (.int q_a1_size) := F_a1_size_4.other W5 (Or.inr (slot_ne (Or.inl (hw _ (List.mem_of_getElem? (i := 43) rfl))) (Or.inl (hw _ (List.mem_of_getElem? (i := 27) rfl))) (by decide) (t := .int) (t' := (.array .int)) (by decide) (by decide)))
  have A_c7_0_2_5 : AJ Z h5 c7_0_2 .long r2 := A_c7_0_2_4.other W5 (by omega : @Ne Nat c7_0_2 a1)
  have A_c16_2_5 : AI Z h5 c16_2 .int v4 := A_c16_2_4.other W5 (by omega : @Ne Nat c16_2 a1)
  have N5 := Fr.snoc X5 N3 (by omega : n0 ≤ a1)
  have zz5 : n0 ≤ h5.size := Nat.le_trans zz4 (Keep.of_wr W5).1
  have K5 := K4.wr W5 (Or.inl (List.mem_of_getElem? (i := 0) rfl))
  refine Runs.via (T' := T5) (g' := (mkF m 21 #[.val (.ref a1)] [])) (fun t k => st5 _ k) ?_
  obtain rfl := Option.some.inj hr
  exact own_retV X5 hx hlk hret (hb hby d2_21) (by show ((cells + 1) + 1) ≤ 2; omega) (by show ((slots + 16) + 16) ≤ 32; omega) ⟨c7_0_2, c16_2, rfl, N5, (by rw [e5]; exact K5), (by omega), (by omega), (by omega), (by rw [e5]; exact E_a1_5), (by rw [e5]; exact F_a1_keys_5), (by rw [e5]; exact F_a1_values_5), (by rw [e5]; exact F_a1_size_5), (by rw [e5]; exact A_c7_0_2_5), (by rw [e5]; exact A_c16_2_5)⟩
def f2 (fuel : Nat) (q_a1_size : Int32) : Option (List Int64 × List Int32) := g2_0 fuel q_a1_size
theorem pn_2 : plainName "com/example/mopor/mopor/reduction/LongIntTable" = true := by first | (simp [plainName, overriddenIn]; done) | decide +kernel
theorem ef_2 (m : MethodId) (a1 : Addr) : entryFrame m #[(.ref a1)] 1 = mkF m 0 #[.val (.ref a1)] [] := by first | (simp [entryFrame, mkF, argsToLocals, Value.category]; done) | rfl
set_option maxRecDepth 65536 in
set_option maxHeartbeats 4000000 in
theorem rm2 (l : Launch) (Z : State) (a0 : Array Value) (hw : ∀ d ∈ tables_1, d.before a0 Z = true) (ws : List Jvm.Cond) (a1 : Addr) (q_a1_size : Int32) (hE : Heap) (n0 : Nat) (Z0 : n0 ≤ hE.size) (o0 : n0 ≤ a1) (E_a1_0 : Exa Z hE a1 "com/example/mopor/mopor/reduction/LongIntTable") (F_a1_keys_0 : Fld Z hE a1 "com/example/mopor/mopor/reduction/LongIntTable" "keys" "[J" .null) (F_a1_values_0 : Fld Z hE a1 "com/example/mopor/mopor/reduction/LongIntTable" "values" "[I" .null) (F_a1_size_0 : Fld Z hE a1 "com/example/mopor/mopor/reduction/LongIntTable" "size" "I" (.int q_a1_size)) (fuel : Nat) (r : List Int64 × List Int32) (hr : f2 fuel q_a1_size = some r) :
    MetFree l (⟨"com/example/mopor/mopor/reduction/LongIntTable", "<init>", "()V"⟩ : MethodName) (head1 (Jvm.Cond.code (⟨"com/example/mopor/mopor/reduction/LongIntTable", "<init>", "()V"⟩ : MethodName) prog_19_method_1_code 1 none :: ws) ({ frames := 2, cells := 2, slots := 32, locals := 30 } : Room)) (fun a U => a = #[(.ref a1)] ∧ Z.Warmed39 U.vm ∧ U.heap = hE) (fun _ _ _ _ _ => True) (fun _ U o U' => ∃ v L, o = .returned v ∧ (P2 Z hE a1 q_a1_size n0 r v U'.heap L) ∧ FrameEnd U o U' L ({ frames := 2, cells := 2, slots := 32, locals := 30 } : Room).cells ({ frames := 2, cells := 2, slots := 32, locals := 30 } : Room).slots) := by
  refine MetFree.of_bodySF (plainFor_of_name pn_2) hisR ?_
  intro p e s m args below meth c s₁ Bd hml0 hP hK
  obtain ⟨rfl, hZ, hh⟩ := hP
  have X0 : Stand p l e ({ frames := 2, cells := 2, slots := 32, locals := 30 } : Room) s m #[(.ref a1)] below meth c s₁ [] 0 0 := Stand.of_body Bd
  have e0 : s₁.heap = hE := by rw [← hh, Bd.state]; rfl
  have C : Ctx p s m meth c Z a0 "com/example/mopor/mopor/reduction/LongIntTable" prog_19_method_1_code 1 none "<init>" := ⟨Bd.exec, hZ, hw, Bd.bytes, hml0, findClass_of_methodNamed Bd.named, Bd.returns, BodyLoose.notSynchronized Bd, (name_of_methodNamed Bd.named Bd.method).1⟩
  refine Runs.via (fun t k => castTop (ef_2 m a1) k) (b2_0 C fuel X0 e0 (Fr.nil n0) (by show 0 ≤ 0; omega) (by show 0 ≤ 0; omega) Z0 (Keep.refl hE [a1]) (by omega) E_a1_0 F_a1_keys_0 F_a1_values_0 F_a1_size_0 hr)
theorem pd_3 : parseMethodDescriptor "()V" = some ⟨[], none⟩ := by decide +kernel
theorem d7_0 : decode prog_19_method_5_code 0 = .ok (.aload_n 0, 1) := by decide +kernel
theorem d7_1 : decode prog_19_method_5_code 1 = .ok (.arraylength, 1) := by decide +kernel
theorem d7_2 : decode prog_19_method_5_code 2 = .ok (.iconst 1, 1) := by decide +kernel
theorem d7_3 : decode prog_19_method_5_code 3 = .ok (.isub, 1) := by decide +kernel
theorem d7_4 : decode prog_19_method_5_code 4 = .ok (.istore_n 3, 1) := by decide +kernel
theorem d7_5 : decode prog_19_method_5_code 5 = .ok (.lload_n 1, 1) := by decide +kernel
theorem d7_6 : decode prog_19_method_5_code 6 = .ok (.ldc2_w 45, 3) := by decide +kernel
theorem d7_9 : decode prog_19_method_5_code 9 = .ok (.lmul, 1) := by decide +kernel
theorem d7_10 : decode prog_19_method_5_code 10 = .ok (.lstore 4, 2) := by decide +kernel
theorem d7_12 : decode prog_19_method_5_code 12 = .ok (.lload 4, 2) := by decide +kernel
theorem d7_14 : decode prog_19_method_5_code 14 = .ok (.lload 4, 2) := by decide +kernel
theorem d7_16 : decode prog_19_method_5_code 16 = .ok (.bipush 29, 2) := by decide +kernel
theorem d7_18 : decode prog_19_method_5_code 18 = .ok (.lushr, 1) := by decide +kernel
theorem d7_19 : decode prog_19_method_5_code 19 = .ok (.lxor, 1) := by decide +kernel
theorem d7_20 : decode prog_19_method_5_code 20 = .ok (.lstore 4, 2) := by decide +kernel
theorem d7_22 : decode prog_19_method_5_code 22 = .ok (.lload 4, 2) := by decide +kernel
theorem d7_24 : decode prog_19_method_5_code 24 = .ok (.l2i, 1) := by decide +kernel
theorem d7_25 : decode prog_19_method_5_code 25 = .ok (.iload_n 3, 1) := by decide +kernel
theorem d7_26 : decode prog_19_method_5_code 26 = .ok (.iand, 1) := by decide +kernel
theorem d7_27 : decode prog_19_method_5_code 27 = .ok (.istore 6, 2) := by decide +kernel
theorem d7_29 : decode prog_19_method_5_code 29 = .ok (.aload_n 0, 1) := by decide +kernel
theorem d7_30 : decode prog_19_method_5_code 30 = .ok (.iload 6, 2) := by decide +kernel
theorem d7_32 : decode prog_19_method_5_code 32 = .ok (.laload, 1) := by decide +kernel
theorem d7_33 : decode prog_19_method_5_code 33 = .ok (.ldc2_w 27, 3) := by decide +kernel
theorem d7_36 : decode prog_19_method_5_code 36 = .ok (.lcmp, 1) := by decide +kernel
theorem d7_37 : decode prog_19_method_5_code 37 = .ok (.ifCond .eq 23, 3) := by decide +kernel
theorem d7_40 : decode prog_19_method_5_code 40 = .ok (.aload_n 0, 1) := by decide +kernel
theorem d7_41 : decode prog_19_method_5_code 41 = .ok (.iload 6, 2) := by decide +kernel
theorem d7_43 : decode prog_19_method_5_code 43 = .ok (.laload, 1) := by decide +kernel
theorem d7_44 : decode prog_19_method_5_code 44 = .ok (.lload_n 1, 1) := by decide +kernel
theorem d7_45 : decode prog_19_method_5_code 45 = .ok (.lcmp, 1) := by decide +kernel
theorem d7_46 : decode prog_19_method_5_code 46 = .ok (.ifCond .eq 14, 3) := by decide +kernel
theorem d7_49 : decode prog_19_method_5_code 49 = .ok (.iload 6, 2) := by decide +kernel
theorem d7_51 : decode prog_19_method_5_code 51 = .ok (.iconst 1, 1) := by decide +kernel
theorem d7_52 : decode prog_19_method_5_code 52 = .ok (.iadd, 1) := by decide +kernel
theorem d7_53 : decode prog_19_method_5_code 53 = .ok (.iload_n 3, 1) := by decide +kernel
theorem d7_54 : decode prog_19_method_5_code 54 = .ok (.iand, 1) := by decide +kernel
theorem d7_55 : decode prog_19_method_5_code 55 = .ok (.istore 6, 2) := by decide +kernel
theorem d7_57 : decode prog_19_method_5_code 57 = .ok (.goto (-28), 3) := by decide +kernel
theorem d7_60 : decode prog_19_method_5_code 60 = .ok (.iload 6, 2) := by decide +kernel
theorem d7_62 : decode prog_19_method_5_code 62 = .ok (.ireturn, 1) := by decide +kernel
def P7 (Z : State) (hE : Heap) (a1 : Addr) (q_a1 : List Int64) (n0 : Nat) (r : Int32) (v : Option Value) (h : Heap) (L : List Loc) : Prop := v = some (.int r) ∧ Fr n0 L ∧ h = hE
def s7_29 (K29 : Int64 → Int32 → Int32 → List Int64 → Option (Int32)) (fuel : Nat) (y1 : Int64) (x3 : Int32) (x6 : Int32) (q_a1 : List Int64) : Option (Int32) := ((rdO q_a1 x6).bind fun v1 => (if v1 = (-9223372036854775808 : Int64) then some x6 else ((rdO q_a1 x6).bind fun v3 => (if v3 = y1 then some x6 else (letO ((x6 + (1 : Int32)) &&& x3) fun v5 => (K29 y1 x3 v5 q_a1))))))
def h7_29 (fuel : Nat) : Nat → Int64 → Int32 → Int32 → List Int64 → Option (Int32)
  | 0 => fun _ _ _ _ => none
  | n + 1 => fun y1 x3 x6 q_a1 => s7_29 (h7_29 fuel n) fuel y1 x3 x6 q_a1
def g7_29 (fuel : Nat) (y1 : Int64) (x3 : Int32) (x6 : Int32) (q_a1 : List Int64) : Option (Int32) := h7_29 fuel fuel y1 x3 x6 q_a1
set_option maxRecDepth 65536 in
set_option maxHeartbeats 4000000 in
theorem t7_29 {hE : Heap} {a1 : Addr} {q_a1 : List Int64} (fuel : Nat) {r : Int32} (C : Ctx p s m meth c Z a0 "com/example/mopor/mopor/reduction/LongIntTable" prog_19_method_5_code 7 (some .int) "slotOf") (K29 : Int64 → Int32 → Int32 → List Int64 → Option (Int32)) (hK29 : ∀ {T0 : State} {locs : List Loc} {cells slots : Nat} (X0 : Stand p l e ({ frames := 0, cells := 0, slots := 0, locals := 0 } : Room) s m args below meth c T0 locs cells slots) (e0 : T0.heap = hE) (N0 : Fr n0 locs) (hk : cells ≤ 0) (hn : slots ≤ 0) (Z1 : n0 ≤ hE.size) (o0 : n0 ≤ a1) (y1 : Int64) (x3 : Int32) (y4 : Int64) (x6 : Int32) (A_a1_0 : AJ Z hE a1 .long q_a1), K29 y1 x3 x6 q_a1 = some r → Runs p e below s (P7 Z hE a1 q_a1 n0 r) 0 0 T0 (mkF m 29 #[.val (.ref a1), .val (.long y1), .second, .val (.int x3), .val (.long y4), .second, .val (.int x6)] [])) (X0 : Stand p l e ({ frames := 0, cells := 0, slots := 0, locals := 0 } : Room) s m args below meth c T0 locs cells slots) (e0 : T0.heap = hE) (N0 : Fr n0 locs) (hk : cells ≤ 0) (hn : slots ≤ 0) (Z1 : n0 ≤ hE.size) (o0 : n0 ≤ a1) (y1 : Int64) (x3 : Int32) (y4 : Int64) (x6 : Int32) (A_a1_0 : AJ Z hE a1 .long q_a1) (hr : s7_29 K29 fuel y1 x3 x6 q_a1 = some r) :
    Runs p e below s (P7 Z hE a1 q_a1 n0 r) 0 0 T0 (mkF m 29 #[.val (.ref a1), .val (.long y1), .second, .val (.int x3), .val (.long y4), .second, .val (.int x6)] []) := by
  unfold s7_29 at hr
  have ⟨hx, hZ, hw, hby, hml, hown, hret, hlk, hnm⟩ := C
  refine Runs.via (T' := T0) (g' := (mkF m 32 #[.val (.ref a1), .val (.long y1), .second, .val (.int x3), .val (.long y4), .second, .val (.int x6)] [(.int x6), (.ref a1)])) (fun t k => ?_) ?_
  · show Steps p.tables e below (T0.setTop (mkF m 29 #[.val (.ref a1), .val (.long y1), .second, .val (.int x3), .val (.long y4), .second, .val (.int x6)] [])) t
    refine XS.aloadN X0.here hx rfl (hb hby d7_29) rfl rfl ?_
    show Steps p.tables e below (T0.setTop (mkF m 30 #[.val (.ref a1), .val (.long y1), .second, .val (.int x3), .val (.long y4), .second, .val (.int x6)] [(.ref a1)])) t
    refine XS.iload X0.here hx rfl (hb hby d7_30) rfl ?_
    exact k
  refine bindE hr ?_; intro v1 hv1 hr
  refine Runs.via (T' := T0) (g' := (mkF m 33 #[.val (.ref a1), .val (.long y1), .second, .val (.int x3), .val (.long y4), .second, .val (.int x6)] [(.long v1)])) (fun t k => ldJ X0 hx hZ e0 A_a1_0 hv1 (g := (mkF m 32 #[.val (.ref a1), .val (.long y1), .second, .val (.int x3), .val (.long y4), .second, .val (.int x6)] [(.int x6), (.ref a1)])) rfl rfl (hb hby d7_32) _ k) ?_
  refine Runs.via (T' := T0) (g' := (mkF m 37 #[.val (.ref a1), .val (.long y1), .second, .val (.int x3), .val (.long y4), .second, .val (.int x6)] [(.int (lcmpW v1 (-9223372036854775808 : Int64)))])) (fun t k => ?_) ?_
  · show Steps p.tables e below (T0.setTop (mkF m 33 #[.val (.ref a1), .val (.long y1), .second, .val (.int x3), .val (.long y4), .second, .val (.int x6)] [(.long v1)])) t
    refine X0.ldc2Long hx hown (mvT hZ (hw _ (List.mem_of_getElem? (i := 18) rfl))) (g := (mkF m 33 #[.val (.ref a1), .val (.long y1), .second, .val (.int x3), .val (.long y4), .second, .val (.int x6)] [(.long v1)])) rfl (hb hby d7_33) _ ?_
    show Steps p.tables e below (T0.setTop (mkF m 36 #[.val (.ref a1), .val (.long y1), .second, .val (.int x3), .val (.long y4), .second, .val (.int x6)] [(.long (-9223372036854775808 : Int64)), (.long v1)])) t
    refine XS.lcmp X0.here hx rfl (hb hby d7_36) rfl ?_
    exact k
  refine iteE hr (fun hc2 hr => ?_) (fun hc2 hr => ?_)
  · refine Runs.via (T' := T0) (g' := (mkF m 60 #[.val (.ref a1), .val (.long y1), .second, .val (.int x3), .val (.long y4), .second, .val (.int x6)] [])) (fun t k => ?_) ?_
    · show Steps p.tables e below (T0.setTop (mkF m 37 #[.val (.ref a1), .val (.long y1), .second, .val (.int x3), .val (.long y4), .second, .val (.int x6)] [(.int (lcmpW v1 (-9223372036854775808 : Int64)))])) t
      exact XS.ifYes X0.here hx rfl (pc0 := 37) (pc' := 60) rfl (hb hby d7_37) rfl ((if0 _ _).trans (teq ((lw_eq _ _).mpr hc2)).1) (by decide) (by decide) k
    refine Runs.via (T' := T0) (g' := (mkF m 62 #[.val (.ref a1), .val (.long y1), .second, .val (.int x3), .val (.long y4), .second, .val (.int x6)] [(.int x6)])) (fun t k => ?_) ?_
    · show Steps p.tables e below (T0.setTop (mkF m 60 #[.val (.ref a1), .val (.long y1), .second, .val (.int x3), .val (.long y4), .second, .val (.int x6)] [])) t
      refine XS.iload X0.here hx rfl (hb hby d7_60) rfl ?_
      exact k
    obtain rfl := Option.some.inj hr
    exact own_retI X0 hx hlk hret (hb hby d7_62) (by show cells ≤ 0; omega) (by show slots ≤ 0; omega) ⟨rfl, N0, e0⟩
  · refine Runs.via (T' := T0) (g' := (mkF m 40 #[.val (.ref a1), .val (.long y1), .second, .val (.int x3), .val (.long y4), .second, .val (.int x6)] [])) (fun t k => ?_) ?_
    · show Steps p.tables e below (T0.setTop (mkF m 37 #[.val (.ref a1), .val (.long y1), .second, .val (.int x3), .val (.long y4), .second, .val (.int x6)] [(.int (lcmpW v1 (-9223372036854775808 : Int64)))])) t
      exact XS.ifNo X0.here hx rfl (hb hby d7_37) rfl ((if0 _ _).trans (feq (fun q => hc2 ((lw_eq _ _).mp q))).1) k
    refine Runs.via (T' := T0) (g' := (mkF m 43 #[.val (.ref a1), .val (.long y1), .second, .val (.int x3), .val (.long y4), .second, .val (.int x6)] [(.int x6), (.ref a1)])) (fun t k => ?_) ?_
    · show Steps p.tables e below (T0.setTop (mkF m 40 #[.val (.ref a1), .val (.long y1), .second, .val (.int x3), .val (.long y4), .second, .val (.int x6)] [])) t
      refine XS.aloadN X0.here hx rfl (hb hby d7_40) rfl rfl ?_
      show Steps p.tables e below (T0.setTop (mkF m 41 #[.val (.ref a1), .val (.long y1), .second, .val (.int x3), .val (.long y4), .second, .val (.int x6)] [(.ref a1)])) t
      refine XS.iload X0.here hx rfl (hb hby d7_41) rfl ?_
      exact k
    refine bindE hr ?_; intro v3 hv3 hr
    refine Runs.via (T' := T0) (g' := (mkF m 44 #[.val (.ref a1), .val (.long y1), .second, .val (.int x3), .val (.long y4), .second, .val (.int x6)] [(.long v3)])) (fun t k => ldJ X0 hx hZ e0 A_a1_0 hv3 (g := (mkF m 43 #[.val (.ref a1), .val (.long y1), .second, .val (.int x3), .val (.long y4), .second, .val (.int x6)] [(.int x6), (.ref a1)])) rfl rfl (hb hby d7_43) _ k) ?_
    refine Runs.via (T' := T0) (g' := (mkF m 46 #[.val (.ref a1), .val (.long y1), .second, .val (.int x3), .val (.long y4), .second, .val (.int x6)] [(.int (lcmpW v3 y1))])) (fun t k => ?_) ?_
    · show Steps p.tables e below (T0.setTop (mkF m 44 #[.val (.ref a1), .val (.long y1), .second, .val (.int x3), .val (.long y4), .second, .val (.int x6)] [(.long v3)])) t
      refine XS.lloadN X0.here hx rfl (hb hby d7_44) rfl ?_
      show Steps p.tables e below (T0.setTop (mkF m 45 #[.val (.ref a1), .val (.long y1), .second, .val (.int x3), .val (.long y4), .second, .val (.int x6)] [(.long y1), (.long v3)])) t
      refine XS.lcmp X0.here hx rfl (hb hby d7_45) rfl ?_
      exact k
    refine iteE hr (fun hc4 hr => ?_) (fun hc4 hr => ?_)
    · refine Runs.via (T' := T0) (g' := (mkF m 60 #[.val (.ref a1), .val (.long y1), .second, .val (.int x3), .val (.long y4), .second, .val (.int x6)] [])) (fun t k => ?_) ?_
      · show Steps p.tables e below (T0.setTop (mkF m 46 #[.val (.ref a1), .val (.long y1), .second, .val (.int x3), .val (.long y4), .second, .val (.int x6)] [(.int (lcmpW v3 y1))])) t
        exact XS.ifYes X0.here hx rfl (pc0 := 46) (pc' := 60) rfl (hb hby d7_46) rfl ((if0 _ _).trans (teq ((lw_eq _ _).mpr hc4)).1) (by decide) (by decide) k
      refine Runs.via (T' := T0) (g' := (mkF m 62 #[.val (.ref a1), .val (.long y1), .second, .val (.int x3), .val (.long y4), .second, .val (.int x6)] [(.int x6)])) (fun t k => ?_) ?_
      · show Steps p.tables e below (T0.setTop (mkF m 60 #[.val (.ref a1), .val (.long y1), .second, .val (.int x3), .val (.long y4), .second, .val (.int x6)] [])) t
        refine XS.iload X0.here hx rfl (hb hby d7_60) rfl ?_
        exact k
      obtain rfl := Option.some.inj hr
      exact own_retI X0 hx hlk hret (hb hby d7_62) (by show cells ≤ 0; omega) (by show slots ≤ 0; omega) ⟨rfl, N0, e0⟩
    · refine Runs.via (T' := T0) (g' := (mkF m 49 #[.val (.ref a1), .val (.long y1), .second, .val (.int x3), .val (.long y4), .second, .val (.int x6)] [])) (fun t k => ?_) ?_
      · show Steps p.tables e below (T0.setTop (mkF m 46 #[.val (.ref a1), .val (.long y1), .second, .val (.int x3), .val (.long y4), .second, .val (.int x6)] [(.int (lcmpW v3 y1))])) t
        exact XS.ifNo X0.here hx rfl (hb hby d7_46) rfl ((if0 _ _).trans (feq (fun q => hc4 ((lw_eq _ _).mp q))).1) k
      refine Runs.via (T' := T0) (g' := (mkF m 55 #[.val (.ref a1), .val (.long y1), .second, .val (.int x3), .val (.long y4), .second, .val (.int x6)] [(.int ((x6 + (1 : Int32)) &&& x3))])) (fun t k => ?_) ?_
      · show Steps p.tables e below (T0.setTop (mkF m 49 #[.val (.ref a1), .val (.long y1), .second, .val (.int x3), .val (.long y4), .second, .val (.int x6)] [])) t
        refine XS.iload X0.here hx rfl (hb hby d7_49) rfl ?_
        show Steps p.tables e below (T0.setTop (mkF m 51 #[.val (.ref a1), .val (.long y1), .second, .val (.int x3), .val (.long y4), .second, .val (.int x6)] [(.int x6)])) t
        refine XS.iconst X0.here hx rfl (hb hby d7_51) ?_
        show Steps p.tables e below (T0.setTop (mkF m 52 #[.val (.ref a1), .val (.long y1), .second, .val (.int x3), .val (.long y4), .second, .val (.int x6)] [(.int (1 : Int32)), (.int x6)])) t
        refine XS.iadd X0.here hx rfl (hb hby d7_52) rfl ?_
        show Steps p.tables e below (T0.setTop (mkF m 53 #[.val (.ref a1), .val (.long y1), .second, .val (.int x3), .val (.long y4), .second, .val (.int x6)] [(.int (x6 + (1 : Int32)))])) t
        refine XS.iloadN X0.here hx rfl (hb hby d7_53) rfl ?_
        show Steps p.tables e below (T0.setTop (mkF m 54 #[.val (.ref a1), .val (.long y1), .second, .val (.int x3), .val (.long y4), .second, .val (.int x6)] [(.int x3), (.int (x6 + (1 : Int32)))])) t
        refine XS.iand X0.here hx rfl (hb hby d7_54) rfl ?_
        exact k
      refine letE hr ?_; intro v5 hv5 hr
      rw [← hv5]
      refine Runs.via (T' := T0) (g' := (mkF m 29 #[.val (.ref a1), .val (.long y1), .second, .val (.int x3), .val (.long y4), .second, .val (.int v5)] [])) (fun t k => ?_) ?_
      · show Steps p.tables e below (T0.setTop (mkF m 55 #[.val (.ref a1), .val (.long y1), .second, .val (.int x3), .val (.long y4), .second, .val (.int x6)] [(.int v5)])) t
        refine XS.istore X0.here hx rfl (hb hby d7_55) rfl (l' := #[.val (.ref a1), .val (.long y1), .second, .val (.int x3), .val (.long y4), .second, .val (.int v5)]) rfl ?_
        show Steps p.tables e below (T0.setTop (mkF m 57 #[.val (.ref a1), .val (.long y1), .second, .val (.int x3), .val (.long y4), .second, .val (.int v5)] [])) t
        refine XS.goto X0.here hx rfl (pc0 := 57) (pc' := 29) rfl (hb hby d7_57) (by decide) (by decide) ?_
        exact k
      exact hK29 X0 e0 N0 (by show cells ≤ 0; omega) (by show slots ≤ 0; omega) Z1 (by omega) y1 x3 y4 v5 A_a1_0 hr
set_option maxRecDepth 65536 in
set_option maxHeartbeats 4000000 in
theorem u7_29 {hE : Heap} {a1 : Addr} {q_a1 : List Int64} (fuel : Nat) {r : Int32} (C : Ctx p s m meth c Z a0 "com/example/mopor/mopor/reduction/LongIntTable" prog_19_method_5_code 7 (some .int) "slotOf") : ∀ n : Nat, ∀ {T0 : State} {locs : List Loc} {cells slots : Nat} (X0 : Stand p l e ({ frames := 0, cells := 0, slots := 0, locals := 0 } : Room) s m args below meth c T0 locs cells slots) (e0 : T0.heap = hE) (N0 : Fr n0 locs) (hk : cells ≤ 0) (hn : slots ≤ 0) (Z1 : n0 ≤ hE.size) (o0 : n0 ≤ a1) (y1 : Int64) (x3 : Int32) (y4 : Int64) (x6 : Int32) (A_a1_0 : AJ Z hE a1 .long q_a1), h7_29 fuel n y1 x3 x6 q_a1 = some r → Runs p e below s (P7 Z hE a1 q_a1 n0 r) 0 0 T0 (mkF m 29 #[.val (.ref a1), .val (.long y1), .second, .val (.int x3), .val (.long y4), .second, .val (.int x6)] []) := by
  intro n
  induction n with
  | zero => intros; rename_i hr; exact absurd hr (by simp [h7_29])
  | succ n ih =>
    intro T0 locs cells slots X0 e0 N0 hk hn Z1 o0 y1 x3 y4 x6 A_a1_0 hr
    exact t7_29 fuel C _ ih X0 e0 N0 hk hn Z1 o0 y1 x3 y4 x6 A_a1_0 hr
set_option maxRecDepth 65536 in
set_option maxHeartbeats 4000000 in
theorem b7_29 {hE : Heap} {a1 : Addr} {q_a1 : List Int64} {r : Int32} (C : Ctx p s m meth c Z a0 "com/example/mopor/mopor/reduction/LongIntTable" prog_19_method_5_code 7 (some .int) "slotOf") (fuel : Nat) (X0 : Stand p l e ({ frames := 0, cells := 0, slots := 0, locals := 0 } : Room) s m args below meth c T0 locs cells slots) (e0 : T0.heap = hE) (N0 : Fr n0 locs) (hk : cells ≤ 0) (hn : slots ≤ 0) (Z1 : n0 ≤ hE.size) (o0 : n0 ≤ a1) (y1 : Int64) (x3 : Int32) (y4 : Int64) (x6 : Int32) (A_a1_0 : AJ Z hE a1 .long q_a1) (hr : g7_29 fuel y1 x3 x6 q_a1 = some r) :
    Runs p e below s (P7 Z hE a1 q_a1 n0 r) 0 0 T0 (mkF m 29 #[.val (.ref a1), .val (.long y1), .second, .val (.int x3), .val (.long y4), .second, .val (.int x6)] []) := u7_29 fuel C fuel X0 e0 N0 hk hn Z1 o0 y1 x3 y4 x6 A_a1_0 hr
def g7_0 (fuel : Nat) (y1 : Int64) (q_a1 : List Int64) : Option (Int32) := (letO ((lenO q_a1) - (1 : Int32)) fun v1 => (letO (y1 * (-7046029254386353131 : Int64)) fun v2 => (letO (v2 ^^^ ((v2.toUInt64 >>> ((29 : Int32) &&& 0x3f).toInt64.toUInt64).toInt64)) fun v3 => (letO ((Int64.toInt32 v3) &&& v1) fun v4 => (g7_29 fuel y1 v1 v4 q_a1)))))
set_option maxRecDepth 65536 in
set_option maxHeartbeats 4000000 in
theorem b7_0 {hE : Heap} {a1 : Addr} {q_a1 : List Int64} {r : Int32} (C : Ctx p s m meth c Z a0 "com/example/mopor/mopor/reduction/LongIntTable" prog_19_method_5_code 7 (some .int) "slotOf") (fuel : Nat) (X0 : Stand p l e ({ frames := 0, cells := 0, slots := 0, locals := 0 } : Room) s m args below meth c T0 locs cells slots) (e0 : T0.heap = hE) (N0 : Fr n0 locs) (hk : cells ≤ 0) (hn : slots ≤ 0) (Z1 : n0 ≤ hE.size) (o0 : n0 ≤ a1) (y1 : Int64) (A_a1_0 : AJ Z hE a1 .long q_a1) (hr : g7_0 fuel y1 q_a1 = some r) :
    Runs p e below s (P7 Z hE a1 q_a1 n0 r) 0 0 T0 (mkF m 0 #[.val (.ref a1), .val (.long y1), .second, .unset, .unset, .unset, .unset] []) := by
  unfold g7_0 at hr
  have ⟨hx, hZ, hw, hby, hml, hown, hret, hlk, hnm⟩ := C
  refine Runs.via (T' := T0) (g' := (mkF m 4 #[.val (.ref a1), .val (.long y1), .second, .unset, .unset, .unset, .unset] [(.int ((lenO q_a1) - (1 : Int32)))])) (fun t k => ?_) ?_
  · show Steps p.tables e below (T0.setTop (mkF m 0 #[.val (.ref a1), .val (.long y1), .second, .unset, .unset, .unset, .unset] [])) t
    refine XS.aloadN X0.here hx rfl (hb hby d7_0) rfl rfl ?_
    show Steps p.tables e below (T0.setTop (mkF m 1 #[.val (.ref a1), .val (.long y1), .second, .unset, .unset, .unset, .unset] [(.ref a1)])) t
    refine lenAJ X0 hx hZ e0 A_a1_0 rfl (g := (mkF m 1 #[.val (.ref a1), .val (.long y1), .second, .unset, .unset, .unset, .unset] [(.ref a1)])) rfl (hb hby d7_1) _ ?_
    show Steps p.tables e below (T0.setTop (mkF m 2 #[.val (.ref a1), .val (.long y1), .second, .unset, .unset, .unset, .unset] [(.int (lenO q_a1))])) t
    refine XS.iconst X0.here hx rfl (hb hby d7_2) ?_
    show Steps p.tables e below (T0.setTop (mkF m 3 #[.val (.ref a1), .val (.long y1), .second, .unset, .unset, .unset, .unset] [(.int (1 : Int32)), (.int (lenO q_a1))])) t
    refine XS.isub X0.here hx rfl (hb hby d7_3) rfl ?_
    exact k
  refine letE hr ?_; intro v1 hv1 hr
  rw [← hv1]
  refine Runs.via (T' := T0) (g' := (mkF m 10 #[.val (.ref a1), .val (.long y1), .second, .val (.int v1), .unset, .unset, .unset] [(.long (y1 * (-7046029254386353131 : Int64)))])) (fun t k => ?_) ?_
  · show Steps p.tables e below (T0.setTop (mkF m 4 #[.val (.ref a1), .val (.long y1), .second, .unset, .unset, .unset, .unset] [(.int v1)])) t
    refine XS.istoreN X0.here hx rfl (hb hby d7_4) rfl (l' := #[.val (.ref a1), .val (.long y1), .second, .val (.int v1), .unset, .unset, .unset]) rfl ?_
    show Steps p.tables e below (T0.setTop (mkF m 5 #[.val (.ref a1), .val (.long y1), .second, .val (.int v1), .unset, .unset, .unset] [])) t
    refine XS.lloadN X0.here hx rfl (hb hby d7_5) rfl ?_
    show Steps p.tables e below (T0.setTop (mkF m 6 #[.val (.ref a1), .val (.long y1), .second, .val (.int v1), .unset, .unset, .unset] [(.long y1)])) t
    refine X0.ldc2Long hx hown (mvT hZ (hw _ (List.mem_of_getElem? (i := 36) rfl))) (g := (mkF m 6 #[.val (.ref a1), .val (.long y1), .second, .val (.int v1), .unset, .unset, .unset] [(.long y1)])) rfl (hb hby d7_6) _ ?_
    show Steps p.tables e below (T0.setTop (mkF m 9 #[.val (.ref a1), .val (.long y1), .second, .val (.int v1), .unset, .unset, .unset] [(.long (-7046029254386353131 : Int64)), (.long y1)])) t
    refine XS.lmul X0.here hx rfl (hb hby d7_9) rfl ?_
    exact k
  refine letE hr ?_; intro v2 hv2 hr
  rw [← hv2]
  refine Runs.via (T' := T0) (g' := (mkF m 20 #[.val (.ref a1), .val (.long y1), .second, .val (.int v1), .val (.long v2), .second, .unset] [(.long (v2 ^^^ ((v2.toUInt64 >>> ((29 : Int32) &&& 0x3f).toInt64.toUInt64).toInt64)))])) (fun t k => ?_) ?_
  · show Steps p.tables e below (T0.setTop (mkF m 10 #[.val (.ref a1), .val (.long y1), .second, .val (.int v1), .unset, .unset, .unset] [(.long v2)])) t
    refine XS.lstore X0.here hx rfl (hb hby d7_10) rfl (l' := #[.val (.ref a1), .val (.long y1), .second, .val (.int v1), .val (.long v2), .second, .unset]) rfl ?_
    show Steps p.tables e below (T0.setTop (mkF m 12 #[.val (.ref a1), .val (.long y1), .second, .val (.int v1), .val (.long v2), .second, .unset] [])) t
    refine XS.lload X0.here hx rfl (hb hby d7_12) rfl ?_
    show Steps p.tables e below (T0.setTop (mkF m 14 #[.val (.ref a1), .val (.long y1), .second, .val (.int v1), .val (.long v2), .second, .unset] [(.long v2)])) t
    refine XS.lload X0.here hx rfl (hb hby d7_14) rfl ?_
    show Steps p.tables e below (T0.setTop (mkF m 16 #[.val (.ref a1), .val (.long y1), .second, .val (.int v1), .val (.long v2), .second, .unset] [(.long v2), (.long v2)])) t
    refine XS.bipush X0.here hx rfl (hb hby d7_16) ?_
    show Steps p.tables e below (T0.setTop (mkF m 18 #[.val (.ref a1), .val (.long y1), .second, .val (.int v1), .val (.long v2), .second, .unset] [(.int (29 : Int32)), (.long v2), (.long v2)])) t
    refine XS.lushr X0.here hx rfl (hb hby d7_18) rfl ?_
    show Steps p.tables e below (T0.setTop (mkF m 19 #[.val (.ref a1), .val (.long y1), .second, .val (.int v1), .val (.long v2), .second, .unset] [(.long ((v2.toUInt64 >>> ((29 : Int32) &&& 0x3f).toInt64.toUInt64).toInt64)), (.long v2)])) t
    refine XS.lxor X0.here hx rfl (hb hby d7_19) rfl ?_
    exact k
  refine letE hr ?_; intro v3 hv3 hr
  rw [← hv3]
  refine Runs.via (T' := T0) (g' := (mkF m 27 #[.val (.ref a1), .val (.long y1), .second, .val (.int v1), .val (.long v3), .second, .unset] [(.int ((Int64.toInt32 v3) &&& v1))])) (fun t k => ?_) ?_
  · show Steps p.tables e below (T0.setTop (mkF m 20 #[.val (.ref a1), .val (.long y1), .second, .val (.int v1), .val (.long v2), .second, .unset] [(.long v3)])) t
    refine XS.lstore X0.here hx rfl (hb hby d7_20) rfl (l' := #[.val (.ref a1), .val (.long y1), .second, .val (.int v1), .val (.long v3), .second, .unset]) rfl ?_
    show Steps p.tables e below (T0.setTop (mkF m 22 #[.val (.ref a1), .val (.long y1), .second, .val (.int v1), .val (.long v3), .second, .unset] [])) t
    refine XS.lload X0.here hx rfl (hb hby d7_22) rfl ?_
    show Steps p.tables e below (T0.setTop (mkF m 24 #[.val (.ref a1), .val (.long y1), .second, .val (.int v1), .val (.long v3), .second, .unset] [(.long v3)])) t
    refine XS.l2i X0.here hx rfl (hb hby d7_24) rfl ?_
    show Steps p.tables e below (T0.setTop (mkF m 25 #[.val (.ref a1), .val (.long y1), .second, .val (.int v1), .val (.long v3), .second, .unset] [(.int (Int64.toInt32 v3))])) t
    refine XS.iloadN X0.here hx rfl (hb hby d7_25) rfl ?_
    show Steps p.tables e below (T0.setTop (mkF m 26 #[.val (.ref a1), .val (.long y1), .second, .val (.int v1), .val (.long v3), .second, .unset] [(.int v1), (.int (Int64.toInt32 v3))])) t
    refine XS.iand X0.here hx rfl (hb hby d7_26) rfl ?_
    exact k
  refine letE hr ?_; intro v4 hv4 hr
  rw [← hv4]
  refine Runs.via (T' := T0) (g' := (mkF m 29 #[.val (.ref a1), .val (.long y1), .second, .val (.int v1), .val (.long v3), .second, .val (.int v4)] [])) (fun t k => ?_) ?_
  · show Steps p.tables e below (T0.setTop (mkF m 27 #[.val (.ref a1), .val (.long y1), .second, .val (.int v1), .val (.long v3), .second, .unset] [(.int v4)])) t
    refine XS.istore X0.here hx rfl (hb hby d7_27) rfl (l' := #[.val (.ref a1), .val (.long y1), .second, .val (.int v1), .val (.long v3), .second, .val (.int v4)]) rfl ?_
    exact k
  exact b7_29 C fuel X0 e0 N0 (by show cells ≤ 0; omega) (by show slots ≤ 0; omega) Z1 (by omega) y1 v1 v3 v4 A_a1_0 hr
def f7 (fuel : Nat) (y1 : Int64) (q_a1 : List Int64) : Option (Int32) := g7_0 fuel y1 q_a1
theorem pn_7 : plainName "com/example/mopor/mopor/reduction/LongIntTable" = true := by first | (simp [plainName, overriddenIn]; done) | decide +kernel
theorem ef_7 (m : MethodId) (y1 : Int64) (a1 : Addr) : entryFrame m #[(.ref a1), (.long y1)] 7 = mkF m 0 #[.val (.ref a1), .val (.long y1), .second, .unset, .unset, .unset, .unset] [] := by first | (simp [entryFrame, mkF, argsToLocals, Value.category]; done) | rfl
set_option maxRecDepth 65536 in
set_option maxHeartbeats 4000000 in
theorem rm7 (l : Launch) (Z : State) (a0 : Array Value) (hw : ∀ d ∈ tables_1, d.before a0 Z = true) (ws : List Jvm.Cond) (y1 : Int64) (a1 : Addr) (q_a1 : List Int64) (hE : Heap) (n0 : Nat) (Z0 : n0 ≤ hE.size) (o0 : n0 ≤ a1) (A_a1_0 : AJ Z hE a1 .long q_a1) (fuel : Nat) (r : Int32) (hr : f7 fuel y1 q_a1 = some r) :
    MetFree l (⟨"com/example/mopor/mopor/reduction/LongIntTable", "slotOf", "([JJ)I"⟩ : MethodName) (head1 (Jvm.Cond.code (⟨"com/example/mopor/mopor/reduction/LongIntTable", "slotOf", "([JJ)I"⟩ : MethodName) prog_19_method_5_code 7 (some .int) :: ws) ({ frames := 0, cells := 0, slots := 0, locals := 0 } : Room)) (fun a U => a = #[(.ref a1), (.long y1)] ∧ Z.Warmed39 U.vm ∧ U.heap = hE) (fun _ _ _ _ _ => True) (fun _ U o U' => ∃ v L, o = .returned v ∧ (P7 Z hE a1 q_a1 n0 r v U'.heap L) ∧ FrameEnd U o U' L ({ frames := 0, cells := 0, slots := 0, locals := 0 } : Room).cells ({ frames := 0, cells := 0, slots := 0, locals := 0 } : Room).slots) := by
  refine MetFree.of_bodySF (plainFor_of_name pn_7) hisR ?_
  intro p e s m args below meth c s₁ Bd hml0 hP hK
  obtain ⟨rfl, hZ, hh⟩ := hP
  have X0 : Stand p l e ({ frames := 0, cells := 0, slots := 0, locals := 0 } : Room) s m #[(.ref a1), (.long y1)] below meth c s₁ [] 0 0 := Stand.of_body Bd
  have e0 : s₁.heap = hE := by rw [← hh, Bd.state]; rfl
  have C : Ctx p s m meth c Z a0 "com/example/mopor/mopor/reduction/LongIntTable" prog_19_method_5_code 7 (some .int) "slotOf" := ⟨Bd.exec, hZ, hw, Bd.bytes, hml0, findClass_of_methodNamed Bd.named, Bd.returns, BodyLoose.notSynchronized Bd, (name_of_methodNamed Bd.named Bd.method).1⟩
  refine Runs.via (fun t k => castTop (ef_7 m y1 a1) k) (b7_0 C fuel X0 e0 (Fr.nil n0) (by show 0 ≤ 0; omega) (by show 0 ≤ 0; omega) Z0 (by omega) y1 A_a1_0 hr)
theorem pd_4 : parseMethodDescriptor "([JJ)I" = some ⟨[(.array .long), .long], some .int⟩ := by decide +kernel
theorem d6_0 : decode prog_19_method_2_code 0 = .ok (.aload_n 0, 1) := by decide +kernel
theorem d6_1 : decode prog_19_method_2_code 1 = .ok (.getfield 15, 3) := by decide +kernel
theorem d6_4 : decode prog_19_method_2_code 4 = .ok (.lload_n 1, 1) := by decide +kernel
theorem d6_5 : decode prog_19_method_2_code 5 = .ok (.invokestatic 23, 3) := by decide +kernel
theorem d6_8 : decode prog_19_method_2_code 8 = .ok (.istore_n 3, 1) := by decide +kernel
theorem d6_9 : decode prog_19_method_2_code 9 = .ok (.aload_n 0, 1) := by decide +kernel
theorem d6_10 : decode prog_19_method_2_code 10 = .ok (.getfield 15, 3) := by decide +kernel
theorem d6_13 : decode prog_19_method_2_code 13 = .ok (.iload_n 3, 1) := by decide +kernel
theorem d6_14 : decode prog_19_method_2_code 14 = .ok (.laload, 1) := by decide +kernel
theorem d6_15 : decode prog_19_method_2_code 15 = .ok (.ldc2_w 27, 3) := by decide +kernel
theorem d6_18 : decode prog_19_method_2_code 18 = .ok (.lcmp, 1) := by decide +kernel
theorem d6_19 : decode prog_19_method_2_code 19 = .ok (.ifCond .ne 7, 3) := by decide +kernel
theorem d6_22 : decode prog_19_method_2_code 22 = .ok (.iconst (-1), 1) := by decide +kernel
theorem d6_23 : decode prog_19_method_2_code 23 = .ok (.goto 9, 3) := by decide +kernel
theorem d6_26 : decode prog_19_method_2_code 26 = .ok (.aload_n 0, 1) := by decide +kernel
theorem d6_27 : decode prog_19_method_2_code 27 = .ok (.getfield 19, 3) := by decide +kernel
theorem d6_30 : decode prog_19_method_2_code 30 = .ok (.iload_n 3, 1) := by decide +kernel
theorem d6_31 : decode prog_19_method_2_code 31 = .ok (.iaload, 1) := by decide +kernel
theorem d6_32 : decode prog_19_method_2_code 32 = .ok (.ireturn, 1) := by decide +kernel
def P6 (Z : State) (hE : Heap) (a1 : Addr) (a2 : Addr) (a3 : Addr) (q_a1_size : Int32) (q_a2 : List Int64) (q_a3 : List Int32) (n0 : Nat) (r : Int32) (v : Option Value) (h : Heap) (L : List Loc) : Prop := v = some (.int r) ∧ Fr n0 L ∧ h = hE
def g6_0 (fuel : Nat) (y1 : Int64) (q_a1_size : Int32) (q_a2 : List Int64) (q_a3 : List Int32) : Option (Int32) := ((f7 fuel y1 q_a2).bind fun r2 => ((rdO q_a2 r2).bind fun v4 => (if v4 = (-9223372036854775808 : Int64) then some (-1 : Int32) else ((rdO q_a3 r2).bind fun v7 => some v7))))
set_option maxRecDepth 65536 in
set_option maxHeartbeats 4000000 in
theorem b6_0 {hE : Heap} {a1 : Addr} {a2 : Addr} {a3 : Addr} {q_a1_size : Int32} {q_a2 : List Int64} {q_a3 : List Int32} {r : Int32} (C : Ctx p s m meth c Z a0 "com/example/mopor/mopor/reduction/LongIntTable" prog_19_method_2_code 4 (some .int) "get") (fuel : Nat) (X0 : Stand p l e ({ frames := 1, cells := 0, slots := 0, locals := 18 } : Room) s m args below meth c T0 locs cells slots) (e0 : T0.heap = hE) (N0 : Fr n0 locs) (hk : cells ≤ 0) (hn : slots ≤ 0) (Z1 : n0 ≤ hE.size) (o0 : n0 ≤ a1) (o1 : @LT.lt Nat instLTNat a1 a2) (o2 : @LT.lt Nat instLTNat a2 a3) (y1 : Int64) (E_a1_0 : Exa Z hE a1 "com/example/mopor/mopor/reduction/LongIntTable") (F_a1_keys_0 : Fld Z hE a1 "com/example/mopor/mopor/reduction/LongIntTable" "keys" "[J" (.ref a2)) (F_a1_values_0 : Fld Z hE a1 "com/example/mopor/mopor/reduction/LongIntTable" "values" "[I" (.ref a3)) (F_a1_size_0 : Fld Z hE a1 "com/example/mopor/mopor/reduction/LongIntTable" "size" "I" (.int q_a1_size)) (A_a2_0 : AJ Z hE a2 .long q_a2) (A_a3_0 : AI Z hE a3 .int q_a3) (hr : g6_0 fuel y1 q_a1_size q_a2 q_a3 = some r) :
    Runs p e below s (P6 Z hE a1 a2 a3 q_a1_size q_a2 q_a3 n0 r) 0 0 T0 (mkF m 0 #[.val (.ref a1), .val (.long y1), .second, .unset] []) := by
  unfold g6_0 at hr
  have ⟨hx, hZ, hw, hby, hml, hown, hret, hlk, hnm⟩ := C
  refine Runs.via (T' := T0) (g' := (mkF m 1 #[.val (.ref a1), .val (.long y1), .second, .unset] [(.ref a1)])) (fun t k => ?_) ?_
  · show Steps p.tables e below (T0.setTop (mkF m 0 #[.val (.ref a1), .val (.long y1), .second, .unset] [])) t
    refine XS.aloadN X0.here hx rfl (hb hby d6_0) rfl rfl ?_
    exact k
  obtain ⟨T1, X1, e1, st1⟩ := getF X0 hx hZ hown (host := "") (Or.inl (hw _ (List.mem_of_getElem? (i := 23) rfl))) Via.refl e0 F_a1_keys_0 (g := (mkF m 1 #[.val (.ref a1), .val (.long y1), .second, .unset] [(.ref a1)])) rfl rfl (hb hby d6_1)
  refine Runs.via (T' := T1) (g' := (mkF m 4 #[.val (.ref a1), .val (.long y1), .second, .unset] [(.ref a2)])) (fun t k => st1 _ k) ?_
  refine Runs.via (T' := T1) (g' := (mkF m 5 #[.val (.ref a1), .val (.long y1), .second, .unset] [(.long y1), (.ref a2)])) (fun t k => ?_) ?_
  · show Steps p.tables e below (T1.setTop (mkF m 4 #[.val (.ref a1), .val (.long y1), .second, .unset] [(.ref a2)])) t
    refine XS.lloadN X1.here hx rfl (hb hby d6_4) rfl ?_
    exact k
  refine bindE hr ?_; intro r2 hr2m hr
  obtain ⟨_, _, ⟨T2, L2, k2, n2⟩, -, X2, ⟨Lc2, hQ2, l2, y2, z2⟩, st2⟩ := Jvm.LawKit.callS X1 hx (y := (⟨"com/example/mopor/mopor/reduction/LongIntTable", "slotOf", "([JJ)I"⟩ : MethodName)) hown (mvT hZ (hw _ (List.mem_of_getElem? (i := 33) rfl))) (mvT hZ (hw _ (List.mem_of_getElem? (i := 34) rfl))) (mvT hZ (hw _ (List.mem_of_getElem? (i := 7) rfl))) (mvT hZ (hw _ (List.mem_of_getElem? (i := 35) rfl))) (by decide) (backOf (W := 0) (rm7 l Z a0 hw [] y1 a2 q_a2 hE n0 Z1 (by omega) A_a2_0 fuel r2 hr2m) hZ (hw _ (List.mem_of_getElem? (i := 35) rfl)) (hw _ (List.mem_of_getElem? (i := 7) rfl)) (by decide) (by decide)) (g := (mkF m 5 #[.val (.ref a1), .val (.long y1), .second, .unset] [(.long y1), (.ref a2)])) rfl (by rw [hml]; rfl) (argsL := [(.ref a2), (.long y1)]) (rest := []) (lenOf pd_4 rfl) rfl (by show 2 * 0 + _ ≤ _; exact Nat.le_of_eq rfl) (hb hby d6_5) (fun _ _ => ⟨rfl, e1, (by show cells + 0 ≤ 0; omega), (by show slots + 0 ≤ 0; omega)⟩)
  dsimp only [Pt.U, Pt.locs, Pt.cells, Pt.slots] at X2 l2 y2 z2 st2 hQ2
  replace y2 := y2.symm; replace z2 := z2.symm; subst l2 y2 z2
  obtain ⟨rfl, N2q, e2⟩ := hQ2
  have N2 := Fr.app N0 N2q
  refine Runs.via (T' := T2) (g' := (mkF m 8 #[.val (.ref a1), .val (.long y1), .second, .unset] [(.int r2)])) (fun t k => st2 _ k) ?_
  refine Runs.via (T' := T2) (g' := (mkF m 10 #[.val (.ref a1), .val (.long y1), .second, .val (.int r2)] [(.ref a1)])) (fun t k => ?_) ?_
  · show Steps p.tables e below (T2.setTop (mkF m 8 #[.val (.ref a1), .val (.long y1), .second, .unset] [(.int r2)])) t
    refine XS.istoreN X2.here hx rfl (hb hby d6_8) rfl (l' := #[.val (.ref a1), .val (.long y1), .second, .val (.int r2)]) rfl ?_
    show Steps p.tables e below (T2.setTop (mkF m 9 #[.val (.ref a1), .val (.long y1), .second, .val (.int r2)] [])) t
    refine XS.aloadN X2.here hx rfl (hb hby d6_9) rfl rfl ?_
    exact k
  obtain ⟨T3, X3, e3, st3⟩ := getF X2 hx hZ hown (host := "") (Or.inl (hw _ (List.mem_of_getElem? (i := 23) rfl))) Via.refl e2 F_a1_keys_0 (g := (mkF m 10 #[.val (.ref a1), .val (.long y1), .second, .val (.int r2)] [(.ref a1)])) rfl rfl (hb hby d6_10)
  refine Runs.via (T' := T3) (g' := (mkF m 13 #[.val (.ref a1), .val (.long y1), .second, .val (.int r2)] [(.ref a2)])) (fun t k => st3 _ k) ?_
  refine Runs.via (T' := T3) (g' := (mkF m 14 #[.val (.ref a1), .val (.long y1), .second, .val (.int r2)] [(.int r2), (.ref a2)])) (fun t k => ?_) ?_
  · show Steps p.tables e below (T3.setTop (mkF m 13 #[.val (.ref a1), .val (.long y1), .second, .val (.int r2)] [(.ref a2)])) t
    refine XS.iloadN X3.here hx rfl (hb hby d6_13) rfl ?_
    exact k
  refine bindE hr ?_; intro v4 hv4 hr
  refine Runs.via (T' := T3) (g' := (mkF m 15 #[.val (.ref a1), .val (.long y1), .second, .val (.int r2)] [(.long v4)])) (fun t k => ldJ X3 hx hZ e3 A_a2_0 hv4 (g := (mkF m 14 #[.val (.ref a1), .val (.long y1), .second, .val (.int r2)] [(.int r2), (.ref a2)])) rfl rfl (hb hby d6_14) _ k) ?_
  refine Runs.via (T' := T3) (g' := (mkF m 19 #[.val (.ref a1), .val (.long y1), .second, .val (.int r2)] [(.int (lcmpW v4 (-9223372036854775808 : Int64)))])) (fun t k => ?_) ?_
  · show Steps p.tables e below (T3.setTop (mkF m 15 #[.val (.ref a1), .val (.long y1), .second, .val (.int r2)] [(.long v4)])) t
    refine X3.ldc2Long hx hown (mvT hZ (hw _ (List.mem_of_getElem? (i := 18) rfl))) (g := (mkF m 15 #[.val (.ref a1), .val (.long y1), .second, .val (.int r2)] [(.long v4)])) rfl (hb hby d6_15) _ ?_
    show Steps p.tables e below (T3.setTop (mkF m 18 #[.val (.ref a1), .val (.long y1), .second, .val (.int r2)] [(.long (-9223372036854775808 : Int64)), (.long v4)])) t
    refine XS.lcmp X3.here hx rfl (hb hby d6_18) rfl ?_
    exact k
  refine iteE hr (fun hc5 hr => ?_) (fun hc5 hr => ?_)
  · refine Runs.via (T' := T3) (g' := (mkF m 22 #[.val (.ref a1), .val (.long y1), .second, .val (.int r2)] [])) (fun t k => ?_) ?_
    · show Steps p.tables e below (T3.setTop (mkF m 19 #[.val (.ref a1), .val (.long y1), .second, .val (.int r2)] [(.int (lcmpW v4 (-9223372036854775808 : Int64)))])) t
      exact XS.ifNo X3.here hx rfl (hb hby d6_19) rfl ((if0 _ _).trans (teq ((lw_eq _ _).mpr hc5)).2) k
    refine Runs.via (T' := T3) (g' := (mkF m 32 #[.val (.ref a1), .val (.long y1), .second, .val (.int r2)] [(.int (-1 : Int32))])) (fun t k => ?_) ?_
    · show Steps p.tables e below (T3.setTop (mkF m 22 #[.val (.ref a1), .val (.long y1), .second, .val (.int r2)] [])) t
      refine XS.iconst X3.here hx rfl (hb hby d6_22) ?_
      show Steps p.tables e below (T3.setTop (mkF m 23 #[.val (.ref a1), .val (.long y1), .second, .val (.int r2)] [(.int (-1 : Int32))])) t
      refine XS.goto X3.here hx rfl (pc0 := 23) (pc' := 32) rfl (hb hby d6_23) (by decide) (by decide) ?_
      exact k
    obtain rfl := Option.some.inj hr
    exact own_retI X3 hx hlk hret (hb hby d6_32) (by show (cells + 0) ≤ 0; omega) (by show (slots + 0) ≤ 0; omega) ⟨rfl, N2, e3⟩
  · refine Runs.via (T' := T3) (g' := (mkF m 26 #[.val (.ref a1), .val (.long y1), .second, .val (.int r2)] [])) (fun t k => ?_) ?_
    · show Steps p.tables e below (T3.setTop (mkF m 19 #[.val (.ref a1), .val (.long y1), .second, .val (.int r2)] [(.int (lcmpW v4 (-9223372036854775808 : Int64)))])) t
      exact XS.ifYes X3.here hx rfl (pc0 := 19) (pc' := 26) rfl (hb hby d6_19) rfl ((if0 _ _).trans (feq (fun q => hc5 ((lw_eq _ _).mp q))).2) (by decide) (by decide) k
    refine Runs.via (T' := T3) (g' := (mkF m 27 #[.val (.ref a1), .val (.long y1), .second, .val (.int r2)] [(.ref a1)])) (fun t k => ?_) ?_
    · show Steps p.tables e below (T3.setTop (mkF m 26 #[.val (.ref a1), .val (.long y1), .second, .val (.int r2)] [])) t
      refine XS.aloadN X3.here hx rfl (hb hby d6_26) rfl rfl ?_
      exact k
    obtain ⟨T6, X6, e6, st6⟩ := getF X3 hx hZ hown (host := "") (Or.inl (hw _ (List.mem_of_getElem? (i := 26) rfl))) Via.refl e3 F_a1_values_0 (g := (mkF m 27 #[.val (.ref a1), .val (.long y1), .second, .val (.int r2)] [(.ref a1)])) rfl rfl (hb hby d6_27)
    refine Runs.via (T' := T6) (g' := (mkF m 30 #[.val (.ref a1), .val (.long y1), .second, .val (.int r2)] [(.ref a3)])) (fun t k => st6 _ k) ?_
    refine Runs.via (T' := T6) (g' := (mkF m 31 #[.val (.ref a1), .val (.long y1), .second, .val (.int r2)] [(.int r2), (.ref a3)])) (fun t k => ?_) ?_
    · show Steps p.tables e below (T6.setTop (mkF m 30 #[.val (.ref a1), .val (.long y1), .second, .val (.int r2)] [(.ref a3)])) t
      refine XS.iloadN X6.here hx rfl (hb hby d6_30) rfl ?_
      exact k
    refine bindE hr ?_; intro v7 hv7 hr
    refine Runs.via (T' := T6) (g' := (mkF m 32 #[.val (.ref a1), .val (.long y1), .second, .val (.int r2)] [(.int v7)])) (fun t k => ldI X6 hx hZ e6 A_a3_0 hv7 (g := (mkF m 31 #[.val (.ref a1), .val (.long y1), .second, .val (.int r2)] [(.int r2), (.ref a3)])) rfl rfl (hb hby d6_31) _ k) ?_
    obtain rfl := Option.some.inj hr
    exact own_retI X6 hx hlk hret (hb hby d6_32) (by show (cells + 0) ≤ 0; omega) (by show (slots + 0) ≤ 0; omega) ⟨rfl, N2, e6⟩
def f6 (fuel : Nat) (y1 : Int64) (q_a1_size : Int32) (q_a2 : List Int64) (q_a3 : List Int32) : Option (Int32) := g6_0 fuel y1 q_a1_size q_a2 q_a3
theorem pn_6 : plainName "com/example/mopor/mopor/reduction/LongIntTable" = true := by first | (simp [plainName, overriddenIn]; done) | decide +kernel
theorem ef_6 (m : MethodId) (y1 : Int64) (a1 : Addr) (a2 : Addr) (a3 : Addr) : entryFrame m #[(.ref a1), (.long y1)] 4 = mkF m 0 #[.val (.ref a1), .val (.long y1), .second, .unset] [] := by first | (simp [entryFrame, mkF, argsToLocals, Value.category]; done) | rfl
set_option maxRecDepth 65536 in
set_option maxHeartbeats 4000000 in
theorem rm6 (l : Launch) (Z : State) (a0 : Array Value) (hw : ∀ d ∈ tables_1, d.before a0 Z = true) (ws : List Jvm.Cond) (y1 : Int64) (a1 : Addr) (a2 : Addr) (a3 : Addr) (q_a1_size : Int32) (q_a2 : List Int64) (q_a3 : List Int32) (hE : Heap) (n0 : Nat) (Z0 : n0 ≤ hE.size) (o0 : n0 ≤ a1) (o1 : @LT.lt Nat instLTNat a1 a2) (o2 : @LT.lt Nat instLTNat a2 a3) (E_a1_0 : Exa Z hE a1 "com/example/mopor/mopor/reduction/LongIntTable") (F_a1_keys_0 : Fld Z hE a1 "com/example/mopor/mopor/reduction/LongIntTable" "keys" "[J" (.ref a2)) (F_a1_values_0 : Fld Z hE a1 "com/example/mopor/mopor/reduction/LongIntTable" "values" "[I" (.ref a3)) (F_a1_size_0 : Fld Z hE a1 "com/example/mopor/mopor/reduction/LongIntTable" "size" "I" (.int q_a1_size)) (A_a2_0 : AJ Z hE a2 .long q_a2) (A_a3_0 : AI Z hE a3 .int q_a3) (fuel : Nat) (r : Int32) (hr : f6 fuel y1 q_a1_size q_a2 q_a3 = some r) :
    MetFree l (⟨"com/example/mopor/mopor/reduction/LongIntTable", "get", "(J)I"⟩ : MethodName) (head1 (Jvm.Cond.code (⟨"com/example/mopor/mopor/reduction/LongIntTable", "get", "(J)I"⟩ : MethodName) prog_19_method_2_code 4 (some .int) :: ws) ({ frames := 1, cells := 0, slots := 0, locals := 18 } : Room)) (fun a U => a = #[(.ref a1), (.long y1)] ∧ Z.Warmed39 U.vm ∧ U.heap = hE) (fun _ _ _ _ _ => True) (fun _ U o U' => ∃ v L, o = .returned v ∧ (P6 Z hE a1 a2 a3 q_a1_size q_a2 q_a3 n0 r v U'.heap L) ∧ FrameEnd U o U' L ({ frames := 1, cells := 0, slots := 0, locals := 18 } : Room).cells ({ frames := 1, cells := 0, slots := 0, locals := 18 } : Room).slots) := by
  refine MetFree.of_bodySF (plainFor_of_name pn_6) hisR ?_
  intro p e s m args below meth c s₁ Bd hml0 hP hK
  obtain ⟨rfl, hZ, hh⟩ := hP
  have X0 : Stand p l e ({ frames := 1, cells := 0, slots := 0, locals := 18 } : Room) s m #[(.ref a1), (.long y1)] below meth c s₁ [] 0 0 := Stand.of_body Bd
  have e0 : s₁.heap = hE := by rw [← hh, Bd.state]; rfl
  have C : Ctx p s m meth c Z a0 "com/example/mopor/mopor/reduction/LongIntTable" prog_19_method_2_code 4 (some .int) "get" := ⟨Bd.exec, hZ, hw, Bd.bytes, hml0, findClass_of_methodNamed Bd.named, Bd.returns, BodyLoose.notSynchronized Bd, (name_of_methodNamed Bd.named Bd.method).1⟩
  refine Runs.via (fun t k => castTop (ef_6 m y1 a1 a2 a3) k) (b6_0 C fuel X0 e0 (Fr.nil n0) (by show 0 ≤ 0; omega) (by show 0 ≤ 0; omega) Z0 (by omega) (by omega) (by omega) y1 E_a1_0 F_a1_keys_0 F_a1_values_0 F_a1_size_0 A_a2_0 A_a3_0 hr)
theorem pd_5 : parseMethodDescriptor "(J)I" = some ⟨[.long], some .int⟩ := by decide +kernel
theorem d8_0 : decode prog_19_method_3_code 0 = .ok (.lload_n 1, 1) := by decide +kernel
theorem d8_1 : decode prog_19_method_3_code 1 = .ok (.ldc2_w 27, 3) := by decide +kernel
theorem d8_4 : decode prog_19_method_3_code 4 = .ok (.lcmp, 1) := by decide +kernel
theorem d8_5 : decode prog_19_method_3_code 5 = .ok (.ifCond .ne 17, 3) := by decide +kernel
theorem d8_8 : decode prog_19_method_3_code 8 = .ok (.new 29, 3) := by decide +kernel
theorem d8_11 : decode prog_19_method_3_code 11 = .ok (.dup, 1) := by decide +kernel
theorem d8_12 : decode prog_19_method_3_code 12 = .ok (.lload_n 1, 1) := by decide +kernel
theorem d8_18 : decode prog_19_method_3_code 18 = .ok (.invokespecial 35, 3) := by decide +kernel
theorem d8_21 : decode prog_19_method_3_code 21 = .ok (.athrow, 1) := by decide +kernel
theorem d8_22 : decode prog_19_method_3_code 22 = .ok (.aload_n 0, 1) := by decide +kernel
theorem d8_23 : decode prog_19_method_3_code 23 = .ok (.getfield 15, 3) := by decide +kernel
theorem d8_26 : decode prog_19_method_3_code 26 = .ok (.lload_n 1, 1) := by decide +kernel
theorem d8_27 : decode prog_19_method_3_code 27 = .ok (.invokestatic 23, 3) := by decide +kernel
theorem d8_30 : decode prog_19_method_3_code 30 = .ok (.istore 4, 2) := by decide +kernel
theorem d8_32 : decode prog_19_method_3_code 32 = .ok (.aload_n 0, 1) := by decide +kernel
theorem d8_33 : decode prog_19_method_3_code 33 = .ok (.getfield 15, 3) := by decide +kernel
theorem d8_36 : decode prog_19_method_3_code 36 = .ok (.iload 4, 2) := by decide +kernel
theorem d8_38 : decode prog_19_method_3_code 38 = .ok (.laload, 1) := by decide +kernel
theorem d8_39 : decode prog_19_method_3_code 39 = .ok (.ldc2_w 27, 3) := by decide +kernel
theorem d8_42 : decode prog_19_method_3_code 42 = .ok (.lcmp, 1) := by decide +kernel
theorem d8_43 : decode prog_19_method_3_code 43 = .ok (.ifCond .eq 5, 3) := by decide +kernel
theorem d8_46 : decode prog_19_method_3_code 46 = .ok (.iconst 0, 1) := by decide +kernel
theorem d8_47 : decode prog_19_method_3_code 47 = .ok (.ireturn, 1) := by decide +kernel
theorem d8_48 : decode prog_19_method_3_code 48 = .ok (.aload_n 0, 1) := by decide +kernel
theorem d8_49 : decode prog_19_method_3_code 49 = .ok (.getfield 15, 3) := by decide +kernel
theorem d8_52 : decode prog_19_method_3_code 52 = .ok (.iload 4, 2) := by decide +kernel
theorem d8_54 : decode prog_19_method_3_code 54 = .ok (.lload_n 1, 1) := by decide +kernel
theorem d8_55 : decode prog_19_method_3_code 55 = .ok (.lastore, 1) := by decide +kernel
theorem d8_56 : decode prog_19_method_3_code 56 = .ok (.aload_n 0, 1) := by decide +kernel
theorem d8_57 : decode prog_19_method_3_code 57 = .ok (.getfield 19, 3) := by decide +kernel
theorem d8_60 : decode prog_19_method_3_code 60 = .ok (.iload 4, 2) := by decide +kernel
theorem d8_62 : decode prog_19_method_3_code 62 = .ok (.iload_n 3, 1) := by decide +kernel
theorem d8_63 : decode prog_19_method_3_code 63 = .ok (.iastore, 1) := by decide +kernel
theorem d8_64 : decode prog_19_method_3_code 64 = .ok (.aload_n 0, 1) := by decide +kernel
theorem d8_65 : decode prog_19_method_3_code 65 = .ok (.dup, 1) := by decide +kernel
theorem d8_66 : decode prog_19_method_3_code 66 = .ok (.getfield 38, 3) := by decide +kernel
theorem d8_69 : decode prog_19_method_3_code 69 = .ok (.iconst 1, 1) := by decide +kernel
theorem d8_70 : decode prog_19_method_3_code 70 = .ok (.iadd, 1) := by decide +kernel
theorem d8_71 : decode prog_19_method_3_code 71 = .ok (.dup_x1, 1) := by decide +kernel
theorem d8_72 : decode prog_19_method_3_code 72 = .ok (.putfield 38, 3) := by decide +kernel
theorem d8_75 : decode prog_19_method_3_code 75 = .ok (.aload_n 0, 1) := by decide +kernel
theorem d8_76 : decode prog_19_method_3_code 76 = .ok (.getfield 15, 3) := by decide +kernel
theorem d8_79 : decode prog_19_method_3_code 79 = .ok (.arraylength, 1) := by decide +kernel
theorem d8_80 : decode prog_19_method_3_code 80 = .ok (.iconst 2, 1) := by decide +kernel
theorem d8_81 : decode prog_19_method_3_code 81 = .ok (.idiv, 1) := by decide +kernel
theorem d8_82 : decode prog_19_method_3_code 82 = .ok (.if_icmp .le 7, 3) := by decide +kernel
theorem d8_85 : decode prog_19_method_3_code 85 = .ok (.aload_n 0, 1) := by decide +kernel
theorem d8_86 : decode prog_19_method_3_code 86 = .ok (.invokevirtual 42, 3) := by decide +kernel
theorem d8_89 : decode prog_19_method_3_code 89 = .ok (.iconst 1, 1) := by decide +kernel
theorem d8_90 : decode prog_19_method_3_code 90 = .ok (.ireturn, 1) := by decide +kernel
def P8 (Z : State) (hE : Heap) (a1 : Addr) (a2 : Addr) (a3 : Addr) (q_a1_size : Int32) (q_a2 : List Int64) (q_a3 : List Int32) (n0 : Nat) (r : Int32 × Int32 × List Int64 × List Int32) (v : Option Value) (h : Heap) (L : List Loc) : Prop := v = some (.int r.1) ∧ Fr n0 L ∧ Keep hE h [a1, a2, a3] ∧ Exa Z h a1 "com/example/mopor/mopor/reduction/LongIntTable" ∧ Fld Z h a1 "com/example/mopor/mopor/reduction/LongIntTable" "keys" "[J" (.ref a2) ∧ Fld Z h a1 "com/example/mopor/mopor/reduction/LongIntTable" "values" "[I" (.ref a3) ∧ Fld Z h a1 "com/example/mopor/mopor/reduction/LongIntTable" "size" "I" (.int r.2.1) ∧ AJ Z h a2 .long r.2.2.1 ∧ AI Z h a3 .int r.2.2.2
def g8_0 (fuel : Nat) (y1 : Int64) (x3 : Int32) (q_a1_size : Int32) (q_a2 : List Int64) (q_a3 : List Int32) : Option (Int32 × Int32 × List Int64 × List Int32) := (if y1 = (-9223372036854775808 : Int64) then none else ((f7 fuel y1 q_a2).bind fun r3 => ((rdO q_a2 r3).bind fun v5 => (if v5 = (-9223372036854775808 : Int64) then ((wrO q_a2 r3 y1).bind fun v8 => ((wrO q_a3 r3 x3).bind fun v10 => (letO (q_a1_size + (1 : Int32)) fun v12 => (if ((lenO v8) / (2 : Int32)) < v12 then none else some ((1 : Int32), v12, v8, v10))))) else some ((0 : Int32), q_a1_size, q_a2, q_a3)))))
set_option maxRecDepth 65536 in
set_option maxHeartbeats 4000000 in
theorem b8_0 {hE : Heap} {a1 : Addr} {a2 : Addr} {a3 : Addr} {q_a1_size₀ : Int32} {q_a2₀ : List Int64} {q_a3₀ : List Int32} {r : Int32 × Int32 × List Int64 × List Int32} (C : Ctx p s m meth c Z a0 "com/example/mopor/mopor/reduction/LongIntTable" prog_19_method_3_code 5 (some .boolean) "add") (fuel : Nat) (X0 : Stand p l e ({ frames := 1, cells := 0, slots := 0, locals := 18 } : Room) s m args below meth c T0 locs cells slots) (e0 : T0.heap = h0) (N0 : Fr n0 locs) (hk : cells ≤ 0) (hn : slots ≤ 0) (Z1 : n0 ≤ h0.size) (KE : Keep hE h0 [a1, a2, a3]) (o0 : n0 ≤ a1) (o1 : @LT.lt Nat instLTNat a1 a2) (o2 : @LT.lt Nat instLTNat a2 a3) (q_a1_size : Int32) (q_a2 : List Int64) (q_a3 : List Int32) (y1 : Int64) (x3 : Int32) (E_a1_0 : Exa Z h0 a1 "com/example/mopor/mopor/reduction/LongIntTable") (F_a1_keys_0 : Fld Z h0 a1 "com/example/mopor/mopor/reduction/LongIntTable" "keys" "[J" (.ref a2)) (F_a1_values_0 : Fld Z h0 a1 "com/example/mopor/mopor/reduction/LongIntTable" "values" "[I" (.ref a3)) (F_a1_size_0 : Fld Z h0 a1 "com/example/mopor/mopor/reduction/LongIntTable" "size" "I" (.int q_a1_size)) (A_a2_0 : AJ Z h0 a2 .long q_a2) (A_a3_0 : AI Z h0 a3 .int q_a3) (hr : g8_0 fuel y1 x3 q_a1_size q_a2 q_a3 = some r) :
    Runs p e below s (P8 Z hE a1 a2 a3 q_a1_size₀ q_a2₀ q_a3₀ n0 r) 0 0 T0 (mkF m 0 #[.val (.ref a1), .val (.long y1), .second, .val (.int x3), .unset] []) := by
  unfold g8_0 at hr
  have ⟨hx, hZ, hw, hby, hml, hown, hret, hlk, hnm⟩ := C
  refine Runs.via (T' := T0) (g' := (mkF m 5 #[.val (.ref a1), .val (.long y1), .second, .val (.int x3), .unset] [(.int (lcmpW y1 (-9223372036854775808 : Int64)))])) (fun t k => ?_) ?_
  · show Steps p.tables e below (T0.setTop (mkF m 0 #[.val (.ref a1), .val (.long y1), .second, .val (.int x3), .unset] [])) t
    refine XS.lloadN X0.here hx rfl (hb hby d8_0) rfl ?_
    show Steps p.tables e below (T0.setTop (mkF m 1 #[.val (.ref a1), .val (.long y1), .second, .val (.int x3), .unset] [(.long y1)])) t
    refine X0.ldc2Long hx hown (mvT hZ (hw _ (List.mem_of_getElem? (i := 18) rfl))) (g := (mkF m 1 #[.val (.ref a1), .val (.long y1), .second, .val (.int x3), .unset] [(.long y1)])) rfl (hb hby d8_1) _ ?_
    show Steps p.tables e below (T0.setTop (mkF m 4 #[.val (.ref a1), .val (.long y1), .second, .val (.int x3), .unset] [(.long (-9223372036854775808 : Int64)), (.long y1)])) t
    refine XS.lcmp X0.here hx rfl (hb hby d8_4) rfl ?_
    exact k
  refine iteE hr (fun hc1 hr => ?_) (fun hc1 hr => ?_)
  · refine Runs.via (T' := T0) (g' := (mkF m 8 #[.val (.ref a1), .val (.long y1), .second, .val (.int x3), .unset] [])) (fun t k => ?_) ?_
    · show Steps p.tables e below (T0.setTop (mkF m 5 #[.val (.ref a1), .val (.long y1), .second, .val (.int x3), .unset] [(.int (lcmpW y1 (-9223372036854775808 : Int64)))])) t
      exact XS.ifNo X0.here hx rfl (hb hby d8_5) rfl ((if0 _ _).trans (teq ((lw_eq _ _).mpr hc1)).2) k
    exact nomatch hr
  · refine Runs.via (T' := T0) (g' := (mkF m 22 #[.val (.ref a1), .val (.long y1), .second, .val (.int x3), .unset] [])) (fun t k => ?_) ?_
    · show Steps p.tables e below (T0.setTop (mkF m 5 #[.val (.ref a1), .val (.long y1), .second, .val (.int x3), .unset] [(.int (lcmpW y1 (-9223372036854775808 : Int64)))])) t
      exact XS.ifYes X0.here hx rfl (pc0 := 5) (pc' := 22) rfl (hb hby d8_5) rfl ((if0 _ _).trans (feq (fun q => hc1 ((lw_eq _ _).mp q))).2) (by decide) (by decide) k
    refine Runs.via (T' := T0) (g' := (mkF m 23 #[.val (.ref a1), .val (.long y1), .second, .val (.int x3), .unset] [(.ref a1)])) (fun t k => ?_) ?_
    · show Steps p.tables e below (T0.setTop (mkF m 22 #[.val (.ref a1), .val (.long y1), .second, .val (.int x3), .unset] [])) t
      refine XS.aloadN X0.here hx rfl (hb hby d8_22) rfl rfl ?_
      exact k
    obtain ⟨T2, X2, e2, st2⟩ := getF X0 hx hZ hown (host := "") (Or.inl (hw _ (List.mem_of_getElem? (i := 23) rfl))) Via.refl e0 F_a1_keys_0 (g := (mkF m 23 #[.val (.ref a1), .val (.long y1), .second, .val (.int x3), .unset] [(.ref a1)])) rfl rfl (hb hby d8_23)
    refine Runs.via (T' := T2) (g' := (mkF m 26 #[.val (.ref a1), .val (.long y1), .second, .val (.int x3), .unset] [(.ref a2)])) (fun t k => st2 _ k) ?_
    refine Runs.via (T' := T2) (g' := (mkF m 27 #[.val (.ref a1), .val (.long y1), .second, .val (.int x3), .unset] [(.long y1), (.ref a2)])) (fun t k => ?_) ?_
    · show Steps p.tables e below (T2.setTop (mkF m 26 #[.val (.ref a1), .val (.long y1), .second, .val (.int x3), .unset] [(.ref a2)])) t
      refine XS.lloadN X2.here hx rfl (hb hby d8_26) rfl ?_
      exact k
    refine bindE hr ?_; intro r3 hr3m hr
    obtain ⟨_, _, ⟨T3, L3, k3, n3⟩, -, X3, ⟨Lc3, hQ3, l3, y3, z3⟩, st3⟩ := Jvm.LawKit.callS X2 hx (y := (⟨"com/example/mopor/mopor/reduction/LongIntTable", "slotOf", "([JJ)I"⟩ : MethodName)) hown (mvT hZ (hw _ (List.mem_of_getElem? (i := 33) rfl))) (mvT hZ (hw _ (List.mem_of_getElem? (i := 34) rfl))) (mvT hZ (hw _ (List.mem_of_getElem? (i := 7) rfl))) (mvT hZ (hw _ (List.mem_of_getElem? (i := 35) rfl))) (by decide) (backOf (W := 0) (rm7 l Z a0 hw [] y1 a2 q_a2 h0 n0 Z1 (by omega) A_a2_0 fuel r3 hr3m) hZ (hw _ (List.mem_of_getElem? (i := 35) rfl)) (hw _ (List.mem_of_getElem? (i := 7) rfl)) (by decide) (by decide)) (g := (mkF m 27 #[.val (.ref a1), .val (.long y1), .second, .val (.int x3), .unset] [(.long y1), (.ref a2)])) rfl (by rw [hml]; rfl) (argsL := [(.ref a2), (.long y1)]) (rest := []) (lenOf pd_4 rfl) rfl (by show 2 * 0 + _ ≤ _; exact Nat.le_of_eq rfl) (hb hby d8_27) (fun _ _ => ⟨rfl, e2, (by show cells + 0 ≤ 0; omega), (by show slots + 0 ≤ 0; omega)⟩)
    dsimp only [Pt.U, Pt.locs, Pt.cells, Pt.slots] at X3 l3 y3 z3 st3 hQ3
    replace y3 := y3.symm; replace z3 := z3.symm; subst l3 y3 z3
    obtain ⟨rfl, N3q, e3⟩ := hQ3
    have N3 := Fr.app N0 N3q
    refine Runs.via (T' := T3) (g' := (mkF m 30 #[.val (.ref a1), .val (.long y1), .second, .val (.int x3), .unset] [(.int r3)])) (fun t k => st3 _ k) ?_
    refine Runs.via (T' := T3) (g' := (mkF m 33 #[.val (.ref a1), .val (.long y1), .second, .val (.int x3), .val (.int r3)] [(.ref a1)])) (fun t k => ?_) ?_
    · show Steps p.tables e below (T3.setTop (mkF m 30 #[.val (.ref a1), .val (.long y1), .second, .val (.int x3), .unset] [(.int r3)])) t
      refine XS.istore X3.here hx rfl (hb hby d8_30) rfl (l' := #[.val (.ref a1), .val (.long y1), .second, .val (.int x3), .val (.int r3)]) rfl ?_
      show Steps p.tables e below (T3.setTop (mkF m 32 #[.val (.ref a1), .val (.long y1), .second, .val (.int x3), .val (.int r3)] [])) t
      refine XS.aloadN X3.here hx rfl (hb hby d8_32) rfl rfl ?_
      exact k
    obtain ⟨T4, X4, e4, st4⟩ := getF X3 hx hZ hown (host := "") (Or.inl (hw _ (List.mem_of_getElem? (i := 23) rfl))) Via.refl e3 F_a1_keys_0 (g := (mkF m 33 #[.val (.ref a1), .val (.long y1), .second, .val (.int x3), .val (.int r3)] [(.ref a1)])) rfl rfl (hb hby d8_33)
    refine Runs.via (T' := T4) (g' := (mkF m 36 #[.val (.ref a1), .val (.long y1), .second, .val (.int x3), .val (.int r3)] [(.ref a2)])) (fun t k => st4 _ k) ?_
    refine Runs.via (T' := T4) (g' := (mkF m 38 #[.val (.ref a1), .val (.long y1), .second, .val (.int x3), .val (.int r3)] [(.int r3), (.ref a2)])) (fun t k => ?_) ?_
    · show Steps p.tables e below (T4.setTop (mkF m 36 #[.val (.ref a1), .val (.long y1), .second, .val (.int x3), .val (.int r3)] [(.ref a2)])) t
      refine XS.iload X4.here hx rfl (hb hby d8_36) rfl ?_
      exact k
    refine bindE hr ?_; intro v5 hv5 hr
    refine Runs.via (T' := T4) (g' := (mkF m 39 #[.val (.ref a1), .val (.long y1), .second, .val (.int x3), .val (.int r3)] [(.long v5)])) (fun t k => ldJ X4 hx hZ e4 A_a2_0 hv5 (g := (mkF m 38 #[.val (.ref a1), .val (.long y1), .second, .val (.int x3), .val (.int r3)] [(.int r3), (.ref a2)])) rfl rfl (hb hby d8_38) _ k) ?_
    refine Runs.via (T' := T4) (g' := (mkF m 43 #[.val (.ref a1), .val (.long y1), .second, .val (.int x3), .val (.int r3)] [(.int (lcmpW v5 (-9223372036854775808 : Int64)))])) (fun t k => ?_) ?_
    · show Steps p.tables e below (T4.setTop (mkF m 39 #[.val (.ref a1), .val (.long y1), .second, .val (.int x3), .val (.int r3)] [(.long v5)])) t
      refine X4.ldc2Long hx hown (mvT hZ (hw _ (List.mem_of_getElem? (i := 18) rfl))) (g := (mkF m 39 #[.val (.ref a1), .val (.long y1), .second, .val (.int x3), .val (.int r3)] [(.long v5)])) rfl (hb hby d8_39) _ ?_
      show Steps p.tables e below (T4.setTop (mkF m 42 #[.val (.ref a1), .val (.long y1), .second, .val (.int x3), .val (.int r3)] [(.long (-9223372036854775808 : Int64)), (.long v5)])) t
      refine XS.lcmp X4.here hx rfl (hb hby d8_42) rfl ?_
      exact k
    refine iteE hr (fun hc6 hr => ?_) (fun hc6 hr => ?_)
    · refine Runs.via (T' := T4) (g' := (mkF m 48 #[.val (.ref a1), .val (.long y1), .second, .val (.int x3), .val (.int r3)] [])) (fun t k => ?_) ?_
      · show Steps p.tables e below (T4.setTop (mkF m 43 #[.val (.ref a1), .val (.long y1), .second, .val (.int x3), .val (.int r3)] [(.int (lcmpW v5 (-9223372036854775808 : Int64)))])) t
        exact XS.ifYes X4.here hx rfl (pc0 := 43) (pc' := 48) rfl (hb hby d8_43) rfl ((if0 _ _).trans (teq ((lw_eq _ _).mpr hc6)).1) (by decide) (by decide) k
      refine Runs.via (T' := T4) (g' := (mkF m 49 #[.val (.ref a1), .val (.long y1), .second, .val (.int x3), .val (.int r3)] [(.ref a1)])) (fun t k => ?_) ?_
      · show Steps p.tables e below (T4.setTop (mkF m 48 #[.val (.ref a1), .val (.long y1), .second, .val (.int x3), .val (.int r3)] [])) t
        refine XS.aloadN X4.here hx rfl (hb hby d8_48) rfl rfl ?_
        exact k
      obtain ⟨T7, X7, e7, st7⟩ := getF X4 hx hZ hown (host := "") (Or.inl (hw _ (List.mem_of_getElem? (i := 23) rfl))) Via.refl e4 F_a1_keys_0 (g := (mkF m 49 #[.val (.ref a1), .val (.long y1), .second, .val (.int x3), .val (.int r3)] [(.ref a1)])) rfl rfl (hb hby d8_49)
      refine Runs.via (T' := T7) (g' := (mkF m 52 #[.val (.ref a1), .val (.long y1), .second, .val (.int x3), .val (.int r3)] [(.ref a2)])) (fun t k => st7 _ k) ?_
      refine Runs.via (T' := T7) (g' := (mkF m 55 #[.val (.ref a1), .val (.long y1), .second, .val (.int x3), .val (.int r3)] [(.long y1), (.int r3), (.ref a2)])) (fun t k => ?_) ?_
      · show Steps p.tables e below (T7.setTop (mkF m 52 #[.val (.ref a1), .val (.long y1), .second, .val (.int x3), .val (.int r3)] [(.ref a2)])) t
        refine XS.iload X7.here hx rfl (hb hby d8_52) rfl ?_
        show Steps p.tables e below (T7.setTop (mkF m 54 #[.val (.ref a1), .val (.long y1), .second, .val (.int x3), .val (.int r3)] [(.int r3), (.ref a2)])) t
        refine XS.lloadN X7.here hx rfl (hb hby d8_54) rfl ?_
        exact k
      refine bindE hr ?_; intro v8 hv8 hr
      obtain ⟨T8, h8, X8, e8, W8, A8, st8⟩ := soJ X7 hx hZ e7 A_a2_0 hv8 (g := (mkF m 55 #[.val (.ref a1), .val (.long y1), .second, .val (.int x3), .val (.int r3)] [(.long y1), (.int r3), (.ref a2)])) rfl rfl (hb hby d8_55)
      have E_a1_8 : Exa Z h8 a1 "com/example/mopor/mopor/reduction/LongIntTable" := E_a1_0.wr W8
      have F_a1_keys_8 : Fld Z h8 a1 "com/example/mopor/mopor/reduction/LongIntTable" "keys" "[J" (.ref a2) := F_a1_keys_0.other W8 (Or.inl (by omega : @Ne Nat a1 a2))
      have F_a1_values_8 : Fld Z h8 a1 "com/example/mopor/mopor/reduction/LongIntTable" "values" "[I" (.ref a3) := F_a1_values_0.other W8 (Or.inl (by omega : @Ne Nat a1 a2))
      have F_a1_size_8 : Fld Z h8 a1 "com/example/mopor/mopor/reduction/LongIntTable" "size" "I" (.int q_a1_size) := F_a1_size_0.other W8 (Or.inl (by omega : @Ne Nat a1 a2))
      have A_a2_8 : AJ Z h8 a2 .long v8 := A8
      have A_a3_8 : AI Z h8 a3 .int q_a3 := A_a3_0.other W8 (by omega : @Ne Nat a3 a2)
      have N8 := Fr.snoc X8 N3 (by omega : n0 ≤ a2)
      have zz8 : n0 ≤ h8.size := Nat.le_trans Z1 (Keep.of_wr W8).1
      have K8 := KE.wr W8 (Or.inl (List.mem_of_getElem? (i := 1) rfl))
      refine Runs.via (T' := T8) (g' := (mkF m 56 #[.val (.ref a1), .val (.long y1), .second, .val (.int x3), .val (.int r3)] [])) (fun t k => st8 _ k) ?_
      refine Runs.via (T' := T8) (g' := (mkF m 57 #[.val (.ref a1), .val (.long y1), .second, .val (.int x3), .val (.int r3)] [(.ref a1)])) (fun t k => ?_) ?_
      · show Steps p.tables e below (T8.setTop (mkF m 56 #[.val (.ref a1), .val (.long y1), .second, .val (.int x3), .val (.int r3)] [])) t
        refine XS.aloadN X8.here hx rfl (hb hby d8_56) rfl rfl ?_
        exact k
      obtain ⟨T9, X9, e9, st9⟩ := getF X8 hx hZ hown (host := "") (Or.inl (hw _ (List.mem_of_getElem? (i := 26) rfl))) Via.refl e8 F_a1_values_8 (g := (mkF m 57 #[.val (.ref a1), .val (.long y1), .second, .val (.int x3), .val (.int r3)] [(.ref a1)])) rfl rfl (hb hby d8_57)
      refine Runs.via (T' := T9) (g' := (mkF m 60 #[.val (.ref a1), .val (.long y1), .second, .val (.int x3), .val (.int r3)] [(.ref a3)])) (fun t k => st9 _ k) ?_
      refine Runs.via (T' := T9) (g' := (mkF m 63 #[.val (.ref a1), .val (.long y1), .second, .val (.int x3), .val (.int r3)] [(.int x3), (.int r3), (.ref a3)])) (fun t k => ?_) ?_
      · show Steps p.tables e below (T9.setTop (mkF m 60 #[.val (.ref a1), .val (.long y1), .second, .val (.int x3), .val (.int r3)] [(.ref a3)])) t
        refine XS.iload X9.here hx rfl (hb hby d8_60) rfl ?_
        show Steps p.tables e below (T9.setTop (mkF m 62 #[.val (.ref a1), .val (.long y1), .second, .val (.int x3), .val (.int r3)] [(.int r3), (.ref a3)])) t
        refine XS.iloadN X9.here hx rfl (hb hby d8_62) rfl ?_
        exact k
      refine bindE hr ?_; intro v10 hv10 hr
      obtain ⟨T10, h10, X10, e10, W10, A10, st10⟩ := soI X9 hx hZ e9 A_a3_8 hv10 (g := (mkF m 63 #[.val (.ref a1), .val (.long y1), .second, .val (.int x3), .val (.int r3)] [(.int x3), (.int r3), (.ref a3)])) rfl rfl (hb hby d8_63)
      have E_a1_10 : Exa Z h10 a1 "com/example/mopor/mopor/reduction/LongIntTable" := E_a1_8.wr W10
      have F_a1_keys_10 : Fld Z h10 a1 "com/example/mopor/mopor/reduction/LongIntTable" "keys" "[J" (.ref a2) := F_a1_keys_8.other W10 (Or.inl (by omega : @Ne Nat a1 a3))
      have F_a1_values_10 : Fld Z h10 a1 "com/example/mopor/mopor/reduction/LongIntTable" "values" "[I" (.ref a3) := F_a1_values_8.other W10 (Or.inl (by omega : @Ne Nat a1 a3))
      have F_a1_size_10 : Fld Z h10 a1 "com/example/mopor/mopor/reduction/LongIntTable" "size" "I" (.int q_a1_size) := F_a1_size_8.other W10 (Or.inl (by omega : @Ne Nat a1 a3))
      have A_a2_10 : AJ Z h10 a2 .long v8 := A_a2_8.other W10 (by omega : @Ne Nat a2 a3)
      have A_a3_10 : AI Z h10 a3 .int v10 := A10
      have N10 := Fr.snoc X10 N8 (by omega : n0 ≤ a3)
      have zz10 : n0 ≤ h10.size := Nat.le_trans zz8 (Keep.of_wr W10).1
      have K10 := K8.wr W10 (Or.inl (List.mem_of_getElem? (i := 2) rfl))
      refine Runs.via (T' := T10) (g' := (mkF m 64 #[.val (.ref a1), .val (.long y1), .second, .val (.int x3), .val (.int r3)] [])) (fun t k => st10 _ k) ?_
      refine Runs.via (T' := T10) (g' := (mkF m 66 #[.val (.ref a1), .val (.long y1), .second, .val (.int x3), .val (.int r3)] [(.ref a1), (.ref a1)])) (fun t k => ?_) ?_
      · show Steps p.tables e below (T10.setTop (mkF m 64 #[.val (.ref a1), .val (.long y1), .second, .val (.int x3), .val (.int r3)] [])) t
        refine XS.aloadN X10.here hx rfl (hb hby d8_64) rfl rfl ?_
        show Steps p.tables e below (T10.setTop (mkF m 65 #[.val (.ref a1), .val (.long y1), .second, .val (.int x3), .val (.int r3)] [(.ref a1)])) t
        refine XS.dup X10.here hx rfl (hb hby d8_65) rfl rfl ?_
        exact k
      obtain ⟨T11, X11, e11, st11⟩ := getF X10 hx hZ hown (host := "") (Or.inl (hw _ (List.mem_of_getElem? (i := 42) rfl))) Via.refl e10 F_a1_size_10 (g := (mkF m 66 #[.val (.ref a1), .val (.long y1), .second, .val (.int x3), .val (.int r3)] [(.ref a1), (.ref a1)])) rfl rfl (hb hby d8_66)
      refine Runs.via (T' := T11) (g' := (mkF m 69 #[.val (.ref a1), .val (.long y1), .second, .val (.int x3), .val (.int r3)] [(.int q_a1_size), (.ref a1)])) (fun t k => st11 _ k) ?_
      refine Runs.via (T' := T11) (g' := (mkF m 72 #[.val (.ref a1), .val (.long y1), .second, .val (.int x3), .val (.int r3)] [(.int (q_a1_size + (1 : Int32))), (.ref a1), (.int (q_a1_size + (1 : Int32)))])) (fun t k => ?_) ?_
      · show Steps p.tables e below (T11.setTop (mkF m 69 #[.val (.ref a1), .val (.long y1), .second, .val (.int x3), .val (.int r3)] [(.int q_a1_size), (.ref a1)])) t
        refine XS.iconst X11.here hx rfl (hb hby d8_69) ?_
        show Steps p.tables e below (T11.setTop (mkF m 70 #[.val (.ref a1), .val (.long y1), .second, .val (.int x3), .val (.int r3)] [(.int (1 : Int32)), (.int q_a1_size), (.ref a1)])) t
        refine XS.iadd X11.here hx rfl (hb hby d8_70) rfl ?_
        show Steps p.tables e below (T11.setTop (mkF m 71 #[.val (.ref a1), .val (.long y1), .second, .val (.int x3), .val (.int r3)] [(.int (q_a1_size + (1 : Int32))), (.ref a1)])) t
        refine XS.dupX1 X11.here hx rfl (hb hby d8_71) rfl rfl rfl ?_
        exact k
      refine letE hr ?_; intro v12 hv12 hr
      rw [← hv12]
      obtain ⟨T13, h13, X13, e13, W13, st13⟩ := putF X11 hx hZ hown (host := "") (Or.inl (hw _ (List.mem_of_getElem? (i := 42) rfl))) Via.refl e11 F_a1_size_10 E_a1_10 (Or.inl (hw _ (List.mem_of_getElem? (i := 43) rfl))) (hw _ (List.mem_of_getElem? (i := 6) rfl)) (ty := .int) (by decide) rfl rfl (g := (mkF m 72 #[.val (.ref a1), .val (.long y1), .second, .val (.int x3), .val (.int r3)] [(.int v12), (.ref a1), (.int v12)])) rfl rfl (hb hby d8_72)
      have E_a1_13 : Exa Z h13 a1 "com/example/mopor/mopor/reduction/LongIntTable" := E_a1_10.wr W13
      have F_a1_keys_13 : Fld Z h13 a1 "com/example/mopor/mopor/reduction/LongIntTable" "keys" "[J" (.ref a2) := F_a1_keys_10.other W13 (Or.inr (slot_ne (Or.inl (hw _ (List.mem_of_getElem? (i := 24) rfl))) (Or.inl (hw _ (List.mem_of_getElem? (i := 43) rfl))) (by decide) (t := (.array .long)) (t' := .int) (by decide) (by decide)))
      have F_a1_values_13 : Fld Z h13 a1 "com/example/mopor/mopor/reduction/LongIntTable" "values" "[I" (.ref a3) := F_a1_values_10.other W13 (Or.inr (slot_ne (Or.inl (hw _ (List.mem_of_getElem? (i := 27) rfl))) (Or.inl (hw _ (List.mem_of_getElem? (i := 43) rfl))) (by decide) (t := (.array .int)) (t' := .int) (by decide) (by decide)))
      have F_a1_size_13 : Fld Z h13 a1 "com/example/mopor/mopor/reduction/LongIntTable" "size" "I" (.int v12) := F_a1_size_10.same W13
      have A_a2_13 : AJ Z h13 a2 .long v8 := A_a2_10.other W13 (by omega : @Ne Nat a2 a1)
      have A_a3_13 : AI Z h13 a3 .int v10 := A_a3_10.other W13 (by omega : @Ne Nat a3 a1)
      have N13 := Fr.snoc X13 N10 (by omega : n0 ≤ a1)
      have zz13 : n0 ≤ h13.size := Nat.le_trans zz10 (Keep.of_wr W13).1
      have K13 := K10.wr W13 (Or.inl (List.mem_of_getElem? (i := 0) rfl))
      refine Runs.via (T' := T13) (g' := (mkF m 75 #[.val (.ref a1), .val (.long y1), .second, .val (.int x3), .val (.int r3)] [(.int v12)])) (fun t k => st13 _ k) ?_
      refine Runs.via (T' := T13) (g' := (mkF m 76 #[.val (.ref a1), .val (.long y1), .second, .val (.int x3), .val (.int r3)] [(.ref a1), (.int v12)])) (fun t k => ?_) ?_
      · show Steps p.tables e below (T13.setTop (mkF m 75 #[.val (.ref a1), .val (.long y1), .second, .val (.int x3), .val (.int r3)] [(.int v12)])) t
        refine XS.aloadN X13.here hx rfl (hb hby d8_75) rfl rfl ?_
        exact k
      obtain ⟨T14, X14, e14, st14⟩ := getF X13 hx hZ hown (host := "") (Or.inl (hw _ (List.mem_of_getElem? (i := 23) rfl))) Via.refl e13 F_a1_keys_13 (g := (mkF m 76 #[.val (.ref a1), .val (.long y1), .second, .val (.int x3), .val (.int r3)] [(.ref a1), (.int v12)])) rfl rfl (hb hby d8_76)
      refine Runs.via (T' := T14) (g' := (mkF m 79 #[.val (.ref a1), .val (.long y1), .second, .val (.int x3), .val (.int r3)] [(.ref a2), (.int v12)])) (fun t k => st14 _ k) ?_
      refine Runs.via (T' := T14) (g' := (mkF m 82 #[.val (.ref a1), .val (.long y1), .second, .val (.int x3), .val (.int r3)] [(.int ((lenO v8) / (2 : Int32))), (.int v12)])) (fun t k => ?_) ?_
      · show Steps p.tables e below (T14.setTop (mkF m 79 #[.val (.ref a1), .val (.long y1), .second, .val (.int x3), .val (.int r3)] [(.ref a2), (.int v12)])) t
        refine lenAJ X14 hx hZ e14 A_a2_13 rfl (g := (mkF m 79 #[.val (.ref a1), .val (.long y1), .second, .val (.int x3), .val (.int r3)] [(.ref a2), (.int v12)])) rfl (hb hby d8_79) _ ?_
        show Steps p.tables e below (T14.setTop (mkF m 80 #[.val (.ref a1), .val (.long y1), .second, .val (.int x3), .val (.int r3)] [(.int (lenO v8)), (.int v12)])) t
        refine XS.iconst X14.here hx rfl (hb hby d8_80) ?_
        show Steps p.tables e below (T14.setTop (mkF m 81 #[.val (.ref a1), .val (.long y1), .second, .val (.int x3), .val (.int r3)] [(.int (2 : Int32)), (.int (lenO v8)), (.int v12)])) t
        refine XS.idiv X14.here hx rfl (hb hby d8_81) rfl (by decide) ?_
        exact k
      refine iteE hr (fun hc15 hr => ?_) (fun hc15 hr => ?_)
      · refine Runs.via (T' := T14) (g' := (mkF m 85 #[.val (.ref a1), .val (.long y1), .second, .val (.int x3), .val (.int r3)] [])) (fun t k => ?_) ?_
        · show Steps p.tables e below (T14.setTop (mkF m 82 #[.val (.ref a1), .val (.long y1), .second, .val (.int x3), .val (.int r3)] [(.int ((lenO v8) / (2 : Int32))), (.int v12)])) t
          exact XS.icmpNo X14.here hx rfl (hb hby d8_82) rfl (tlt hc15).2.2.2 k
        refine Runs.via (T' := T14) (g' := (mkF m 86 #[.val (.ref a1), .val (.long y1), .second, .val (.int x3), .val (.int r3)] [(.ref a1)])) (fun t k => ?_) ?_
        · show Steps p.tables e below (T14.setTop (mkF m 85 #[.val (.ref a1), .val (.long y1), .second, .val (.int x3), .val (.int r3)] [])) t
          refine XS.aloadN X14.here hx rfl (hb hby d8_85) rfl rfl ?_
          exact k
        exact nomatch hr
      · refine Runs.via (T' := T14) (g' := (mkF m 89 #[.val (.ref a1), .val (.long y1), .second, .val (.int x3), .val (.int r3)] [])) (fun t k => ?_) ?_
        · show Steps p.tables e below (T14.setTop (mkF m 82 #[.val (.ref a1), .val (.long y1), .second, .val (.int x3), .val (.int r3)] [(.int ((lenO v8) / (2 : Int32))), (.int v12)])) t
          exact XS.icmpYes X14.here hx rfl (pc0 := 82) (pc' := 89) rfl (hb hby d8_82) rfl (flt hc15).2.2.2 (by decide) (by decide) k
        refine Runs.via (T' := T14) (g' := (mkF m 90 #[.val (.ref a1), .val (.long y1), .second, .val (.int x3), .val (.int r3)] [(.int (1 : Int32))])) (fun t k => ?_) ?_
        · show Steps p.tables e below (T14.setTop (mkF m 89 #[.val (.ref a1), .val (.long y1), .second, .val (.int x3), .val (.int r3)] [])) t
          refine XS.iconst X14.here hx rfl (hb hby d8_89) ?_
          exact k
        obtain rfl := Option.some.inj hr
        exact own_retN X14 hx hlk (t := .boolean) hret (by simp) (hb hby d8_90) (by show (cells + 0) ≤ 0; omega) (by show (slots + 0) ≤ 0; omega) ⟨rfl, N13, (by rw [e14]; exact K13), (by rw [e14]; exact E_a1_13), (by rw [e14]; exact F_a1_keys_13), (by rw [e14]; exact F_a1_values_13), (by rw [e14]; exact F_a1_size_13), (by rw [e14]; exact A_a2_13), (by rw [e14]; exact A_a3_13)⟩
    · refine Runs.via (T' := T4) (g' := (mkF m 46 #[.val (.ref a1), .val (.long y1), .second, .val (.int x3), .val (.int r3)] [])) (fun t k => ?_) ?_
      · show Steps p.tables e below (T4.setTop (mkF m 43 #[.val (.ref a1), .val (.long y1), .second, .val (.int x3), .val (.int r3)] [(.int (lcmpW v5 (-9223372036854775808 : Int64)))])) t
        exact XS.ifNo X4.here hx rfl (hb hby d8_43) rfl ((if0 _ _).trans (feq (fun q => hc6 ((lw_eq _ _).mp q))).1) k
      refine Runs.via (T' := T4) (g' := (mkF m 47 #[.val (.ref a1), .val (.long y1), .second, .val (.int x3), .val (.int r3)] [(.int (0 : Int32))])) (fun t k => ?_) ?_
      · show Steps p.tables e below (T4.setTop (mkF m 46 #[.val (.ref a1), .val (.long y1), .second, .val (.int x3), .val (.int r3)] [])) t
        refine XS.iconst X4.here hx rfl (hb hby d8_46) ?_
        exact k
      obtain rfl := Option.some.inj hr
      exact own_retN X4 hx hlk (t := .boolean) hret (by simp) (hb hby d8_47) (by show (cells + 0) ≤ 0; omega) (by show (slots + 0) ≤ 0; omega) ⟨rfl, N3, (by rw [e4]; exact KE), (by rw [e4]; exact E_a1_0), (by rw [e4]; exact F_a1_keys_0), (by rw [e4]; exact F_a1_values_0), (by rw [e4]; exact F_a1_size_0), (by rw [e4]; exact A_a2_0), (by rw [e4]; exact A_a3_0)⟩
def f8 (fuel : Nat) (y1 : Int64) (x3 : Int32) (q_a1_size : Int32) (q_a2 : List Int64) (q_a3 : List Int32) : Option (Int32 × Int32 × List Int64 × List Int32) := g8_0 fuel y1 x3 q_a1_size q_a2 q_a3
theorem pn_8 : plainName "com/example/mopor/mopor/reduction/LongIntTable" = true := by first | (simp [plainName, overriddenIn]; done) | decide +kernel
theorem ef_8 (m : MethodId) (y1 : Int64) (x3 : Int32) (a1 : Addr) (a2 : Addr) (a3 : Addr) : entryFrame m #[(.ref a1), (.long y1), (.int x3)] 5 = mkF m 0 #[.val (.ref a1), .val (.long y1), .second, .val (.int x3), .unset] [] := by first | (simp [entryFrame, mkF, argsToLocals, Value.category]; done) | rfl
set_option maxRecDepth 65536 in
set_option maxHeartbeats 4000000 in
theorem rm8 (l : Launch) (Z : State) (a0 : Array Value) (hw : ∀ d ∈ tables_1, d.before a0 Z = true) (ws : List Jvm.Cond) (y1 : Int64) (x3 : Int32) (a1 : Addr) (a2 : Addr) (a3 : Addr) (q_a1_size : Int32) (q_a2 : List Int64) (q_a3 : List Int32) (hE : Heap) (n0 : Nat) (Z0 : n0 ≤ hE.size) (o0 : n0 ≤ a1) (o1 : @LT.lt Nat instLTNat a1 a2) (o2 : @LT.lt Nat instLTNat a2 a3) (E_a1_0 : Exa Z hE a1 "com/example/mopor/mopor/reduction/LongIntTable") (F_a1_keys_0 : Fld Z hE a1 "com/example/mopor/mopor/reduction/LongIntTable" "keys" "[J" (.ref a2)) (F_a1_values_0 : Fld Z hE a1 "com/example/mopor/mopor/reduction/LongIntTable" "values" "[I" (.ref a3)) (F_a1_size_0 : Fld Z hE a1 "com/example/mopor/mopor/reduction/LongIntTable" "size" "I" (.int q_a1_size)) (A_a2_0 : AJ Z hE a2 .long q_a2) (A_a3_0 : AI Z hE a3 .int q_a3) (fuel : Nat) (r : Int32 × Int32 × List Int64 × List Int32) (hr : f8 fuel y1 x3 q_a1_size q_a2 q_a3 = some r) :
    MetFree l (⟨"com/example/mopor/mopor/reduction/LongIntTable", "add", "(JI)Z"⟩ : MethodName) (head1 (Jvm.Cond.code (⟨"com/example/mopor/mopor/reduction/LongIntTable", "add", "(JI)Z"⟩ : MethodName) prog_19_method_3_code 5 (some .boolean) :: ws) ({ frames := 1, cells := 0, slots := 0, locals := 18 } : Room)) (fun a U => a = #[(.ref a1), (.long y1), (.int x3)] ∧ Z.Warmed39 U.vm ∧ U.heap = hE) (fun _ _ _ _ _ => True) (fun _ U o U' => ∃ v L, o = .returned v ∧ (P8 Z hE a1 a2 a3 q_a1_size q_a2 q_a3 n0 r v U'.heap L) ∧ FrameEnd U o U' L ({ frames := 1, cells := 0, slots := 0, locals := 18 } : Room).cells ({ frames := 1, cells := 0, slots := 0, locals := 18 } : Room).slots) := by
  refine MetFree.of_bodySF (plainFor_of_name pn_8) hisR ?_
  intro p e s m args below meth c s₁ Bd hml0 hP hK
  obtain ⟨rfl, hZ, hh⟩ := hP
  have X0 : Stand p l e ({ frames := 1, cells := 0, slots := 0, locals := 18 } : Room) s m #[(.ref a1), (.long y1), (.int x3)] below meth c s₁ [] 0 0 := Stand.of_body Bd
  have e0 : s₁.heap = hE := by rw [← hh, Bd.state]; rfl
  have C : Ctx p s m meth c Z a0 "com/example/mopor/mopor/reduction/LongIntTable" prog_19_method_3_code 5 (some .boolean) "add" := ⟨Bd.exec, hZ, hw, Bd.bytes, hml0, findClass_of_methodNamed Bd.named, Bd.returns, BodyLoose.notSynchronized Bd, (name_of_methodNamed Bd.named Bd.method).1⟩
  refine Runs.via (fun t k => castTop (ef_8 m y1 x3 a1 a2 a3) k) (b8_0 C fuel X0 e0 (Fr.nil n0) (by show 0 ≤ 0; omega) (by show 0 ≤ 0; omega) Z0 (Keep.refl hE [a1, a2, a3]) (by omega) (by omega) (by omega) q_a1_size q_a2 q_a3 y1 x3 E_a1_0 F_a1_keys_0 F_a1_values_0 F_a1_size_0 A_a2_0 A_a3_0 hr)
theorem pd_6 : parseMethodDescriptor "(JI)Z" = some ⟨[.long, .int], some .boolean⟩ := by decide +kernel
theorem d9_0 : decode method_4_code 0 = .ok (.lload_n 0, 1) := by decide +kernel
theorem d9_1 : decode method_4_code 1 = .ok (.lload_n 2, 1) := by decide +kernel
theorem d9_2 : decode method_4_code 2 = .ok (.lcmp, 1) := by decide +kernel
theorem d9_3 : decode method_4_code 3 = .ok (.ifCond .ne 6, 3) := by decide +kernel
theorem d9_6 : decode method_4_code 6 = .ok (.iload 8, 2) := by decide +kernel
theorem d9_8 : decode method_4_code 8 = .ok (.ireturn, 1) := by decide +kernel
theorem d9_9 : decode method_4_code 9 = .ok (.lload_n 0, 1) := by decide +kernel
theorem d9_10 : decode method_4_code 10 = .ok (.lload 4, 2) := by decide +kernel
theorem d9_12 : decode method_4_code 12 = .ok (.lcmp, 1) := by decide +kernel
theorem d9_13 : decode method_4_code 13 = .ok (.ifCond .ne 6, 3) := by decide +kernel
theorem d9_16 : decode method_4_code 16 = .ok (.iload 9, 2) := by decide +kernel
theorem d9_18 : decode method_4_code 18 = .ok (.ireturn, 1) := by decide +kernel
theorem d9_19 : decode method_4_code 19 = .ok (.lload_n 0, 1) := by decide +kernel
theorem d9_20 : decode method_4_code 20 = .ok (.lload 6, 2) := by decide +kernel
theorem d9_22 : decode method_4_code 22 = .ok (.lcmp, 1) := by decide +kernel
theorem d9_23 : decode method_4_code 23 = .ok (.ifCond .ne 6, 3) := by decide +kernel
theorem d9_26 : decode method_4_code 26 = .ok (.iload 10, 2) := by decide +kernel
theorem d9_28 : decode method_4_code 28 = .ok (.ireturn, 1) := by decide +kernel
theorem d9_29 : decode method_4_code 29 = .ok (.iconst (-1), 1) := by decide +kernel
theorem d9_30 : decode method_4_code 30 = .ok (.ireturn, 1) := by decide +kernel
def g9_0 (y0 : Int64) (y2 : Int64) (y4 : Int64) (y6 : Int64) (x8 : Int32) (x9 : Int32) (x10 : Int32) : Int32 := (if y0 = y2 then x8 else (if y0 = y4 then x9 else (if y0 = y6 then x10 else (-1 : Int32))))
set_option maxRecDepth 65536 in
set_option maxHeartbeats 4000000 in
theorem b9_0 (C : Ctx p s m meth c Z a0 "com/example/mopor/mopor/reduction/LongIntTableGetPinLaw" method_4_code 11 (some .int) "exp") (X0 : Stand p l e ({ frames := 0, cells := 0, slots := 0, locals := 0 } : Room) s m args below meth c T0 locs cells slots) (e0 : T0.heap = h0) (N0 : Fr n0 locs) (hk : cells ≤ 0) (hn : slots ≤ 0) (y0 : Int64) (y2 : Int64) (y4 : Int64) (y6 : Int64) (x8 : Int32) (x9 : Int32) (x10 : Int32) :
    Runs p e below s (QP (some (.int (g9_0 y0 y2 y4 y6 x8 x9 x10))) h0 n0) 0 0 T0 (mkF m 0 #[.val (.long y0), .second, .val (.long y2), .second, .val (.long y4), .second, .val (.long y6), .second, .val (.int x8), .val (.int x9), .val (.int x10)] []) := by
  have ⟨hx, hZ, hw, hby, hml, hown, hret, hlk, hnm⟩ := C
  refine Runs.via (T' := T0) (g' := (mkF m 3 #[.val (.long y0), .second, .val (.long y2), .second, .val (.long y4), .second, .val (.long y6), .second, .val (.int x8), .val (.int x9), .val (.int x10)] [(.int (lcmpW y0 y2))])) (fun t k => ?_) ?_
  · show Steps p.tables e below (T0.setTop (mkF m 0 #[.val (.long y0), .second, .val (.long y2), .second, .val (.long y4), .second, .val (.long y6), .second, .val (.int x8), .val (.int x9), .val (.int x10)] [])) t
    refine XS.lloadN X0.here hx rfl (hb hby d9_0) rfl ?_
    show Steps p.tables e below (T0.setTop (mkF m 1 #[.val (.long y0), .second, .val (.long y2), .second, .val (.long y4), .second, .val (.long y6), .second, .val (.int x8), .val (.int x9), .val (.int x10)] [(.long y0)])) t
    refine XS.lloadN X0.here hx rfl (hb hby d9_1) rfl ?_
    show Steps p.tables e below (T0.setTop (mkF m 2 #[.val (.long y0), .second, .val (.long y2), .second, .val (.long y4), .second, .val (.long y6), .second, .val (.int x8), .val (.int x9), .val (.int x10)] [(.long y2), (.long y0)])) t
    refine XS.lcmp X0.here hx rfl (hb hby d9_2) rfl ?_
    exact k
  by_cases hc1 : y0 = y2
  · refine Runs.via (T' := T0) (g' := (mkF m 6 #[.val (.long y0), .second, .val (.long y2), .second, .val (.long y4), .second, .val (.long y6), .second, .val (.int x8), .val (.int x9), .val (.int x10)] [])) (fun t k => ?_) ?_
    · show Steps p.tables e below (T0.setTop (mkF m 3 #[.val (.long y0), .second, .val (.long y2), .second, .val (.long y4), .second, .val (.long y6), .second, .val (.int x8), .val (.int x9), .val (.int x10)] [(.int (lcmpW y0 y2))])) t
      exact XS.ifNo X0.here hx rfl (hb hby d9_3) rfl ((if0 _ _).trans (teq ((lw_eq _ _).mpr hc1)).2) k
    refine Runs.via (T' := T0) (g' := (mkF m 8 #[.val (.long y0), .second, .val (.long y2), .second, .val (.long y4), .second, .val (.long y6), .second, .val (.int x8), .val (.int x9), .val (.int x10)] [(.int x8)])) (fun t k => ?_) ?_
    · show Steps p.tables e below (T0.setTop (mkF m 6 #[.val (.long y0), .second, .val (.long y2), .second, .val (.long y4), .second, .val (.long y6), .second, .val (.int x8), .val (.int x9), .val (.int x10)] [])) t
      refine XS.iload X0.here hx rfl (hb hby d9_6) rfl ?_
      exact k
    refine QP.cast (congrArg (fun z => some (Value.int z)) (show (g9_0 y0 y2 y4 y6 x8 x9 x10) = x8 from (if_pos hc1))) ?_
    exact own_retI X0 hx hlk hret (hb hby d9_8) hk hn ⟨rfl, N0, e0⟩
  · refine Runs.via (T' := T0) (g' := (mkF m 9 #[.val (.long y0), .second, .val (.long y2), .second, .val (.long y4), .second, .val (.long y6), .second, .val (.int x8), .val (.int x9), .val (.int x10)] [])) (fun t k => ?_) ?_
    · show Steps p.tables e below (T0.setTop (mkF m 3 #[.val (.long y0), .second, .val (.long y2), .second, .val (.long y4), .second, .val (.long y6), .second, .val (.int x8), .val (.int x9), .val (.int x10)] [(.int (lcmpW y0 y2))])) t
      exact XS.ifYes X0.here hx rfl (pc0 := 3) (pc' := 9) rfl (hb hby d9_3) rfl ((if0 _ _).trans (feq (fun q => hc1 ((lw_eq _ _).mp q))).2) (by decide) (by decide) k
    refine Runs.via (T' := T0) (g' := (mkF m 13 #[.val (.long y0), .second, .val (.long y2), .second, .val (.long y4), .second, .val (.long y6), .second, .val (.int x8), .val (.int x9), .val (.int x10)] [(.int (lcmpW y0 y4))])) (fun t k => ?_) ?_
    · show Steps p.tables e below (T0.setTop (mkF m 9 #[.val (.long y0), .second, .val (.long y2), .second, .val (.long y4), .second, .val (.long y6), .second, .val (.int x8), .val (.int x9), .val (.int x10)] [])) t
      refine XS.lloadN X0.here hx rfl (hb hby d9_9) rfl ?_
      show Steps p.tables e below (T0.setTop (mkF m 10 #[.val (.long y0), .second, .val (.long y2), .second, .val (.long y4), .second, .val (.long y6), .second, .val (.int x8), .val (.int x9), .val (.int x10)] [(.long y0)])) t
      refine XS.lload X0.here hx rfl (hb hby d9_10) rfl ?_
      show Steps p.tables e below (T0.setTop (mkF m 12 #[.val (.long y0), .second, .val (.long y2), .second, .val (.long y4), .second, .val (.long y6), .second, .val (.int x8), .val (.int x9), .val (.int x10)] [(.long y4), (.long y0)])) t
      refine XS.lcmp X0.here hx rfl (hb hby d9_12) rfl ?_
      exact k
    by_cases hc2 : y0 = y4
    · refine Runs.via (T' := T0) (g' := (mkF m 16 #[.val (.long y0), .second, .val (.long y2), .second, .val (.long y4), .second, .val (.long y6), .second, .val (.int x8), .val (.int x9), .val (.int x10)] [])) (fun t k => ?_) ?_
      · show Steps p.tables e below (T0.setTop (mkF m 13 #[.val (.long y0), .second, .val (.long y2), .second, .val (.long y4), .second, .val (.long y6), .second, .val (.int x8), .val (.int x9), .val (.int x10)] [(.int (lcmpW y0 y4))])) t
        exact XS.ifNo X0.here hx rfl (hb hby d9_13) rfl ((if0 _ _).trans (teq ((lw_eq _ _).mpr hc2)).2) k
      refine Runs.via (T' := T0) (g' := (mkF m 18 #[.val (.long y0), .second, .val (.long y2), .second, .val (.long y4), .second, .val (.long y6), .second, .val (.int x8), .val (.int x9), .val (.int x10)] [(.int x9)])) (fun t k => ?_) ?_
      · show Steps p.tables e below (T0.setTop (mkF m 16 #[.val (.long y0), .second, .val (.long y2), .second, .val (.long y4), .second, .val (.long y6), .second, .val (.int x8), .val (.int x9), .val (.int x10)] [])) t
        refine XS.iload X0.here hx rfl (hb hby d9_16) rfl ?_
        exact k
      refine QP.cast (congrArg (fun z => some (Value.int z)) (show (g9_0 y0 y2 y4 y6 x8 x9 x10) = x9 from ((if_neg hc1).trans (if_pos hc2)))) ?_
      exact own_retI X0 hx hlk hret (hb hby d9_18) hk hn ⟨rfl, N0, e0⟩
    · refine Runs.via (T' := T0) (g' := (mkF m 19 #[.val (.long y0), .second, .val (.long y2), .second, .val (.long y4), .second, .val (.long y6), .second, .val (.int x8), .val (.int x9), .val (.int x10)] [])) (fun t k => ?_) ?_
      · show Steps p.tables e below (T0.setTop (mkF m 13 #[.val (.long y0), .second, .val (.long y2), .second, .val (.long y4), .second, .val (.long y6), .second, .val (.int x8), .val (.int x9), .val (.int x10)] [(.int (lcmpW y0 y4))])) t
        exact XS.ifYes X0.here hx rfl (pc0 := 13) (pc' := 19) rfl (hb hby d9_13) rfl ((if0 _ _).trans (feq (fun q => hc2 ((lw_eq _ _).mp q))).2) (by decide) (by decide) k
      refine Runs.via (T' := T0) (g' := (mkF m 23 #[.val (.long y0), .second, .val (.long y2), .second, .val (.long y4), .second, .val (.long y6), .second, .val (.int x8), .val (.int x9), .val (.int x10)] [(.int (lcmpW y0 y6))])) (fun t k => ?_) ?_
      · show Steps p.tables e below (T0.setTop (mkF m 19 #[.val (.long y0), .second, .val (.long y2), .second, .val (.long y4), .second, .val (.long y6), .second, .val (.int x8), .val (.int x9), .val (.int x10)] [])) t
        refine XS.lloadN X0.here hx rfl (hb hby d9_19) rfl ?_
        show Steps p.tables e below (T0.setTop (mkF m 20 #[.val (.long y0), .second, .val (.long y2), .second, .val (.long y4), .second, .val (.long y6), .second, .val (.int x8), .val (.int x9), .val (.int x10)] [(.long y0)])) t
        refine XS.lload X0.here hx rfl (hb hby d9_20) rfl ?_
        show Steps p.tables e below (T0.setTop (mkF m 22 #[.val (.long y0), .second, .val (.long y2), .second, .val (.long y4), .second, .val (.long y6), .second, .val (.int x8), .val (.int x9), .val (.int x10)] [(.long y6), (.long y0)])) t
        refine XS.lcmp X0.here hx rfl (hb hby d9_22) rfl ?_
        exact k
      by_cases hc3 : y0 = y6
      · refine Runs.via (T' := T0) (g' := (mkF m 26 #[.val (.long y0), .second, .val (.long y2), .second, .val (.long y4), .second, .val (.long y6), .second, .val (.int x8), .val (.int x9), .val (.int x10)] [])) (fun t k => ?_) ?_
        · show Steps p.tables e below (T0.setTop (mkF m 23 #[.val (.long y0), .second, .val (.long y2), .second, .val (.long y4), .second, .val (.long y6), .second, .val (.int x8), .val (.int x9), .val (.int x10)] [(.int (lcmpW y0 y6))])) t
          exact XS.ifNo X0.here hx rfl (hb hby d9_23) rfl ((if0 _ _).trans (teq ((lw_eq _ _).mpr hc3)).2) k
        refine Runs.via (T' := T0) (g' := (mkF m 28 #[.val (.long y0), .second, .val (.long y2), .second, .val (.long y4), .second, .val (.long y6), .second, .val (.int x8), .val (.int x9), .val (.int x10)] [(.int x10)])) (fun t k => ?_) ?_
        · show Steps p.tables e below (T0.setTop (mkF m 26 #[.val (.long y0), .second, .val (.long y2), .second, .val (.long y4), .second, .val (.long y6), .second, .val (.int x8), .val (.int x9), .val (.int x10)] [])) t
          refine XS.iload X0.here hx rfl (hb hby d9_26) rfl ?_
          exact k
        refine QP.cast (congrArg (fun z => some (Value.int z)) (show (g9_0 y0 y2 y4 y6 x8 x9 x10) = x10 from ((if_neg hc1).trans ((if_neg hc2).trans (if_pos hc3))))) ?_
        exact own_retI X0 hx hlk hret (hb hby d9_28) hk hn ⟨rfl, N0, e0⟩
      · refine Runs.via (T' := T0) (g' := (mkF m 29 #[.val (.long y0), .second, .val (.long y2), .second, .val (.long y4), .second, .val (.long y6), .second, .val (.int x8), .val (.int x9), .val (.int x10)] [])) (fun t k => ?_) ?_
        · show Steps p.tables e below (T0.setTop (mkF m 23 #[.val (.long y0), .second, .val (.long y2), .second, .val (.long y4), .second, .val (.long y6), .second, .val (.int x8), .val (.int x9), .val (.int x10)] [(.int (lcmpW y0 y6))])) t
          exact XS.ifYes X0.here hx rfl (pc0 := 23) (pc' := 29) rfl (hb hby d9_23) rfl ((if0 _ _).trans (feq (fun q => hc3 ((lw_eq _ _).mp q))).2) (by decide) (by decide) k
        refine Runs.via (T' := T0) (g' := (mkF m 30 #[.val (.long y0), .second, .val (.long y2), .second, .val (.long y4), .second, .val (.long y6), .second, .val (.int x8), .val (.int x9), .val (.int x10)] [(.int (-1 : Int32))])) (fun t k => ?_) ?_
        · show Steps p.tables e below (T0.setTop (mkF m 29 #[.val (.long y0), .second, .val (.long y2), .second, .val (.long y4), .second, .val (.long y6), .second, .val (.int x8), .val (.int x9), .val (.int x10)] [])) t
          refine XS.iconst X0.here hx rfl (hb hby d9_29) ?_
          exact k
        refine QP.cast (congrArg (fun z => some (Value.int z)) (show (g9_0 y0 y2 y4 y6 x8 x9 x10) = (-1 : Int32) from ((if_neg hc1).trans ((if_neg hc2).trans (if_neg hc3))))) ?_
        exact own_retI X0 hx hlk hret (hb hby d9_30) hk hn ⟨rfl, N0, e0⟩
def f9 (y0 : Int64) (y2 : Int64) (y4 : Int64) (y6 : Int64) (x8 : Int32) (x9 : Int32) (x10 : Int32) : Int32 := g9_0 y0 y2 y4 y6 x8 x9 x10
theorem pn_9 : plainName "com/example/mopor/mopor/reduction/LongIntTableGetPinLaw" = true := by first | (simp [plainName, overriddenIn]; done) | decide +kernel
theorem ef_9 (m : MethodId) (y0 : Int64) (y2 : Int64) (y4 : Int64) (y6 : Int64) (x8 : Int32) (x9 : Int32) (x10 : Int32) : entryFrame m #[(.long y0), (.long y2), (.long y4), (.long y6), (.int x8), (.int x9), (.int x10)] 11 = mkF m 0 #[.val (.long y0), .second, .val (.long y2), .second, .val (.long y4), .second, .val (.long y6), .second, .val (.int x8), .val (.int x9), .val (.int x10)] [] := by first | (simp [entryFrame, mkF, argsToLocals, Value.category]; done) | rfl
set_option maxRecDepth 65536 in
set_option maxHeartbeats 4000000 in
theorem rm9 (l : Launch) (Z : State) (a0 : Array Value) (hw : ∀ d ∈ tables_1, d.before a0 Z = true) (ws : List Jvm.Cond) (y0 : Int64) (y2 : Int64) (y4 : Int64) (y6 : Int64) (x8 : Int32) (x9 : Int32) (x10 : Int32) (h0 : Heap) (n0 : Nat) :
    MetFree l (⟨"com/example/mopor/mopor/reduction/LongIntTableGetPinLaw", "exp", "(JJJJIII)I"⟩ : MethodName) (head1 (Jvm.Cond.code (⟨"com/example/mopor/mopor/reduction/LongIntTableGetPinLaw", "exp", "(JJJJIII)I"⟩ : MethodName) method_4_code 11 (some .int) :: ws) ({ frames := 0, cells := 0, slots := 0, locals := 0 } : Room)) (fun a U => a = #[(.long y0), (.long y2), (.long y4), (.long y6), (.int x8), (.int x9), (.int x10)] ∧ Z.Warmed39 U.vm ∧ U.heap = h0) (fun _ _ _ _ _ => True) (fun _ U o U' => ∃ v L, o = .returned v ∧ QP (some (.int (f9 y0 y2 y4 y6 x8 x9 x10))) h0 n0 v U'.heap L ∧ FrameEnd U o U' L ({ frames := 0, cells := 0, slots := 0, locals := 0 } : Room).cells ({ frames := 0, cells := 0, slots := 0, locals := 0 } : Room).slots) := by
  refine MetFree.of_bodySF (plainFor_of_name pn_9) hisR ?_
  intro p e s m args below meth c s₁ Bd hml0 hP hK
  obtain ⟨rfl, hZ, hh⟩ := hP
  have X0 : Stand p l e ({ frames := 0, cells := 0, slots := 0, locals := 0 } : Room) s m #[(.long y0), (.long y2), (.long y4), (.long y6), (.int x8), (.int x9), (.int x10)] below meth c s₁ [] 0 0 := Stand.of_body Bd
  have e0 : s₁.heap = h0 := by rw [← hh, Bd.state]; rfl
  have C : Ctx p s m meth c Z a0 "com/example/mopor/mopor/reduction/LongIntTableGetPinLaw" method_4_code 11 (some .int) "exp" := ⟨Bd.exec, hZ, hw, Bd.bytes, hml0, findClass_of_methodNamed Bd.named, Bd.returns, BodyLoose.notSynchronized Bd, (name_of_methodNamed Bd.named Bd.method).1⟩
  refine Runs.via (fun t k => castTop (ef_9 m y0 y2 y4 y6 x8 x9 x10) k) (b9_0 C X0 e0 (Fr.nil n0) (Nat.le_refl 0) (Nat.le_refl 0) y0 y2 y4 y6 x8 x9 x10)
theorem pd_7 : parseMethodDescriptor "(JJJJIII)I" = some ⟨[.long, .long, .long, .long, .int, .int, .int], some .int⟩ := by decide +kernel
def P0 (n0 : Nat) (r : Int32) (v : Option Value) (h : Heap) (L : List Loc) : Prop := v = some (.int r) ∧ Fr n0 L
def g0_255 (fuel : Nat) (u0 : Int32) (q_n0_0_size : Int32) (q_n1_0 : List Int64) (q_n2_0 : List Int32) : Option (Int32) := some (u0 &&& 1)
set_option maxRecDepth 65536 in
set_option maxHeartbeats 4000000 in
theorem b0_255 {r : Int32} (C : Ctx p s m meth c Z a0 "com/example/mopor/mopor/reduction/LongIntTableGetPinLaw" code 24 (some .boolean) "law") (fuel : Nat) (X0 : Stand p l e room_1 s m args below meth c T0 locs cells slots) (e0 : T0.heap = h0) (N0 : Fr n0 locs) (hk : cells ≤ 3) (hn : slots ≤ 35) (Z1 : n0 ≤ h0.size) (n0_0 : Addr) (n1_0 : Addr) (n2_0 : Addr) (o0 : n0 ≤ n0_0) (o1 : @LT.lt Nat instLTNat n0_0 n1_0) (o2 : @LT.lt Nat instLTNat n1_0 n2_0) (q_n0_0_size : Int32) (q_n1_0 : List Int64) (q_n2_0 : List Int32) (y0 : Int64) (y2 : Int64) (y4 : Int64) (x6 : Int32) (x7 : Int32) (x8 : Int32) (y9 : Int64) (y11 : Int64) (y13 : Int64) (y15 : Int64) (x18 : Int32) (x19 : Int32) (x20 : Int32) (x21 : Int32) (x22 : Int32) (x23 : Int32) (u0 : Int32) (E_n0_0_0 : Exa Z h0 n0_0 "com/example/mopor/mopor/reduction/LongIntTable") (F_n0_0_keys_0 : Fld Z h0 n0_0 "com/example/mopor/mopor/reduction/LongIntTable" "keys" "[J" (.ref n1_0)) (F_n0_0_values_0 : Fld Z h0 n0_0 "com/example/mopor/mopor/reduction/LongIntTable" "values" "[I" (.ref n2_0)) (F_n0_0_size_0 : Fld Z h0 n0_0 "com/example/mopor/mopor/reduction/LongIntTable" "size" "I" (.int q_n0_0_size)) (A_n1_0_0 : AJ Z h0 n1_0 .long q_n1_0) (A_n2_0_0 : AI Z h0 n2_0 .int q_n2_0) (hr : g0_255 fuel u0 q_n0_0_size q_n1_0 q_n2_0 = some r) :
    Runs p e below s (P0 n0 r) 3 35 T0 (mkF m 255 #[.val (.long y0), .second, .val (.long y2), .second, .val (.long y4), .second, .val (.int x6), .val (.int x7), .val (.int x8), .val (.long y9), .second, .val (.long y11), .second, .val (.long y13), .second, .val (.long y15), .second, .val (.ref n0_0), .val (.int x18), .val (.int x19), .val (.int x20), .val (.int x21), .val (.int x22), .val (.int x23)] [(.int u0)]) := by
  unfold g0_255 at hr
  have ⟨hx, hZ, hw, hby, hml, hown, hret, hlk, hnm⟩ := C
  refine Runs.via (T' := T0) (g' := (mkF m 259 #[.val (.long y0), .second, .val (.long y2), .second, .val (.long y4), .second, .val (.int x6), .val (.int x7), .val (.int x8), .val (.long y9), .second, .val (.long y11), .second, .val (.long y13), .second, .val (.long y15), .second, .val (.ref n0_0), .val (.int x18), .val (.int x19), .val (.int x20), .val (.int x21), .val (.int x22), .val (.int u0)] [(.int u0)])) (fun t k => ?_) ?_
  · show Steps p.tables e below (T0.setTop (mkF m 255 #[.val (.long y0), .second, .val (.long y2), .second, .val (.long y4), .second, .val (.int x6), .val (.int x7), .val (.int x8), .val (.long y9), .second, .val (.long y11), .second, .val (.long y13), .second, .val (.long y15), .second, .val (.ref n0_0), .val (.int x18), .val (.int x19), .val (.int x20), .val (.int x21), .val (.int x22), .val (.int x23)] [(.int u0)])) t
    refine XS.istore X0.here hx rfl (hb hby at_255) rfl (l' := #[.val (.long y0), .second, .val (.long y2), .second, .val (.long y4), .second, .val (.int x6), .val (.int x7), .val (.int x8), .val (.long y9), .second, .val (.long y11), .second, .val (.long y13), .second, .val (.long y15), .second, .val (.ref n0_0), .val (.int x18), .val (.int x19), .val (.int x20), .val (.int x21), .val (.int x22), .val (.int u0)]) rfl ?_
    show Steps p.tables e below (T0.setTop (mkF m 257 #[.val (.long y0), .second, .val (.long y2), .second, .val (.long y4), .second, .val (.int x6), .val (.int x7), .val (.int x8), .val (.long y9), .second, .val (.long y11), .second, .val (.long y13), .second, .val (.long y15), .second, .val (.ref n0_0), .val (.int x18), .val (.int x19), .val (.int x20), .val (.int x21), .val (.int x22), .val (.int u0)] [])) t
    refine XS.iload X0.here hx rfl (hb hby at_257) rfl ?_
    exact k
  obtain rfl := Option.some.inj hr
  exact own_retN X0 hx hlk (t := .boolean) hret (by simp) (hb hby at_259) (by show cells ≤ 3; omega) (by show slots ≤ 35; omega) ⟨rfl, N0⟩
def g0_254 (fuel : Nat) (q_n0_0_size : Int32) (q_n1_0 : List Int64) (q_n2_0 : List Int32) : Option (Int32) := (g0_255 fuel (0 : Int32) q_n0_0_size q_n1_0 q_n2_0)
set_option maxRecDepth 65536 in
set_option maxHeartbeats 4000000 in
theorem b0_254 {r : Int32} (C : Ctx p s m meth c Z a0 "com/example/mopor/mopor/reduction/LongIntTableGetPinLaw" code 24 (some .boolean) "law") (fuel : Nat) (X0 : Stand p l e room_1 s m args below meth c T0 locs cells slots) (e0 : T0.heap = h0) (N0 : Fr n0 locs) (hk : cells ≤ 3) (hn : slots ≤ 35) (Z1 : n0 ≤ h0.size) (n0_0 : Addr) (n1_0 : Addr) (n2_0 : Addr) (o0 : n0 ≤ n0_0) (o1 : @LT.lt Nat instLTNat n0_0 n1_0) (o2 : @LT.lt Nat instLTNat n1_0 n2_0) (q_n0_0_size : Int32) (q_n1_0 : List Int64) (q_n2_0 : List Int32) (y0 : Int64) (y2 : Int64) (y4 : Int64) (x6 : Int32) (x7 : Int32) (x8 : Int32) (y9 : Int64) (y11 : Int64) (y13 : Int64) (y15 : Int64) (x18 : Int32) (x19 : Int32) (x20 : Int32) (x21 : Int32) (x22 : Int32) (x23 : Int32) (E_n0_0_0 : Exa Z h0 n0_0 "com/example/mopor/mopor/reduction/LongIntTable") (F_n0_0_keys_0 : Fld Z h0 n0_0 "com/example/mopor/mopor/reduction/LongIntTable" "keys" "[J" (.ref n1_0)) (F_n0_0_values_0 : Fld Z h0 n0_0 "com/example/mopor/mopor/reduction/LongIntTable" "values" "[I" (.ref n2_0)) (F_n0_0_size_0 : Fld Z h0 n0_0 "com/example/mopor/mopor/reduction/LongIntTable" "size" "I" (.int q_n0_0_size)) (A_n1_0_0 : AJ Z h0 n1_0 .long q_n1_0) (A_n2_0_0 : AI Z h0 n2_0 .int q_n2_0) (hr : g0_254 fuel q_n0_0_size q_n1_0 q_n2_0 = some r) :
    Runs p e below s (P0 n0 r) 3 35 T0 (mkF m 254 #[.val (.long y0), .second, .val (.long y2), .second, .val (.long y4), .second, .val (.int x6), .val (.int x7), .val (.int x8), .val (.long y9), .second, .val (.long y11), .second, .val (.long y13), .second, .val (.long y15), .second, .val (.ref n0_0), .val (.int x18), .val (.int x19), .val (.int x20), .val (.int x21), .val (.int x22), .val (.int x23)] []) := by
  unfold g0_254 at hr
  have ⟨hx, hZ, hw, hby, hml, hown, hret, hlk, hnm⟩ := C
  refine Runs.via (T' := T0) (g' := (mkF m 255 #[.val (.long y0), .second, .val (.long y2), .second, .val (.long y4), .second, .val (.int x6), .val (.int x7), .val (.int x8), .val (.long y9), .second, .val (.long y11), .second, .val (.long y13), .second, .val (.long y15), .second, .val (.ref n0_0), .val (.int x18), .val (.int x19), .val (.int x20), .val (.int x21), .val (.int x22), .val (.int x23)] [(.int (0 : Int32))])) (fun t k => ?_) ?_
  · show Steps p.tables e below (T0.setTop (mkF m 254 #[.val (.long y0), .second, .val (.long y2), .second, .val (.long y4), .second, .val (.int x6), .val (.int x7), .val (.int x8), .val (.long y9), .second, .val (.long y11), .second, .val (.long y13), .second, .val (.long y15), .second, .val (.ref n0_0), .val (.int x18), .val (.int x19), .val (.int x20), .val (.int x21), .val (.int x22), .val (.int x23)] [])) t
    refine XS.iconst X0.here hx rfl (hb hby at_254) ?_
    exact k
  exact b0_255 C fuel X0 e0 N0 (by show cells ≤ 3; omega) (by show slots ≤ 35; omega) Z1 n0_0 n1_0 n2_0 (by omega) (by omega) (by omega) q_n0_0_size q_n1_0 q_n2_0 y0 y2 y4 x6 x7 x8 y9 y11 y13 y15 x18 x19 x20 x21 x22 x23 (0 : Int32) E_n0_0_0 F_n0_0_keys_0 F_n0_0_values_0 F_n0_0_size_0 A_n1_0_0 A_n2_0_0 hr
def g0_221 (fuel : Nat) (x6 : Int32) (x7 : Int32) (x8 : Int32) (y9 : Int64) (y11 : Int64) (y13 : Int64) (y15 : Int64) (x22 : Int32) (u0 : Int32) (q_n0_0_size : Int32) (q_n1_0 : List Int64) (q_n2_0 : List Int32) : Option (Int32) := (if u0 = (0 : Int32) then (g0_254 fuel q_n0_0_size q_n1_0 q_n2_0) else (if x22 = (f9 y15 y9 y11 y13 x6 x7 x8) then (g0_255 fuel (1 : Int32) q_n0_0_size q_n1_0 q_n2_0) else (g0_254 fuel q_n0_0_size q_n1_0 q_n2_0)))
set_option maxRecDepth 65536 in
set_option maxHeartbeats 4000000 in
theorem b0_221 {r : Int32} (C : Ctx p s m meth c Z a0 "com/example/mopor/mopor/reduction/LongIntTableGetPinLaw" code 24 (some .boolean) "law") (fuel : Nat) (X0 : Stand p l e room_1 s m args below meth c T0 locs cells slots) (e0 : T0.heap = h0) (N0 : Fr n0 locs) (hk : cells ≤ 3) (hn : slots ≤ 35) (Z1 : n0 ≤ h0.size) (n0_0 : Addr) (n1_0 : Addr) (n2_0 : Addr) (o0 : n0 ≤ n0_0) (o1 : @LT.lt Nat instLTNat n0_0 n1_0) (o2 : @LT.lt Nat instLTNat n1_0 n2_0) (q_n0_0_size : Int32) (q_n1_0 : List Int64) (q_n2_0 : List Int32) (y0 : Int64) (y2 : Int64) (y4 : Int64) (x6 : Int32) (x7 : Int32) (x8 : Int32) (y9 : Int64) (y11 : Int64) (y13 : Int64) (y15 : Int64) (x18 : Int32) (x19 : Int32) (x20 : Int32) (x21 : Int32) (x22 : Int32) (x23 : Int32) (u0 : Int32) (E_n0_0_0 : Exa Z h0 n0_0 "com/example/mopor/mopor/reduction/LongIntTable") (F_n0_0_keys_0 : Fld Z h0 n0_0 "com/example/mopor/mopor/reduction/LongIntTable" "keys" "[J" (.ref n1_0)) (F_n0_0_values_0 : Fld Z h0 n0_0 "com/example/mopor/mopor/reduction/LongIntTable" "values" "[I" (.ref n2_0)) (F_n0_0_size_0 : Fld Z h0 n0_0 "com/example/mopor/mopor/reduction/LongIntTable" "size" "I" (.int q_n0_0_size)) (A_n1_0_0 : AJ Z h0 n1_0 .long q_n1_0) (A_n2_0_0 : AI Z h0 n2_0 .int q_n2_0) (hr : g0_221 fuel x6 x7 x8 y9 y11 y13 y15 x22 u0 q_n0_0_size q_n1_0 q_n2_0 = some r) :
    Runs p e below s (P0 n0 r) 3 35 T0 (mkF m 221 #[.val (.long y0), .second, .val (.long y2), .second, .val (.long y4), .second, .val (.int x6), .val (.int x7), .val (.int x8), .val (.long y9), .second, .val (.long y11), .second, .val (.long y13), .second, .val (.long y15), .second, .val (.ref n0_0), .val (.int x18), .val (.int x19), .val (.int x20), .val (.int x21), .val (.int x22), .val (.int x23)] [(.int u0)]) := by
  unfold g0_221 at hr
  have ⟨hx, hZ, hw, hby, hml, hown, hret, hlk, hnm⟩ := C
  refine Runs.via (T' := T0) (g' := (mkF m 225 #[.val (.long y0), .second, .val (.long y2), .second, .val (.long y4), .second, .val (.int x6), .val (.int x7), .val (.int x8), .val (.long y9), .second, .val (.long y11), .second, .val (.long y13), .second, .val (.long y15), .second, .val (.ref n0_0), .val (.int x18), .val (.int x19), .val (.int x20), .val (.int x21), .val (.int x22), .val (.int u0)] [(.int u0)])) (fun t k => ?_) ?_
  · show Steps p.tables e below (T0.setTop (mkF m 221 #[.val (.long y0), .second, .val (.long y2), .second, .val (.long y4), .second, .val (.int x6), .val (.int x7), .val (.int x8), .val (.long y9), .second, .val (.long y11), .second, .val (.long y13), .second, .val (.long y15), .second, .val (.ref n0_0), .val (.int x18), .val (.int x19), .val (.int x20), .val (.int x21), .val (.int x22), .val (.int x23)] [(.int u0)])) t
    refine XS.istore X0.here hx rfl (hb hby at_221) rfl (l' := #[.val (.long y0), .second, .val (.long y2), .second, .val (.long y4), .second, .val (.int x6), .val (.int x7), .val (.int x8), .val (.long y9), .second, .val (.long y11), .second, .val (.long y13), .second, .val (.long y15), .second, .val (.ref n0_0), .val (.int x18), .val (.int x19), .val (.int x20), .val (.int x21), .val (.int x22), .val (.int u0)]) rfl ?_
    show Steps p.tables e below (T0.setTop (mkF m 223 #[.val (.long y0), .second, .val (.long y2), .second, .val (.long y4), .second, .val (.int x6), .val (.int x7), .val (.int x8), .val (.long y9), .second, .val (.long y11), .second, .val (.long y13), .second, .val (.long y15), .second, .val (.ref n0_0), .val (.int x18), .val (.int x19), .val (.int x20), .val (.int x21), .val (.int x22), .val (.int u0)] [])) t
    refine XS.iload X0.here hx rfl (hb hby at_223) rfl ?_
    exact k
  refine iteE hr (fun hc1 hr => ?_) (fun hc1 hr => ?_)
  · refine Runs.via (T' := T0) (g' := (mkF m 254 #[.val (.long y0), .second, .val (.long y2), .second, .val (.long y4), .second, .val (.int x6), .val (.int x7), .val (.int x8), .val (.long y9), .second, .val (.long y11), .second, .val (.long y13), .second, .val (.long y15), .second, .val (.ref n0_0), .val (.int x18), .val (.int x19), .val (.int x20), .val (.int x21), .val (.int x22), .val (.int u0)] [])) (fun t k => ?_) ?_
    · show Steps p.tables e below (T0.setTop (mkF m 225 #[.val (.long y0), .second, .val (.long y2), .second, .val (.long y4), .second, .val (.int x6), .val (.int x7), .val (.int x8), .val (.long y9), .second, .val (.long y11), .second, .val (.long y13), .second, .val (.long y15), .second, .val (.ref n0_0), .val (.int x18), .val (.int x19), .val (.int x20), .val (.int x21), .val (.int x22), .val (.int u0)] [(.int u0)])) t
      exact XS.ifYes X0.here hx rfl (pc0 := 225) (pc' := 254) rfl (hb hby at_225) rfl ((if0 _ _).trans (teq hc1).1) (by decide) (by decide) k
    exact b0_254 C fuel X0 e0 N0 (by show cells ≤ 3; omega) (by show slots ≤ 35; omega) Z1 n0_0 n1_0 n2_0 (by omega) (by omega) (by omega) q_n0_0_size q_n1_0 q_n2_0 y0 y2 y4 x6 x7 x8 y9 y11 y13 y15 x18 x19 x20 x21 x22 u0 E_n0_0_0 F_n0_0_keys_0 F_n0_0_values_0 F_n0_0_size_0 A_n1_0_0 A_n2_0_0 hr
  · refine Runs.via (T' := T0) (g' := (mkF m 228 #[.val (.long y0), .second, .val (.long y2), .second, .val (.long y4), .second, .val (.int x6), .val (.int x7), .val (.int x8), .val (.long y9), .second, .val (.long y11), .second, .val (.long y13), .second, .val (.long y15), .second, .val (.ref n0_0), .val (.int x18), .val (.int x19), .val (.int x20), .val (.int x21), .val (.int x22), .val (.int u0)] [])) (fun t k => ?_) ?_
    · show Steps p.tables e below (T0.setTop (mkF m 225 #[.val (.long y0), .second, .val (.long y2), .second, .val (.long y4), .second, .val (.int x6), .val (.int x7), .val (.int x8), .val (.long y9), .second, .val (.long y11), .second, .val (.long y13), .second, .val (.long y15), .second, .val (.ref n0_0), .val (.int x18), .val (.int x19), .val (.int x20), .val (.int x21), .val (.int x22), .val (.int u0)] [(.int u0)])) t
      exact XS.ifNo X0.here hx rfl (hb hby at_225) rfl ((if0 _ _).trans (feq hc1).1) k
    refine Runs.via (T' := T0) (g' := (mkF m 244 #[.val (.long y0), .second, .val (.long y2), .second, .val (.long y4), .second, .val (.int x6), .val (.int x7), .val (.int x8), .val (.long y9), .second, .val (.long y11), .second, .val (.long y13), .second, .val (.long y15), .second, .val (.ref n0_0), .val (.int x18), .val (.int x19), .val (.int x20), .val (.int x21), .val (.int x22), .val (.int u0)] [(.int x8), (.int x7), (.int x6), (.long y13), (.long y11), (.long y9), (.long y15), (.int x22)])) (fun t k => ?_) ?_
    · show Steps p.tables e below (T0.setTop (mkF m 228 #[.val (.long y0), .second, .val (.long y2), .second, .val (.long y4), .second, .val (.int x6), .val (.int x7), .val (.int x8), .val (.long y9), .second, .val (.long y11), .second, .val (.long y13), .second, .val (.long y15), .second, .val (.ref n0_0), .val (.int x18), .val (.int x19), .val (.int x20), .val (.int x21), .val (.int x22), .val (.int u0)] [])) t
      refine XS.iload X0.here hx rfl (hb hby at_228) rfl ?_
      show Steps p.tables e below (T0.setTop (mkF m 230 #[.val (.long y0), .second, .val (.long y2), .second, .val (.long y4), .second, .val (.int x6), .val (.int x7), .val (.int x8), .val (.long y9), .second, .val (.long y11), .second, .val (.long y13), .second, .val (.long y15), .second, .val (.ref n0_0), .val (.int x18), .val (.int x19), .val (.int x20), .val (.int x21), .val (.int x22), .val (.int u0)] [(.int x22)])) t
      refine XS.lload X0.here hx rfl (hb hby at_230) rfl ?_
      show Steps p.tables e below (T0.setTop (mkF m 232 #[.val (.long y0), .second, .val (.long y2), .second, .val (.long y4), .second, .val (.int x6), .val (.int x7), .val (.int x8), .val (.long y9), .second, .val (.long y11), .second, .val (.long y13), .second, .val (.long y15), .second, .val (.ref n0_0), .val (.int x18), .val (.int x19), .val (.int x20), .val (.int x21), .val (.int x22), .val (.int u0)] [(.long y15), (.int x22)])) t
      refine XS.lload X0.here hx rfl (hb hby at_232) rfl ?_
      show Steps p.tables e below (T0.setTop (mkF m 234 #[.val (.long y0), .second, .val (.long y2), .second, .val (.long y4), .second, .val (.int x6), .val (.int x7), .val (.int x8), .val (.long y9), .second, .val (.long y11), .second, .val (.long y13), .second, .val (.long y15), .second, .val (.ref n0_0), .val (.int x18), .val (.int x19), .val (.int x20), .val (.int x21), .val (.int x22), .val (.int u0)] [(.long y9), (.long y15), (.int x22)])) t
      refine XS.lload X0.here hx rfl (hb hby at_234) rfl ?_
      show Steps p.tables e below (T0.setTop (mkF m 236 #[.val (.long y0), .second, .val (.long y2), .second, .val (.long y4), .second, .val (.int x6), .val (.int x7), .val (.int x8), .val (.long y9), .second, .val (.long y11), .second, .val (.long y13), .second, .val (.long y15), .second, .val (.ref n0_0), .val (.int x18), .val (.int x19), .val (.int x20), .val (.int x21), .val (.int x22), .val (.int u0)] [(.long y11), (.long y9), (.long y15), (.int x22)])) t
      refine XS.lload X0.here hx rfl (hb hby at_236) rfl ?_
      show Steps p.tables e below (T0.setTop (mkF m 238 #[.val (.long y0), .second, .val (.long y2), .second, .val (.long y4), .second, .val (.int x6), .val (.int x7), .val (.int x8), .val (.long y9), .second, .val (.long y11), .second, .val (.long y13), .second, .val (.long y15), .second, .val (.ref n0_0), .val (.int x18), .val (.int x19), .val (.int x20), .val (.int x21), .val (.int x22), .val (.int u0)] [(.long y13), (.long y11), (.long y9), (.long y15), (.int x22)])) t
      refine XS.iload X0.here hx rfl (hb hby at_238) rfl ?_
      show Steps p.tables e below (T0.setTop (mkF m 240 #[.val (.long y0), .second, .val (.long y2), .second, .val (.long y4), .second, .val (.int x6), .val (.int x7), .val (.int x8), .val (.long y9), .second, .val (.long y11), .second, .val (.long y13), .second, .val (.long y15), .second, .val (.ref n0_0), .val (.int x18), .val (.int x19), .val (.int x20), .val (.int x21), .val (.int x22), .val (.int u0)] [(.int x6), (.long y13), (.long y11), (.long y9), (.long y15), (.int x22)])) t
      refine XS.iload X0.here hx rfl (hb hby at_240) rfl ?_
      show Steps p.tables e below (T0.setTop (mkF m 242 #[.val (.long y0), .second, .val (.long y2), .second, .val (.long y4), .second, .val (.int x6), .val (.int x7), .val (.int x8), .val (.long y9), .second, .val (.long y11), .second, .val (.long y13), .second, .val (.long y15), .second, .val (.ref n0_0), .val (.int x18), .val (.int x19), .val (.int x20), .val (.int x21), .val (.int x22), .val (.int u0)] [(.int x7), (.int x6), (.long y13), (.long y11), (.long y9), (.long y15), (.int x22)])) t
      refine XS.iload X0.here hx rfl (hb hby at_242) rfl ?_
      exact k
    obtain ⟨_, _, ⟨T2, L2, k2, n2⟩, -, X2, ⟨Lc2, hQ2, l2, y2, z2⟩, st2⟩ := Jvm.LawKit.callS X0 hx (y := (⟨"com/example/mopor/mopor/reduction/LongIntTableGetPinLaw", "exp", "(JJJJIII)I"⟩ : MethodName)) hown (mvT hZ (hw _ (List.mem_of_getElem? (i := 44) rfl))) (mvT hZ (hw _ (List.mem_of_getElem? (i := 45) rfl))) (mvT hZ (hw _ (List.mem_of_getElem? (i := 2) rfl))) (mvT hZ (hw _ (List.mem_of_getElem? (i := 46) rfl))) (by decide) (backOf (W := 1) (rm9 l Z a0 hw [] y15 y9 y11 y13 x6 x7 x8 h0 n0) hZ (hw _ (List.mem_of_getElem? (i := 46) rfl)) (hw _ (List.mem_of_getElem? (i := 2) rfl)) (by decide) (by decide)) (g := (mkF m 244 #[.val (.long y0), .second, .val (.long y2), .second, .val (.long y4), .second, .val (.int x6), .val (.int x7), .val (.int x8), .val (.long y9), .second, .val (.long y11), .second, .val (.long y13), .second, .val (.long y15), .second, .val (.ref n0_0), .val (.int x18), .val (.int x19), .val (.int x20), .val (.int x21), .val (.int x22), .val (.int u0)] [(.int x8), (.int x7), (.int x6), (.long y13), (.long y11), (.long y9), (.long y15), (.int x22)])) rfl (by rw [hml]; rfl) (argsL := [(.long y15), (.long y9), (.long y11), (.long y13), (.int x6), (.int x7), (.int x8)]) (rest := [(.int x22)]) (lenOf pd_7 rfl) rfl (by show 2 * 0 + _ ≤ _; exact Nat.le_of_eq rfl) (hb hby at_244) (fun _ _ => ⟨rfl, e0, (by show cells + 0 ≤ 16; omega), (by show slots + 0 ≤ 192; omega)⟩)
    dsimp only [Pt.U, Pt.locs, Pt.cells, Pt.slots] at X2 l2 y2 z2 st2 hQ2
    replace y2 := y2.symm; replace z2 := z2.symm; subst l2 y2 z2
    obtain ⟨rfl, N2q, e2⟩ := hQ2
    have N2 := Fr.app N0 N2q
    refine Runs.via (T' := T2) (g' := (mkF m 247 #[.val (.long y0), .second, .val (.long y2), .second, .val (.long y4), .second, .val (.int x6), .val (.int x7), .val (.int x8), .val (.long y9), .second, .val (.long y11), .second, .val (.long y13), .second, .val (.long y15), .second, .val (.ref n0_0), .val (.int x18), .val (.int x19), .val (.int x20), .val (.int x21), .val (.int x22), .val (.int u0)] [(.int (f9 y15 y9 y11 y13 x6 x7 x8)), (.int x22)])) (fun t k => st2 _ k) ?_
    refine iteE hr (fun hc3 hr => ?_) (fun hc3 hr => ?_)
    · refine Runs.via (T' := T2) (g' := (mkF m 250 #[.val (.long y0), .second, .val (.long y2), .second, .val (.long y4), .second, .val (.int x6), .val (.int x7), .val (.int x8), .val (.long y9), .second, .val (.long y11), .second, .val (.long y13), .second, .val (.long y15), .second, .val (.ref n0_0), .val (.int x18), .val (.int x19), .val (.int x20), .val (.int x21), .val (.int x22), .val (.int u0)] [])) (fun t k => ?_) ?_
      · show Steps p.tables e below (T2.setTop (mkF m 247 #[.val (.long y0), .second, .val (.long y2), .second, .val (.long y4), .second, .val (.int x6), .val (.int x7), .val (.int x8), .val (.long y9), .second, .val (.long y11), .second, .val (.long y13), .second, .val (.long y15), .second, .val (.ref n0_0), .val (.int x18), .val (.int x19), .val (.int x20), .val (.int x21), .val (.int x22), .val (.int u0)] [(.int (f9 y15 y9 y11 y13 x6 x7 x8)), (.int x22)])) t
        exact XS.icmpNo X2.here hx rfl (hb hby at_247) rfl (teq hc3).2 k
      refine Runs.via (T' := T2) (g' := (mkF m 255 #[.val (.long y0), .second, .val (.long y2), .second, .val (.long y4), .second, .val (.int x6), .val (.int x7), .val (.int x8), .val (.long y9), .second, .val (.long y11), .second, .val (.long y13), .second, .val (.long y15), .second, .val (.ref n0_0), .val (.int x18), .val (.int x19), .val (.int x20), .val (.int x21), .val (.int x22), .val (.int u0)] [(.int (1 : Int32))])) (fun t k => ?_) ?_
      · show Steps p.tables e below (T2.setTop (mkF m 250 #[.val (.long y0), .second, .val (.long y2), .second, .val (.long y4), .second, .val (.int x6), .val (.int x7), .val (.int x8), .val (.long y9), .second, .val (.long y11), .second, .val (.long y13), .second, .val (.long y15), .second, .val (.ref n0_0), .val (.int x18), .val (.int x19), .val (.int x20), .val (.int x21), .val (.int x22), .val (.int u0)] [])) t
        refine XS.iconst X2.here hx rfl (hb hby at_250) ?_
        show Steps p.tables e below (T2.setTop (mkF m 251 #[.val (.long y0), .second, .val (.long y2), .second, .val (.long y4), .second, .val (.int x6), .val (.int x7), .val (.int x8), .val (.long y9), .second, .val (.long y11), .second, .val (.long y13), .second, .val (.long y15), .second, .val (.ref n0_0), .val (.int x18), .val (.int x19), .val (.int x20), .val (.int x21), .val (.int x22), .val (.int u0)] [(.int (1 : Int32))])) t
        refine XS.goto X2.here hx rfl (pc0 := 251) (pc' := 255) rfl (hb hby at_251) (by decide) (by decide) ?_
        exact k
      exact b0_255 C fuel X2 e2 N2 (by show (cells + 0) ≤ 3; omega) (by show (slots + 0) ≤ 35; omega) Z1 n0_0 n1_0 n2_0 (by omega) (by omega) (by omega) q_n0_0_size q_n1_0 q_n2_0 y0 y2 y4 x6 x7 x8 y9 y11 y13 y15 x18 x19 x20 x21 x22 u0 (1 : Int32) E_n0_0_0 F_n0_0_keys_0 F_n0_0_values_0 F_n0_0_size_0 A_n1_0_0 A_n2_0_0 hr
    · refine Runs.via (T' := T2) (g' := (mkF m 254 #[.val (.long y0), .second, .val (.long y2), .second, .val (.long y4), .second, .val (.int x6), .val (.int x7), .val (.int x8), .val (.long y9), .second, .val (.long y11), .second, .val (.long y13), .second, .val (.long y15), .second, .val (.ref n0_0), .val (.int x18), .val (.int x19), .val (.int x20), .val (.int x21), .val (.int x22), .val (.int u0)] [])) (fun t k => ?_) ?_
      · show Steps p.tables e below (T2.setTop (mkF m 247 #[.val (.long y0), .second, .val (.long y2), .second, .val (.long y4), .second, .val (.int x6), .val (.int x7), .val (.int x8), .val (.long y9), .second, .val (.long y11), .second, .val (.long y13), .second, .val (.long y15), .second, .val (.ref n0_0), .val (.int x18), .val (.int x19), .val (.int x20), .val (.int x21), .val (.int x22), .val (.int u0)] [(.int (f9 y15 y9 y11 y13 x6 x7 x8)), (.int x22)])) t
        exact XS.icmpYes X2.here hx rfl (pc0 := 247) (pc' := 254) rfl (hb hby at_247) rfl (feq hc3).2 (by decide) (by decide) k
      exact b0_254 C fuel X2 e2 N2 (by show (cells + 0) ≤ 3; omega) (by show (slots + 0) ≤ 35; omega) Z1 n0_0 n1_0 n2_0 (by omega) (by omega) (by omega) q_n0_0_size q_n1_0 q_n2_0 y0 y2 y4 x6 x7 x8 y9 y11 y13 y15 x18 x19 x20 x21 x22 u0 E_n0_0_0 F_n0_0_keys_0 F_n0_0_values_0 F_n0_0_size_0 A_n1_0_0 A_n2_0_0 hr
def g0_220 (fuel : Nat) (x6 : Int32) (x7 : Int32) (x8 : Int32) (y9 : Int64) (y11 : Int64) (y13 : Int64) (y15 : Int64) (x22 : Int32) (q_n0_0_size : Int32) (q_n1_0 : List Int64) (q_n2_0 : List Int32) : Option (Int32) := (g0_221 fuel x6 x7 x8 y9 y11 y13 y15 x22 (0 : Int32) q_n0_0_size q_n1_0 q_n2_0)
set_option maxRecDepth 65536 in
set_option maxHeartbeats 4000000 in
theorem b0_220 {r : Int32} (C : Ctx p s m meth c Z a0 "com/example/mopor/mopor/reduction/LongIntTableGetPinLaw" code 24 (some .boolean) "law") (fuel : Nat) (X0 : Stand p l e room_1 s m args below meth c T0 locs cells slots) (e0 : T0.heap = h0) (N0 : Fr n0 locs) (hk : cells ≤ 3) (hn : slots ≤ 35) (Z1 : n0 ≤ h0.size) (n0_0 : Addr) (n1_0 : Addr) (n2_0 : Addr) (o0 : n0 ≤ n0_0) (o1 : @LT.lt Nat instLTNat n0_0 n1_0) (o2 : @LT.lt Nat instLTNat n1_0 n2_0) (q_n0_0_size : Int32) (q_n1_0 : List Int64) (q_n2_0 : List Int32) (y0 : Int64) (y2 : Int64) (y4 : Int64) (x6 : Int32) (x7 : Int32) (x8 : Int32) (y9 : Int64) (y11 : Int64) (y13 : Int64) (y15 : Int64) (x18 : Int32) (x19 : Int32) (x20 : Int32) (x21 : Int32) (x22 : Int32) (x23 : Int32) (E_n0_0_0 : Exa Z h0 n0_0 "com/example/mopor/mopor/reduction/LongIntTable") (F_n0_0_keys_0 : Fld Z h0 n0_0 "com/example/mopor/mopor/reduction/LongIntTable" "keys" "[J" (.ref n1_0)) (F_n0_0_values_0 : Fld Z h0 n0_0 "com/example/mopor/mopor/reduction/LongIntTable" "values" "[I" (.ref n2_0)) (F_n0_0_size_0 : Fld Z h0 n0_0 "com/example/mopor/mopor/reduction/LongIntTable" "size" "I" (.int q_n0_0_size)) (A_n1_0_0 : AJ Z h0 n1_0 .long q_n1_0) (A_n2_0_0 : AI Z h0 n2_0 .int q_n2_0) (hr : g0_220 fuel x6 x7 x8 y9 y11 y13 y15 x22 q_n0_0_size q_n1_0 q_n2_0 = some r) :
    Runs p e below s (P0 n0 r) 3 35 T0 (mkF m 220 #[.val (.long y0), .second, .val (.long y2), .second, .val (.long y4), .second, .val (.int x6), .val (.int x7), .val (.int x8), .val (.long y9), .second, .val (.long y11), .second, .val (.long y13), .second, .val (.long y15), .second, .val (.ref n0_0), .val (.int x18), .val (.int x19), .val (.int x20), .val (.int x21), .val (.int x22), .val (.int x23)] []) := by
  unfold g0_220 at hr
  have ⟨hx, hZ, hw, hby, hml, hown, hret, hlk, hnm⟩ := C
  refine Runs.via (T' := T0) (g' := (mkF m 221 #[.val (.long y0), .second, .val (.long y2), .second, .val (.long y4), .second, .val (.int x6), .val (.int x7), .val (.int x8), .val (.long y9), .second, .val (.long y11), .second, .val (.long y13), .second, .val (.long y15), .second, .val (.ref n0_0), .val (.int x18), .val (.int x19), .val (.int x20), .val (.int x21), .val (.int x22), .val (.int x23)] [(.int (0 : Int32))])) (fun t k => ?_) ?_
  · show Steps p.tables e below (T0.setTop (mkF m 220 #[.val (.long y0), .second, .val (.long y2), .second, .val (.long y4), .second, .val (.int x6), .val (.int x7), .val (.int x8), .val (.long y9), .second, .val (.long y11), .second, .val (.long y13), .second, .val (.long y15), .second, .val (.ref n0_0), .val (.int x18), .val (.int x19), .val (.int x20), .val (.int x21), .val (.int x22), .val (.int x23)] [])) t
    refine XS.iconst X0.here hx rfl (hb hby at_220) ?_
    exact k
  exact b0_221 C fuel X0 e0 N0 (by show cells ≤ 3; omega) (by show slots ≤ 35; omega) Z1 n0_0 n1_0 n2_0 (by omega) (by omega) (by omega) q_n0_0_size q_n1_0 q_n2_0 y0 y2 y4 x6 x7 x8 y9 y11 y13 y15 x18 x19 x20 x21 x22 x23 (0 : Int32) E_n0_0_0 F_n0_0_keys_0 F_n0_0_values_0 F_n0_0_size_0 A_n1_0_0 A_n2_0_0 hr
def g0_187 (fuel : Nat) (x6 : Int32) (x7 : Int32) (x8 : Int32) (y9 : Int64) (y11 : Int64) (y13 : Int64) (y15 : Int64) (x21 : Int32) (x22 : Int32) (u0 : Int32) (q_n0_0_size : Int32) (q_n1_0 : List Int64) (q_n2_0 : List Int32) : Option (Int32) := (if u0 = (0 : Int32) then (g0_220 fuel x6 x7 x8 y9 y11 y13 y15 x22 q_n0_0_size q_n1_0 q_n2_0) else (if x21 = (f9 y13 y9 y11 y13 x6 x7 x8) then (g0_221 fuel x6 x7 x8 y9 y11 y13 y15 x22 (1 : Int32) q_n0_0_size q_n1_0 q_n2_0) else (g0_220 fuel x6 x7 x8 y9 y11 y13 y15 x22 q_n0_0_size q_n1_0 q_n2_0)))
set_option maxRecDepth 65536 in
set_option maxHeartbeats 4000000 in
theorem b0_187 {r : Int32} (C : Ctx p s m meth c Z a0 "com/example/mopor/mopor/reduction/LongIntTableGetPinLaw" code 24 (some .boolean) "law") (fuel : Nat) (X0 : Stand p l e room_1 s m args below meth c T0 locs cells slots) (e0 : T0.heap = h0) (N0 : Fr n0 locs) (hk : cells ≤ 3) (hn : slots ≤ 35) (Z1 : n0 ≤ h0.size) (n0_0 : Addr) (n1_0 : Addr) (n2_0 : Addr) (o0 : n0 ≤ n0_0) (o1 : @LT.lt Nat instLTNat n0_0 n1_0) (o2 : @LT.lt Nat instLTNat n1_0 n2_0) (q_n0_0_size : Int32) (q_n1_0 : List Int64) (q_n2_0 : List Int32) (y0 : Int64) (y2 : Int64) (y4 : Int64) (x6 : Int32) (x7 : Int32) (x8 : Int32) (y9 : Int64) (y11 : Int64) (y13 : Int64) (y15 : Int64) (x18 : Int32) (x19 : Int32) (x20 : Int32) (x21 : Int32) (x22 : Int32) (x23 : Int32) (u0 : Int32) (E_n0_0_0 : Exa Z h0 n0_0 "com/example/mopor/mopor/reduction/LongIntTable") (F_n0_0_keys_0 : Fld Z h0 n0_0 "com/example/mopor/mopor/reduction/LongIntTable" "keys" "[J" (.ref n1_0)) (F_n0_0_values_0 : Fld Z h0 n0_0 "com/example/mopor/mopor/reduction/LongIntTable" "values" "[I" (.ref n2_0)) (F_n0_0_size_0 : Fld Z h0 n0_0 "com/example/mopor/mopor/reduction/LongIntTable" "size" "I" (.int q_n0_0_size)) (A_n1_0_0 : AJ Z h0 n1_0 .long q_n1_0) (A_n2_0_0 : AI Z h0 n2_0 .int q_n2_0) (hr : g0_187 fuel x6 x7 x8 y9 y11 y13 y15 x21 x22 u0 q_n0_0_size q_n1_0 q_n2_0 = some r) :
    Runs p e below s (P0 n0 r) 3 35 T0 (mkF m 187 #[.val (.long y0), .second, .val (.long y2), .second, .val (.long y4), .second, .val (.int x6), .val (.int x7), .val (.int x8), .val (.long y9), .second, .val (.long y11), .second, .val (.long y13), .second, .val (.long y15), .second, .val (.ref n0_0), .val (.int x18), .val (.int x19), .val (.int x20), .val (.int x21), .val (.int x22), .val (.int x23)] [(.int u0)]) := by
  unfold g0_187 at hr
  have ⟨hx, hZ, hw, hby, hml, hown, hret, hlk, hnm⟩ := C
  refine Runs.via (T' := T0) (g' := (mkF m 191 #[.val (.long y0), .second, .val (.long y2), .second, .val (.long y4), .second, .val (.int x6), .val (.int x7), .val (.int x8), .val (.long y9), .second, .val (.long y11), .second, .val (.long y13), .second, .val (.long y15), .second, .val (.ref n0_0), .val (.int x18), .val (.int x19), .val (.int x20), .val (.int x21), .val (.int x22), .val (.int u0)] [(.int u0)])) (fun t k => ?_) ?_
  · show Steps p.tables e below (T0.setTop (mkF m 187 #[.val (.long y0), .second, .val (.long y2), .second, .val (.long y4), .second, .val (.int x6), .val (.int x7), .val (.int x8), .val (.long y9), .second, .val (.long y11), .second, .val (.long y13), .second, .val (.long y15), .second, .val (.ref n0_0), .val (.int x18), .val (.int x19), .val (.int x20), .val (.int x21), .val (.int x22), .val (.int x23)] [(.int u0)])) t
    refine XS.istore X0.here hx rfl (hb hby at_187) rfl (l' := #[.val (.long y0), .second, .val (.long y2), .second, .val (.long y4), .second, .val (.int x6), .val (.int x7), .val (.int x8), .val (.long y9), .second, .val (.long y11), .second, .val (.long y13), .second, .val (.long y15), .second, .val (.ref n0_0), .val (.int x18), .val (.int x19), .val (.int x20), .val (.int x21), .val (.int x22), .val (.int u0)]) rfl ?_
    show Steps p.tables e below (T0.setTop (mkF m 189 #[.val (.long y0), .second, .val (.long y2), .second, .val (.long y4), .second, .val (.int x6), .val (.int x7), .val (.int x8), .val (.long y9), .second, .val (.long y11), .second, .val (.long y13), .second, .val (.long y15), .second, .val (.ref n0_0), .val (.int x18), .val (.int x19), .val (.int x20), .val (.int x21), .val (.int x22), .val (.int u0)] [])) t
    refine XS.iload X0.here hx rfl (hb hby at_189) rfl ?_
    exact k
  refine iteE hr (fun hc1 hr => ?_) (fun hc1 hr => ?_)
  · refine Runs.via (T' := T0) (g' := (mkF m 220 #[.val (.long y0), .second, .val (.long y2), .second, .val (.long y4), .second, .val (.int x6), .val (.int x7), .val (.int x8), .val (.long y9), .second, .val (.long y11), .second, .val (.long y13), .second, .val (.long y15), .second, .val (.ref n0_0), .val (.int x18), .val (.int x19), .val (.int x20), .val (.int x21), .val (.int x22), .val (.int u0)] [])) (fun t k => ?_) ?_
    · show Steps p.tables e below (T0.setTop (mkF m 191 #[.val (.long y0), .second, .val (.long y2), .second, .val (.long y4), .second, .val (.int x6), .val (.int x7), .val (.int x8), .val (.long y9), .second, .val (.long y11), .second, .val (.long y13), .second, .val (.long y15), .second, .val (.ref n0_0), .val (.int x18), .val (.int x19), .val (.int x20), .val (.int x21), .val (.int x22), .val (.int u0)] [(.int u0)])) t
      exact XS.ifYes X0.here hx rfl (pc0 := 191) (pc' := 220) rfl (hb hby at_191) rfl ((if0 _ _).trans (teq hc1).1) (by decide) (by decide) k
    exact b0_220 C fuel X0 e0 N0 (by show cells ≤ 3; omega) (by show slots ≤ 35; omega) Z1 n0_0 n1_0 n2_0 (by omega) (by omega) (by omega) q_n0_0_size q_n1_0 q_n2_0 y0 y2 y4 x6 x7 x8 y9 y11 y13 y15 x18 x19 x20 x21 x22 u0 E_n0_0_0 F_n0_0_keys_0 F_n0_0_values_0 F_n0_0_size_0 A_n1_0_0 A_n2_0_0 hr
  · refine Runs.via (T' := T0) (g' := (mkF m 194 #[.val (.long y0), .second, .val (.long y2), .second, .val (.long y4), .second, .val (.int x6), .val (.int x7), .val (.int x8), .val (.long y9), .second, .val (.long y11), .second, .val (.long y13), .second, .val (.long y15), .second, .val (.ref n0_0), .val (.int x18), .val (.int x19), .val (.int x20), .val (.int x21), .val (.int x22), .val (.int u0)] [])) (fun t k => ?_) ?_
    · show Steps p.tables e below (T0.setTop (mkF m 191 #[.val (.long y0), .second, .val (.long y2), .second, .val (.long y4), .second, .val (.int x6), .val (.int x7), .val (.int x8), .val (.long y9), .second, .val (.long y11), .second, .val (.long y13), .second, .val (.long y15), .second, .val (.ref n0_0), .val (.int x18), .val (.int x19), .val (.int x20), .val (.int x21), .val (.int x22), .val (.int u0)] [(.int u0)])) t
      exact XS.ifNo X0.here hx rfl (hb hby at_191) rfl ((if0 _ _).trans (feq hc1).1) k
    refine Runs.via (T' := T0) (g' := (mkF m 210 #[.val (.long y0), .second, .val (.long y2), .second, .val (.long y4), .second, .val (.int x6), .val (.int x7), .val (.int x8), .val (.long y9), .second, .val (.long y11), .second, .val (.long y13), .second, .val (.long y15), .second, .val (.ref n0_0), .val (.int x18), .val (.int x19), .val (.int x20), .val (.int x21), .val (.int x22), .val (.int u0)] [(.int x8), (.int x7), (.int x6), (.long y13), (.long y11), (.long y9), (.long y13), (.int x21)])) (fun t k => ?_) ?_
    · show Steps p.tables e below (T0.setTop (mkF m 194 #[.val (.long y0), .second, .val (.long y2), .second, .val (.long y4), .second, .val (.int x6), .val (.int x7), .val (.int x8), .val (.long y9), .second, .val (.long y11), .second, .val (.long y13), .second, .val (.long y15), .second, .val (.ref n0_0), .val (.int x18), .val (.int x19), .val (.int x20), .val (.int x21), .val (.int x22), .val (.int u0)] [])) t
      refine XS.iload X0.here hx rfl (hb hby at_194) rfl ?_
      show Steps p.tables e below (T0.setTop (mkF m 196 #[.val (.long y0), .second, .val (.long y2), .second, .val (.long y4), .second, .val (.int x6), .val (.int x7), .val (.int x8), .val (.long y9), .second, .val (.long y11), .second, .val (.long y13), .second, .val (.long y15), .second, .val (.ref n0_0), .val (.int x18), .val (.int x19), .val (.int x20), .val (.int x21), .val (.int x22), .val (.int u0)] [(.int x21)])) t
      refine XS.lload X0.here hx rfl (hb hby at_196) rfl ?_
      show Steps p.tables e below (T0.setTop (mkF m 198 #[.val (.long y0), .second, .val (.long y2), .second, .val (.long y4), .second, .val (.int x6), .val (.int x7), .val (.int x8), .val (.long y9), .second, .val (.long y11), .second, .val (.long y13), .second, .val (.long y15), .second, .val (.ref n0_0), .val (.int x18), .val (.int x19), .val (.int x20), .val (.int x21), .val (.int x22), .val (.int u0)] [(.long y13), (.int x21)])) t
      refine XS.lload X0.here hx rfl (hb hby at_198) rfl ?_
      show Steps p.tables e below (T0.setTop (mkF m 200 #[.val (.long y0), .second, .val (.long y2), .second, .val (.long y4), .second, .val (.int x6), .val (.int x7), .val (.int x8), .val (.long y9), .second, .val (.long y11), .second, .val (.long y13), .second, .val (.long y15), .second, .val (.ref n0_0), .val (.int x18), .val (.int x19), .val (.int x20), .val (.int x21), .val (.int x22), .val (.int u0)] [(.long y9), (.long y13), (.int x21)])) t
      refine XS.lload X0.here hx rfl (hb hby at_200) rfl ?_
      show Steps p.tables e below (T0.setTop (mkF m 202 #[.val (.long y0), .second, .val (.long y2), .second, .val (.long y4), .second, .val (.int x6), .val (.int x7), .val (.int x8), .val (.long y9), .second, .val (.long y11), .second, .val (.long y13), .second, .val (.long y15), .second, .val (.ref n0_0), .val (.int x18), .val (.int x19), .val (.int x20), .val (.int x21), .val (.int x22), .val (.int u0)] [(.long y11), (.long y9), (.long y13), (.int x21)])) t
      refine XS.lload X0.here hx rfl (hb hby at_202) rfl ?_
      show Steps p.tables e below (T0.setTop (mkF m 204 #[.val (.long y0), .second, .val (.long y2), .second, .val (.long y4), .second, .val (.int x6), .val (.int x7), .val (.int x8), .val (.long y9), .second, .val (.long y11), .second, .val (.long y13), .second, .val (.long y15), .second, .val (.ref n0_0), .val (.int x18), .val (.int x19), .val (.int x20), .val (.int x21), .val (.int x22), .val (.int u0)] [(.long y13), (.long y11), (.long y9), (.long y13), (.int x21)])) t
      refine XS.iload X0.here hx rfl (hb hby at_204) rfl ?_
      show Steps p.tables e below (T0.setTop (mkF m 206 #[.val (.long y0), .second, .val (.long y2), .second, .val (.long y4), .second, .val (.int x6), .val (.int x7), .val (.int x8), .val (.long y9), .second, .val (.long y11), .second, .val (.long y13), .second, .val (.long y15), .second, .val (.ref n0_0), .val (.int x18), .val (.int x19), .val (.int x20), .val (.int x21), .val (.int x22), .val (.int u0)] [(.int x6), (.long y13), (.long y11), (.long y9), (.long y13), (.int x21)])) t
      refine XS.iload X0.here hx rfl (hb hby at_206) rfl ?_
      show Steps p.tables e below (T0.setTop (mkF m 208 #[.val (.long y0), .second, .val (.long y2), .second, .val (.long y4), .second, .val (.int x6), .val (.int x7), .val (.int x8), .val (.long y9), .second, .val (.long y11), .second, .val (.long y13), .second, .val (.long y15), .second, .val (.ref n0_0), .val (.int x18), .val (.int x19), .val (.int x20), .val (.int x21), .val (.int x22), .val (.int u0)] [(.int x7), (.int x6), (.long y13), (.long y11), (.long y9), (.long y13), (.int x21)])) t
      refine XS.iload X0.here hx rfl (hb hby at_208) rfl ?_
      exact k
    obtain ⟨_, _, ⟨T2, L2, k2, n2⟩, -, X2, ⟨Lc2, hQ2, l2, y2, z2⟩, st2⟩ := Jvm.LawKit.callS X0 hx (y := (⟨"com/example/mopor/mopor/reduction/LongIntTableGetPinLaw", "exp", "(JJJJIII)I"⟩ : MethodName)) hown (mvT hZ (hw _ (List.mem_of_getElem? (i := 44) rfl))) (mvT hZ (hw _ (List.mem_of_getElem? (i := 45) rfl))) (mvT hZ (hw _ (List.mem_of_getElem? (i := 2) rfl))) (mvT hZ (hw _ (List.mem_of_getElem? (i := 46) rfl))) (by decide) (backOf (W := 1) (rm9 l Z a0 hw [] y13 y9 y11 y13 x6 x7 x8 h0 n0) hZ (hw _ (List.mem_of_getElem? (i := 46) rfl)) (hw _ (List.mem_of_getElem? (i := 2) rfl)) (by decide) (by decide)) (g := (mkF m 210 #[.val (.long y0), .second, .val (.long y2), .second, .val (.long y4), .second, .val (.int x6), .val (.int x7), .val (.int x8), .val (.long y9), .second, .val (.long y11), .second, .val (.long y13), .second, .val (.long y15), .second, .val (.ref n0_0), .val (.int x18), .val (.int x19), .val (.int x20), .val (.int x21), .val (.int x22), .val (.int u0)] [(.int x8), (.int x7), (.int x6), (.long y13), (.long y11), (.long y9), (.long y13), (.int x21)])) rfl (by rw [hml]; rfl) (argsL := [(.long y13), (.long y9), (.long y11), (.long y13), (.int x6), (.int x7), (.int x8)]) (rest := [(.int x21)]) (lenOf pd_7 rfl) rfl (by show 2 * 0 + _ ≤ _; exact Nat.le_of_eq rfl) (hb hby at_210) (fun _ _ => ⟨rfl, e0, (by show cells + 0 ≤ 16; omega), (by show slots + 0 ≤ 192; omega)⟩)
    dsimp only [Pt.U, Pt.locs, Pt.cells, Pt.slots] at X2 l2 y2 z2 st2 hQ2
    replace y2 := y2.symm; replace z2 := z2.symm; subst l2 y2 z2
    obtain ⟨rfl, N2q, e2⟩ := hQ2
    have N2 := Fr.app N0 N2q
    refine Runs.via (T' := T2) (g' := (mkF m 213 #[.val (.long y0), .second, .val (.long y2), .second, .val (.long y4), .second, .val (.int x6), .val (.int x7), .val (.int x8), .val (.long y9), .second, .val (.long y11), .second, .val (.long y13), .second, .val (.long y15), .second, .val (.ref n0_0), .val (.int x18), .val (.int x19), .val (.int x20), .val (.int x21), .val (.int x22), .val (.int u0)] [(.int (f9 y13 y9 y11 y13 x6 x7 x8)), (.int x21)])) (fun t k => st2 _ k) ?_
    refine iteE hr (fun hc3 hr => ?_) (fun hc3 hr => ?_)
    · refine Runs.via (T' := T2) (g' := (mkF m 216 #[.val (.long y0), .second, .val (.long y2), .second, .val (.long y4), .second, .val (.int x6), .val (.int x7), .val (.int x8), .val (.long y9), .second, .val (.long y11), .second, .val (.long y13), .second, .val (.long y15), .second, .val (.ref n0_0), .val (.int x18), .val (.int x19), .val (.int x20), .val (.int x21), .val (.int x22), .val (.int u0)] [])) (fun t k => ?_) ?_
      · show Steps p.tables e below (T2.setTop (mkF m 213 #[.val (.long y0), .second, .val (.long y2), .second, .val (.long y4), .second, .val (.int x6), .val (.int x7), .val (.int x8), .val (.long y9), .second, .val (.long y11), .second, .val (.long y13), .second, .val (.long y15), .second, .val (.ref n0_0), .val (.int x18), .val (.int x19), .val (.int x20), .val (.int x21), .val (.int x22), .val (.int u0)] [(.int (f9 y13 y9 y11 y13 x6 x7 x8)), (.int x21)])) t
        exact XS.icmpNo X2.here hx rfl (hb hby at_213) rfl (teq hc3).2 k
      refine Runs.via (T' := T2) (g' := (mkF m 221 #[.val (.long y0), .second, .val (.long y2), .second, .val (.long y4), .second, .val (.int x6), .val (.int x7), .val (.int x8), .val (.long y9), .second, .val (.long y11), .second, .val (.long y13), .second, .val (.long y15), .second, .val (.ref n0_0), .val (.int x18), .val (.int x19), .val (.int x20), .val (.int x21), .val (.int x22), .val (.int u0)] [(.int (1 : Int32))])) (fun t k => ?_) ?_
      · show Steps p.tables e below (T2.setTop (mkF m 216 #[.val (.long y0), .second, .val (.long y2), .second, .val (.long y4), .second, .val (.int x6), .val (.int x7), .val (.int x8), .val (.long y9), .second, .val (.long y11), .second, .val (.long y13), .second, .val (.long y15), .second, .val (.ref n0_0), .val (.int x18), .val (.int x19), .val (.int x20), .val (.int x21), .val (.int x22), .val (.int u0)] [])) t
        refine XS.iconst X2.here hx rfl (hb hby at_216) ?_
        show Steps p.tables e below (T2.setTop (mkF m 217 #[.val (.long y0), .second, .val (.long y2), .second, .val (.long y4), .second, .val (.int x6), .val (.int x7), .val (.int x8), .val (.long y9), .second, .val (.long y11), .second, .val (.long y13), .second, .val (.long y15), .second, .val (.ref n0_0), .val (.int x18), .val (.int x19), .val (.int x20), .val (.int x21), .val (.int x22), .val (.int u0)] [(.int (1 : Int32))])) t
        refine XS.goto X2.here hx rfl (pc0 := 217) (pc' := 221) rfl (hb hby at_217) (by decide) (by decide) ?_
        exact k
      exact b0_221 C fuel X2 e2 N2 (by show (cells + 0) ≤ 3; omega) (by show (slots + 0) ≤ 35; omega) Z1 n0_0 n1_0 n2_0 (by omega) (by omega) (by omega) q_n0_0_size q_n1_0 q_n2_0 y0 y2 y4 x6 x7 x8 y9 y11 y13 y15 x18 x19 x20 x21 x22 u0 (1 : Int32) E_n0_0_0 F_n0_0_keys_0 F_n0_0_values_0 F_n0_0_size_0 A_n1_0_0 A_n2_0_0 hr
    · refine Runs.via (T' := T2) (g' := (mkF m 220 #[.val (.long y0), .second, .val (.long y2), .second, .val (.long y4), .second, .val (.int x6), .val (.int x7), .val (.int x8), .val (.long y9), .second, .val (.long y11), .second, .val (.long y13), .second, .val (.long y15), .second, .val (.ref n0_0), .val (.int x18), .val (.int x19), .val (.int x20), .val (.int x21), .val (.int x22), .val (.int u0)] [])) (fun t k => ?_) ?_
      · show Steps p.tables e below (T2.setTop (mkF m 213 #[.val (.long y0), .second, .val (.long y2), .second, .val (.long y4), .second, .val (.int x6), .val (.int x7), .val (.int x8), .val (.long y9), .second, .val (.long y11), .second, .val (.long y13), .second, .val (.long y15), .second, .val (.ref n0_0), .val (.int x18), .val (.int x19), .val (.int x20), .val (.int x21), .val (.int x22), .val (.int u0)] [(.int (f9 y13 y9 y11 y13 x6 x7 x8)), (.int x21)])) t
        exact XS.icmpYes X2.here hx rfl (pc0 := 213) (pc' := 220) rfl (hb hby at_213) rfl (feq hc3).2 (by decide) (by decide) k
      exact b0_220 C fuel X2 e2 N2 (by show (cells + 0) ≤ 3; omega) (by show (slots + 0) ≤ 35; omega) Z1 n0_0 n1_0 n2_0 (by omega) (by omega) (by omega) q_n0_0_size q_n1_0 q_n2_0 y0 y2 y4 x6 x7 x8 y9 y11 y13 y15 x18 x19 x20 x21 x22 u0 E_n0_0_0 F_n0_0_keys_0 F_n0_0_values_0 F_n0_0_size_0 A_n1_0_0 A_n2_0_0 hr
def g0_186 (fuel : Nat) (x6 : Int32) (x7 : Int32) (x8 : Int32) (y9 : Int64) (y11 : Int64) (y13 : Int64) (y15 : Int64) (x21 : Int32) (x22 : Int32) (q_n0_0_size : Int32) (q_n1_0 : List Int64) (q_n2_0 : List Int32) : Option (Int32) := (g0_187 fuel x6 x7 x8 y9 y11 y13 y15 x21 x22 (0 : Int32) q_n0_0_size q_n1_0 q_n2_0)
set_option maxRecDepth 65536 in
set_option maxHeartbeats 4000000 in
theorem b0_186 {r : Int32} (C : Ctx p s m meth c Z a0 "com/example/mopor/mopor/reduction/LongIntTableGetPinLaw" code 24 (some .boolean) "law") (fuel : Nat) (X0 : Stand p l e room_1 s m args below meth c T0 locs cells slots) (e0 : T0.heap = h0) (N0 : Fr n0 locs) (hk : cells ≤ 3) (hn : slots ≤ 35) (Z1 : n0 ≤ h0.size) (n0_0 : Addr) (n1_0 : Addr) (n2_0 : Addr) (o0 : n0 ≤ n0_0) (o1 : @LT.lt Nat instLTNat n0_0 n1_0) (o2 : @LT.lt Nat instLTNat n1_0 n2_0) (q_n0_0_size : Int32) (q_n1_0 : List Int64) (q_n2_0 : List Int32) (y0 : Int64) (y2 : Int64) (y4 : Int64) (x6 : Int32) (x7 : Int32) (x8 : Int32) (y9 : Int64) (y11 : Int64) (y13 : Int64) (y15 : Int64) (x18 : Int32) (x19 : Int32) (x20 : Int32) (x21 : Int32) (x22 : Int32) (x23 : Int32) (E_n0_0_0 : Exa Z h0 n0_0 "com/example/mopor/mopor/reduction/LongIntTable") (F_n0_0_keys_0 : Fld Z h0 n0_0 "com/example/mopor/mopor/reduction/LongIntTable" "keys" "[J" (.ref n1_0)) (F_n0_0_values_0 : Fld Z h0 n0_0 "com/example/mopor/mopor/reduction/LongIntTable" "values" "[I" (.ref n2_0)) (F_n0_0_size_0 : Fld Z h0 n0_0 "com/example/mopor/mopor/reduction/LongIntTable" "size" "I" (.int q_n0_0_size)) (A_n1_0_0 : AJ Z h0 n1_0 .long q_n1_0) (A_n2_0_0 : AI Z h0 n2_0 .int q_n2_0) (hr : g0_186 fuel x6 x7 x8 y9 y11 y13 y15 x21 x22 q_n0_0_size q_n1_0 q_n2_0 = some r) :
    Runs p e below s (P0 n0 r) 3 35 T0 (mkF m 186 #[.val (.long y0), .second, .val (.long y2), .second, .val (.long y4), .second, .val (.int x6), .val (.int x7), .val (.int x8), .val (.long y9), .second, .val (.long y11), .second, .val (.long y13), .second, .val (.long y15), .second, .val (.ref n0_0), .val (.int x18), .val (.int x19), .val (.int x20), .val (.int x21), .val (.int x22), .val (.int x23)] []) := by
  unfold g0_186 at hr
  have ⟨hx, hZ, hw, hby, hml, hown, hret, hlk, hnm⟩ := C
  refine Runs.via (T' := T0) (g' := (mkF m 187 #[.val (.long y0), .second, .val (.long y2), .second, .val (.long y4), .second, .val (.int x6), .val (.int x7), .val (.int x8), .val (.long y9), .second, .val (.long y11), .second, .val (.long y13), .second, .val (.long y15), .second, .val (.ref n0_0), .val (.int x18), .val (.int x19), .val (.int x20), .val (.int x21), .val (.int x22), .val (.int x23)] [(.int (0 : Int32))])) (fun t k => ?_) ?_
  · show Steps p.tables e below (T0.setTop (mkF m 186 #[.val (.long y0), .second, .val (.long y2), .second, .val (.long y4), .second, .val (.int x6), .val (.int x7), .val (.int x8), .val (.long y9), .second, .val (.long y11), .second, .val (.long y13), .second, .val (.long y15), .second, .val (.ref n0_0), .val (.int x18), .val (.int x19), .val (.int x20), .val (.int x21), .val (.int x22), .val (.int x23)] [])) t
    refine XS.iconst X0.here hx rfl (hb hby at_186) ?_
    exact k
  exact b0_187 C fuel X0 e0 N0 (by show cells ≤ 3; omega) (by show slots ≤ 35; omega) Z1 n0_0 n1_0 n2_0 (by omega) (by omega) (by omega) q_n0_0_size q_n1_0 q_n2_0 y0 y2 y4 x6 x7 x8 y9 y11 y13 y15 x18 x19 x20 x21 x22 x23 (0 : Int32) E_n0_0_0 F_n0_0_keys_0 F_n0_0_values_0 F_n0_0_size_0 A_n1_0_0 A_n2_0_0 hr
def g0_153 (fuel : Nat) (x6 : Int32) (x7 : Int32) (x8 : Int32) (y9 : Int64) (y11 : Int64) (y13 : Int64) (y15 : Int64) (x20 : Int32) (x21 : Int32) (x22 : Int32) (u0 : Int32) (q_n0_0_size : Int32) (q_n1_0 : List Int64) (q_n2_0 : List Int32) : Option (Int32) := (if u0 = (0 : Int32) then (g0_186 fuel x6 x7 x8 y9 y11 y13 y15 x21 x22 q_n0_0_size q_n1_0 q_n2_0) else (if x20 = (f9 y11 y9 y11 y13 x6 x7 x8) then (g0_187 fuel x6 x7 x8 y9 y11 y13 y15 x21 x22 (1 : Int32) q_n0_0_size q_n1_0 q_n2_0) else (g0_186 fuel x6 x7 x8 y9 y11 y13 y15 x21 x22 q_n0_0_size q_n1_0 q_n2_0)))
set_option maxRecDepth 65536 in
set_option maxHeartbeats 4000000 in
theorem b0_153 {r : Int32} (C : Ctx p s m meth c Z a0 "com/example/mopor/mopor/reduction/LongIntTableGetPinLaw" code 24 (some .boolean) "law") (fuel : Nat) (X0 : Stand p l e room_1 s m args below meth c T0 locs cells slots) (e0 : T0.heap = h0) (N0 : Fr n0 locs) (hk : cells ≤ 3) (hn : slots ≤ 35) (Z1 : n0 ≤ h0.size) (n0_0 : Addr) (n1_0 : Addr) (n2_0 : Addr) (o0 : n0 ≤ n0_0) (o1 : @LT.lt Nat instLTNat n0_0 n1_0) (o2 : @LT.lt Nat instLTNat n1_0 n2_0) (q_n0_0_size : Int32) (q_n1_0 : List Int64) (q_n2_0 : List Int32) (y0 : Int64) (y2 : Int64) (y4 : Int64) (x6 : Int32) (x7 : Int32) (x8 : Int32) (y9 : Int64) (y11 : Int64) (y13 : Int64) (y15 : Int64) (x18 : Int32) (x19 : Int32) (x20 : Int32) (x21 : Int32) (x22 : Int32) (x23 : Int32) (u0 : Int32) (E_n0_0_0 : Exa Z h0 n0_0 "com/example/mopor/mopor/reduction/LongIntTable") (F_n0_0_keys_0 : Fld Z h0 n0_0 "com/example/mopor/mopor/reduction/LongIntTable" "keys" "[J" (.ref n1_0)) (F_n0_0_values_0 : Fld Z h0 n0_0 "com/example/mopor/mopor/reduction/LongIntTable" "values" "[I" (.ref n2_0)) (F_n0_0_size_0 : Fld Z h0 n0_0 "com/example/mopor/mopor/reduction/LongIntTable" "size" "I" (.int q_n0_0_size)) (A_n1_0_0 : AJ Z h0 n1_0 .long q_n1_0) (A_n2_0_0 : AI Z h0 n2_0 .int q_n2_0) (hr : g0_153 fuel x6 x7 x8 y9 y11 y13 y15 x20 x21 x22 u0 q_n0_0_size q_n1_0 q_n2_0 = some r) :
    Runs p e below s (P0 n0 r) 3 35 T0 (mkF m 153 #[.val (.long y0), .second, .val (.long y2), .second, .val (.long y4), .second, .val (.int x6), .val (.int x7), .val (.int x8), .val (.long y9), .second, .val (.long y11), .second, .val (.long y13), .second, .val (.long y15), .second, .val (.ref n0_0), .val (.int x18), .val (.int x19), .val (.int x20), .val (.int x21), .val (.int x22), .val (.int x23)] [(.int u0)]) := by
  unfold g0_153 at hr
  have ⟨hx, hZ, hw, hby, hml, hown, hret, hlk, hnm⟩ := C
  refine Runs.via (T' := T0) (g' := (mkF m 157 #[.val (.long y0), .second, .val (.long y2), .second, .val (.long y4), .second, .val (.int x6), .val (.int x7), .val (.int x8), .val (.long y9), .second, .val (.long y11), .second, .val (.long y13), .second, .val (.long y15), .second, .val (.ref n0_0), .val (.int x18), .val (.int x19), .val (.int x20), .val (.int x21), .val (.int x22), .val (.int u0)] [(.int u0)])) (fun t k => ?_) ?_
  · show Steps p.tables e below (T0.setTop (mkF m 153 #[.val (.long y0), .second, .val (.long y2), .second, .val (.long y4), .second, .val (.int x6), .val (.int x7), .val (.int x8), .val (.long y9), .second, .val (.long y11), .second, .val (.long y13), .second, .val (.long y15), .second, .val (.ref n0_0), .val (.int x18), .val (.int x19), .val (.int x20), .val (.int x21), .val (.int x22), .val (.int x23)] [(.int u0)])) t
    refine XS.istore X0.here hx rfl (hb hby at_153) rfl (l' := #[.val (.long y0), .second, .val (.long y2), .second, .val (.long y4), .second, .val (.int x6), .val (.int x7), .val (.int x8), .val (.long y9), .second, .val (.long y11), .second, .val (.long y13), .second, .val (.long y15), .second, .val (.ref n0_0), .val (.int x18), .val (.int x19), .val (.int x20), .val (.int x21), .val (.int x22), .val (.int u0)]) rfl ?_
    show Steps p.tables e below (T0.setTop (mkF m 155 #[.val (.long y0), .second, .val (.long y2), .second, .val (.long y4), .second, .val (.int x6), .val (.int x7), .val (.int x8), .val (.long y9), .second, .val (.long y11), .second, .val (.long y13), .second, .val (.long y15), .second, .val (.ref n0_0), .val (.int x18), .val (.int x19), .val (.int x20), .val (.int x21), .val (.int x22), .val (.int u0)] [])) t
    refine XS.iload X0.here hx rfl (hb hby at_155) rfl ?_
    exact k
  refine iteE hr (fun hc1 hr => ?_) (fun hc1 hr => ?_)
  · refine Runs.via (T' := T0) (g' := (mkF m 186 #[.val (.long y0), .second, .val (.long y2), .second, .val (.long y4), .second, .val (.int x6), .val (.int x7), .val (.int x8), .val (.long y9), .second, .val (.long y11), .second, .val (.long y13), .second, .val (.long y15), .second, .val (.ref n0_0), .val (.int x18), .val (.int x19), .val (.int x20), .val (.int x21), .val (.int x22), .val (.int u0)] [])) (fun t k => ?_) ?_
    · show Steps p.tables e below (T0.setTop (mkF m 157 #[.val (.long y0), .second, .val (.long y2), .second, .val (.long y4), .second, .val (.int x6), .val (.int x7), .val (.int x8), .val (.long y9), .second, .val (.long y11), .second, .val (.long y13), .second, .val (.long y15), .second, .val (.ref n0_0), .val (.int x18), .val (.int x19), .val (.int x20), .val (.int x21), .val (.int x22), .val (.int u0)] [(.int u0)])) t
      exact XS.ifYes X0.here hx rfl (pc0 := 157) (pc' := 186) rfl (hb hby at_157) rfl ((if0 _ _).trans (teq hc1).1) (by decide) (by decide) k
    exact b0_186 C fuel X0 e0 N0 (by show cells ≤ 3; omega) (by show slots ≤ 35; omega) Z1 n0_0 n1_0 n2_0 (by omega) (by omega) (by omega) q_n0_0_size q_n1_0 q_n2_0 y0 y2 y4 x6 x7 x8 y9 y11 y13 y15 x18 x19 x20 x21 x22 u0 E_n0_0_0 F_n0_0_keys_0 F_n0_0_values_0 F_n0_0_size_0 A_n1_0_0 A_n2_0_0 hr
  · refine Runs.via (T' := T0) (g' := (mkF m 160 #[.val (.long y0), .second, .val (.long y2), .second, .val (.long y4), .second, .val (.int x6), .val (.int x7), .val (.int x8), .val (.long y9), .second, .val (.long y11), .second, .val (.long y13), .second, .val (.long y15), .second, .val (.ref n0_0), .val (.int x18), .val (.int x19), .val (.int x20), .val (.int x21), .val (.int x22), .val (.int u0)] [])) (fun t k => ?_) ?_
    · show Steps p.tables e below (T0.setTop (mkF m 157 #[.val (.long y0), .second, .val (.long y2), .second, .val (.long y4), .second, .val (.int x6), .val (.int x7), .val (.int x8), .val (.long y9), .second, .val (.long y11), .second, .val (.long y13), .second, .val (.long y15), .second, .val (.ref n0_0), .val (.int x18), .val (.int x19), .val (.int x20), .val (.int x21), .val (.int x22), .val (.int u0)] [(.int u0)])) t
      exact XS.ifNo X0.here hx rfl (hb hby at_157) rfl ((if0 _ _).trans (feq hc1).1) k
    refine Runs.via (T' := T0) (g' := (mkF m 176 #[.val (.long y0), .second, .val (.long y2), .second, .val (.long y4), .second, .val (.int x6), .val (.int x7), .val (.int x8), .val (.long y9), .second, .val (.long y11), .second, .val (.long y13), .second, .val (.long y15), .second, .val (.ref n0_0), .val (.int x18), .val (.int x19), .val (.int x20), .val (.int x21), .val (.int x22), .val (.int u0)] [(.int x8), (.int x7), (.int x6), (.long y13), (.long y11), (.long y9), (.long y11), (.int x20)])) (fun t k => ?_) ?_
    · show Steps p.tables e below (T0.setTop (mkF m 160 #[.val (.long y0), .second, .val (.long y2), .second, .val (.long y4), .second, .val (.int x6), .val (.int x7), .val (.int x8), .val (.long y9), .second, .val (.long y11), .second, .val (.long y13), .second, .val (.long y15), .second, .val (.ref n0_0), .val (.int x18), .val (.int x19), .val (.int x20), .val (.int x21), .val (.int x22), .val (.int u0)] [])) t
      refine XS.iload X0.here hx rfl (hb hby at_160) rfl ?_
      show Steps p.tables e below (T0.setTop (mkF m 162 #[.val (.long y0), .second, .val (.long y2), .second, .val (.long y4), .second, .val (.int x6), .val (.int x7), .val (.int x8), .val (.long y9), .second, .val (.long y11), .second, .val (.long y13), .second, .val (.long y15), .second, .val (.ref n0_0), .val (.int x18), .val (.int x19), .val (.int x20), .val (.int x21), .val (.int x22), .val (.int u0)] [(.int x20)])) t
      refine XS.lload X0.here hx rfl (hb hby at_162) rfl ?_
      show Steps p.tables e below (T0.setTop (mkF m 164 #[.val (.long y0), .second, .val (.long y2), .second, .val (.long y4), .second, .val (.int x6), .val (.int x7), .val (.int x8), .val (.long y9), .second, .val (.long y11), .second, .val (.long y13), .second, .val (.long y15), .second, .val (.ref n0_0), .val (.int x18), .val (.int x19), .val (.int x20), .val (.int x21), .val (.int x22), .val (.int u0)] [(.long y11), (.int x20)])) t
      refine XS.lload X0.here hx rfl (hb hby at_164) rfl ?_
      show Steps p.tables e below (T0.setTop (mkF m 166 #[.val (.long y0), .second, .val (.long y2), .second, .val (.long y4), .second, .val (.int x6), .val (.int x7), .val (.int x8), .val (.long y9), .second, .val (.long y11), .second, .val (.long y13), .second, .val (.long y15), .second, .val (.ref n0_0), .val (.int x18), .val (.int x19), .val (.int x20), .val (.int x21), .val (.int x22), .val (.int u0)] [(.long y9), (.long y11), (.int x20)])) t
      refine XS.lload X0.here hx rfl (hb hby at_166) rfl ?_
      show Steps p.tables e below (T0.setTop (mkF m 168 #[.val (.long y0), .second, .val (.long y2), .second, .val (.long y4), .second, .val (.int x6), .val (.int x7), .val (.int x8), .val (.long y9), .second, .val (.long y11), .second, .val (.long y13), .second, .val (.long y15), .second, .val (.ref n0_0), .val (.int x18), .val (.int x19), .val (.int x20), .val (.int x21), .val (.int x22), .val (.int u0)] [(.long y11), (.long y9), (.long y11), (.int x20)])) t
      refine XS.lload X0.here hx rfl (hb hby at_168) rfl ?_
      show Steps p.tables e below (T0.setTop (mkF m 170 #[.val (.long y0), .second, .val (.long y2), .second, .val (.long y4), .second, .val (.int x6), .val (.int x7), .val (.int x8), .val (.long y9), .second, .val (.long y11), .second, .val (.long y13), .second, .val (.long y15), .second, .val (.ref n0_0), .val (.int x18), .val (.int x19), .val (.int x20), .val (.int x21), .val (.int x22), .val (.int u0)] [(.long y13), (.long y11), (.long y9), (.long y11), (.int x20)])) t
      refine XS.iload X0.here hx rfl (hb hby at_170) rfl ?_
      show Steps p.tables e below (T0.setTop (mkF m 172 #[.val (.long y0), .second, .val (.long y2), .second, .val (.long y4), .second, .val (.int x6), .val (.int x7), .val (.int x8), .val (.long y9), .second, .val (.long y11), .second, .val (.long y13), .second, .val (.long y15), .second, .val (.ref n0_0), .val (.int x18), .val (.int x19), .val (.int x20), .val (.int x21), .val (.int x22), .val (.int u0)] [(.int x6), (.long y13), (.long y11), (.long y9), (.long y11), (.int x20)])) t
      refine XS.iload X0.here hx rfl (hb hby at_172) rfl ?_
      show Steps p.tables e below (T0.setTop (mkF m 174 #[.val (.long y0), .second, .val (.long y2), .second, .val (.long y4), .second, .val (.int x6), .val (.int x7), .val (.int x8), .val (.long y9), .second, .val (.long y11), .second, .val (.long y13), .second, .val (.long y15), .second, .val (.ref n0_0), .val (.int x18), .val (.int x19), .val (.int x20), .val (.int x21), .val (.int x22), .val (.int u0)] [(.int x7), (.int x6), (.long y13), (.long y11), (.long y9), (.long y11), (.int x20)])) t
      refine XS.iload X0.here hx rfl (hb hby at_174) rfl ?_
      exact k
    obtain ⟨_, _, ⟨T2, L2, k2, n2⟩, -, X2, ⟨Lc2, hQ2, l2, y2, z2⟩, st2⟩ := Jvm.LawKit.callS X0 hx (y := (⟨"com/example/mopor/mopor/reduction/LongIntTableGetPinLaw", "exp", "(JJJJIII)I"⟩ : MethodName)) hown (mvT hZ (hw _ (List.mem_of_getElem? (i := 44) rfl))) (mvT hZ (hw _ (List.mem_of_getElem? (i := 45) rfl))) (mvT hZ (hw _ (List.mem_of_getElem? (i := 2) rfl))) (mvT hZ (hw _ (List.mem_of_getElem? (i := 46) rfl))) (by decide) (backOf (W := 1) (rm9 l Z a0 hw [] y11 y9 y11 y13 x6 x7 x8 h0 n0) hZ (hw _ (List.mem_of_getElem? (i := 46) rfl)) (hw _ (List.mem_of_getElem? (i := 2) rfl)) (by decide) (by decide)) (g := (mkF m 176 #[.val (.long y0), .second, .val (.long y2), .second, .val (.long y4), .second, .val (.int x6), .val (.int x7), .val (.int x8), .val (.long y9), .second, .val (.long y11), .second, .val (.long y13), .second, .val (.long y15), .second, .val (.ref n0_0), .val (.int x18), .val (.int x19), .val (.int x20), .val (.int x21), .val (.int x22), .val (.int u0)] [(.int x8), (.int x7), (.int x6), (.long y13), (.long y11), (.long y9), (.long y11), (.int x20)])) rfl (by rw [hml]; rfl) (argsL := [(.long y11), (.long y9), (.long y11), (.long y13), (.int x6), (.int x7), (.int x8)]) (rest := [(.int x20)]) (lenOf pd_7 rfl) rfl (by show 2 * 0 + _ ≤ _; exact Nat.le_of_eq rfl) (hb hby at_176) (fun _ _ => ⟨rfl, e0, (by show cells + 0 ≤ 16; omega), (by show slots + 0 ≤ 192; omega)⟩)
    dsimp only [Pt.U, Pt.locs, Pt.cells, Pt.slots] at X2 l2 y2 z2 st2 hQ2
    replace y2 := y2.symm; replace z2 := z2.symm; subst l2 y2 z2
    obtain ⟨rfl, N2q, e2⟩ := hQ2
    have N2 := Fr.app N0 N2q
    refine Runs.via (T' := T2) (g' := (mkF m 179 #[.val (.long y0), .second, .val (.long y2), .second, .val (.long y4), .second, .val (.int x6), .val (.int x7), .val (.int x8), .val (.long y9), .second, .val (.long y11), .second, .val (.long y13), .second, .val (.long y15), .second, .val (.ref n0_0), .val (.int x18), .val (.int x19), .val (.int x20), .val (.int x21), .val (.int x22), .val (.int u0)] [(.int (f9 y11 y9 y11 y13 x6 x7 x8)), (.int x20)])) (fun t k => st2 _ k) ?_
    refine iteE hr (fun hc3 hr => ?_) (fun hc3 hr => ?_)
    · refine Runs.via (T' := T2) (g' := (mkF m 182 #[.val (.long y0), .second, .val (.long y2), .second, .val (.long y4), .second, .val (.int x6), .val (.int x7), .val (.int x8), .val (.long y9), .second, .val (.long y11), .second, .val (.long y13), .second, .val (.long y15), .second, .val (.ref n0_0), .val (.int x18), .val (.int x19), .val (.int x20), .val (.int x21), .val (.int x22), .val (.int u0)] [])) (fun t k => ?_) ?_
      · show Steps p.tables e below (T2.setTop (mkF m 179 #[.val (.long y0), .second, .val (.long y2), .second, .val (.long y4), .second, .val (.int x6), .val (.int x7), .val (.int x8), .val (.long y9), .second, .val (.long y11), .second, .val (.long y13), .second, .val (.long y15), .second, .val (.ref n0_0), .val (.int x18), .val (.int x19), .val (.int x20), .val (.int x21), .val (.int x22), .val (.int u0)] [(.int (f9 y11 y9 y11 y13 x6 x7 x8)), (.int x20)])) t
        exact XS.icmpNo X2.here hx rfl (hb hby at_179) rfl (teq hc3).2 k
      refine Runs.via (T' := T2) (g' := (mkF m 187 #[.val (.long y0), .second, .val (.long y2), .second, .val (.long y4), .second, .val (.int x6), .val (.int x7), .val (.int x8), .val (.long y9), .second, .val (.long y11), .second, .val (.long y13), .second, .val (.long y15), .second, .val (.ref n0_0), .val (.int x18), .val (.int x19), .val (.int x20), .val (.int x21), .val (.int x22), .val (.int u0)] [(.int (1 : Int32))])) (fun t k => ?_) ?_
      · show Steps p.tables e below (T2.setTop (mkF m 182 #[.val (.long y0), .second, .val (.long y2), .second, .val (.long y4), .second, .val (.int x6), .val (.int x7), .val (.int x8), .val (.long y9), .second, .val (.long y11), .second, .val (.long y13), .second, .val (.long y15), .second, .val (.ref n0_0), .val (.int x18), .val (.int x19), .val (.int x20), .val (.int x21), .val (.int x22), .val (.int u0)] [])) t
        refine XS.iconst X2.here hx rfl (hb hby at_182) ?_
        show Steps p.tables e below (T2.setTop (mkF m 183 #[.val (.long y0), .second, .val (.long y2), .second, .val (.long y4), .second, .val (.int x6), .val (.int x7), .val (.int x8), .val (.long y9), .second, .val (.long y11), .second, .val (.long y13), .second, .val (.long y15), .second, .val (.ref n0_0), .val (.int x18), .val (.int x19), .val (.int x20), .val (.int x21), .val (.int x22), .val (.int u0)] [(.int (1 : Int32))])) t
        refine XS.goto X2.here hx rfl (pc0 := 183) (pc' := 187) rfl (hb hby at_183) (by decide) (by decide) ?_
        exact k
      exact b0_187 C fuel X2 e2 N2 (by show (cells + 0) ≤ 3; omega) (by show (slots + 0) ≤ 35; omega) Z1 n0_0 n1_0 n2_0 (by omega) (by omega) (by omega) q_n0_0_size q_n1_0 q_n2_0 y0 y2 y4 x6 x7 x8 y9 y11 y13 y15 x18 x19 x20 x21 x22 u0 (1 : Int32) E_n0_0_0 F_n0_0_keys_0 F_n0_0_values_0 F_n0_0_size_0 A_n1_0_0 A_n2_0_0 hr
    · refine Runs.via (T' := T2) (g' := (mkF m 186 #[.val (.long y0), .second, .val (.long y2), .second, .val (.long y4), .second, .val (.int x6), .val (.int x7), .val (.int x8), .val (.long y9), .second, .val (.long y11), .second, .val (.long y13), .second, .val (.long y15), .second, .val (.ref n0_0), .val (.int x18), .val (.int x19), .val (.int x20), .val (.int x21), .val (.int x22), .val (.int u0)] [])) (fun t k => ?_) ?_
      · show Steps p.tables e below (T2.setTop (mkF m 179 #[.val (.long y0), .second, .val (.long y2), .second, .val (.long y4), .second, .val (.int x6), .val (.int x7), .val (.int x8), .val (.long y9), .second, .val (.long y11), .second, .val (.long y13), .second, .val (.long y15), .second, .val (.ref n0_0), .val (.int x18), .val (.int x19), .val (.int x20), .val (.int x21), .val (.int x22), .val (.int u0)] [(.int (f9 y11 y9 y11 y13 x6 x7 x8)), (.int x20)])) t
        exact XS.icmpYes X2.here hx rfl (pc0 := 179) (pc' := 186) rfl (hb hby at_179) rfl (feq hc3).2 (by decide) (by decide) k
      exact b0_186 C fuel X2 e2 N2 (by show (cells + 0) ≤ 3; omega) (by show (slots + 0) ≤ 35; omega) Z1 n0_0 n1_0 n2_0 (by omega) (by omega) (by omega) q_n0_0_size q_n1_0 q_n2_0 y0 y2 y4 x6 x7 x8 y9 y11 y13 y15 x18 x19 x20 x21 x22 u0 E_n0_0_0 F_n0_0_keys_0 F_n0_0_values_0 F_n0_0_size_0 A_n1_0_0 A_n2_0_0 hr
def g0_152 (fuel : Nat) (x6 : Int32) (x7 : Int32) (x8 : Int32) (y9 : Int64) (y11 : Int64) (y13 : Int64) (y15 : Int64) (x20 : Int32) (x21 : Int32) (x22 : Int32) (q_n0_0_size : Int32) (q_n1_0 : List Int64) (q_n2_0 : List Int32) : Option (Int32) := (g0_153 fuel x6 x7 x8 y9 y11 y13 y15 x20 x21 x22 (0 : Int32) q_n0_0_size q_n1_0 q_n2_0)
set_option maxRecDepth 65536 in
set_option maxHeartbeats 4000000 in
theorem b0_152 {r : Int32} (C : Ctx p s m meth c Z a0 "com/example/mopor/mopor/reduction/LongIntTableGetPinLaw" code 24 (some .boolean) "law") (fuel : Nat) (X0 : Stand p l e room_1 s m args below meth c T0 locs cells slots) (e0 : T0.heap = h0) (N0 : Fr n0 locs) (hk : cells ≤ 3) (hn : slots ≤ 35) (Z1 : n0 ≤ h0.size) (n0_0 : Addr) (n1_0 : Addr) (n2_0 : Addr) (o0 : n0 ≤ n0_0) (o1 : @LT.lt Nat instLTNat n0_0 n1_0) (o2 : @LT.lt Nat instLTNat n1_0 n2_0) (q_n0_0_size : Int32) (q_n1_0 : List Int64) (q_n2_0 : List Int32) (y0 : Int64) (y2 : Int64) (y4 : Int64) (x6 : Int32) (x7 : Int32) (x8 : Int32) (y9 : Int64) (y11 : Int64) (y13 : Int64) (y15 : Int64) (x18 : Int32) (x19 : Int32) (x20 : Int32) (x21 : Int32) (x22 : Int32) (x23 : Int32) (E_n0_0_0 : Exa Z h0 n0_0 "com/example/mopor/mopor/reduction/LongIntTable") (F_n0_0_keys_0 : Fld Z h0 n0_0 "com/example/mopor/mopor/reduction/LongIntTable" "keys" "[J" (.ref n1_0)) (F_n0_0_values_0 : Fld Z h0 n0_0 "com/example/mopor/mopor/reduction/LongIntTable" "values" "[I" (.ref n2_0)) (F_n0_0_size_0 : Fld Z h0 n0_0 "com/example/mopor/mopor/reduction/LongIntTable" "size" "I" (.int q_n0_0_size)) (A_n1_0_0 : AJ Z h0 n1_0 .long q_n1_0) (A_n2_0_0 : AI Z h0 n2_0 .int q_n2_0) (hr : g0_152 fuel x6 x7 x8 y9 y11 y13 y15 x20 x21 x22 q_n0_0_size q_n1_0 q_n2_0 = some r) :
    Runs p e below s (P0 n0 r) 3 35 T0 (mkF m 152 #[.val (.long y0), .second, .val (.long y2), .second, .val (.long y4), .second, .val (.int x6), .val (.int x7), .val (.int x8), .val (.long y9), .second, .val (.long y11), .second, .val (.long y13), .second, .val (.long y15), .second, .val (.ref n0_0), .val (.int x18), .val (.int x19), .val (.int x20), .val (.int x21), .val (.int x22), .val (.int x23)] []) := by
  unfold g0_152 at hr
  have ⟨hx, hZ, hw, hby, hml, hown, hret, hlk, hnm⟩ := C
  refine Runs.via (T' := T0) (g' := (mkF m 153 #[.val (.long y0), .second, .val (.long y2), .second, .val (.long y4), .second, .val (.int x6), .val (.int x7), .val (.int x8), .val (.long y9), .second, .val (.long y11), .second, .val (.long y13), .second, .val (.long y15), .second, .val (.ref n0_0), .val (.int x18), .val (.int x19), .val (.int x20), .val (.int x21), .val (.int x22), .val (.int x23)] [(.int (0 : Int32))])) (fun t k => ?_) ?_
  · show Steps p.tables e below (T0.setTop (mkF m 152 #[.val (.long y0), .second, .val (.long y2), .second, .val (.long y4), .second, .val (.int x6), .val (.int x7), .val (.int x8), .val (.long y9), .second, .val (.long y11), .second, .val (.long y13), .second, .val (.long y15), .second, .val (.ref n0_0), .val (.int x18), .val (.int x19), .val (.int x20), .val (.int x21), .val (.int x22), .val (.int x23)] [])) t
    refine XS.iconst X0.here hx rfl (hb hby at_152) ?_
    exact k
  exact b0_153 C fuel X0 e0 N0 (by show cells ≤ 3; omega) (by show slots ≤ 35; omega) Z1 n0_0 n1_0 n2_0 (by omega) (by omega) (by omega) q_n0_0_size q_n1_0 q_n2_0 y0 y2 y4 x6 x7 x8 y9 y11 y13 y15 x18 x19 x20 x21 x22 x23 (0 : Int32) E_n0_0_0 F_n0_0_keys_0 F_n0_0_values_0 F_n0_0_size_0 A_n1_0_0 A_n2_0_0 hr
def g0_119 (fuel : Nat) (x6 : Int32) (x7 : Int32) (x8 : Int32) (y9 : Int64) (y11 : Int64) (y13 : Int64) (y15 : Int64) (x19 : Int32) (x20 : Int32) (x21 : Int32) (x22 : Int32) (u0 : Int32) (q_n0_0_size : Int32) (q_n1_0 : List Int64) (q_n2_0 : List Int32) : Option (Int32) := (if u0 = (0 : Int32) then (g0_152 fuel x6 x7 x8 y9 y11 y13 y15 x20 x21 x22 q_n0_0_size q_n1_0 q_n2_0) else (if x19 = (f9 y9 y9 y11 y13 x6 x7 x8) then (g0_153 fuel x6 x7 x8 y9 y11 y13 y15 x20 x21 x22 (1 : Int32) q_n0_0_size q_n1_0 q_n2_0) else (g0_152 fuel x6 x7 x8 y9 y11 y13 y15 x20 x21 x22 q_n0_0_size q_n1_0 q_n2_0)))
set_option maxRecDepth 65536 in
set_option maxHeartbeats 4000000 in
theorem b0_119 {r : Int32} (C : Ctx p s m meth c Z a0 "com/example/mopor/mopor/reduction/LongIntTableGetPinLaw" code 24 (some .boolean) "law") (fuel : Nat) (X0 : Stand p l e room_1 s m args below meth c T0 locs cells slots) (e0 : T0.heap = h0) (N0 : Fr n0 locs) (hk : cells ≤ 3) (hn : slots ≤ 35) (Z1 : n0 ≤ h0.size) (n0_0 : Addr) (n1_0 : Addr) (n2_0 : Addr) (o0 : n0 ≤ n0_0) (o1 : @LT.lt Nat instLTNat n0_0 n1_0) (o2 : @LT.lt Nat instLTNat n1_0 n2_0) (q_n0_0_size : Int32) (q_n1_0 : List Int64) (q_n2_0 : List Int32) (y0 : Int64) (y2 : Int64) (y4 : Int64) (x6 : Int32) (x7 : Int32) (x8 : Int32) (y9 : Int64) (y11 : Int64) (y13 : Int64) (y15 : Int64) (x18 : Int32) (x19 : Int32) (x20 : Int32) (x21 : Int32) (x22 : Int32) (u0 : Int32) (E_n0_0_0 : Exa Z h0 n0_0 "com/example/mopor/mopor/reduction/LongIntTable") (F_n0_0_keys_0 : Fld Z h0 n0_0 "com/example/mopor/mopor/reduction/LongIntTable" "keys" "[J" (.ref n1_0)) (F_n0_0_values_0 : Fld Z h0 n0_0 "com/example/mopor/mopor/reduction/LongIntTable" "values" "[I" (.ref n2_0)) (F_n0_0_size_0 : Fld Z h0 n0_0 "com/example/mopor/mopor/reduction/LongIntTable" "size" "I" (.int q_n0_0_size)) (A_n1_0_0 : AJ Z h0 n1_0 .long q_n1_0) (A_n2_0_0 : AI Z h0 n2_0 .int q_n2_0) (hr : g0_119 fuel x6 x7 x8 y9 y11 y13 y15 x19 x20 x21 x22 u0 q_n0_0_size q_n1_0 q_n2_0 = some r) :
    Runs p e below s (P0 n0 r) 3 35 T0 (mkF m 119 #[.val (.long y0), .second, .val (.long y2), .second, .val (.long y4), .second, .val (.int x6), .val (.int x7), .val (.int x8), .val (.long y9), .second, .val (.long y11), .second, .val (.long y13), .second, .val (.long y15), .second, .val (.ref n0_0), .val (.int x18), .val (.int x19), .val (.int x20), .val (.int x21), .val (.int x22), .unset] [(.int u0)]) := by
  unfold g0_119 at hr
  have ⟨hx, hZ, hw, hby, hml, hown, hret, hlk, hnm⟩ := C
  refine Runs.via (T' := T0) (g' := (mkF m 123 #[.val (.long y0), .second, .val (.long y2), .second, .val (.long y4), .second, .val (.int x6), .val (.int x7), .val (.int x8), .val (.long y9), .second, .val (.long y11), .second, .val (.long y13), .second, .val (.long y15), .second, .val (.ref n0_0), .val (.int x18), .val (.int x19), .val (.int x20), .val (.int x21), .val (.int x22), .val (.int u0)] [(.int u0)])) (fun t k => ?_) ?_
  · show Steps p.tables e below (T0.setTop (mkF m 119 #[.val (.long y0), .second, .val (.long y2), .second, .val (.long y4), .second, .val (.int x6), .val (.int x7), .val (.int x8), .val (.long y9), .second, .val (.long y11), .second, .val (.long y13), .second, .val (.long y15), .second, .val (.ref n0_0), .val (.int x18), .val (.int x19), .val (.int x20), .val (.int x21), .val (.int x22), .unset] [(.int u0)])) t
    refine XS.istore X0.here hx rfl (hb hby at_119) rfl (l' := #[.val (.long y0), .second, .val (.long y2), .second, .val (.long y4), .second, .val (.int x6), .val (.int x7), .val (.int x8), .val (.long y9), .second, .val (.long y11), .second, .val (.long y13), .second, .val (.long y15), .second, .val (.ref n0_0), .val (.int x18), .val (.int x19), .val (.int x20), .val (.int x21), .val (.int x22), .val (.int u0)]) rfl ?_
    show Steps p.tables e below (T0.setTop (mkF m 121 #[.val (.long y0), .second, .val (.long y2), .second, .val (.long y4), .second, .val (.int x6), .val (.int x7), .val (.int x8), .val (.long y9), .second, .val (.long y11), .second, .val (.long y13), .second, .val (.long y15), .second, .val (.ref n0_0), .val (.int x18), .val (.int x19), .val (.int x20), .val (.int x21), .val (.int x22), .val (.int u0)] [])) t
    refine XS.iload X0.here hx rfl (hb hby at_121) rfl ?_
    exact k
  refine iteE hr (fun hc1 hr => ?_) (fun hc1 hr => ?_)
  · refine Runs.via (T' := T0) (g' := (mkF m 152 #[.val (.long y0), .second, .val (.long y2), .second, .val (.long y4), .second, .val (.int x6), .val (.int x7), .val (.int x8), .val (.long y9), .second, .val (.long y11), .second, .val (.long y13), .second, .val (.long y15), .second, .val (.ref n0_0), .val (.int x18), .val (.int x19), .val (.int x20), .val (.int x21), .val (.int x22), .val (.int u0)] [])) (fun t k => ?_) ?_
    · show Steps p.tables e below (T0.setTop (mkF m 123 #[.val (.long y0), .second, .val (.long y2), .second, .val (.long y4), .second, .val (.int x6), .val (.int x7), .val (.int x8), .val (.long y9), .second, .val (.long y11), .second, .val (.long y13), .second, .val (.long y15), .second, .val (.ref n0_0), .val (.int x18), .val (.int x19), .val (.int x20), .val (.int x21), .val (.int x22), .val (.int u0)] [(.int u0)])) t
      exact XS.ifYes X0.here hx rfl (pc0 := 123) (pc' := 152) rfl (hb hby at_123) rfl ((if0 _ _).trans (teq hc1).1) (by decide) (by decide) k
    exact b0_152 C fuel X0 e0 N0 (by show cells ≤ 3; omega) (by show slots ≤ 35; omega) Z1 n0_0 n1_0 n2_0 (by omega) (by omega) (by omega) q_n0_0_size q_n1_0 q_n2_0 y0 y2 y4 x6 x7 x8 y9 y11 y13 y15 x18 x19 x20 x21 x22 u0 E_n0_0_0 F_n0_0_keys_0 F_n0_0_values_0 F_n0_0_size_0 A_n1_0_0 A_n2_0_0 hr
  · refine Runs.via (T' := T0) (g' := (mkF m 126 #[.val (.long y0), .second, .val (.long y2), .second, .val (.long y4), .second, .val (.int x6), .val (.int x7), .val (.int x8), .val (.long y9), .second, .val (.long y11), .second, .val (.long y13), .second, .val (.long y15), .second, .val (.ref n0_0), .val (.int x18), .val (.int x19), .val (.int x20), .val (.int x21), .val (.int x22), .val (.int u0)] [])) (fun t k => ?_) ?_
    · show Steps p.tables e below (T0.setTop (mkF m 123 #[.val (.long y0), .second, .val (.long y2), .second, .val (.long y4), .second, .val (.int x6), .val (.int x7), .val (.int x8), .val (.long y9), .second, .val (.long y11), .second, .val (.long y13), .second, .val (.long y15), .second, .val (.ref n0_0), .val (.int x18), .val (.int x19), .val (.int x20), .val (.int x21), .val (.int x22), .val (.int u0)] [(.int u0)])) t
      exact XS.ifNo X0.here hx rfl (hb hby at_123) rfl ((if0 _ _).trans (feq hc1).1) k
    refine Runs.via (T' := T0) (g' := (mkF m 142 #[.val (.long y0), .second, .val (.long y2), .second, .val (.long y4), .second, .val (.int x6), .val (.int x7), .val (.int x8), .val (.long y9), .second, .val (.long y11), .second, .val (.long y13), .second, .val (.long y15), .second, .val (.ref n0_0), .val (.int x18), .val (.int x19), .val (.int x20), .val (.int x21), .val (.int x22), .val (.int u0)] [(.int x8), (.int x7), (.int x6), (.long y13), (.long y11), (.long y9), (.long y9), (.int x19)])) (fun t k => ?_) ?_
    · show Steps p.tables e below (T0.setTop (mkF m 126 #[.val (.long y0), .second, .val (.long y2), .second, .val (.long y4), .second, .val (.int x6), .val (.int x7), .val (.int x8), .val (.long y9), .second, .val (.long y11), .second, .val (.long y13), .second, .val (.long y15), .second, .val (.ref n0_0), .val (.int x18), .val (.int x19), .val (.int x20), .val (.int x21), .val (.int x22), .val (.int u0)] [])) t
      refine XS.iload X0.here hx rfl (hb hby at_126) rfl ?_
      show Steps p.tables e below (T0.setTop (mkF m 128 #[.val (.long y0), .second, .val (.long y2), .second, .val (.long y4), .second, .val (.int x6), .val (.int x7), .val (.int x8), .val (.long y9), .second, .val (.long y11), .second, .val (.long y13), .second, .val (.long y15), .second, .val (.ref n0_0), .val (.int x18), .val (.int x19), .val (.int x20), .val (.int x21), .val (.int x22), .val (.int u0)] [(.int x19)])) t
      refine XS.lload X0.here hx rfl (hb hby at_128) rfl ?_
      show Steps p.tables e below (T0.setTop (mkF m 130 #[.val (.long y0), .second, .val (.long y2), .second, .val (.long y4), .second, .val (.int x6), .val (.int x7), .val (.int x8), .val (.long y9), .second, .val (.long y11), .second, .val (.long y13), .second, .val (.long y15), .second, .val (.ref n0_0), .val (.int x18), .val (.int x19), .val (.int x20), .val (.int x21), .val (.int x22), .val (.int u0)] [(.long y9), (.int x19)])) t
      refine XS.lload X0.here hx rfl (hb hby at_130) rfl ?_
      show Steps p.tables e below (T0.setTop (mkF m 132 #[.val (.long y0), .second, .val (.long y2), .second, .val (.long y4), .second, .val (.int x6), .val (.int x7), .val (.int x8), .val (.long y9), .second, .val (.long y11), .second, .val (.long y13), .second, .val (.long y15), .second, .val (.ref n0_0), .val (.int x18), .val (.int x19), .val (.int x20), .val (.int x21), .val (.int x22), .val (.int u0)] [(.long y9), (.long y9), (.int x19)])) t
      refine XS.lload X0.here hx rfl (hb hby at_132) rfl ?_
      show Steps p.tables e below (T0.setTop (mkF m 134 #[.val (.long y0), .second, .val (.long y2), .second, .val (.long y4), .second, .val (.int x6), .val (.int x7), .val (.int x8), .val (.long y9), .second, .val (.long y11), .second, .val (.long y13), .second, .val (.long y15), .second, .val (.ref n0_0), .val (.int x18), .val (.int x19), .val (.int x20), .val (.int x21), .val (.int x22), .val (.int u0)] [(.long y11), (.long y9), (.long y9), (.int x19)])) t
      refine XS.lload X0.here hx rfl (hb hby at_134) rfl ?_
      show Steps p.tables e below (T0.setTop (mkF m 136 #[.val (.long y0), .second, .val (.long y2), .second, .val (.long y4), .second, .val (.int x6), .val (.int x7), .val (.int x8), .val (.long y9), .second, .val (.long y11), .second, .val (.long y13), .second, .val (.long y15), .second, .val (.ref n0_0), .val (.int x18), .val (.int x19), .val (.int x20), .val (.int x21), .val (.int x22), .val (.int u0)] [(.long y13), (.long y11), (.long y9), (.long y9), (.int x19)])) t
      refine XS.iload X0.here hx rfl (hb hby at_136) rfl ?_
      show Steps p.tables e below (T0.setTop (mkF m 138 #[.val (.long y0), .second, .val (.long y2), .second, .val (.long y4), .second, .val (.int x6), .val (.int x7), .val (.int x8), .val (.long y9), .second, .val (.long y11), .second, .val (.long y13), .second, .val (.long y15), .second, .val (.ref n0_0), .val (.int x18), .val (.int x19), .val (.int x20), .val (.int x21), .val (.int x22), .val (.int u0)] [(.int x6), (.long y13), (.long y11), (.long y9), (.long y9), (.int x19)])) t
      refine XS.iload X0.here hx rfl (hb hby at_138) rfl ?_
      show Steps p.tables e below (T0.setTop (mkF m 140 #[.val (.long y0), .second, .val (.long y2), .second, .val (.long y4), .second, .val (.int x6), .val (.int x7), .val (.int x8), .val (.long y9), .second, .val (.long y11), .second, .val (.long y13), .second, .val (.long y15), .second, .val (.ref n0_0), .val (.int x18), .val (.int x19), .val (.int x20), .val (.int x21), .val (.int x22), .val (.int u0)] [(.int x7), (.int x6), (.long y13), (.long y11), (.long y9), (.long y9), (.int x19)])) t
      refine XS.iload X0.here hx rfl (hb hby at_140) rfl ?_
      exact k
    obtain ⟨_, _, ⟨T2, L2, k2, n2⟩, -, X2, ⟨Lc2, hQ2, l2, y2, z2⟩, st2⟩ := Jvm.LawKit.callS X0 hx (y := (⟨"com/example/mopor/mopor/reduction/LongIntTableGetPinLaw", "exp", "(JJJJIII)I"⟩ : MethodName)) hown (mvT hZ (hw _ (List.mem_of_getElem? (i := 44) rfl))) (mvT hZ (hw _ (List.mem_of_getElem? (i := 45) rfl))) (mvT hZ (hw _ (List.mem_of_getElem? (i := 2) rfl))) (mvT hZ (hw _ (List.mem_of_getElem? (i := 46) rfl))) (by decide) (backOf (W := 1) (rm9 l Z a0 hw [] y9 y9 y11 y13 x6 x7 x8 h0 n0) hZ (hw _ (List.mem_of_getElem? (i := 46) rfl)) (hw _ (List.mem_of_getElem? (i := 2) rfl)) (by decide) (by decide)) (g := (mkF m 142 #[.val (.long y0), .second, .val (.long y2), .second, .val (.long y4), .second, .val (.int x6), .val (.int x7), .val (.int x8), .val (.long y9), .second, .val (.long y11), .second, .val (.long y13), .second, .val (.long y15), .second, .val (.ref n0_0), .val (.int x18), .val (.int x19), .val (.int x20), .val (.int x21), .val (.int x22), .val (.int u0)] [(.int x8), (.int x7), (.int x6), (.long y13), (.long y11), (.long y9), (.long y9), (.int x19)])) rfl (by rw [hml]; rfl) (argsL := [(.long y9), (.long y9), (.long y11), (.long y13), (.int x6), (.int x7), (.int x8)]) (rest := [(.int x19)]) (lenOf pd_7 rfl) rfl (by show 2 * 0 + _ ≤ _; exact Nat.le_of_eq rfl) (hb hby at_142) (fun _ _ => ⟨rfl, e0, (by show cells + 0 ≤ 16; omega), (by show slots + 0 ≤ 192; omega)⟩)
    dsimp only [Pt.U, Pt.locs, Pt.cells, Pt.slots] at X2 l2 y2 z2 st2 hQ2
    replace y2 := y2.symm; replace z2 := z2.symm; subst l2 y2 z2
    obtain ⟨rfl, N2q, e2⟩ := hQ2
    have N2 := Fr.app N0 N2q
    refine Runs.via (T' := T2) (g' := (mkF m 145 #[.val (.long y0), .second, .val (.long y2), .second, .val (.long y4), .second, .val (.int x6), .val (.int x7), .val (.int x8), .val (.long y9), .second, .val (.long y11), .second, .val (.long y13), .second, .val (.long y15), .second, .val (.ref n0_0), .val (.int x18), .val (.int x19), .val (.int x20), .val (.int x21), .val (.int x22), .val (.int u0)] [(.int (f9 y9 y9 y11 y13 x6 x7 x8)), (.int x19)])) (fun t k => st2 _ k) ?_
    refine iteE hr (fun hc3 hr => ?_) (fun hc3 hr => ?_)
    · refine Runs.via (T' := T2) (g' := (mkF m 148 #[.val (.long y0), .second, .val (.long y2), .second, .val (.long y4), .second, .val (.int x6), .val (.int x7), .val (.int x8), .val (.long y9), .second, .val (.long y11), .second, .val (.long y13), .second, .val (.long y15), .second, .val (.ref n0_0), .val (.int x18), .val (.int x19), .val (.int x20), .val (.int x21), .val (.int x22), .val (.int u0)] [])) (fun t k => ?_) ?_
      · show Steps p.tables e below (T2.setTop (mkF m 145 #[.val (.long y0), .second, .val (.long y2), .second, .val (.long y4), .second, .val (.int x6), .val (.int x7), .val (.int x8), .val (.long y9), .second, .val (.long y11), .second, .val (.long y13), .second, .val (.long y15), .second, .val (.ref n0_0), .val (.int x18), .val (.int x19), .val (.int x20), .val (.int x21), .val (.int x22), .val (.int u0)] [(.int (f9 y9 y9 y11 y13 x6 x7 x8)), (.int x19)])) t
        exact XS.icmpNo X2.here hx rfl (hb hby at_145) rfl (teq hc3).2 k
      refine Runs.via (T' := T2) (g' := (mkF m 153 #[.val (.long y0), .second, .val (.long y2), .second, .val (.long y4), .second, .val (.int x6), .val (.int x7), .val (.int x8), .val (.long y9), .second, .val (.long y11), .second, .val (.long y13), .second, .val (.long y15), .second, .val (.ref n0_0), .val (.int x18), .val (.int x19), .val (.int x20), .val (.int x21), .val (.int x22), .val (.int u0)] [(.int (1 : Int32))])) (fun t k => ?_) ?_
      · show Steps p.tables e below (T2.setTop (mkF m 148 #[.val (.long y0), .second, .val (.long y2), .second, .val (.long y4), .second, .val (.int x6), .val (.int x7), .val (.int x8), .val (.long y9), .second, .val (.long y11), .second, .val (.long y13), .second, .val (.long y15), .second, .val (.ref n0_0), .val (.int x18), .val (.int x19), .val (.int x20), .val (.int x21), .val (.int x22), .val (.int u0)] [])) t
        refine XS.iconst X2.here hx rfl (hb hby at_148) ?_
        show Steps p.tables e below (T2.setTop (mkF m 149 #[.val (.long y0), .second, .val (.long y2), .second, .val (.long y4), .second, .val (.int x6), .val (.int x7), .val (.int x8), .val (.long y9), .second, .val (.long y11), .second, .val (.long y13), .second, .val (.long y15), .second, .val (.ref n0_0), .val (.int x18), .val (.int x19), .val (.int x20), .val (.int x21), .val (.int x22), .val (.int u0)] [(.int (1 : Int32))])) t
        refine XS.goto X2.here hx rfl (pc0 := 149) (pc' := 153) rfl (hb hby at_149) (by decide) (by decide) ?_
        exact k
      exact b0_153 C fuel X2 e2 N2 (by show (cells + 0) ≤ 3; omega) (by show (slots + 0) ≤ 35; omega) Z1 n0_0 n1_0 n2_0 (by omega) (by omega) (by omega) q_n0_0_size q_n1_0 q_n2_0 y0 y2 y4 x6 x7 x8 y9 y11 y13 y15 x18 x19 x20 x21 x22 u0 (1 : Int32) E_n0_0_0 F_n0_0_keys_0 F_n0_0_values_0 F_n0_0_size_0 A_n1_0_0 A_n2_0_0 hr
    · refine Runs.via (T' := T2) (g' := (mkF m 152 #[.val (.long y0), .second, .val (.long y2), .second, .val (.long y4), .second, .val (.int x6), .val (.int x7), .val (.int x8), .val (.long y9), .second, .val (.long y11), .second, .val (.long y13), .second, .val (.long y15), .second, .val (.ref n0_0), .val (.int x18), .val (.int x19), .val (.int x20), .val (.int x21), .val (.int x22), .val (.int u0)] [])) (fun t k => ?_) ?_
      · show Steps p.tables e below (T2.setTop (mkF m 145 #[.val (.long y0), .second, .val (.long y2), .second, .val (.long y4), .second, .val (.int x6), .val (.int x7), .val (.int x8), .val (.long y9), .second, .val (.long y11), .second, .val (.long y13), .second, .val (.long y15), .second, .val (.ref n0_0), .val (.int x18), .val (.int x19), .val (.int x20), .val (.int x21), .val (.int x22), .val (.int u0)] [(.int (f9 y9 y9 y11 y13 x6 x7 x8)), (.int x19)])) t
        exact XS.icmpYes X2.here hx rfl (pc0 := 145) (pc' := 152) rfl (hb hby at_145) rfl (feq hc3).2 (by decide) (by decide) k
      exact b0_152 C fuel X2 e2 N2 (by show (cells + 0) ≤ 3; omega) (by show (slots + 0) ≤ 35; omega) Z1 n0_0 n1_0 n2_0 (by omega) (by omega) (by omega) q_n0_0_size q_n1_0 q_n2_0 y0 y2 y4 x6 x7 x8 y9 y11 y13 y15 x18 x19 x20 x21 x22 u0 E_n0_0_0 F_n0_0_keys_0 F_n0_0_values_0 F_n0_0_size_0 A_n1_0_0 A_n2_0_0 hr
def g0_0 (fuel : Nat) (y0 : Int64) (y2 : Int64) (y4 : Int64) (x6 : Int32) (x7 : Int32) (x8 : Int32) : Option (Int32) := (letO (f1 y0) fun v2 => (letO (f1 y2) fun v4 => (letO (f1 y4) fun v6 => (letO (y0 + y2) fun v7 => ((f2 fuel (0 : Int32)).bind fun r9 => ((f6 fuel v7 (0 : Int32) r9.1 r9.2).bind fun r10 => ((f8 fuel v2 x6 (0 : Int32) r9.1 r9.2).bind fun r11 => ((f8 fuel v4 x7 r11.2.1 r11.2.2.1 r11.2.2.2).bind fun r12 => ((f8 fuel v6 x8 r12.2.1 r12.2.2.1 r12.2.2.2).bind fun r13 => ((f6 fuel v2 r13.2.1 r13.2.2.1 r13.2.2.2).bind fun r14 => ((f6 fuel v4 r13.2.1 r13.2.2.1 r13.2.2.2).bind fun r15 => ((f6 fuel v6 r13.2.1 r13.2.2.1 r13.2.2.2).bind fun r16 => ((f6 fuel v7 r13.2.1 r13.2.2.1 r13.2.2.2).bind fun r17 => (if r10 = (-1 : Int32) then (g0_119 fuel x6 x7 x8 v2 v4 v6 v7 r14 r15 r16 r17 (1 : Int32) r13.2.1 r13.2.2.1 r13.2.2.2) else (g0_119 fuel x6 x7 x8 v2 v4 v6 v7 r14 r15 r16 r17 (0 : Int32) r13.2.1 r13.2.2.1 r13.2.2.2)))))))))))))))
set_option maxRecDepth 65536 in
set_option maxHeartbeats 4000000 in
theorem b0_0 {r : Int32} (C : Ctx p s m meth c Z a0 "com/example/mopor/mopor/reduction/LongIntTableGetPinLaw" code 24 (some .boolean) "law") (fuel : Nat) (X0 : Stand p l e room_1 s m args below meth c T0 locs cells slots) (e0 : T0.heap = h0) (N0 : Fr n0 locs) (hk : cells ≤ 0) (hn : slots ≤ 0) (Z1 : n0 ≤ h0.size) (y0 : Int64) (y2 : Int64) (y4 : Int64) (x6 : Int32) (x7 : Int32) (x8 : Int32) (hr : g0_0 fuel y0 y2 y4 x6 x7 x8 = some r) :
    Runs p e below s (P0 n0 r) 3 35 T0 (mkF m 0 #[.val (.long y0), .second, .val (.long y2), .second, .val (.long y4), .second, .val (.int x6), .val (.int x7), .val (.int x8), .unset, .unset, .unset, .unset, .unset, .unset, .unset, .unset, .unset, .unset, .unset, .unset, .unset, .unset, .unset] []) := by
  unfold g0_0 at hr
  have ⟨hx, hZ, hw, hby, hml, hown, hret, hlk, hnm⟩ := C
  refine Runs.via (T' := T0) (g' := (mkF m 1 #[.val (.long y0), .second, .val (.long y2), .second, .val (.long y4), .second, .val (.int x6), .val (.int x7), .val (.int x8), .unset, .unset, .unset, .unset, .unset, .unset, .unset, .unset, .unset, .unset, .unset, .unset, .unset, .unset, .unset] [(.long y0)])) (fun t k => ?_) ?_
  · show Steps p.tables e below (T0.setTop (mkF m 0 #[.val (.long y0), .second, .val (.long y2), .second, .val (.long y4), .second, .val (.int x6), .val (.int x7), .val (.int x8), .unset, .unset, .unset, .unset, .unset, .unset, .unset, .unset, .unset, .unset, .unset, .unset, .unset, .unset, .unset] [])) t
    refine XS.lloadN X0.here hx rfl (hb hby at_0) rfl ?_
    exact k
  obtain ⟨_, _, ⟨T1, L1, k1, n1⟩, -, X1, ⟨Lc1, hQ1, l1, y1, z1⟩, st1⟩ := Jvm.LawKit.callS X0 hx (y := (⟨"com/example/mopor/mopor/reduction/LongIntTableGetPinLaw", "fix", "(J)J"⟩ : MethodName)) hown (mvT hZ (hw _ (List.mem_of_getElem? (i := 0) rfl))) (mvT hZ (hw _ (List.mem_of_getElem? (i := 1) rfl))) (mvT hZ (hw _ (List.mem_of_getElem? (i := 2) rfl))) (mvT hZ (hw _ (List.mem_of_getElem? (i := 3) rfl))) (by decide) (backOf (W := 0) (rm1 l Z a0 hw [] y0 h0 n0) hZ (hw _ (List.mem_of_getElem? (i := 3) rfl)) (hw _ (List.mem_of_getElem? (i := 2) rfl)) (by decide) (by decide)) (g := (mkF m 1 #[.val (.long y0), .second, .val (.long y2), .second, .val (.long y4), .second, .val (.int x6), .val (.int x7), .val (.int x8), .unset, .unset, .unset, .unset, .unset, .unset, .unset, .unset, .unset, .unset, .unset, .unset, .unset, .unset, .unset] [(.long y0)])) rfl (by rw [hml]; rfl) (argsL := [(.long y0)]) (rest := []) (lenOf pd_0 rfl) rfl (by show 2 * 0 + _ ≤ _; exact Nat.le_of_eq rfl) (hb hby at_1) (fun _ _ => ⟨rfl, e0, (by show cells + 0 ≤ 16; omega), (by show slots + 0 ≤ 192; omega)⟩)
  dsimp only [Pt.U, Pt.locs, Pt.cells, Pt.slots] at X1 l1 y1 z1 st1 hQ1
  replace y1 := y1.symm; replace z1 := z1.symm; subst l1 y1 z1
  obtain ⟨rfl, N1q, e1⟩ := hQ1
  have N1 := Fr.app N0 N1q
  refine Runs.via (T' := T1) (g' := (mkF m 4 #[.val (.long y0), .second, .val (.long y2), .second, .val (.long y4), .second, .val (.int x6), .val (.int x7), .val (.int x8), .unset, .unset, .unset, .unset, .unset, .unset, .unset, .unset, .unset, .unset, .unset, .unset, .unset, .unset, .unset] [(.long (f1 y0))])) (fun t k => st1 _ k) ?_
  refine letE hr ?_; intro v2 hv2 hr
  rw [← hv2]
  refine Runs.via (T' := T1) (g' := (mkF m 7 #[.val (.long y0), .second, .val (.long y2), .second, .val (.long y4), .second, .val (.int x6), .val (.int x7), .val (.int x8), .val (.long v2), .second, .unset, .unset, .unset, .unset, .unset, .unset, .unset, .unset, .unset, .unset, .unset, .unset, .unset] [(.long y2)])) (fun t k => ?_) ?_
  · show Steps p.tables e below (T1.setTop (mkF m 4 #[.val (.long y0), .second, .val (.long y2), .second, .val (.long y4), .second, .val (.int x6), .val (.int x7), .val (.int x8), .unset, .unset, .unset, .unset, .unset, .unset, .unset, .unset, .unset, .unset, .unset, .unset, .unset, .unset, .unset] [(.long v2)])) t
    refine XS.lstore X1.here hx rfl (hb hby at_4) rfl (l' := #[.val (.long y0), .second, .val (.long y2), .second, .val (.long y4), .second, .val (.int x6), .val (.int x7), .val (.int x8), .val (.long v2), .second, .unset, .unset, .unset, .unset, .unset, .unset, .unset, .unset, .unset, .unset, .unset, .unset, .unset]) rfl ?_
    show Steps p.tables e below (T1.setTop (mkF m 6 #[.val (.long y0), .second, .val (.long y2), .second, .val (.long y4), .second, .val (.int x6), .val (.int x7), .val (.int x8), .val (.long v2), .second, .unset, .unset, .unset, .unset, .unset, .unset, .unset, .unset, .unset, .unset, .unset, .unset, .unset] [])) t
    refine XS.lloadN X1.here hx rfl (hb hby at_6) rfl ?_
    exact k
  obtain ⟨_, _, ⟨T3, L3, k3, n3⟩, -, X3, ⟨Lc3, hQ3, l3, y3, z3⟩, st3⟩ := Jvm.LawKit.callS X1 hx (y := (⟨"com/example/mopor/mopor/reduction/LongIntTableGetPinLaw", "fix", "(J)J"⟩ : MethodName)) hown (mvT hZ (hw _ (List.mem_of_getElem? (i := 0) rfl))) (mvT hZ (hw _ (List.mem_of_getElem? (i := 1) rfl))) (mvT hZ (hw _ (List.mem_of_getElem? (i := 2) rfl))) (mvT hZ (hw _ (List.mem_of_getElem? (i := 3) rfl))) (by decide) (backOf (W := 0) (rm1 l Z a0 hw [] y2 h0 n0) hZ (hw _ (List.mem_of_getElem? (i := 3) rfl)) (hw _ (List.mem_of_getElem? (i := 2) rfl)) (by decide) (by decide)) (g := (mkF m 7 #[.val (.long y0), .second, .val (.long y2), .second, .val (.long y4), .second, .val (.int x6), .val (.int x7), .val (.int x8), .val (.long v2), .second, .unset, .unset, .unset, .unset, .unset, .unset, .unset, .unset, .unset, .unset, .unset, .unset, .unset] [(.long y2)])) rfl (by rw [hml]; rfl) (argsL := [(.long y2)]) (rest := []) (lenOf pd_0 rfl) rfl (by show 2 * 0 + _ ≤ _; exact Nat.le_of_eq rfl) (hb hby at_7) (fun _ _ => ⟨rfl, e1, (by show (cells + 0) + 0 ≤ 16; omega), (by show (slots + 0) + 0 ≤ 192; omega)⟩)
  dsimp only [Pt.U, Pt.locs, Pt.cells, Pt.slots] at X3 l3 y3 z3 st3 hQ3
  replace y3 := y3.symm; replace z3 := z3.symm; subst l3 y3 z3
  obtain ⟨rfl, N3q, e3⟩ := hQ3
  have N3 := Fr.app N1 N3q
  refine Runs.via (T' := T3) (g' := (mkF m 10 #[.val (.long y0), .second, .val (.long y2), .second, .val (.long y4), .second, .val (.int x6), .val (.int x7), .val (.int x8), .val (.long v2), .second, .unset, .unset, .unset, .unset, .unset, .unset, .unset, .unset, .unset, .unset, .unset, .unset, .unset] [(.long (f1 y2))])) (fun t k => st3 _ k) ?_
  refine letE hr ?_; intro v4 hv4 hr
  rw [← hv4]
  refine Runs.via (T' := T3) (g' := (mkF m 14 #[.val (.long y0), .second, .val (.long y2), .second, .val (.long y4), .second, .val (.int x6), .val (.int x7), .val (.int x8), .val (.long v2), .second, .val (.long v4), .second, .unset, .unset, .unset, .unset, .unset, .unset, .unset, .unset, .unset, .unset, .unset] [(.long y4)])) (fun t k => ?_) ?_
  · show Steps p.tables e below (T3.setTop (mkF m 10 #[.val (.long y0), .second, .val (.long y2), .second, .val (.long y4), .second, .val (.int x6), .val (.int x7), .val (.int x8), .val (.long v2), .second, .unset, .unset, .unset, .unset, .unset, .unset, .unset, .unset, .unset, .unset, .unset, .unset, .unset] [(.long v4)])) t
    refine XS.lstore X3.here hx rfl (hb hby at_10) rfl (l' := #[.val (.long y0), .second, .val (.long y2), .second, .val (.long y4), .second, .val (.int x6), .val (.int x7), .val (.int x8), .val (.long v2), .second, .val (.long v4), .second, .unset, .unset, .unset, .unset, .unset, .unset, .unset, .unset, .unset, .unset, .unset]) rfl ?_
    show Steps p.tables e below (T3.setTop (mkF m 12 #[.val (.long y0), .second, .val (.long y2), .second, .val (.long y4), .second, .val (.int x6), .val (.int x7), .val (.int x8), .val (.long v2), .second, .val (.long v4), .second, .unset, .unset, .unset, .unset, .unset, .unset, .unset, .unset, .unset, .unset, .unset] [])) t
    refine XS.lload X3.here hx rfl (hb hby at_12) rfl ?_
    exact k
  obtain ⟨_, _, ⟨T5, L5, k5, n5⟩, -, X5, ⟨Lc5, hQ5, l5, y5, z5⟩, st5⟩ := Jvm.LawKit.callS X3 hx (y := (⟨"com/example/mopor/mopor/reduction/LongIntTableGetPinLaw", "fix", "(J)J"⟩ : MethodName)) hown (mvT hZ (hw _ (List.mem_of_getElem? (i := 0) rfl))) (mvT hZ (hw _ (List.mem_of_getElem? (i := 1) rfl))) (mvT hZ (hw _ (List.mem_of_getElem? (i := 2) rfl))) (mvT hZ (hw _ (List.mem_of_getElem? (i := 3) rfl))) (by decide) (backOf (W := 0) (rm1 l Z a0 hw [] y4 h0 n0) hZ (hw _ (List.mem_of_getElem? (i := 3) rfl)) (hw _ (List.mem_of_getElem? (i := 2) rfl)) (by decide) (by decide)) (g := (mkF m 14 #[.val (.long y0), .second, .val (.long y2), .second, .val (.long y4), .second, .val (.int x6), .val (.int x7), .val (.int x8), .val (.long v2), .second, .val (.long v4), .second, .unset, .unset, .unset, .unset, .unset, .unset, .unset, .unset, .unset, .unset, .unset] [(.long y4)])) rfl (by rw [hml]; rfl) (argsL := [(.long y4)]) (rest := []) (lenOf pd_0 rfl) rfl (by show 2 * 0 + _ ≤ _; exact Nat.le_of_eq rfl) (hb hby at_14) (fun _ _ => ⟨rfl, e3, (by show ((cells + 0) + 0) + 0 ≤ 16; omega), (by show ((slots + 0) + 0) + 0 ≤ 192; omega)⟩)
  dsimp only [Pt.U, Pt.locs, Pt.cells, Pt.slots] at X5 l5 y5 z5 st5 hQ5
  replace y5 := y5.symm; replace z5 := z5.symm; subst l5 y5 z5
  obtain ⟨rfl, N5q, e5⟩ := hQ5
  have N5 := Fr.app N3 N5q
  refine Runs.via (T' := T5) (g' := (mkF m 17 #[.val (.long y0), .second, .val (.long y2), .second, .val (.long y4), .second, .val (.int x6), .val (.int x7), .val (.int x8), .val (.long v2), .second, .val (.long v4), .second, .unset, .unset, .unset, .unset, .unset, .unset, .unset, .unset, .unset, .unset, .unset] [(.long (f1 y4))])) (fun t k => st5 _ k) ?_
  refine letE hr ?_; intro v6 hv6 hr
  rw [← hv6]
  refine Runs.via (T' := T5) (g' := (mkF m 22 #[.val (.long y0), .second, .val (.long y2), .second, .val (.long y4), .second, .val (.int x6), .val (.int x7), .val (.int x8), .val (.long v2), .second, .val (.long v4), .second, .val (.long v6), .second, .unset, .unset, .unset, .unset, .unset, .unset, .unset, .unset, .unset] [(.long (y0 + y2))])) (fun t k => ?_) ?_
  · show Steps p.tables e below (T5.setTop (mkF m 17 #[.val (.long y0), .second, .val (.long y2), .second, .val (.long y4), .second, .val (.int x6), .val (.int x7), .val (.int x8), .val (.long v2), .second, .val (.long v4), .second, .unset, .unset, .unset, .unset, .unset, .unset, .unset, .unset, .unset, .unset, .unset] [(.long v6)])) t
    refine XS.lstore X5.here hx rfl (hb hby at_17) rfl (l' := #[.val (.long y0), .second, .val (.long y2), .second, .val (.long y4), .second, .val (.int x6), .val (.int x7), .val (.int x8), .val (.long v2), .second, .val (.long v4), .second, .val (.long v6), .second, .unset, .unset, .unset, .unset, .unset, .unset, .unset, .unset, .unset]) rfl ?_
    show Steps p.tables e below (T5.setTop (mkF m 19 #[.val (.long y0), .second, .val (.long y2), .second, .val (.long y4), .second, .val (.int x6), .val (.int x7), .val (.int x8), .val (.long v2), .second, .val (.long v4), .second, .val (.long v6), .second, .unset, .unset, .unset, .unset, .unset, .unset, .unset, .unset, .unset] [])) t
    refine XS.lloadN X5.here hx rfl (hb hby at_19) rfl ?_
    show Steps p.tables e below (T5.setTop (mkF m 20 #[.val (.long y0), .second, .val (.long y2), .second, .val (.long y4), .second, .val (.int x6), .val (.int x7), .val (.int x8), .val (.long v2), .second, .val (.long v4), .second, .val (.long v6), .second, .unset, .unset, .unset, .unset, .unset, .unset, .unset, .unset, .unset] [(.long y0)])) t
    refine XS.lloadN X5.here hx rfl (hb hby at_20) rfl ?_
    show Steps p.tables e below (T5.setTop (mkF m 21 #[.val (.long y0), .second, .val (.long y2), .second, .val (.long y4), .second, .val (.int x6), .val (.int x7), .val (.int x8), .val (.long v2), .second, .val (.long v4), .second, .val (.long v6), .second, .unset, .unset, .unset, .unset, .unset, .unset, .unset, .unset, .unset] [(.long y2), (.long y0)])) t
    refine XS.ladd X5.here hx rfl (hb hby at_21) rfl ?_
    exact k
  refine letE hr ?_; intro v7 hv7 hr
  rw [← hv7]
  refine Runs.via (T' := T5) (g' := (mkF m 24 #[.val (.long y0), .second, .val (.long y2), .second, .val (.long y4), .second, .val (.int x6), .val (.int x7), .val (.int x8), .val (.long v2), .second, .val (.long v4), .second, .val (.long v6), .second, .val (.long v7), .second, .unset, .unset, .unset, .unset, .unset, .unset, .unset] [])) (fun t k => ?_) ?_
  · show Steps p.tables e below (T5.setTop (mkF m 22 #[.val (.long y0), .second, .val (.long y2), .second, .val (.long y4), .second, .val (.int x6), .val (.int x7), .val (.int x8), .val (.long v2), .second, .val (.long v4), .second, .val (.long v6), .second, .unset, .unset, .unset, .unset, .unset, .unset, .unset, .unset, .unset] [(.long v7)])) t
    refine XS.lstore X5.here hx rfl (hb hby at_22) rfl (l' := #[.val (.long y0), .second, .val (.long y2), .second, .val (.long y4), .second, .val (.int x6), .val (.int x7), .val (.int x8), .val (.long v2), .second, .val (.long v4), .second, .val (.long v6), .second, .val (.long v7), .second, .unset, .unset, .unset, .unset, .unset, .unset, .unset]) rfl ?_
    exact k
  obtain ⟨T8, h8, X8, e8, E8, A8, D8, -, st8⟩ := newO X5 hx hZ hown (hw _ (List.mem_of_getElem? (i := 5) rfl)) (hw _ (List.mem_of_getElem? (i := 6) rfl)) (hw _ (List.mem_of_getElem? (i := 7) rfl)) e5 (g := (mkF m 24 #[.val (.long y0), .second, .val (.long y2), .second, .val (.long y4), .second, .val (.int x6), .val (.int x7), .val (.int x8), .val (.long v2), .second, .val (.long v4), .second, .val (.long v6), .second, .val (.long v7), .second, .unset, .unset, .unset, .unset, .unset, .unset, .unset] [])) rfl (hb hby at_24) (by show (((cells + 0) + 0) + 0) + 1 ≤ 16; omega) (by show (((slots + 0) + 0) + 0) + 3 ≤ 192; omega)
  obtain ⟨b24, g8⟩ : ∃ z, z = h0.size := ⟨_, rfl⟩
  rw [← g8] at A8 D8 st8
  have i8 := E8.1
  have zz8 : n0 ≤ h8.size := Nat.le_trans Z1 i8
  have E_b24_8 := A8
  have F_b24_keys_8 : Fld Z h8 b24 "com/example/mopor/mopor/reduction/LongIntTable" "keys" "[J" .null := D8 (Or.inl (hw _ (List.mem_of_getElem? (i := 24) rfl))) (ty := (.array .long)) (by decide)
  have F_b24_values_8 : Fld Z h8 b24 "com/example/mopor/mopor/reduction/LongIntTable" "values" "[I" .null := D8 (Or.inl (hw _ (List.mem_of_getElem? (i := 27) rfl))) (ty := (.array .int)) (by decide)
  have F_b24_size_8 : Fld Z h8 b24 "com/example/mopor/mopor/reduction/LongIntTable" "size" "I" (.int (0 : Int32)) := D8 (Or.inl (hw _ (List.mem_of_getElem? (i := 43) rfl))) (ty := .int) (by decide)
  have sb24 : n0 ≤ b24 := by omega
  refine Runs.via (T' := T8) (g' := (mkF m 27 #[.val (.long y0), .second, .val (.long y2), .second, .val (.long y4), .second, .val (.int x6), .val (.int x7), .val (.int x8), .val (.long v2), .second, .val (.long v4), .second, .val (.long v6), .second, .val (.long v7), .second, .unset, .unset, .unset, .unset, .unset, .unset, .unset] [(.ref b24)])) (fun t k => st8 _ k) ?_
  refine Runs.via (T' := T8) (g' := (mkF m 28 #[.val (.long y0), .second, .val (.long y2), .second, .val (.long y4), .second, .val (.int x6), .val (.int x7), .val (.int x8), .val (.long v2), .second, .val (.long v4), .second, .val (.long v6), .second, .val (.long v7), .second, .unset, .unset, .unset, .unset, .unset, .unset, .unset] [(.ref b24), (.ref b24)])) (fun t k => ?_) ?_
  · show Steps p.tables e below (T8.setTop (mkF m 27 #[.val (.long y0), .second, .val (.long y2), .second, .val (.long y4), .second, .val (.int x6), .val (.int x7), .val (.int x8), .val (.long v2), .second, .val (.long v4), .second, .val (.long v6), .second, .val (.long v7), .second, .unset, .unset, .unset, .unset, .unset, .unset, .unset] [(.ref b24)])) t
    refine XS.dup X8.here hx rfl (hb hby at_27) rfl rfl ?_
    exact k
  refine bindE hr ?_; intro r9 hr9m hr
  obtain ⟨_, _, ⟨T9, L9, k9, n9⟩, -, X9, ⟨Lc9, hQ9, l9, y9, z9⟩, st9⟩ := X8.specialBack hx (y := (⟨"com/example/mopor/mopor/reduction/LongIntTable", "<init>", "()V"⟩ : MethodName)) rfl hown (mvT hZ (hw _ (List.mem_of_getElem? (i := 8) rfl))) (mvT hZ (hw _ (List.mem_of_getElem? (i := 9) rfl))) (mvT hZ (hw _ (List.mem_of_getElem? (i := 10) rfl))) (by decide) (backOf (W := 1) (rm2 l Z a0 hw [] b24 (0 : Int32) h8 n0 zz8 (by omega) E_b24_8 F_b24_keys_8 F_b24_values_8 F_b24_size_8 fuel r9 hr9m) hZ (hw _ (List.mem_of_getElem? (i := 10) rfl)) (hw _ (List.mem_of_getElem? (i := 7) rfl)) (by decide) (by decide)) (g := (mkF m 28 #[.val (.long y0), .second, .val (.long y2), .second, .val (.long y4), .second, .val (.int x6), .val (.int x7), .val (.int x8), .val (.long v2), .second, .val (.long v4), .second, .val (.long v6), .second, .val (.long v7), .second, .unset, .unset, .unset, .unset, .unset, .unset, .unset] [(.ref b24), (.ref b24)])) rfl (by rw [hml]; rfl) (Steps.refl _) (a := b24) (argsL := []) (rest := [(.ref b24)]) (lenOf pd_3 rfl) rfl (by show 2 * 0 + _ ≤ _; exact Nat.le_of_eq rfl) (hb hby at_28) (fun _ _ => ⟨rfl, e8, (by show ((((cells + 0) + 0) + 0) + 1) + 2 ≤ 16; omega), (by show ((((slots + 0) + 0) + 0) + 3) + 32 ≤ 192; omega)⟩)
  dsimp only [Pt.U, Pt.locs, Pt.cells, Pt.slots] at X9 l9 y9 z9 st9 hQ9
  replace y9 := y9.symm; replace z9 := z9.symm; subst l9 y9 z9
  obtain ⟨h9, e9⟩ : ∃ z, T9.heap = z := ⟨_, rfl⟩
  rw [e9] at hQ9
  obtain ⟨b28_0, b28_1, rfl, N9q, K9q, zn9_0, zn9_1, on9_0, E_b24_9, F_b24_keys_9, F_b24_values_9, F_b24_size_9, A_b28_0_9, A_b28_1_9⟩ := hQ9
  have N9 := Fr.app N5 N9q
  have pn9 : @LT.lt Nat instLTNat b24 b28_0 := by have : @LT.lt Nat instLTNat _ _ := E_b24_8.lt; omega
  have sn9_0 : n0 ≤ b28_0 := by omega
  have sn9_1 : n0 ≤ b28_1 := by omega
  have zz9 : n0 ≤ h9.size := Nat.le_trans zz8 K9q.1
  refine Runs.via (T' := T9) (g' := (mkF m 31 #[.val (.long y0), .second, .val (.long y2), .second, .val (.long y4), .second, .val (.int x6), .val (.int x7), .val (.int x8), .val (.long v2), .second, .val (.long v4), .second, .val (.long v6), .second, .val (.long v7), .second, .unset, .unset, .unset, .unset, .unset, .unset, .unset] [(.ref b24)])) (fun t k => st9.trans k) ?_
  refine Runs.via (T' := T9) (g' := (mkF m 37 #[.val (.long y0), .second, .val (.long y2), .second, .val (.long y4), .second, .val (.int x6), .val (.int x7), .val (.int x8), .val (.long v2), .second, .val (.long v4), .second, .val (.long v6), .second, .val (.long v7), .second, .val (.ref b24), .unset, .unset, .unset, .unset, .unset, .unset] [(.long v7), (.ref b24)])) (fun t k => ?_) ?_
  · show Steps p.tables e below (T9.setTop (mkF m 31 #[.val (.long y0), .second, .val (.long y2), .second, .val (.long y4), .second, .val (.int x6), .val (.int x7), .val (.int x8), .val (.long v2), .second, .val (.long v4), .second, .val (.long v6), .second, .val (.long v7), .second, .unset, .unset, .unset, .unset, .unset, .unset, .unset] [(.ref b24)])) t
    refine XS.astore X9.here hx rfl (hb hby at_31) rfl rfl (l' := #[.val (.long y0), .second, .val (.long y2), .second, .val (.long y4), .second, .val (.int x6), .val (.int x7), .val (.int x8), .val (.long v2), .second, .val (.long v4), .second, .val (.long v6), .second, .val (.long v7), .second, .val (.ref b24), .unset, .unset, .unset, .unset, .unset, .unset]) rfl ?_
    show Steps p.tables e below (T9.setTop (mkF m 33 #[.val (.long y0), .second, .val (.long y2), .second, .val (.long y4), .second, .val (.int x6), .val (.int x7), .val (.int x8), .val (.long v2), .second, .val (.long v4), .second, .val (.long v6), .second, .val (.long v7), .second, .val (.ref b24), .unset, .unset, .unset, .unset, .unset, .unset] [])) t
    refine XS.aload X9.here hx rfl (hb hby at_33) rfl rfl ?_
    show Steps p.tables e below (T9.setTop (mkF m 35 #[.val (.long y0), .second, .val (.long y2), .second, .val (.long y4), .second, .val (.int x6), .val (.int x7), .val (.int x8), .val (.long v2), .second, .val (.long v4), .second, .val (.long v6), .second, .val (.long v7), .second, .val (.ref b24), .unset, .unset, .unset, .unset, .unset, .unset] [(.ref b24)])) t
    refine XS.lload X9.here hx rfl (hb hby at_35) rfl ?_
    exact k
  refine bindE hr ?_; intro r10 hr10m hr
  obtain ⟨cq10, kq10, q10a, q10b, q10c⟩ := isOf hZ e9 E_b24_9
  obtain ⟨_, _, ⟨T10, L10, k10, n10⟩, -, X10, ⟨Lc10, hQ10, l10, y10, z10⟩, st10⟩ := X9.virtualBack hx (y := (⟨"com/example/mopor/mopor/reduction/LongIntTable", "get", "(J)I"⟩ : MethodName)) (z := (⟨"com/example/mopor/mopor/reduction/LongIntTable", "get", "(J)I"⟩ : MethodName)) hown (mvT hZ (hw _ (List.mem_of_getElem? (i := 28) rfl))) (mvT hZ (hw _ (List.mem_of_getElem? (i := 29) rfl))) (notFace_of_selects (args := #[]) (mvT hZ (hw _ (List.mem_of_getElem? (i := 31) rfl)))) (mvT hZ (hw _ (List.mem_of_getElem? (i := 31) rfl))) (mvT hZ (hw _ (List.mem_of_getElem? (i := 30) rfl))) (by decide) (backOf (W := 0) (rm6 l Z a0 hw [] v7 b24 b28_0 b28_1 (0 : Int32) r9.1 r9.2 h9 n0 zz9 (by omega) (by omega) (by omega) E_b24_9 F_b24_keys_9 F_b24_values_9 F_b24_size_9 A_b28_0_9 A_b28_1_9 fuel r10 hr10m) hZ (hw _ (List.mem_of_getElem? (i := 32) rfl)) (hw _ (List.mem_of_getElem? (i := 7) rfl)) (by decide) (by decide)) q10a q10c (g := (mkF m 37 #[.val (.long y0), .second, .val (.long y2), .second, .val (.long y4), .second, .val (.int x6), .val (.int x7), .val (.int x8), .val (.long v2), .second, .val (.long v4), .second, .val (.long v6), .second, .val (.long v7), .second, .val (.ref b24), .unset, .unset, .unset, .unset, .unset, .unset] [(.long v7), (.ref b24)])) rfl (by rw [hml]; rfl) (Steps.refl _) (argsL := [(.long v7)]) (rest := []) (lenOf pd_5 rfl) rfl (by show 2 * 0 + _ ≤ _; exact Nat.le_of_eq rfl) (hb hby at_37) (fun _ _ => ⟨rfl, e9, (by show (((((cells + 0) + 0) + 0) + 1) + 2) + 0 ≤ 16; omega), (by show (((((slots + 0) + 0) + 0) + 3) + 32) + 0 ≤ 192; omega)⟩)
  dsimp only [Pt.U, Pt.locs, Pt.cells, Pt.slots] at X10 l10 y10 z10 st10 hQ10
  replace y10 := y10.symm; replace z10 := z10.symm; subst l10 y10 z10
  obtain ⟨rfl, N10q, e10⟩ := hQ10
  have N10 := Fr.app N9 N10q
  refine Runs.via (T' := T10) (g' := (mkF m 40 #[.val (.long y0), .second, .val (.long y2), .second, .val (.long y4), .second, .val (.int x6), .val (.int x7), .val (.int x8), .val (.long v2), .second, .val (.long v4), .second, .val (.long v6), .second, .val (.long v7), .second, .val (.ref b24), .unset, .unset, .unset, .unset, .unset, .unset] [(.int r10)])) (fun t k => st10.trans k) ?_
  refine Runs.via (T' := T10) (g' := (mkF m 48 #[.val (.long y0), .second, .val (.long y2), .second, .val (.long y4), .second, .val (.int x6), .val (.int x7), .val (.int x8), .val (.long v2), .second, .val (.long v4), .second, .val (.long v6), .second, .val (.long v7), .second, .val (.ref b24), .val (.int r10), .unset, .unset, .unset, .unset, .unset] [(.int x6), (.long v2), (.ref b24)])) (fun t k => ?_) ?_
  · show Steps p.tables e below (T10.setTop (mkF m 40 #[.val (.long y0), .second, .val (.long y2), .second, .val (.long y4), .second, .val (.int x6), .val (.int x7), .val (.int x8), .val (.long v2), .second, .val (.long v4), .second, .val (.long v6), .second, .val (.long v7), .second, .val (.ref b24), .unset, .unset, .unset, .unset, .unset, .unset] [(.int r10)])) t
    refine XS.istore X10.here hx rfl (hb hby at_40) rfl (l' := #[.val (.long y0), .second, .val (.long y2), .second, .val (.long y4), .second, .val (.int x6), .val (.int x7), .val (.int x8), .val (.long v2), .second, .val (.long v4), .second, .val (.long v6), .second, .val (.long v7), .second, .val (.ref b24), .val (.int r10), .unset, .unset, .unset, .unset, .unset]) rfl ?_
    show Steps p.tables e below (T10.setTop (mkF m 42 #[.val (.long y0), .second, .val (.long y2), .second, .val (.long y4), .second, .val (.int x6), .val (.int x7), .val (.int x8), .val (.long v2), .second, .val (.long v4), .second, .val (.long v6), .second, .val (.long v7), .second, .val (.ref b24), .val (.int r10), .unset, .unset, .unset, .unset, .unset] [])) t
    refine XS.aload X10.here hx rfl (hb hby at_42) rfl rfl ?_
    show Steps p.tables e below (T10.setTop (mkF m 44 #[.val (.long y0), .second, .val (.long y2), .second, .val (.long y4), .second, .val (.int x6), .val (.int x7), .val (.int x8), .val (.long v2), .second, .val (.long v4), .second, .val (.long v6), .second, .val (.long v7), .second, .val (.ref b24), .val (.int r10), .unset, .unset, .unset, .unset, .unset] [(.ref b24)])) t
    refine XS.lload X10.here hx rfl (hb hby at_44) rfl ?_
    show Steps p.tables e below (T10.setTop (mkF m 46 #[.val (.long y0), .second, .val (.long y2), .second, .val (.long y4), .second, .val (.int x6), .val (.int x7), .val (.int x8), .val (.long v2), .second, .val (.long v4), .second, .val (.long v6), .second, .val (.long v7), .second, .val (.ref b24), .val (.int r10), .unset, .unset, .unset, .unset, .unset] [(.long v2), (.ref b24)])) t
    refine XS.iload X10.here hx rfl (hb hby at_46) rfl ?_
    exact k
  refine bindE hr ?_; intro r11 hr11m hr
  obtain ⟨cq11, kq11, q11a, q11b, q11c⟩ := isOf hZ e10 E_b24_9
  obtain ⟨_, _, ⟨T11, L11, k11, n11⟩, -, X11, ⟨Lc11, hQ11, l11, y11, z11⟩, st11⟩ := X10.virtualBack hx (y := (⟨"com/example/mopor/mopor/reduction/LongIntTable", "add", "(JI)Z"⟩ : MethodName)) (z := (⟨"com/example/mopor/mopor/reduction/LongIntTable", "add", "(JI)Z"⟩ : MethodName)) hown (mvT hZ (hw _ (List.mem_of_getElem? (i := 37) rfl))) (mvT hZ (hw _ (List.mem_of_getElem? (i := 38) rfl))) (notFace_of_selects (args := #[]) (mvT hZ (hw _ (List.mem_of_getElem? (i := 40) rfl)))) (mvT hZ (hw _ (List.mem_of_getElem? (i := 40) rfl))) (mvT hZ (hw _ (List.mem_of_getElem? (i := 39) rfl))) (by decide) (backOf (W := 0) (rm8 l Z a0 hw [] v2 x6 b24 b28_0 b28_1 (0 : Int32) r9.1 r9.2 h9 n0 zz9 (by omega) (by omega) (by omega) E_b24_9 F_b24_keys_9 F_b24_values_9 F_b24_size_9 A_b28_0_9 A_b28_1_9 fuel r11 hr11m) hZ (hw _ (List.mem_of_getElem? (i := 41) rfl)) (hw _ (List.mem_of_getElem? (i := 7) rfl)) (by decide) (by decide)) q11a q11c (g := (mkF m 48 #[.val (.long y0), .second, .val (.long y2), .second, .val (.long y4), .second, .val (.int x6), .val (.int x7), .val (.int x8), .val (.long v2), .second, .val (.long v4), .second, .val (.long v6), .second, .val (.long v7), .second, .val (.ref b24), .val (.int r10), .unset, .unset, .unset, .unset, .unset] [(.int x6), (.long v2), (.ref b24)])) rfl (by rw [hml]; rfl) (Steps.refl _) (argsL := [(.long v2), (.int x6)]) (rest := []) (lenOf pd_6 rfl) rfl (by show 2 * 0 + _ ≤ _; exact Nat.le_of_eq rfl) (hb hby at_48) (fun _ _ => ⟨rfl, e10, (by show ((((((cells + 0) + 0) + 0) + 1) + 2) + 0) + 0 ≤ 16; omega), (by show ((((((slots + 0) + 0) + 0) + 3) + 32) + 0) + 0 ≤ 192; omega)⟩)
  dsimp only [Pt.U, Pt.locs, Pt.cells, Pt.slots] at X11 l11 y11 z11 st11 hQ11
  replace y11 := y11.symm; replace z11 := z11.symm; subst l11 y11 z11
  obtain ⟨h11, e11⟩ : ∃ z, T11.heap = z := ⟨_, rfl⟩
  rw [e11] at hQ11
  obtain ⟨rfl, N11q, K11q, E_b24_11, F_b24_keys_11, F_b24_values_11, F_b24_size_11, A_b28_0_11, A_b28_1_11⟩ := hQ11
  have N11 := Fr.app N10 N11q
  have zz11 : n0 ≤ h11.size := Nat.le_trans zz9 K11q.1
  refine Runs.via (T' := T11) (g' := (mkF m 51 #[.val (.long y0), .second, .val (.long y2), .second, .val (.long y4), .second, .val (.int x6), .val (.int x7), .val (.int x8), .val (.long v2), .second, .val (.long v4), .second, .val (.long v6), .second, .val (.long v7), .second, .val (.ref b24), .val (.int r10), .unset, .unset, .unset, .unset, .unset] [(.int r11.1)])) (fun t k => st11.trans k) ?_
  refine Runs.via (T' := T11) (g' := (mkF m 58 #[.val (.long y0), .second, .val (.long y2), .second, .val (.long y4), .second, .val (.int x6), .val (.int x7), .val (.int x8), .val (.long v2), .second, .val (.long v4), .second, .val (.long v6), .second, .val (.long v7), .second, .val (.ref b24), .val (.int r10), .unset, .unset, .unset, .unset, .unset] [(.int x7), (.long v4), (.ref b24)])) (fun t k => ?_) ?_
  · show Steps p.tables e below (T11.setTop (mkF m 51 #[.val (.long y0), .second, .val (.long y2), .second, .val (.long y4), .second, .val (.int x6), .val (.int x7), .val (.int x8), .val (.long v2), .second, .val (.long v4), .second, .val (.long v6), .second, .val (.long v7), .second, .val (.ref b24), .val (.int r10), .unset, .unset, .unset, .unset, .unset] [(.int r11.1)])) t
    refine XS.pop X11.here hx rfl (hb hby at_51) rfl rfl ?_
    show Steps p.tables e below (T11.setTop (mkF m 52 #[.val (.long y0), .second, .val (.long y2), .second, .val (.long y4), .second, .val (.int x6), .val (.int x7), .val (.int x8), .val (.long v2), .second, .val (.long v4), .second, .val (.long v6), .second, .val (.long v7), .second, .val (.ref b24), .val (.int r10), .unset, .unset, .unset, .unset, .unset] [])) t
    refine XS.aload X11.here hx rfl (hb hby at_52) rfl rfl ?_
    show Steps p.tables e below (T11.setTop (mkF m 54 #[.val (.long y0), .second, .val (.long y2), .second, .val (.long y4), .second, .val (.int x6), .val (.int x7), .val (.int x8), .val (.long v2), .second, .val (.long v4), .second, .val (.long v6), .second, .val (.long v7), .second, .val (.ref b24), .val (.int r10), .unset, .unset, .unset, .unset, .unset] [(.ref b24)])) t
    refine XS.lload X11.here hx rfl (hb hby at_54) rfl ?_
    show Steps p.tables e below (T11.setTop (mkF m 56 #[.val (.long y0), .second, .val (.long y2), .second, .val (.long y4), .second, .val (.int x6), .val (.int x7), .val (.int x8), .val (.long v2), .second, .val (.long v4), .second, .val (.long v6), .second, .val (.long v7), .second, .val (.ref b24), .val (.int r10), .unset, .unset, .unset, .unset, .unset] [(.long v4), (.ref b24)])) t
    refine XS.iload X11.here hx rfl (hb hby at_56) rfl ?_
    exact k
  refine bindE hr ?_; intro r12 hr12m hr
  obtain ⟨cq12, kq12, q12a, q12b, q12c⟩ := isOf hZ e11 E_b24_11
  obtain ⟨_, _, ⟨T12, L12, k12, n12⟩, -, X12, ⟨Lc12, hQ12, l12, y12, z12⟩, st12⟩ := X11.virtualBack hx (y := (⟨"com/example/mopor/mopor/reduction/LongIntTable", "add", "(JI)Z"⟩ : MethodName)) (z := (⟨"com/example/mopor/mopor/reduction/LongIntTable", "add", "(JI)Z"⟩ : MethodName)) hown (mvT hZ (hw _ (List.mem_of_getElem? (i := 37) rfl))) (mvT hZ (hw _ (List.mem_of_getElem? (i := 38) rfl))) (notFace_of_selects (args := #[]) (mvT hZ (hw _ (List.mem_of_getElem? (i := 40) rfl)))) (mvT hZ (hw _ (List.mem_of_getElem? (i := 40) rfl))) (mvT hZ (hw _ (List.mem_of_getElem? (i := 39) rfl))) (by decide) (backOf (W := 0) (rm8 l Z a0 hw [] v4 x7 b24 b28_0 b28_1 r11.2.1 r11.2.2.1 r11.2.2.2 h11 n0 zz11 (by omega) (by omega) (by omega) E_b24_11 F_b24_keys_11 F_b24_values_11 F_b24_size_11 A_b28_0_11 A_b28_1_11 fuel r12 hr12m) hZ (hw _ (List.mem_of_getElem? (i := 41) rfl)) (hw _ (List.mem_of_getElem? (i := 7) rfl)) (by decide) (by decide)) q12a q12c (g := (mkF m 58 #[.val (.long y0), .second, .val (.long y2), .second, .val (.long y4), .second, .val (.int x6), .val (.int x7), .val (.int x8), .val (.long v2), .second, .val (.long v4), .second, .val (.long v6), .second, .val (.long v7), .second, .val (.ref b24), .val (.int r10), .unset, .unset, .unset, .unset, .unset] [(.int x7), (.long v4), (.ref b24)])) rfl (by rw [hml]; rfl) (Steps.refl _) (argsL := [(.long v4), (.int x7)]) (rest := []) (lenOf pd_6 rfl) rfl (by show 2 * 0 + _ ≤ _; exact Nat.le_of_eq rfl) (hb hby at_58) (fun _ _ => ⟨rfl, e11, (by show (((((((cells + 0) + 0) + 0) + 1) + 2) + 0) + 0) + 0 ≤ 16; omega), (by show (((((((slots + 0) + 0) + 0) + 3) + 32) + 0) + 0) + 0 ≤ 192; omega)⟩)
  dsimp only [Pt.U, Pt.locs, Pt.cells, Pt.slots] at X12 l12 y12 z12 st12 hQ12
  replace y12 := y12.symm; replace z12 := z12.symm; subst l12 y12 z12
  obtain ⟨h12, e12⟩ : ∃ z, T12.heap = z := ⟨_, rfl⟩
  rw [e12] at hQ12
  obtain ⟨rfl, N12q, K12q, E_b24_12, F_b24_keys_12, F_b24_values_12, F_b24_size_12, A_b28_0_12, A_b28_1_12⟩ := hQ12
  have N12 := Fr.app N11 N12q
  have zz12 : n0 ≤ h12.size := Nat.le_trans zz11 K12q.1
  refine Runs.via (T' := T12) (g' := (mkF m 61 #[.val (.long y0), .second, .val (.long y2), .second, .val (.long y4), .second, .val (.int x6), .val (.int x7), .val (.int x8), .val (.long v2), .second, .val (.long v4), .second, .val (.long v6), .second, .val (.long v7), .second, .val (.ref b24), .val (.int r10), .unset, .unset, .unset, .unset, .unset] [(.int r12.1)])) (fun t k => st12.trans k) ?_
  refine Runs.via (T' := T12) (g' := (mkF m 68 #[.val (.long y0), .second, .val (.long y2), .second, .val (.long y4), .second, .val (.int x6), .val (.int x7), .val (.int x8), .val (.long v2), .second, .val (.long v4), .second, .val (.long v6), .second, .val (.long v7), .second, .val (.ref b24), .val (.int r10), .unset, .unset, .unset, .unset, .unset] [(.int x8), (.long v6), (.ref b24)])) (fun t k => ?_) ?_
  · show Steps p.tables e below (T12.setTop (mkF m 61 #[.val (.long y0), .second, .val (.long y2), .second, .val (.long y4), .second, .val (.int x6), .val (.int x7), .val (.int x8), .val (.long v2), .second, .val (.long v4), .second, .val (.long v6), .second, .val (.long v7), .second, .val (.ref b24), .val (.int r10), .unset, .unset, .unset, .unset, .unset] [(.int r12.1)])) t
    refine XS.pop X12.here hx rfl (hb hby at_61) rfl rfl ?_
    show Steps p.tables e below (T12.setTop (mkF m 62 #[.val (.long y0), .second, .val (.long y2), .second, .val (.long y4), .second, .val (.int x6), .val (.int x7), .val (.int x8), .val (.long v2), .second, .val (.long v4), .second, .val (.long v6), .second, .val (.long v7), .second, .val (.ref b24), .val (.int r10), .unset, .unset, .unset, .unset, .unset] [])) t
    refine XS.aload X12.here hx rfl (hb hby at_62) rfl rfl ?_
    show Steps p.tables e below (T12.setTop (mkF m 64 #[.val (.long y0), .second, .val (.long y2), .second, .val (.long y4), .second, .val (.int x6), .val (.int x7), .val (.int x8), .val (.long v2), .second, .val (.long v4), .second, .val (.long v6), .second, .val (.long v7), .second, .val (.ref b24), .val (.int r10), .unset, .unset, .unset, .unset, .unset] [(.ref b24)])) t
    refine XS.lload X12.here hx rfl (hb hby at_64) rfl ?_
    show Steps p.tables e below (T12.setTop (mkF m 66 #[.val (.long y0), .second, .val (.long y2), .second, .val (.long y4), .second, .val (.int x6), .val (.int x7), .val (.int x8), .val (.long v2), .second, .val (.long v4), .second, .val (.long v6), .second, .val (.long v7), .second, .val (.ref b24), .val (.int r10), .unset, .unset, .unset, .unset, .unset] [(.long v6), (.ref b24)])) t
    refine XS.iload X12.here hx rfl (hb hby at_66) rfl ?_
    exact k
  refine bindE hr ?_; intro r13 hr13m hr
  obtain ⟨cq13, kq13, q13a, q13b, q13c⟩ := isOf hZ e12 E_b24_12
  obtain ⟨_, _, ⟨T13, L13, k13, n13⟩, -, X13, ⟨Lc13, hQ13, l13, y13, z13⟩, st13⟩ := X12.virtualBack hx (y := (⟨"com/example/mopor/mopor/reduction/LongIntTable", "add", "(JI)Z"⟩ : MethodName)) (z := (⟨"com/example/mopor/mopor/reduction/LongIntTable", "add", "(JI)Z"⟩ : MethodName)) hown (mvT hZ (hw _ (List.mem_of_getElem? (i := 37) rfl))) (mvT hZ (hw _ (List.mem_of_getElem? (i := 38) rfl))) (notFace_of_selects (args := #[]) (mvT hZ (hw _ (List.mem_of_getElem? (i := 40) rfl)))) (mvT hZ (hw _ (List.mem_of_getElem? (i := 40) rfl))) (mvT hZ (hw _ (List.mem_of_getElem? (i := 39) rfl))) (by decide) (backOf (W := 0) (rm8 l Z a0 hw [] v6 x8 b24 b28_0 b28_1 r12.2.1 r12.2.2.1 r12.2.2.2 h12 n0 zz12 (by omega) (by omega) (by omega) E_b24_12 F_b24_keys_12 F_b24_values_12 F_b24_size_12 A_b28_0_12 A_b28_1_12 fuel r13 hr13m) hZ (hw _ (List.mem_of_getElem? (i := 41) rfl)) (hw _ (List.mem_of_getElem? (i := 7) rfl)) (by decide) (by decide)) q13a q13c (g := (mkF m 68 #[.val (.long y0), .second, .val (.long y2), .second, .val (.long y4), .second, .val (.int x6), .val (.int x7), .val (.int x8), .val (.long v2), .second, .val (.long v4), .second, .val (.long v6), .second, .val (.long v7), .second, .val (.ref b24), .val (.int r10), .unset, .unset, .unset, .unset, .unset] [(.int x8), (.long v6), (.ref b24)])) rfl (by rw [hml]; rfl) (Steps.refl _) (argsL := [(.long v6), (.int x8)]) (rest := []) (lenOf pd_6 rfl) rfl (by show 2 * 0 + _ ≤ _; exact Nat.le_of_eq rfl) (hb hby at_68) (fun _ _ => ⟨rfl, e12, (by show ((((((((cells + 0) + 0) + 0) + 1) + 2) + 0) + 0) + 0) + 0 ≤ 16; omega), (by show ((((((((slots + 0) + 0) + 0) + 3) + 32) + 0) + 0) + 0) + 0 ≤ 192; omega)⟩)
  dsimp only [Pt.U, Pt.locs, Pt.cells, Pt.slots] at X13 l13 y13 z13 st13 hQ13
  replace y13 := y13.symm; replace z13 := z13.symm; subst l13 y13 z13
  obtain ⟨h13, e13⟩ : ∃ z, T13.heap = z := ⟨_, rfl⟩
  rw [e13] at hQ13
  obtain ⟨rfl, N13q, K13q, E_b24_13, F_b24_keys_13, F_b24_values_13, F_b24_size_13, A_b28_0_13, A_b28_1_13⟩ := hQ13
  have N13 := Fr.app N12 N13q
  have zz13 : n0 ≤ h13.size := Nat.le_trans zz12 K13q.1
  refine Runs.via (T' := T13) (g' := (mkF m 71 #[.val (.long y0), .second, .val (.long y2), .second, .val (.long y4), .second, .val (.int x6), .val (.int x7), .val (.int x8), .val (.long v2), .second, .val (.long v4), .second, .val (.long v6), .second, .val (.long v7), .second, .val (.ref b24), .val (.int r10), .unset, .unset, .unset, .unset, .unset] [(.int r13.1)])) (fun t k => st13.trans k) ?_
  refine Runs.via (T' := T13) (g' := (mkF m 76 #[.val (.long y0), .second, .val (.long y2), .second, .val (.long y4), .second, .val (.int x6), .val (.int x7), .val (.int x8), .val (.long v2), .second, .val (.long v4), .second, .val (.long v6), .second, .val (.long v7), .second, .val (.ref b24), .val (.int r10), .unset, .unset, .unset, .unset, .unset] [(.long v2), (.ref b24)])) (fun t k => ?_) ?_
  · show Steps p.tables e below (T13.setTop (mkF m 71 #[.val (.long y0), .second, .val (.long y2), .second, .val (.long y4), .second, .val (.int x6), .val (.int x7), .val (.int x8), .val (.long v2), .second, .val (.long v4), .second, .val (.long v6), .second, .val (.long v7), .second, .val (.ref b24), .val (.int r10), .unset, .unset, .unset, .unset, .unset] [(.int r13.1)])) t
    refine XS.pop X13.here hx rfl (hb hby at_71) rfl rfl ?_
    show Steps p.tables e below (T13.setTop (mkF m 72 #[.val (.long y0), .second, .val (.long y2), .second, .val (.long y4), .second, .val (.int x6), .val (.int x7), .val (.int x8), .val (.long v2), .second, .val (.long v4), .second, .val (.long v6), .second, .val (.long v7), .second, .val (.ref b24), .val (.int r10), .unset, .unset, .unset, .unset, .unset] [])) t
    refine XS.aload X13.here hx rfl (hb hby at_72) rfl rfl ?_
    show Steps p.tables e below (T13.setTop (mkF m 74 #[.val (.long y0), .second, .val (.long y2), .second, .val (.long y4), .second, .val (.int x6), .val (.int x7), .val (.int x8), .val (.long v2), .second, .val (.long v4), .second, .val (.long v6), .second, .val (.long v7), .second, .val (.ref b24), .val (.int r10), .unset, .unset, .unset, .unset, .unset] [(.ref b24)])) t
    refine XS.lload X13.here hx rfl (hb hby at_74) rfl ?_
    exact k
  refine bindE hr ?_; intro r14 hr14m hr
  obtain ⟨cq14, kq14, q14a, q14b, q14c⟩ := isOf hZ e13 E_b24_13
  obtain ⟨_, _, ⟨T14, L14, k14, n14⟩, -, X14, ⟨Lc14, hQ14, l14, y14, z14⟩, st14⟩ := X13.virtualBack hx (y := (⟨"com/example/mopor/mopor/reduction/LongIntTable", "get", "(J)I"⟩ : MethodName)) (z := (⟨"com/example/mopor/mopor/reduction/LongIntTable", "get", "(J)I"⟩ : MethodName)) hown (mvT hZ (hw _ (List.mem_of_getElem? (i := 28) rfl))) (mvT hZ (hw _ (List.mem_of_getElem? (i := 29) rfl))) (notFace_of_selects (args := #[]) (mvT hZ (hw _ (List.mem_of_getElem? (i := 31) rfl)))) (mvT hZ (hw _ (List.mem_of_getElem? (i := 31) rfl))) (mvT hZ (hw _ (List.mem_of_getElem? (i := 30) rfl))) (by decide) (backOf (W := 0) (rm6 l Z a0 hw [] v2 b24 b28_0 b28_1 r13.2.1 r13.2.2.1 r13.2.2.2 h13 n0 zz13 (by omega) (by omega) (by omega) E_b24_13 F_b24_keys_13 F_b24_values_13 F_b24_size_13 A_b28_0_13 A_b28_1_13 fuel r14 hr14m) hZ (hw _ (List.mem_of_getElem? (i := 32) rfl)) (hw _ (List.mem_of_getElem? (i := 7) rfl)) (by decide) (by decide)) q14a q14c (g := (mkF m 76 #[.val (.long y0), .second, .val (.long y2), .second, .val (.long y4), .second, .val (.int x6), .val (.int x7), .val (.int x8), .val (.long v2), .second, .val (.long v4), .second, .val (.long v6), .second, .val (.long v7), .second, .val (.ref b24), .val (.int r10), .unset, .unset, .unset, .unset, .unset] [(.long v2), (.ref b24)])) rfl (by rw [hml]; rfl) (Steps.refl _) (argsL := [(.long v2)]) (rest := []) (lenOf pd_5 rfl) rfl (by show 2 * 0 + _ ≤ _; exact Nat.le_of_eq rfl) (hb hby at_76) (fun _ _ => ⟨rfl, e13, (by show (((((((((cells + 0) + 0) + 0) + 1) + 2) + 0) + 0) + 0) + 0) + 0 ≤ 16; omega), (by show (((((((((slots + 0) + 0) + 0) + 3) + 32) + 0) + 0) + 0) + 0) + 0 ≤ 192; omega)⟩)
  dsimp only [Pt.U, Pt.locs, Pt.cells, Pt.slots] at X14 l14 y14 z14 st14 hQ14
  replace y14 := y14.symm; replace z14 := z14.symm; subst l14 y14 z14
  obtain ⟨rfl, N14q, e14⟩ := hQ14
  have N14 := Fr.app N13 N14q
  refine Runs.via (T' := T14) (g' := (mkF m 79 #[.val (.long y0), .second, .val (.long y2), .second, .val (.long y4), .second, .val (.int x6), .val (.int x7), .val (.int x8), .val (.long v2), .second, .val (.long v4), .second, .val (.long v6), .second, .val (.long v7), .second, .val (.ref b24), .val (.int r10), .unset, .unset, .unset, .unset, .unset] [(.int r14)])) (fun t k => st14.trans k) ?_
  refine Runs.via (T' := T14) (g' := (mkF m 85 #[.val (.long y0), .second, .val (.long y2), .second, .val (.long y4), .second, .val (.int x6), .val (.int x7), .val (.int x8), .val (.long v2), .second, .val (.long v4), .second, .val (.long v6), .second, .val (.long v7), .second, .val (.ref b24), .val (.int r10), .val (.int r14), .unset, .unset, .unset, .unset] [(.long v4), (.ref b24)])) (fun t k => ?_) ?_
  · show Steps p.tables e below (T14.setTop (mkF m 79 #[.val (.long y0), .second, .val (.long y2), .second, .val (.long y4), .second, .val (.int x6), .val (.int x7), .val (.int x8), .val (.long v2), .second, .val (.long v4), .second, .val (.long v6), .second, .val (.long v7), .second, .val (.ref b24), .val (.int r10), .unset, .unset, .unset, .unset, .unset] [(.int r14)])) t
    refine XS.istore X14.here hx rfl (hb hby at_79) rfl (l' := #[.val (.long y0), .second, .val (.long y2), .second, .val (.long y4), .second, .val (.int x6), .val (.int x7), .val (.int x8), .val (.long v2), .second, .val (.long v4), .second, .val (.long v6), .second, .val (.long v7), .second, .val (.ref b24), .val (.int r10), .val (.int r14), .unset, .unset, .unset, .unset]) rfl ?_
    show Steps p.tables e below (T14.setTop (mkF m 81 #[.val (.long y0), .second, .val (.long y2), .second, .val (.long y4), .second, .val (.int x6), .val (.int x7), .val (.int x8), .val (.long v2), .second, .val (.long v4), .second, .val (.long v6), .second, .val (.long v7), .second, .val (.ref b24), .val (.int r10), .val (.int r14), .unset, .unset, .unset, .unset] [])) t
    refine XS.aload X14.here hx rfl (hb hby at_81) rfl rfl ?_
    show Steps p.tables e below (T14.setTop (mkF m 83 #[.val (.long y0), .second, .val (.long y2), .second, .val (.long y4), .second, .val (.int x6), .val (.int x7), .val (.int x8), .val (.long v2), .second, .val (.long v4), .second, .val (.long v6), .second, .val (.long v7), .second, .val (.ref b24), .val (.int r10), .val (.int r14), .unset, .unset, .unset, .unset] [(.ref b24)])) t
    refine XS.lload X14.here hx rfl (hb hby at_83) rfl ?_
    exact k
  refine bindE hr ?_; intro r15 hr15m hr
  obtain ⟨cq15, kq15, q15a, q15b, q15c⟩ := isOf hZ e14 E_b24_13
  obtain ⟨_, _, ⟨T15, L15, k15, n15⟩, -, X15, ⟨Lc15, hQ15, l15, y15, z15⟩, st15⟩ := X14.virtualBack hx (y := (⟨"com/example/mopor/mopor/reduction/LongIntTable", "get", "(J)I"⟩ : MethodName)) (z := (⟨"com/example/mopor/mopor/reduction/LongIntTable", "get", "(J)I"⟩ : MethodName)) hown (mvT hZ (hw _ (List.mem_of_getElem? (i := 28) rfl))) (mvT hZ (hw _ (List.mem_of_getElem? (i := 29) rfl))) (notFace_of_selects (args := #[]) (mvT hZ (hw _ (List.mem_of_getElem? (i := 31) rfl)))) (mvT hZ (hw _ (List.mem_of_getElem? (i := 31) rfl))) (mvT hZ (hw _ (List.mem_of_getElem? (i := 30) rfl))) (by decide) (backOf (W := 0) (rm6 l Z a0 hw [] v4 b24 b28_0 b28_1 r13.2.1 r13.2.2.1 r13.2.2.2 h13 n0 zz13 (by omega) (by omega) (by omega) E_b24_13 F_b24_keys_13 F_b24_values_13 F_b24_size_13 A_b28_0_13 A_b28_1_13 fuel r15 hr15m) hZ (hw _ (List.mem_of_getElem? (i := 32) rfl)) (hw _ (List.mem_of_getElem? (i := 7) rfl)) (by decide) (by decide)) q15a q15c (g := (mkF m 85 #[.val (.long y0), .second, .val (.long y2), .second, .val (.long y4), .second, .val (.int x6), .val (.int x7), .val (.int x8), .val (.long v2), .second, .val (.long v4), .second, .val (.long v6), .second, .val (.long v7), .second, .val (.ref b24), .val (.int r10), .val (.int r14), .unset, .unset, .unset, .unset] [(.long v4), (.ref b24)])) rfl (by rw [hml]; rfl) (Steps.refl _) (argsL := [(.long v4)]) (rest := []) (lenOf pd_5 rfl) rfl (by show 2 * 0 + _ ≤ _; exact Nat.le_of_eq rfl) (hb hby at_85) (fun _ _ => ⟨rfl, e14, (by show ((((((((((cells + 0) + 0) + 0) + 1) + 2) + 0) + 0) + 0) + 0) + 0) + 0 ≤ 16; omega), (by show ((((((((((slots + 0) + 0) + 0) + 3) + 32) + 0) + 0) + 0) + 0) + 0) + 0 ≤ 192; omega)⟩)
  dsimp only [Pt.U, Pt.locs, Pt.cells, Pt.slots] at X15 l15 y15 z15 st15 hQ15
  replace y15 := y15.symm; replace z15 := z15.symm; subst l15 y15 z15
  obtain ⟨rfl, N15q, e15⟩ := hQ15
  have N15 := Fr.app N14 N15q
  refine Runs.via (T' := T15) (g' := (mkF m 88 #[.val (.long y0), .second, .val (.long y2), .second, .val (.long y4), .second, .val (.int x6), .val (.int x7), .val (.int x8), .val (.long v2), .second, .val (.long v4), .second, .val (.long v6), .second, .val (.long v7), .second, .val (.ref b24), .val (.int r10), .val (.int r14), .unset, .unset, .unset, .unset] [(.int r15)])) (fun t k => st15.trans k) ?_
  refine Runs.via (T' := T15) (g' := (mkF m 94 #[.val (.long y0), .second, .val (.long y2), .second, .val (.long y4), .second, .val (.int x6), .val (.int x7), .val (.int x8), .val (.long v2), .second, .val (.long v4), .second, .val (.long v6), .second, .val (.long v7), .second, .val (.ref b24), .val (.int r10), .val (.int r14), .val (.int r15), .unset, .unset, .unset] [(.long v6), (.ref b24)])) (fun t k => ?_) ?_
  · show Steps p.tables e below (T15.setTop (mkF m 88 #[.val (.long y0), .second, .val (.long y2), .second, .val (.long y4), .second, .val (.int x6), .val (.int x7), .val (.int x8), .val (.long v2), .second, .val (.long v4), .second, .val (.long v6), .second, .val (.long v7), .second, .val (.ref b24), .val (.int r10), .val (.int r14), .unset, .unset, .unset, .unset] [(.int r15)])) t
    refine XS.istore X15.here hx rfl (hb hby at_88) rfl (l' := #[.val (.long y0), .second, .val (.long y2), .second, .val (.long y4), .second, .val (.int x6), .val (.int x7), .val (.int x8), .val (.long v2), .second, .val (.long v4), .second, .val (.long v6), .second, .val (.long v7), .second, .val (.ref b24), .val (.int r10), .val (.int r14), .val (.int r15), .unset, .unset, .unset]) rfl ?_
    show Steps p.tables e below (T15.setTop (mkF m 90 #[.val (.long y0), .second, .val (.long y2), .second, .val (.long y4), .second, .val (.int x6), .val (.int x7), .val (.int x8), .val (.long v2), .second, .val (.long v4), .second, .val (.long v6), .second, .val (.long v7), .second, .val (.ref b24), .val (.int r10), .val (.int r14), .val (.int r15), .unset, .unset, .unset] [])) t
    refine XS.aload X15.here hx rfl (hb hby at_90) rfl rfl ?_
    show Steps p.tables e below (T15.setTop (mkF m 92 #[.val (.long y0), .second, .val (.long y2), .second, .val (.long y4), .second, .val (.int x6), .val (.int x7), .val (.int x8), .val (.long v2), .second, .val (.long v4), .second, .val (.long v6), .second, .val (.long v7), .second, .val (.ref b24), .val (.int r10), .val (.int r14), .val (.int r15), .unset, .unset, .unset] [(.ref b24)])) t
    refine XS.lload X15.here hx rfl (hb hby at_92) rfl ?_
    exact k
  refine bindE hr ?_; intro r16 hr16m hr
  obtain ⟨cq16, kq16, q16a, q16b, q16c⟩ := isOf hZ e15 E_b24_13
  obtain ⟨_, _, ⟨T16, L16, k16, n16⟩, -, X16, ⟨Lc16, hQ16, l16, y16, z16⟩, st16⟩ := X15.virtualBack hx (y := (⟨"com/example/mopor/mopor/reduction/LongIntTable", "get", "(J)I"⟩ : MethodName)) (z := (⟨"com/example/mopor/mopor/reduction/LongIntTable", "get", "(J)I"⟩ : MethodName)) hown (mvT hZ (hw _ (List.mem_of_getElem? (i := 28) rfl))) (mvT hZ (hw _ (List.mem_of_getElem? (i := 29) rfl))) (notFace_of_selects (args := #[]) (mvT hZ (hw _ (List.mem_of_getElem? (i := 31) rfl)))) (mvT hZ (hw _ (List.mem_of_getElem? (i := 31) rfl))) (mvT hZ (hw _ (List.mem_of_getElem? (i := 30) rfl))) (by decide) (backOf (W := 0) (rm6 l Z a0 hw [] v6 b24 b28_0 b28_1 r13.2.1 r13.2.2.1 r13.2.2.2 h13 n0 zz13 (by omega) (by omega) (by omega) E_b24_13 F_b24_keys_13 F_b24_values_13 F_b24_size_13 A_b28_0_13 A_b28_1_13 fuel r16 hr16m) hZ (hw _ (List.mem_of_getElem? (i := 32) rfl)) (hw _ (List.mem_of_getElem? (i := 7) rfl)) (by decide) (by decide)) q16a q16c (g := (mkF m 94 #[.val (.long y0), .second, .val (.long y2), .second, .val (.long y4), .second, .val (.int x6), .val (.int x7), .val (.int x8), .val (.long v2), .second, .val (.long v4), .second, .val (.long v6), .second, .val (.long v7), .second, .val (.ref b24), .val (.int r10), .val (.int r14), .val (.int r15), .unset, .unset, .unset] [(.long v6), (.ref b24)])) rfl (by rw [hml]; rfl) (Steps.refl _) (argsL := [(.long v6)]) (rest := []) (lenOf pd_5 rfl) rfl (by show 2 * 0 + _ ≤ _; exact Nat.le_of_eq rfl) (hb hby at_94) (fun _ _ => ⟨rfl, e15, (by show (((((((((((cells + 0) + 0) + 0) + 1) + 2) + 0) + 0) + 0) + 0) + 0) + 0) + 0 ≤ 16; omega), (by show (((((((((((slots + 0) + 0) + 0) + 3) + 32) + 0) + 0) + 0) + 0) + 0) + 0) + 0 ≤ 192; omega)⟩)
  dsimp only [Pt.U, Pt.locs, Pt.cells, Pt.slots] at X16 l16 y16 z16 st16 hQ16
  replace y16 := y16.symm; replace z16 := z16.symm; subst l16 y16 z16
  obtain ⟨rfl, N16q, e16⟩ := hQ16
  have N16 := Fr.app N15 N16q
  refine Runs.via (T' := T16) (g' := (mkF m 97 #[.val (.long y0), .second, .val (.long y2), .second, .val (.long y4), .second, .val (.int x6), .val (.int x7), .val (.int x8), .val (.long v2), .second, .val (.long v4), .second, .val (.long v6), .second, .val (.long v7), .second, .val (.ref b24), .val (.int r10), .val (.int r14), .val (.int r15), .unset, .unset, .unset] [(.int r16)])) (fun t k => st16.trans k) ?_
  refine Runs.via (T' := T16) (g' := (mkF m 103 #[.val (.long y0), .second, .val (.long y2), .second, .val (.long y4), .second, .val (.int x6), .val (.int x7), .val (.int x8), .val (.long v2), .second, .val (.long v4), .second, .val (.long v6), .second, .val (.long v7), .second, .val (.ref b24), .val (.int r10), .val (.int r14), .val (.int r15), .val (.int r16), .unset, .unset] [(.long v7), (.ref b24)])) (fun t k => ?_) ?_
  · show Steps p.tables e below (T16.setTop (mkF m 97 #[.val (.long y0), .second, .val (.long y2), .second, .val (.long y4), .second, .val (.int x6), .val (.int x7), .val (.int x8), .val (.long v2), .second, .val (.long v4), .second, .val (.long v6), .second, .val (.long v7), .second, .val (.ref b24), .val (.int r10), .val (.int r14), .val (.int r15), .unset, .unset, .unset] [(.int r16)])) t
    refine XS.istore X16.here hx rfl (hb hby at_97) rfl (l' := #[.val (.long y0), .second, .val (.long y2), .second, .val (.long y4), .second, .val (.int x6), .val (.int x7), .val (.int x8), .val (.long v2), .second, .val (.long v4), .second, .val (.long v6), .second, .val (.long v7), .second, .val (.ref b24), .val (.int r10), .val (.int r14), .val (.int r15), .val (.int r16), .unset, .unset]) rfl ?_
    show Steps p.tables e below (T16.setTop (mkF m 99 #[.val (.long y0), .second, .val (.long y2), .second, .val (.long y4), .second, .val (.int x6), .val (.int x7), .val (.int x8), .val (.long v2), .second, .val (.long v4), .second, .val (.long v6), .second, .val (.long v7), .second, .val (.ref b24), .val (.int r10), .val (.int r14), .val (.int r15), .val (.int r16), .unset, .unset] [])) t
    refine XS.aload X16.here hx rfl (hb hby at_99) rfl rfl ?_
    show Steps p.tables e below (T16.setTop (mkF m 101 #[.val (.long y0), .second, .val (.long y2), .second, .val (.long y4), .second, .val (.int x6), .val (.int x7), .val (.int x8), .val (.long v2), .second, .val (.long v4), .second, .val (.long v6), .second, .val (.long v7), .second, .val (.ref b24), .val (.int r10), .val (.int r14), .val (.int r15), .val (.int r16), .unset, .unset] [(.ref b24)])) t
    refine XS.lload X16.here hx rfl (hb hby at_101) rfl ?_
    exact k
  refine bindE hr ?_; intro r17 hr17m hr
  obtain ⟨cq17, kq17, q17a, q17b, q17c⟩ := isOf hZ e16 E_b24_13
  obtain ⟨_, _, ⟨T17, L17, k17, n17⟩, -, X17, ⟨Lc17, hQ17, l17, y17, z17⟩, st17⟩ := X16.virtualBack hx (y := (⟨"com/example/mopor/mopor/reduction/LongIntTable", "get", "(J)I"⟩ : MethodName)) (z := (⟨"com/example/mopor/mopor/reduction/LongIntTable", "get", "(J)I"⟩ : MethodName)) hown (mvT hZ (hw _ (List.mem_of_getElem? (i := 28) rfl))) (mvT hZ (hw _ (List.mem_of_getElem? (i := 29) rfl))) (notFace_of_selects (args := #[]) (mvT hZ (hw _ (List.mem_of_getElem? (i := 31) rfl)))) (mvT hZ (hw _ (List.mem_of_getElem? (i := 31) rfl))) (mvT hZ (hw _ (List.mem_of_getElem? (i := 30) rfl))) (by decide) (backOf (W := 0) (rm6 l Z a0 hw [] v7 b24 b28_0 b28_1 r13.2.1 r13.2.2.1 r13.2.2.2 h13 n0 zz13 (by omega) (by omega) (by omega) E_b24_13 F_b24_keys_13 F_b24_values_13 F_b24_size_13 A_b28_0_13 A_b28_1_13 fuel r17 hr17m) hZ (hw _ (List.mem_of_getElem? (i := 32) rfl)) (hw _ (List.mem_of_getElem? (i := 7) rfl)) (by decide) (by decide)) q17a q17c (g := (mkF m 103 #[.val (.long y0), .second, .val (.long y2), .second, .val (.long y4), .second, .val (.int x6), .val (.int x7), .val (.int x8), .val (.long v2), .second, .val (.long v4), .second, .val (.long v6), .second, .val (.long v7), .second, .val (.ref b24), .val (.int r10), .val (.int r14), .val (.int r15), .val (.int r16), .unset, .unset] [(.long v7), (.ref b24)])) rfl (by rw [hml]; rfl) (Steps.refl _) (argsL := [(.long v7)]) (rest := []) (lenOf pd_5 rfl) rfl (by show 2 * 0 + _ ≤ _; exact Nat.le_of_eq rfl) (hb hby at_103) (fun _ _ => ⟨rfl, e16, (by show ((((((((((((cells + 0) + 0) + 0) + 1) + 2) + 0) + 0) + 0) + 0) + 0) + 0) + 0) + 0 ≤ 16; omega), (by show ((((((((((((slots + 0) + 0) + 0) + 3) + 32) + 0) + 0) + 0) + 0) + 0) + 0) + 0) + 0 ≤ 192; omega)⟩)
  dsimp only [Pt.U, Pt.locs, Pt.cells, Pt.slots] at X17 l17 y17 z17 st17 hQ17
  replace y17 := y17.symm; replace z17 := z17.symm; subst l17 y17 z17
  obtain ⟨rfl, N17q, e17⟩ := hQ17
  have N17 := Fr.app N16 N17q
  refine Runs.via (T' := T17) (g' := (mkF m 106 #[.val (.long y0), .second, .val (.long y2), .second, .val (.long y4), .second, .val (.int x6), .val (.int x7), .val (.int x8), .val (.long v2), .second, .val (.long v4), .second, .val (.long v6), .second, .val (.long v7), .second, .val (.ref b24), .val (.int r10), .val (.int r14), .val (.int r15), .val (.int r16), .unset, .unset] [(.int r17)])) (fun t k => st17.trans k) ?_
  refine Runs.via (T' := T17) (g' := (mkF m 111 #[.val (.long y0), .second, .val (.long y2), .second, .val (.long y4), .second, .val (.int x6), .val (.int x7), .val (.int x8), .val (.long v2), .second, .val (.long v4), .second, .val (.long v6), .second, .val (.long v7), .second, .val (.ref b24), .val (.int r10), .val (.int r14), .val (.int r15), .val (.int r16), .val (.int r17), .unset] [(.int (-1 : Int32)), (.int r10)])) (fun t k => ?_) ?_
  · show Steps p.tables e below (T17.setTop (mkF m 106 #[.val (.long y0), .second, .val (.long y2), .second, .val (.long y4), .second, .val (.int x6), .val (.int x7), .val (.int x8), .val (.long v2), .second, .val (.long v4), .second, .val (.long v6), .second, .val (.long v7), .second, .val (.ref b24), .val (.int r10), .val (.int r14), .val (.int r15), .val (.int r16), .unset, .unset] [(.int r17)])) t
    refine XS.istore X17.here hx rfl (hb hby at_106) rfl (l' := #[.val (.long y0), .second, .val (.long y2), .second, .val (.long y4), .second, .val (.int x6), .val (.int x7), .val (.int x8), .val (.long v2), .second, .val (.long v4), .second, .val (.long v6), .second, .val (.long v7), .second, .val (.ref b24), .val (.int r10), .val (.int r14), .val (.int r15), .val (.int r16), .val (.int r17), .unset]) rfl ?_
    show Steps p.tables e below (T17.setTop (mkF m 108 #[.val (.long y0), .second, .val (.long y2), .second, .val (.long y4), .second, .val (.int x6), .val (.int x7), .val (.int x8), .val (.long v2), .second, .val (.long v4), .second, .val (.long v6), .second, .val (.long v7), .second, .val (.ref b24), .val (.int r10), .val (.int r14), .val (.int r15), .val (.int r16), .val (.int r17), .unset] [])) t
    refine XS.iload X17.here hx rfl (hb hby at_108) rfl ?_
    show Steps p.tables e below (T17.setTop (mkF m 110 #[.val (.long y0), .second, .val (.long y2), .second, .val (.long y4), .second, .val (.int x6), .val (.int x7), .val (.int x8), .val (.long v2), .second, .val (.long v4), .second, .val (.long v6), .second, .val (.long v7), .second, .val (.ref b24), .val (.int r10), .val (.int r14), .val (.int r15), .val (.int r16), .val (.int r17), .unset] [(.int r10)])) t
    refine XS.iconst X17.here hx rfl (hb hby at_110) ?_
    exact k
  refine iteE hr (fun hc18 hr => ?_) (fun hc18 hr => ?_)
  · refine Runs.via (T' := T17) (g' := (mkF m 114 #[.val (.long y0), .second, .val (.long y2), .second, .val (.long y4), .second, .val (.int x6), .val (.int x7), .val (.int x8), .val (.long v2), .second, .val (.long v4), .second, .val (.long v6), .second, .val (.long v7), .second, .val (.ref b24), .val (.int r10), .val (.int r14), .val (.int r15), .val (.int r16), .val (.int r17), .unset] [])) (fun t k => ?_) ?_
    · show Steps p.tables e below (T17.setTop (mkF m 111 #[.val (.long y0), .second, .val (.long y2), .second, .val (.long y4), .second, .val (.int x6), .val (.int x7), .val (.int x8), .val (.long v2), .second, .val (.long v4), .second, .val (.long v6), .second, .val (.long v7), .second, .val (.ref b24), .val (.int r10), .val (.int r14), .val (.int r15), .val (.int r16), .val (.int r17), .unset] [(.int (-1 : Int32)), (.int r10)])) t
      exact XS.icmpNo X17.here hx rfl (hb hby at_111) rfl (teq hc18).2 k
    refine Runs.via (T' := T17) (g' := (mkF m 119 #[.val (.long y0), .second, .val (.long y2), .second, .val (.long y4), .second, .val (.int x6), .val (.int x7), .val (.int x8), .val (.long v2), .second, .val (.long v4), .second, .val (.long v6), .second, .val (.long v7), .second, .val (.ref b24), .val (.int r10), .val (.int r14), .val (.int r15), .val (.int r16), .val (.int r17), .unset] [(.int (1 : Int32))])) (fun t k => ?_) ?_
    · show Steps p.tables e below (T17.setTop (mkF m 114 #[.val (.long y0), .second, .val (.long y2), .second, .val (.long y4), .second, .val (.int x6), .val (.int x7), .val (.int x8), .val (.long v2), .second, .val (.long v4), .second, .val (.long v6), .second, .val (.long v7), .second, .val (.ref b24), .val (.int r10), .val (.int r14), .val (.int r15), .val (.int r16), .val (.int r17), .unset] [])) t
      refine XS.iconst X17.here hx rfl (hb hby at_114) ?_
      show Steps p.tables e below (T17.setTop (mkF m 115 #[.val (.long y0), .second, .val (.long y2), .second, .val (.long y4), .second, .val (.int x6), .val (.int x7), .val (.int x8), .val (.long v2), .second, .val (.long v4), .second, .val (.long v6), .second, .val (.long v7), .second, .val (.ref b24), .val (.int r10), .val (.int r14), .val (.int r15), .val (.int r16), .val (.int r17), .unset] [(.int (1 : Int32))])) t
      refine XS.goto X17.here hx rfl (pc0 := 115) (pc' := 119) rfl (hb hby at_115) (by decide) (by decide) ?_
      exact k
    exact b0_119 C fuel X17 e17 N17 (by show (((((((((((((cells + 0) + 0) + 0) + 1) + 2) + 0) + 0) + 0) + 0) + 0) + 0) + 0) + 0) ≤ 3; omega) (by show (((((((((((((slots + 0) + 0) + 0) + 3) + 32) + 0) + 0) + 0) + 0) + 0) + 0) + 0) + 0) ≤ 35; omega) zz13 b24 b28_0 b28_1 (by omega) (by omega) (by omega) r13.2.1 r13.2.2.1 r13.2.2.2 y0 y2 y4 x6 x7 x8 v2 v4 v6 v7 r10 r14 r15 r16 r17 (1 : Int32) E_b24_13 F_b24_keys_13 F_b24_values_13 F_b24_size_13 A_b28_0_13 A_b28_1_13 hr
  · refine Runs.via (T' := T17) (g' := (mkF m 118 #[.val (.long y0), .second, .val (.long y2), .second, .val (.long y4), .second, .val (.int x6), .val (.int x7), .val (.int x8), .val (.long v2), .second, .val (.long v4), .second, .val (.long v6), .second, .val (.long v7), .second, .val (.ref b24), .val (.int r10), .val (.int r14), .val (.int r15), .val (.int r16), .val (.int r17), .unset] [])) (fun t k => ?_) ?_
    · show Steps p.tables e below (T17.setTop (mkF m 111 #[.val (.long y0), .second, .val (.long y2), .second, .val (.long y4), .second, .val (.int x6), .val (.int x7), .val (.int x8), .val (.long v2), .second, .val (.long v4), .second, .val (.long v6), .second, .val (.long v7), .second, .val (.ref b24), .val (.int r10), .val (.int r14), .val (.int r15), .val (.int r16), .val (.int r17), .unset] [(.int (-1 : Int32)), (.int r10)])) t
      exact XS.icmpYes X17.here hx rfl (pc0 := 111) (pc' := 118) rfl (hb hby at_111) rfl (feq hc18).2 (by decide) (by decide) k
    refine Runs.via (T' := T17) (g' := (mkF m 119 #[.val (.long y0), .second, .val (.long y2), .second, .val (.long y4), .second, .val (.int x6), .val (.int x7), .val (.int x8), .val (.long v2), .second, .val (.long v4), .second, .val (.long v6), .second, .val (.long v7), .second, .val (.ref b24), .val (.int r10), .val (.int r14), .val (.int r15), .val (.int r16), .val (.int r17), .unset] [(.int (0 : Int32))])) (fun t k => ?_) ?_
    · show Steps p.tables e below (T17.setTop (mkF m 118 #[.val (.long y0), .second, .val (.long y2), .second, .val (.long y4), .second, .val (.int x6), .val (.int x7), .val (.int x8), .val (.long v2), .second, .val (.long v4), .second, .val (.long v6), .second, .val (.long v7), .second, .val (.ref b24), .val (.int r10), .val (.int r14), .val (.int r15), .val (.int r16), .val (.int r17), .unset] [])) t
      refine XS.iconst X17.here hx rfl (hb hby at_118) ?_
      exact k
    exact b0_119 C fuel X17 e17 N17 (by show (((((((((((((cells + 0) + 0) + 0) + 1) + 2) + 0) + 0) + 0) + 0) + 0) + 0) + 0) + 0) ≤ 3; omega) (by show (((((((((((((slots + 0) + 0) + 0) + 3) + 32) + 0) + 0) + 0) + 0) + 0) + 0) + 0) + 0) ≤ 35; omega) zz13 b24 b28_0 b28_1 (by omega) (by omega) (by omega) r13.2.1 r13.2.2.1 r13.2.2.2 y0 y2 y4 x6 x7 x8 v2 v4 v6 v7 r10 r14 r15 r16 r17 (0 : Int32) E_b24_13 F_b24_keys_13 F_b24_values_13 F_b24_size_13 A_b28_0_13 A_b28_1_13 hr
def f0 (fuel : Nat) (y0 : Int64) (y2 : Int64) (y4 : Int64) (x6 : Int32) (x7 : Int32) (x8 : Int32) : Option (Int32) := g0_0 fuel y0 y2 y4 x6 x7 x8
theorem pn_0 : plainName "com/example/mopor/mopor/reduction/LongIntTableGetPinLaw" = true := by first | (simp [plainName, overriddenIn]; done) | decide +kernel
theorem ef_0 (m : MethodId) (y0 : Int64) (y2 : Int64) (y4 : Int64) (x6 : Int32) (x7 : Int32) (x8 : Int32) : entryFrame m #[(.long y0), (.long y2), (.long y4), (.int x6), (.int x7), (.int x8)] maxLocals = mkF m 0 #[.val (.long y0), .second, .val (.long y2), .second, .val (.long y4), .second, .val (.int x6), .val (.int x7), .val (.int x8), .unset, .unset, .unset, .unset, .unset, .unset, .unset, .unset, .unset, .unset, .unset, .unset, .unset, .unset, .unset] [] := by first | (simp [entryFrame, mkF, argsToLocals, Value.category, maxLocals]; done) | rfl
set_option maxRecDepth 65536 in
set_option maxHeartbeats 4000000 in
theorem rm0 (l : Launch) (Z : State) (a0 : Array Value) (hw : ∀ d ∈ tables_1, d.before a0 Z = true) (ws : List Jvm.Cond) (y0 : Int64) (y2 : Int64) (y4 : Int64) (x6 : Int32) (x7 : Int32) (x8 : Int32) (hE : Heap) (n0 : Nat) (Z0 : n0 ≤ hE.size) (fuel : Nat) (r : Int32) (hr : f0 fuel y0 y2 y4 x6 x7 x8 = some r) :
    MetFree l x (head1 (Jvm.Cond.code x code maxLocals ret :: ws) room_1) (fun a U => a = #[(.long y0), (.long y2), (.long y4), (.int x6), (.int x7), (.int x8)] ∧ Z.Warmed39 U.vm ∧ U.heap = hE) (fun _ _ _ _ _ => True) (fun _ U o U' => ∃ v L, o = .returned v ∧ (P0 n0 r v U'.heap L) ∧ FrameEnd U o U' L 3 35) := by
  refine MetFree.of_bodySF (plainFor_of_name pn_0) hisR ?_
  intro p e s m args below meth c s₁ Bd hml0 hP hK
  obtain ⟨rfl, hZ, hh⟩ := hP
  have X0 : Stand p l e room_1 s m #[(.long y0), (.long y2), (.long y4), (.int x6), (.int x7), (.int x8)] below meth c s₁ [] 0 0 := Stand.of_body Bd
  have e0 : s₁.heap = hE := by rw [← hh, Bd.state]; rfl
  have C : Ctx p s m meth c Z a0 "com/example/mopor/mopor/reduction/LongIntTableGetPinLaw" code 24 (some .boolean) "law" := ⟨Bd.exec, hZ, hw, Bd.bytes, hml0, findClass_of_methodNamed Bd.named, Bd.returns, BodyLoose.notSynchronized Bd, (name_of_methodNamed Bd.named Bd.method).1⟩
  refine Runs.via (fun t k => castTop (ef_0 m y0 y2 y4 x6 x7 x8) k) (b0_0 C fuel X0 e0 (Fr.nil n0) (by show 0 ≤ 0; omega) (by show 0 ≤ 0; omega) Z0 y0 y2 y4 x6 x7 x8 hr)
end Own
theorem bindS {α β : Type} {x : Option α} {k : α → Option β} {r : Option β} {v : α} (h : x = some v) (H : k v = r) : x.bind k = r := by rw [h]; exact H
theorem letS {α β : Type} {x : α} {k : α → β} {r : β} (H : k x = r) : letO x k = r := H
abbrev own_E : Int64 := (-9223372036854775808 : Int64)
/-- the probe, on naturals -/
def own_P : Nat → Int64 → Nat → List Int64 → Option Nat
  | 0, _, _, _ => none
  | n + 1, y, i, ks => match ks[i]? with
    | none => none
    | some v => if v = own_E then some i else if v = y then some i else own_P n y ((i + 1) % 16) ks
theorem own_ofNat {i : Nat} (h : i < 16) : (Int32.ofNat i).toInt = i ∧ (Int32.ofNat i).toNatClampNeg = i ∧ ¬ (Int32.ofNat i) < 0 := by
  have : ∀ j : Fin 16, (Int32.ofNat j.val).toInt = (j.val : Int) ∧ (Int32.ofNat j.val).toNatClampNeg = j.val ∧ ¬ (Int32.ofNat j.val) < 0 := by decide +kernel
  exact this ⟨i, h⟩
theorem own_next {i : Nat} (h : i < 16) : ((Int32.ofNat i) + (1 : Int32)) &&& (15 : Int32) = Int32.ofNat ((i + 1) % 16) := by
  have : ∀ j : Fin 16, ((Int32.ofNat j.val) + (1 : Int32)) &&& (15 : Int32) = Int32.ofNat ((j.val + 1) % 16) := by decide +kernel
  exact this ⟨i, h⟩
theorem own_rd {α : Type} (xs : List α) {i : Nat} (h : i < 16) : rdO xs (Int32.ofNat i) = xs[i]? := by
  obtain ⟨-, h2, h3⟩ := own_ofNat h
  unfold rdO
  rw [if_neg h3, h2]
theorem own_wr {α : Type} (xs : List α) (v : α) {i : Nat} (h : i < 16) (hl : xs.length = 16) : wrO xs (Int32.ofNat i) v = some (xs.set i v) := by
  obtain ⟨-, h2, h3⟩ := own_ofNat h
  unfold wrO
  rw [h2, if_neg]
  rintro (q | q)
  · exact h3 q
  · omega
theorem own_H (fuel : Nat) (ks : List Int64) (y : Int64) : ∀ n i, i < 16 → h7_29 fuel n y 15 (Int32.ofNat i) ks = (own_P n y i ks).map Int32.ofNat := by
  intro n
  induction n with
  | zero => intro i h; rfl
  | succ n ih =>
    intro i h
    show s7_29 (h7_29 fuel n) fuel y 15 (Int32.ofNat i) ks = _
    unfold s7_29
    rw [own_rd ks h]
    unfold own_P
    cases hk : ks[i]? with
    | none => rfl
    | some v =>
      simp only [Option.bind_some]
      by_cases h1 : v = own_E
      · rw [if_pos h1, if_pos h1]; rfl
      · rw [if_neg h1, if_neg h1]
        by_cases h2 : v = y
        · rw [if_pos h2, if_pos h2]; rfl
        · rw [if_neg h2, if_neg h2]
          unfold letO
          rw [own_next h]
          exact ih _ (Nat.mod_lt _ (by decide))
theorem own_P_ok (ks : List Int64) (hl : ks.length = 16) (y : Int64) {j : Nat} (hj : j < 16) (he : ks[j]? = some own_E) :
    ∀ n i, i < 16 → (j + 16 - i) % 16 < n → ∃ q, own_P n y i ks = some q ∧ q < 16 ∧ (ks[q]? = some own_E ∨ ks[q]? = some y) := by
  intro n
  induction n with
  | zero => intro i _ h; exact absurd h (Nat.not_lt_zero _)
  | succ n ih =>
    intro i hi h
    unfold own_P
    have hk : ks[i]? = some (ks[i]'(by omega)) := List.getElem?_eq_getElem _
    rw [hk]
    show ∃ q, (if ks[i]'(by omega) = own_E then some i else if ks[i]'(by omega) = y then some i else own_P n y ((i + 1) % 16) ks) = some q ∧ _
    by_cases h1 : ks[i]'(by omega) = own_E
    · rw [if_pos h1]; exact ⟨i, rfl, hi, Or.inl (by rw [hk, h1])⟩
    · rw [if_neg h1]
      by_cases h2 : ks[i]'(by omega) = y
      · rw [if_pos h2]; exact ⟨i, rfl, hi, Or.inr (by rw [hk, h2])⟩
      · rw [if_neg h2]
        have hne : i ≠ j := fun q => by
          subst q
          rw [hk] at he
          exact h1 (Option.some.inj he)
        exact ih _ (Nat.mod_lt _ (by decide)) (by omega)
theorem own_P_new (y : Int64) (hy : y ≠ own_E) : ∀ n i (ks : List Int64) r, own_P n y i ks = some r → ks[r]? = some own_E → own_P n y i (ks.set r y) = some r := by
  intro n
  induction n with
  | zero => intro i ks r h; exact nomatch h
  | succ n ih =>
    intro i ks r h hr
    unfold own_P at h ⊢
    cases hk : ks[i]? with
    | none => rw [hk] at h; exact nomatch h
    | some v =>
      rw [hk] at h
      replace h : (if v = own_E then some i else if v = y then some i else own_P n y ((i + 1) % 16) ks) = some r := h
      have hil : i < ks.length := (List.getElem?_eq_some_iff.mp hk).1
      by_cases h1 : v = own_E
      · rw [if_pos h1] at h
        obtain rfl := Option.some.inj h
        rw [List.getElem?_set_self hil]
        show (if y = own_E then some i else if y = y then some i else _) = some i
        rw [if_neg hy, if_pos rfl]
      · rw [if_neg h1] at h
        by_cases h2 : v = y
        · rw [if_pos h2] at h
          obtain rfl := Option.some.inj h
          rw [hk] at hr
          exact absurd (Option.some.inj hr) h1
        · rw [if_neg h2] at h
          have hne : r ≠ i := fun q => by
            subst q
            rw [hk] at hr
            exact h1 (Option.some.inj hr)
          rw [List.getElem?_set_ne hne, hk]
          show (if v = own_E then some i else if v = y then some i else own_P n y ((i + 1) % 16) (ks.set r y)) = some r
          rw [if_neg h1, if_neg h2]
          exact ih _ _ _ h hr
theorem own_P_old (y z : Int64) (hz : z ≠ own_E) : ∀ n i (ks : List Int64) q r, own_P n z i ks = some q → ks[q]? = some z → ks[r]? = some own_E → own_P n z i (ks.set r y) = some q := by
  intro n
  induction n with
  | zero => intro i ks q r h; exact nomatch h
  | succ n ih =>
    intro i ks q r h hq hr
    unfold own_P at h ⊢
    cases hk : ks[i]? with
    | none => rw [hk] at h; exact nomatch h
    | some v =>
      rw [hk] at h
      replace h : (if v = own_E then some i else if v = z then some i else own_P n z ((i + 1) % 16) ks) = some q := h
      by_cases h1 : v = own_E
      · rw [if_pos h1] at h
        obtain rfl := Option.some.inj h
        rw [hk] at hq
        exact absurd ((Option.some.inj hq).symm.trans h1) hz
      · have hne : r ≠ i := fun q => by
          subst q
          rw [hk] at hr
          exact h1 (Option.some.inj hr)
        rw [List.getElem?_set_ne hne, hk]
        rw [if_neg h1] at h
        show (if v = own_E then some i else if v = z then some i else own_P n z ((i + 1) % 16) (ks.set r y)) = some q
        rw [if_neg h1]
        by_cases h2 : v = z
        · rw [if_pos h2] at h ⊢; exact h
        · rw [if_neg h2] at h ⊢; exact ih _ _ _ _ h hq hr
/-- where the probe of a key starts -/
def own_st (y : Int64) : Int32 := (Int64.toInt32 ((y * (-7046029254386353131 : Int64)) ^^^ (((y * (-7046029254386353131 : Int64)).toUInt64 >>> ((29 : Int32) &&& 0x3f).toInt64.toUInt64).toInt64))) &&& (15 : Int32)
theorem own_st_lt (y : Int64) : (own_st y).toNatClampNeg < 16 ∧ Int32.ofNat (own_st y).toNatClampNeg = own_st y := by
  unfold own_st
  generalize (Int64.toInt32 ((y * (-7046029254386353131 : Int64)) ^^^ (((y * (-7046029254386353131 : Int64)).toUInt64 >>> ((29 : Int32) &&& 0x3f).toInt64.toUInt64).toInt64))) = u
  have h := c_mask u 15 4 (by decide) (by decide)
  have h1 : 0 ≤ (u &&& (15 : Int32)).toInt ∧ (u &&& (15 : Int32)).toInt < 16 := by rw [h]; exact ⟨Int.emod_nonneg _ (by decide), Int.emod_lt_of_pos _ (by decide)⟩
  generalize (u &&& (15 : Int32)) = w at h1
  have hw : w.toNatClampNeg < 16 := by show w.toInt.toNat < 16; omega
  refine ⟨hw, ?_⟩
  apply Int32.toInt_inj.mp
  rw [(own_ofNat hw).1]
  show (w.toInt.toNat : Int) = w.toInt
  omega
abbrev own_s (y : Int64) : Nat := (own_st y).toNatClampNeg
theorem own_slot (ks : List Int64) (hl : ks.length = 16) (y : Int64) {q : Nat} (h : own_P 17 y (own_s y) ks = some q) : f7 17 y ks = some (Int32.ofNat q) := by
  unfold f7 g7_0
  refine letS (letS (letS (letS ?_)))
  have e : lenO ks - (1 : Int32) = 15 := by unfold lenO; rw [hl]; decide
  rw [e]
  show g7_29 17 y 15 (own_st y) ks = _
  unfold g7_29
  rw [← (own_st_lt y).2, own_H 17 ks y 17 _ (own_st_lt y).1, h]
  rfl
/-- the table holds just what M says -/
def own_T (ks : List Int64) (vs : List Int32) (M : Int64 → Option Int32) : Prop :=
  ks.length = 16 ∧ vs.length = 16 ∧ (∀ z, z ≠ own_E → M z = none → ¬ z ∈ ks) ∧ (∀ z v, M z = some v → z ≠ own_E ∧ ∃ q, own_P 17 z (own_s z) ks = some q ∧ ks[q]? = some z ∧ vs[q]? = some v)
theorem own_found (ks : List Int64) (hl : ks.length = 16) (hc : 0 < ks.count own_E) (y : Int64) : ∃ q, own_P 17 y (own_s y) ks = some q ∧ q < 16 ∧ (ks[q]? = some own_E ∨ ks[q]? = some y) := by
  obtain ⟨j, hj⟩ := List.mem_iff_getElem?.mp (List.count_pos_iff.mp hc)
  have hj2 := (List.getElem?_eq_some_iff.mp hj).1
  exact own_P_ok ks hl y (by omega : j < 16) hj 17 _ (own_st_lt y).1 (by omega)
theorem own_get {ks : List Int64} {vs : List Int32} {M : Int64 → Option Int32} (T : own_T ks vs M) (hc : 0 < ks.count own_E) (y : Int64) (s : Int32) (hE : y = own_E → M y = none) : f6 17 y s ks vs = some ((M y).getD (-1)) := by
  obtain ⟨h1, h2, h3, h4⟩ := T
  unfold f6 g6_0
  cases hM : M y with
  | some v =>
    obtain ⟨hy, q, p1, p2, p3⟩ := h4 y v hM
    have hq : q < 16 := by have := (List.getElem?_eq_some_iff.mp p2).1; omega
    refine bindS (own_slot ks h1 y p1) ?_
    refine bindS (by rw [own_rd ks hq]; exact p2) ?_
    rw [if_neg hy]
    refine bindS (by rw [own_rd vs hq]; exact p3) ?_
    rfl
  | none =>
    obtain ⟨q, p1, hq, p2⟩ := own_found ks h1 hc y
    refine bindS (own_slot ks h1 y p1) ?_
    have p3 : ks[q]? = some own_E := by
      rcases p2 with p2 | p2
      · exact p2
      · by_cases hy : y = own_E
        · rw [hy] at p2; exact p2
        · exact absurd (List.mem_iff_getElem?.mpr ⟨q, p2⟩) (h3 y hy hM)
    refine bindS (by rw [own_rd ks hq]; exact p3) ?_
    rw [if_pos rfl]
    rfl
theorem own_add {ks : List Int64} {vs : List Int32} {M : Int64 → Option Int32} (T : own_T ks vs M) (y : Int64) (x s : Int32) (k : Nat) (hy : y ≠ own_E) (hk : s.toInt = k) (h8 : k < 8) (hc : 16 ≤ ks.count own_E + k) :
    ∃ r : Int32 × Int32 × List Int64 × List Int32, f8 17 y x s ks vs = some r ∧ own_T r.2.2.1 r.2.2.2 (fun z => if z = y ∧ M y = none then some x else M z) ∧ ∃ k' : Nat, r.2.1.toInt = k' ∧ k' ≤ k + 1 ∧ 16 ≤ r.2.2.1.count own_E + k' := by
  have T0 := T
  obtain ⟨h1, h2, h3, h4⟩ := T
  obtain ⟨q, p1, hq, p2⟩ := own_found ks h1 (by omega) y
  have sl := own_slot ks h1 y p1
  unfold f8 g8_0
  rw [if_neg hy]
  by_cases hM : M y = none
  · have p3 : ks[q]? = some own_E := by
      rcases p2 with p2 | p2
      · exact p2
      · exact absurd (List.mem_iff_getElem?.mpr ⟨q, p2⟩) (h3 y hy hM)
    have hql : q < ks.length := by omega
    have e1 : (s + (1 : Int32)).toInt = k + 1 := by
      have e := c_iadd s 1
      have r1 := rng32 (s + 1)
      have k1 : (1 : Int32).toInt = 1 := by decide
      omega
    have e2 : ¬ ((lenO (ks.set q y)) / (2 : Int32)) < (s + (1 : Int32)) := by
      have : (lenO (ks.set q y)) / (2 : Int32) = 8 := by unfold lenO; rw [List.length_set, h1]; decide
      rw [this, Int32.lt_iff_toInt_lt, e1]
      have : (8 : Int32).toInt = 8 := by decide
      omega
    refine ⟨(1, s + 1, ks.set q y, vs.set q x), ?_, ?_, k + 1, e1, Nat.le_refl _, ?_⟩
    · refine bindS sl ?_
      refine bindS (by rw [own_rd ks hq]; exact p3) ?_
      rw [if_pos rfl]
      refine bindS (own_wr ks y hq h1) ?_
      refine bindS (own_wr vs x hq h2) ?_
      refine letS ?_
      rw [if_neg e2]
    · refine ⟨by simp [h1], by simp [h2], fun z hz hm => ?_, fun z v hm => ?_⟩
      · replace hm : (if z = y ∧ M y = none then some x else M z) = none := hm
        by_cases hzy : z = y
        · rw [if_pos ⟨hzy, hM⟩] at hm; exact nomatch hm
        · rw [if_neg (fun c => hzy c.1)] at hm
          intro hmem
          rcases List.mem_or_eq_of_mem_set hmem with c | c
          · exact h3 z hz hm c
          · exact hzy c
      · replace hm : (if z = y ∧ M y = none then some x else M z) = some v := hm
        by_cases hzy : z = y
        · rw [if_pos ⟨hzy, hM⟩] at hm
          subst hzy
          refine ⟨hy, q, own_P_new z hy 17 _ ks q p1 p3, by rw [List.getElem?_set_self hql], ?_⟩
          rw [List.getElem?_set_self (by omega)]
          exact hm
        · rw [if_neg (fun c => hzy c.1)] at hm
          obtain ⟨hz, q', t1, t2, t3⟩ := h4 z v hm
          have hne : q ≠ q' := fun c => by
            subst c
            rw [p3] at t2
            exact hz (Option.some.inj t2).symm
          exact ⟨hz, q', own_P_old y z hz 17 _ ks q' q t1 t2 p3, by rw [List.getElem?_set_ne hne]; exact t2, by rw [List.getElem?_set_ne hne]; exact t3⟩
    · have e3 := List.count_set (a := y) (b := own_E) (l := ks) (i := q) hql
      have e4 : ks[q] = own_E := by
        have := List.getElem?_eq_getElem hql
        rw [p3] at this
        exact (Option.some.inj this).symm
      show 16 ≤ (ks.set q y).count own_E + (k + 1)
      rw [e3, e4]
      simp
      omega
  · have p3 : ks[q]? = some y ∧ ∃ v, M y = some v := by
      cases hm : M y with
      | none => exact absurd hm hM
      | some v =>
        obtain ⟨-, q', t1, t2, -⟩ := h4 y v hm
        rw [p1] at t1
        obtain rfl := Option.some.inj t1
        exact ⟨t2, v, rfl⟩
    refine ⟨(0, s, ks, vs), ?_, ?_, k, hk, Nat.le_succ _, hc⟩
    · refine bindS sl ?_
      refine bindS (by rw [own_rd ks hq]; exact p3.1) ?_
      rw [if_neg hy]
    · have : (fun z => if z = y ∧ M y = none then some x else M z) = M := by
        funext z
        rw [if_neg (fun c => hM c.2)]
      rw [this]
      exact T0
theorem own_init : f2 17 0 = some (List.replicate 16 own_E, List.replicate 16 0) := by decide +kernel
theorem own_T0 : own_T (List.replicate 16 own_E) (List.replicate 16 0) (fun _ => none) :=
  ⟨by simp, by simp, fun z hz _ hm => hz (List.eq_of_mem_replicate hm), fun _ _ h => nomatch h⟩
theorem own_fix (y : Int64) : f1 y ≠ own_E := by
  unfold f1 g1_0
  split
  · decide
  · assumption
theorem own_law (y0 y2 y4 : Int64) (x6 x7 x8 : Int32) : ∃ fuel, f0 fuel y0 y2 y4 x6 x7 x8 = some 1 := by
  refine ⟨17, ?_⟩
  unfold f0 g0_0
  refine letS (letS (letS (letS ?_)))
  have n1 := own_fix y0
  have n2 := own_fix y2
  have n3 := own_fix y4
  generalize f1 y0 = a at *
  generalize f1 y2 = b at *
  generalize f1 y4 = c at *
  generalize y0 + y2 = w
  have hc0 : (List.replicate 16 own_E).count own_E = 16 := by decide
  refine bindS own_init ?_
  refine bindS (own_get own_T0 (by rw [hc0]; decide) w 0 (fun _ => rfl)) ?_
  obtain ⟨r1, a1, t1, k1, c1, d1, b1⟩ := own_add own_T0 a x6 0 0 n1 (by decide) (by decide) (by rw [hc0]; decide)
  refine bindS a1 ?_
  obtain ⟨r2, a2, t2, k2, c2, d2, b2⟩ := own_add t1 b x7 r1.2.1 k1 n2 c1 (by omega) b1
  refine bindS a2 ?_
  obtain ⟨r3, a3, t3, k3, c3, d3, b3⟩ := own_add t2 c x8 r2.2.1 k2 n3 c2 (by omega) b2
  refine bindS a3 ?_
  refine bindS (own_get t3 (by omega) a _ (fun q => absurd q n1)) ?_
  refine bindS (own_get t3 (by omega) b _ (fun q => absurd q n2)) ?_
  refine bindS (own_get t3 (by omega) c _ (fun q => absurd q n3)) ?_
  refine bindS (own_get t3 (by omega) w _ (fun q => ?_)) ?_
  · simp only [q, n1.symm, n2.symm, n3.symm, false_and, if_false]
  have key : ∀ z, ((if z = c ∧ (if c = b ∧ (if b = a ∧ (none : Option Int32) = none then some x6 else none) = none then some x7 else if c = a ∧ (none : Option Int32) = none then some x6 else none) = none then some x8 else if z = b ∧ (if b = a ∧ (none : Option Int32) = none then some x6 else none) = none then some x7 else if z = a ∧ (none : Option Int32) = none then some x6 else none) : Option Int32).getD (-1) = f9 z a b c x6 x7 x8 := by
    intro z
    unfold f9 g9_0
    by_cases q1 : z = a
    · subst q1
      by_cases q2 : z = b
      · subst q2
        by_cases q3 : z = c
        · subst q3; simp
        · simp [q3]
      · by_cases q3 : z = c
        · subst q3; simp [q2]
        · simp [q2, q3]
    · by_cases q2 : z = b
      · subst q2
        by_cases q3 : z = c
        · subst q3; simp [q1]
        · simp [q1, q3]
      · by_cases q3 : z = c
        · subst q3; simp [q1, q2]
        · simp [q1, q2, q3]
  rw [key a, key b, key c, key w]
  have hnn : (none : Option Int32).getD (-1) = (-1 : Int32) := rfl
  show (if ((none : Option Int32).getD (-1)) = (-1 : Int32) then _ else _) = some 1
  rw [if_pos hnn]
  unfold g0_119 g0_153 g0_187 g0_221 g0_255
  simp
set_option maxRecDepth 65536 in
set_option maxHeartbeats 40000000 in
theorem comes_1 {Post : Tables → Env → Array Value → State → Outcome → State → Prop} (hpost : ∀ tb e args s v u, (limb_1_1.after args s (.returned v) u = true ∧ limb_1_2.after args s (.returned v) u = true ∧ True) → FrameEnd s (.returned v) u (Jvm.fieldLocs frame_1_writes args s ++ Jvm.arrayLocs frame_1_arrays args s ++ Jvm.staticLocs frame_1_statics s) 16 192 → Post tb e args s (.returned v) u) :
    ArmFor flags0 classFile x code maxLocals ret World_1 tables_1 room_1 Calls_1 rest_1 Pre_1 Post := by
  intro l hfl _ _ p e ha hc hk s m args below hf hA hF happ hP
  obtain ⟨hcalls, hrest, hpre⟩ := hP
  obtain ⟨-, -, -, hnamed, -, -, -, hat⟩ := (Spec.applies_iff hf).mp happ
  obtain ⟨hg, hn⟩ := and_e (Cond.before_iff.mp (show (Jvm.Cond.and given_1 narrow_1).before args s = true from hpre))
  obtain ⟨g1, g2⟩ := and_e hg
  obtain ⟨g3, g4⟩ := and_e g2
  obtain ⟨g5, g6⟩ := and_e g4
  obtain ⟨g7, g8⟩ := and_e g6
  obtain ⟨g9, g10⟩ := and_e g8
  obtain ⟨g11, g12⟩ := and_e g10
  obtain ⟨w0, w1, w2, w3, w4, w5, rfl⟩ : ∃ w0 w1 w2 w3 w4 w5 : Value, args = #[w0, w1, w2, w3, w4, w5] := by
    have hs : args.size = 6 := by simpa [Cond.value, given_1] using g1
    obtain ⟨L⟩ := args
    match L, hs with
    | [w0, w1, w2, w3, w4, w5], _ => exact ⟨w0, w1, w2, w3, w4, w5, rfl⟩
  have hw := fun d (hd : d ∈ tables_1) => atoms_spec (ws := Jvm.Cond.code x code maxLocals ret :: tables_1) hat d (List.mem_cons_of_mem _ hd)
  obtain ⟨i0, ei0⟩ := isL_v g3
  obtain rfl : w0 = (.long i0) := Option.some.inj ei0
  obtain ⟨i1, ei1⟩ := isL_v g5
  obtain rfl : w1 = (.long i1) := Option.some.inj ei1
  obtain ⟨i2, ei2⟩ := isL_v g7
  obtain rfl : w2 = (.long i2) := Option.some.inj ei2
  obtain ⟨i3, ei3⟩ := is_v g9
  obtain rfl : w3 = (.int i3) := Option.some.inj ei3
  obtain ⟨i4, ei4⟩ := is_v g11
  obtain rfl : w4 = (.int i4) := Option.some.inj ei4
  obtain ⟨i5, ei5⟩ := is_v g12
  obtain rfl : w5 = (.int i5) := Option.some.inj ei5
  obtain ⟨fuel, hone⟩ := own_law i0 i1 i2 i3 i4 i5
  obtain ⟨n, o, h1, h2, h3, _, L, rfl, ⟨rfl, N⟩, hq⟩ := rm0 l s _ hw tables_1 i0 i1 i2 i3 i4 i5 s.heap s.heap.size (Nat.le_refl _) fuel _ hone p e ha hc hk s m _ below hf ((Spec.applies_iff_loose hf).mp happ).1 ⟨rfl, State.Warmed39.refl s, rfl⟩ trivial
  refine ⟨n, _, h1, h2, h3, hpost _ _ _ _ _ _ ⟨Cond.after_iff.mpr rfl, Cond.after_iff.mpr (eq_i res_at (Term.int_eval (1)) rfl), trivial⟩ ⟨hq.1, hq.2.1, (hq.2.2.sift fun y hy => Or.inr (N y hy)).mono (by decide) (by decide)⟩⟩
theorem main_1_1 : Claimed_1_1 := comes_1 fun _ _ _ _ _ _ h hF => ⟨h.1, hF⟩
theorem main_1_2 : Claimed_1_2 := comes_1 fun _ _ _ _ _ _ h hF => ⟨h.2.1, hF⟩
end Jvm.Pilot.@@N@@
namespace Jvm.Pilot.@@N@@
open Jvm Jvm.ClassFile Sem Op Lib Jvm.Free Jvm.Stand Jvm.Pilot.@@N@@.Jvm.D
/-! MADE BY PROGRAM (witnessworld.py) out of the Statement's table words and the real class files: 12 classes; the members and pool entries that the words name. The judged class is class 1, her method 1. -/
namespace start1
open Jvm.ClassFile
def u (s : String) : CpInfo := .utf8 (stringToUtf16 s)
/-- a pool by its gaps: so many unusable entries, then the entry; so many at the end -/
def gap : Nat → List CpInfo → List CpInfo
  | 0, r => r
  | n + 1, r => .unusable :: gap n r
def poolList (es : List (Nat × CpInfo)) (last : Nat) : List CpInfo := es.foldr (fun e r => gap e.1 (e.2 :: r)) (gap last [])
def pool (es : List (Nat × CpInfo)) (last : Nat) : Array CpInfo := ⟨poolList es last⟩
def fileOf (pool : Array CpInfo) (this : Nat) (attrs : Array Attribute := #[]) (ms : Array MethodInfo := #[]) (fl : Nat := 33) (sup : Nat := 0) (ifs : Array Nat := #[]) (fds : Array FieldInfo := #[]) : ClassFile where
  minorVersion := 0
  majorVersion := 65
  constantPool := pool
  accessFlags := fl
  thisClass := this
  superClass := sup
  interfaces := ifs
  fields := fds
  methods := ms
  attributes := attrs
def plain (name : String) (sup : Option ClassId) : Class where
  name := name
  kind := .ordinary
  loader := none
  accessFlags := 33
  super := sup
  interfaces := #[]
  cf := none
  fields := #[]
  methods := #[]
  instanceTypes := #[]
  staticTypes := #[]
  resolved := #[]
  callSites := []
  init := .initialized
  statics := none
  mirror := none

def pool0 : Array CpInfo := pool [(5, u "<init>"), (0, u "()V"), (1, .class_ 10), (1, u "java/lang/Object")] 113

def k0c0 : Code := { maxStack := 0, maxLocals := 1, code := object_method_1_code, exceptionTable := #[], attributes := #[] }
def k0m0 : Method := { name := "<init>", desc := "()V", sig := { parameters := [], returnType := none }, accessFlags := 1, code := some k0c0 }
/-- java/lang/Object -/
def k0 : Class := { plain "java/lang/Object" none with
  accessFlags := 33
  interfaces := #[]
  cf := some (fileOf pool0 8 #[] #[{ accessFlags := 1, nameIndex := 5, descriptorIndex := 6, attributes := #[] }] 33 0 #[] #[])
  fields := #[]
  methods := #[k0m0]
  instanceTypes := #[]
  staticTypes := #[]
  resolved := Array.replicate 124 none
  statics := none }

def pool1 : Array CpInfo := pool [(2, .class_ 4), (0, .nameAndType 5 6), (0, u "java/lang/Object"), (0, u "<init>"), (0, u "()V"), (0, .methodref 8 9), (0, .class_ 10), (0, .nameAndType 11 12), (0, u "com/example/mopor/mopor/reduction/LongIntTableGetPinLaw"), (0, u "fix"), (0, u "(J)J"), (0, .class_ 14), (0, u "com/example/mopor/mopor/reduction/LongIntTable"), (0, .methodref 13 3), (0, .methodref 13 17), (0, .nameAndType 18 19), (0, u "get"), (0, u "(J)I"), (0, .methodref 13 21), (0, .nameAndType 22 23), (0, u "add"), (0, u "(JI)Z"), (0, .methodref 8 25), (0, .nameAndType 26 27), (0, u "exp"), (0, u "(JJJJIII)I"), (2, .long 9223372036854775808), (1, .long 9223372036854775807), (3, u "law"), (0, u "(JJJIII)Z")] 3

def k1m0 : Method := { name := "<init>", desc := "()V", sig := { parameters := [], returnType := none }, accessFlags := 1, code := none }
def k1c1 : Code := { maxStack := 12, maxLocals := 24, code := code, exceptionTable := #[], attributes := #[] }
def k1m1 : Method := { name := "law", desc := "(JJJIII)Z", sig := { parameters := [.long, .long, .long, .int, .int, .int], returnType := some .boolean }, accessFlags := 9, code := some k1c1 }
def k1c2 : Code := { maxStack := 4, maxLocals := 2, code := method_3_code, exceptionTable := #[], attributes := #[] }
def k1m2 : Method := { name := "fix", desc := "(J)J", sig := { parameters := [.long], returnType := some .long }, accessFlags := 10, code := some k1c2 }
def k1c3 : Code := { maxStack := 4, maxLocals := 11, code := method_4_code, exceptionTable := #[], attributes := #[] }
def k1m3 : Method := { name := "exp", desc := "(JJJJIII)I", sig := { parameters := [.long, .long, .long, .long, .int, .int, .int], returnType := some .int }, accessFlags := 10, code := some k1c3 }
/-- com/example/mopor/mopor/reduction/LongIntTableGetPinLaw -/
def k1 : Class := { plain "com/example/mopor/mopor/reduction/LongIntTableGetPinLaw" (some 0) with
  accessFlags := 49
  interfaces := #[]
  cf := some (fileOf pool1 8 #[] #[{ accessFlags := 1, nameIndex := 5, descriptorIndex := 6, attributes := #[] }, { accessFlags := 9, nameIndex := 36, descriptorIndex := 37, attributes := #[] }, { accessFlags := 10, nameIndex := 11, descriptorIndex := 12, attributes := #[] }, { accessFlags := 10, nameIndex := 26, descriptorIndex := 27, attributes := #[] }] 49 2 #[] #[])
  fields := #[]
  methods := #[k1m0, k1m1, k1m2, k1m3]
  instanceTypes := #[]
  staticTypes := #[]
  resolved := Array.replicate 41 none
  statics := none }

def pool2 : Array CpInfo := pool [(3, .methodref 4 5), (0, .class_ 6), (0, .nameAndType 7 8), (0, u "java/lang/Object"), (0, u "<init>"), (0, u "()V"), (0, .methodref 10 11), (0, .class_ 12), (0, .nameAndType 13 14), (0, u "com/example/mopor/mopor/reduction/LongIntTable"), (0, u "emptyKeys"), (0, u "(I)[J"), (0, .fieldref 10 16), (0, .nameAndType 17 18), (0, u "keys"), (0, u "[J"), (0, .fieldref 10 20), (0, .nameAndType 21 22), (0, u "values"), (0, u "[I"), (0, .methodref 10 24), (0, .nameAndType 25 26), (0, u "slotOf"), (0, u "([JJ)I"), (0, .long 9223372036854775808), (10, .fieldref 10 39), (0, .nameAndType 40 41), (0, u "size"), (0, u "I"), (3, .long 11400714819323198485), (1, .methodref 48 49), (0, .class_ 50), (0, .nameAndType 51 52), (0, u "java/util/Arrays"), (0, u "fill"), (0, u "([JJ)V"), (0, u "EMPTY"), (0, u "J"), (3, u "get"), (0, u "(J)I"), (1, u "add"), (0, u "(JI)Z")] 19

def k2c0 : Code := { maxStack := 2, maxLocals := 1, code := prog_19_method_1_code, exceptionTable := #[], attributes := #[] }
def k2m0 : Method := { name := "<init>", desc := "()V", sig := { parameters := [], returnType := none }, accessFlags := 0, code := some k2c0 }
def k2c1 : Code := { maxStack := 4, maxLocals := 4, code := prog_19_method_2_code, exceptionTable := #[], attributes := #[] }
def k2m1 : Method := { name := "get", desc := "(J)I", sig := { parameters := [.long], returnType := some .int }, accessFlags := 0, code := some k2c1 }
def k2c2 : Code := { maxStack := 4, maxLocals := 5, code := prog_19_method_3_code, exceptionTable := #[], attributes := #[] }
def k2m2 : Method := { name := "add", desc := "(JI)Z", sig := { parameters := [.long, .int], returnType := some .boolean }, accessFlags := 0, code := some k2c2 }
def k2c3 : Code := { maxStack := 5, maxLocals := 7, code := prog_19_method_5_code, exceptionTable := #[], attributes := #[] }
def k2m3 : Method := { name := "slotOf", desc := "([JJ)I", sig := { parameters := [(.array .long), .long], returnType := some .int }, accessFlags := 10, code := some k2c3 }
def k2c4 : Code := { maxStack := 3, maxLocals := 2, code := prog_19_method_6_code, exceptionTable := #[], attributes := #[] }
def k2m4 : Method := { name := "emptyKeys", desc := "(I)[J", sig := { parameters := [.int], returnType := some (.array .long) }, accessFlags := 10, code := some k2c4 }
/-- com/example/mopor/mopor/reduction/LongIntTable -/
def k2 : Class := { plain "com/example/mopor/mopor/reduction/LongIntTable" (some 0) with
  accessFlags := 48
  interfaces := #[]
  cf := some (fileOf pool2 10 #[] #[{ accessFlags := 0, nameIndex := 7, descriptorIndex := 8, attributes := #[] }, { accessFlags := 0, nameIndex := 58, descriptorIndex := 59, attributes := #[] }, { accessFlags := 0, nameIndex := 61, descriptorIndex := 62, attributes := #[] }, { accessFlags := 10, nameIndex := 25, descriptorIndex := 26, attributes := #[] }, { accessFlags := 10, nameIndex := 13, descriptorIndex := 14, attributes := #[] }] 48 4 #[] #[{ accessFlags := 26, nameIndex := 53, descriptorIndex := 54, attributes := #[] }, { accessFlags := 2, nameIndex := 17, descriptorIndex := 18, attributes := #[] }, { accessFlags := 2, nameIndex := 21, descriptorIndex := 22, attributes := #[] }, { accessFlags := 2, nameIndex := 40, descriptorIndex := 41, attributes := #[] }])
  fields := #[{ name := "EMPTY", type := .long, accessFlags := 26, slot := 0, constantValue := 0 }, { name := "keys", type := (.array .long), accessFlags := 2, slot := 0, constantValue := 0 }, { name := "values", type := (.array .int), accessFlags := 2, slot := 1, constantValue := 0 }, { name := "size", type := .int, accessFlags := 2, slot := 2, constantValue := 0 }]
  methods := #[k2m0, k2m1, k2m2, k2m3, k2m4]
  instanceTypes := #[(.array .long), (.array .int), .int]
  staticTypes := #[.long]
  resolved := Array.replicate 82 none
  statics := none }

def pool3 : Array CpInfo := pool [(2, .class_ 4), (1, u "java/lang/Object"), (0, u "<init>"), (0, u "()V"), (7, .class_ 16), (1, u "java/util/Arrays"), (57, .class_ 76), (1, u "java/util/Arrays$NaturalOrder"), (36, .class_ 115), (1, u "java/util/Arrays$LegacyMergeSort"), (1, u "Z"), (257, .class_ 376), (0, u "java/util/Arrays$ArrayList"), (68, u "$assertionsDisabled"), (269, u "MIN_ARRAY_SORT_GRAN"), (0, u "I"), (2, u "INSERTIONSORT_THRESHOLD"), (120, u "fill"), (0, u "([JJ)V"), (133, .class_ 976), (0, u "java/util/Arrays$ArrayItr")] 52

def k3m0 : Method := { name := "<init>", desc := "()V", sig := { parameters := [], returnType := none }, accessFlags := 2, code := none }
def k3c1 : Code := { maxStack := 4, maxLocals := 5, code := jdk_65_method_101_code, exceptionTable := #[], attributes := #[] }
def k3m1 : Method := { name := "fill", desc := "([JJ)V", sig := { parameters := [(.array .long), .long], returnType := none }, accessFlags := 9, code := some k3c1 }
/-- java/util/Arrays -/
def k3 : Class := { plain "java/util/Arrays" (some 0) with
  accessFlags := 49
  interfaces := #[]
  cf := some (fileOf pool3 14 #[.nestMembers #[975, 375, 113, 74]] #[{ accessFlags := 2, nameIndex := 5, descriptorIndex := 6, attributes := #[] }, { accessFlags := 9, nameIndex := 840, descriptorIndex := 841, attributes := #[] }] 49 2 #[] #[{ accessFlags := 26, nameIndex := 715, descriptorIndex := 716, attributes := #[] }, { accessFlags := 26, nameIndex := 719, descriptorIndex := 716, attributes := #[] }, { accessFlags := 4120, nameIndex := 445, descriptorIndex := 117, attributes := #[] }])
  fields := #[{ name := "MIN_ARRAY_SORT_GRAN", type := .int, accessFlags := 26, slot := 0, constantValue := 0 }, { name := "INSERTIONSORT_THRESHOLD", type := .int, accessFlags := 26, slot := 1, constantValue := 0 }, { name := "$assertionsDisabled", type := .boolean, accessFlags := 4120, slot := 2, constantValue := 0 }]
  methods := #[k3m0, k3m1]
  instanceTypes := #[]
  staticTypes := #[.int, .int, .boolean]
  resolved := Array.replicate 1029 none
  statics := none }

def pool4 : Array CpInfo := pool [(1, u "java/lang/Cloneable"), (0, .class_ 1), (0, u "java/lang/Object"), (0, .class_ 3)] 3

/-- java/lang/Cloneable -/
def k4 : Class := { plain "java/lang/Cloneable" (some 0) with
  accessFlags := 1537
  interfaces := #[]
  cf := some (fileOf pool4 2 #[] #[] 1537 4 #[] #[])
  fields := #[]
  methods := #[]
  instanceTypes := #[]
  staticTypes := #[]
  resolved := Array.replicate 8 none
  statics := none }

def pool5 : Array CpInfo := pool [(1, u "java/io/Serializable"), (0, .class_ 1), (0, u "java/lang/Object"), (0, .class_ 3)] 3

/-- java/io/Serializable -/
def k5 : Class := { plain "java/io/Serializable" (some 0) with
  accessFlags := 1537
  interfaces := #[]
  cf := some (fileOf pool5 2 #[] #[] 1537 4 #[] #[])
  fields := #[]
  methods := #[]
  instanceTypes := #[]
  staticTypes := #[]
  resolved := Array.replicate 8 none
  statics := none }

/-- the primitive byte -/
def k6 : Class := { plain "byte" none with kind := .primitive 'B', accessFlags := 0x411 }
/-- [B -/
def k7 : Class := { plain "[B" (some 0) with kind := .array 6 .byte, interfaces := #[4, 5], accessFlags := 1041 }

/-- the primitive int -/
def k8 : Class := { plain "int" none with kind := .primitive 'I', accessFlags := 0x411 }
/-- [I -/
def k9 : Class := { plain "[I" (some 0) with kind := .array 8 .int, interfaces := #[4, 5], accessFlags := 1041 }

/-- the primitive long -/
def k10 : Class := { plain "long" none with kind := .primitive 'J', accessFlags := 0x411 }
/-- [J -/
def k11 : Class := { plain "[J" (some 0) with kind := .array 10 .long, interfaces := #[4, 5], accessFlags := 1041 }

def heap : Heap := #[]
def classes : Array Class := #[k0, k1, k2, k3, k4, k5, k6, k7, k8, k9, k10, k11]
def interned : List (Array UInt16 × Addr) := []
def slotsUsed : Nat := 0
def theMethod : MethodId := ⟨1, 1⟩
def args0 : Array Value := #[.long 1, .long 3, .long 2, .int 5, .int 4, .int 6]
def aboutOver (below : List Frame) : State where
  vm := { classes := classes, interned := interned.toArray }
  heap := heap
  slotsUsed := slotsUsed
  threads := #[{ frames := .invoking theMethod args0 :: below }]
def below0 : List Frame := [.native { method := ⟨0, 0⟩, args := #[] }]
def about1 : State := aboutOver below0
def p0 : Program := .bare "" "" ""
def e0 : Env := launch0.env 0 0 0
theorem w_frames : about1.frames = Frame.invoking theMethod args0 :: below0 := rfl
set_option maxRecDepth 65536 in
theorem w_args : argsFit about1.vm theMethod args0 = true := by decide +kernel
set_option maxRecDepth 65536 in
theorem w_heap : heapFits about1 = true := by decide +kernel
set_option maxRecDepth 65536 in
theorem w_runnable : about1.curStatus? = some .runnable := by decide +kernel
set_option maxRecDepth 65536 in
theorem w_alone : about1.alone = true := by decide +kernel
set_option maxRecDepth 65536 in
theorem w_named : about1.methodNamed? x = some theMethod := by decide +kernel
set_option maxRecDepth 65536 in
theorem w_hears : about1.hears theMethod below0 = true := by decide +kernel
set_option maxRecDepth 65536 in
theorem w_ripe : about1.ripe theMethod args0 below0 = true := by decide +kernel
theorem w_running : about1.status = .running := rfl
set_option maxRecDepth 65536 in
theorem w_room : about1.hasRoom e0.platform room_1 = true :=
  launch0.hasRoom_least _ room_1 (by decide +kernel) (by decide +kernel) (by decide +kernel) (by decide +kernel) (by decide +kernel) (by decide +kernel)
theorem allAtoms_all (ts : List Jvm.Cond) (a : Array Jvm.Value) (st : Jvm.State) : (allAtoms ts).before a st = ts.all (fun c => c.before a st) := by
  induction ts with
  | nil => rfl
  | cons c t ih =>
    show (Jvm.Cond.and c (allAtoms t)).before a st = _
    rw [Jvm.Cond.before_and, ih, List.all_cons]
def words1 : List Jvm.Cond := Jvm.Cond.code x code maxLocals ret :: tables_1
/-- a 'code' word, met by the world's own term for the bytes: nothing is compared byte by byte -/
theorem code_word {y : MethodName} {bytes : ByteArray} {mx : Nat} {rt : Option FieldType} {a : Array Value} {s : State} {m : MethodId} {meth : Method} {c : Code} (h1 : s.methodNamed? y = some m) (h2 : s.vm.method? m = some meth) (h3 : meth.code = some c) (h4 : c.code = bytes)
    (h5 : (c.maxLocals == mx && c.exceptionTable.isEmpty && decide (c.maxStack ≤ mostOperands) && decide (meth.sig.returnType = rt) && !meth.locks && decide (parseMethodDescriptor y.desc = some meth.sig)) = true) : (Jvm.Cond.code y bytes mx rt).before a s = true := by
  simp only [Bool.and_eq_true, beq_iff_eq, Bool.not_eq_true', decide_eq_true_eq] at h5
  obtain ⟨⟨⟨⟨⟨g1, g2⟩, g3⟩, g4⟩, g5⟩, g6⟩ := h5
  simp [Cond.before, Cond.holds, Cond.value, h1, h2, h3, h4, g1, g2, g3, g4, g5, g6]
def isCode : Jvm.Cond → Bool
  | .code _ _ _ _ => true
  | _ => false
theorem all_split {L : List Jvm.Cond} {P : Jvm.Cond → Bool} (h1 : L.all (fun c => isCode c || P c) = true) (h2 : ∀ c ∈ L.filter isCode, P c = true) : L.all P = true := by
  refine List.all_eq_true.mpr fun c hc => ?_
  have h := List.all_eq_true.mp h1 c hc
  rcases Bool.eq_false_or_eq_true (isCode c) with hi | hi
  · exact h2 c (List.mem_filter.mpr ⟨hc, hi⟩)
  · simpa [hi] using h
set_option maxRecDepth 65536 in
theorem w_c0 : (Jvm.Cond.code x code maxLocals ret).before args0 about1 = true := code_word (m := ⟨1, 1⟩) (meth := k1m1) (c := k1c1) (by decide +kernel) rfl rfl rfl (by decide +kernel)
set_option maxRecDepth 65536 in
theorem w_c1 : (Jvm.Cond.code ({ cls := "com/example/mopor/mopor/reduction/LongIntTableGetPinLaw", name := "fix", desc := "(J)J" } : Jvm.MethodName) method_3_code (2 : Nat) (Option.some Jvm.ClassFile.FieldType.long)).before args0 about1 = true := code_word (m := ⟨1, 2⟩) (meth := k1m2) (c := k1c2) (by decide +kernel) rfl rfl rfl (by decide +kernel)
set_option maxRecDepth 65536 in
theorem w_c2 : (Jvm.Cond.code ({ cls := "com/example/mopor/mopor/reduction/LongIntTable", name := "<init>", desc := "()V" } : Jvm.MethodName) prog_19_method_1_code (1 : Nat) (Option.none : Option Jvm.ClassFile.FieldType)).before args0 about1 = true := code_word (m := ⟨2, 0⟩) (meth := k2m0) (c := k2c0) (by decide +kernel) rfl rfl rfl (by decide +kernel)
set_option maxRecDepth 65536 in
theorem w_c3 : (Jvm.Cond.code ({ cls := "java/lang/Object", name := "<init>", desc := "()V" } : Jvm.MethodName) object_method_1_code (1 : Nat) (Option.none : Option Jvm.ClassFile.FieldType)).before args0 about1 = true := code_word (m := ⟨0, 0⟩) (meth := k0m0) (c := k0c0) (by decide +kernel) rfl rfl rfl (by decide +kernel)
set_option maxRecDepth 65536 in
theorem w_c4 : (Jvm.Cond.code ({ cls := "com/example/mopor/mopor/reduction/LongIntTable", name := "emptyKeys", desc := "(I)[J" } : Jvm.MethodName) prog_19_method_6_code (2 : Nat) (Option.some (Jvm.ClassFile.FieldType.array Jvm.ClassFile.FieldType.long))).before args0 about1 = true := code_word (m := ⟨2, 4⟩) (meth := k2m4) (c := k2c4) (by decide +kernel) rfl rfl rfl (by decide +kernel)
set_option maxRecDepth 65536 in
theorem w_c5 : (Jvm.Cond.code ({ cls := "java/util/Arrays", name := "fill", desc := "([JJ)V" } : Jvm.MethodName) jdk_65_method_101_code (5 : Nat) (Option.none : Option Jvm.ClassFile.FieldType)).before args0 about1 = true := code_word (m := ⟨3, 1⟩) (meth := k3m1) (c := k3c1) (by decide +kernel) rfl rfl rfl (by decide +kernel)
set_option maxRecDepth 65536 in
theorem w_c6 : (Jvm.Cond.code ({ cls := "com/example/mopor/mopor/reduction/LongIntTable", name := "get", desc := "(J)I" } : Jvm.MethodName) prog_19_method_2_code (4 : Nat) (Option.some Jvm.ClassFile.FieldType.int)).before args0 about1 = true := code_word (m := ⟨2, 1⟩) (meth := k2m1) (c := k2c1) (by decide +kernel) rfl rfl rfl (by decide +kernel)
set_option maxRecDepth 65536 in
theorem w_c7 : (Jvm.Cond.code ({ cls := "com/example/mopor/mopor/reduction/LongIntTable", name := "slotOf", desc := "([JJ)I" } : Jvm.MethodName) prog_19_method_5_code (7 : Nat) (Option.some Jvm.ClassFile.FieldType.int)).before args0 about1 = true := code_word (m := ⟨2, 3⟩) (meth := k2m3) (c := k2c3) (by decide +kernel) rfl rfl rfl (by decide +kernel)
set_option maxRecDepth 65536 in
theorem w_c8 : (Jvm.Cond.code ({ cls := "com/example/mopor/mopor/reduction/LongIntTable", name := "add", desc := "(JI)Z" } : Jvm.MethodName) prog_19_method_3_code (5 : Nat) (Option.some Jvm.ClassFile.FieldType.boolean)).before args0 about1 = true := code_word (m := ⟨2, 2⟩) (meth := k2m2) (c := k2c2) (by decide +kernel) rfl rfl rfl (by decide +kernel)
set_option maxRecDepth 65536 in
theorem w_c9 : (Jvm.Cond.code ({ cls := "com/example/mopor/mopor/reduction/LongIntTableGetPinLaw", name := "exp", desc := "(JJJJIII)I" } : Jvm.MethodName) method_4_code (11 : Nat) (Option.some Jvm.ClassFile.FieldType.int)).before args0 about1 = true := code_word (m := ⟨1, 3⟩) (meth := k1m3) (c := k1c3) (by decide +kernel) rfl rfl rfl (by decide +kernel)
def codes1 : List Jvm.Cond := [Jvm.Cond.code x code maxLocals ret, Jvm.Cond.code ({ cls := "com/example/mopor/mopor/reduction/LongIntTableGetPinLaw", name := "fix", desc := "(J)J" } : Jvm.MethodName) method_3_code (2 : Nat) (Option.some Jvm.ClassFile.FieldType.long), Jvm.Cond.code ({ cls := "com/example/mopor/mopor/reduction/LongIntTable", name := "<init>", desc := "()V" } : Jvm.MethodName) prog_19_method_1_code (1 : Nat) (Option.none : Option Jvm.ClassFile.FieldType), Jvm.Cond.code ({ cls := "java/lang/Object", name := "<init>", desc := "()V" } : Jvm.MethodName) object_method_1_code (1 : Nat) (Option.none : Option Jvm.ClassFile.FieldType), Jvm.Cond.code ({ cls := "com/example/mopor/mopor/reduction/LongIntTable", name := "emptyKeys", desc := "(I)[J" } : Jvm.MethodName) prog_19_method_6_code (2 : Nat) (Option.some (Jvm.ClassFile.FieldType.array Jvm.ClassFile.FieldType.long)), Jvm.Cond.code ({ cls := "java/util/Arrays", name := "fill", desc := "([JJ)V" } : Jvm.MethodName) jdk_65_method_101_code (5 : Nat) (Option.none : Option Jvm.ClassFile.FieldType), Jvm.Cond.code ({ cls := "com/example/mopor/mopor/reduction/LongIntTable", name := "get", desc := "(J)I" } : Jvm.MethodName) prog_19_method_2_code (4 : Nat) (Option.some Jvm.ClassFile.FieldType.int), Jvm.Cond.code ({ cls := "com/example/mopor/mopor/reduction/LongIntTable", name := "slotOf", desc := "([JJ)I" } : Jvm.MethodName) prog_19_method_5_code (7 : Nat) (Option.some Jvm.ClassFile.FieldType.int), Jvm.Cond.code ({ cls := "com/example/mopor/mopor/reduction/LongIntTable", name := "add", desc := "(JI)Z" } : Jvm.MethodName) prog_19_method_3_code (5 : Nat) (Option.some Jvm.ClassFile.FieldType.boolean), Jvm.Cond.code ({ cls := "com/example/mopor/mopor/reduction/LongIntTableGetPinLaw", name := "exp", desc := "(JJJJIII)I" } : Jvm.MethodName) method_4_code (11 : Nat) (Option.some Jvm.ClassFile.FieldType.int)]
set_option maxRecDepth 65536 in
theorem codes_eq : words1.filter isCode = codes1 := rfl
theorem w_codes : ∀ c ∈ words1.filter isCode, c.before args0 about1 = true := by
  rw [codes_eq]
  intro c hc
  simp only [codes1, List.mem_cons, List.not_mem_nil, or_false] at hc
  rcases hc with rfl | rfl | rfl | rfl | rfl | rfl | rfl | rfl | rfl | rfl
  · exact w_c0
  · exact w_c1
  · exact w_c2
  · exact w_c3
  · exact w_c4
  · exact w_c5
  · exact w_c6
  · exact w_c7
  · exact w_c8
  · exact w_c9
set_option maxRecDepth 65536 in
theorem w_t1 : (words1.take 24).all (fun c => isCode c || c.before args0 about1) = true := by decide +kernel
set_option maxRecDepth 65536 in
theorem w_t2 : ((words1.drop 24).take 24).all (fun c => isCode c || c.before args0 about1) = true := by decide +kernel
set_option maxRecDepth 65536 in
theorem w_t3 : ((words1.drop 24).drop 24).all (fun c => isCode c || c.before args0 about1) = true := by decide +kernel
theorem w_tables : (allAtoms (Jvm.Cond.code x code maxLocals ret :: tables_1)).before args0 about1 = true := by
  rw [allAtoms_all]
  show words1.all (fun c => c.before args0 about1) = true
  refine all_split ?_ w_codes
  rw [← List.take_append_drop 24 words1, List.all_append, w_t1, ← List.take_append_drop 24 (words1.drop 24), List.all_append, w_t2, w_t3]
  rfl
set_option maxRecDepth 65536 in
theorem w_case : (Jvm.Cond.and given_1 narrow_1).before args0 about1 = true := by decide +kernel
theorem w_applies : (headSpec (Jvm.Cond.code x code maxLocals ret :: tables_1) room_1).applies x e0.platform about1 = true :=
  (Spec.applies_iff w_frames).mpr ⟨w_running, w_runnable, w_alone, w_named, w_hears, w_ripe, w_room, w_tables⟩
theorem atStart : AtStart classFile x code maxLocals ret World_1 tables_1 room_1 Calls_1 rest_1 Pre_1 launch0 p0 e0 about1 theMethod args0 below0 :=
  ⟨lists_1, trivial, launch0.admits_env _ _ _, launch0.least_env, fairChoices_fair.cas, fairChoices_fair.clock, w_frames, w_args, w_heap, w_applies, trivial, trivial, w_case⟩
end start1
theorem witness_1 : WitnessClaimed_1 := ⟨start1.p0, start1.e0, start1.about1, start1.theMethod, start1.args0, start1.below0, start1.atStart⟩
end Jvm.Pilot.@@N@@
