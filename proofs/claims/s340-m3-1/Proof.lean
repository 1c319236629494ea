import JvmDerived
import JvmDerived.Pilot.@@N@@Statement
import JvmDerived.Pilot.@@N@@Code
set_option linter.unusedVariables false
set_option linter.unusedSimpArgs false
namespace Jvm.RoadKit
open Sem ClassFile Op Lib Jvm.Stand Jvm.Free Jvm.LawKit
section New
variable {p : Program} {l : Launch} {e : Env} {R : Room} {s : State} {m : MethodId} {args : Array Value} {below : List Frame} {meth : Method} {c : Code} {T : State} {locs : List Loc} {cells slots : Nat}
theorem retI (X : Stand p l e R s m args below meth c T locs cells slots) (hx : p.tables.exec = Jvm.exec) {pc : Nat} {Ls : Array Slot} {z : Int32} {rest : List Value} (hret : meth.sig.returnType = some .int) (hd : decode c.code pc = .ok (.ireturn, 1)) {fs : List Frame}
    (hl : ∀ (f : JFrame) (acts : List Action), f.method = m → f.locked = none → f.entered = [] → (doReturn e (T.setTop f) acts (some (.int z))).1 = T.setFrames fs) : Steps p.tables e below (T.setTop (mkF m pc Ls (.int z :: rest))) (T.setFrames fs) := by
  have hm' : T.vm.method? m = some meth := X.method'
  have hn : narrow .int (.int z) = .int z := rfl
  show Steps p.tables e below (T.setTop { method := m, pc := pc, locals := Ls, stack := _ :: rest, locked := none }) _
  jvm_step X.here [X.here.top, hx, hd, hm', hret, hn]
  first | (intro acts; rw [hl _ acts rfl rfl rfl]) | rw [hl _ _ rfl rfl rfl]
  exact Steps.refl _
end New
end Jvm.RoadKit
namespace Jvm.Pilot.@@N@@
open Jvm Jvm.ClassFile Sem Op Lib Jvm.Free Jvm.Stand Jvm.LawKit Jvm.RoadKit Bundle Jvm.Pilot.@@N@@.Jvm.D
def QP (r : Option Value) (h0 : Heap) (n0 : Nat) (v : Option Value) (h : Heap) (L : List Loc) : Prop := v = r ∧ Fr n0 L ∧ h = h0
def Ctx (p : Program) (s : State) (m : MethodId) (meth : Method) (c : Code) (Z : State) (a0 : Array Value) (own : String) (bytes : ByteArray) (ml : Nat) (rt : Option FieldType) (name : String) : Prop :=
  p.tables.exec = Jvm.exec ∧ Z.Warmed39 s.vm ∧ (∀ d ∈ tables_1, d.before a0 Z = true) ∧ c.code = bytes ∧ c.maxLocals = ml ∧ s.vm.findClass own = some m.cls ∧ meth.sig.returnType = rt ∧ meth.locks = false ∧ meth.name = name
/-- from T with the frame g on top the run comes to a return, of which Φ holds -/
def Runs (p : Program) (e : Env) (below : List Frame) (s : State) (Φ : Option Value → Heap → List Loc → Prop) (k n : Nat) (T : State) (g : JFrame) : Prop :=
  ∃ s₂ o, Steps p.tables e below (T.setTop g) s₂ ∧ s₂.status = .running ∧ Ended s₂ below o ∧ ∃ v L, o = .returned v ∧ Φ v s₂.heap L ∧ FrameEnd s o s₂ L k n
section Own
variable {p : Program} {l : Launch} {e : Env} {R : Room} {s : State} {m : MethodId} {args : Array Value} {below : List Frame} {meth : Method} {c : Code} {T T' T0 Z : State} {a0 : Array Value} {locs : List Loc} {cells slots k n n0 : Nat} {h0 : Heap} {g g' : JFrame} {Φ : Option Value → Heap → List Loc → Prop}
theorem Runs.via (h : ∀ t, Steps p.tables e below (T'.setTop g') t → Steps p.tables e below (T.setTop g) t) (r : Runs p e below s Φ k n T' g') : Runs p e below s Φ k n T g := by
  obtain ⟨s₂, o, h1, r⟩ := r
  exact ⟨s₂, o, h _ h1, r⟩
theorem QP.cast {r r' : Option Value} (h : r = r') (H : Runs p e below s (QP r' h0 n0) k n T g) : Runs p e below s (QP r h0 n0) k n T g := by rw [h]; exact H
theorem own_retI (X : Stand p l e R s m args below meth c T locs cells slots) (hx : p.tables.exec = Jvm.exec) (hlk : meth.locks = false) (hret : meth.sig.returnType = some .int) {pc : Nat} {Ls : Array Slot} {z : Int32} {rest : List Value} (hd : decode c.code pc = .ok (.ireturn, 1)) (hk : cells ≤ k) (hn : slots ≤ n) (hΦ : Φ (some (.int z)) T.heap locs) :
    Runs p e below s Φ k n T (mkF m pc Ls (.int z :: rest)) := by
  obtain ⟨fs, hr, hrun, hended, hW, hsame⟩ := X.leave (v := some (.int z)) (fun h => by rw [hret] at h; cases h) hlk
  exact ⟨_, _, retI X hx hret hd hr, hrun, hended, _, _, rfl, hΦ, ⟨_, rfl⟩, hW, hsame.mono hk hn⟩
theorem own_retN (X : Stand p l e R s m args below meth c T locs cells slots) (hx : p.tables.exec = Jvm.exec) (hlk : meth.locks = false) {t : FieldType} (hret : meth.sig.returnType = some t) (ht : t = .boolean ∨ t = .byte ∨ t = .char ∨ t = .short) {pc : Nat} {Ls : Array Slot} {z : Int32} {rest : List Value} (hd : decode c.code pc = .ok (.ireturn, 1)) (hk : cells ≤ k) (hn : slots ≤ n) (hΦ : Φ (some (.int (nar t z))) T.heap locs) :
    Runs p e below s Φ k n T (mkF m pc Ls (.int z :: rest)) := by
  obtain ⟨fs, hr, hrun, hended, hW, hsame⟩ := X.leave (v := some (.int (nar t z))) (fun h => by rw [hret] at h; cases h) hlk
  exact ⟨_, _, retN X hx hret ht hd hr, hrun, hended, _, _, rfl, hΦ, ⟨_, rfl⟩, hW, hsame.mono hk hn⟩
theorem own_retJ (X : Stand p l e R s m args below meth c T locs cells slots) (hx : p.tables.exec = Jvm.exec) (hlk : meth.locks = false) (hret : meth.sig.returnType = some .long) {pc : Nat} {Ls : Array Slot} {z : Int64} (hd : decode c.code pc = .ok (.lreturn, 1)) (hk : cells ≤ k) (hn : slots ≤ n) (hΦ : Φ (some (.long z)) T.heap locs) :
    Runs p e below s Φ k n T (mkF m pc Ls [.long z]) := by
  obtain ⟨fs, hr, hrun, hended, hW, hsame⟩ := X.leave (v := some (.long z)) (fun h => by rw [hret] at h; cases h) hlk
  exact ⟨_, _, X.lreturnOut hx hret hd hr, hrun, hended, _, _, rfl, hΦ, ⟨_, rfl⟩, hW, hsame.mono hk hn⟩
theorem own_privSel {s : State} {args : Array Value} {y : MethodName} {n : Nat} (hwi : (Cond.instantiable y.cls n).before args s = true) (hp : (Cond.privateMethod y).before args s = true) (hinst : (Cond.instanceMethod y).before args s = true) (hy : y.cls ≠ "java/lang/invoke/MethodHandle" ∧ y.cls ≠ "java/lang/invoke/VarHandle") : (Cond.selects y.cls y y).before args s = true := by
  obtain ⟨c, k, h1, h2, h3, h4, -⟩ := Cond.instantiable_spec hwi
  exact selects_self_of_private h1 h2 (by simp only [Bool.or_eq_false_iff] at h4; exact h4.1) (Cond.privateMethod_at hp) hinst hy
theorem own_retV (X : Stand p l e R s m args below meth c T locs cells slots) (hx : p.tables.exec = Jvm.exec) (hlk : meth.locks = false) (hret : meth.sig.returnType = none) {pc : Nat} {Ls : Array Slot} (hd : decode c.code pc = .ok (.return_, 1)) (hk : cells ≤ k) (hn : slots ≤ n) (hΦ : Φ none T.heap locs) :
    Runs p e below s Φ k n T (mkF m pc Ls []) := by
  obtain ⟨fs, hr, hrun, hended, hW, hsame⟩ := X.leave (v := none) (fun _ => rfl) hlk
  exact ⟨_, _, X.returnOut hx hret hd hr, hrun, hended, _, _, rfl, hΦ, ⟨_, rfl⟩, hW, hsame.mono hk hn⟩
theorem own_retR (X : Stand p l e R s m args below meth c T locs cells slots) (hx : p.tables.exec = Jvm.exec) (hlk : meth.locks = false) {t : FieldType} (hret : meth.sig.returnType = some t) (ht : t.isReference = true) {pc : Nat} {Ls : Array Slot} {a : Addr} {rest : List Value} (hd : decode c.code pc = .ok (.areturn, 1)) (hk : cells ≤ k) (hn : slots ≤ n) (hΦ : Φ (some (.ref a)) T.heap locs) :
    Runs p e below s Φ k n T (mkF m pc Ls (.ref a :: rest)) := by
  obtain ⟨fs, hr, hrun, hended, hW, hsame⟩ := X.leave (v := some (.ref a)) (fun h => by rw [hret] at h; cases h) hlk
  exact ⟨_, _, retOut X hx hret (by cases t <;> first | rfl | (cases ht; done)) (Or.inr (Or.inr (Or.inr (Or.inr ⟨rfl, ht, rfl⟩)))) hd hr, hrun, hended, _, _, rfl, hΦ, ⟨_, rfl⟩, hW, hsame.mono hk hn⟩
theorem bindE {α β : Type} {G : Prop} {x : Option α} {k : α → Option β} {r : β} (hr : x.bind k = some r) (H : ∀ v, x = some v → k v = some r → G) : G := by
  cases x with
  | none => exact nomatch hr
  | some v => exact H v rfl hr
def letO {α β : Type} (x : α) (k : α → β) : β := k x
theorem letE {α β : Type} {G : Prop} {x : α} {k : α → Option β} {r : β} (hr : letO x k = some r) (H : ∀ v, v = x → k v = some r → G) : G := H x rfl hr
theorem iteE {β : Type} {G P : Prop} [Decidable P] {a b : Option β} {r : β} (hr : (if P then a else b) = some r) (H1 : P → a = some r → G) (H2 : ¬ P → b = some r → G) : G := by
  by_cases h : P
  · rw [if_pos h] at hr; exact H1 h hr
  · rw [if_neg h] at hr; exact H2 h hr
/-- an array's place, a store, its length, a new array -/
def rdO {α : Type} (xs : List α) (j : Int32) : Option α := if j < 0 then none else xs[j.toNatClampNeg]?
def wrO {α : Type} (xs : List α) (j : Int32) (v : α) : Option (List α) := if j < 0 ∨ xs.length ≤ j.toNatClampNeg then none else some (xs.set j.toNatClampNeg v)
def lenO {α : Type} (xs : List α) : Int32 := xs.length.toInt32
def mkO (n : Int32) (cap : Nat) : Option (List Int32) := if n < 0 ∨ cap < n.toNatClampNeg then none else some (List.replicate n.toNatClampNeg 0)
def mkOJ (n : Int32) (cap : Nat) : Option (List Int64) := if n < 0 ∨ cap < n.toNatClampNeg then none else some (List.replicate n.toNatClampNeg 0)
def AI (Z : State) (h : Heap) (a : Addr) (ty : FieldType) (xs : List Int32) : Prop := ∃ c : Cell, Arr Z h a c ty ∧ c.slots = (xs.map Value.int).toArray
def AJ (Z : State) (h : Heap) (a : Addr) (ty : FieldType) (xs : List Int64) : Prop := ∃ c : Cell, Arr Z h a c ty ∧ c.slots = (xs.map Value.long).toArray
section Arrs
variable {p : Program} {l : Launch} {e : Env} {R : Room} {s : State} {m : MethodId} {args : Array Value} {below : List Frame} {meth : Method} {c : Code} {T Z : State} {a0 : Array Value} {locs : List Loc} {cells slots : Nat} {h h' : Heap} {a b : Addr} {ty : FieldType} {sl : Nat} {v : Value} {ws : List Addr}
theorem AI.lt {xs : List Int32} (F : AI Z h a ty xs) : a < h.size := by obtain ⟨c, A, -⟩ := F; exact A.lt
theorem AI.ext {xs : List Int32} (F : AI Z h a ty xs) (E : Ext h h') : AI Z h' a ty xs := by obtain ⟨c, A, q⟩ := F; exact ⟨c, A.ext E, q⟩
theorem AI.other {xs : List Int32} (F : AI Z h b ty xs) (W : Wr h h' a sl v) (q : b ≠ a) : AI Z h' b ty xs := by obtain ⟨c, A, r⟩ := F; exact ⟨c, A.other W q, r⟩
theorem AI.keep {xs : List Int32} (F : AI Z h a ty xs) (K : Keep h h' ws) (q : a ∉ ws) : AI Z h' a ty xs := by obtain ⟨c, A, r⟩ := F; exact ⟨c, ⟨K.2.1 a c A.1 q, A.2⟩, r⟩
theorem AJ.lt {xs : List Int64} (F : AJ Z h a ty xs) : a < h.size := by obtain ⟨c, A, -⟩ := F; exact A.lt
theorem AJ.ext {xs : List Int64} (F : AJ Z h a ty xs) (E : Ext h h') : AJ Z h' a ty xs := by obtain ⟨c, A, q⟩ := F; exact ⟨c, A.ext E, q⟩
theorem AJ.other {xs : List Int64} (F : AJ Z h b ty xs) (W : Wr h h' a sl v) (q : b ≠ a) : AJ Z h' b ty xs := by obtain ⟨c, A, r⟩ := F; exact ⟨c, A.other W q, r⟩
theorem AJ.keep {xs : List Int64} (F : AJ Z h a ty xs) (K : Keep h h' ws) (q : a ∉ ws) : AJ Z h' a ty xs := by obtain ⟨c, A, r⟩ := F; exact ⟨c, ⟨K.2.1 a c A.1 q, A.2⟩, r⟩
theorem rd_at {α : Type} {f : α → Value} {xs : List α} {j : Int32} {z : α} {cl : Cell} (q : cl.slots = (xs.map f).toArray) (hr : rdO xs j = some z) : ¬ (j < 0 ∨ cl.slots.size ≤ j.toNatClampNeg) ∧ cl.slots[j.toNatClampNeg]? = some (f z) := by
  unfold rdO at hr
  by_cases hj : j < 0
  · rw [if_pos hj] at hr; exact nomatch hr
  · rw [if_neg hj] at hr
    obtain ⟨hi, he⟩ := List.getElem?_eq_some_iff.mp hr
    rw [q]
    refine ⟨?_, by simp [hr]⟩
    rintro (h1 | h1)
    · exact hj h1
    · simp at h1; omega
theorem wr_at2 {α : Type} {f : α → Value} {xs xs' : List α} {j : Int32} {z : α} {cl : Cell} (q : cl.slots = (xs.map f).toArray) (hr : wrO xs j z = some xs') : ¬ (j < 0 ∨ cl.slots.size ≤ j.toNatClampNeg) ∧ (cl.setSlot j.toNatClampNeg (f z)).slots = (xs'.map f).toArray := by
  unfold wrO at hr
  by_cases hj : j < 0 ∨ xs.length ≤ j.toNatClampNeg
  · rw [if_pos hj] at hr; exact nomatch hr
  · rw [if_neg hj] at hr
    obtain rfl := Option.some.inj hr
    refine ⟨by rw [q]; simpa using hj, ?_⟩
    simp only [Cell.setSlot, q]
    simp [List.map_set]
theorem ldI (X : Stand p l e R s m args below meth c T locs cells slots) (hx : p.tables.exec = Jvm.exec) (hZ : Z.Warmed39 s.vm) (eT : T.heap = h) {xs : List Int32} (A : AI Z h a .int xs) {j z : Int32} (hr : rdO xs j = some z) {g : JFrame} (hg : g.method = m) {rest : List Value} (hs : g.stack = .int j :: .ref a :: rest) (hd : decode c.code g.pc = .ok (.iaload, 1)) :
    ∀ target, Steps p.tables e below (T.setTop { g with pc := g.pc + 1, stack := .int z :: rest }) target → Steps p.tables e below (T.setTop g) target := by
  obtain ⟨cl, A, q⟩ := A
  obtain ⟨h1, h2⟩ := rd_at q hr
  exact X.iaload hx (j := j) (v := .int z) (by rw [eT]; exact A.1) (State.isArrayOf_alike hZ.alike A.2.1) A.2.2 h1 h2 hg hs hd
theorem ldB (X : Stand p l e R s m args below meth c T locs cells slots) (hx : p.tables.exec = Jvm.exec) (hZ : Z.Warmed39 s.vm) (eT : T.heap = h) {xs : List Int32} (A : AI Z h a .byte xs) {j z : Int32} (hr : rdO xs j = some z) {g : JFrame} (hg : g.method = m) {rest : List Value} (hs : g.stack = .int j :: .ref a :: rest) (hd : decode c.code g.pc = .ok (.baload, 1)) :
    ∀ target, Steps p.tables e below (T.setTop { g with pc := g.pc + 1, stack := .int z :: rest }) target → Steps p.tables e below (T.setTop g) target := by
  obtain ⟨cl, A, q⟩ := A
  obtain ⟨h1, h2⟩ := rd_at q hr
  exact X.baloadBytes hx (j := j) (v := .int z) (by rw [eT]; exact A.1) (State.isArrayOf_alike hZ.alike A.2.1) A.2.2 h1 h2 hg hs hd
theorem ldJ (X : Stand p l e R s m args below meth c T locs cells slots) (hx : p.tables.exec = Jvm.exec) (hZ : Z.Warmed39 s.vm) (eT : T.heap = h) {xs : List Int64} (A : AJ Z h a .long xs) {j : Int32} {z : Int64} (hr : rdO xs j = some z) {g : JFrame} (hg : g.method = m) {rest : List Value} (hs : g.stack = .int j :: .ref a :: rest) (hd : decode c.code g.pc = .ok (.laload, 1)) :
    ∀ target, Steps p.tables e below (T.setTop { g with pc := g.pc + 1, stack := .long z :: rest }) target → Steps p.tables e below (T.setTop g) target := by
  obtain ⟨cl, A, q⟩ := A
  obtain ⟨h1, h2⟩ := rd_at q hr
  exact X.laload hx (j := j) (v := .long z) (by rw [eT]; exact A.1) (State.isArrayOf_alike hZ.alike A.2.1) A.2.2 h1 h2 hg hs hd
theorem soI (X : Stand p l e R s m args below meth c T locs cells slots) (hx : p.tables.exec = Jvm.exec) (hZ : Z.Warmed39 s.vm) (eT : T.heap = h) {xs xs' : List Int32} (A : AI Z h a .int xs) {j z : Int32} (hr : wrO xs j z = some xs') {g : JFrame} (hg : g.method = m) {rest : List Value} (hs : g.stack = .int z :: .int j :: .ref a :: rest) (hd : decode c.code g.pc = .ok (.iastore, 1)) :
    ∃ T' h', Stand p l e R s m args below meth c T' (locs ++ [⟨a, j.toNatClampNeg⟩]) cells slots ∧ T'.heap = h' ∧ Wr h h' a j.toNatClampNeg (.int z) ∧ AI Z h' a .int xs' ∧ ∀ target, Steps p.tables e below (T'.setTop { g with pc := g.pc + 1, stack := rest }) target → Steps p.tables e below (T.setTop g) target := by
  obtain ⟨cl, A, q⟩ := A
  obtain ⟨h1, h2⟩ := wr_at2 q hr
  obtain ⟨T', h', X', e', W, st⟩ := stI X hx hZ eT A h1 hg hs hd
  exact ⟨T', h', X', e', W, ⟨_, A.same W, h2⟩, st⟩
theorem soB (X : Stand p l e R s m args below meth c T locs cells slots) (hx : p.tables.exec = Jvm.exec) (hZ : Z.Warmed39 s.vm) (eT : T.heap = h) {xs xs' : List Int32} (A : AI Z h a .byte xs) {j z : Int32} (hr : wrO xs j (z.toInt8.toInt32) = some xs') {g : JFrame} (hg : g.method = m) {rest : List Value} (hs : g.stack = .int z :: .int j :: .ref a :: rest) (hd : decode c.code g.pc = .ok (.bastore, 1)) :
    ∃ T' h', Stand p l e R s m args below meth c T' (locs ++ [⟨a, j.toNatClampNeg⟩]) cells slots ∧ T'.heap = h' ∧ Wr h h' a j.toNatClampNeg (.int (z.toInt8.toInt32)) ∧ AI Z h' a .byte xs' ∧ ∀ target, Steps p.tables e below (T'.setTop { g with pc := g.pc + 1, stack := rest }) target → Steps p.tables e below (T.setTop g) target := by
  obtain ⟨cl, A, q⟩ := A
  obtain ⟨h1, h2⟩ := wr_at2 q hr
  obtain ⟨T', h', X', e', W, st⟩ := stB X hx hZ eT A h1 hg hs hd
  exact ⟨T', h', X', e', W, ⟨_, A.same W, h2⟩, st⟩
theorem soJ (X : Stand p l e R s m args below meth c T locs cells slots) (hx : p.tables.exec = Jvm.exec) (hZ : Z.Warmed39 s.vm) (eT : T.heap = h) {xs xs' : List Int64} (A : AJ Z h a .long xs) {j : Int32} {z : Int64} (hr : wrO xs j z = some xs') {g : JFrame} (hg : g.method = m) {rest : List Value} (hs : g.stack = .long z :: .int j :: .ref a :: rest) (hd : decode c.code g.pc = .ok (.lastore, 1)) :
    ∃ T' h', Stand p l e R s m args below meth c T' (locs ++ [⟨a, j.toNatClampNeg⟩]) cells slots ∧ T'.heap = h' ∧ Wr h h' a j.toNatClampNeg (.long z) ∧ AJ Z h' a .long xs' ∧ ∀ target, Steps p.tables e below (T'.setTop { g with pc := g.pc + 1, stack := rest }) target → Steps p.tables e below (T.setTop g) target := by
  obtain ⟨cl, A, q⟩ := A
  obtain ⟨h1, h2⟩ := wr_at2 q hr
  obtain ⟨T', h', X', e', W, st⟩ := stJ X hx hZ eT A h1 hg hs hd
  exact ⟨T', h', X', e', W, ⟨_, A.same W, h2⟩, st⟩
theorem lenAI (X : Stand p l e R s m args below meth c T locs cells slots) (hx : p.tables.exec = Jvm.exec) (hZ : Z.Warmed39 s.vm) (eT : T.heap = h) {xs : List Int32} (A : AI Z h a ty xs) {g : JFrame} (hg : g.method = m) {rest : List Value} (hs : g.stack = .ref a :: rest) (hd : decode c.code g.pc = .ok (.arraylength, 1)) :
    ∀ target, Steps p.tables e below (T.setTop { g with pc := g.pc + 1, stack := .int (lenO xs) :: rest }) target → Steps p.tables e below (T.setTop g) target := by
  obtain ⟨cl, A, q⟩ := A
  have e1 : cl.slots.size.toInt32 = lenO xs := by rw [q]; simp [lenO]
  intro t k
  refine X.arraylength hx (by rw [eT]; exact A.1) (State.isArrayOf_alike hZ.alike A.2.1) hg hs hd _ ?_
  rw [e1]; exact k
theorem lenAJ (X : Stand p l e R s m args below meth c T locs cells slots) (hx : p.tables.exec = Jvm.exec) (hZ : Z.Warmed39 s.vm) (eT : T.heap = h) {xs : List Int64} (A : AJ Z h a ty xs) {g : JFrame} (hg : g.method = m) {rest : List Value} (hs : g.stack = .ref a :: rest) (hd : decode c.code g.pc = .ok (.arraylength, 1)) :
    ∀ target, Steps p.tables e below (T.setTop { g with pc := g.pc + 1, stack := .int (lenO xs) :: rest }) target → Steps p.tables e below (T.setTop g) target := by
  obtain ⟨cl, A, q⟩ := A
  have e1 : cl.slots.size.toInt32 = lenO xs := by rw [q]; simp [lenO]
  intro t k
  refine X.arraylength hx (by rw [eT]; exact A.1) (State.isArrayOf_alike hZ.alike A.2.1) hg hs hd _ ?_
  rw [e1]; exact k
theorem newI (X : Stand p l e R s m args below meth c T locs cells slots) (hx : p.tables.exec = Jvm.exec) (hZ : Z.Warmed39 s.vm) {aty : ArrayType} (ht : newarray.typeOf aty = ty) (hdv : defaultValue ty = .int 0) (w : (Cond.arrayClass ty).before a0 Z = true) (eT : T.heap = h) {n : Int32} {cap : Nat} {xs : List Int32} (hr : mkO n cap = some xs) {g : JFrame} (hg : g.method = m) (hd : decode c.code g.pc = .ok (.newarray aty, 2)) {rest : List Value} (hs : g.stack = .int n :: rest) (hb : cap * 8 ≤ 536870912) (hc : cells + 1 ≤ R.cells) (hl : slots + cap ≤ R.slots) :
    ∃ T' h', Stand p l e R s m args below meth c T' locs (cells + 1) (slots + cap) ∧ T'.heap = h' ∧ Ext h h' ∧ AI Z h' h.size ty xs ∧ ∀ target, Steps p.tables e below (T'.setTop { g with pc := g.pc + 2, stack := .ref h.size :: rest }) target → Steps p.tables e below (T.setTop g) target := by
  subst ht
  unfold mkO at hr
  by_cases hn : n < 0 ∨ cap < n.toNatClampNeg
  · rw [if_pos hn] at hr; exact nomatch hr
  · rw [if_neg hn] at hr
    obtain rfl := Option.some.inj hr
    obtain ⟨T', h', cA, X', e', E, A, st⟩ := newP X hx hZ w eT hg hd hs (fun q => hn (Or.inl q)) (cap := cap) (Nat.le_of_not_lt fun q => hn (Or.inr q)) hb hc hl
    exact ⟨T', h', X', e', E, ⟨_, A, by simp [newA, hdv]⟩, st⟩
theorem newJ (X : Stand p l e R s m args below meth c T locs cells slots) (hx : p.tables.exec = Jvm.exec) (hZ : Z.Warmed39 s.vm) {aty : ArrayType} (ht : newarray.typeOf aty = .long) (w : (Cond.arrayClass .long).before a0 Z = true) (eT : T.heap = h) {n : Int32} {cap : Nat} {xs : List Int64} (hr : mkOJ n cap = some xs) {g : JFrame} (hg : g.method = m) (hd : decode c.code g.pc = .ok (.newarray aty, 2)) {rest : List Value} (hs : g.stack = .int n :: rest) (hb : cap * 8 ≤ 536870912) (hc : cells + 1 ≤ R.cells) (hl : slots + cap ≤ R.slots) :
    ∃ T' h', Stand p l e R s m args below meth c T' locs (cells + 1) (slots + cap) ∧ T'.heap = h' ∧ Ext h h' ∧ AJ Z h' h.size .long xs ∧ ∀ target, Steps p.tables e below (T'.setTop { g with pc := g.pc + 2, stack := .ref h.size :: rest }) target → Steps p.tables e below (T.setTop g) target := by
  unfold mkOJ at hr
  by_cases hn : n < 0 ∨ cap < n.toNatClampNeg
  · rw [if_pos hn] at hr; exact nomatch hr
  · rw [if_neg hn] at hr
    obtain rfl := Option.some.inj hr
    obtain ⟨T', h', cA, X', e', E, A, st⟩ := newP X hx hZ (by rw [ht]; exact w) eT hg hd hs (fun q => hn (Or.inl q)) (cap := cap) (Nat.le_of_not_lt fun q => hn (Or.inr q)) hb hc hl
    rw [ht] at A
    exact ⟨T', h', X', e', E, ⟨_, A, by simp [newA, defaultValue]⟩, st⟩
end Arrs
theorem d1_0 : decode jdk_29_method_69_code 0 = .ok (.iload_n 0, 1) := by decide +kernel
theorem d1_1 : decode jdk_29_method_69_code 1 = .ok (.iload_n 1, 1) := by decide +kernel
theorem d1_2 : decode jdk_29_method_69_code 2 = .ok (.if_icmp .gt 7, 3) := by decide +kernel
theorem d1_5 : decode jdk_29_method_69_code 5 = .ok (.iload_n 0, 1) := by decide +kernel
theorem d1_6 : decode jdk_29_method_69_code 6 = .ok (.goto 4, 3) := by decide +kernel
theorem d1_9 : decode jdk_29_method_69_code 9 = .ok (.iload_n 1, 1) := by decide +kernel
theorem d1_10 : decode jdk_29_method_69_code 10 = .ok (.ireturn, 1) := by decide +kernel
def g1_0 (x0 : Int32) (x1 : Int32) : Int32 := (if x1 < x0 then x1 else x0)
set_option maxRecDepth 65536 in
set_option maxHeartbeats 4000000 in
theorem b1_0 (C : Ctx p s m meth c Z a0 "java/lang/Math" jdk_29_method_69_code 2 (some .int) "min") (X0 : Stand p l e ({ frames := 0, cells := 0, slots := 0, locals := 0 } : Room) s m args below meth c T0 locs cells slots) (e0 : T0.heap = h0) (N0 : Fr n0 locs) (hk : cells ≤ 0) (hn : slots ≤ 0) (x0 : Int32) (x1 : Int32) :
    Runs p e below s (QP (some (.int (g1_0 x0 x1))) h0 n0) 0 0 T0 (mkF m 0 #[.val (.int x0), .val (.int x1)] []) := by
  have ⟨hx, hZ, hw, hby, hml, hown, hret, hlk, hnm⟩ := C
  refine Runs.via (T' := T0) (g' := (mkF m 2 #[.val (.int x0), .val (.int x1)] [(.int x1), (.int x0)])) (fun t k => ?_) ?_
  · show Steps p.tables e below (T0.setTop (mkF m 0 #[.val (.int x0), .val (.int x1)] [])) t
    refine XS.iloadN X0.here hx rfl (hb hby d1_0) rfl ?_
    show Steps p.tables e below (T0.setTop (mkF m 1 #[.val (.int x0), .val (.int x1)] [(.int x0)])) t
    refine XS.iloadN X0.here hx rfl (hb hby d1_1) rfl ?_
    exact k
  by_cases hc1 : x1 < x0
  · refine Runs.via (T' := T0) (g' := (mkF m 9 #[.val (.int x0), .val (.int x1)] [])) (fun t k => ?_) ?_
    · show Steps p.tables e below (T0.setTop (mkF m 2 #[.val (.int x0), .val (.int x1)] [(.int x1), (.int x0)])) t
      exact XS.icmpYes X0.here hx rfl (pc0 := 2) (pc' := 9) rfl (hb hby d1_2) rfl (tlt hc1).2.2.1 (by decide) (by decide) k
    refine Runs.via (T' := T0) (g' := (mkF m 10 #[.val (.int x0), .val (.int x1)] [(.int x1)])) (fun t k => ?_) ?_
    · show Steps p.tables e below (T0.setTop (mkF m 9 #[.val (.int x0), .val (.int x1)] [])) t
      refine XS.iloadN X0.here hx rfl (hb hby d1_9) rfl ?_
      exact k
    refine QP.cast (congrArg (fun z => some (Value.int z)) (show (g1_0 x0 x1) = x1 from (if_pos hc1))) ?_
    exact own_retI X0 hx hlk hret (hb hby d1_10) hk hn ⟨rfl, N0, e0⟩
  · refine Runs.via (T' := T0) (g' := (mkF m 5 #[.val (.int x0), .val (.int x1)] [])) (fun t k => ?_) ?_
    · show Steps p.tables e below (T0.setTop (mkF m 2 #[.val (.int x0), .val (.int x1)] [(.int x1), (.int x0)])) t
      exact XS.icmpNo X0.here hx rfl (hb hby d1_2) rfl (flt hc1).2.2.1 k
    refine Runs.via (T' := T0) (g' := (mkF m 10 #[.val (.int x0), .val (.int x1)] [(.int x0)])) (fun t k => ?_) ?_
    · show Steps p.tables e below (T0.setTop (mkF m 5 #[.val (.int x0), .val (.int x1)] [])) t
      refine XS.iloadN X0.here hx rfl (hb hby d1_5) rfl ?_
      show Steps p.tables e below (T0.setTop (mkF m 6 #[.val (.int x0), .val (.int x1)] [(.int x0)])) t
      refine XS.goto X0.here hx rfl (pc0 := 6) (pc' := 10) rfl (hb hby d1_6) (by decide) (by decide) ?_
      exact k
    refine QP.cast (congrArg (fun z => some (Value.int z)) (show (g1_0 x0 x1) = x0 from (if_neg hc1))) ?_
    exact own_retI X0 hx hlk hret (hb hby d1_10) hk hn ⟨rfl, N0, e0⟩
def f1 (x0 : Int32) (x1 : Int32) : Int32 := g1_0 x0 x1
theorem ef_1 (m : MethodId) (x0 : Int32) (x1 : Int32) : entryFrame m #[(.int x0), (.int x1)] 2 = mkF m 0 #[.val (.int x0), .val (.int x1)] [] := by first | (simp [entryFrame, mkF, argsToLocals, Value.category]; done) | rfl
set_option maxRecDepth 65536 in
set_option maxHeartbeats 4000000 in
theorem rm1 (l : Launch) (Z : State) (a0 : Array Value) (hw : ∀ d ∈ tables_1, d.before a0 Z = true) (ws : List Jvm.Cond) (x0 : Int32) (x1 : Int32) (h0 : Heap) (n0 : Nat) :
    MetFree l (⟨"java/lang/Math", "min", "(II)I"⟩ : MethodName) (head1 (Jvm.Cond.code (⟨"java/lang/Math", "min", "(II)I"⟩ : MethodName) jdk_29_method_69_code 2 (some .int) :: ws) ({ frames := 0, cells := 0, slots := 0, locals := 0 } : Room)) (fun a U => a = #[(.int x0), (.int x1)] ∧ Z.Warmed39 U.vm ∧ U.heap = h0) (fun _ _ _ _ _ => True) (fun _ U o U' => ∃ v L, o = .returned v ∧ QP (some (.int (f1 x0 x1))) h0 n0 v U'.heap L ∧ FrameEnd U o U' L ({ frames := 0, cells := 0, slots := 0, locals := 0 } : Room).cells ({ frames := 0, cells := 0, slots := 0, locals := 0 } : Room).slots) := by
  refine MetFree.of_bodySF (Jvm.Free.JP.mathPlain rfl (by decide +kernel)) hisR ?_
  intro p e s m args below meth c s₁ Bd hml0 hP hK
  obtain ⟨rfl, hZ, hh⟩ := hP
  have X0 : Stand p l e ({ frames := 0, cells := 0, slots := 0, locals := 0 } : Room) s m #[(.int x0), (.int x1)] below meth c s₁ [] 0 0 := Stand.of_body Bd
  have e0 : s₁.heap = h0 := by rw [← hh, Bd.state]; rfl
  have C : Ctx p s m meth c Z a0 "java/lang/Math" jdk_29_method_69_code 2 (some .int) "min" := ⟨Bd.exec, hZ, hw, Bd.bytes, hml0, findClass_of_methodNamed Bd.named, Bd.returns, BodyLoose.notSynchronized Bd, (name_of_methodNamed Bd.named Bd.method).1⟩
  refine Runs.via (fun t k => castTop (ef_1 m x0 x1) k) (b1_0 C X0 e0 (Fr.nil n0) (Nat.le_refl 0) (Nat.le_refl 0) x0 x1)
theorem pd_0 : parseMethodDescriptor "(II)I" = some ⟨[.int, .int], some .int⟩ := by decide +kernel
theorem d2_0 : decode jdk_29_method_65_code 0 = .ok (.iload_n 0, 1) := by decide +kernel
theorem d2_1 : decode jdk_29_method_65_code 1 = .ok (.iload_n 1, 1) := by decide +kernel
theorem d2_2 : decode jdk_29_method_65_code 2 = .ok (.if_icmp .lt 7, 3) := by decide +kernel
theorem d2_5 : decode jdk_29_method_65_code 5 = .ok (.iload_n 0, 1) := by decide +kernel
theorem d2_6 : decode jdk_29_method_65_code 6 = .ok (.goto 4, 3) := by decide +kernel
theorem d2_9 : decode jdk_29_method_65_code 9 = .ok (.iload_n 1, 1) := by decide +kernel
theorem d2_10 : decode jdk_29_method_65_code 10 = .ok (.ireturn, 1) := by decide +kernel
def g2_0 (x0 : Int32) (x1 : Int32) : Int32 := (if x0 < x1 then x1 else x0)
set_option maxRecDepth 65536 in
set_option maxHeartbeats 4000000 in
theorem b2_0 (C : Ctx p s m meth c Z a0 "java/lang/Math" jdk_29_method_65_code 2 (some .int) "max") (X0 : Stand p l e ({ frames := 0, cells := 0, slots := 0, locals := 0 } : Room) s m args below meth c T0 locs cells slots) (e0 : T0.heap = h0) (N0 : Fr n0 locs) (hk : cells ≤ 0) (hn : slots ≤ 0) (x0 : Int32) (x1 : Int32) :
    Runs p e below s (QP (some (.int (g2_0 x0 x1))) h0 n0) 0 0 T0 (mkF m 0 #[.val (.int x0), .val (.int x1)] []) := by
  have ⟨hx, hZ, hw, hby, hml, hown, hret, hlk, hnm⟩ := C
  refine Runs.via (T' := T0) (g' := (mkF m 2 #[.val (.int x0), .val (.int x1)] [(.int x1), (.int x0)])) (fun t k => ?_) ?_
  · show Steps p.tables e below (T0.setTop (mkF m 0 #[.val (.int x0), .val (.int x1)] [])) t
    refine XS.iloadN X0.here hx rfl (hb hby d2_0) rfl ?_
    show Steps p.tables e below (T0.setTop (mkF m 1 #[.val (.int x0), .val (.int x1)] [(.int x0)])) t
    refine XS.iloadN X0.here hx rfl (hb hby d2_1) rfl ?_
    exact k
  by_cases hc1 : x0 < x1
  · refine Runs.via (T' := T0) (g' := (mkF m 9 #[.val (.int x0), .val (.int x1)] [])) (fun t k => ?_) ?_
    · show Steps p.tables e below (T0.setTop (mkF m 2 #[.val (.int x0), .val (.int x1)] [(.int x1), (.int x0)])) t
      exact XS.icmpYes X0.here hx rfl (pc0 := 2) (pc' := 9) rfl (hb hby d2_2) rfl (tlt hc1).1 (by decide) (by decide) k
    refine Runs.via (T' := T0) (g' := (mkF m 10 #[.val (.int x0), .val (.int x1)] [(.int x1)])) (fun t k => ?_) ?_
    · show Steps p.tables e below (T0.setTop (mkF m 9 #[.val (.int x0), .val (.int x1)] [])) t
      refine XS.iloadN X0.here hx rfl (hb hby d2_9) rfl ?_
      exact k
    refine QP.cast (congrArg (fun z => some (Value.int z)) (show (g2_0 x0 x1) = x1 from (if_pos hc1))) ?_
    exact own_retI X0 hx hlk hret (hb hby d2_10) hk hn ⟨rfl, N0, e0⟩
  · refine Runs.via (T' := T0) (g' := (mkF m 5 #[.val (.int x0), .val (.int x1)] [])) (fun t k => ?_) ?_
    · show Steps p.tables e below (T0.setTop (mkF m 2 #[.val (.int x0), .val (.int x1)] [(.int x1), (.int x0)])) t
      exact XS.icmpNo X0.here hx rfl (hb hby d2_2) rfl (flt hc1).1 k
    refine Runs.via (T' := T0) (g' := (mkF m 10 #[.val (.int x0), .val (.int x1)] [(.int x0)])) (fun t k => ?_) ?_
    · show Steps p.tables e below (T0.setTop (mkF m 5 #[.val (.int x0), .val (.int x1)] [])) t
      refine XS.iloadN X0.here hx rfl (hb hby d2_5) rfl ?_
      show Steps p.tables e below (T0.setTop (mkF m 6 #[.val (.int x0), .val (.int x1)] [(.int x0)])) t
      refine XS.goto X0.here hx rfl (pc0 := 6) (pc' := 10) rfl (hb hby d2_6) (by decide) (by decide) ?_
      exact k
    refine QP.cast (congrArg (fun z => some (Value.int z)) (show (g2_0 x0 x1) = x0 from (if_neg hc1))) ?_
    exact own_retI X0 hx hlk hret (hb hby d2_10) hk hn ⟨rfl, N0, e0⟩
def f2 (x0 : Int32) (x1 : Int32) : Int32 := g2_0 x0 x1
theorem ef_2 (m : MethodId) (x0 : Int32) (x1 : Int32) : entryFrame m #[(.int x0), (.int x1)] 2 = mkF m 0 #[.val (.int x0), .val (.int x1)] [] := by first | (simp [entryFrame, mkF, argsToLocals, Value.category]; done) | rfl
set_option maxRecDepth 65536 in
set_option maxHeartbeats 4000000 in
theorem rm2 (l : Launch) (Z : State) (a0 : Array Value) (hw : ∀ d ∈ tables_1, d.before a0 Z = true) (ws : List Jvm.Cond) (x0 : Int32) (x1 : Int32) (h0 : Heap) (n0 : Nat) :
    MetFree l (⟨"java/lang/Math", "max", "(II)I"⟩ : MethodName) (head1 (Jvm.Cond.code (⟨"java/lang/Math", "max", "(II)I"⟩ : MethodName) jdk_29_method_65_code 2 (some .int) :: ws) ({ frames := 0, cells := 0, slots := 0, locals := 0 } : Room)) (fun a U => a = #[(.int x0), (.int x1)] ∧ Z.Warmed39 U.vm ∧ U.heap = h0) (fun _ _ _ _ _ => True) (fun _ U o U' => ∃ v L, o = .returned v ∧ QP (some (.int (f2 x0 x1))) h0 n0 v U'.heap L ∧ FrameEnd U o U' L ({ frames := 0, cells := 0, slots := 0, locals := 0 } : Room).cells ({ frames := 0, cells := 0, slots := 0, locals := 0 } : Room).slots) := by
  refine MetFree.of_bodySF (Jvm.Free.JP.mathPlain rfl (by decide +kernel)) hisR ?_
  intro p e s m args below meth c s₁ Bd hml0 hP hK
  obtain ⟨rfl, hZ, hh⟩ := hP
  have X0 : Stand p l e ({ frames := 0, cells := 0, slots := 0, locals := 0 } : Room) s m #[(.int x0), (.int x1)] below meth c s₁ [] 0 0 := Stand.of_body Bd
  have e0 : s₁.heap = h0 := by rw [← hh, Bd.state]; rfl
  have C : Ctx p s m meth c Z a0 "java/lang/Math" jdk_29_method_65_code 2 (some .int) "max" := ⟨Bd.exec, hZ, hw, Bd.bytes, hml0, findClass_of_methodNamed Bd.named, Bd.returns, BodyLoose.notSynchronized Bd, (name_of_methodNamed Bd.named Bd.method).1⟩
  refine Runs.via (fun t k => castTop (ef_2 m x0 x1) k) (b2_0 C X0 e0 (Fr.nil n0) (Nat.le_refl 0) (Nat.le_refl 0) x0 x1)
theorem d4_0 : decode jdk_30_method_1_code 0 = .ok (.aload_n 0, 1) := by decide +kernel
theorem d4_1 : decode jdk_30_method_1_code 1 = .ok (.invokespecial 1, 3) := by decide +kernel
theorem d4_4 : decode jdk_30_method_1_code 4 = .ok (.return_, 1) := by decide +kernel
def P4 (Z : State) (hE : Heap) (a1 : Addr) (q_a1_first : Int32) (q_a1_last : Int32) (n0 : Nat) (r : Unit) (v : Option Value) (h : Heap) (L : List Loc) : Prop := v = none ∧ Fr n0 L ∧ h = hE
def g4_0 (q_a1_first : Int32) (q_a1_last : Int32) : Option (Unit) := some ()
set_option maxRecDepth 65536 in
set_option maxHeartbeats 4000000 in
theorem b4_0 {hE : Heap} {a1 : Addr} {q_a1_first : Int32} {q_a1_last : Int32} {r : Unit} (C : Ctx p s m meth c Z a0 "java/lang/Record" jdk_30_method_1_code 1 none "<init>") (X0 : Stand p l e ({ frames := 1, cells := 0, slots := 0, locals := 12 } : Room) s m args below meth c T0 locs cells slots) (e0 : T0.heap = hE) (N0 : Fr n0 locs) (hk : cells ≤ 0) (hn : slots ≤ 0) (Z1 : n0 ≤ hE.size) (o0 : n0 ≤ a1) (E_a1_0 : Exa Z hE a1 "com/example/wirelace/wirelace/schema/Reserved$Range") (F_a1_first_0 : Fld Z hE a1 "com/example/wirelace/wirelace/schema/Reserved$Range" "first" "I" (.int q_a1_first)) (F_a1_last_0 : Fld Z hE a1 "com/example/wirelace/wirelace/schema/Reserved$Range" "last" "I" (.int q_a1_last)) (hr : g4_0 q_a1_first q_a1_last = some r) :
    Runs p e below s (P4 Z hE a1 q_a1_first q_a1_last n0 r) 0 0 T0 (mkF m 0 #[.val (.ref a1)] []) := by
  unfold g4_0 at hr
  have ⟨hx, hZ, hw, hby, hml, hown, hret, hlk, hnm⟩ := C
  refine Runs.via (T' := T0) (g' := (mkF m 1 #[.val (.ref a1)] [(.ref a1)])) (fun t k => ?_) ?_
  · show Steps p.tables e below (T0.setTop (mkF m 0 #[.val (.ref a1)] [])) t
    refine XS.aloadN X0.here hx rfl (hb hby d4_0) rfl rfl ?_
    exact k
  obtain ⟨T1, X1, e1, st1⟩ := initO X0 hx hZ hown (hw _ (List.mem_of_getElem? (i := 18) rfl)) (hw _ (List.mem_of_getElem? (i := 19) rfl)) (hw _ (List.mem_of_getElem? (i := 20) rfl)) e0 (g := (mkF m 1 #[.val (.ref a1)] [(.ref a1)])) rfl (by rw [hml]; rfl) rfl (hb hby d4_1) (by decide) (W := 0) (by show 2 * 0 + _ ≤ _; exact Nat.le_of_eq rfl) (by decide)
  refine Runs.via (T' := T1) (g' := (mkF m 4 #[.val (.ref a1)] [])) (fun t k => st1 _ k) ?_
  obtain rfl := Option.some.inj hr
  exact own_retV X1 hx hlk hret (hb hby d4_4) (by show cells ≤ 0; omega) (by show slots ≤ 0; omega) ⟨rfl, N0, e1⟩
def f4 (q_a1_first : Int32) (q_a1_last : Int32) : Option (Unit) := g4_0 q_a1_first q_a1_last
theorem pn_4 : plainName "java/lang/Record" = true := by first | (simp [plainName, overriddenIn]; done) | decide +kernel
theorem ef_4 (m : MethodId) (a1 : Addr) : entryFrame m #[(.ref a1)] 1 = mkF m 0 #[.val (.ref a1)] [] := by first | (simp [entryFrame, mkF, argsToLocals, Value.category]; done) | rfl
set_option maxRecDepth 65536 in
set_option maxHeartbeats 4000000 in
theorem rm4 (l : Launch) (Z : State) (a0 : Array Value) (hw : ∀ d ∈ tables_1, d.before a0 Z = true) (ws : List Jvm.Cond) (a1 : Addr) (q_a1_first : Int32) (q_a1_last : Int32) (hE : Heap) (n0 : Nat) (Z0 : n0 ≤ hE.size) (o0 : n0 ≤ a1) (E_a1_0 : Exa Z hE a1 "com/example/wirelace/wirelace/schema/Reserved$Range") (F_a1_first_0 : Fld Z hE a1 "com/example/wirelace/wirelace/schema/Reserved$Range" "first" "I" (.int q_a1_first)) (F_a1_last_0 : Fld Z hE a1 "com/example/wirelace/wirelace/schema/Reserved$Range" "last" "I" (.int q_a1_last)) (r : Unit) (hr : f4 q_a1_first q_a1_last = some r) :
    MetFree l (⟨"java/lang/Record", "<init>", "()V"⟩ : MethodName) (head1 (Jvm.Cond.code (⟨"java/lang/Record", "<init>", "()V"⟩ : MethodName) jdk_30_method_1_code 1 none :: ws) ({ frames := 1, cells := 0, slots := 0, locals := 12 } : Room)) (fun a U => a = #[(.ref a1)] ∧ Z.Warmed39 U.vm ∧ U.heap = hE) (fun _ _ _ _ _ => True) (fun _ U o U' => ∃ v L, o = .returned v ∧ (P4 Z hE a1 q_a1_first q_a1_last n0 r v U'.heap L) ∧ FrameEnd U o U' L ({ frames := 1, cells := 0, slots := 0, locals := 12 } : Room).cells ({ frames := 1, cells := 0, slots := 0, locals := 12 } : Room).slots) := by
  refine MetFree.of_bodySF (plainFor_of_name pn_4) hisR ?_
  intro p e s m args below meth c s₁ Bd hml0 hP hK
  obtain ⟨rfl, hZ, hh⟩ := hP
  have X0 : Stand p l e ({ frames := 1, cells := 0, slots := 0, locals := 12 } : Room) s m #[(.ref a1)] below meth c s₁ [] 0 0 := Stand.of_body Bd
  have e0 : s₁.heap = hE := by rw [← hh, Bd.state]; rfl
  have C : Ctx p s m meth c Z a0 "java/lang/Record" jdk_30_method_1_code 1 none "<init>" := ⟨Bd.exec, hZ, hw, Bd.bytes, hml0, findClass_of_methodNamed Bd.named, Bd.returns, BodyLoose.notSynchronized Bd, (name_of_methodNamed Bd.named Bd.method).1⟩
  refine Runs.via (fun t k => castTop (ef_4 m a1) k) (b4_0 C X0 e0 (Fr.nil n0) (by show 0 ≤ 0; omega) (by show 0 ≤ 0; omega) Z0 (by omega) E_a1_0 F_a1_first_0 F_a1_last_0 hr)
theorem pd_1 : parseMethodDescriptor "()V" = some ⟨[], none⟩ := by decide +kernel
theorem d3_0 : decode prog_87_method_1_code 0 = .ok (.aload_n 0, 1) := by decide +kernel
theorem d3_1 : decode prog_87_method_1_code 1 = .ok (.invokespecial 1, 3) := by decide +kernel
theorem d3_4 : decode prog_87_method_1_code 4 = .ok (.iload_n 2, 1) := by decide +kernel
theorem d3_5 : decode prog_87_method_1_code 5 = .ok (.iload_n 1, 1) := by decide +kernel
theorem d3_6 : decode prog_87_method_1_code 6 = .ok (.if_icmp .ge 18, 3) := by decide +kernel
theorem d3_9 : decode prog_87_method_1_code 9 = .ok (.new 7, 3) := by decide +kernel
theorem d3_12 : decode prog_87_method_1_code 12 = .ok (.dup, 1) := by decide +kernel
theorem d3_13 : decode prog_87_method_1_code 13 = .ok (.iload_n 1, 1) := by decide +kernel
theorem d3_14 : decode prog_87_method_1_code 14 = .ok (.iload_n 2, 1) := by decide +kernel
theorem d3_20 : decode prog_87_method_1_code 20 = .ok (.invokespecial 13, 3) := by decide +kernel
theorem d3_23 : decode prog_87_method_1_code 23 = .ok (.athrow, 1) := by decide +kernel
theorem d3_24 : decode prog_87_method_1_code 24 = .ok (.aload_n 0, 1) := by decide +kernel
theorem d3_25 : decode prog_87_method_1_code 25 = .ok (.iload_n 1, 1) := by decide +kernel
theorem d3_26 : decode prog_87_method_1_code 26 = .ok (.putfield 16, 3) := by decide +kernel
theorem d3_29 : decode prog_87_method_1_code 29 = .ok (.aload_n 0, 1) := by decide +kernel
theorem d3_30 : decode prog_87_method_1_code 30 = .ok (.iload_n 2, 1) := by decide +kernel
theorem d3_31 : decode prog_87_method_1_code 31 = .ok (.putfield 22, 3) := by decide +kernel
theorem d3_34 : decode prog_87_method_1_code 34 = .ok (.return_, 1) := by decide +kernel
def P3 (Z : State) (hE : Heap) (a1 : Addr) (q_a1_first : Int32) (q_a1_last : Int32) (n0 : Nat) (r : Int32 × Int32) (v : Option Value) (h : Heap) (L : List Loc) : Prop := v = none ∧ Fr n0 L ∧ Keep hE h [a1] ∧ Exa Z h a1 "com/example/wirelace/wirelace/schema/Reserved$Range" ∧ Fld Z h a1 "com/example/wirelace/wirelace/schema/Reserved$Range" "first" "I" (.int r.1) ∧ Fld Z h a1 "com/example/wirelace/wirelace/schema/Reserved$Range" "last" "I" (.int r.2)
def g3_0 (x1 : Int32) (x2 : Int32) (q_a1_first : Int32) (q_a1_last : Int32) : Option (Int32 × Int32) := ((f4 q_a1_first q_a1_last).bind fun r1 => (if x2 < x1 then none else some (x1, x2)))
set_option maxRecDepth 65536 in
set_option maxHeartbeats 4000000 in
theorem b3_0 {hE : Heap} {a1 : Addr} {q_a1_first₀ : Int32} {q_a1_last₀ : Int32} {r : Int32 × Int32} (C : Ctx p s m meth c Z a0 "com/example/wirelace/wirelace/schema/Reserved$Range" prog_87_method_1_code 3 none "<init>") (X0 : Stand p l e ({ frames := 2, cells := 0, slots := 0, locals := 24 } : Room) s m args below meth c T0 locs cells slots) (e0 : T0.heap = h0) (N0 : Fr n0 locs) (hk : cells ≤ 0) (hn : slots ≤ 0) (Z1 : n0 ≤ h0.size) (KE : Keep hE h0 [a1]) (o0 : n0 ≤ a1) (q_a1_first : Int32) (q_a1_last : Int32) (x1 : Int32) (x2 : Int32) (E_a1_0 : Exa Z h0 a1 "com/example/wirelace/wirelace/schema/Reserved$Range") (F_a1_first_0 : Fld Z h0 a1 "com/example/wirelace/wirelace/schema/Reserved$Range" "first" "I" (.int q_a1_first)) (F_a1_last_0 : Fld Z h0 a1 "com/example/wirelace/wirelace/schema/Reserved$Range" "last" "I" (.int q_a1_last)) (hr : g3_0 x1 x2 q_a1_first q_a1_last = some r) :
    Runs p e below s (P3 Z hE a1 q_a1_first₀ q_a1_last₀ n0 r) 0 0 T0 (mkF m 0 #[.val (.ref a1), .val (.int x1), .val (.int x2)] []) := by
  unfold g3_0 at hr
  have ⟨hx, hZ, hw, hby, hml, hown, hret, hlk, hnm⟩ := C
  refine Runs.via (T' := T0) (g' := (mkF m 1 #[.val (.ref a1), .val (.int x1), .val (.int x2)] [(.ref a1)])) (fun t k => ?_) ?_
  · show Steps p.tables e below (T0.setTop (mkF m 0 #[.val (.ref a1), .val (.int x1), .val (.int x2)] [])) t
    refine XS.aloadN X0.here hx rfl (hb hby d3_0) rfl rfl ?_
    exact k
  refine bindE hr ?_; intro r1 hr1m hr
  obtain ⟨_, _, ⟨T1, L1, k1, n1⟩, -, X1, ⟨Lc1, hQ1, l1, y1, z1⟩, st1⟩ := X0.specialBack hx (y := (⟨"java/lang/Record", "<init>", "()V"⟩ : MethodName)) rfl hown (mvT hZ (hw _ (List.mem_of_getElem? (i := 13) rfl))) (mvT hZ (hw _ (List.mem_of_getElem? (i := 14) rfl))) (mvT hZ (hw _ (List.mem_of_getElem? (i := 17) rfl))) (by decide) (backOf (W := 0) (rm4 l Z a0 hw [] a1 q_a1_first q_a1_last h0 n0 Z1 (by omega) E_a1_0 F_a1_first_0 F_a1_last_0 r1 hr1m) hZ (hw _ (List.mem_of_getElem? (i := 17) rfl)) (hw _ (List.mem_of_getElem? (i := 16) rfl)) (by decide) (by decide)) (g := (mkF m 1 #[.val (.ref a1), .val (.int x1), .val (.int x2)] [(.ref a1)])) rfl (by rw [hml]; rfl) (Steps.refl _) (a := a1) (argsL := []) (rest := []) (lenOf pd_1 rfl) rfl (by show 2 * 0 + _ ≤ _; exact Nat.le_of_eq rfl) (hb hby d3_1) (fun _ _ => ⟨rfl, e0, (by show cells + 0 ≤ 0; omega), (by show slots + 0 ≤ 0; omega)⟩)
  dsimp only [Pt.U, Pt.locs, Pt.cells, Pt.slots] at X1 l1 y1 z1 st1 hQ1
  replace y1 := y1.symm; replace z1 := z1.symm; subst l1 y1 z1
  obtain ⟨rfl, N1q, e1⟩ := hQ1
  have N1 := Fr.app N0 N1q
  refine Runs.via (T' := T1) (g' := (mkF m 4 #[.val (.ref a1), .val (.int x1), .val (.int x2)] [])) (fun t k => st1.trans k) ?_
  refine Runs.via (T' := T1) (g' := (mkF m 6 #[.val (.ref a1), .val (.int x1), .val (.int x2)] [(.int x1), (.int x2)])) (fun t k => ?_) ?_
  · show Steps p.tables e below (T1.setTop (mkF m 4 #[.val (.ref a1), .val (.int x1), .val (.int x2)] [])) t
    refine XS.iloadN X1.here hx rfl (hb hby d3_4) rfl ?_
    show Steps p.tables e below (T1.setTop (mkF m 5 #[.val (.ref a1), .val (.int x1), .val (.int x2)] [(.int x2)])) t
    refine XS.iloadN X1.here hx rfl (hb hby d3_5) rfl ?_
    exact k
  refine iteE hr (fun hc2 hr => ?_) (fun hc2 hr => ?_)
  · refine Runs.via (T' := T1) (g' := (mkF m 9 #[.val (.ref a1), .val (.int x1), .val (.int x2)] [])) (fun t k => ?_) ?_
    · show Steps p.tables e below (T1.setTop (mkF m 6 #[.val (.ref a1), .val (.int x1), .val (.int x2)] [(.int x1), (.int x2)])) t
      exact XS.icmpNo X1.here hx rfl (hb hby d3_6) rfl (tlt hc2).2.1 k
    exact nomatch hr
  · refine Runs.via (T' := T1) (g' := (mkF m 24 #[.val (.ref a1), .val (.int x1), .val (.int x2)] [])) (fun t k => ?_) ?_
    · show Steps p.tables e below (T1.setTop (mkF m 6 #[.val (.ref a1), .val (.int x1), .val (.int x2)] [(.int x1), (.int x2)])) t
      exact XS.icmpYes X1.here hx rfl (pc0 := 6) (pc' := 24) rfl (hb hby d3_6) rfl (flt hc2).2.1 (by decide) (by decide) k
    refine Runs.via (T' := T1) (g' := (mkF m 26 #[.val (.ref a1), .val (.int x1), .val (.int x2)] [(.int x1), (.ref a1)])) (fun t k => ?_) ?_
    · show Steps p.tables e below (T1.setTop (mkF m 24 #[.val (.ref a1), .val (.int x1), .val (.int x2)] [])) t
      refine XS.aloadN X1.here hx rfl (hb hby d3_24) rfl rfl ?_
      show Steps p.tables e below (T1.setTop (mkF m 25 #[.val (.ref a1), .val (.int x1), .val (.int x2)] [(.ref a1)])) t
      refine XS.iloadN X1.here hx rfl (hb hby d3_25) rfl ?_
      exact k
    obtain ⟨T3, h3, X3, e3, W3, st3⟩ := putF X1 hx hZ hown (host := "") (Or.inl (hw _ (List.mem_of_getElem? (i := 21) rfl))) Via.refl e1 F_a1_first_0 E_a1_0 (Or.inr ⟨(hw _ (List.mem_of_getElem? (i := 22) rfl)), rfl, hnm⟩) (hw _ (List.mem_of_getElem? (i := 8) rfl)) (ty := .int) (by decide) rfl rfl (g := (mkF m 26 #[.val (.ref a1), .val (.int x1), .val (.int x2)] [(.int x1), (.ref a1)])) rfl rfl (hb hby d3_26)
    have E_a1_3 : Exa Z h3 a1 "com/example/wirelace/wirelace/schema/Reserved$Range" := E_a1_0.wr W3
    have F_a1_first_3 : Fld Z h3 a1 "com/example/wirelace/wirelace/schema/Reserved$Range" "first" "I" (.int x1) := F_a1_first_0.same W3
    have F_a1_last_3 : Fld Z h3 a1 "com/example/wirelace/wirelace/schema/Reserved$Range" "last" "I" (.int q_a1_last) := F_a1_last_0.other W3 (Or.inr (slot_ne (Or.inr (hw _ (List.mem_of_getElem? (i := 24) rfl))) (Or.inr (hw _ (List.mem_of_getElem? (i := 22) rfl))) (by decide) (t := .int) (t' := .int) (by decide) (by decide)))
    have N3 := Fr.snoc X3 N1 (by omega : n0 ≤ a1)
    have zz3 : n0 ≤ h3.size := Nat.le_trans Z1 (Keep.of_wr W3).1
    have K3 := KE.wr W3 (Or.inl (List.mem_of_getElem? (i := 0) rfl))
    refine Runs.via (T' := T3) (g' := (mkF m 29 #[.val (.ref a1), .val (.int x1), .val (.int x2)] [])) (fun t k => st3 _ k) ?_
    refine Runs.via (T' := T3) (g' := (mkF m 31 #[.val (.ref a1), .val (.int x1), .val (.int x2)] [(.int x2), (.ref a1)])) (fun t k => ?_) ?_
    · show Steps p.tables e below (T3.setTop (mkF m 29 #[.val (.ref a1), .val (.int x1), .val (.int x2)] [])) t
      refine XS.aloadN X3.here hx rfl (hb hby d3_29) rfl rfl ?_
      show Steps p.tables e below (T3.setTop (mkF m 30 #[.val (.ref a1), .val (.int x1), .val (.int x2)] [(.ref a1)])) t
      refine XS.iloadN X3.here hx rfl (hb hby d3_30) rfl ?_
      exact k
    obtain ⟨T4, h4, X4, e4, W4, st4⟩ := putF X3 hx hZ hown (host := "") (Or.inl (hw _ (List.mem_of_getElem? (i := 23) rfl))) Via.refl e3 F_a1_last_3 E_a1_3 (Or.inr ⟨(hw _ (List.mem_of_getElem? (i := 24) rfl)), rfl, hnm⟩) (hw _ (List.mem_of_getElem? (i := 8) rfl)) (ty := .int) (by decide) rfl rfl (g := (mkF m 31 #[.val (.ref a1), .val (.int x1), .val (.int x2)] [(.int x2), (.ref a1)])) rfl rfl (hb hby d3_31)
    have E_a1_4 : Exa Z h4 a1 "com/example/wirelace/wirelace/schema/Reserved$Range" := E_a1_3.wr W4
    have F_a1_first_4 : Fld Z h4 a1 "com/example/wirelace/wirelace/schema/Reserved$Range" "first" "I" (.int x1) := F_a1_first_3.other W4 (Or.inr (slot_ne (Or.inr (hw _ (List.mem_of_getElem? (i := 22) rfl))) (Or.inr (hw _ (List.mem_of_getElem? (i := 24) rfl))) (by decide) (t := .int) (t' := .int) (by decide) (by decide)))
    have F_a1_last_4 : Fld Z h4 a1 "com/example/wirelace/wirelace/schema/Reserved$Range" "last" "I" (.int x2) := F_a1_last_3.same W4
    have N4 := Fr.snoc X4 N3 (by omega : n0 ≤ a1)
    have zz4 : n0 ≤ h4.size := Nat.le_trans zz3 (Keep.of_wr W4).1
    have K4 := K3.wr W4 (Or.inl (List.mem_of_getElem? (i := 0) rfl))
    refine Runs.via (T' := T4) (g' := (mkF m 34 #[.val (.ref a1), .val (.int x1), .val (.int x2)] [])) (fun t k => st4 _ k) ?_
    obtain rfl := Option.some.inj hr
    exact own_retV X4 hx hlk hret (hb hby d3_34) (by show (cells + 0) ≤ 0; omega) (by show (slots + 0) ≤ 0; omega) ⟨rfl, N4, (by rw [e4]; exact K4), (by rw [e4]; exact E_a1_4), (by rw [e4]; exact F_a1_first_4), (by rw [e4]; exact F_a1_last_4)⟩
def f3 (x1 : Int32) (x2 : Int32) (q_a1_first : Int32) (q_a1_last : Int32) : Option (Int32 × Int32) := g3_0 x1 x2 q_a1_first q_a1_last
theorem pn_3 : plainName "com/example/wirelace/wirelace/schema/Reserved$Range" = true := by first | (simp [plainName, overriddenIn]; done) | decide +kernel
theorem ef_3 (m : MethodId) (x1 : Int32) (x2 : Int32) (a1 : Addr) : entryFrame m #[(.ref a1), (.int x1), (.int x2)] 3 = mkF m 0 #[.val (.ref a1), .val (.int x1), .val (.int x2)] [] := by first | (simp [entryFrame, mkF, argsToLocals, Value.category]; done) | rfl
set_option maxRecDepth 65536 in
set_option maxHeartbeats 4000000 in
theorem rm3 (l : Launch) (Z : State) (a0 : Array Value) (hw : ∀ d ∈ tables_1, d.before a0 Z = true) (ws : List Jvm.Cond) (x1 : Int32) (x2 : Int32) (a1 : Addr) (q_a1_first : Int32) (q_a1_last : Int32) (hE : Heap) (n0 : Nat) (Z0 : n0 ≤ hE.size) (o0 : n0 ≤ a1) (E_a1_0 : Exa Z hE a1 "com/example/wirelace/wirelace/schema/Reserved$Range") (F_a1_first_0 : Fld Z hE a1 "com/example/wirelace/wirelace/schema/Reserved$Range" "first" "I" (.int q_a1_first)) (F_a1_last_0 : Fld Z hE a1 "com/example/wirelace/wirelace/schema/Reserved$Range" "last" "I" (.int q_a1_last)) (r : Int32 × Int32) (hr : f3 x1 x2 q_a1_first q_a1_last = some r) :
    MetFree l (⟨"com/example/wirelace/wirelace/schema/Reserved$Range", "<init>", "(II)V"⟩ : MethodName) (head1 (Jvm.Cond.code (⟨"com/example/wirelace/wirelace/schema/Reserved$Range", "<init>", "(II)V"⟩ : MethodName) prog_87_method_1_code 3 none :: ws) ({ frames := 2, cells := 0, slots := 0, locals := 24 } : Room)) (fun a U => a = #[(.ref a1), (.int x1), (.int x2)] ∧ Z.Warmed39 U.vm ∧ U.heap = hE) (fun _ _ _ _ _ => True) (fun _ U o U' => ∃ v L, o = .returned v ∧ (P3 Z hE a1 q_a1_first q_a1_last n0 r v U'.heap L) ∧ FrameEnd U o U' L ({ frames := 2, cells := 0, slots := 0, locals := 24 } : Room).cells ({ frames := 2, cells := 0, slots := 0, locals := 24 } : Room).slots) := by
  refine MetFree.of_bodySF (plainFor_of_name pn_3) hisR ?_
  intro p e s m args below meth c s₁ Bd hml0 hP hK
  obtain ⟨rfl, hZ, hh⟩ := hP
  have X0 : Stand p l e ({ frames := 2, cells := 0, slots := 0, locals := 24 } : Room) s m #[(.ref a1), (.int x1), (.int x2)] below meth c s₁ [] 0 0 := Stand.of_body Bd
  have e0 : s₁.heap = hE := by rw [← hh, Bd.state]; rfl
  have C : Ctx p s m meth c Z a0 "com/example/wirelace/wirelace/schema/Reserved$Range" prog_87_method_1_code 3 none "<init>" := ⟨Bd.exec, hZ, hw, Bd.bytes, hml0, findClass_of_methodNamed Bd.named, Bd.returns, BodyLoose.notSynchronized Bd, (name_of_methodNamed Bd.named Bd.method).1⟩
  refine Runs.via (fun t k => castTop (ef_3 m x1 x2 a1) k) (b3_0 C X0 e0 (Fr.nil n0) (by show 0 ≤ 0; omega) (by show 0 ≤ 0; omega) Z0 (Keep.refl hE [a1]) (by omega) q_a1_first q_a1_last x1 x2 E_a1_0 F_a1_first_0 F_a1_last_0 hr)
theorem pd_2 : parseMethodDescriptor "(II)V" = some ⟨[.int, .int], none⟩ := by decide +kernel
theorem d7_0 : decode prog_87_method_7_code 0 = .ok (.aload_n 0, 1) := by decide +kernel
theorem d7_1 : decode prog_87_method_7_code 1 = .ok (.getfield 22, 3) := by decide +kernel
theorem d7_4 : decode prog_87_method_7_code 4 = .ok (.ireturn, 1) := by decide +kernel
def P7 (Z : State) (hE : Heap) (a1 : Addr) (q_a1_first : Int32) (q_a1_last : Int32) (n0 : Nat) (r : Int32) (v : Option Value) (h : Heap) (L : List Loc) : Prop := v = some (.int r) ∧ Fr n0 L ∧ h = hE
def g7_0 (q_a1_first : Int32) (q_a1_last : Int32) : Option (Int32) := some q_a1_last
set_option maxRecDepth 65536 in
set_option maxHeartbeats 4000000 in
theorem b7_0 {hE : Heap} {a1 : Addr} {q_a1_first : Int32} {q_a1_last : Int32} {r : Int32} (C : Ctx p s m meth c Z a0 "com/example/wirelace/wirelace/schema/Reserved$Range" prog_87_method_7_code 1 (some .int) "last") (X0 : Stand p l e ({ frames := 0, cells := 0, slots := 0, locals := 0 } : Room) s m args below meth c T0 locs cells slots) (e0 : T0.heap = hE) (N0 : Fr n0 locs) (hk : cells ≤ 0) (hn : slots ≤ 0) (Z1 : n0 ≤ hE.size) (o0 : n0 ≤ a1) (E_a1_0 : Exa Z hE a1 "com/example/wirelace/wirelace/schema/Reserved$Range") (F_a1_first_0 : Fld Z hE a1 "com/example/wirelace/wirelace/schema/Reserved$Range" "first" "I" (.int q_a1_first)) (F_a1_last_0 : Fld Z hE a1 "com/example/wirelace/wirelace/schema/Reserved$Range" "last" "I" (.int q_a1_last)) (hr : g7_0 q_a1_first q_a1_last = some r) :
    Runs p e below s (P7 Z hE a1 q_a1_first q_a1_last n0 r) 0 0 T0 (mkF m 0 #[.val (.ref a1)] []) := by
  unfold g7_0 at hr
  have ⟨hx, hZ, hw, hby, hml, hown, hret, hlk, hnm⟩ := C
  refine Runs.via (T' := T0) (g' := (mkF m 1 #[.val (.ref a1)] [(.ref a1)])) (fun t k => ?_) ?_
  · show Steps p.tables e below (T0.setTop (mkF m 0 #[.val (.ref a1)] [])) t
    refine XS.aloadN X0.here hx rfl (hb hby d7_0) rfl rfl ?_
    exact k
  obtain ⟨T1, X1, e1, st1⟩ := getF X0 hx hZ hown (host := "") (Or.inl (hw _ (List.mem_of_getElem? (i := 23) rfl))) Via.refl e0 F_a1_last_0 (g := (mkF m 1 #[.val (.ref a1)] [(.ref a1)])) rfl rfl (hb hby d7_1)
  refine Runs.via (T' := T1) (g' := (mkF m 4 #[.val (.ref a1)] [(.int q_a1_last)])) (fun t k => st1 _ k) ?_
  obtain rfl := Option.some.inj hr
  exact own_retI X1 hx hlk hret (hb hby d7_4) (by show cells ≤ 0; omega) (by show slots ≤ 0; omega) ⟨rfl, N0, e1⟩
def f7 (q_a1_first : Int32) (q_a1_last : Int32) : Option (Int32) := g7_0 q_a1_first q_a1_last
theorem pn_7 : plainName "com/example/wirelace/wirelace/schema/Reserved$Range" = true := by first | (simp [plainName, overriddenIn]; done) | decide +kernel
theorem ef_7 (m : MethodId) (a1 : Addr) : entryFrame m #[(.ref a1)] 1 = mkF m 0 #[.val (.ref a1)] [] := by first | (simp [entryFrame, mkF, argsToLocals, Value.category]; done) | rfl
set_option maxRecDepth 65536 in
set_option maxHeartbeats 4000000 in
theorem rm7 (l : Launch) (Z : State) (a0 : Array Value) (hw : ∀ d ∈ tables_1, d.before a0 Z = true) (ws : List Jvm.Cond) (a1 : Addr) (q_a1_first : Int32) (q_a1_last : Int32) (hE : Heap) (n0 : Nat) (Z0 : n0 ≤ hE.size) (o0 : n0 ≤ a1) (E_a1_0 : Exa Z hE a1 "com/example/wirelace/wirelace/schema/Reserved$Range") (F_a1_first_0 : Fld Z hE a1 "com/example/wirelace/wirelace/schema/Reserved$Range" "first" "I" (.int q_a1_first)) (F_a1_last_0 : Fld Z hE a1 "com/example/wirelace/wirelace/schema/Reserved$Range" "last" "I" (.int q_a1_last)) (r : Int32) (hr : f7 q_a1_first q_a1_last = some r) :
    MetFree l (⟨"com/example/wirelace/wirelace/schema/Reserved$Range", "last", "()I"⟩ : MethodName) (head1 (Jvm.Cond.code (⟨"com/example/wirelace/wirelace/schema/Reserved$Range", "last", "()I"⟩ : MethodName) prog_87_method_7_code 1 (some .int) :: ws) ({ frames := 0, cells := 0, slots := 0, locals := 0 } : Room)) (fun a U => a = #[(.ref a1)] ∧ Z.Warmed39 U.vm ∧ U.heap = hE) (fun _ _ _ _ _ => True) (fun _ U o U' => ∃ v L, o = .returned v ∧ (P7 Z hE a1 q_a1_first q_a1_last n0 r v U'.heap L) ∧ FrameEnd U o U' L ({ frames := 0, cells := 0, slots := 0, locals := 0 } : Room).cells ({ frames := 0, cells := 0, slots := 0, locals := 0 } : Room).slots) := by
  refine MetFree.of_bodySF (plainFor_of_name pn_7) hisR ?_
  intro p e s m args below meth c s₁ Bd hml0 hP hK
  obtain ⟨rfl, hZ, hh⟩ := hP
  have X0 : Stand p l e ({ frames := 0, cells := 0, slots := 0, locals := 0 } : Room) s m #[(.ref a1)] below meth c s₁ [] 0 0 := Stand.of_body Bd
  have e0 : s₁.heap = hE := by rw [← hh, Bd.state]; rfl
  have C : Ctx p s m meth c Z a0 "com/example/wirelace/wirelace/schema/Reserved$Range" prog_87_method_7_code 1 (some .int) "last" := ⟨Bd.exec, hZ, hw, Bd.bytes, hml0, findClass_of_methodNamed Bd.named, Bd.returns, BodyLoose.notSynchronized Bd, (name_of_methodNamed Bd.named Bd.method).1⟩
  refine Runs.via (fun t k => castTop (ef_7 m a1) k) (b7_0 C X0 e0 (Fr.nil n0) (by show 0 ≤ 0; omega) (by show 0 ≤ 0; omega) Z0 (by omega) E_a1_0 F_a1_first_0 F_a1_last_0 hr)
theorem pd_3 : parseMethodDescriptor "()I" = some ⟨[], some .int⟩ := by decide +kernel
theorem d8_0 : decode prog_87_method_6_code 0 = .ok (.aload_n 0, 1) := by decide +kernel
theorem d8_1 : decode prog_87_method_6_code 1 = .ok (.getfield 16, 3) := by decide +kernel
theorem d8_4 : decode prog_87_method_6_code 4 = .ok (.ireturn, 1) := by decide +kernel
def P8 (Z : State) (hE : Heap) (a1 : Addr) (q_a1_first : Int32) (q_a1_last : Int32) (n0 : Nat) (r : Int32) (v : Option Value) (h : Heap) (L : List Loc) : Prop := v = some (.int r) ∧ Fr n0 L ∧ h = hE
def g8_0 (q_a1_first : Int32) (q_a1_last : Int32) : Option (Int32) := some q_a1_first
set_option maxRecDepth 65536 in
set_option maxHeartbeats 4000000 in
theorem b8_0 {hE : Heap} {a1 : Addr} {q_a1_first : Int32} {q_a1_last : Int32} {r : Int32} (C : Ctx p s m meth c Z a0 "com/example/wirelace/wirelace/schema/Reserved$Range" prog_87_method_6_code 1 (some .int) "first") (X0 : Stand p l e ({ frames := 0, cells := 0, slots := 0, locals := 0 } : Room) s m args below meth c T0 locs cells slots) (e0 : T0.heap = hE) (N0 : Fr n0 locs) (hk : cells ≤ 0) (hn : slots ≤ 0) (Z1 : n0 ≤ hE.size) (o0 : n0 ≤ a1) (E_a1_0 : Exa Z hE a1 "com/example/wirelace/wirelace/schema/Reserved$Range") (F_a1_first_0 : Fld Z hE a1 "com/example/wirelace/wirelace/schema/Reserved$Range" "first" "I" (.int q_a1_first)) (F_a1_last_0 : Fld Z hE a1 "com/example/wirelace/wirelace/schema/Reserved$Range" "last" "I" (.int q_a1_last)) (hr : g8_0 q_a1_first q_a1_last = some r) :
    Runs p e below s (P8 Z hE a1 q_a1_first q_a1_last n0 r) 0 0 T0 (mkF m 0 #[.val (.ref a1)] []) := by
  unfold g8_0 at hr
  have ⟨hx, hZ, hw, hby, hml, hown, hret, hlk, hnm⟩ := C
  refine Runs.via (T' := T0) (g' := (mkF m 1 #[.val (.ref a1)] [(.ref a1)])) (fun t k => ?_) ?_
  · show Steps p.tables e below (T0.setTop (mkF m 0 #[.val (.ref a1)] [])) t
    refine XS.aloadN X0.here hx rfl (hb hby d8_0) rfl rfl ?_
    exact k
  obtain ⟨T1, X1, e1, st1⟩ := getF X0 hx hZ hown (host := "") (Or.inl (hw _ (List.mem_of_getElem? (i := 21) rfl))) Via.refl e0 F_a1_first_0 (g := (mkF m 1 #[.val (.ref a1)] [(.ref a1)])) rfl rfl (hb hby d8_1)
  refine Runs.via (T' := T1) (g' := (mkF m 4 #[.val (.ref a1)] [(.int q_a1_first)])) (fun t k => st1 _ k) ?_
  obtain rfl := Option.some.inj hr
  exact own_retI X1 hx hlk hret (hb hby d8_4) (by show cells ≤ 0; omega) (by show slots ≤ 0; omega) ⟨rfl, N0, e1⟩
def f8 (q_a1_first : Int32) (q_a1_last : Int32) : Option (Int32) := g8_0 q_a1_first q_a1_last
theorem pn_8 : plainName "com/example/wirelace/wirelace/schema/Reserved$Range" = true := by first | (simp [plainName, overriddenIn]; done) | decide +kernel
theorem ef_8 (m : MethodId) (a1 : Addr) : entryFrame m #[(.ref a1)] 1 = mkF m 0 #[.val (.ref a1)] [] := by first | (simp [entryFrame, mkF, argsToLocals, Value.category]; done) | rfl
set_option maxRecDepth 65536 in
set_option maxHeartbeats 4000000 in
theorem rm8 (l : Launch) (Z : State) (a0 : Array Value) (hw : ∀ d ∈ tables_1, d.before a0 Z = true) (ws : List Jvm.Cond) (a1 : Addr) (q_a1_first : Int32) (q_a1_last : Int32) (hE : Heap) (n0 : Nat) (Z0 : n0 ≤ hE.size) (o0 : n0 ≤ a1) (E_a1_0 : Exa Z hE a1 "com/example/wirelace/wirelace/schema/Reserved$Range") (F_a1_first_0 : Fld Z hE a1 "com/example/wirelace/wirelace/schema/Reserved$Range" "first" "I" (.int q_a1_first)) (F_a1_last_0 : Fld Z hE a1 "com/example/wirelace/wirelace/schema/Reserved$Range" "last" "I" (.int q_a1_last)) (r : Int32) (hr : f8 q_a1_first q_a1_last = some r) :
    MetFree l (⟨"com/example/wirelace/wirelace/schema/Reserved$Range", "first", "()I"⟩ : MethodName) (head1 (Jvm.Cond.code (⟨"com/example/wirelace/wirelace/schema/Reserved$Range", "first", "()I"⟩ : MethodName) prog_87_method_6_code 1 (some .int) :: ws) ({ frames := 0, cells := 0, slots := 0, locals := 0 } : Room)) (fun a U => a = #[(.ref a1)] ∧ Z.Warmed39 U.vm ∧ U.heap = hE) (fun _ _ _ _ _ => True) (fun _ U o U' => ∃ v L, o = .returned v ∧ (P8 Z hE a1 q_a1_first q_a1_last n0 r v U'.heap L) ∧ FrameEnd U o U' L ({ frames := 0, cells := 0, slots := 0, locals := 0 } : Room).cells ({ frames := 0, cells := 0, slots := 0, locals := 0 } : Room).slots) := by
  refine MetFree.of_bodySF (plainFor_of_name pn_8) hisR ?_
  intro p e s m args below meth c s₁ Bd hml0 hP hK
  obtain ⟨rfl, hZ, hh⟩ := hP
  have X0 : Stand p l e ({ frames := 0, cells := 0, slots := 0, locals := 0 } : Room) s m #[(.ref a1)] below meth c s₁ [] 0 0 := Stand.of_body Bd
  have e0 : s₁.heap = hE := by rw [← hh, Bd.state]; rfl
  have C : Ctx p s m meth c Z a0 "com/example/wirelace/wirelace/schema/Reserved$Range" prog_87_method_6_code 1 (some .int) "first" := ⟨Bd.exec, hZ, hw, Bd.bytes, hml0, findClass_of_methodNamed Bd.named, Bd.returns, BodyLoose.notSynchronized Bd, (name_of_methodNamed Bd.named Bd.method).1⟩
  refine Runs.via (fun t k => castTop (ef_8 m a1) k) (b8_0 C X0 e0 (Fr.nil n0) (by show 0 ≤ 0; omega) (by show 0 ≤ 0; omega) Z0 (by omega) E_a1_0 F_a1_first_0 F_a1_last_0 hr)
theorem d6_0 : decode prog_87_method_2_code 0 = .ok (.aload_n 0, 1) := by decide +kernel
theorem d6_1 : decode prog_87_method_2_code 1 = .ok (.getfield 16, 3) := by decide +kernel
theorem d6_4 : decode prog_87_method_2_code 4 = .ok (.aload_n 1, 1) := by decide +kernel
theorem d6_5 : decode prog_87_method_2_code 5 = .ok (.invokevirtual 25, 3) := by decide +kernel
theorem d6_8 : decode prog_87_method_2_code 8 = .ok (.if_icmp .gt 18, 3) := by decide +kernel
theorem d6_11 : decode prog_87_method_2_code 11 = .ok (.aload_n 1, 1) := by decide +kernel
theorem d6_12 : decode prog_87_method_2_code 12 = .ok (.invokevirtual 28, 3) := by decide +kernel
theorem d6_15 : decode prog_87_method_2_code 15 = .ok (.aload_n 0, 1) := by decide +kernel
theorem d6_16 : decode prog_87_method_2_code 16 = .ok (.getfield 22, 3) := by decide +kernel
theorem d6_19 : decode prog_87_method_2_code 19 = .ok (.if_icmp .gt 7, 3) := by decide +kernel
theorem d6_22 : decode prog_87_method_2_code 22 = .ok (.iconst 1, 1) := by decide +kernel
theorem d6_23 : decode prog_87_method_2_code 23 = .ok (.goto 4, 3) := by decide +kernel
theorem d6_26 : decode prog_87_method_2_code 26 = .ok (.iconst 0, 1) := by decide +kernel
theorem d6_27 : decode prog_87_method_2_code 27 = .ok (.ireturn, 1) := by decide +kernel
def P6 (Z : State) (hE : Heap) (a1 : Addr) (a2 : Addr) (q_a1_first : Int32) (q_a1_last : Int32) (q_a2_first : Int32) (q_a2_last : Int32) (n0 : Nat) (r : Int32) (v : Option Value) (h : Heap) (L : List Loc) : Prop := v = some (.int r) ∧ Fr n0 L ∧ h = hE
def g6_0 (q_a1_first : Int32) (q_a1_last : Int32) (q_a2_first : Int32) (q_a2_last : Int32) : Option (Int32) := ((f7 q_a2_first q_a2_last).bind fun r2 => (if r2 < q_a1_first then some (0 : Int32) else ((f8 q_a2_first q_a2_last).bind fun r4 => (if q_a1_last < r4 then some (0 : Int32) else some (1 : Int32)))))
set_option maxRecDepth 65536 in
set_option maxHeartbeats 4000000 in
theorem b6_0 {hE : Heap} {a1 : Addr} {a2 : Addr} {q_a1_first : Int32} {q_a1_last : Int32} {q_a2_first : Int32} {q_a2_last : Int32} {r : Int32} (C : Ctx p s m meth c Z a0 "com/example/wirelace/wirelace/schema/Reserved$Range" prog_87_method_2_code 2 (some .boolean) "overlaps") (X0 : Stand p l e ({ frames := 1, cells := 0, slots := 0, locals := 13 } : Room) s m args below meth c T0 locs cells slots) (e0 : T0.heap = hE) (N0 : Fr n0 locs) (hk : cells ≤ 0) (hn : slots ≤ 0) (Z1 : n0 ≤ hE.size) (o0 : n0 ≤ a1) (o1 : @LT.lt Nat instLTNat a1 a2) (E_a1_0 : Exa Z hE a1 "com/example/wirelace/wirelace/schema/Reserved$Range") (F_a1_first_0 : Fld Z hE a1 "com/example/wirelace/wirelace/schema/Reserved$Range" "first" "I" (.int q_a1_first)) (F_a1_last_0 : Fld Z hE a1 "com/example/wirelace/wirelace/schema/Reserved$Range" "last" "I" (.int q_a1_last)) (E_a2_0 : Exa Z hE a2 "com/example/wirelace/wirelace/schema/Reserved$Range") (F_a2_first_0 : Fld Z hE a2 "com/example/wirelace/wirelace/schema/Reserved$Range" "first" "I" (.int q_a2_first)) (F_a2_last_0 : Fld Z hE a2 "com/example/wirelace/wirelace/schema/Reserved$Range" "last" "I" (.int q_a2_last)) (hr : g6_0 q_a1_first q_a1_last q_a2_first q_a2_last = some r) :
    Runs p e below s (P6 Z hE a1 a2 q_a1_first q_a1_last q_a2_first q_a2_last n0 r) 0 0 T0 (mkF m 0 #[.val (.ref a1), .val (.ref a2)] []) := by
  unfold g6_0 at hr
  have ⟨hx, hZ, hw, hby, hml, hown, hret, hlk, hnm⟩ := C
  refine Runs.via (T' := T0) (g' := (mkF m 1 #[.val (.ref a1), .val (.ref a2)] [(.ref a1)])) (fun t k => ?_) ?_
  · show Steps p.tables e below (T0.setTop (mkF m 0 #[.val (.ref a1), .val (.ref a2)] [])) t
    refine XS.aloadN X0.here hx rfl (hb hby d6_0) rfl rfl ?_
    exact k
  obtain ⟨T1, X1, e1, st1⟩ := getF X0 hx hZ hown (host := "") (Or.inl (hw _ (List.mem_of_getElem? (i := 21) rfl))) Via.refl e0 F_a1_first_0 (g := (mkF m 1 #[.val (.ref a1), .val (.ref a2)] [(.ref a1)])) rfl rfl (hb hby d6_1)
  refine Runs.via (T' := T1) (g' := (mkF m 4 #[.val (.ref a1), .val (.ref a2)] [(.int q_a1_first)])) (fun t k => st1 _ k) ?_
  refine Runs.via (T' := T1) (g' := (mkF m 5 #[.val (.ref a1), .val (.ref a2)] [(.ref a2), (.int q_a1_first)])) (fun t k => ?_) ?_
  · show Steps p.tables e below (T1.setTop (mkF m 4 #[.val (.ref a1), .val (.ref a2)] [(.int q_a1_first)])) t
    refine XS.aloadN X1.here hx rfl (hb hby d6_4) rfl rfl ?_
    exact k
  refine bindE hr ?_; intro r2 hr2m hr
  obtain ⟨cq2, kq2, q2a, q2b, q2c⟩ := isOf hZ e1 E_a2_0
  obtain ⟨_, _, ⟨T2, L2, k2, n2⟩, -, X2, ⟨Lc2, hQ2, l2, y2, z2⟩, st2⟩ := X1.virtualBack hx (y := (⟨"com/example/wirelace/wirelace/schema/Reserved$Range", "last", "()I"⟩ : MethodName)) (z := (⟨"com/example/wirelace/wirelace/schema/Reserved$Range", "last", "()I"⟩ : MethodName)) hown (mvT hZ (hw _ (List.mem_of_getElem? (i := 30) rfl))) (mvT hZ (hw _ (List.mem_of_getElem? (i := 31) rfl))) (notFace_of_selects (args := #[]) (mvT hZ (hw _ (List.mem_of_getElem? (i := 33) rfl)))) (mvT hZ (hw _ (List.mem_of_getElem? (i := 33) rfl))) (mvT hZ (hw _ (List.mem_of_getElem? (i := 32) rfl))) (by decide) (backOf (W := 1) (rm7 l Z a0 hw [] a2 q_a2_first q_a2_last hE n0 Z1 (by omega) E_a2_0 F_a2_first_0 F_a2_last_0 r2 hr2m) hZ (hw _ (List.mem_of_getElem? (i := 34) rfl)) (hw _ (List.mem_of_getElem? (i := 9) rfl)) (by decide) (by decide)) q2a q2c (g := (mkF m 5 #[.val (.ref a1), .val (.ref a2)] [(.ref a2), (.int q_a1_first)])) rfl (by rw [hml]; rfl) (Steps.refl _) (argsL := []) (rest := [(.int q_a1_first)]) (lenOf pd_3 rfl) rfl (by show 2 * 0 + _ ≤ _; exact Nat.le_of_eq rfl) (hb hby d6_5) (fun _ _ => ⟨rfl, e1, (by show cells + 0 ≤ 0; omega), (by show slots + 0 ≤ 0; omega)⟩)
  dsimp only [Pt.U, Pt.locs, Pt.cells, Pt.slots] at X2 l2 y2 z2 st2 hQ2
  replace y2 := y2.symm; replace z2 := z2.symm; subst l2 y2 z2
  obtain ⟨rfl, N2q, e2⟩ := hQ2
  have N2 := Fr.app N0 N2q
  refine Runs.via (T' := T2) (g' := (mkF m 8 #[.val (.ref a1), .val (.ref a2)] [(.int r2), (.int q_a1_first)])) (fun t k => st2.trans k) ?_
  refine iteE hr (fun hc3 hr => ?_) (fun hc3 hr => ?_)
  · refine Runs.via (T' := T2) (g' := (mkF m 26 #[.val (.ref a1), .val (.ref a2)] [])) (fun t k => ?_) ?_
    · show Steps p.tables e below (T2.setTop (mkF m 8 #[.val (.ref a1), .val (.ref a2)] [(.int r2), (.int q_a1_first)])) t
      exact XS.icmpYes X2.here hx rfl (pc0 := 8) (pc' := 26) rfl (hb hby d6_8) rfl (tlt hc3).2.2.1 (by decide) (by decide) k
    refine Runs.via (T' := T2) (g' := (mkF m 27 #[.val (.ref a1), .val (.ref a2)] [(.int (0 : Int32))])) (fun t k => ?_) ?_
    · show Steps p.tables e below (T2.setTop (mkF m 26 #[.val (.ref a1), .val (.ref a2)] [])) t
      refine XS.iconst X2.here hx rfl (hb hby d6_26) ?_
      exact k
    obtain rfl := Option.some.inj hr
    exact own_retN X2 hx hlk (t := .boolean) hret (by simp) (hb hby d6_27) (by show (cells + 0) ≤ 0; omega) (by show (slots + 0) ≤ 0; omega) ⟨rfl, N2, e2⟩
  · refine Runs.via (T' := T2) (g' := (mkF m 11 #[.val (.ref a1), .val (.ref a2)] [])) (fun t k => ?_) ?_
    · show Steps p.tables e below (T2.setTop (mkF m 8 #[.val (.ref a1), .val (.ref a2)] [(.int r2), (.int q_a1_first)])) t
      exact XS.icmpNo X2.here hx rfl (hb hby d6_8) rfl (flt hc3).2.2.1 k
    refine Runs.via (T' := T2) (g' := (mkF m 12 #[.val (.ref a1), .val (.ref a2)] [(.ref a2)])) (fun t k => ?_) ?_
    · show Steps p.tables e below (T2.setTop (mkF m 11 #[.val (.ref a1), .val (.ref a2)] [])) t
      refine XS.aloadN X2.here hx rfl (hb hby d6_11) rfl rfl ?_
      exact k
    refine bindE hr ?_; intro r4 hr4m hr
    obtain ⟨cq4, kq4, q4a, q4b, q4c⟩ := isOf hZ e2 E_a2_0
    obtain ⟨_, _, ⟨T4, L4, k4, n4⟩, -, X4, ⟨Lc4, hQ4, l4, y4, z4⟩, st4⟩ := X2.virtualBack hx (y := (⟨"com/example/wirelace/wirelace/schema/Reserved$Range", "first", "()I"⟩ : MethodName)) (z := (⟨"com/example/wirelace/wirelace/schema/Reserved$Range", "first", "()I"⟩ : MethodName)) hown (mvT hZ (hw _ (List.mem_of_getElem? (i := 35) rfl))) (mvT hZ (hw _ (List.mem_of_getElem? (i := 36) rfl))) (notFace_of_selects (args := #[]) (mvT hZ (hw _ (List.mem_of_getElem? (i := 38) rfl)))) (mvT hZ (hw _ (List.mem_of_getElem? (i := 38) rfl))) (mvT hZ (hw _ (List.mem_of_getElem? (i := 37) rfl))) (by decide) (backOf (W := 0) (rm8 l Z a0 hw [] a2 q_a2_first q_a2_last hE n0 Z1 (by omega) E_a2_0 F_a2_first_0 F_a2_last_0 r4 hr4m) hZ (hw _ (List.mem_of_getElem? (i := 39) rfl)) (hw _ (List.mem_of_getElem? (i := 9) rfl)) (by decide) (by decide)) q4a q4c (g := (mkF m 12 #[.val (.ref a1), .val (.ref a2)] [(.ref a2)])) rfl (by rw [hml]; rfl) (Steps.refl _) (argsL := []) (rest := []) (lenOf pd_3 rfl) rfl (by show 2 * 0 + _ ≤ _; exact Nat.le_of_eq rfl) (hb hby d6_12) (fun _ _ => ⟨rfl, e2, (by show (cells + 0) + 0 ≤ 0; omega), (by show (slots + 0) + 0 ≤ 0; omega)⟩)
    dsimp only [Pt.U, Pt.locs, Pt.cells, Pt.slots] at X4 l4 y4 z4 st4 hQ4
    replace y4 := y4.symm; replace z4 := z4.symm; subst l4 y4 z4
    obtain ⟨rfl, N4q, e4⟩ := hQ4
    have N4 := Fr.app N2 N4q
    refine Runs.via (T' := T4) (g' := (mkF m 15 #[.val (.ref a1), .val (.ref a2)] [(.int r4)])) (fun t k => st4.trans k) ?_
    refine Runs.via (T' := T4) (g' := (mkF m 16 #[.val (.ref a1), .val (.ref a2)] [(.ref a1), (.int r4)])) (fun t k => ?_) ?_
    · show Steps p.tables e below (T4.setTop (mkF m 15 #[.val (.ref a1), .val (.ref a2)] [(.int r4)])) t
      refine XS.aloadN X4.here hx rfl (hb hby d6_15) rfl rfl ?_
      exact k
    obtain ⟨T5, X5, e5, st5⟩ := getF X4 hx hZ hown (host := "") (Or.inl (hw _ (List.mem_of_getElem? (i := 23) rfl))) Via.refl e4 F_a1_last_0 (g := (mkF m 16 #[.val (.ref a1), .val (.ref a2)] [(.ref a1), (.int r4)])) rfl rfl (hb hby d6_16)
    refine Runs.via (T' := T5) (g' := (mkF m 19 #[.val (.ref a1), .val (.ref a2)] [(.int q_a1_last), (.int r4)])) (fun t k => st5 _ k) ?_
    refine iteE hr (fun hc6 hr => ?_) (fun hc6 hr => ?_)
    · refine Runs.via (T' := T5) (g' := (mkF m 26 #[.val (.ref a1), .val (.ref a2)] [])) (fun t k => ?_) ?_
      · show Steps p.tables e below (T5.setTop (mkF m 19 #[.val (.ref a1), .val (.ref a2)] [(.int q_a1_last), (.int r4)])) t
        exact XS.icmpYes X5.here hx rfl (pc0 := 19) (pc' := 26) rfl (hb hby d6_19) rfl (tlt hc6).2.2.1 (by decide) (by decide) k
      refine Runs.via (T' := T5) (g' := (mkF m 27 #[.val (.ref a1), .val (.ref a2)] [(.int (0 : Int32))])) (fun t k => ?_) ?_
      · show Steps p.tables e below (T5.setTop (mkF m 26 #[.val (.ref a1), .val (.ref a2)] [])) t
        refine XS.iconst X5.here hx rfl (hb hby d6_26) ?_
        exact k
      obtain rfl := Option.some.inj hr
      exact own_retN X5 hx hlk (t := .boolean) hret (by simp) (hb hby d6_27) (by show ((cells + 0) + 0) ≤ 0; omega) (by show ((slots + 0) + 0) ≤ 0; omega) ⟨rfl, N4, e5⟩
    · refine Runs.via (T' := T5) (g' := (mkF m 22 #[.val (.ref a1), .val (.ref a2)] [])) (fun t k => ?_) ?_
      · show Steps p.tables e below (T5.setTop (mkF m 19 #[.val (.ref a1), .val (.ref a2)] [(.int q_a1_last), (.int r4)])) t
        exact XS.icmpNo X5.here hx rfl (hb hby d6_19) rfl (flt hc6).2.2.1 k
      refine Runs.via (T' := T5) (g' := (mkF m 27 #[.val (.ref a1), .val (.ref a2)] [(.int (1 : Int32))])) (fun t k => ?_) ?_
      · show Steps p.tables e below (T5.setTop (mkF m 22 #[.val (.ref a1), .val (.ref a2)] [])) t
        refine XS.iconst X5.here hx rfl (hb hby d6_22) ?_
        show Steps p.tables e below (T5.setTop (mkF m 23 #[.val (.ref a1), .val (.ref a2)] [(.int (1 : Int32))])) t
        refine XS.goto X5.here hx rfl (pc0 := 23) (pc' := 27) rfl (hb hby d6_23) (by decide) (by decide) ?_
        exact k
      obtain rfl := Option.some.inj hr
      exact own_retN X5 hx hlk (t := .boolean) hret (by simp) (hb hby d6_27) (by show ((cells + 0) + 0) ≤ 0; omega) (by show ((slots + 0) + 0) ≤ 0; omega) ⟨rfl, N4, e5⟩
def f6 (q_a1_first : Int32) (q_a1_last : Int32) (q_a2_first : Int32) (q_a2_last : Int32) : Option (Int32) := g6_0 q_a1_first q_a1_last q_a2_first q_a2_last
theorem pn_6 : plainName "com/example/wirelace/wirelace/schema/Reserved$Range" = true := by first | (simp [plainName, overriddenIn]; done) | decide +kernel
theorem ef_6 (m : MethodId) (a1 : Addr) (a2 : Addr) : entryFrame m #[(.ref a1), (.ref a2)] 2 = mkF m 0 #[.val (.ref a1), .val (.ref a2)] [] := by first | (simp [entryFrame, mkF, argsToLocals, Value.category]; done) | rfl
set_option maxRecDepth 65536 in
set_option maxHeartbeats 4000000 in
theorem rm6 (l : Launch) (Z : State) (a0 : Array Value) (hw : ∀ d ∈ tables_1, d.before a0 Z = true) (ws : List Jvm.Cond) (a1 : Addr) (a2 : Addr) (q_a1_first : Int32) (q_a1_last : Int32) (q_a2_first : Int32) (q_a2_last : Int32) (hE : Heap) (n0 : Nat) (Z0 : n0 ≤ hE.size) (o0 : n0 ≤ a1) (o1 : @LT.lt Nat instLTNat a1 a2) (E_a1_0 : Exa Z hE a1 "com/example/wirelace/wirelace/schema/Reserved$Range") (F_a1_first_0 : Fld Z hE a1 "com/example/wirelace/wirelace/schema/Reserved$Range" "first" "I" (.int q_a1_first)) (F_a1_last_0 : Fld Z hE a1 "com/example/wirelace/wirelace/schema/Reserved$Range" "last" "I" (.int q_a1_last)) (E_a2_0 : Exa Z hE a2 "com/example/wirelace/wirelace/schema/Reserved$Range") (F_a2_first_0 : Fld Z hE a2 "com/example/wirelace/wirelace/schema/Reserved$Range" "first" "I" (.int q_a2_first)) (F_a2_last_0 : Fld Z hE a2 "com/example/wirelace/wirelace/schema/Reserved$Range" "last" "I" (.int q_a2_last)) (r : Int32) (hr : f6 q_a1_first q_a1_last q_a2_first q_a2_last = some r) :
    MetFree l (⟨"com/example/wirelace/wirelace/schema/Reserved$Range", "overlaps", "(Lcom/example/wirelace/wirelace/schema/Reserved$Range;)Z"⟩ : MethodName) (head1 (Jvm.Cond.code (⟨"com/example/wirelace/wirelace/schema/Reserved$Range", "overlaps", "(Lcom/example/wirelace/wirelace/schema/Reserved$Range;)Z"⟩ : MethodName) prog_87_method_2_code 2 (some .boolean) :: ws) ({ frames := 1, cells := 0, slots := 0, locals := 13 } : Room)) (fun a U => a = #[(.ref a1), (.ref a2)] ∧ Z.Warmed39 U.vm ∧ U.heap = hE) (fun _ _ _ _ _ => True) (fun _ U o U' => ∃ v L, o = .returned v ∧ (P6 Z hE a1 a2 q_a1_first q_a1_last q_a2_first q_a2_last n0 r v U'.heap L) ∧ FrameEnd U o U' L ({ frames := 1, cells := 0, slots := 0, locals := 13 } : Room).cells ({ frames := 1, cells := 0, slots := 0, locals := 13 } : Room).slots) := by
  refine MetFree.of_bodySF (plainFor_of_name pn_6) hisR ?_
  intro p e s m args below meth c s₁ Bd hml0 hP hK
  obtain ⟨rfl, hZ, hh⟩ := hP
  have X0 : Stand p l e ({ frames := 1, cells := 0, slots := 0, locals := 13 } : Room) s m #[(.ref a1), (.ref a2)] below meth c s₁ [] 0 0 := Stand.of_body Bd
  have e0 : s₁.heap = hE := by rw [← hh, Bd.state]; rfl
  have C : Ctx p s m meth c Z a0 "com/example/wirelace/wirelace/schema/Reserved$Range" prog_87_method_2_code 2 (some .boolean) "overlaps" := ⟨Bd.exec, hZ, hw, Bd.bytes, hml0, findClass_of_methodNamed Bd.named, Bd.returns, BodyLoose.notSynchronized Bd, (name_of_methodNamed Bd.named Bd.method).1⟩
  refine Runs.via (fun t k => castTop (ef_6 m a1 a2) k) (b6_0 C X0 e0 (Fr.nil n0) (by show 0 ≤ 0; omega) (by show 0 ≤ 0; omega) Z0 (by omega) (by omega) E_a1_0 F_a1_first_0 F_a1_last_0 E_a2_0 F_a2_first_0 F_a2_last_0 hr)
theorem pd_4 : parseMethodDescriptor "(Lcom/example/wirelace/wirelace/schema/Reserved$Range;)Z" = some ⟨[(.object "com/example/wirelace/wirelace/schema/Reserved$Range")], some .boolean⟩ := by decide +kernel
def P6a (Z : State) (hE : Heap) (a1 : Addr) (a2 : Addr) (q_a1_first : Int32) (q_a1_last : Int32) (q_a2_first : Int32) (q_a2_last : Int32) (n0 : Nat) (r : Int32) (v : Option Value) (h : Heap) (L : List Loc) : Prop := v = some (.int r) ∧ Fr n0 L ∧ h = hE
def g6a_0 (q_a1_first : Int32) (q_a1_last : Int32) (q_a2_first : Int32) (q_a2_last : Int32) : Option (Int32) := ((f7 q_a1_first q_a1_last).bind fun r2 => (if r2 < q_a2_first then some (0 : Int32) else ((f8 q_a1_first q_a1_last).bind fun r4 => (if q_a2_last < r4 then some (0 : Int32) else some (1 : Int32)))))
set_option maxRecDepth 65536 in
set_option maxHeartbeats 4000000 in
theorem b6a_0 {hE : Heap} {a1 : Addr} {a2 : Addr} {q_a1_first : Int32} {q_a1_last : Int32} {q_a2_first : Int32} {q_a2_last : Int32} {r : Int32} (C : Ctx p s m meth c Z a0 "com/example/wirelace/wirelace/schema/Reserved$Range" prog_87_method_2_code 2 (some .boolean) "overlaps") (X0 : Stand p l e ({ frames := 1, cells := 0, slots := 0, locals := 13 } : Room) s m args below meth c T0 locs cells slots) (e0 : T0.heap = hE) (N0 : Fr n0 locs) (hk : cells ≤ 0) (hn : slots ≤ 0) (Z1 : n0 ≤ hE.size) (o0 : n0 ≤ a1) (o1 : @LT.lt Nat instLTNat a1 a2) (E_a1_0 : Exa Z hE a1 "com/example/wirelace/wirelace/schema/Reserved$Range") (F_a1_first_0 : Fld Z hE a1 "com/example/wirelace/wirelace/schema/Reserved$Range" "first" "I" (.int q_a1_first)) (F_a1_last_0 : Fld Z hE a1 "com/example/wirelace/wirelace/schema/Reserved$Range" "last" "I" (.int q_a1_last)) (E_a2_0 : Exa Z hE a2 "com/example/wirelace/wirelace/schema/Reserved$Range") (F_a2_first_0 : Fld Z hE a2 "com/example/wirelace/wirelace/schema/Reserved$Range" "first" "I" (.int q_a2_first)) (F_a2_last_0 : Fld Z hE a2 "com/example/wirelace/wirelace/schema/Reserved$Range" "last" "I" (.int q_a2_last)) (hr : g6a_0 q_a1_first q_a1_last q_a2_first q_a2_last = some r) :
    Runs p e below s (P6a Z hE a1 a2 q_a1_first q_a1_last q_a2_first q_a2_last n0 r) 0 0 T0 (mkF m 0 #[.val (.ref a2), .val (.ref a1)] []) := by
  unfold g6a_0 at hr
  have ⟨hx, hZ, hw, hby, hml, hown, hret, hlk, hnm⟩ := C
  refine Runs.via (T' := T0) (g' := (mkF m 1 #[.val (.ref a2), .val (.ref a1)] [(.ref a2)])) (fun t k => ?_) ?_
  · show Steps p.tables e below (T0.setTop (mkF m 0 #[.val (.ref a2), .val (.ref a1)] [])) t
    refine XS.aloadN X0.here hx rfl (hb hby d6_0) rfl rfl ?_
    exact k
  obtain ⟨T1, X1, e1, st1⟩ := getF X0 hx hZ hown (host := "") (Or.inl (hw _ (List.mem_of_getElem? (i := 21) rfl))) Via.refl e0 F_a2_first_0 (g := (mkF m 1 #[.val (.ref a2), .val (.ref a1)] [(.ref a2)])) rfl rfl (hb hby d6_1)
  refine Runs.via (T' := T1) (g' := (mkF m 4 #[.val (.ref a2), .val (.ref a1)] [(.int q_a2_first)])) (fun t k => st1 _ k) ?_
  refine Runs.via (T' := T1) (g' := (mkF m 5 #[.val (.ref a2), .val (.ref a1)] [(.ref a1), (.int q_a2_first)])) (fun t k => ?_) ?_
  · show Steps p.tables e below (T1.setTop (mkF m 4 #[.val (.ref a2), .val (.ref a1)] [(.int q_a2_first)])) t
    refine XS.aloadN X1.here hx rfl (hb hby d6_4) rfl rfl ?_
    exact k
  refine bindE hr ?_; intro r2 hr2m hr
  obtain ⟨cq2, kq2, q2a, q2b, q2c⟩ := isOf hZ e1 E_a1_0
  obtain ⟨_, _, ⟨T2, L2, k2, n2⟩, -, X2, ⟨Lc2, hQ2, l2, y2, z2⟩, st2⟩ := X1.virtualBack hx (y := (⟨"com/example/wirelace/wirelace/schema/Reserved$Range", "last", "()I"⟩ : MethodName)) (z := (⟨"com/example/wirelace/wirelace/schema/Reserved$Range", "last", "()I"⟩ : MethodName)) hown (mvT hZ (hw _ (List.mem_of_getElem? (i := 30) rfl))) (mvT hZ (hw _ (List.mem_of_getElem? (i := 31) rfl))) (notFace_of_selects (args := #[]) (mvT hZ (hw _ (List.mem_of_getElem? (i := 33) rfl)))) (mvT hZ (hw _ (List.mem_of_getElem? (i := 33) rfl))) (mvT hZ (hw _ (List.mem_of_getElem? (i := 32) rfl))) (by decide) (backOf (W := 1) (rm7 l Z a0 hw [] a1 q_a1_first q_a1_last hE n0 Z1 (by omega) E_a1_0 F_a1_first_0 F_a1_last_0 r2 hr2m) hZ (hw _ (List.mem_of_getElem? (i := 34) rfl)) (hw _ (List.mem_of_getElem? (i := 9) rfl)) (by decide) (by decide)) q2a q2c (g := (mkF m 5 #[.val (.ref a2), .val (.ref a1)] [(.ref a1), (.int q_a2_first)])) rfl (by rw [hml]; rfl) (Steps.refl _) (argsL := []) (rest := [(.int q_a2_first)]) (lenOf pd_3 rfl) rfl (by show 2 * 0 + _ ≤ _; exact Nat.le_of_eq rfl) (hb hby d6_5) (fun _ _ => ⟨rfl, e1, (by show cells + 0 ≤ 0; omega), (by show slots + 0 ≤ 0; omega)⟩)
  dsimp only [Pt.U, Pt.locs, Pt.cells, Pt.slots] at X2 l2 y2 z2 st2 hQ2
  replace y2 := y2.symm; replace z2 := z2.symm; subst l2 y2 z2
  obtain ⟨rfl, N2q, e2⟩ := hQ2
  have N2 := Fr.app N0 N2q
  refine Runs.via (T' := T2) (g' := (mkF m 8 #[.val (.ref a2), .val (.ref a1)] [(.int r2), (.int q_a2_first)])) (fun t k => st2.trans k) ?_
  refine iteE hr (fun hc3 hr => ?_) (fun hc3 hr => ?_)
  · refine Runs.via (T' := T2) (g' := (mkF m 26 #[.val (.ref a2), .val (.ref a1)] [])) (fun t k => ?_) ?_
    · show Steps p.tables e below (T2.setTop (mkF m 8 #[.val (.ref a2), .val (.ref a1)] [(.int r2), (.int q_a2_first)])) t
      exact XS.icmpYes X2.here hx rfl (pc0 := 8) (pc' := 26) rfl (hb hby d6_8) rfl (tlt hc3).2.2.1 (by decide) (by decide) k
    refine Runs.via (T' := T2) (g' := (mkF m 27 #[.val (.ref a2), .val (.ref a1)] [(.int (0 : Int32))])) (fun t k => ?_) ?_
    · show Steps p.tables e below (T2.setTop (mkF m 26 #[.val (.ref a2), .val (.ref a1)] [])) t
      refine XS.iconst X2.here hx rfl (hb hby d6_26) ?_
      exact k
    obtain rfl := Option.some.inj hr
    exact own_retN X2 hx hlk (t := .boolean) hret (by simp) (hb hby d6_27) (by show (cells + 0) ≤ 0; omega) (by show (slots + 0) ≤ 0; omega) ⟨rfl, N2, e2⟩
  · refine Runs.via (T' := T2) (g' := (mkF m 11 #[.val (.ref a2), .val (.ref a1)] [])) (fun t k => ?_) ?_
    · show Steps p.tables e below (T2.setTop (mkF m 8 #[.val (.ref a2), .val (.ref a1)] [(.int r2), (.int q_a2_first)])) t
      exact XS.icmpNo X2.here hx rfl (hb hby d6_8) rfl (flt hc3).2.2.1 k
    refine Runs.via (T' := T2) (g' := (mkF m 12 #[.val (.ref a2), .val (.ref a1)] [(.ref a1)])) (fun t k => ?_) ?_
    · show Steps p.tables e below (T2.setTop (mkF m 11 #[.val (.ref a2), .val (.ref a1)] [])) t
      refine XS.aloadN X2.here hx rfl (hb hby d6_11) rfl rfl ?_
      exact k
    refine bindE hr ?_; intro r4 hr4m hr
    obtain ⟨cq4, kq4, q4a, q4b, q4c⟩ := isOf hZ e2 E_a1_0
    obtain ⟨_, _, ⟨T4, L4, k4, n4⟩, -, X4, ⟨Lc4, hQ4, l4, y4, z4⟩, st4⟩ := X2.virtualBack hx (y := (⟨"com/example/wirelace/wirelace/schema/Reserved$Range", "first", "()I"⟩ : MethodName)) (z := (⟨"com/example/wirelace/wirelace/schema/Reserved$Range", "first", "()I"⟩ : MethodName)) hown (mvT hZ (hw _ (List.mem_of_getElem? (i := 35) rfl))) (mvT hZ (hw _ (List.mem_of_getElem? (i := 36) rfl))) (notFace_of_selects (args := #[]) (mvT hZ (hw _ (List.mem_of_getElem? (i := 38) rfl)))) (mvT hZ (hw _ (List.mem_of_getElem? (i := 38) rfl))) (mvT hZ (hw _ (List.mem_of_getElem? (i := 37) rfl))) (by decide) (backOf (W := 0) (rm8 l Z a0 hw [] a1 q_a1_first q_a1_last hE n0 Z1 (by omega) E_a1_0 F_a1_first_0 F_a1_last_0 r4 hr4m) hZ (hw _ (List.mem_of_getElem? (i := 39) rfl)) (hw _ (List.mem_of_getElem? (i := 9) rfl)) (by decide) (by decide)) q4a q4c (g := (mkF m 12 #[.val (.ref a2), .val (.ref a1)] [(.ref a1)])) rfl (by rw [hml]; rfl) (Steps.refl _) (argsL := []) (rest := []) (lenOf pd_3 rfl) rfl (by show 2 * 0 + _ ≤ _; exact Nat.le_of_eq rfl) (hb hby d6_12) (fun _ _ => ⟨rfl, e2, (by show (cells + 0) + 0 ≤ 0; omega), (by show (slots + 0) + 0 ≤ 0; omega)⟩)
    dsimp only [Pt.U, Pt.locs, Pt.cells, Pt.slots] at X4 l4 y4 z4 st4 hQ4
    replace y4 := y4.symm; replace z4 := z4.symm; subst l4 y4 z4
    obtain ⟨rfl, N4q, e4⟩ := hQ4
    have N4 := Fr.app N2 N4q
    refine Runs.via (T' := T4) (g' := (mkF m 15 #[.val (.ref a2), .val (.ref a1)] [(.int r4)])) (fun t k => st4.trans k) ?_
    refine Runs.via (T' := T4) (g' := (mkF m 16 #[.val (.ref a2), .val (.ref a1)] [(.ref a2), (.int r4)])) (fun t k => ?_) ?_
    · show Steps p.tables e below (T4.setTop (mkF m 15 #[.val (.ref a2), .val (.ref a1)] [(.int r4)])) t
      refine XS.aloadN X4.here hx rfl (hb hby d6_15) rfl rfl ?_
      exact k
    obtain ⟨T5, X5, e5, st5⟩ := getF X4 hx hZ hown (host := "") (Or.inl (hw _ (List.mem_of_getElem? (i := 23) rfl))) Via.refl e4 F_a2_last_0 (g := (mkF m 16 #[.val (.ref a2), .val (.ref a1)] [(.ref a2), (.int r4)])) rfl rfl (hb hby d6_16)
    refine Runs.via (T' := T5) (g' := (mkF m 19 #[.val (.ref a2), .val (.ref a1)] [(.int q_a2_last), (.int r4)])) (fun t k => st5 _ k) ?_
    refine iteE hr (fun hc6 hr => ?_) (fun hc6 hr => ?_)
    · refine Runs.via (T' := T5) (g' := (mkF m 26 #[.val (.ref a2), .val (.ref a1)] [])) (fun t k => ?_) ?_
      · show Steps p.tables e below (T5.setTop (mkF m 19 #[.val (.ref a2), .val (.ref a1)] [(.int q_a2_last), (.int r4)])) t
        exact XS.icmpYes X5.here hx rfl (pc0 := 19) (pc' := 26) rfl (hb hby d6_19) rfl (tlt hc6).2.2.1 (by decide) (by decide) k
      refine Runs.via (T' := T5) (g' := (mkF m 27 #[.val (.ref a2), .val (.ref a1)] [(.int (0 : Int32))])) (fun t k => ?_) ?_
      · show Steps p.tables e below (T5.setTop (mkF m 26 #[.val (.ref a2), .val (.ref a1)] [])) t
        refine XS.iconst X5.here hx rfl (hb hby d6_26) ?_
        exact k
      obtain rfl := Option.some.inj hr
      exact own_retN X5 hx hlk (t := .boolean) hret (by simp) (hb hby d6_27) (by show ((cells + 0) + 0) ≤ 0; omega) (by show ((slots + 0) + 0) ≤ 0; omega) ⟨rfl, N4, e5⟩
    · refine Runs.via (T' := T5) (g' := (mkF m 22 #[.val (.ref a2), .val (.ref a1)] [])) (fun t k => ?_) ?_
      · show Steps p.tables e below (T5.setTop (mkF m 19 #[.val (.ref a2), .val (.ref a1)] [(.int q_a2_last), (.int r4)])) t
        exact XS.icmpNo X5.here hx rfl (hb hby d6_19) rfl (flt hc6).2.2.1 k
      refine Runs.via (T' := T5) (g' := (mkF m 27 #[.val (.ref a2), .val (.ref a1)] [(.int (1 : Int32))])) (fun t k => ?_) ?_
      · show Steps p.tables e below (T5.setTop (mkF m 22 #[.val (.ref a2), .val (.ref a1)] [])) t
        refine XS.iconst X5.here hx rfl (hb hby d6_22) ?_
        show Steps p.tables e below (T5.setTop (mkF m 23 #[.val (.ref a2), .val (.ref a1)] [(.int (1 : Int32))])) t
        refine XS.goto X5.here hx rfl (pc0 := 23) (pc' := 27) rfl (hb hby d6_23) (by decide) (by decide) ?_
        exact k
      obtain rfl := Option.some.inj hr
      exact own_retN X5 hx hlk (t := .boolean) hret (by simp) (hb hby d6_27) (by show ((cells + 0) + 0) ≤ 0; omega) (by show ((slots + 0) + 0) ≤ 0; omega) ⟨rfl, N4, e5⟩
def f6a (q_a1_first : Int32) (q_a1_last : Int32) (q_a2_first : Int32) (q_a2_last : Int32) : Option (Int32) := g6a_0 q_a1_first q_a1_last q_a2_first q_a2_last
theorem pn_6a : plainName "com/example/wirelace/wirelace/schema/Reserved$Range" = true := by first | (simp [plainName, overriddenIn]; done) | decide +kernel
theorem ef_6a (m : MethodId) (a1 : Addr) (a2 : Addr) : entryFrame m #[(.ref a2), (.ref a1)] 2 = mkF m 0 #[.val (.ref a2), .val (.ref a1)] [] := by first | (simp [entryFrame, mkF, argsToLocals, Value.category]; done) | rfl
set_option maxRecDepth 65536 in
set_option maxHeartbeats 4000000 in
theorem rm6a (l : Launch) (Z : State) (a0 : Array Value) (hw : ∀ d ∈ tables_1, d.before a0 Z = true) (ws : List Jvm.Cond) (a1 : Addr) (a2 : Addr) (q_a1_first : Int32) (q_a1_last : Int32) (q_a2_first : Int32) (q_a2_last : Int32) (hE : Heap) (n0 : Nat) (Z0 : n0 ≤ hE.size) (o0 : n0 ≤ a1) (o1 : @LT.lt Nat instLTNat a1 a2) (E_a1_0 : Exa Z hE a1 "com/example/wirelace/wirelace/schema/Reserved$Range") (F_a1_first_0 : Fld Z hE a1 "com/example/wirelace/wirelace/schema/Reserved$Range" "first" "I" (.int q_a1_first)) (F_a1_last_0 : Fld Z hE a1 "com/example/wirelace/wirelace/schema/Reserved$Range" "last" "I" (.int q_a1_last)) (E_a2_0 : Exa Z hE a2 "com/example/wirelace/wirelace/schema/Reserved$Range") (F_a2_first_0 : Fld Z hE a2 "com/example/wirelace/wirelace/schema/Reserved$Range" "first" "I" (.int q_a2_first)) (F_a2_last_0 : Fld Z hE a2 "com/example/wirelace/wirelace/schema/Reserved$Range" "last" "I" (.int q_a2_last)) (r : Int32) (hr : f6a q_a1_first q_a1_last q_a2_first q_a2_last = some r) :
    MetFree l (⟨"com/example/wirelace/wirelace/schema/Reserved$Range", "overlaps", "(Lcom/example/wirelace/wirelace/schema/Reserved$Range;)Z"⟩ : MethodName) (head1 (Jvm.Cond.code (⟨"com/example/wirelace/wirelace/schema/Reserved$Range", "overlaps", "(Lcom/example/wirelace/wirelace/schema/Reserved$Range;)Z"⟩ : MethodName) prog_87_method_2_code 2 (some .boolean) :: ws) ({ frames := 1, cells := 0, slots := 0, locals := 13 } : Room)) (fun a U => a = #[(.ref a2), (.ref a1)] ∧ Z.Warmed39 U.vm ∧ U.heap = hE) (fun _ _ _ _ _ => True) (fun _ U o U' => ∃ v L, o = .returned v ∧ (P6a Z hE a1 a2 q_a1_first q_a1_last q_a2_first q_a2_last n0 r v U'.heap L) ∧ FrameEnd U o U' L ({ frames := 1, cells := 0, slots := 0, locals := 13 } : Room).cells ({ frames := 1, cells := 0, slots := 0, locals := 13 } : Room).slots) := by
  refine MetFree.of_bodySF (plainFor_of_name pn_6a) hisR ?_
  intro p e s m args below meth c s₁ Bd hml0 hP hK
  obtain ⟨rfl, hZ, hh⟩ := hP
  have X0 : Stand p l e ({ frames := 1, cells := 0, slots := 0, locals := 13 } : Room) s m #[(.ref a2), (.ref a1)] below meth c s₁ [] 0 0 := Stand.of_body Bd
  have e0 : s₁.heap = hE := by rw [← hh, Bd.state]; rfl
  have C : Ctx p s m meth c Z a0 "com/example/wirelace/wirelace/schema/Reserved$Range" prog_87_method_2_code 2 (some .boolean) "overlaps" := ⟨Bd.exec, hZ, hw, Bd.bytes, hml0, findClass_of_methodNamed Bd.named, Bd.returns, BodyLoose.notSynchronized Bd, (name_of_methodNamed Bd.named Bd.method).1⟩
  refine Runs.via (fun t k => castTop (ef_6a m a1 a2) k) (b6a_0 C X0 e0 (Fr.nil n0) (by show 0 ≤ 0; omega) (by show 0 ≤ 0; omega) Z0 (by omega) (by omega) E_a1_0 F_a1_first_0 F_a1_last_0 E_a2_0 F_a2_first_0 F_a2_last_0 hr)
def P0 (n0 : Nat) (r : Int32) (v : Option Value) (h : Heap) (L : List Loc) : Prop := v = some (.int r) ∧ Fr n0 L
def g0_76 (u0 : Int32) (q_n0_0_first : Int32) (q_n0_0_last : Int32) (q_n1_0_first : Int32) (q_n1_0_last : Int32) : Option (Int32) := ((f6 q_n0_0_first q_n0_0_last q_n1_0_first q_n1_0_last).bind fun r1 => (if r1 = u0 then ((f6a q_n0_0_first q_n0_0_last q_n1_0_first q_n1_0_last).bind fun r3 => (if r3 = u0 then some (1 : Int32) else some (0 : Int32))) else some (0 : Int32)))
set_option maxRecDepth 65536 in
set_option maxHeartbeats 4000000 in
theorem b0_76 {r : Int32} (C : Ctx p s m meth c Z a0 "com/example/wirelace/wirelace/schema/RangeOverlapsPinLaw" code 11 (some .boolean) "law") (X0 : Stand p l e room_1 s m args below meth c T0 locs cells slots) (e0 : T0.heap = h0) (N0 : Fr n0 locs) (hk : cells ≤ 2) (hn : slots ≤ 4) (Z1 : n0 ≤ h0.size) (n0_0 : Addr) (n1_0 : Addr) (o0 : n0 ≤ n0_0) (o1 : @LT.lt Nat instLTNat n0_0 n1_0) (q_n0_0_first : Int32) (q_n0_0_last : Int32) (q_n1_0_first : Int32) (q_n1_0_last : Int32) (x0 : Int32) (x1 : Int32) (x2 : Int32) (x3 : Int32) (x4 : Int32) (x5 : Int32) (x6 : Int32) (x7 : Int32) (u0 : Int32) (E_n0_0_0 : Exa Z h0 n0_0 "com/example/wirelace/wirelace/schema/Reserved$Range") (F_n0_0_first_0 : Fld Z h0 n0_0 "com/example/wirelace/wirelace/schema/Reserved$Range" "first" "I" (.int q_n0_0_first)) (F_n0_0_last_0 : Fld Z h0 n0_0 "com/example/wirelace/wirelace/schema/Reserved$Range" "last" "I" (.int q_n0_0_last)) (E_n1_0_0 : Exa Z h0 n1_0 "com/example/wirelace/wirelace/schema/Reserved$Range") (F_n1_0_first_0 : Fld Z h0 n1_0 "com/example/wirelace/wirelace/schema/Reserved$Range" "first" "I" (.int q_n1_0_first)) (F_n1_0_last_0 : Fld Z h0 n1_0 "com/example/wirelace/wirelace/schema/Reserved$Range" "last" "I" (.int q_n1_0_last)) (hr : g0_76 u0 q_n0_0_first q_n0_0_last q_n1_0_first q_n1_0_last = some r) :
    Runs p e below s (P0 n0 r) 2 4 T0 (mkF m 76 #[.val (.int x0), .val (.int x1), .val (.int x2), .val (.int x3), .val (.int x4), .val (.int x5), .val (.int x6), .val (.int x7), .val (.ref n0_0), .val (.ref n1_0), .unset] [(.int u0)]) := by
  unfold g0_76 at hr
  have ⟨hx, hZ, hw, hby, hml, hown, hret, hlk, hnm⟩ := C
  refine Runs.via (T' := T0) (g' := (mkF m 82 #[.val (.int x0), .val (.int x1), .val (.int x2), .val (.int x3), .val (.int x4), .val (.int x5), .val (.int x6), .val (.int x7), .val (.ref n0_0), .val (.ref n1_0), .val (.int u0)] [(.ref n1_0), (.ref n0_0)])) (fun t k => ?_) ?_
  · show Steps p.tables e below (T0.setTop (mkF m 76 #[.val (.int x0), .val (.int x1), .val (.int x2), .val (.int x3), .val (.int x4), .val (.int x5), .val (.int x6), .val (.int x7), .val (.ref n0_0), .val (.ref n1_0), .unset] [(.int u0)])) t
    refine XS.istore X0.here hx rfl (hb hby at_76) rfl (l' := #[.val (.int x0), .val (.int x1), .val (.int x2), .val (.int x3), .val (.int x4), .val (.int x5), .val (.int x6), .val (.int x7), .val (.ref n0_0), .val (.ref n1_0), .val (.int u0)]) rfl ?_
    show Steps p.tables e below (T0.setTop (mkF m 78 #[.val (.int x0), .val (.int x1), .val (.int x2), .val (.int x3), .val (.int x4), .val (.int x5), .val (.int x6), .val (.int x7), .val (.ref n0_0), .val (.ref n1_0), .val (.int u0)] [])) t
    refine XS.aload X0.here hx rfl (hb hby at_78) rfl rfl ?_
    show Steps p.tables e below (T0.setTop (mkF m 80 #[.val (.int x0), .val (.int x1), .val (.int x2), .val (.int x3), .val (.int x4), .val (.int x5), .val (.int x6), .val (.int x7), .val (.ref n0_0), .val (.ref n1_0), .val (.int u0)] [(.ref n0_0)])) t
    refine XS.aload X0.here hx rfl (hb hby at_80) rfl rfl ?_
    exact k
  refine bindE hr ?_; intro r1 hr1m hr
  obtain ⟨cq1, kq1, q1a, q1b, q1c⟩ := isOf hZ e0 E_n0_0_0
  obtain ⟨_, _, ⟨T1, L1, k1, n1⟩, -, X1, ⟨Lc1, hQ1, l1, y1, z1⟩, st1⟩ := X0.virtualBack hx (y := (⟨"com/example/wirelace/wirelace/schema/Reserved$Range", "overlaps", "(Lcom/example/wirelace/wirelace/schema/Reserved$Range;)Z"⟩ : MethodName)) (z := (⟨"com/example/wirelace/wirelace/schema/Reserved$Range", "overlaps", "(Lcom/example/wirelace/wirelace/schema/Reserved$Range;)Z"⟩ : MethodName)) hown (mvT hZ (hw _ (List.mem_of_getElem? (i := 25) rfl))) (mvT hZ (hw _ (List.mem_of_getElem? (i := 26) rfl))) (notFace_of_selects (args := #[]) (mvT hZ (hw _ (List.mem_of_getElem? (i := 28) rfl)))) (mvT hZ (hw _ (List.mem_of_getElem? (i := 28) rfl))) (mvT hZ (hw _ (List.mem_of_getElem? (i := 27) rfl))) (by decide) (backOf (W := 0) (rm6 l Z a0 hw [] n0_0 n1_0 q_n0_0_first q_n0_0_last q_n1_0_first q_n1_0_last h0 n0 Z1 (by omega) (by omega) E_n0_0_0 F_n0_0_first_0 F_n0_0_last_0 E_n1_0_0 F_n1_0_first_0 F_n1_0_last_0 r1 hr1m) hZ (hw _ (List.mem_of_getElem? (i := 29) rfl)) (hw _ (List.mem_of_getElem? (i := 9) rfl)) (by decide) (by decide)) q1a q1c (g := (mkF m 82 #[.val (.int x0), .val (.int x1), .val (.int x2), .val (.int x3), .val (.int x4), .val (.int x5), .val (.int x6), .val (.int x7), .val (.ref n0_0), .val (.ref n1_0), .val (.int u0)] [(.ref n1_0), (.ref n0_0)])) rfl (by rw [hml]; rfl) (Steps.refl _) (argsL := [(.ref n1_0)]) (rest := []) (lenOf pd_4 rfl) rfl (by show 2 * 0 + _ ≤ _; exact Nat.le_of_eq rfl) (hb hby at_82) (fun _ _ => ⟨rfl, e0, (by show cells + 0 ≤ 16; omega), (by show slots + 0 ≤ 128; omega)⟩)
  dsimp only [Pt.U, Pt.locs, Pt.cells, Pt.slots] at X1 l1 y1 z1 st1 hQ1
  replace y1 := y1.symm; replace z1 := z1.symm; subst l1 y1 z1
  obtain ⟨rfl, N1q, e1⟩ := hQ1
  have N1 := Fr.app N0 N1q
  refine Runs.via (T' := T1) (g' := (mkF m 85 #[.val (.int x0), .val (.int x1), .val (.int x2), .val (.int x3), .val (.int x4), .val (.int x5), .val (.int x6), .val (.int x7), .val (.ref n0_0), .val (.ref n1_0), .val (.int u0)] [(.int r1)])) (fun t k => st1.trans k) ?_
  refine Runs.via (T' := T1) (g' := (mkF m 87 #[.val (.int x0), .val (.int x1), .val (.int x2), .val (.int x3), .val (.int x4), .val (.int x5), .val (.int x6), .val (.int x7), .val (.ref n0_0), .val (.ref n1_0), .val (.int u0)] [(.int u0), (.int r1)])) (fun t k => ?_) ?_
  · show Steps p.tables e below (T1.setTop (mkF m 85 #[.val (.int x0), .val (.int x1), .val (.int x2), .val (.int x3), .val (.int x4), .val (.int x5), .val (.int x6), .val (.int x7), .val (.ref n0_0), .val (.ref n1_0), .val (.int u0)] [(.int r1)])) t
    refine XS.iload X1.here hx rfl (hb hby at_85) rfl ?_
    exact k
  refine iteE hr (fun hc2 hr => ?_) (fun hc2 hr => ?_)
  · refine Runs.via (T' := T1) (g' := (mkF m 90 #[.val (.int x0), .val (.int x1), .val (.int x2), .val (.int x3), .val (.int x4), .val (.int x5), .val (.int x6), .val (.int x7), .val (.ref n0_0), .val (.ref n1_0), .val (.int u0)] [])) (fun t k => ?_) ?_
    · show Steps p.tables e below (T1.setTop (mkF m 87 #[.val (.int x0), .val (.int x1), .val (.int x2), .val (.int x3), .val (.int x4), .val (.int x5), .val (.int x6), .val (.int x7), .val (.ref n0_0), .val (.ref n1_0), .val (.int u0)] [(.int u0), (.int r1)])) t
      exact XS.icmpNo X1.here hx rfl (hb hby at_87) rfl (teq hc2).2 k
    refine Runs.via (T' := T1) (g' := (mkF m 94 #[.val (.int x0), .val (.int x1), .val (.int x2), .val (.int x3), .val (.int x4), .val (.int x5), .val (.int x6), .val (.int x7), .val (.ref n0_0), .val (.ref n1_0), .val (.int u0)] [(.ref n0_0), (.ref n1_0)])) (fun t k => ?_) ?_
    · show Steps p.tables e below (T1.setTop (mkF m 90 #[.val (.int x0), .val (.int x1), .val (.int x2), .val (.int x3), .val (.int x4), .val (.int x5), .val (.int x6), .val (.int x7), .val (.ref n0_0), .val (.ref n1_0), .val (.int u0)] [])) t
      refine XS.aload X1.here hx rfl (hb hby at_90) rfl rfl ?_
      show Steps p.tables e below (T1.setTop (mkF m 92 #[.val (.int x0), .val (.int x1), .val (.int x2), .val (.int x3), .val (.int x4), .val (.int x5), .val (.int x6), .val (.int x7), .val (.ref n0_0), .val (.ref n1_0), .val (.int u0)] [(.ref n1_0)])) t
      refine XS.aload X1.here hx rfl (hb hby at_92) rfl rfl ?_
      exact k
    refine bindE hr ?_; intro r3 hr3m hr
    obtain ⟨cq3, kq3, q3a, q3b, q3c⟩ := isOf hZ e1 E_n1_0_0
    obtain ⟨_, _, ⟨T3, L3, k3, n3⟩, -, X3, ⟨Lc3, hQ3, l3, y3, z3⟩, st3⟩ := X1.virtualBack hx (y := (⟨"com/example/wirelace/wirelace/schema/Reserved$Range", "overlaps", "(Lcom/example/wirelace/wirelace/schema/Reserved$Range;)Z"⟩ : MethodName)) (z := (⟨"com/example/wirelace/wirelace/schema/Reserved$Range", "overlaps", "(Lcom/example/wirelace/wirelace/schema/Reserved$Range;)Z"⟩ : MethodName)) hown (mvT hZ (hw _ (List.mem_of_getElem? (i := 25) rfl))) (mvT hZ (hw _ (List.mem_of_getElem? (i := 26) rfl))) (notFace_of_selects (args := #[]) (mvT hZ (hw _ (List.mem_of_getElem? (i := 28) rfl)))) (mvT hZ (hw _ (List.mem_of_getElem? (i := 28) rfl))) (mvT hZ (hw _ (List.mem_of_getElem? (i := 27) rfl))) (by decide) (backOf (W := 0) (rm6a l Z a0 hw [] n0_0 n1_0 q_n0_0_first q_n0_0_last q_n1_0_first q_n1_0_last h0 n0 Z1 (by omega) (by omega) E_n0_0_0 F_n0_0_first_0 F_n0_0_last_0 E_n1_0_0 F_n1_0_first_0 F_n1_0_last_0 r3 hr3m) hZ (hw _ (List.mem_of_getElem? (i := 29) rfl)) (hw _ (List.mem_of_getElem? (i := 9) rfl)) (by decide) (by decide)) q3a q3c (g := (mkF m 94 #[.val (.int x0), .val (.int x1), .val (.int x2), .val (.int x3), .val (.int x4), .val (.int x5), .val (.int x6), .val (.int x7), .val (.ref n0_0), .val (.ref n1_0), .val (.int u0)] [(.ref n0_0), (.ref n1_0)])) rfl (by rw [hml]; rfl) (Steps.refl _) (argsL := [(.ref n0_0)]) (rest := []) (lenOf pd_4 rfl) rfl (by show 2 * 0 + _ ≤ _; exact Nat.le_of_eq rfl) (hb hby at_94) (fun _ _ => ⟨rfl, e1, (by show (cells + 0) + 0 ≤ 16; omega), (by show (slots + 0) + 0 ≤ 128; omega)⟩)
    dsimp only [Pt.U, Pt.locs, Pt.cells, Pt.slots] at X3 l3 y3 z3 st3 hQ3
    replace y3 := y3.symm; replace z3 := z3.symm; subst l3 y3 z3
    obtain ⟨rfl, N3q, e3⟩ := hQ3
    have N3 := Fr.app N1 N3q
    refine Runs.via (T' := T3) (g' := (mkF m 97 #[.val (.int x0), .val (.int x1), .val (.int x2), .val (.int x3), .val (.int x4), .val (.int x5), .val (.int x6), .val (.int x7), .val (.ref n0_0), .val (.ref n1_0), .val (.int u0)] [(.int r3)])) (fun t k => st3.trans k) ?_
    refine Runs.via (T' := T3) (g' := (mkF m 99 #[.val (.int x0), .val (.int x1), .val (.int x2), .val (.int x3), .val (.int x4), .val (.int x5), .val (.int x6), .val (.int x7), .val (.ref n0_0), .val (.ref n1_0), .val (.int u0)] [(.int u0), (.int r3)])) (fun t k => ?_) ?_
    · show Steps p.tables e below (T3.setTop (mkF m 97 #[.val (.int x0), .val (.int x1), .val (.int x2), .val (.int x3), .val (.int x4), .val (.int x5), .val (.int x6), .val (.int x7), .val (.ref n0_0), .val (.ref n1_0), .val (.int u0)] [(.int r3)])) t
      refine XS.iload X3.here hx rfl (hb hby at_97) rfl ?_
      exact k
    refine iteE hr (fun hc4 hr => ?_) (fun hc4 hr => ?_)
    · refine Runs.via (T' := T3) (g' := (mkF m 102 #[.val (.int x0), .val (.int x1), .val (.int x2), .val (.int x3), .val (.int x4), .val (.int x5), .val (.int x6), .val (.int x7), .val (.ref n0_0), .val (.ref n1_0), .val (.int u0)] [])) (fun t k => ?_) ?_
      · show Steps p.tables e below (T3.setTop (mkF m 99 #[.val (.int x0), .val (.int x1), .val (.int x2), .val (.int x3), .val (.int x4), .val (.int x5), .val (.int x6), .val (.int x7), .val (.ref n0_0), .val (.ref n1_0), .val (.int u0)] [(.int u0), (.int r3)])) t
        exact XS.icmpNo X3.here hx rfl (hb hby at_99) rfl (teq hc4).2 k
      refine Runs.via (T' := T3) (g' := (mkF m 107 #[.val (.int x0), .val (.int x1), .val (.int x2), .val (.int x3), .val (.int x4), .val (.int x5), .val (.int x6), .val (.int x7), .val (.ref n0_0), .val (.ref n1_0), .val (.int u0)] [(.int (1 : Int32))])) (fun t k => ?_) ?_
      · show Steps p.tables e below (T3.setTop (mkF m 102 #[.val (.int x0), .val (.int x1), .val (.int x2), .val (.int x3), .val (.int x4), .val (.int x5), .val (.int x6), .val (.int x7), .val (.ref n0_0), .val (.ref n1_0), .val (.int u0)] [])) t
        refine XS.iconst X3.here hx rfl (hb hby at_102) ?_
        show Steps p.tables e below (T3.setTop (mkF m 103 #[.val (.int x0), .val (.int x1), .val (.int x2), .val (.int x3), .val (.int x4), .val (.int x5), .val (.int x6), .val (.int x7), .val (.ref n0_0), .val (.ref n1_0), .val (.int u0)] [(.int (1 : Int32))])) t
        refine XS.goto X3.here hx rfl (pc0 := 103) (pc' := 107) rfl (hb hby at_103) (by decide) (by decide) ?_
        exact k
      obtain rfl := Option.some.inj hr
      exact own_retN X3 hx hlk (t := .boolean) hret (by simp) (hb hby at_107) (by show ((cells + 0) + 0) ≤ 2; omega) (by show ((slots + 0) + 0) ≤ 4; omega) ⟨rfl, N3⟩
    · refine Runs.via (T' := T3) (g' := (mkF m 106 #[.val (.int x0), .val (.int x1), .val (.int x2), .val (.int x3), .val (.int x4), .val (.int x5), .val (.int x6), .val (.int x7), .val (.ref n0_0), .val (.ref n1_0), .val (.int u0)] [])) (fun t k => ?_) ?_
      · show Steps p.tables e below (T3.setTop (mkF m 99 #[.val (.int x0), .val (.int x1), .val (.int x2), .val (.int x3), .val (.int x4), .val (.int x5), .val (.int x6), .val (.int x7), .val (.ref n0_0), .val (.ref n1_0), .val (.int u0)] [(.int u0), (.int r3)])) t
        exact XS.icmpYes X3.here hx rfl (pc0 := 99) (pc' := 106) rfl (hb hby at_99) rfl (feq hc4).2 (by decide) (by decide) k
      refine Runs.via (T' := T3) (g' := (mkF m 107 #[.val (.int x0), .val (.int x1), .val (.int x2), .val (.int x3), .val (.int x4), .val (.int x5), .val (.int x6), .val (.int x7), .val (.ref n0_0), .val (.ref n1_0), .val (.int u0)] [(.int (0 : Int32))])) (fun t k => ?_) ?_
      · show Steps p.tables e below (T3.setTop (mkF m 106 #[.val (.int x0), .val (.int x1), .val (.int x2), .val (.int x3), .val (.int x4), .val (.int x5), .val (.int x6), .val (.int x7), .val (.ref n0_0), .val (.ref n1_0), .val (.int u0)] [])) t
        refine XS.iconst X3.here hx rfl (hb hby at_106) ?_
        exact k
      obtain rfl := Option.some.inj hr
      exact own_retN X3 hx hlk (t := .boolean) hret (by simp) (hb hby at_107) (by show ((cells + 0) + 0) ≤ 2; omega) (by show ((slots + 0) + 0) ≤ 4; omega) ⟨rfl, N3⟩
  · refine Runs.via (T' := T1) (g' := (mkF m 106 #[.val (.int x0), .val (.int x1), .val (.int x2), .val (.int x3), .val (.int x4), .val (.int x5), .val (.int x6), .val (.int x7), .val (.ref n0_0), .val (.ref n1_0), .val (.int u0)] [])) (fun t k => ?_) ?_
    · show Steps p.tables e below (T1.setTop (mkF m 87 #[.val (.int x0), .val (.int x1), .val (.int x2), .val (.int x3), .val (.int x4), .val (.int x5), .val (.int x6), .val (.int x7), .val (.ref n0_0), .val (.ref n1_0), .val (.int u0)] [(.int u0), (.int r1)])) t
      exact XS.icmpYes X1.here hx rfl (pc0 := 87) (pc' := 106) rfl (hb hby at_87) rfl (feq hc2).2 (by decide) (by decide) k
    refine Runs.via (T' := T1) (g' := (mkF m 107 #[.val (.int x0), .val (.int x1), .val (.int x2), .val (.int x3), .val (.int x4), .val (.int x5), .val (.int x6), .val (.int x7), .val (.ref n0_0), .val (.ref n1_0), .val (.int u0)] [(.int (0 : Int32))])) (fun t k => ?_) ?_
    · show Steps p.tables e below (T1.setTop (mkF m 106 #[.val (.int x0), .val (.int x1), .val (.int x2), .val (.int x3), .val (.int x4), .val (.int x5), .val (.int x6), .val (.int x7), .val (.ref n0_0), .val (.ref n1_0), .val (.int u0)] [])) t
      refine XS.iconst X1.here hx rfl (hb hby at_106) ?_
      exact k
    obtain rfl := Option.some.inj hr
    exact own_retN X1 hx hlk (t := .boolean) hret (by simp) (hb hby at_107) (by show (cells + 0) ≤ 2; omega) (by show (slots + 0) ≤ 4; omega) ⟨rfl, N1⟩
def g0_0 (x0 : Int32) (x1 : Int32) (x2 : Int32) (x3 : Int32) : Option (Int32) := (letO (f1 x0 x1) fun v2 => (letO (f2 x0 x1) fun v4 => (letO (f1 x2 x3) fun v6 => (letO (f2 x2 x3) fun v8 => ((f3 v2 v4 (0 : Int32) (0 : Int32)).bind fun r10 => ((f3 v6 v8 (0 : Int32) (0 : Int32)).bind fun r12 => (if (f1 v4 v8) < (f2 v2 v6) then (g0_76 (0 : Int32) r10.1 r10.2 r12.1 r12.2) else (g0_76 (1 : Int32) r10.1 r10.2 r12.1 r12.2))))))))
set_option maxRecDepth 65536 in
set_option maxHeartbeats 4000000 in
theorem b0_0 {r : Int32} (C : Ctx p s m meth c Z a0 "com/example/wirelace/wirelace/schema/RangeOverlapsPinLaw" code 11 (some .boolean) "law") (X0 : Stand p l e room_1 s m args below meth c T0 locs cells slots) (e0 : T0.heap = h0) (N0 : Fr n0 locs) (hk : cells ≤ 0) (hn : slots ≤ 0) (Z1 : n0 ≤ h0.size) (x0 : Int32) (x1 : Int32) (x2 : Int32) (x3 : Int32) (hr : g0_0 x0 x1 x2 x3 = some r) :
    Runs p e below s (P0 n0 r) 2 4 T0 (mkF m 0 #[.val (.int x0), .val (.int x1), .val (.int x2), .val (.int x3), .unset, .unset, .unset, .unset, .unset, .unset, .unset] []) := by
  unfold g0_0 at hr
  have ⟨hx, hZ, hw, hby, hml, hown, hret, hlk, hnm⟩ := C
  refine Runs.via (T' := T0) (g' := (mkF m 2 #[.val (.int x0), .val (.int x1), .val (.int x2), .val (.int x3), .unset, .unset, .unset, .unset, .unset, .unset, .unset] [(.int x1), (.int x0)])) (fun t k => ?_) ?_
  · show Steps p.tables e below (T0.setTop (mkF m 0 #[.val (.int x0), .val (.int x1), .val (.int x2), .val (.int x3), .unset, .unset, .unset, .unset, .unset, .unset, .unset] [])) t
    refine XS.iloadN X0.here hx rfl (hb hby at_0) rfl ?_
    show Steps p.tables e below (T0.setTop (mkF m 1 #[.val (.int x0), .val (.int x1), .val (.int x2), .val (.int x3), .unset, .unset, .unset, .unset, .unset, .unset, .unset] [(.int x0)])) t
    refine XS.iloadN X0.here hx rfl (hb hby at_1) rfl ?_
    exact k
  obtain ⟨_, _, ⟨T1, L1, k1, n1⟩, -, X1, ⟨Lc1, hQ1, l1, y1, z1⟩, st1⟩ := Jvm.LawKit.callS X0 hx (y := (⟨"java/lang/Math", "min", "(II)I"⟩ : MethodName)) hown (mvT hZ (hw _ (List.mem_of_getElem? (i := 0) rfl))) (mvT hZ (hw _ (List.mem_of_getElem? (i := 1) rfl))) (mvT hZ (hw _ (List.mem_of_getElem? (i := 2) rfl))) (mvT hZ (hw _ (List.mem_of_getElem? (i := 3) rfl))) (by decide) (backOf (W := 0) (rm1 l Z a0 hw [] x0 x1 h0 n0) hZ (hw _ (List.mem_of_getElem? (i := 3) rfl)) (hw _ (List.mem_of_getElem? (i := 2) rfl)) (by decide) (by decide)) (g := (mkF m 2 #[.val (.int x0), .val (.int x1), .val (.int x2), .val (.int x3), .unset, .unset, .unset, .unset, .unset, .unset, .unset] [(.int x1), (.int x0)])) rfl (by rw [hml]; rfl) (argsL := [(.int x0), (.int x1)]) (rest := []) (lenOf pd_0 rfl) rfl (by show 2 * 0 + _ ≤ _; exact Nat.le_of_eq rfl) (hb hby at_2) (fun _ _ => ⟨rfl, e0, (by show cells + 0 ≤ 16; omega), (by show slots + 0 ≤ 128; omega)⟩)
  dsimp only [Pt.U, Pt.locs, Pt.cells, Pt.slots] at X1 l1 y1 z1 st1 hQ1
  replace y1 := y1.symm; replace z1 := z1.symm; subst l1 y1 z1
  obtain ⟨rfl, N1q, e1⟩ := hQ1
  have N1 := Fr.app N0 N1q
  refine Runs.via (T' := T1) (g' := (mkF m 5 #[.val (.int x0), .val (.int x1), .val (.int x2), .val (.int x3), .unset, .unset, .unset, .unset, .unset, .unset, .unset] [(.int (f1 x0 x1))])) (fun t k => st1 _ k) ?_
  refine letE hr ?_; intro v2 hv2 hr
  rw [← hv2]
  refine Runs.via (T' := T1) (g' := (mkF m 9 #[.val (.int x0), .val (.int x1), .val (.int x2), .val (.int x3), .val (.int v2), .unset, .unset, .unset, .unset, .unset, .unset] [(.int x1), (.int x0)])) (fun t k => ?_) ?_
  · show Steps p.tables e below (T1.setTop (mkF m 5 #[.val (.int x0), .val (.int x1), .val (.int x2), .val (.int x3), .unset, .unset, .unset, .unset, .unset, .unset, .unset] [(.int v2)])) t
    refine XS.istore X1.here hx rfl (hb hby at_5) rfl (l' := #[.val (.int x0), .val (.int x1), .val (.int x2), .val (.int x3), .val (.int v2), .unset, .unset, .unset, .unset, .unset, .unset]) rfl ?_
    show Steps p.tables e below (T1.setTop (mkF m 7 #[.val (.int x0), .val (.int x1), .val (.int x2), .val (.int x3), .val (.int v2), .unset, .unset, .unset, .unset, .unset, .unset] [])) t
    refine XS.iloadN X1.here hx rfl (hb hby at_7) rfl ?_
    show Steps p.tables e below (T1.setTop (mkF m 8 #[.val (.int x0), .val (.int x1), .val (.int x2), .val (.int x3), .val (.int v2), .unset, .unset, .unset, .unset, .unset, .unset] [(.int x0)])) t
    refine XS.iloadN X1.here hx rfl (hb hby at_8) rfl ?_
    exact k
  obtain ⟨_, _, ⟨T3, L3, k3, n3⟩, -, X3, ⟨Lc3, hQ3, l3, y3, z3⟩, st3⟩ := Jvm.LawKit.callS X1 hx (y := (⟨"java/lang/Math", "max", "(II)I"⟩ : MethodName)) hown (mvT hZ (hw _ (List.mem_of_getElem? (i := 4) rfl))) (mvT hZ (hw _ (List.mem_of_getElem? (i := 5) rfl))) (mvT hZ (hw _ (List.mem_of_getElem? (i := 2) rfl))) (mvT hZ (hw _ (List.mem_of_getElem? (i := 6) rfl))) (by decide) (backOf (W := 0) (rm2 l Z a0 hw [] x0 x1 h0 n0) hZ (hw _ (List.mem_of_getElem? (i := 6) rfl)) (hw _ (List.mem_of_getElem? (i := 2) rfl)) (by decide) (by decide)) (g := (mkF m 9 #[.val (.int x0), .val (.int x1), .val (.int x2), .val (.int x3), .val (.int v2), .unset, .unset, .unset, .unset, .unset, .unset] [(.int x1), (.int x0)])) rfl (by rw [hml]; rfl) (argsL := [(.int x0), (.int x1)]) (rest := []) (lenOf pd_0 rfl) rfl (by show 2 * 0 + _ ≤ _; exact Nat.le_of_eq rfl) (hb hby at_9) (fun _ _ => ⟨rfl, e1, (by show (cells + 0) + 0 ≤ 16; omega), (by show (slots + 0) + 0 ≤ 128; omega)⟩)
  dsimp only [Pt.U, Pt.locs, Pt.cells, Pt.slots] at X3 l3 y3 z3 st3 hQ3
  replace y3 := y3.symm; replace z3 := z3.symm; subst l3 y3 z3
  obtain ⟨rfl, N3q, e3⟩ := hQ3
  have N3 := Fr.app N1 N3q
  refine Runs.via (T' := T3) (g' := (mkF m 12 #[.val (.int x0), .val (.int x1), .val (.int x2), .val (.int x3), .val (.int v2), .unset, .unset, .unset, .unset, .unset, .unset] [(.int (f2 x0 x1))])) (fun t k => st3 _ k) ?_
  refine letE hr ?_; intro v4 hv4 hr
  rw [← hv4]
  refine Runs.via (T' := T3) (g' := (mkF m 16 #[.val (.int x0), .val (.int x1), .val (.int x2), .val (.int x3), .val (.int v2), .val (.int v4), .unset, .unset, .unset, .unset, .unset] [(.int x3), (.int x2)])) (fun t k => ?_) ?_
  · show Steps p.tables e below (T3.setTop (mkF m 12 #[.val (.int x0), .val (.int x1), .val (.int x2), .val (.int x3), .val (.int v2), .unset, .unset, .unset, .unset, .unset, .unset] [(.int v4)])) t
    refine XS.istore X3.here hx rfl (hb hby at_12) rfl (l' := #[.val (.int x0), .val (.int x1), .val (.int x2), .val (.int x3), .val (.int v2), .val (.int v4), .unset, .unset, .unset, .unset, .unset]) rfl ?_
    show Steps p.tables e below (T3.setTop (mkF m 14 #[.val (.int x0), .val (.int x1), .val (.int x2), .val (.int x3), .val (.int v2), .val (.int v4), .unset, .unset, .unset, .unset, .unset] [])) t
    refine XS.iloadN X3.here hx rfl (hb hby at_14) rfl ?_
    show Steps p.tables e below (T3.setTop (mkF m 15 #[.val (.int x0), .val (.int x1), .val (.int x2), .val (.int x3), .val (.int v2), .val (.int v4), .unset, .unset, .unset, .unset, .unset] [(.int x2)])) t
    refine XS.iloadN X3.here hx rfl (hb hby at_15) rfl ?_
    exact k
  obtain ⟨_, _, ⟨T5, L5, k5, n5⟩, -, X5, ⟨Lc5, hQ5, l5, y5, z5⟩, st5⟩ := Jvm.LawKit.callS X3 hx (y := (⟨"java/lang/Math", "min", "(II)I"⟩ : MethodName)) hown (mvT hZ (hw _ (List.mem_of_getElem? (i := 0) rfl))) (mvT hZ (hw _ (List.mem_of_getElem? (i := 1) rfl))) (mvT hZ (hw _ (List.mem_of_getElem? (i := 2) rfl))) (mvT hZ (hw _ (List.mem_of_getElem? (i := 3) rfl))) (by decide) (backOf (W := 0) (rm1 l Z a0 hw [] x2 x3 h0 n0) hZ (hw _ (List.mem_of_getElem? (i := 3) rfl)) (hw _ (List.mem_of_getElem? (i := 2) rfl)) (by decide) (by decide)) (g := (mkF m 16 #[.val (.int x0), .val (.int x1), .val (.int x2), .val (.int x3), .val (.int v2), .val (.int v4), .unset, .unset, .unset, .unset, .unset] [(.int x3), (.int x2)])) rfl (by rw [hml]; rfl) (argsL := [(.int x2), (.int x3)]) (rest := []) (lenOf pd_0 rfl) rfl (by show 2 * 0 + _ ≤ _; exact Nat.le_of_eq rfl) (hb hby at_16) (fun _ _ => ⟨rfl, e3, (by show ((cells + 0) + 0) + 0 ≤ 16; omega), (by show ((slots + 0) + 0) + 0 ≤ 128; omega)⟩)
  dsimp only [Pt.U, Pt.locs, Pt.cells, Pt.slots] at X5 l5 y5 z5 st5 hQ5
  replace y5 := y5.symm; replace z5 := z5.symm; subst l5 y5 z5
  obtain ⟨rfl, N5q, e5⟩ := hQ5
  have N5 := Fr.app N3 N5q
  refine Runs.via (T' := T5) (g' := (mkF m 19 #[.val (.int x0), .val (.int x1), .val (.int x2), .val (.int x3), .val (.int v2), .val (.int v4), .unset, .unset, .unset, .unset, .unset] [(.int (f1 x2 x3))])) (fun t k => st5 _ k) ?_
  refine letE hr ?_; intro v6 hv6 hr
  rw [← hv6]
  refine Runs.via (T' := T5) (g' := (mkF m 23 #[.val (.int x0), .val (.int x1), .val (.int x2), .val (.int x3), .val (.int v2), .val (.int v4), .val (.int v6), .unset, .unset, .unset, .unset] [(.int x3), (.int x2)])) (fun t k => ?_) ?_
  · show Steps p.tables e below (T5.setTop (mkF m 19 #[.val (.int x0), .val (.int x1), .val (.int x2), .val (.int x3), .val (.int v2), .val (.int v4), .unset, .unset, .unset, .unset, .unset] [(.int v6)])) t
    refine XS.istore X5.here hx rfl (hb hby at_19) rfl (l' := #[.val (.int x0), .val (.int x1), .val (.int x2), .val (.int x3), .val (.int v2), .val (.int v4), .val (.int v6), .unset, .unset, .unset, .unset]) rfl ?_
    show Steps p.tables e below (T5.setTop (mkF m 21 #[.val (.int x0), .val (.int x1), .val (.int x2), .val (.int x3), .val (.int v2), .val (.int v4), .val (.int v6), .unset, .unset, .unset, .unset] [])) t
    refine XS.iloadN X5.here hx rfl (hb hby at_21) rfl ?_
    show Steps p.tables e below (T5.setTop (mkF m 22 #[.val (.int x0), .val (.int x1), .val (.int x2), .val (.int x3), .val (.int v2), .val (.int v4), .val (.int v6), .unset, .unset, .unset, .unset] [(.int x2)])) t
    refine XS.iloadN X5.here hx rfl (hb hby at_22) rfl ?_
    exact k
  obtain ⟨_, _, ⟨T7, L7, k7, n7⟩, -, X7, ⟨Lc7, hQ7, l7, y7, z7⟩, st7⟩ := Jvm.LawKit.callS X5 hx (y := (⟨"java/lang/Math", "max", "(II)I"⟩ : MethodName)) hown (mvT hZ (hw _ (List.mem_of_getElem? (i := 4) rfl))) (mvT hZ (hw _ (List.mem_of_getElem? (i := 5) rfl))) (mvT hZ (hw _ (List.mem_of_getElem? (i := 2) rfl))) (mvT hZ (hw _ (List.mem_of_getElem? (i := 6) rfl))) (by decide) (backOf (W := 0) (rm2 l Z a0 hw [] x2 x3 h0 n0) hZ (hw _ (List.mem_of_getElem? (i := 6) rfl)) (hw _ (List.mem_of_getElem? (i := 2) rfl)) (by decide) (by decide)) (g := (mkF m 23 #[.val (.int x0), .val (.int x1), .val (.int x2), .val (.int x3), .val (.int v2), .val (.int v4), .val (.int v6), .unset, .unset, .unset, .unset] [(.int x3), (.int x2)])) rfl (by rw [hml]; rfl) (argsL := [(.int x2), (.int x3)]) (rest := []) (lenOf pd_0 rfl) rfl (by show 2 * 0 + _ ≤ _; exact Nat.le_of_eq rfl) (hb hby at_23) (fun _ _ => ⟨rfl, e5, (by show (((cells + 0) + 0) + 0) + 0 ≤ 16; omega), (by show (((slots + 0) + 0) + 0) + 0 ≤ 128; omega)⟩)
  dsimp only [Pt.U, Pt.locs, Pt.cells, Pt.slots] at X7 l7 y7 z7 st7 hQ7
  replace y7 := y7.symm; replace z7 := z7.symm; subst l7 y7 z7
  obtain ⟨rfl, N7q, e7⟩ := hQ7
  have N7 := Fr.app N5 N7q
  refine Runs.via (T' := T7) (g' := (mkF m 26 #[.val (.int x0), .val (.int x1), .val (.int x2), .val (.int x3), .val (.int v2), .val (.int v4), .val (.int v6), .unset, .unset, .unset, .unset] [(.int (f2 x2 x3))])) (fun t k => st7 _ k) ?_
  refine letE hr ?_; intro v8 hv8 hr
  rw [← hv8]
  refine Runs.via (T' := T7) (g' := (mkF m 28 #[.val (.int x0), .val (.int x1), .val (.int x2), .val (.int x3), .val (.int v2), .val (.int v4), .val (.int v6), .val (.int v8), .unset, .unset, .unset] [])) (fun t k => ?_) ?_
  · show Steps p.tables e below (T7.setTop (mkF m 26 #[.val (.int x0), .val (.int x1), .val (.int x2), .val (.int x3), .val (.int v2), .val (.int v4), .val (.int v6), .unset, .unset, .unset, .unset] [(.int v8)])) t
    refine XS.istore X7.here hx rfl (hb hby at_26) rfl (l' := #[.val (.int x0), .val (.int x1), .val (.int x2), .val (.int x3), .val (.int v2), .val (.int v4), .val (.int v6), .val (.int v8), .unset, .unset, .unset]) rfl ?_
    exact k
  obtain ⟨T9, h9, X9, e9, E9, A9, D9, -, st9⟩ := newO X7 hx hZ hown (hw _ (List.mem_of_getElem? (i := 7) rfl)) (hw _ (List.mem_of_getElem? (i := 8) rfl)) (hw _ (List.mem_of_getElem? (i := 9) rfl)) e7 (g := (mkF m 28 #[.val (.int x0), .val (.int x1), .val (.int x2), .val (.int x3), .val (.int v2), .val (.int v4), .val (.int v6), .val (.int v8), .unset, .unset, .unset] [])) rfl (hb hby at_28) (by show ((((cells + 0) + 0) + 0) + 0) + 1 ≤ 16; omega) (by show ((((slots + 0) + 0) + 0) + 0) + 2 ≤ 128; omega)
  obtain ⟨b28, g9⟩ : ∃ z, z = h0.size := ⟨_, rfl⟩
  rw [← g9] at A9 D9 st9
  have i9 := E9.1
  have zz9 : n0 ≤ h9.size := Nat.le_trans Z1 i9
  have E_b28_9 := A9
  have F_b28_first_9 : Fld Z h9 b28 "com/example/wirelace/wirelace/schema/Reserved$Range" "first" "I" (.int (0 : Int32)) := D9 (Or.inr (hw _ (List.mem_of_getElem? (i := 22) rfl))) (ty := .int) (by decide)
  have F_b28_last_9 : Fld Z h9 b28 "com/example/wirelace/wirelace/schema/Reserved$Range" "last" "I" (.int (0 : Int32)) := D9 (Or.inr (hw _ (List.mem_of_getElem? (i := 24) rfl))) (ty := .int) (by decide)
  have sb28 : n0 ≤ b28 := by omega
  refine Runs.via (T' := T9) (g' := (mkF m 31 #[.val (.int x0), .val (.int x1), .val (.int x2), .val (.int x3), .val (.int v2), .val (.int v4), .val (.int v6), .val (.int v8), .unset, .unset, .unset] [(.ref b28)])) (fun t k => st9 _ k) ?_
  refine Runs.via (T' := T9) (g' := (mkF m 36 #[.val (.int x0), .val (.int x1), .val (.int x2), .val (.int x3), .val (.int v2), .val (.int v4), .val (.int v6), .val (.int v8), .unset, .unset, .unset] [(.int v4), (.int v2), (.ref b28), (.ref b28)])) (fun t k => ?_) ?_
  · show Steps p.tables e below (T9.setTop (mkF m 31 #[.val (.int x0), .val (.int x1), .val (.int x2), .val (.int x3), .val (.int v2), .val (.int v4), .val (.int v6), .val (.int v8), .unset, .unset, .unset] [(.ref b28)])) t
    refine XS.dup X9.here hx rfl (hb hby at_31) rfl rfl ?_
    show Steps p.tables e below (T9.setTop (mkF m 32 #[.val (.int x0), .val (.int x1), .val (.int x2), .val (.int x3), .val (.int v2), .val (.int v4), .val (.int v6), .val (.int v8), .unset, .unset, .unset] [(.ref b28), (.ref b28)])) t
    refine XS.iload X9.here hx rfl (hb hby at_32) rfl ?_
    show Steps p.tables e below (T9.setTop (mkF m 34 #[.val (.int x0), .val (.int x1), .val (.int x2), .val (.int x3), .val (.int v2), .val (.int v4), .val (.int v6), .val (.int v8), .unset, .unset, .unset] [(.int v2), (.ref b28), (.ref b28)])) t
    refine XS.iload X9.here hx rfl (hb hby at_34) rfl ?_
    exact k
  refine bindE hr ?_; intro r10 hr10m hr
  obtain ⟨_, _, ⟨T10, L10, k10, n10⟩, -, X10, ⟨Lc10, hQ10, l10, y10, z10⟩, st10⟩ := X9.specialBack hx (y := (⟨"com/example/wirelace/wirelace/schema/Reserved$Range", "<init>", "(II)V"⟩ : MethodName)) rfl hown (mvT hZ (hw _ (List.mem_of_getElem? (i := 10) rfl))) (mvT hZ (hw _ (List.mem_of_getElem? (i := 11) rfl))) (mvT hZ (hw _ (List.mem_of_getElem? (i := 12) rfl))) (by decide) (backOf (W := 1) (rm3 l Z a0 hw [] v2 v4 b28 (0 : Int32) (0 : Int32) h9 n0 zz9 (by omega) E_b28_9 F_b28_first_9 F_b28_last_9 r10 hr10m) hZ (hw _ (List.mem_of_getElem? (i := 12) rfl)) (hw _ (List.mem_of_getElem? (i := 9) rfl)) (by decide) (by decide)) (g := (mkF m 36 #[.val (.int x0), .val (.int x1), .val (.int x2), .val (.int x3), .val (.int v2), .val (.int v4), .val (.int v6), .val (.int v8), .unset, .unset, .unset] [(.int v4), (.int v2), (.ref b28), (.ref b28)])) rfl (by rw [hml]; rfl) (Steps.refl _) (a := b28) (argsL := [(.int v2), (.int v4)]) (rest := [(.ref b28)]) (lenOf pd_2 rfl) rfl (by show 2 * 0 + _ ≤ _; exact Nat.le_of_eq rfl) (hb hby at_36) (fun _ _ => ⟨rfl, e9, (by show (((((cells + 0) + 0) + 0) + 0) + 1) + 0 ≤ 16; omega), (by show (((((slots + 0) + 0) + 0) + 0) + 2) + 0 ≤ 128; omega)⟩)
  dsimp only [Pt.U, Pt.locs, Pt.cells, Pt.slots] at X10 l10 y10 z10 st10 hQ10
  replace y10 := y10.symm; replace z10 := z10.symm; subst l10 y10 z10
  obtain ⟨h10, e10⟩ : ∃ z, T10.heap = z := ⟨_, rfl⟩
  rw [e10] at hQ10
  obtain ⟨rfl, N10q, K10q, E_b28_10, F_b28_first_10, F_b28_last_10⟩ := hQ10
  have N10 := Fr.app N7 N10q
  have zz10 : n0 ≤ h10.size := Nat.le_trans zz9 K10q.1
  refine Runs.via (T' := T10) (g' := (mkF m 39 #[.val (.int x0), .val (.int x1), .val (.int x2), .val (.int x3), .val (.int v2), .val (.int v4), .val (.int v6), .val (.int v8), .unset, .unset, .unset] [(.ref b28)])) (fun t k => st10.trans k) ?_
  refine Runs.via (T' := T10) (g' := (mkF m 41 #[.val (.int x0), .val (.int x1), .val (.int x2), .val (.int x3), .val (.int v2), .val (.int v4), .val (.int v6), .val (.int v8), .val (.ref b28), .unset, .unset] [])) (fun t k => ?_) ?_
  · show Steps p.tables e below (T10.setTop (mkF m 39 #[.val (.int x0), .val (.int x1), .val (.int x2), .val (.int x3), .val (.int v2), .val (.int v4), .val (.int v6), .val (.int v8), .unset, .unset, .unset] [(.ref b28)])) t
    refine XS.astore X10.here hx rfl (hb hby at_39) rfl rfl (l' := #[.val (.int x0), .val (.int x1), .val (.int x2), .val (.int x3), .val (.int v2), .val (.int v4), .val (.int v6), .val (.int v8), .val (.ref b28), .unset, .unset]) rfl ?_
    exact k
  obtain ⟨T11, h11, X11, e11, E11, A11, D11, -, st11⟩ := newO X10 hx hZ hown (hw _ (List.mem_of_getElem? (i := 7) rfl)) (hw _ (List.mem_of_getElem? (i := 8) rfl)) (hw _ (List.mem_of_getElem? (i := 9) rfl)) e10 (g := (mkF m 41 #[.val (.int x0), .val (.int x1), .val (.int x2), .val (.int x3), .val (.int v2), .val (.int v4), .val (.int v6), .val (.int v8), .val (.ref b28), .unset, .unset] [])) rfl (hb hby at_41) (by show ((((((cells + 0) + 0) + 0) + 0) + 1) + 0) + 1 ≤ 16; omega) (by show ((((((slots + 0) + 0) + 0) + 0) + 2) + 0) + 2 ≤ 128; omega)
  obtain ⟨b41, g11⟩ : ∃ z, z = h10.size := ⟨_, rfl⟩
  rw [← g11] at A11 D11 st11
  have i11 := E11.1
  have E_b28_11 := E_b28_10.ext E11
  have F_b28_first_11 := F_b28_first_10.ext E11
  have F_b28_last_11 := F_b28_last_10.ext E11
  have zz11 : n0 ≤ h11.size := Nat.le_trans zz10 i11
  have E_b41_11 := A11
  have F_b41_first_11 : Fld Z h11 b41 "com/example/wirelace/wirelace/schema/Reserved$Range" "first" "I" (.int (0 : Int32)) := D11 (Or.inr (hw _ (List.mem_of_getElem? (i := 22) rfl))) (ty := .int) (by decide)
  have F_b41_last_11 : Fld Z h11 b41 "com/example/wirelace/wirelace/schema/Reserved$Range" "last" "I" (.int (0 : Int32)) := D11 (Or.inr (hw _ (List.mem_of_getElem? (i := 24) rfl))) (ty := .int) (by decide)
  have pb41 : @LT.lt Nat instLTNat b28 b41 := by have : @LT.lt Nat instLTNat _ _ := E_b28_10.lt; omega
  have sb41 : n0 ≤ b41 := by omega
  refine Runs.via (T' := T11) (g' := (mkF m 44 #[.val (.int x0), .val (.int x1), .val (.int x2), .val (.int x3), .val (.int v2), .val (.int v4), .val (.int v6), .val (.int v8), .val (.ref b28), .unset, .unset] [(.ref b41)])) (fun t k => st11 _ k) ?_
  refine Runs.via (T' := T11) (g' := (mkF m 49 #[.val (.int x0), .val (.int x1), .val (.int x2), .val (.int x3), .val (.int v2), .val (.int v4), .val (.int v6), .val (.int v8), .val (.ref b28), .unset, .unset] [(.int v8), (.int v6), (.ref b41), (.ref b41)])) (fun t k => ?_) ?_
  · show Steps p.tables e below (T11.setTop (mkF m 44 #[.val (.int x0), .val (.int x1), .val (.int x2), .val (.int x3), .val (.int v2), .val (.int v4), .val (.int v6), .val (.int v8), .val (.ref b28), .unset, .unset] [(.ref b41)])) t
    refine XS.dup X11.here hx rfl (hb hby at_44) rfl rfl ?_
    show Steps p.tables e below (T11.setTop (mkF m 45 #[.val (.int x0), .val (.int x1), .val (.int x2), .val (.int x3), .val (.int v2), .val (.int v4), .val (.int v6), .val (.int v8), .val (.ref b28), .unset, .unset] [(.ref b41), (.ref b41)])) t
    refine XS.iload X11.here hx rfl (hb hby at_45) rfl ?_
    show Steps p.tables e below (T11.setTop (mkF m 47 #[.val (.int x0), .val (.int x1), .val (.int x2), .val (.int x3), .val (.int v2), .val (.int v4), .val (.int v6), .val (.int v8), .val (.ref b28), .unset, .unset] [(.int v6), (.ref b41), (.ref b41)])) t
    refine XS.iload X11.here hx rfl (hb hby at_47) rfl ?_
    exact k
  refine bindE hr ?_; intro r12 hr12m hr
  obtain ⟨_, _, ⟨T12, L12, k12, n12⟩, -, X12, ⟨Lc12, hQ12, l12, y12, z12⟩, st12⟩ := X11.specialBack hx (y := (⟨"com/example/wirelace/wirelace/schema/Reserved$Range", "<init>", "(II)V"⟩ : MethodName)) rfl hown (mvT hZ (hw _ (List.mem_of_getElem? (i := 10) rfl))) (mvT hZ (hw _ (List.mem_of_getElem? (i := 11) rfl))) (mvT hZ (hw _ (List.mem_of_getElem? (i := 12) rfl))) (by decide) (backOf (W := 1) (rm3 l Z a0 hw [] v6 v8 b41 (0 : Int32) (0 : Int32) h11 n0 zz11 (by omega) E_b41_11 F_b41_first_11 F_b41_last_11 r12 hr12m) hZ (hw _ (List.mem_of_getElem? (i := 12) rfl)) (hw _ (List.mem_of_getElem? (i := 9) rfl)) (by decide) (by decide)) (g := (mkF m 49 #[.val (.int x0), .val (.int x1), .val (.int x2), .val (.int x3), .val (.int v2), .val (.int v4), .val (.int v6), .val (.int v8), .val (.ref b28), .unset, .unset] [(.int v8), (.int v6), (.ref b41), (.ref b41)])) rfl (by rw [hml]; rfl) (Steps.refl _) (a := b41) (argsL := [(.int v6), (.int v8)]) (rest := [(.ref b41)]) (lenOf pd_2 rfl) rfl (by show 2 * 0 + _ ≤ _; exact Nat.le_of_eq rfl) (hb hby at_49) (fun _ _ => ⟨rfl, e11, (by show (((((((cells + 0) + 0) + 0) + 0) + 1) + 0) + 1) + 0 ≤ 16; omega), (by show (((((((slots + 0) + 0) + 0) + 0) + 2) + 0) + 2) + 0 ≤ 128; omega)⟩)
  dsimp only [Pt.U, Pt.locs, Pt.cells, Pt.slots] at X12 l12 y12 z12 st12 hQ12
  replace y12 := y12.symm; replace z12 := z12.symm; subst l12 y12 z12
  obtain ⟨h12, e12⟩ : ∃ z, T12.heap = z := ⟨_, rfl⟩
  rw [e12] at hQ12
  obtain ⟨rfl, N12q, K12q, E_b41_12, F_b41_first_12, F_b41_last_12⟩ := hQ12
  have N12 := Fr.app N10 N12q
  have E_b28_12 := E_b28_11.keep K12q
  have F_b28_first_12 := F_b28_first_11.keep K12q (ninS (by omega : @Ne Nat b28 b41) nin0)
  have F_b28_last_12 := F_b28_last_11.keep K12q (ninS (by omega : @Ne Nat b28 b41) nin0)
  have zz12 : n0 ≤ h12.size := Nat.le_trans zz11 K12q.1
  refine Runs.via (T' := T12) (g' := (mkF m 52 #[.val (.int x0), .val (.int x1), .val (.int x2), .val (.int x3), .val (.int v2), .val (.int v4), .val (.int v6), .val (.int v8), .val (.ref b28), .unset, .unset] [(.ref b41)])) (fun t k => st12.trans k) ?_
  refine Runs.via (T' := T12) (g' := (mkF m 58 #[.val (.int x0), .val (.int x1), .val (.int x2), .val (.int x3), .val (.int v2), .val (.int v4), .val (.int v6), .val (.int v8), .val (.ref b28), .val (.ref b41), .unset] [(.int v6), (.int v2)])) (fun t k => ?_) ?_
  · show Steps p.tables e below (T12.setTop (mkF m 52 #[.val (.int x0), .val (.int x1), .val (.int x2), .val (.int x3), .val (.int v2), .val (.int v4), .val (.int v6), .val (.int v8), .val (.ref b28), .unset, .unset] [(.ref b41)])) t
    refine XS.astore X12.here hx rfl (hb hby at_52) rfl rfl (l' := #[.val (.int x0), .val (.int x1), .val (.int x2), .val (.int x3), .val (.int v2), .val (.int v4), .val (.int v6), .val (.int v8), .val (.ref b28), .val (.ref b41), .unset]) rfl ?_
    show Steps p.tables e below (T12.setTop (mkF m 54 #[.val (.int x0), .val (.int x1), .val (.int x2), .val (.int x3), .val (.int v2), .val (.int v4), .val (.int v6), .val (.int v8), .val (.ref b28), .val (.ref b41), .unset] [])) t
    refine XS.iload X12.here hx rfl (hb hby at_54) rfl ?_
    show Steps p.tables e below (T12.setTop (mkF m 56 #[.val (.int x0), .val (.int x1), .val (.int x2), .val (.int x3), .val (.int v2), .val (.int v4), .val (.int v6), .val (.int v8), .val (.ref b28), .val (.ref b41), .unset] [(.int v2)])) t
    refine XS.iload X12.here hx rfl (hb hby at_56) rfl ?_
    exact k
  obtain ⟨_, _, ⟨T13, L13, k13, n13⟩, -, X13, ⟨Lc13, hQ13, l13, y13, z13⟩, st13⟩ := Jvm.LawKit.callS X12 hx (y := (⟨"java/lang/Math", "max", "(II)I"⟩ : MethodName)) hown (mvT hZ (hw _ (List.mem_of_getElem? (i := 4) rfl))) (mvT hZ (hw _ (List.mem_of_getElem? (i := 5) rfl))) (mvT hZ (hw _ (List.mem_of_getElem? (i := 2) rfl))) (mvT hZ (hw _ (List.mem_of_getElem? (i := 6) rfl))) (by decide) (backOf (W := 0) (rm2 l Z a0 hw [] v2 v6 h12 n0) hZ (hw _ (List.mem_of_getElem? (i := 6) rfl)) (hw _ (List.mem_of_getElem? (i := 2) rfl)) (by decide) (by decide)) (g := (mkF m 58 #[.val (.int x0), .val (.int x1), .val (.int x2), .val (.int x3), .val (.int v2), .val (.int v4), .val (.int v6), .val (.int v8), .val (.ref b28), .val (.ref b41), .unset] [(.int v6), (.int v2)])) rfl (by rw [hml]; rfl) (argsL := [(.int v2), (.int v6)]) (rest := []) (lenOf pd_0 rfl) rfl (by show 2 * 0 + _ ≤ _; exact Nat.le_of_eq rfl) (hb hby at_58) (fun _ _ => ⟨rfl, e12, (by show ((((((((cells + 0) + 0) + 0) + 0) + 1) + 0) + 1) + 0) + 0 ≤ 16; omega), (by show ((((((((slots + 0) + 0) + 0) + 0) + 2) + 0) + 2) + 0) + 0 ≤ 128; omega)⟩)
  dsimp only [Pt.U, Pt.locs, Pt.cells, Pt.slots] at X13 l13 y13 z13 st13 hQ13
  replace y13 := y13.symm; replace z13 := z13.symm; subst l13 y13 z13
  obtain ⟨rfl, N13q, e13⟩ := hQ13
  have N13 := Fr.app N12 N13q
  refine Runs.via (T' := T13) (g' := (mkF m 61 #[.val (.int x0), .val (.int x1), .val (.int x2), .val (.int x3), .val (.int v2), .val (.int v4), .val (.int v6), .val (.int v8), .val (.ref b28), .val (.ref b41), .unset] [(.int (f2 v2 v6))])) (fun t k => st13 _ k) ?_
  refine Runs.via (T' := T13) (g' := (mkF m 65 #[.val (.int x0), .val (.int x1), .val (.int x2), .val (.int x3), .val (.int v2), .val (.int v4), .val (.int v6), .val (.int v8), .val (.ref b28), .val (.ref b41), .unset] [(.int v8), (.int v4), (.int (f2 v2 v6))])) (fun t k => ?_) ?_
  · show Steps p.tables e below (T13.setTop (mkF m 61 #[.val (.int x0), .val (.int x1), .val (.int x2), .val (.int x3), .val (.int v2), .val (.int v4), .val (.int v6), .val (.int v8), .val (.ref b28), .val (.ref b41), .unset] [(.int (f2 v2 v6))])) t
    refine XS.iload X13.here hx rfl (hb hby at_61) rfl ?_
    show Steps p.tables e below (T13.setTop (mkF m 63 #[.val (.int x0), .val (.int x1), .val (.int x2), .val (.int x3), .val (.int v2), .val (.int v4), .val (.int v6), .val (.int v8), .val (.ref b28), .val (.ref b41), .unset] [(.int v4), (.int (f2 v2 v6))])) t
    refine XS.iload X13.here hx rfl (hb hby at_63) rfl ?_
    exact k
  obtain ⟨_, _, ⟨T14, L14, k14, n14⟩, -, X14, ⟨Lc14, hQ14, l14, y14, z14⟩, st14⟩ := Jvm.LawKit.callS X13 hx (y := (⟨"java/lang/Math", "min", "(II)I"⟩ : MethodName)) hown (mvT hZ (hw _ (List.mem_of_getElem? (i := 0) rfl))) (mvT hZ (hw _ (List.mem_of_getElem? (i := 1) rfl))) (mvT hZ (hw _ (List.mem_of_getElem? (i := 2) rfl))) (mvT hZ (hw _ (List.mem_of_getElem? (i := 3) rfl))) (by decide) (backOf (W := 1) (rm1 l Z a0 hw [] v4 v8 h12 n0) hZ (hw _ (List.mem_of_getElem? (i := 3) rfl)) (hw _ (List.mem_of_getElem? (i := 2) rfl)) (by decide) (by decide)) (g := (mkF m 65 #[.val (.int x0), .val (.int x1), .val (.int x2), .val (.int x3), .val (.int v2), .val (.int v4), .val (.int v6), .val (.int v8), .val (.ref b28), .val (.ref b41), .unset] [(.int v8), (.int v4), (.int (f2 v2 v6))])) rfl (by rw [hml]; rfl) (argsL := [(.int v4), (.int v8)]) (rest := [(.int (f2 v2 v6))]) (lenOf pd_0 rfl) rfl (by show 2 * 0 + _ ≤ _; exact Nat.le_of_eq rfl) (hb hby at_65) (fun _ _ => ⟨rfl, e13, (by show (((((((((cells + 0) + 0) + 0) + 0) + 1) + 0) + 1) + 0) + 0) + 0 ≤ 16; omega), (by show (((((((((slots + 0) + 0) + 0) + 0) + 2) + 0) + 2) + 0) + 0) + 0 ≤ 128; omega)⟩)
  dsimp only [Pt.U, Pt.locs, Pt.cells, Pt.slots] at X14 l14 y14 z14 st14 hQ14
  replace y14 := y14.symm; replace z14 := z14.symm; subst l14 y14 z14
  obtain ⟨rfl, N14q, e14⟩ := hQ14
  have N14 := Fr.app N13 N14q
  refine Runs.via (T' := T14) (g' := (mkF m 68 #[.val (.int x0), .val (.int x1), .val (.int x2), .val (.int x3), .val (.int v2), .val (.int v4), .val (.int v6), .val (.int v8), .val (.ref b28), .val (.ref b41), .unset] [(.int (f1 v4 v8)), (.int (f2 v2 v6))])) (fun t k => st14 _ k) ?_
  refine iteE hr (fun hc15 hr => ?_) (fun hc15 hr => ?_)
  · refine Runs.via (T' := T14) (g' := (mkF m 75 #[.val (.int x0), .val (.int x1), .val (.int x2), .val (.int x3), .val (.int v2), .val (.int v4), .val (.int v6), .val (.int v8), .val (.ref b28), .val (.ref b41), .unset] [])) (fun t k => ?_) ?_
    · show Steps p.tables e below (T14.setTop (mkF m 68 #[.val (.int x0), .val (.int x1), .val (.int x2), .val (.int x3), .val (.int v2), .val (.int v4), .val (.int v6), .val (.int v8), .val (.ref b28), .val (.ref b41), .unset] [(.int (f1 v4 v8)), (.int (f2 v2 v6))])) t
      exact XS.icmpYes X14.here hx rfl (pc0 := 68) (pc' := 75) rfl (hb hby at_68) rfl (tlt hc15).2.2.1 (by decide) (by decide) k
    refine Runs.via (T' := T14) (g' := (mkF m 76 #[.val (.int x0), .val (.int x1), .val (.int x2), .val (.int x3), .val (.int v2), .val (.int v4), .val (.int v6), .val (.int v8), .val (.ref b28), .val (.ref b41), .unset] [(.int (0 : Int32))])) (fun t k => ?_) ?_
    · show Steps p.tables e below (T14.setTop (mkF m 75 #[.val (.int x0), .val (.int x1), .val (.int x2), .val (.int x3), .val (.int v2), .val (.int v4), .val (.int v6), .val (.int v8), .val (.ref b28), .val (.ref b41), .unset] [])) t
      refine XS.iconst X14.here hx rfl (hb hby at_75) ?_
      exact k
    exact b0_76 C X14 e14 N14 (by show ((((((((((cells + 0) + 0) + 0) + 0) + 1) + 0) + 1) + 0) + 0) + 0) ≤ 2; omega) (by show ((((((((((slots + 0) + 0) + 0) + 0) + 2) + 0) + 2) + 0) + 0) + 0) ≤ 4; omega) zz12 b28 b41 (by omega) (by omega) r10.1 r10.2 r12.1 r12.2 x0 x1 x2 x3 v2 v4 v6 v8 (0 : Int32) E_b28_12 F_b28_first_12 F_b28_last_12 E_b41_12 F_b41_first_12 F_b41_last_12 hr
  · refine Runs.via (T' := T14) (g' := (mkF m 71 #[.val (.int x0), .val (.int x1), .val (.int x2), .val (.int x3), .val (.int v2), .val (.int v4), .val (.int v6), .val (.int v8), .val (.ref b28), .val (.ref b41), .unset] [])) (fun t k => ?_) ?_
    · show Steps p.tables e below (T14.setTop (mkF m 68 #[.val (.int x0), .val (.int x1), .val (.int x2), .val (.int x3), .val (.int v2), .val (.int v4), .val (.int v6), .val (.int v8), .val (.ref b28), .val (.ref b41), .unset] [(.int (f1 v4 v8)), (.int (f2 v2 v6))])) t
      exact XS.icmpNo X14.here hx rfl (hb hby at_68) rfl (flt hc15).2.2.1 k
    refine Runs.via (T' := T14) (g' := (mkF m 76 #[.val (.int x0), .val (.int x1), .val (.int x2), .val (.int x3), .val (.int v2), .val (.int v4), .val (.int v6), .val (.int v8), .val (.ref b28), .val (.ref b41), .unset] [(.int (1 : Int32))])) (fun t k => ?_) ?_
    · show Steps p.tables e below (T14.setTop (mkF m 71 #[.val (.int x0), .val (.int x1), .val (.int x2), .val (.int x3), .val (.int v2), .val (.int v4), .val (.int v6), .val (.int v8), .val (.ref b28), .val (.ref b41), .unset] [])) t
      refine XS.iconst X14.here hx rfl (hb hby at_71) ?_
      show Steps p.tables e below (T14.setTop (mkF m 72 #[.val (.int x0), .val (.int x1), .val (.int x2), .val (.int x3), .val (.int v2), .val (.int v4), .val (.int v6), .val (.int v8), .val (.ref b28), .val (.ref b41), .unset] [(.int (1 : Int32))])) t
      refine XS.goto X14.here hx rfl (pc0 := 72) (pc' := 76) rfl (hb hby at_72) (by decide) (by decide) ?_
      exact k
    exact b0_76 C X14 e14 N14 (by show ((((((((((cells + 0) + 0) + 0) + 0) + 1) + 0) + 1) + 0) + 0) + 0) ≤ 2; omega) (by show ((((((((((slots + 0) + 0) + 0) + 0) + 2) + 0) + 2) + 0) + 0) + 0) ≤ 4; omega) zz12 b28 b41 (by omega) (by omega) r10.1 r10.2 r12.1 r12.2 x0 x1 x2 x3 v2 v4 v6 v8 (1 : Int32) E_b28_12 F_b28_first_12 F_b28_last_12 E_b41_12 F_b41_first_12 F_b41_last_12 hr
def f0 (x0 : Int32) (x1 : Int32) (x2 : Int32) (x3 : Int32) : Option (Int32) := g0_0 x0 x1 x2 x3
theorem pn_0 : plainName "com/example/wirelace/wirelace/schema/RangeOverlapsPinLaw" = true := by first | (simp [plainName, overriddenIn]; done) | decide +kernel
theorem ef_0 (m : MethodId) (x0 : Int32) (x1 : Int32) (x2 : Int32) (x3 : Int32) : entryFrame m #[(.int x0), (.int x1), (.int x2), (.int x3)] maxLocals = mkF m 0 #[.val (.int x0), .val (.int x1), .val (.int x2), .val (.int x3), .unset, .unset, .unset, .unset, .unset, .unset, .unset] [] := by first | (simp [entryFrame, mkF, argsToLocals, Value.category, maxLocals]; done) | rfl
set_option maxRecDepth 65536 in
set_option maxHeartbeats 4000000 in
theorem rm0 (l : Launch) (Z : State) (a0 : Array Value) (hw : ∀ d ∈ tables_1, d.before a0 Z = true) (ws : List Jvm.Cond) (x0 : Int32) (x1 : Int32) (x2 : Int32) (x3 : Int32) (hE : Heap) (n0 : Nat) (Z0 : n0 ≤ hE.size) (r : Int32) (hr : f0 x0 x1 x2 x3 = some r) :
    MetFree l x (head1 (Jvm.Cond.code x code maxLocals ret :: ws) room_1) (fun a U => a = #[(.int x0), (.int x1), (.int x2), (.int x3)] ∧ Z.Warmed39 U.vm ∧ U.heap = hE) (fun _ _ _ _ _ => True) (fun _ U o U' => ∃ v L, o = .returned v ∧ (P0 n0 r v U'.heap L) ∧ FrameEnd U o U' L 2 4) := by
  refine MetFree.of_bodySF (plainFor_of_name pn_0) hisR ?_
  intro p e s m args below meth c s₁ Bd hml0 hP hK
  obtain ⟨rfl, hZ, hh⟩ := hP
  have X0 : Stand p l e room_1 s m #[(.int x0), (.int x1), (.int x2), (.int x3)] below meth c s₁ [] 0 0 := Stand.of_body Bd
  have e0 : s₁.heap = hE := by rw [← hh, Bd.state]; rfl
  have C : Ctx p s m meth c Z a0 "com/example/wirelace/wirelace/schema/RangeOverlapsPinLaw" code 11 (some .boolean) "law" := ⟨Bd.exec, hZ, hw, Bd.bytes, hml0, findClass_of_methodNamed Bd.named, Bd.returns, BodyLoose.notSynchronized Bd, (name_of_methodNamed Bd.named Bd.method).1⟩
  refine Runs.via (fun t k => castTop (ef_0 m x0 x1 x2 x3) k) (b0_0 C X0 e0 (Fr.nil n0) (by show 0 ≤ 0; omega) (by show 0 ≤ 0; omega) Z0 x0 x1 x2 x3 hr)
end Own
theorem bindS {α β : Type} {x : Option α} {k : α → Option β} {r : Option β} {v : α} (h : x = some v) (H : k v = r) : x.bind k = r := by rw [h]; exact H
theorem letS {α β : Type} {x : α} {k : α → β} {r : β} (H : k x = r) : letO x k = r := H
theorem own_min (a b : Int32) : (f1 a b).toInt = min a.toInt b.toInt := by
  unfold f1 g1_0
  split
  · rename_i h; rw [Int32.lt_iff_toInt_lt] at h; omega
  · rename_i h; rw [Int32.lt_iff_toInt_lt] at h; omega
theorem own_max (a b : Int32) : (f2 a b).toInt = max a.toInt b.toInt := by
  unfold f2 g2_0
  split
  · rename_i h; rw [Int32.lt_iff_toInt_lt] at h; omega
  · rename_i h; rw [Int32.lt_iff_toInt_lt] at h; omega
theorem own_made (a b : Int32) (h : ¬ b < a) : f3 a b 0 0 = some (a, b) := if_neg h
theorem own_law (x0 x1 x2 x3 : Int32) : f0 x0 x1 x2 x3 = some 1 := by
  have e1 := own_min x0 x1
  have e2 := own_max x0 x1
  have e3 := own_min x2 x3
  have e4 := own_max x2 x3
  unfold f0 g0_0
  refine letS (letS (letS (letS ?_)))
  generalize f1 x0 x1 = a1 at *
  generalize f2 x0 x1 = b1 at *
  generalize f1 x2 x3 = a2 at *
  generalize f2 x2 x3 = b2 at *
  have h1 : ¬ b1 < a1 := by rw [Int32.lt_iff_toInt_lt]; omega
  have h2 : ¬ b2 < a2 := by rw [Int32.lt_iff_toInt_lt]; omega
  refine bindS (own_made a1 b1 h1) (bindS (own_made a2 b2 h2) ?_)
  have e5 := own_min b1 b2
  have e6 := own_max a1 a2
  have key : (f1 b1 b2 < f2 a1 a2) ↔ (b2 < a1 ∨ b1 < a2) := by
    rw [Int32.lt_iff_toInt_lt] at h1 h2
    simp only [Int32.lt_iff_toInt_lt]
    omega
  show (if f1 b1 b2 < f2 a1 a2 then g0_76 0 a1 b1 a2 b2 else g0_76 1 a1 b1 a2 b2) = some 1
  have k6 : f6 a1 b1 a2 b2 = some (if b2 < a1 then 0 else if b1 < a2 then 0 else 1) := by
    show (if b2 < a1 then some (0 : Int32) else (if b1 < a2 then some (0 : Int32) else some (1 : Int32))) = _
    split
    · rfl
    · split <;> rfl
  have k6a : f6a a1 b1 a2 b2 = some (if b1 < a2 then 0 else if b2 < a1 then 0 else 1) := by
    show (if b1 < a2 then some (0 : Int32) else (if b2 < a1 then some (0 : Int32) else some (1 : Int32))) = _
    split
    · rfl
    · split <;> rfl
  unfold g0_76
  rw [k6, k6a]
  by_cases p : b2 < a1
  · by_cases q : b1 < a2
    · rw [if_pos (key.mpr (Or.inl p))]; simp [p, q]
    · rw [if_pos (key.mpr (Or.inl p))]; simp [p, q]
  · by_cases q : b1 < a2
    · rw [if_pos (key.mpr (Or.inr q))]; simp [p, q]
    · rw [if_neg (fun z => (key.mp z).elim p q)]; simp [p, q]
set_option maxRecDepth 65536 in
set_option maxHeartbeats 40000000 in
theorem comes_1 {Post : Tables → Env → Array Value → State → Outcome → State → Prop} (hpost : ∀ tb e args s v u, (limb_1_1.after args s (.returned v) u = true ∧ limb_1_2.after args s (.returned v) u = true ∧ True) → FrameEnd s (.returned v) u (Jvm.fieldLocs frame_1_writes args s ++ Jvm.arrayLocs frame_1_arrays args s ++ Jvm.staticLocs frame_1_statics s) 16 128 → Post tb e args s (.returned v) u) :
    ArmFor flags0 classFile x code maxLocals ret World_1 tables_1 room_1 Calls_1 rest_1 Pre_1 Post := by
  intro l hfl _ _ p e ha hc hk s m args below hf hA hF happ hP
  obtain ⟨hcalls, hrest, hpre⟩ := hP
  obtain ⟨-, -, -, hnamed, -, -, -, hat⟩ := (Spec.applies_iff hf).mp happ
  obtain ⟨hg, hn⟩ := and_e (Cond.before_iff.mp (show (Jvm.Cond.and given_1 narrow_1).before args s = true from hpre))
  obtain ⟨g1, g2⟩ := and_e hg
  obtain ⟨g3, g4⟩ := and_e g2
  obtain ⟨g5, g6⟩ := and_e g4
  obtain ⟨g7, g8⟩ := and_e g6
  obtain ⟨w0, w1, w2, w3, rfl⟩ : ∃ w0 w1 w2 w3 : Value, args = #[w0, w1, w2, w3] := by
    have hs : args.size = 4 := by simpa [Cond.value, given_1] using g1
    obtain ⟨L⟩ := args
    match L, hs with
    | [w0, w1, w2, w3], _ => exact ⟨w0, w1, w2, w3, rfl⟩
  have hw := fun d (hd : d ∈ tables_1) => atoms_spec (ws := Jvm.Cond.code x code maxLocals ret :: tables_1) hat d (List.mem_cons_of_mem _ hd)
  obtain ⟨i0, ei0⟩ := is_v g3
  obtain rfl : w0 = (.int i0) := Option.some.inj ei0
  obtain ⟨i1, ei1⟩ := is_v g5
  obtain rfl : w1 = (.int i1) := Option.some.inj ei1
  obtain ⟨i2, ei2⟩ := is_v g7
  obtain rfl : w2 = (.int i2) := Option.some.inj ei2
  obtain ⟨i3, ei3⟩ := is_v g8
  obtain rfl : w3 = (.int i3) := Option.some.inj ei3
  have hone := own_law i0 i1 i2 i3
  obtain ⟨n, o, h1, h2, h3, _, L, rfl, ⟨rfl, N⟩, hq⟩ := rm0 l s _ hw tables_1 i0 i1 i2 i3 s.heap s.heap.size (Nat.le_refl _) _ hone p e ha hc hk s m _ below hf ((Spec.applies_iff_loose hf).mp happ).1 ⟨rfl, State.Warmed39.refl s, rfl⟩ trivial
  refine ⟨n, _, h1, h2, h3, hpost _ _ _ _ _ _ ⟨Cond.after_iff.mpr rfl, Cond.after_iff.mpr (eq_i res_at (Term.int_eval (1)) rfl), trivial⟩ ⟨hq.1, hq.2.1, (hq.2.2.sift fun y hy => Or.inr (N y hy)).mono (by decide) (by decide)⟩⟩
theorem main_1_1 : Claimed_1_1 := comes_1 fun _ _ _ _ _ _ h hF => ⟨h.1, hF⟩
theorem main_1_2 : Claimed_1_2 := comes_1 fun _ _ _ _ _ _ h hF => ⟨h.2.1, hF⟩
end Jvm.Pilot.@@N@@
namespace Jvm.Pilot.@@N@@
open Jvm Jvm.ClassFile Sem Op Lib Jvm.Free Jvm.Stand Jvm.Pilot.@@N@@.Jvm.D
/-! MADE BY PROGRAM (witnessworld.py) out of the Statement's table words and the real class files: 11 classes; the members and pool entries that the words name. The judged class is class 1, her method 1. -/
namespace start1
open Jvm.ClassFile
def u (s : String) : CpInfo := .utf8 (stringToUtf16 s)
/-- a pool by its gaps: so many unusable entries, then the entry; so many at the end -/
def gap : Nat → List CpInfo → List CpInfo
  | 0, r => r
  | n + 1, r => .unusable :: gap n r
def poolList (es : List (Nat × CpInfo)) (last : Nat) : List CpInfo := es.foldr (fun e r => gap e.1 (e.2 :: r)) (gap last [])
def pool (es : List (Nat × CpInfo)) (last : Nat) : Array CpInfo := ⟨poolList es last⟩
def fileOf (pool : Array CpInfo) (this : Nat) (attrs : Array Attribute := #[]) (ms : Array MethodInfo := #[]) (fl : Nat := 33) (sup : Nat := 0) (ifs : Array Nat := #[]) (fds : Array FieldInfo := #[]) : ClassFile where
  minorVersion := 0
  majorVersion := 65
  constantPool := pool
  accessFlags := fl
  thisClass := this
  superClass := sup
  interfaces := ifs
  fields := fds
  methods := ms
  attributes := attrs
def plain (name : String) (sup : Option ClassId) : Class where
  name := name
  kind := .ordinary
  loader := none
  accessFlags := 33
  super := sup
  interfaces := #[]
  cf := none
  fields := #[]
  methods := #[]
  instanceTypes := #[]
  staticTypes := #[]
  resolved := #[]
  callSites := []
  init := .initialized
  statics := none
  mirror := none

def pool0 : Array CpInfo := pool [(5, u "<init>"), (0, u "()V"), (1, .class_ 10), (1, u "java/lang/Object")] 113

def k0c0 : Code := { maxStack := 0, maxLocals := 1, code := object_method_1_code, exceptionTable := #[], attributes := #[] }
def k0m0 : Method := { name := "<init>", desc := "()V", sig := { parameters := [], returnType := none }, accessFlags := 1, code := some k0c0 }
/-- java/lang/Object -/
def k0 : Class := { plain "java/lang/Object" none with
  accessFlags := 33
  interfaces := #[]
  cf := some (fileOf pool0 8 #[] #[{ accessFlags := 1, nameIndex := 5, descriptorIndex := 6, attributes := #[] }] 33 0 #[] #[])
  fields := #[]
  methods := #[k0m0]
  instanceTypes := #[]
  staticTypes := #[]
  resolved := Array.replicate 124 none
  statics := none }

def pool1 : Array CpInfo := pool [(2, .class_ 4), (1, u "java/lang/Object"), (0, u "<init>"), (0, u "()V"), (0, .methodref 8 9), (0, .class_ 10), (0, .nameAndType 11 12), (0, u "java/lang/Math"), (0, u "min"), (0, u "(II)I"), (0, .methodref 8 14), (0, .nameAndType 15 12), (0, u "max"), (0, .class_ 17), (0, u "com/example/wirelace/wirelace/schema/Reserved$Range"), (0, .methodref 16 19), (0, .nameAndType 5 20), (0, u "(II)V"), (0, .methodref 16 22), (0, .nameAndType 23 24), (0, u "overlaps"), (0, u "(Lcom/example/wirelace/wirelace/schema/Reserved$Range;)Z"), (0, .class_ 26), (0, u "com/example/wirelace/wirelace/schema/RangeOverlapsPinLaw"), (2, u "law"), (0, u "(IIII)Z")] 7

def k1m0 : Method := { name := "<init>", desc := "()V", sig := { parameters := [], returnType := none }, accessFlags := 1, code := none }
def k1c1 : Code := { maxStack := 4, maxLocals := 11, code := code, exceptionTable := #[], attributes := #[] }
def k1m1 : Method := { name := "law", desc := "(IIII)Z", sig := { parameters := [.int, .int, .int, .int], returnType := some .boolean }, accessFlags := 9, code := some k1c1 }
/-- com/example/wirelace/wirelace/schema/RangeOverlapsPinLaw -/
def k1 : Class := { plain "com/example/wirelace/wirelace/schema/RangeOverlapsPinLaw" (some 0) with
  accessFlags := 49
  interfaces := #[]
  cf := some (fileOf pool1 25 #[] #[{ accessFlags := 1, nameIndex := 5, descriptorIndex := 6, attributes := #[] }, { accessFlags := 9, nameIndex := 29, descriptorIndex := 30, attributes := #[] }] 49 2 #[] #[])
  fields := #[]
  methods := #[k1m0, k1m1]
  instanceTypes := #[]
  staticTypes := #[]
  resolved := Array.replicate 38 none
  statics := none }

def pool2 : Array CpInfo := pool [(1, .class_ 2), (0, u "java/lang/Math"), (1, .class_ 6), (1, u "java/lang/Object"), (0, u "<init>"), (0, u "()V"), (89, .class_ 100), (1, u "java/lang/Math$RandomNumberGeneratorHolder"), (71, u "negativeZeroFloatBits"), (0, u "J"), (2, u "negativeZeroDoubleBits"), (21, u "max"), (2, u "min"), (43, u "$assertionsDisabled"), (0, u "Z"), (88, u "(II)I"), (2, u "twoToTheDoubleScaleDown"), (0, u "D"), (4, u "twoToTheDoubleScaleUp"), (9, u "E"), (3, u "PI"), (2, u "TAU"), (2, u "DEGREES_TO_RADIANS"), (0, u "RADIANS_TO_DEGREES")] 94

def k2m0 : Method := { name := "<init>", desc := "()V", sig := { parameters := [], returnType := none }, accessFlags := 2, code := none }
def k2c1 : Code := { maxStack := 2, maxLocals := 2, code := jdk_29_method_65_code, exceptionTable := #[], attributes := #[] }
def k2m1 : Method := { name := "max", desc := "(II)I", sig := { parameters := [.int, .int], returnType := some .int }, accessFlags := 9, code := some k2c1 }
def k2c2 : Code := { maxStack := 2, maxLocals := 2, code := jdk_29_method_69_code, exceptionTable := #[], attributes := #[] }
def k2m2 : Method := { name := "min", desc := "(II)I", sig := { parameters := [.int, .int], returnType := some .int }, accessFlags := 9, code := some k2c2 }
/-- java/lang/Math -/
def k2 : Class := { plain "java/lang/Math" (some 0) with
  accessFlags := 49
  interfaces := #[]
  cf := some (fileOf pool2 1 #[.nestMembers #[98]] #[{ accessFlags := 2, nameIndex := 7, descriptorIndex := 8, attributes := #[] }, { accessFlags := 9, nameIndex := 198, descriptorIndex := 335, attributes := #[] }, { accessFlags := 9, nameIndex := 201, descriptorIndex := 335, attributes := #[] }] 49 4 #[] #[{ accessFlags := 25, nameIndex := 354, descriptorIndex := 339, attributes := #[] }, { accessFlags := 25, nameIndex := 358, descriptorIndex := 339, attributes := #[] }, { accessFlags := 25, nameIndex := 361, descriptorIndex := 339, attributes := #[] }, { accessFlags := 26, nameIndex := 364, descriptorIndex := 339, attributes := #[] }, { accessFlags := 26, nameIndex := 365, descriptorIndex := 339, attributes := #[] }, { accessFlags := 26, nameIndex := 172, descriptorIndex := 173, attributes := #[] }, { accessFlags := 26, nameIndex := 176, descriptorIndex := 173, attributes := #[] }, { accessFlags := 8, nameIndex := 344, descriptorIndex := 339, attributes := #[] }, { accessFlags := 8, nameIndex := 338, descriptorIndex := 339, attributes := #[] }, { accessFlags := 4120, nameIndex := 245, descriptorIndex := 246, attributes := #[] }])
  fields := #[{ name := "E", type := .double, accessFlags := 25, slot := 0, constantValue := 0 }, { name := "PI", type := .double, accessFlags := 25, slot := 1, constantValue := 0 }, { name := "TAU", type := .double, accessFlags := 25, slot := 2, constantValue := 0 }, { name := "DEGREES_TO_RADIANS", type := .double, accessFlags := 26, slot := 3, constantValue := 0 }, { name := "RADIANS_TO_DEGREES", type := .double, accessFlags := 26, slot := 4, constantValue := 0 }, { name := "negativeZeroFloatBits", type := .long, accessFlags := 26, slot := 5, constantValue := 0 }, { name := "negativeZeroDoubleBits", type := .long, accessFlags := 26, slot := 6, constantValue := 0 }, { name := "twoToTheDoubleScaleUp", type := .double, accessFlags := 8, slot := 7, constantValue := 0 }, { name := "twoToTheDoubleScaleDown", type := .double, accessFlags := 8, slot := 8, constantValue := 0 }, { name := "$assertionsDisabled", type := .boolean, accessFlags := 4120, slot := 9, constantValue := 0 }]
  methods := #[k2m0, k2m1, k2m2]
  instanceTypes := #[]
  staticTypes := #[.double, .double, .double, .double, .double, .long, .long, .double, .double, .boolean]
  resolved := Array.replicate 460 none
  statics := none }

def pool3 : Array CpInfo := pool [(1, .methodref 2 3), (0, .class_ 4), (0, .nameAndType 5 6), (0, u "java/lang/Object"), (0, u "<init>"), (0, u "()V"), (0, .class_ 8), (0, u "java/lang/Record")] 13

def k3c0 : Code := { maxStack := 1, maxLocals := 1, code := jdk_30_method_1_code, exceptionTable := #[], attributes := #[] }
def k3m0 : Method := { name := "<init>", desc := "()V", sig := { parameters := [], returnType := none }, accessFlags := 4, code := some k3c0 }
/-- java/lang/Record -/
def k3 : Class := { plain "java/lang/Record" (some 0) with
  accessFlags := 1057
  interfaces := #[]
  cf := some (fileOf pool3 7 #[] #[{ accessFlags := 4, nameIndex := 5, descriptorIndex := 6, attributes := #[] }] 1057 2 #[] #[])
  fields := #[]
  methods := #[k3m0]
  instanceTypes := #[]
  staticTypes := #[]
  resolved := Array.replicate 22 none
  statics := none }

def pool4 : Array CpInfo := pool [(1, .methodref 2 3), (0, .class_ 4), (0, .nameAndType 5 6), (0, u "java/lang/Record"), (0, u "<init>"), (0, u "()V"), (9, .fieldref 17 18), (0, .class_ 19), (0, .nameAndType 20 21), (0, u "com/example/wirelace/wirelace/schema/Reserved$Range"), (0, u "first"), (0, u "I"), (0, .fieldref 17 23), (0, .nameAndType 24 21), (0, u "last"), (0, .methodref 17 26), (0, .nameAndType 24 27), (0, u "()I"), (0, .methodref 17 29), (0, .nameAndType 20 27), (15, u "(II)V"), (4, u "overlaps"), (0, u "(Lcom/example/wirelace/wirelace/schema/Reserved$Range;)Z"), (6, .class_ 59), (0, u "com/example/wirelace/wirelace/schema/Reserved")] 30

def k4c0 : Code := { maxStack := 4, maxLocals := 3, code := prog_87_method_1_code, exceptionTable := #[], attributes := #[] }
def k4m0 : Method := { name := "<init>", desc := "(II)V", sig := { parameters := [.int, .int], returnType := none }, accessFlags := 1, code := some k4c0 }
def k4c1 : Code := { maxStack := 2, maxLocals := 2, code := prog_87_method_2_code, exceptionTable := #[], attributes := #[] }
def k4m1 : Method := { name := "overlaps", desc := "(Lcom/example/wirelace/wirelace/schema/Reserved$Range;)Z", sig := { parameters := [(.object "com/example/wirelace/wirelace/schema/Reserved$Range")], returnType := some .boolean }, accessFlags := 1, code := some k4c1 }
def k4c2 : Code := { maxStack := 1, maxLocals := 1, code := prog_87_method_6_code, exceptionTable := #[], attributes := #[] }
def k4m2 : Method := { name := "first", desc := "()I", sig := { parameters := [], returnType := some .int }, accessFlags := 1, code := some k4c2 }
def k4c3 : Code := { maxStack := 1, maxLocals := 1, code := prog_87_method_7_code, exceptionTable := #[], attributes := #[] }
def k4m3 : Method := { name := "last", desc := "()I", sig := { parameters := [], returnType := some .int }, accessFlags := 1, code := some k4c3 }
/-- com/example/wirelace/wirelace/schema/Reserved$Range -/
def k4 : Class := { plain "com/example/wirelace/wirelace/schema/Reserved$Range" (some 3) with
  accessFlags := 49
  interfaces := #[]
  cf := some (fileOf pool4 17 #[.nestHost 58] #[{ accessFlags := 1, nameIndex := 5, descriptorIndex := 45, attributes := #[] }, { accessFlags := 1, nameIndex := 50, descriptorIndex := 51, attributes := #[] }, { accessFlags := 1, nameIndex := 20, descriptorIndex := 27, attributes := #[] }, { accessFlags := 1, nameIndex := 24, descriptorIndex := 27, attributes := #[] }] 49 2 #[] #[{ accessFlags := 18, nameIndex := 20, descriptorIndex := 21, attributes := #[] }, { accessFlags := 18, nameIndex := 24, descriptorIndex := 21, attributes := #[] }])
  fields := #[{ name := "first", type := .int, accessFlags := 18, slot := 0, constantValue := 0 }, { name := "last", type := .int, accessFlags := 18, slot := 1, constantValue := 0 }]
  methods := #[k4m0, k4m1, k4m2, k4m3]
  instanceTypes := #[.int, .int]
  staticTypes := #[]
  resolved := Array.replicate 90 none
  statics := none }

def pool5 : Array CpInfo := pool [(1, u "java/lang/Cloneable"), (0, .class_ 1), (0, u "java/lang/Object"), (0, .class_ 3)] 3

/-- java/lang/Cloneable -/
def k5 : Class := { plain "java/lang/Cloneable" (some 0) with
  accessFlags := 1537
  interfaces := #[]
  cf := some (fileOf pool5 2 #[] #[] 1537 4 #[] #[])
  fields := #[]
  methods := #[]
  instanceTypes := #[]
  staticTypes := #[]
  resolved := Array.replicate 8 none
  statics := none }

def pool6 : Array CpInfo := pool [(1, u "java/io/Serializable"), (0, .class_ 1), (0, u "java/lang/Object"), (0, .class_ 3)] 3

/-- java/io/Serializable -/
def k6 : Class := { plain "java/io/Serializable" (some 0) with
  accessFlags := 1537
  interfaces := #[]
  cf := some (fileOf pool6 2 #[] #[] 1537 4 #[] #[])
  fields := #[]
  methods := #[]
  instanceTypes := #[]
  staticTypes := #[]
  resolved := Array.replicate 8 none
  statics := none }

/-- the primitive byte -/
def k7 : Class := { plain "byte" none with kind := .primitive 'B', accessFlags := 0x411 }
/-- [B -/
def k8 : Class := { plain "[B" (some 0) with kind := .array 7 .byte, interfaces := #[5, 6], accessFlags := 1041 }

/-- the primitive int -/
def k9 : Class := { plain "int" none with kind := .primitive 'I', accessFlags := 0x411 }
/-- [I -/
def k10 : Class := { plain "[I" (some 0) with kind := .array 9 .int, interfaces := #[5, 6], accessFlags := 1041 }

def heap : Heap := #[]
def classes : Array Class := #[k0, k1, k2, k3, k4, k5, k6, k7, k8, k9, k10]
def interned : List (Array UInt16 × Addr) := []
def slotsUsed : Nat := 0
def theMethod : MethodId := ⟨1, 1⟩
def args0 : Array Value := #[.int 1, .int 3, .int 2, .int 5]
def aboutOver (below : List Frame) : State where
  vm := { classes := classes, interned := interned.toArray }
  heap := heap
  slotsUsed := slotsUsed
  threads := #[{ frames := .invoking theMethod args0 :: below }]
def below0 : List Frame := [.native { method := ⟨0, 0⟩, args := #[] }]
def about1 : State := aboutOver below0
def p0 : Program := .bare "" "" ""
def e0 : Env := launch0.env 0 0 0
theorem w_frames : about1.frames = Frame.invoking theMethod args0 :: below0 := rfl
set_option maxRecDepth 65536 in
theorem w_args : argsFit about1.vm theMethod args0 = true := by decide +kernel
set_option maxRecDepth 65536 in
theorem w_heap : heapFits about1 = true := by decide +kernel
set_option maxRecDepth 65536 in
theorem w_runnable : about1.curStatus? = some .runnable := by decide +kernel
set_option maxRecDepth 65536 in
theorem w_alone : about1.alone = true := by decide +kernel
set_option maxRecDepth 65536 in
theorem w_named : about1.methodNamed? x = some theMethod := by decide +kernel
set_option maxRecDepth 65536 in
theorem w_hears : about1.hears theMethod below0 = true := by decide +kernel
set_option maxRecDepth 65536 in
theorem w_ripe : about1.ripe theMethod args0 below0 = true := by decide +kernel
theorem w_running : about1.status = .running := rfl
set_option maxRecDepth 65536 in
theorem w_room : about1.hasRoom e0.platform room_1 = true :=
  launch0.hasRoom_least _ room_1 (by decide +kernel) (by decide +kernel) (by decide +kernel) (by decide +kernel) (by decide +kernel) (by decide +kernel)
theorem allAtoms_all (ts : List Jvm.Cond) (a : Array Jvm.Value) (st : Jvm.State) : (allAtoms ts).before a st = ts.all (fun c => c.before a st) := by
  induction ts with
  | nil => rfl
  | cons c t ih =>
    show (Jvm.Cond.and c (allAtoms t)).before a st = _
    rw [Jvm.Cond.before_and, ih, List.all_cons]
def words1 : List Jvm.Cond := Jvm.Cond.code x code maxLocals ret :: tables_1
/-- a 'code' word, met by the world's own term for the bytes: nothing is compared byte by byte -/
theorem code_word {y : MethodName} {bytes : ByteArray} {mx : Nat} {rt : Option FieldType} {a : Array Value} {s : State} {m : MethodId} {meth : Method} {c : Code} (h1 : s.methodNamed? y = some m) (h2 : s.vm.method? m = some meth) (h3 : meth.code = some c) (h4 : c.code = bytes)
    (h5 : (c.maxLocals == mx && c.exceptionTable.isEmpty && decide (c.maxStack ≤ mostOperands) && decide (meth.sig.returnType = rt) && !meth.locks && decide (parseMethodDescriptor y.desc = some meth.sig)) = true) : (Jvm.Cond.code y bytes mx rt).before a s = true := by
  simp only [Bool.and_eq_true, beq_iff_eq, Bool.not_eq_true', decide_eq_true_eq] at h5
  obtain ⟨⟨⟨⟨⟨g1, g2⟩, g3⟩, g4⟩, g5⟩, g6⟩ := h5
  simp [Cond.before, Cond.holds, Cond.value, h1, h2, h3, h4, g1, g2, g3, g4, g5, g6]
def isCode : Jvm.Cond → Bool
  | .code _ _ _ _ => true
  | _ => false
theorem all_split {L : List Jvm.Cond} {P : Jvm.Cond → Bool} (h1 : L.all (fun c => isCode c || P c) = true) (h2 : ∀ c ∈ L.filter isCode, P c = true) : L.all P = true := by
  refine List.all_eq_true.mpr fun c hc => ?_
  have h := List.all_eq_true.mp h1 c hc
  rcases Bool.eq_false_or_eq_true (isCode c) with hi | hi
  · exact h2 c (List.mem_filter.mpr ⟨hc, hi⟩)
  · simpa [hi] using h
set_option maxRecDepth 65536 in
theorem w_c0 : (Jvm.Cond.code x code maxLocals ret).before args0 about1 = true := code_word (m := ⟨1, 1⟩) (meth := k1m1) (c := k1c1) (by decide +kernel) rfl rfl rfl (by decide +kernel)
set_option maxRecDepth 65536 in
theorem w_c1 : (Jvm.Cond.code ({ cls := "java/lang/Math", name := "min", desc := "(II)I" } : Jvm.MethodName) jdk_29_method_69_code (2 : Nat) (Option.some Jvm.ClassFile.FieldType.int)).before args0 about1 = true := code_word (m := ⟨2, 2⟩) (meth := k2m2) (c := k2c2) (by decide +kernel) rfl rfl rfl (by decide +kernel)
set_option maxRecDepth 65536 in
theorem w_c2 : (Jvm.Cond.code ({ cls := "java/lang/Math", name := "max", desc := "(II)I" } : Jvm.MethodName) jdk_29_method_65_code (2 : Nat) (Option.some Jvm.ClassFile.FieldType.int)).before args0 about1 = true := code_word (m := ⟨2, 1⟩) (meth := k2m1) (c := k2c1) (by decide +kernel) rfl rfl rfl (by decide +kernel)
set_option maxRecDepth 65536 in
theorem w_c3 : (Jvm.Cond.code ({ cls := "com/example/wirelace/wirelace/schema/Reserved$Range", name := "<init>", desc := "(II)V" } : Jvm.MethodName) prog_87_method_1_code (3 : Nat) (Option.none : Option Jvm.ClassFile.FieldType)).before args0 about1 = true := code_word (m := ⟨4, 0⟩) (meth := k4m0) (c := k4c0) (by decide +kernel) rfl rfl rfl (by decide +kernel)
set_option maxRecDepth 65536 in
theorem w_c4 : (Jvm.Cond.code ({ cls := "java/lang/Record", name := "<init>", desc := "()V" } : Jvm.MethodName) jdk_30_method_1_code (1 : Nat) (Option.none : Option Jvm.ClassFile.FieldType)).before args0 about1 = true := code_word (m := ⟨3, 0⟩) (meth := k3m0) (c := k3c0) (by decide +kernel) rfl rfl rfl (by decide +kernel)
set_option maxRecDepth 65536 in
theorem w_c5 : (Jvm.Cond.code ({ cls := "java/lang/Object", name := "<init>", desc := "()V" } : Jvm.MethodName) object_method_1_code (1 : Nat) (Option.none : Option Jvm.ClassFile.FieldType)).before args0 about1 = true := code_word (m := ⟨0, 0⟩) (meth := k0m0) (c := k0c0) (by decide +kernel) rfl rfl rfl (by decide +kernel)
set_option maxRecDepth 65536 in
theorem w_c6 : (Jvm.Cond.code ({ cls := "com/example/wirelace/wirelace/schema/Reserved$Range", name := "overlaps", desc := "(Lcom/example/wirelace/wirelace/schema/Reserved$Range;)Z" } : Jvm.MethodName) prog_87_method_2_code (2 : Nat) (Option.some Jvm.ClassFile.FieldType.boolean)).before args0 about1 = true := code_word (m := ⟨4, 1⟩) (meth := k4m1) (c := k4c1) (by decide +kernel) rfl rfl rfl (by decide +kernel)
set_option maxRecDepth 65536 in
theorem w_c7 : (Jvm.Cond.code ({ cls := "com/example/wirelace/wirelace/schema/Reserved$Range", name := "last", desc := "()I" } : Jvm.MethodName) prog_87_method_7_code (1 : Nat) (Option.some Jvm.ClassFile.FieldType.int)).before args0 about1 = true := code_word (m := ⟨4, 3⟩) (meth := k4m3) (c := k4c3) (by decide +kernel) rfl rfl rfl (by decide +kernel)
set_option maxRecDepth 65536 in
theorem w_c8 : (Jvm.Cond.code ({ cls := "com/example/wirelace/wirelace/schema/Reserved$Range", name := "first", desc := "()I" } : Jvm.MethodName) prog_87_method_6_code (1 : Nat) (Option.some Jvm.ClassFile.FieldType.int)).before args0 about1 = true := code_word (m := ⟨4, 2⟩) (meth := k4m2) (c := k4c2) (by decide +kernel) rfl rfl rfl (by decide +kernel)
def codes1 : List Jvm.Cond := [Jvm.Cond.code x code maxLocals ret, Jvm.Cond.code ({ cls := "java/lang/Math", name := "min", desc := "(II)I" } : Jvm.MethodName) jdk_29_method_69_code (2 : Nat) (Option.some Jvm.ClassFile.FieldType.int), Jvm.Cond.code ({ cls := "java/lang/Math", name := "max", desc := "(II)I" } : Jvm.MethodName) jdk_29_method_65_code (2 : Nat) (Option.some Jvm.ClassFile.FieldType.int), Jvm.Cond.code ({ cls := "com/example/wirelace/wirelace/schema/Reserved$Range", name := "<init>", desc := "(II)V" } : Jvm.MethodName) prog_87_method_1_code (3 : Nat) (Option.none : Option Jvm.ClassFile.FieldType), Jvm.Cond.code ({ cls := "java/lang/Record", name := "<init>", desc := "()V" } : Jvm.MethodName) jdk_30_method_1_code (1 : Nat) (Option.none : Option Jvm.ClassFile.FieldType), Jvm.Cond.code ({ cls := "java/lang/Object", name := "<init>", desc := "()V" } : Jvm.MethodName) object_method_1_code (1 : Nat) (Option.none : Option Jvm.ClassFile.FieldType), Jvm.Cond.code ({ cls := "com/example/wirelace/wirelace/schema/Reserved$Range", name := "overlaps", desc := "(Lcom/example/wirelace/wirelace/schema/Reserved$Range;)Z" } : Jvm.MethodName) prog_87_method_2_code (2 : Nat) (Option.some Jvm.ClassFile.FieldType.boolean), Jvm.Cond.code ({ cls := "com/example/wirelace/wirelace/schema/Reserved$Range", name := "last", desc := "()I" } : Jvm.MethodName) prog_87_method_7_code (1 : Nat) (Option.some Jvm.ClassFile.FieldType.int), Jvm.Cond.code ({ cls := "com/example/wirelace/wirelace/schema/Reserved$Range", name := "first", desc := "()I" } : Jvm.MethodName) prog_87_method_6_code (1 : Nat) (Option.some Jvm.ClassFile.FieldType.int)]
set_option maxRecDepth 65536 in
theorem codes_eq : words1.filter isCode = codes1 := rfl
theorem w_codes : ∀ c ∈ words1.filter isCode, c.before args0 about1 = true := by
  rw [codes_eq]
  intro c hc
  simp only [codes1, List.mem_cons, List.not_mem_nil, or_false] at hc
  rcases hc with rfl | rfl | rfl | rfl | rfl | rfl | rfl | rfl | rfl
  · exact w_c0
  · exact w_c1
  · exact w_c2
  · exact w_c3
  · exact w_c4
  · exact w_c5
  · exact w_c6
  · exact w_c7
  · exact w_c8
set_option maxRecDepth 65536 in
theorem w_t1 : (words1.take 24).all (fun c => isCode c || c.before args0 about1) = true := by decide +kernel
set_option maxRecDepth 65536 in
theorem w_t2 : (words1.drop 24).all (fun c => isCode c || c.before args0 about1) = true := by decide +kernel
theorem w_tables : (allAtoms (Jvm.Cond.code x code maxLocals ret :: tables_1)).before args0 about1 = true := by
  rw [allAtoms_all]
  show words1.all (fun c => c.before args0 about1) = true
  refine all_split ?_ w_codes
  rw [← List.take_append_drop 24 words1, List.all_append, w_t1, w_t2]
  rfl
set_option maxRecDepth 65536 in
theorem w_case : (Jvm.Cond.and given_1 narrow_1).before args0 about1 = true := by decide +kernel
theorem w_applies : (headSpec (Jvm.Cond.code x code maxLocals ret :: tables_1) room_1).applies x e0.platform about1 = true :=
  (Spec.applies_iff w_frames).mpr ⟨w_running, w_runnable, w_alone, w_named, w_hears, w_ripe, w_room, w_tables⟩
theorem atStart : AtStart classFile x code maxLocals ret World_1 tables_1 room_1 Calls_1 rest_1 Pre_1 launch0 p0 e0 about1 theMethod args0 below0 :=
  ⟨lists_1, trivial, launch0.admits_env _ _ _, launch0.least_env, fairChoices_fair.cas, fairChoices_fair.clock, w_frames, w_args, w_heap, w_applies, trivial, trivial, w_case⟩
end start1
theorem witness_1 : WitnessClaimed_1 := ⟨start1.p0, start1.e0, start1.about1, start1.theMethod, start1.args0, start1.below0, start1.atStart⟩
end Jvm.Pilot.@@N@@
