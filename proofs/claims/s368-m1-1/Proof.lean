import JvmDerived
import JvmDerived.Pilot.@@N@@Statement
import JvmDerived.Pilot.@@N@@Code
set_option linter.unusedVariables false
set_option linter.unusedSimpArgs false
namespace Jvm.RoadKit
open Sem ClassFile Op Lib Jvm.Stand Jvm.Free Jvm.LawKit
section New
variable {p : Program} {l : Launch} {e : Env} {R : Room} {s : State} {m : MethodId} {args : Array Value} {below : List Frame} {meth : Method} {c : Code} {T : State} {locs : List Loc} {cells slots : Nat}
theorem retI (X : Stand p l e R s m args below meth c T locs cells slots) (hx : p.tables.exec = Jvm.exec) {pc : Nat} {Ls : Array Slot} {z : Int32} {rest : List Value} (hret : meth.sig.returnType = some .int) (hd : decode c.code pc = .ok (.ireturn, 1)) {fs : List Frame}
    (hl : ∀ (f : JFrame) (acts : List Action), f.method = m → f.locked = none → f.entered = [] → (doReturn e (T.setTop f) acts (some (.int z))).1 = T.setFrames fs) : Steps p.tables e below (T.setTop (mkF m pc Ls (.int z :: rest))) (T.setFrames fs) := by
  have hm' : T.vm.method? m = some meth := X.method'
  have hn : narrow .int (.int z) = .int z := rfl
  show Steps p.tables e below (T.setTop { method := m, pc := pc, locals := Ls, stack := _ :: rest, locked := none }) _
  jvm_step X.here [X.here.top, hx, hd, hm', hret, hn]
  first | (intro acts; rw [hl _ acts rfl rfl rfl]) | rw [hl _ _ rfl rfl rfl]
  exact Steps.refl _
end New
end Jvm.RoadKit
namespace Jvm.Pilot.@@N@@
open Jvm Jvm.ClassFile Sem Op Lib Jvm.Free Jvm.Stand Jvm.LawKit Jvm.RoadKit Bundle Jvm.Pilot.@@N@@.Jvm.D
def QP (r : Option Value) (h0 : Heap) (n0 : Nat) (v : Option Value) (h : Heap) (L : List Loc) : Prop := v = r ∧ Fr n0 L ∧ h = h0
def Ctx (p : Program) (s : State) (m : MethodId) (meth : Method) (c : Code) (Z : State) (a0 : Array Value) (own : String) (bytes : ByteArray) (ml : Nat) (rt : Option FieldType) (name : String) : Prop :=
  p.tables.exec = Jvm.exec ∧ Z.Warmed39 s.vm ∧ (∀ d ∈ tables_1, d.before a0 Z = true) ∧ c.code = bytes ∧ c.maxLocals = ml ∧ s.vm.findClass own = some m.cls ∧ meth.sig.returnType = rt ∧ meth.locks = false ∧ meth.name = name
/-- from T with the frame g on top the run comes to a return, of which Φ holds -/
def Runs (p : Program) (e : Env) (below : List Frame) (s : State) (Φ : Option Value → Heap → List Loc → Prop) (k n : Nat) (T : State) (g : JFrame) : Prop :=
  ∃ s₂ o, Steps p.tables e below (T.setTop g) s₂ ∧ s₂.status = .running ∧ Ended s₂ below o ∧ ∃ v L, o = .returned v ∧ Φ v s₂.heap L ∧ FrameEnd s o s₂ L k n
section Own
variable {p : Program} {l : Launch} {e : Env} {R : Room} {s : State} {m : MethodId} {args : Array Value} {below : List Frame} {meth : Method} {c : Code} {T T' T0 Z : State} {a0 : Array Value} {locs : List Loc} {cells slots k n n0 : Nat} {h0 : Heap} {g g' : JFrame} {Φ : Option Value → Heap → List Loc → Prop}
theorem Runs.via (h : ∀ t, Steps p.tables e below (T'.setTop g') t → Steps p.tables e below (T.setTop g) t) (r : Runs p e below s Φ k n T' g') : Runs p e below s Φ k n T g := by
  obtain ⟨s₂, o, h1, r⟩ := r
  exact ⟨s₂, o, h _ h1, r⟩
theorem QP.cast {r r' : Option Value} (h : r = r') (H : Runs p e below s (QP r' h0 n0) k n T g) : Runs p e below s (QP r h0 n0) k n T g := by rw [h]; exact H
theorem own_retI (X : Stand p l e R s m args below meth c T locs cells slots) (hx : p.tables.exec = Jvm.exec) (hlk : meth.locks = false) (hret : meth.sig.returnType = some .int) {pc : Nat} {Ls : Array Slot} {z : Int32} {rest : List Value} (hd : decode c.code pc = .ok (.ireturn, 1)) (hk : cells ≤ k) (hn : slots ≤ n) (hΦ : Φ (some (.int z)) T.heap locs) :
    Runs p e below s Φ k n T (mkF m pc Ls (.int z :: rest)) := by
  obtain ⟨fs, hr, hrun, hended, hW, hsame⟩ := X.leave (v := some (.int z)) (fun h => by rw [hret] at h; cases h) hlk
  exact ⟨_, _, retI X hx hret hd hr, hrun, hended, _, _, rfl, hΦ, ⟨_, rfl⟩, hW, hsame.mono hk hn⟩
theorem own_retN (X : Stand p l e R s m args below meth c T locs cells slots) (hx : p.tables.exec = Jvm.exec) (hlk : meth.locks = false) {t : FieldType} (hret : meth.sig.returnType = some t) (ht : t = .boolean ∨ t = .byte ∨ t = .char ∨ t = .short) {pc : Nat} {Ls : Array Slot} {z : Int32} {rest : List Value} (hd : decode c.code pc = .ok (.ireturn, 1)) (hk : cells ≤ k) (hn : slots ≤ n) (hΦ : Φ (some (.int (nar t z))) T.heap locs) :
    Runs p e below s Φ k n T (mkF m pc Ls (.int z :: rest)) := by
  obtain ⟨fs, hr, hrun, hended, hW, hsame⟩ := X.leave (v := some (.int (nar t z))) (fun h => by rw [hret] at h; cases h) hlk
  exact ⟨_, _, retN X hx hret ht hd hr, hrun, hended, _, _, rfl, hΦ, ⟨_, rfl⟩, hW, hsame.mono hk hn⟩
theorem own_retJ (X : Stand p l e R s m args below meth c T locs cells slots) (hx : p.tables.exec = Jvm.exec) (hlk : meth.locks = false) (hret : meth.sig.returnType = some .long) {pc : Nat} {Ls : Array Slot} {z : Int64} (hd : decode c.code pc = .ok (.lreturn, 1)) (hk : cells ≤ k) (hn : slots ≤ n) (hΦ : Φ (some (.long z)) T.heap locs) :
    Runs p e below s Φ k n T (mkF m pc Ls [.long z]) := by
  obtain ⟨fs, hr, hrun, hended, hW, hsame⟩ := X.leave (v := some (.long z)) (fun h => by rw [hret] at h; cases h) hlk
  exact ⟨_, _, X.lreturnOut hx hret hd hr, hrun, hended, _, _, rfl, hΦ, ⟨_, rfl⟩, hW, hsame.mono hk hn⟩
theorem own_privSel {s : State} {args : Array Value} {y : MethodName} {n : Nat} (hwi : (Cond.instantiable y.cls n).before args s = true) (hp : (Cond.privateMethod y).before args s = true) (hinst : (Cond.instanceMethod y).before args s = true) (hy : y.cls ≠ "java/lang/invoke/MethodHandle" ∧ y.cls ≠ "java/lang/invoke/VarHandle") : (Cond.selects y.cls y y).before args s = true := by
  obtain ⟨c, k, h1, h2, h3, h4, -⟩ := Cond.instantiable_spec hwi
  exact selects_self_of_private h1 h2 (by simp only [Bool.or_eq_false_iff] at h4; exact h4.1) (Cond.privateMethod_at hp) hinst hy
theorem own_retV (X : Stand p l e R s m args below meth c T locs cells slots) (hx : p.tables.exec = Jvm.exec) (hlk : meth.locks = false) (hret : meth.sig.returnType = none) {pc : Nat} {Ls : Array Slot} (hd : decode c.code pc = .ok (.return_, 1)) (hk : cells ≤ k) (hn : slots ≤ n) (hΦ : Φ none T.heap locs) :
    Runs p e below s Φ k n T (mkF m pc Ls []) := by
  obtain ⟨fs, hr, hrun, hended, hW, hsame⟩ := X.leave (v := none) (fun _ => rfl) hlk
  exact ⟨_, _, X.returnOut hx hret hd hr, hrun, hended, _, _, rfl, hΦ, ⟨_, rfl⟩, hW, hsame.mono hk hn⟩
theorem own_retR (X : Stand p l e R s m args below meth c T locs cells slots) (hx : p.tables.exec = Jvm.exec) (hlk : meth.locks = false) {t : FieldType} (hret : meth.sig.returnType = some t) (ht : t.isReference = true) {pc : Nat} {Ls : Array Slot} {a : Addr} {rest : List Value} (hd : decode c.code pc = .ok (.areturn, 1)) (hk : cells ≤ k) (hn : slots ≤ n) (hΦ : Φ (some (.ref a)) T.heap locs) :
    Runs p e below s Φ k n T (mkF m pc Ls (.ref a :: rest)) := by
  obtain ⟨fs, hr, hrun, hended, hW, hsame⟩ := X.leave (v := some (.ref a)) (fun h => by rw [hret] at h; cases h) hlk
  exact ⟨_, _, retOut X hx hret (by cases t <;> first | rfl | (cases ht; done)) (Or.inr (Or.inr (Or.inr (Or.inr ⟨rfl, ht, rfl⟩)))) hd hr, hrun, hended, _, _, rfl, hΦ, ⟨_, rfl⟩, hW, hsame.mono hk hn⟩
theorem bindE {α β : Type} {G : Prop} {x : Option α} {k : α → Option β} {r : β} (hr : x.bind k = some r) (H : ∀ v, x = some v → k v = some r → G) : G := by
  cases x with
  | none => exact nomatch hr
  | some v => exact H v rfl hr
def letO {α β : Type} (x : α) (k : α → β) : β := k x
theorem letE {α β : Type} {G : Prop} {x : α} {k : α → Option β} {r : β} (hr : letO x k = some r) (H : ∀ v, v = x → k v = some r → G) : G := H x rfl hr
theorem iteE {β : Type} {G P : Prop} [Decidable P] {a b : Option β} {r : β} (hr : (if P then a else b) = some r) (H1 : P → a = some r → G) (H2 : ¬ P → b = some r → G) : G := by
  by_cases h : P
  · rw [if_pos h] at hr; exact H1 h hr
  · rw [if_neg h] at hr; exact H2 h hr
/-- an array's place, a store, its length, a new array -/
def rdO {α : Type} (xs : List α) (j : Int32) : Option α := if j < 0 then none else xs[j.toNatClampNeg]?
def wrO {α : Type} (xs : List α) (j : Int32) (v : α) : Option (List α) := if j < 0 ∨ xs.length ≤ j.toNatClampNeg then none else some (xs.set j.toNatClampNeg v)
def lenO {α : Type} (xs : List α) : Int32 := xs.length.toInt32
def mkO (n : Int32) (cap : Nat) : Option (List Int32) := if n < 0 ∨ cap < n.toNatClampNeg then none else some (List.replicate n.toNatClampNeg 0)
def mkOJ (n : Int32) (cap : Nat) : Option (List Int64) := if n < 0 ∨ cap < n.toNatClampNeg then none else some (List.replicate n.toNatClampNeg 0)
def AI (Z : State) (h : Heap) (a : Addr) (ty : FieldType) (xs : List Int32) : Prop := ∃ c : Cell, Arr Z h a c ty ∧ c.slots = (xs.map Value.int).toArray
def AJ (Z : State) (h : Heap) (a : Addr) (ty : FieldType) (xs : List Int64) : Prop := ∃ c : Cell, Arr Z h a c ty ∧ c.slots = (xs.map Value.long).toArray
section Arrs
variable {p : Program} {l : Launch} {e : Env} {R : Room} {s : State} {m : MethodId} {args : Array Value} {below : List Frame} {meth : Method} {c : Code} {T Z : State} {a0 : Array Value} {locs : List Loc} {cells slots : Nat} {h h' : Heap} {a b : Addr} {ty : FieldType} {sl : Nat} {v : Value} {ws : List Addr}
theorem AI.lt {xs : List Int32} (F : AI Z h a ty xs) : a < h.size := by obtain ⟨c, A, -⟩ := F; exact A.lt
theorem AI.ext {xs : List Int32} (F : AI Z h a ty xs) (E : Ext h h') : AI Z h' a ty xs := by obtain ⟨c, A, q⟩ := F; exact ⟨c, A.ext E, q⟩
theorem AI.other {xs : List Int32} (F : AI Z h b ty xs) (W : Wr h h' a sl v) (q : b ≠ a) : AI Z h' b ty xs := by obtain ⟨c, A, r⟩ := F; exact ⟨c, A.other W q, r⟩
theorem AI.keep {xs : List Int32} (F : AI Z h a ty xs) (K : Keep h h' ws) (q : a ∉ ws) : AI Z h' a ty xs := by obtain ⟨c, A, r⟩ := F; exact ⟨c, ⟨K.2.1 a c A.1 q, A.2⟩, r⟩
theorem AJ.lt {xs : List Int64} (F : AJ Z h a ty xs) : a < h.size := by obtain ⟨c, A, -⟩ := F; exact A.lt
theorem AJ.ext {xs : List Int64} (F : AJ Z h a ty xs) (E : Ext h h') : AJ Z h' a ty xs := by obtain ⟨c, A, q⟩ := F; exact ⟨c, A.ext E, q⟩
theorem AJ.other {xs : List Int64} (F : AJ Z h b ty xs) (W : Wr h h' a sl v) (q : b ≠ a) : AJ Z h' b ty xs := by obtain ⟨c, A, r⟩ := F; exact ⟨c, A.other W q, r⟩
theorem AJ.keep {xs : List Int64} (F : AJ Z h a ty xs) (K : Keep h h' ws) (q : a ∉ ws) : AJ Z h' a ty xs := by obtain ⟨c, A, r⟩ := F; exact ⟨c, ⟨K.2.1 a c A.1 q, A.2⟩, r⟩
theorem rd_at {α : Type} {f : α → Value} {xs : List α} {j : Int32} {z : α} {cl : Cell} (q : cl.slots = (xs.map f).toArray) (hr : rdO xs j = some z) : ¬ (j < 0 ∨ cl.slots.size ≤ j.toNatClampNeg) ∧ cl.slots[j.toNatClampNeg]? = some (f z) := by
  unfold rdO at hr
  by_cases hj : j < 0
  · rw [if_pos hj] at hr; exact nomatch hr
  · rw [if_neg hj] at hr
    obtain ⟨hi, he⟩ := List.getElem?_eq_some_iff.mp hr
    rw [q]
    refine ⟨?_, by simp [hr]⟩
    rintro (h1 | h1)
    · exact hj h1
    · simp at h1; omega
theorem wr_at2 {α : Type} {f : α → Value} {xs xs' : List α} {j : Int32} {z : α} {cl : Cell} (q : cl.slots = (xs.map f).toArray) (hr : wrO xs j z = some xs') : ¬ (j < 0 ∨ cl.slots.size ≤ j.toNatClampNeg) ∧ (cl.setSlot j.toNatClampNeg (f z)).slots = (xs'.map f).toArray := by
  unfold wrO at hr
  by_cases hj : j < 0 ∨ xs.length ≤ j.toNatClampNeg
  · rw [if_pos hj] at hr; exact nomatch hr
  · rw [if_neg hj] at hr
    obtain rfl := Option.some.inj hr
    refine ⟨by rw [q]; simpa using hj, ?_⟩
    simp only [Cell.setSlot, q]
    simp [List.map_set]
theorem ldI (X : Stand p l e R s m args below meth c T locs cells slots) (hx : p.tables.exec = Jvm.exec) (hZ : Z.Warmed39 s.vm) (eT : T.heap = h) {xs : List Int32} (A : AI Z h a .int xs) {j z : Int32} (hr : rdO xs j = some z) {g : JFrame} (hg : g.method = m) {rest : List Value} (hs : g.stack = .int j :: .ref a :: rest) (hd : decode c.code g.pc = .ok (.iaload, 1)) :
    ∀ target, Steps p.tables e below (T.setTop { g with pc := g.pc + 1, stack := .int z :: rest }) target → Steps p.tables e below (T.setTop g) target := by
  obtain ⟨cl, A, q⟩ := A
  obtain ⟨h1, h2⟩ := rd_at q hr
  exact X.iaload hx (j := j) (v := .int z) (by rw [eT]; exact A.1) (State.isArrayOf_alike hZ.alike A.2.1) A.2.2 h1 h2 hg hs hd
theorem ldB (X : Stand p l e R s m args below meth c T locs cells slots) (hx : p.tables.exec = Jvm.exec) (hZ : Z.Warmed39 s.vm) (eT : T.heap = h) {xs : List Int32} (A : AI Z h a .byte xs) {j z : Int32} (hr : rdO xs j = some z) {g : JFrame} (hg : g.method = m) {rest : List Value} (hs : g.stack = .int j :: .ref a :: rest) (hd : decode c.code g.pc = .ok (.baload, 1)) :
    ∀ target, Steps p.tables e below (T.setTop { g with pc := g.pc + 1, stack := .int z :: rest }) target → Steps p.tables e below (T.setTop g) target := by
  obtain ⟨cl, A, q⟩ := A
  obtain ⟨h1, h2⟩ := rd_at q hr
  exact X.baloadBytes hx (j := j) (v := .int z) (by rw [eT]; exact A.1) (State.isArrayOf_alike hZ.alike A.2.1) A.2.2 h1 h2 hg hs hd
theorem ldJ (X : Stand p l e R s m args below meth c T locs cells slots) (hx : p.tables.exec = Jvm.exec) (hZ : Z.Warmed39 s.vm) (eT : T.heap = h) {xs : List Int64} (A : AJ Z h a .long xs) {j : Int32} {z : Int64} (hr : rdO xs j = some z) {g : JFrame} (hg : g.method = m) {rest : List Value} (hs : g.stack = .int j :: .ref a :: rest) (hd : decode c.code g.pc = .ok (.laload, 1)) :
    ∀ target, Steps p.tables e below (T.setTop { g with pc := g.pc + 1, stack := .long z :: rest }) target → Steps p.tables e below (T.setTop g) target := by
  obtain ⟨cl, A, q⟩ := A
  obtain ⟨h1, h2⟩ := rd_at q hr
  exact X.laload hx (j := j) (v := .long z) (by rw [eT]; exact A.1) (State.isArrayOf_alike hZ.alike A.2.1) A.2.2 h1 h2 hg hs hd
theorem soI (X : Stand p l e R s m args below meth c T locs cells slots) (hx : p.tables.exec = Jvm.exec) (hZ : Z.Warmed39 s.vm) (eT : T.heap = h) {xs xs' : List Int32} (A : AI Z h a .int xs) {j z : Int32} (hr : wrO xs j z = some xs') {g : JFrame} (hg : g.method = m) {rest : List Value} (hs : g.stack = .int z :: .int j :: .ref a :: rest) (hd : decode c.code g.pc = .ok (.iastore, 1)) :
    ∃ T' h', Stand p l e R s m args below meth c T' (locs ++ [⟨a, j.toNatClampNeg⟩]) cells slots ∧ T'.heap = h' ∧ Wr h h' a j.toNatClampNeg (.int z) ∧ AI Z h' a .int xs' ∧ ∀ target, Steps p.tables e below (T'.setTop { g with pc := g.pc + 1, stack := rest }) target → Steps p.tables e below (T.setTop g) target := by
  obtain ⟨cl, A, q⟩ := A
  obtain ⟨h1, h2⟩ := wr_at2 q hr
  obtain ⟨T', h', X', e', W, st⟩ := stI X hx hZ eT A h1 hg hs hd
  exact ⟨T', h', X', e', W, ⟨_, A.same W, h2⟩, st⟩
theorem soB (X : Stand p l e R s m args below meth c T locs cells slots) (hx : p.tables.exec = Jvm.exec) (hZ : Z.Warmed39 s.vm) (eT : T.heap = h) {xs xs' : List Int32} (A : AI Z h a .byte xs) {j z : Int32} (hr : wrO xs j (z.toInt8.toInt32) = some xs') {g : JFrame} (hg : g.method = m) {rest : List Value} (hs : g.stack = .int z :: .int j :: .ref a :: rest) (hd : decode c.code g.pc = .ok (.bastore, 1)) :
    ∃ T' h', Stand p l e R s m args below meth c T' (locs ++ [⟨a, j.toNatClampNeg⟩]) cells slots ∧ T'.heap = h' ∧ Wr h h' a j.toNatClampNeg (.int (z.toInt8.toInt32)) ∧ AI Z h' a .byte xs' ∧ ∀ target, Steps p.tables e below (T'.setTop { g with pc := g.pc + 1, stack := rest }) target → Steps p.tables e below (T.setTop g) target := by
  obtain ⟨cl, A, q⟩ := A
  obtain ⟨h1, h2⟩ := wr_at2 q hr
  obtain ⟨T', h', X', e', W, st⟩ := stB X hx hZ eT A h1 hg hs hd
  exact ⟨T', h', X', e', W, ⟨_, A.same W, h2⟩, st⟩
theorem soJ (X : Stand p l e R s m args below meth c T locs cells slots) (hx : p.tables.exec = Jvm.exec) (hZ : Z.Warmed39 s.vm) (eT : T.heap = h) {xs xs' : List Int64} (A : AJ Z h a .long xs) {j : Int32} {z : Int64} (hr : wrO xs j z = some xs') {g : JFrame} (hg : g.method = m) {rest : List Value} (hs : g.stack = .long z :: .int j :: .ref a :: rest) (hd : decode c.code g.pc = .ok (.lastore, 1)) :
    ∃ T' h', Stand p l e R s m args below meth c T' (locs ++ [⟨a, j.toNatClampNeg⟩]) cells slots ∧ T'.heap = h' ∧ Wr h h' a j.toNatClampNeg (.long z) ∧ AJ Z h' a .long xs' ∧ ∀ target, Steps p.tables e below (T'.setTop { g with pc := g.pc + 1, stack := rest }) target → Steps p.tables e below (T.setTop g) target := by
  obtain ⟨cl, A, q⟩ := A
  obtain ⟨h1, h2⟩ := wr_at2 q hr
  obtain ⟨T', h', X', e', W, st⟩ := stJ X hx hZ eT A h1 hg hs hd
  exact ⟨T', h', X', e', W, ⟨_, A.same W, h2⟩, st⟩
theorem lenAI (X : Stand p l e R s m args below meth c T locs cells slots) (hx : p.tables.exec = Jvm.exec) (hZ : Z.Warmed39 s.vm) (eT : T.heap = h) {xs : List Int32} (A : AI Z h a ty xs) {g : JFrame} (hg : g.method = m) {rest : List Value} (hs : g.stack = .ref a :: rest) (hd : decode c.code g.pc = .ok (.arraylength, 1)) :
    ∀ target, Steps p.tables e below (T.setTop { g with pc := g.pc + 1, stack := .int (lenO xs) :: rest }) target → Steps p.tables e below (T.setTop g) target := by
  obtain ⟨cl, A, q⟩ := A
  have e1 : cl.slots.size.toInt32 = lenO xs := by rw [q]; simp [lenO]
  intro t k
  refine X.arraylength hx (by rw [eT]; exact A.1) (State.isArrayOf_alike hZ.alike A.2.1) hg hs hd _ ?_
  rw [e1]; exact k
theorem lenAJ (X : Stand p l e R s m args below meth c T locs cells slots) (hx : p.tables.exec = Jvm.exec) (hZ : Z.Warmed39 s.vm) (eT : T.heap = h) {xs : List Int64} (A : AJ Z h a ty xs) {g : JFrame} (hg : g.method = m) {rest : List Value} (hs : g.stack = .ref a :: rest) (hd : decode c.code g.pc = .ok (.arraylength, 1)) :
    ∀ target, Steps p.tables e below (T.setTop { g with pc := g.pc + 1, stack := .int (lenO xs) :: rest }) target → Steps p.tables e below (T.setTop g) target := by
  obtain ⟨cl, A, q⟩ := A
  have e1 : cl.slots.size.toInt32 = lenO xs := by rw [q]; simp [lenO]
  intro t k
  refine X.arraylength hx (by rw [eT]; exact A.1) (State.isArrayOf_alike hZ.alike A.2.1) hg hs hd _ ?_
  rw [e1]; exact k
theorem newI (X : Stand p l e R s m args below meth c T locs cells slots) (hx : p.tables.exec = Jvm.exec) (hZ : Z.Warmed39 s.vm) {aty : ArrayType} (ht : newarray.typeOf aty = ty) (hdv : defaultValue ty = .int 0) (w : (Cond.arrayClass ty).before a0 Z = true) (eT : T.heap = h) {n : Int32} {cap : Nat} {xs : List Int32} (hr : mkO n cap = some xs) {g : JFrame} (hg : g.method = m) (hd : decode c.code g.pc = .ok (.newarray aty, 2)) {rest : List Value} (hs : g.stack = .int n :: rest) (hb : cap * 8 ≤ 536870912) (hc : cells + 1 ≤ R.cells) (hl : slots + cap ≤ R.slots) :
    ∃ T' h', Stand p l e R s m args below meth c T' locs (cells + 1) (slots + cap) ∧ T'.heap = h' ∧ Ext h h' ∧ AI Z h' h.size ty xs ∧ ∀ target, Steps p.tables e below (T'.setTop { g with pc := g.pc + 2, stack := .ref h.size :: rest }) target → Steps p.tables e below (T.setTop g) target := by
  subst ht
  unfold mkO at hr
  by_cases hn : n < 0 ∨ cap < n.toNatClampNeg
  · rw [if_pos hn] at hr; exact nomatch hr
  · rw [if_neg hn] at hr
    obtain rfl := Option.some.inj hr
    obtain ⟨T', h', cA, X', e', E, A, st⟩ := newP X hx hZ w eT hg hd hs (fun q => hn (Or.inl q)) (cap := cap) (Nat.le_of_not_lt fun q => hn (Or.inr q)) hb hc hl
    exact ⟨T', h', X', e', E, ⟨_, A, by simp [newA, hdv]⟩, st⟩
theorem newJ (X : Stand p l e R s m args below meth c T locs cells slots) (hx : p.tables.exec = Jvm.exec) (hZ : Z.Warmed39 s.vm) {aty : ArrayType} (ht : newarray.typeOf aty = .long) (w : (Cond.arrayClass .long).before a0 Z = true) (eT : T.heap = h) {n : Int32} {cap : Nat} {xs : List Int64} (hr : mkOJ n cap = some xs) {g : JFrame} (hg : g.method = m) (hd : decode c.code g.pc = .ok (.newarray aty, 2)) {rest : List Value} (hs : g.stack = .int n :: rest) (hb : cap * 8 ≤ 536870912) (hc : cells + 1 ≤ R.cells) (hl : slots + cap ≤ R.slots) :
    ∃ T' h', Stand p l e R s m args below meth c T' locs (cells + 1) (slots + cap) ∧ T'.heap = h' ∧ Ext h h' ∧ AJ Z h' h.size .long xs ∧ ∀ target, Steps p.tables e below (T'.setTop { g with pc := g.pc + 2, stack := .ref h.size :: rest }) target → Steps p.tables e below (T.setTop g) target := by
  unfold mkOJ at hr
  by_cases hn : n < 0 ∨ cap < n.toNatClampNeg
  · rw [if_pos hn] at hr; exact nomatch hr
  · rw [if_neg hn] at hr
    obtain rfl := Option.some.inj hr
    obtain ⟨T', h', cA, X', e', E, A, st⟩ := newP X hx hZ (by rw [ht]; exact w) eT hg hd hs (fun q => hn (Or.inl q)) (cap := cap) (Nat.le_of_not_lt fun q => hn (Or.inr q)) hb hc hl
    rw [ht] at A
    exact ⟨T', h', X', e', E, ⟨_, A, by simp [newA, defaultValue]⟩, st⟩
end Arrs
theorem d6_0 : decode method_2_code 0 = .ok (.iload_n 0, 1) := by decide +kernel
theorem d6_1 : decode method_2_code 1 = .ok (.iload_n 2, 1) := by decide +kernel
theorem d6_2 : decode method_2_code 2 = .ok (.ishr, 1) := by decide +kernel
theorem d6_3 : decode method_2_code 3 = .ok (.iconst 1, 1) := by decide +kernel
theorem d6_4 : decode method_2_code 4 = .ok (.iand, 1) := by decide +kernel
theorem d6_5 : decode method_2_code 5 = .ok (.ifCond .eq 6, 3) := by decide +kernel
theorem d6_8 : decode method_2_code 8 = .ok (.bipush 10, 2) := by decide +kernel
theorem d6_10 : decode method_2_code 10 = .ok (.ireturn, 1) := by decide +kernel
theorem d6_11 : decode method_2_code 11 = .ok (.iload_n 1, 1) := by decide +kernel
theorem d6_12 : decode method_2_code 12 = .ok (.bipush 8, 2) := by decide +kernel
theorem d6_14 : decode method_2_code 14 = .ok (.iload_n 2, 1) := by decide +kernel
theorem d6_15 : decode method_2_code 15 = .ok (.imul, 1) := by decide +kernel
theorem d6_16 : decode method_2_code 16 = .ok (.ishr, 1) := by decide +kernel
theorem d6_17 : decode method_2_code 17 = .ok (.i2b, 1) := by decide +kernel
theorem d6_18 : decode method_2_code 18 = .ok (.ireturn, 1) := by decide +kernel
def g6_0 (x0 : Int32) (x1 : Int32) (x2 : Int32) : Int32 := (if ((x0 >>> (x2 &&& 31)) &&& (1 : Int32)) = (0 : Int32) then (((x1 >>> (((8 : Int32) * x2) &&& 31)).toInt8.toInt32).toInt8.toInt32) else ((10 : Int32).toInt8.toInt32))
set_option maxRecDepth 65536 in
set_option maxHeartbeats 4000000 in
theorem b6_0 (C : Ctx p s m meth c Z a0 "com/example/braid/braid/BodyLinesNextPinLaw" method_2_code 3 (some .byte) "pick") (X0 : Stand p l e ({ frames := 0, cells := 0, slots := 0, locals := 0 } : Room) s m args below meth c T0 locs cells slots) (e0 : T0.heap = h0) (N0 : Fr n0 locs) (hk : cells ≤ 0) (hn : slots ≤ 0) (x0 : Int32) (x1 : Int32) (x2 : Int32) :
    Runs p e below s (QP (some (.int (g6_0 x0 x1 x2))) h0 n0) 0 0 T0 (mkF m 0 #[.val (.int x0), .val (.int x1), .val (.int x2)] []) := by
  have ⟨hx, hZ, hw, hby, hml, hown, hret, hlk, hnm⟩ := C
  refine Runs.via (T' := T0) (g' := (mkF m 5 #[.val (.int x0), .val (.int x1), .val (.int x2)] [(.int ((x0 >>> (x2 &&& 31)) &&& (1 : Int32)))])) (fun t k => ?_) ?_
  · show Steps p.tables e below (T0.setTop (mkF m 0 #[.val (.int x0), .val (.int x1), .val (.int x2)] [])) t
    refine XS.iloadN X0.here hx rfl (hb hby d6_0) rfl ?_
    show Steps p.tables e below (T0.setTop (mkF m 1 #[.val (.int x0), .val (.int x1), .val (.int x2)] [(.int x0)])) t
    refine XS.iloadN X0.here hx rfl (hb hby d6_1) rfl ?_
    show Steps p.tables e below (T0.setTop (mkF m 2 #[.val (.int x0), .val (.int x1), .val (.int x2)] [(.int x2), (.int x0)])) t
    refine XS.ishr X0.here hx rfl (hb hby d6_2) rfl ?_
    show Steps p.tables e below (T0.setTop (mkF m 3 #[.val (.int x0), .val (.int x1), .val (.int x2)] [(.int (x0 >>> (x2 &&& 31)))])) t
    refine XS.iconst X0.here hx rfl (hb hby d6_3) ?_
    show Steps p.tables e below (T0.setTop (mkF m 4 #[.val (.int x0), .val (.int x1), .val (.int x2)] [(.int (1 : Int32)), (.int (x0 >>> (x2 &&& 31)))])) t
    refine XS.iand X0.here hx rfl (hb hby d6_4) rfl ?_
    exact k
  by_cases hc1 : ((x0 >>> (x2 &&& 31)) &&& (1 : Int32)) = (0 : Int32)
  · refine Runs.via (T' := T0) (g' := (mkF m 11 #[.val (.int x0), .val (.int x1), .val (.int x2)] [])) (fun t k => ?_) ?_
    · show Steps p.tables e below (T0.setTop (mkF m 5 #[.val (.int x0), .val (.int x1), .val (.int x2)] [(.int ((x0 >>> (x2 &&& 31)) &&& (1 : Int32)))])) t
      exact XS.ifYes X0.here hx rfl (pc0 := 5) (pc' := 11) rfl (hb hby d6_5) rfl ((if0 _ _).trans (teq hc1).1) (by decide) (by decide) k
    refine Runs.via (T' := T0) (g' := (mkF m 18 #[.val (.int x0), .val (.int x1), .val (.int x2)] [(.int ((x1 >>> (((8 : Int32) * x2) &&& 31)).toInt8.toInt32))])) (fun t k => ?_) ?_
    · show Steps p.tables e below (T0.setTop (mkF m 11 #[.val (.int x0), .val (.int x1), .val (.int x2)] [])) t
      refine XS.iloadN X0.here hx rfl (hb hby d6_11) rfl ?_
      show Steps p.tables e below (T0.setTop (mkF m 12 #[.val (.int x0), .val (.int x1), .val (.int x2)] [(.int x1)])) t
      refine XS.bipush X0.here hx rfl (hb hby d6_12) ?_
      show Steps p.tables e below (T0.setTop (mkF m 14 #[.val (.int x0), .val (.int x1), .val (.int x2)] [(.int (8 : Int32)), (.int x1)])) t
      refine XS.iloadN X0.here hx rfl (hb hby d6_14) rfl ?_
      show Steps p.tables e below (T0.setTop (mkF m 15 #[.val (.int x0), .val (.int x1), .val (.int x2)] [(.int x2), (.int (8 : Int32)), (.int x1)])) t
      refine XS.imul X0.here hx rfl (hb hby d6_15) rfl ?_
      show Steps p.tables e below (T0.setTop (mkF m 16 #[.val (.int x0), .val (.int x1), .val (.int x2)] [(.int ((8 : Int32) * x2)), (.int x1)])) t
      refine XS.ishr X0.here hx rfl (hb hby d6_16) rfl ?_
      show Steps p.tables e below (T0.setTop (mkF m 17 #[.val (.int x0), .val (.int x1), .val (.int x2)] [(.int (x1 >>> (((8 : Int32) * x2) &&& 31)))])) t
      refine XS.i2b X0.here hx rfl (hb hby d6_17) rfl ?_
      exact k
    refine QP.cast (congrArg (fun z => some (Value.int z)) (show (g6_0 x0 x1 x2) = (((x1 >>> (((8 : Int32) * x2) &&& 31)).toInt8.toInt32).toInt8.toInt32) from (if_pos hc1))) ?_
    exact own_retN X0 hx hlk (t := .byte) hret (by simp) (hb hby d6_18) hk hn ⟨rfl, N0, e0⟩
  · refine Runs.via (T' := T0) (g' := (mkF m 8 #[.val (.int x0), .val (.int x1), .val (.int x2)] [])) (fun t k => ?_) ?_
    · show Steps p.tables e below (T0.setTop (mkF m 5 #[.val (.int x0), .val (.int x1), .val (.int x2)] [(.int ((x0 >>> (x2 &&& 31)) &&& (1 : Int32)))])) t
      exact XS.ifNo X0.here hx rfl (hb hby d6_5) rfl ((if0 _ _).trans (feq hc1).1) k
    refine Runs.via (T' := T0) (g' := (mkF m 10 #[.val (.int x0), .val (.int x1), .val (.int x2)] [(.int (10 : Int32))])) (fun t k => ?_) ?_
    · show Steps p.tables e below (T0.setTop (mkF m 8 #[.val (.int x0), .val (.int x1), .val (.int x2)] [])) t
      refine XS.bipush X0.here hx rfl (hb hby d6_8) ?_
      exact k
    refine QP.cast (congrArg (fun z => some (Value.int z)) (show (g6_0 x0 x1 x2) = ((10 : Int32).toInt8.toInt32) from (if_neg hc1))) ?_
    exact own_retN X0 hx hlk (t := .byte) hret (by simp) (hb hby d6_10) hk hn ⟨rfl, N0, e0⟩
def f6 (x0 : Int32) (x1 : Int32) (x2 : Int32) : Int32 := g6_0 x0 x1 x2
theorem pn_6 : plainName "com/example/braid/braid/BodyLinesNextPinLaw" = true := by first | (simp [plainName, overriddenIn]; done) | decide +kernel
theorem ef_6 (m : MethodId) (x0 : Int32) (x1 : Int32) (x2 : Int32) : entryFrame m #[(.int x0), (.int x1), (.int x2)] 3 = mkF m 0 #[.val (.int x0), .val (.int x1), .val (.int x2)] [] := by first | (simp [entryFrame, mkF, argsToLocals, Value.category]; done) | rfl
set_option maxRecDepth 65536 in
set_option maxHeartbeats 4000000 in
theorem rm6 (l : Launch) (Z : State) (a0 : Array Value) (hw : ∀ d ∈ tables_1, d.before a0 Z = true) (ws : List Jvm.Cond) (x0 : Int32) (x1 : Int32) (x2 : Int32) (h0 : Heap) (n0 : Nat) :
    MetFree l (⟨"com/example/braid/braid/BodyLinesNextPinLaw", "pick", "(III)B"⟩ : MethodName) (head1 (Jvm.Cond.code (⟨"com/example/braid/braid/BodyLinesNextPinLaw", "pick", "(III)B"⟩ : MethodName) method_2_code 3 (some .byte) :: ws) ({ frames := 0, cells := 0, slots := 0, locals := 0 } : Room)) (fun a U => a = #[(.int x0), (.int x1), (.int x2)] ∧ Z.Warmed39 U.vm ∧ U.heap = h0) (fun _ _ _ _ _ => True) (fun _ U o U' => ∃ v L, o = .returned v ∧ QP (some (.int (f6 x0 x1 x2))) h0 n0 v U'.heap L ∧ FrameEnd U o U' L ({ frames := 0, cells := 0, slots := 0, locals := 0 } : Room).cells ({ frames := 0, cells := 0, slots := 0, locals := 0 } : Room).slots) := by
  refine MetFree.of_bodySF (plainFor_of_name pn_6) hisR ?_
  intro p e s m args below meth c s₁ Bd hml0 hP hK
  obtain ⟨rfl, hZ, hh⟩ := hP
  have X0 : Stand p l e ({ frames := 0, cells := 0, slots := 0, locals := 0 } : Room) s m #[(.int x0), (.int x1), (.int x2)] below meth c s₁ [] 0 0 := Stand.of_body Bd
  have e0 : s₁.heap = h0 := by rw [← hh, Bd.state]; rfl
  have C : Ctx p s m meth c Z a0 "com/example/braid/braid/BodyLinesNextPinLaw" method_2_code 3 (some .byte) "pick" := ⟨Bd.exec, hZ, hw, Bd.bytes, hml0, findClass_of_methodNamed Bd.named, Bd.returns, BodyLoose.notSynchronized Bd, (name_of_methodNamed Bd.named Bd.method).1⟩
  refine Runs.via (fun t k => castTop (ef_6 m x0 x1 x2) k) (b6_0 C X0 e0 (Fr.nil n0) (Nat.le_refl 0) (Nat.le_refl 0) x0 x1 x2)
theorem pd_0 : parseMethodDescriptor "(III)B" = some ⟨[.int, .int, .int], some .byte⟩ := by decide +kernel
theorem d1_0 : decode prog_2_method_1_code 0 = .ok (.aload_n 0, 1) := by decide +kernel
theorem d1_1 : decode prog_2_method_1_code 1 = .ok (.invokespecial 1, 3) := by decide +kernel
theorem d1_4 : decode prog_2_method_1_code 4 = .ok (.aload_n 0, 1) := by decide +kernel
theorem d1_5 : decode prog_2_method_1_code 5 = .ok (.iconst (-1), 1) := by decide +kernel
theorem d1_6 : decode prog_2_method_1_code 6 = .ok (.putfield 7, 3) := by decide +kernel
theorem d1_9 : decode prog_2_method_1_code 9 = .ok (.aload_n 0, 1) := by decide +kernel
theorem d1_10 : decode prog_2_method_1_code 10 = .ok (.aload_n 1, 1) := by decide +kernel
theorem d1_11 : decode prog_2_method_1_code 11 = .ok (.putfield 13, 3) := by decide +kernel
theorem d1_14 : decode prog_2_method_1_code 14 = .ok (.return_, 1) := by decide +kernel
def P1 (Z : State) (hE : Heap) (a1 : Addr) (a2 : Addr) (q_a1 : List Int32) (q_a2_end : Int32) (q_a2_start : Int32) (q_a2_number : Int32) (n0 : Nat) (r : Int32) (v : Option Value) (h : Heap) (L : List Loc) : Prop := v = none ∧ Fr n0 L ∧ Keep hE h [a2] ∧ Exa Z h a2 "com/example/braid/braid/BodyLines" ∧ Fld Z h a2 "com/example/braid/braid/BodyLines" "end" "I" (.int r) ∧ Fld Z h a2 "com/example/braid/braid/BodyLines" "body" "[B" (.ref a1) ∧ Fld Z h a2 "com/example/braid/braid/BodyLines" "start" "I" (.int q_a2_start) ∧ Fld Z h a2 "com/example/braid/braid/BodyLines" "number" "I" (.int q_a2_number)
def g1_0 (q_a1 : List Int32) (q_a2_end : Int32) (q_a2_start : Int32) (q_a2_number : Int32) : Option (Int32) := some (-1 : Int32)
set_option maxRecDepth 65536 in
set_option maxHeartbeats 4000000 in
theorem b1_0 {hE : Heap} {a1 : Addr} {a2 : Addr} {q_a1 : List Int32} {q_a2_start : Int32} {q_a2_number : Int32} {q_a2_end₀ : Int32} {r : Int32} (C : Ctx p s m meth c Z a0 "com/example/braid/braid/BodyLines" prog_2_method_1_code 2 none "<init>") (X0 : Stand p l e ({ frames := 1, cells := 0, slots := 0, locals := 12 } : Room) s m args below meth c T0 locs cells slots) (e0 : T0.heap = h0) (N0 : Fr n0 locs) (hk : cells ≤ 0) (hn : slots ≤ 0) (Z1 : n0 ≤ h0.size) (KE : Keep hE h0 [a2]) (o0 : n0 ≤ a1) (o1 : @LT.lt Nat instLTNat a1 a2) (q_a2_end : Int32) (A_a1_0 : AI Z h0 a1 .byte q_a1) (E_a2_0 : Exa Z h0 a2 "com/example/braid/braid/BodyLines") (F_a2_end_0 : Fld Z h0 a2 "com/example/braid/braid/BodyLines" "end" "I" (.int q_a2_end)) (F_a2_body_0 : Fld Z h0 a2 "com/example/braid/braid/BodyLines" "body" "[B" .null) (F_a2_start_0 : Fld Z h0 a2 "com/example/braid/braid/BodyLines" "start" "I" (.int q_a2_start)) (F_a2_number_0 : Fld Z h0 a2 "com/example/braid/braid/BodyLines" "number" "I" (.int q_a2_number)) (hr : g1_0 q_a1 q_a2_end q_a2_start q_a2_number = some r) :
    Runs p e below s (P1 Z hE a1 a2 q_a1 q_a2_end₀ q_a2_start q_a2_number n0 r) 0 0 T0 (mkF m 0 #[.val (.ref a2), .val (.ref a1)] []) := by
  unfold g1_0 at hr
  have ⟨hx, hZ, hw, hby, hml, hown, hret, hlk, hnm⟩ := C
  refine Runs.via (T' := T0) (g' := (mkF m 1 #[.val (.ref a2), .val (.ref a1)] [(.ref a2)])) (fun t k => ?_) ?_
  · show Steps p.tables e below (T0.setTop (mkF m 0 #[.val (.ref a2), .val (.ref a1)] [])) t
    refine XS.aloadN X0.here hx rfl (hb hby d1_0) rfl rfl ?_
    exact k
  obtain ⟨T1, X1, e1, st1⟩ := initO X0 hx hZ hown (hw _ (List.mem_of_getElem? (i := 7) rfl)) (hw _ (List.mem_of_getElem? (i := 8) rfl)) (hw _ (List.mem_of_getElem? (i := 9) rfl)) e0 (g := (mkF m 1 #[.val (.ref a2), .val (.ref a1)] [(.ref a2)])) rfl (by rw [hml]; rfl) rfl (hb hby d1_1) (by decide) (W := 0) (by show 2 * 0 + _ ≤ _; exact Nat.le_of_eq rfl) (by decide)
  refine Runs.via (T' := T1) (g' := (mkF m 4 #[.val (.ref a2), .val (.ref a1)] [])) (fun t k => st1 _ k) ?_
  refine Runs.via (T' := T1) (g' := (mkF m 6 #[.val (.ref a2), .val (.ref a1)] [(.int (-1 : Int32)), (.ref a2)])) (fun t k => ?_) ?_
  · show Steps p.tables e below (T1.setTop (mkF m 4 #[.val (.ref a2), .val (.ref a1)] [])) t
    refine XS.aloadN X1.here hx rfl (hb hby d1_4) rfl rfl ?_
    show Steps p.tables e below (T1.setTop (mkF m 5 #[.val (.ref a2), .val (.ref a1)] [(.ref a2)])) t
    refine XS.iconst X1.here hx rfl (hb hby d1_5) ?_
    exact k
  obtain ⟨T2, h2, X2, e2, W2, st2⟩ := putF X1 hx hZ hown (host := "") (Or.inl (hw _ (List.mem_of_getElem? (i := 10) rfl))) Via.refl e1 F_a2_end_0 E_a2_0 (Or.inl (hw _ (List.mem_of_getElem? (i := 11) rfl))) (hw _ (List.mem_of_getElem? (i := 2) rfl)) (ty := .int) (by decide) rfl rfl (g := (mkF m 6 #[.val (.ref a2), .val (.ref a1)] [(.int (-1 : Int32)), (.ref a2)])) rfl rfl (hb hby d1_6)
  have A_a1_2 : AI Z h2 a1 .byte q_a1 := A_a1_0.other W2 (by omega : @Ne Nat a1 a2)
  have E_a2_2 : Exa Z h2 a2 "com/example/braid/braid/BodyLines" := E_a2_0.wr W2
  have F_a2_end_2 : Fld Z h2 a2 "com/example/braid/braid/BodyLines" "end" "I" (.int (-1 : Int32)) := F_a2_end_0.same W2
  have F_a2_body_2 : Fld Z h2 a2 "com/example/braid/braid/BodyLines" "body" "[B" .null := F_a2_body_0.other W2 (Or.inr (slot_ne (Or.inr (hw _ (List.mem_of_getElem? (i := 13) rfl))) (Or.inl (hw _ (List.mem_of_getElem? (i := 11) rfl))) (by decide) (t := (.array .byte)) (t' := .int) (by decide) (by decide)))
  have F_a2_start_2 : Fld Z h2 a2 "com/example/braid/braid/BodyLines" "start" "I" (.int q_a2_start) := F_a2_start_0.other W2 (Or.inr (slot_ne (Or.inl (hw _ (List.mem_of_getElem? (i := 24) rfl))) (Or.inl (hw _ (List.mem_of_getElem? (i := 11) rfl))) (by decide) (t := .int) (t' := .int) (by decide) (by decide)))
  have F_a2_number_2 : Fld Z h2 a2 "com/example/braid/braid/BodyLines" "number" "I" (.int q_a2_number) := F_a2_number_0.other W2 (Or.inr (slot_ne (Or.inl (hw _ (List.mem_of_getElem? (i := 31) rfl))) (Or.inl (hw _ (List.mem_of_getElem? (i := 11) rfl))) (by decide) (t := .int) (t' := .int) (by decide) (by decide)))
  have N2 := Fr.snoc X2 N0 (by omega : n0 ≤ a2)
  have zz2 : n0 ≤ h2.size := Nat.le_trans Z1 (Keep.of_wr W2).1
  have K2 := KE.wr W2 (Or.inl (List.mem_of_getElem? (i := 0) rfl))
  refine Runs.via (T' := T2) (g' := (mkF m 9 #[.val (.ref a2), .val (.ref a1)] [])) (fun t k => st2 _ k) ?_
  refine Runs.via (T' := T2) (g' := (mkF m 11 #[.val (.ref a2), .val (.ref a1)] [(.ref a1), (.ref a2)])) (fun t k => ?_) ?_
  · show Steps p.tables e below (T2.setTop (mkF m 9 #[.val (.ref a2), .val (.ref a1)] [])) t
    refine XS.aloadN X2.here hx rfl (hb hby d1_9) rfl rfl ?_
    show Steps p.tables e below (T2.setTop (mkF m 10 #[.val (.ref a2), .val (.ref a1)] [(.ref a2)])) t
    refine XS.aloadN X2.here hx rfl (hb hby d1_10) rfl rfl ?_
    exact k
  obtain ⟨T3, h3, X3, e3, W3, st3⟩ := putF X2 hx hZ hown (host := "") (Or.inl (hw _ (List.mem_of_getElem? (i := 12) rfl))) Via.refl e2 F_a2_body_2 E_a2_2 (Or.inr ⟨(hw _ (List.mem_of_getElem? (i := 13) rfl)), rfl, hnm⟩) (hw _ (List.mem_of_getElem? (i := 2) rfl)) (ty := (.array .byte)) (by decide) rfl rfl (g := (mkF m 11 #[.val (.ref a2), .val (.ref a1)] [(.ref a1), (.ref a2)])) rfl rfl (hb hby d1_11)
  have A_a1_3 : AI Z h3 a1 .byte q_a1 := A_a1_2.other W3 (by omega : @Ne Nat a1 a2)
  have E_a2_3 : Exa Z h3 a2 "com/example/braid/braid/BodyLines" := E_a2_2.wr W3
  have F_a2_end_3 : Fld Z h3 a2 "com/example/braid/braid/BodyLines" "end" "I" (.int (-1 : Int32)) := F_a2_end_2.other W3 (Or.inr (slot_ne (Or.inl (hw _ (List.mem_of_getElem? (i := 11) rfl))) (Or.inr (hw _ (List.mem_of_getElem? (i := 13) rfl))) (by decide) (t := .int) (t' := (.array .byte)) (by decide) (by decide)))
  have F_a2_body_3 : Fld Z h3 a2 "com/example/braid/braid/BodyLines" "body" "[B" (.ref a1) := F_a2_body_2.same W3
  have F_a2_start_3 : Fld Z h3 a2 "com/example/braid/braid/BodyLines" "start" "I" (.int q_a2_start) := F_a2_start_2.other W3 (Or.inr (slot_ne (Or.inl (hw _ (List.mem_of_getElem? (i := 24) rfl))) (Or.inr (hw _ (List.mem_of_getElem? (i := 13) rfl))) (by decide) (t := .int) (t' := (.array .byte)) (by decide) (by decide)))
  have F_a2_number_3 : Fld Z h3 a2 "com/example/braid/braid/BodyLines" "number" "I" (.int q_a2_number) := F_a2_number_2.other W3 (Or.inr (slot_ne (Or.inl (hw _ (List.mem_of_getElem? (i := 31) rfl))) (Or.inr (hw _ (List.mem_of_getElem? (i := 13) rfl))) (by decide) (t := .int) (t' := (.array .byte)) (by decide) (by decide)))
  have N3 := Fr.snoc X3 N2 (by omega : n0 ≤ a2)
  have zz3 : n0 ≤ h3.size := Nat.le_trans zz2 (Keep.of_wr W3).1
  have K3 := K2.wr W3 (Or.inl (List.mem_of_getElem? (i := 0) rfl))
  refine Runs.via (T' := T3) (g' := (mkF m 14 #[.val (.ref a2), .val (.ref a1)] [])) (fun t k => st3 _ k) ?_
  obtain rfl := Option.some.inj hr
  exact own_retV X3 hx hlk hret (hb hby d1_14) (by show cells ≤ 0; omega) (by show slots ≤ 0; omega) ⟨rfl, N3, (by rw [e3]; exact K3), (by rw [e3]; exact E_a2_3), (by rw [e3]; exact F_a2_end_3), (by rw [e3]; exact F_a2_body_3), (by rw [e3]; exact F_a2_start_3), (by rw [e3]; exact F_a2_number_3)⟩
def f1 (q_a1 : List Int32) (q_a2_end : Int32) (q_a2_start : Int32) (q_a2_number : Int32) : Option (Int32) := g1_0 q_a1 q_a2_end q_a2_start q_a2_number
theorem pn_1 : plainName "com/example/braid/braid/BodyLines" = true := by first | (simp [plainName, overriddenIn]; done) | decide +kernel
theorem ef_1 (m : MethodId) (a1 : Addr) (a2 : Addr) : entryFrame m #[(.ref a2), (.ref a1)] 2 = mkF m 0 #[.val (.ref a2), .val (.ref a1)] [] := by first | (simp [entryFrame, mkF, argsToLocals, Value.category]; done) | rfl
set_option maxRecDepth 65536 in
set_option maxHeartbeats 4000000 in
theorem rm1 (l : Launch) (Z : State) (a0 : Array Value) (hw : ∀ d ∈ tables_1, d.before a0 Z = true) (ws : List Jvm.Cond) (a1 : Addr) (a2 : Addr) (q_a1 : List Int32) (q_a2_end : Int32) (q_a2_start : Int32) (q_a2_number : Int32) (hE : Heap) (n0 : Nat) (Z0 : n0 ≤ hE.size) (o0 : n0 ≤ a1) (o1 : @LT.lt Nat instLTNat a1 a2) (A_a1_0 : AI Z hE a1 .byte q_a1) (E_a2_0 : Exa Z hE a2 "com/example/braid/braid/BodyLines") (F_a2_end_0 : Fld Z hE a2 "com/example/braid/braid/BodyLines" "end" "I" (.int q_a2_end)) (F_a2_body_0 : Fld Z hE a2 "com/example/braid/braid/BodyLines" "body" "[B" .null) (F_a2_start_0 : Fld Z hE a2 "com/example/braid/braid/BodyLines" "start" "I" (.int q_a2_start)) (F_a2_number_0 : Fld Z hE a2 "com/example/braid/braid/BodyLines" "number" "I" (.int q_a2_number)) (r : Int32) (hr : f1 q_a1 q_a2_end q_a2_start q_a2_number = some r) :
    MetFree l (⟨"com/example/braid/braid/BodyLines", "<init>", "([B)V"⟩ : MethodName) (head1 (Jvm.Cond.code (⟨"com/example/braid/braid/BodyLines", "<init>", "([B)V"⟩ : MethodName) prog_2_method_1_code 2 none :: ws) ({ frames := 1, cells := 0, slots := 0, locals := 12 } : Room)) (fun a U => a = #[(.ref a2), (.ref a1)] ∧ Z.Warmed39 U.vm ∧ U.heap = hE) (fun _ _ _ _ _ => True) (fun _ U o U' => ∃ v L, o = .returned v ∧ (P1 Z hE a1 a2 q_a1 q_a2_end q_a2_start q_a2_number n0 r v U'.heap L) ∧ FrameEnd U o U' L ({ frames := 1, cells := 0, slots := 0, locals := 12 } : Room).cells ({ frames := 1, cells := 0, slots := 0, locals := 12 } : Room).slots) := by
  refine MetFree.of_bodySF (plainFor_of_name pn_1) hisR ?_
  intro p e s m args below meth c s₁ Bd hml0 hP hK
  obtain ⟨rfl, hZ, hh⟩ := hP
  have X0 : Stand p l e ({ frames := 1, cells := 0, slots := 0, locals := 12 } : Room) s m #[(.ref a2), (.ref a1)] below meth c s₁ [] 0 0 := Stand.of_body Bd
  have e0 : s₁.heap = hE := by rw [← hh, Bd.state]; rfl
  have C : Ctx p s m meth c Z a0 "com/example/braid/braid/BodyLines" prog_2_method_1_code 2 none "<init>" := ⟨Bd.exec, hZ, hw, Bd.bytes, hml0, findClass_of_methodNamed Bd.named, Bd.returns, BodyLoose.notSynchronized Bd, (name_of_methodNamed Bd.named Bd.method).1⟩
  refine Runs.via (fun t k => castTop (ef_1 m a1 a2) k) (b1_0 C X0 e0 (Fr.nil n0) (by show 0 ≤ 0; omega) (by show 0 ≤ 0; omega) Z0 (Keep.refl hE [a2]) (by omega) (by omega) q_a2_end A_a1_0 E_a2_0 F_a2_end_0 F_a2_body_0 F_a2_start_0 F_a2_number_0 hr)
theorem pd_1 : parseMethodDescriptor "([B)V" = some ⟨[(.array .byte)], none⟩ := by decide +kernel
theorem d4_0 : decode prog_2_method_2_code 0 = .ok (.aload_n 0, 1) := by decide +kernel
theorem d4_1 : decode prog_2_method_2_code 1 = .ok (.aload_n 0, 1) := by decide +kernel
theorem d4_2 : decode prog_2_method_2_code 2 = .ok (.getfield 7, 3) := by decide +kernel
theorem d4_5 : decode prog_2_method_2_code 5 = .ok (.iconst 1, 1) := by decide +kernel
theorem d4_6 : decode prog_2_method_2_code 6 = .ok (.iadd, 1) := by decide +kernel
theorem d4_7 : decode prog_2_method_2_code 7 = .ok (.putfield 17, 3) := by decide +kernel
theorem d4_10 : decode prog_2_method_2_code 10 = .ok (.aload_n 0, 1) := by decide +kernel
theorem d4_11 : decode prog_2_method_2_code 11 = .ok (.getfield 17, 3) := by decide +kernel
theorem d4_14 : decode prog_2_method_2_code 14 = .ok (.aload_n 0, 1) := by decide +kernel
theorem d4_15 : decode prog_2_method_2_code 15 = .ok (.getfield 13, 3) := by decide +kernel
theorem d4_18 : decode prog_2_method_2_code 18 = .ok (.arraylength, 1) := by decide +kernel
theorem d4_19 : decode prog_2_method_2_code 19 = .ok (.if_icmp .lt 5, 3) := by decide +kernel
theorem d4_22 : decode prog_2_method_2_code 22 = .ok (.iconst 0, 1) := by decide +kernel
theorem d4_23 : decode prog_2_method_2_code 23 = .ok (.ireturn, 1) := by decide +kernel
theorem d4_24 : decode prog_2_method_2_code 24 = .ok (.aload_n 0, 1) := by decide +kernel
theorem d4_25 : decode prog_2_method_2_code 25 = .ok (.aload_n 0, 1) := by decide +kernel
theorem d4_26 : decode prog_2_method_2_code 26 = .ok (.getfield 17, 3) := by decide +kernel
theorem d4_29 : decode prog_2_method_2_code 29 = .ok (.putfield 7, 3) := by decide +kernel
theorem d4_32 : decode prog_2_method_2_code 32 = .ok (.aload_n 0, 1) := by decide +kernel
theorem d4_33 : decode prog_2_method_2_code 33 = .ok (.getfield 7, 3) := by decide +kernel
theorem d4_36 : decode prog_2_method_2_code 36 = .ok (.aload_n 0, 1) := by decide +kernel
theorem d4_37 : decode prog_2_method_2_code 37 = .ok (.getfield 13, 3) := by decide +kernel
theorem d4_40 : decode prog_2_method_2_code 40 = .ok (.arraylength, 1) := by decide +kernel
theorem d4_41 : decode prog_2_method_2_code 41 = .ok (.if_icmp .ge 30, 3) := by decide +kernel
theorem d4_44 : decode prog_2_method_2_code 44 = .ok (.aload_n 0, 1) := by decide +kernel
theorem d4_45 : decode prog_2_method_2_code 45 = .ok (.getfield 13, 3) := by decide +kernel
theorem d4_48 : decode prog_2_method_2_code 48 = .ok (.aload_n 0, 1) := by decide +kernel
theorem d4_49 : decode prog_2_method_2_code 49 = .ok (.getfield 7, 3) := by decide +kernel
theorem d4_52 : decode prog_2_method_2_code 52 = .ok (.baload, 1) := by decide +kernel
theorem d4_53 : decode prog_2_method_2_code 53 = .ok (.bipush 10, 2) := by decide +kernel
theorem d4_55 : decode prog_2_method_2_code 55 = .ok (.if_icmp .eq 16, 3) := by decide +kernel
theorem d4_58 : decode prog_2_method_2_code 58 = .ok (.aload_n 0, 1) := by decide +kernel
theorem d4_59 : decode prog_2_method_2_code 59 = .ok (.dup, 1) := by decide +kernel
theorem d4_60 : decode prog_2_method_2_code 60 = .ok (.getfield 7, 3) := by decide +kernel
theorem d4_63 : decode prog_2_method_2_code 63 = .ok (.iconst 1, 1) := by decide +kernel
theorem d4_64 : decode prog_2_method_2_code 64 = .ok (.iadd, 1) := by decide +kernel
theorem d4_65 : decode prog_2_method_2_code 65 = .ok (.putfield 7, 3) := by decide +kernel
theorem d4_68 : decode prog_2_method_2_code 68 = .ok (.goto (-36), 3) := by decide +kernel
theorem d4_71 : decode prog_2_method_2_code 71 = .ok (.aload_n 0, 1) := by decide +kernel
theorem d4_72 : decode prog_2_method_2_code 72 = .ok (.dup, 1) := by decide +kernel
theorem d4_73 : decode prog_2_method_2_code 73 = .ok (.getfield 20, 3) := by decide +kernel
theorem d4_76 : decode prog_2_method_2_code 76 = .ok (.iconst 1, 1) := by decide +kernel
theorem d4_77 : decode prog_2_method_2_code 77 = .ok (.iadd, 1) := by decide +kernel
theorem d4_78 : decode prog_2_method_2_code 78 = .ok (.putfield 20, 3) := by decide +kernel
theorem d4_81 : decode prog_2_method_2_code 81 = .ok (.iconst 1, 1) := by decide +kernel
theorem d4_82 : decode prog_2_method_2_code 82 = .ok (.ireturn, 1) := by decide +kernel
def P4 (Z : State) (hE : Heap) (a1 : Addr) (a2 : Addr) (q_a1 : List Int32) (q_a2_end : Int32) (q_a2_start : Int32) (q_a2_number : Int32) (n0 : Nat) (r : Int32 × Int32 × Int32 × Int32) (v : Option Value) (h : Heap) (L : List Loc) : Prop := v = some (.int r.1) ∧ Fr n0 L ∧ Keep hE h [a2] ∧ Exa Z h a2 "com/example/braid/braid/BodyLines" ∧ Fld Z h a2 "com/example/braid/braid/BodyLines" "end" "I" (.int r.2.1) ∧ Fld Z h a2 "com/example/braid/braid/BodyLines" "body" "[B" (.ref a1) ∧ Fld Z h a2 "com/example/braid/braid/BodyLines" "start" "I" (.int r.2.2.1) ∧ Fld Z h a2 "com/example/braid/braid/BodyLines" "number" "I" (.int r.2.2.2)
def g4_71 (fuel : Nat) (q_a1 : List Int32) (q_a2_end : Int32) (q_a2_start : Int32) (q_a2_number : Int32) : Option (Int32 × Int32 × Int32 × Int32) := (letO (q_a2_number + (1 : Int32)) fun v2 => some ((1 : Int32), q_a2_end, q_a2_start, v2))
set_option maxRecDepth 65536 in
set_option maxHeartbeats 4000000 in
theorem b4_71 {hE : Heap} {a1 : Addr} {a2 : Addr} {q_a1 : List Int32} {q_a2_end₀ : Int32} {q_a2_start₀ : Int32} {q_a2_number₀ : Int32} {r : Int32 × Int32 × Int32 × Int32} (C : Ctx p s m meth c Z a0 "com/example/braid/braid/BodyLines" prog_2_method_2_code 1 (some .boolean) "next") (fuel : Nat) (X0 : Stand p l e ({ frames := 0, cells := 0, slots := 0, locals := 0 } : Room) s m args below meth c T0 locs cells slots) (e0 : T0.heap = h0) (N0 : Fr n0 locs) (hk : cells ≤ 0) (hn : slots ≤ 0) (Z1 : n0 ≤ h0.size) (KE : Keep hE h0 [a2]) (o0 : n0 ≤ a1) (o1 : @LT.lt Nat instLTNat a1 a2) (q_a2_end : Int32) (q_a2_start : Int32) (q_a2_number : Int32) (A_a1_0 : AI Z h0 a1 .byte q_a1) (E_a2_0 : Exa Z h0 a2 "com/example/braid/braid/BodyLines") (F_a2_end_0 : Fld Z h0 a2 "com/example/braid/braid/BodyLines" "end" "I" (.int q_a2_end)) (F_a2_body_0 : Fld Z h0 a2 "com/example/braid/braid/BodyLines" "body" "[B" (.ref a1)) (F_a2_start_0 : Fld Z h0 a2 "com/example/braid/braid/BodyLines" "start" "I" (.int q_a2_start)) (F_a2_number_0 : Fld Z h0 a2 "com/example/braid/braid/BodyLines" "number" "I" (.int q_a2_number)) (hr : g4_71 fuel q_a1 q_a2_end q_a2_start q_a2_number = some r) :
    Runs p e below s (P4 Z hE a1 a2 q_a1 q_a2_end₀ q_a2_start₀ q_a2_number₀ n0 r) 0 0 T0 (mkF m 71 #[.val (.ref a2)] []) := by
  unfold g4_71 at hr
  have ⟨hx, hZ, hw, hby, hml, hown, hret, hlk, hnm⟩ := C
  refine Runs.via (T' := T0) (g' := (mkF m 73 #[.val (.ref a2)] [(.ref a2), (.ref a2)])) (fun t k => ?_) ?_
  · show Steps p.tables e below (T0.setTop (mkF m 71 #[.val (.ref a2)] [])) t
    refine XS.aloadN X0.here hx rfl (hb hby d4_71) rfl rfl ?_
    show Steps p.tables e below (T0.setTop (mkF m 72 #[.val (.ref a2)] [(.ref a2)])) t
    refine XS.dup X0.here hx rfl (hb hby d4_72) rfl rfl ?_
    exact k
  obtain ⟨T1, X1, e1, st1⟩ := getF X0 hx hZ hown (host := "") (Or.inl (hw _ (List.mem_of_getElem? (i := 30) rfl))) Via.refl e0 F_a2_number_0 (g := (mkF m 73 #[.val (.ref a2)] [(.ref a2), (.ref a2)])) rfl rfl (hb hby d4_73)
  refine Runs.via (T' := T1) (g' := (mkF m 76 #[.val (.ref a2)] [(.int q_a2_number), (.ref a2)])) (fun t k => st1 _ k) ?_
  refine Runs.via (T' := T1) (g' := (mkF m 78 #[.val (.ref a2)] [(.int (q_a2_number + (1 : Int32))), (.ref a2)])) (fun t k => ?_) ?_
  · show Steps p.tables e below (T1.setTop (mkF m 76 #[.val (.ref a2)] [(.int q_a2_number), (.ref a2)])) t
    refine XS.iconst X1.here hx rfl (hb hby d4_76) ?_
    show Steps p.tables e below (T1.setTop (mkF m 77 #[.val (.ref a2)] [(.int (1 : Int32)), (.int q_a2_number), (.ref a2)])) t
    refine XS.iadd X1.here hx rfl (hb hby d4_77) rfl ?_
    exact k
  refine letE hr ?_; intro v2 hv2 hr
  rw [← hv2]
  obtain ⟨T3, h3, X3, e3, W3, st3⟩ := putF X1 hx hZ hown (host := "") (Or.inl (hw _ (List.mem_of_getElem? (i := 30) rfl))) Via.refl e1 F_a2_number_0 E_a2_0 (Or.inl (hw _ (List.mem_of_getElem? (i := 31) rfl))) (hw _ (List.mem_of_getElem? (i := 2) rfl)) (ty := .int) (by decide) rfl rfl (g := (mkF m 78 #[.val (.ref a2)] [(.int v2), (.ref a2)])) rfl rfl (hb hby d4_78)
  have A_a1_3 : AI Z h3 a1 .byte q_a1 := A_a1_0.other W3 (by omega : @Ne Nat a1 a2)
  have E_a2_3 : Exa Z h3 a2 "com/example/braid/braid/BodyLines" := E_a2_0.wr W3
  have F_a2_end_3 : Fld Z h3 a2 "com/example/braid/braid/BodyLines" "end" "I" (.int q_a2_end) := F_a2_end_0.other W3 (Or.inr (slot_ne (Or.inl (hw _ (List.mem_of_getElem? (i := 11) rfl))) (Or.inl (hw _ (List.mem_of_getElem? (i := 31) rfl))) (by decide) (t := .int) (t' := .int) (by decide) (by decide)))
  have F_a2_body_3 : Fld Z h3 a2 "com/example/braid/braid/BodyLines" "body" "[B" (.ref a1) := F_a2_body_0.other W3 (Or.inr (slot_ne (Or.inr (hw _ (List.mem_of_getElem? (i := 13) rfl))) (Or.inl (hw _ (List.mem_of_getElem? (i := 31) rfl))) (by decide) (t := (.array .byte)) (t' := .int) (by decide) (by decide)))
  have F_a2_start_3 : Fld Z h3 a2 "com/example/braid/braid/BodyLines" "start" "I" (.int q_a2_start) := F_a2_start_0.other W3 (Or.inr (slot_ne (Or.inl (hw _ (List.mem_of_getElem? (i := 24) rfl))) (Or.inl (hw _ (List.mem_of_getElem? (i := 31) rfl))) (by decide) (t := .int) (t' := .int) (by decide) (by decide)))
  have F_a2_number_3 : Fld Z h3 a2 "com/example/braid/braid/BodyLines" "number" "I" (.int v2) := F_a2_number_0.same W3
  have N3 := Fr.snoc X3 N0 (by omega : n0 ≤ a2)
  have zz3 : n0 ≤ h3.size := Nat.le_trans Z1 (Keep.of_wr W3).1
  have K3 := KE.wr W3 (Or.inl (List.mem_of_getElem? (i := 0) rfl))
  refine Runs.via (T' := T3) (g' := (mkF m 81 #[.val (.ref a2)] [])) (fun t k => st3 _ k) ?_
  refine Runs.via (T' := T3) (g' := (mkF m 82 #[.val (.ref a2)] [(.int (1 : Int32))])) (fun t k => ?_) ?_
  · show Steps p.tables e below (T3.setTop (mkF m 81 #[.val (.ref a2)] [])) t
    refine XS.iconst X3.here hx rfl (hb hby d4_81) ?_
    exact k
  obtain rfl := Option.some.inj hr
  exact own_retN X3 hx hlk (t := .boolean) hret (by simp) (hb hby d4_82) (by show cells ≤ 0; omega) (by show slots ≤ 0; omega) ⟨rfl, N3, (by rw [e3]; exact K3), (by rw [e3]; exact E_a2_3), (by rw [e3]; exact F_a2_end_3), (by rw [e3]; exact F_a2_body_3), (by rw [e3]; exact F_a2_start_3), (by rw [e3]; exact F_a2_number_3)⟩
def s4_32 (K32 : List Int32 → Int32 → Int32 → Int32 → Option (Int32 × Int32 × Int32 × Int32)) (fuel : Nat) (q_a1 : List Int32) (q_a2_end : Int32) (q_a2_start : Int32) (q_a2_number : Int32) : Option (Int32 × Int32 × Int32 × Int32) := (if q_a2_end < (lenO q_a1) then ((rdO q_a1 q_a2_end).bind fun v6 => (if v6 = (10 : Int32) then (g4_71 fuel q_a1 q_a2_end q_a2_start q_a2_number) else (letO (q_a2_end + (1 : Int32)) fun v9 => (K32 q_a1 v9 q_a2_start q_a2_number)))) else (g4_71 fuel q_a1 q_a2_end q_a2_start q_a2_number))
def h4_32 (fuel : Nat) : Nat → List Int32 → Int32 → Int32 → Int32 → Option (Int32 × Int32 × Int32 × Int32)
  | 0 => fun _ _ _ _ => none
  | n + 1 => fun q_a1 q_a2_end q_a2_start q_a2_number => s4_32 (h4_32 fuel n) fuel q_a1 q_a2_end q_a2_start q_a2_number
def g4_32 (fuel : Nat) (q_a1 : List Int32) (q_a2_end : Int32) (q_a2_start : Int32) (q_a2_number : Int32) : Option (Int32 × Int32 × Int32 × Int32) := h4_32 fuel fuel q_a1 q_a2_end q_a2_start q_a2_number
set_option maxRecDepth 65536 in
set_option maxHeartbeats 4000000 in
theorem t4_32 {hE : Heap} {a1 : Addr} {a2 : Addr} {q_a1 : List Int32} {q_a2_end₀ : Int32} {q_a2_start₀ : Int32} {q_a2_number₀ : Int32} (fuel : Nat) {r : Int32 × Int32 × Int32 × Int32} (C : Ctx p s m meth c Z a0 "com/example/braid/braid/BodyLines" prog_2_method_2_code 1 (some .boolean) "next") (K32 : List Int32 → Int32 → Int32 → Int32 → Option (Int32 × Int32 × Int32 × Int32)) (hK32 : ∀ {T0 : State} {locs : List Loc} {cells slots : Nat} {h0 : Heap} (X0 : Stand p l e ({ frames := 0, cells := 0, slots := 0, locals := 0 } : Room) s m args below meth c T0 locs cells slots) (e0 : T0.heap = h0) (N0 : Fr n0 locs) (hk : cells ≤ 0) (hn : slots ≤ 0) (Z1 : n0 ≤ h0.size) (KE : Keep hE h0 [a2]) (o0 : n0 ≤ a1) (o1 : @LT.lt Nat instLTNat a1 a2) (q_a2_end : Int32) (q_a2_start : Int32) (q_a2_number : Int32) (A_a1_0 : AI Z h0 a1 .byte q_a1) (E_a2_0 : Exa Z h0 a2 "com/example/braid/braid/BodyLines") (F_a2_end_0 : Fld Z h0 a2 "com/example/braid/braid/BodyLines" "end" "I" (.int q_a2_end)) (F_a2_body_0 : Fld Z h0 a2 "com/example/braid/braid/BodyLines" "body" "[B" (.ref a1)) (F_a2_start_0 : Fld Z h0 a2 "com/example/braid/braid/BodyLines" "start" "I" (.int q_a2_start)) (F_a2_number_0 : Fld Z h0 a2 "com/example/braid/braid/BodyLines" "number" "I" (.int q_a2_number)), K32 q_a1 q_a2_end q_a2_start q_a2_number = some r → Runs p e below s (P4 Z hE a1 a2 q_a1 q_a2_end₀ q_a2_start₀ q_a2_number₀ n0 r) 0 0 T0 (mkF m 32 #[.val (.ref a2)] [])) (X0 : Stand p l e ({ frames := 0, cells := 0, slots := 0, locals := 0 } : Room) s m args below meth c T0 locs cells slots) (e0 : T0.heap = h0) (N0 : Fr n0 locs) (hk : cells ≤ 0) (hn : slots ≤ 0) (Z1 : n0 ≤ h0.size) (KE : Keep hE h0 [a2]) (o0 : n0 ≤ a1) (o1 : @LT.lt Nat instLTNat a1 a2) (q_a2_end : Int32) (q_a2_start : Int32) (q_a2_number : Int32) (A_a1_0 : AI Z h0 a1 .byte q_a1) (E_a2_0 : Exa Z h0 a2 "com/example/braid/braid/BodyLines") (F_a2_end_0 : Fld Z h0 a2 "com/example/braid/braid/BodyLines" "end" "I" (.int q_a2_end)) (F_a2_body_0 : Fld Z h0 a2 "com/example/braid/braid/BodyLines" "body" "[B" (.ref a1)) (F_a2_start_0 : Fld Z h0 a2 "com/example/braid/braid/BodyLines" "start" "I" (.int q_a2_start)) (F_a2_number_0 : Fld Z h0 a2 "com/example/braid/braid/BodyLines" "number" "I" (.int q_a2_number)) (hr : s4_32 K32 fuel q_a1 q_a2_end q_a2_start q_a2_number = some r) :
    Runs p e below s (P4 Z hE a1 a2 q_a1 q_a2_end₀ q_a2_start₀ q_a2_number₀ n0 r) 0 0 T0 (mkF m 32 #[.val (.ref a2)] []) := by
  unfold s4_32 at hr
  have ⟨hx, hZ, hw, hby, hml, hown, hret, hlk, hnm⟩ := C
  refine Runs.via (T' := T0) (g' := (mkF m 33 #[.val (.ref a2)] [(.ref a2)])) (fun t k => ?_) ?_
  · show Steps p.tables e below (T0.setTop (mkF m 32 #[.val (.ref a2)] [])) t
    refine XS.aloadN X0.here hx rfl (hb hby d4_32) rfl rfl ?_
    exact k
  obtain ⟨T1, X1, e1, st1⟩ := getF X0 hx hZ hown (host := "") (Or.inl (hw _ (List.mem_of_getElem? (i := 10) rfl))) Via.refl e0 F_a2_end_0 (g := (mkF m 33 #[.val (.ref a2)] [(.ref a2)])) rfl rfl (hb hby d4_33)
  refine Runs.via (T' := T1) (g' := (mkF m 36 #[.val (.ref a2)] [(.int q_a2_end)])) (fun t k => st1 _ k) ?_
  refine Runs.via (T' := T1) (g' := (mkF m 37 #[.val (.ref a2)] [(.ref a2), (.int q_a2_end)])) (fun t k => ?_) ?_
  · show Steps p.tables e below (T1.setTop (mkF m 36 #[.val (.ref a2)] [(.int q_a2_end)])) t
    refine XS.aloadN X1.here hx rfl (hb hby d4_36) rfl rfl ?_
    exact k
  obtain ⟨T2, X2, e2, st2⟩ := getF X1 hx hZ hown (host := "") (Or.inl (hw _ (List.mem_of_getElem? (i := 12) rfl))) Via.refl e1 F_a2_body_0 (g := (mkF m 37 #[.val (.ref a2)] [(.ref a2), (.int q_a2_end)])) rfl rfl (hb hby d4_37)
  refine Runs.via (T' := T2) (g' := (mkF m 40 #[.val (.ref a2)] [(.ref a1), (.int q_a2_end)])) (fun t k => st2 _ k) ?_
  refine Runs.via (T' := T2) (g' := (mkF m 41 #[.val (.ref a2)] [(.int (lenO q_a1)), (.int q_a2_end)])) (fun t k => ?_) ?_
  · show Steps p.tables e below (T2.setTop (mkF m 40 #[.val (.ref a2)] [(.ref a1), (.int q_a2_end)])) t
    refine lenAI X2 hx hZ e2 A_a1_0 rfl (g := (mkF m 40 #[.val (.ref a2)] [(.ref a1), (.int q_a2_end)])) rfl (hb hby d4_40) _ ?_
    exact k
  refine iteE hr (fun hc3 hr => ?_) (fun hc3 hr => ?_)
  · refine Runs.via (T' := T2) (g' := (mkF m 44 #[.val (.ref a2)] [])) (fun t k => ?_) ?_
    · show Steps p.tables e below (T2.setTop (mkF m 41 #[.val (.ref a2)] [(.int (lenO q_a1)), (.int q_a2_end)])) t
      exact XS.icmpNo X2.here hx rfl (hb hby d4_41) rfl (tlt hc3).2.1 k
    refine Runs.via (T' := T2) (g' := (mkF m 45 #[.val (.ref a2)] [(.ref a2)])) (fun t k => ?_) ?_
    · show Steps p.tables e below (T2.setTop (mkF m 44 #[.val (.ref a2)] [])) t
      refine XS.aloadN X2.here hx rfl (hb hby d4_44) rfl rfl ?_
      exact k
    obtain ⟨T4, X4, e4, st4⟩ := getF X2 hx hZ hown (host := "") (Or.inl (hw _ (List.mem_of_getElem? (i := 12) rfl))) Via.refl e2 F_a2_body_0 (g := (mkF m 45 #[.val (.ref a2)] [(.ref a2)])) rfl rfl (hb hby d4_45)
    refine Runs.via (T' := T4) (g' := (mkF m 48 #[.val (.ref a2)] [(.ref a1)])) (fun t k => st4 _ k) ?_
    refine Runs.via (T' := T4) (g' := (mkF m 49 #[.val (.ref a2)] [(.ref a2), (.ref a1)])) (fun t k => ?_) ?_
    · show Steps p.tables e below (T4.setTop (mkF m 48 #[.val (.ref a2)] [(.ref a1)])) t
      refine XS.aloadN X4.here hx rfl (hb hby d4_48) rfl rfl ?_
      exact k
    obtain ⟨T5, X5, e5, st5⟩ := getF X4 hx hZ hown (host := "") (Or.inl (hw _ (List.mem_of_getElem? (i := 10) rfl))) Via.refl e4 F_a2_end_0 (g := (mkF m 49 #[.val (.ref a2)] [(.ref a2), (.ref a1)])) rfl rfl (hb hby d4_49)
    refine Runs.via (T' := T5) (g' := (mkF m 52 #[.val (.ref a2)] [(.int q_a2_end), (.ref a1)])) (fun t k => st5 _ k) ?_
    refine bindE hr ?_; intro v6 hv6 hr
    refine Runs.via (T' := T5) (g' := (mkF m 53 #[.val (.ref a2)] [(.int v6)])) (fun t k => ldB X5 hx hZ e5 A_a1_0 hv6 (g := (mkF m 52 #[.val (.ref a2)] [(.int q_a2_end), (.ref a1)])) rfl rfl (hb hby d4_52) _ k) ?_
    refine Runs.via (T' := T5) (g' := (mkF m 55 #[.val (.ref a2)] [(.int (10 : Int32)), (.int v6)])) (fun t k => ?_) ?_
    · show Steps p.tables e below (T5.setTop (mkF m 53 #[.val (.ref a2)] [(.int v6)])) t
      refine XS.bipush X5.here hx rfl (hb hby d4_53) ?_
      exact k
    refine iteE hr (fun hc7 hr => ?_) (fun hc7 hr => ?_)
    · refine Runs.via (T' := T5) (g' := (mkF m 71 #[.val (.ref a2)] [])) (fun t k => ?_) ?_
      · show Steps p.tables e below (T5.setTop (mkF m 55 #[.val (.ref a2)] [(.int (10 : Int32)), (.int v6)])) t
        exact XS.icmpYes X5.here hx rfl (pc0 := 55) (pc' := 71) rfl (hb hby d4_55) rfl (teq hc7).1 (by decide) (by decide) k
      exact b4_71 C fuel X5 e5 N0 (by show cells ≤ 0; omega) (by show slots ≤ 0; omega) Z1 KE (by omega) (by omega) q_a2_end q_a2_start q_a2_number A_a1_0 E_a2_0 F_a2_end_0 F_a2_body_0 F_a2_start_0 F_a2_number_0 hr
    · refine Runs.via (T' := T5) (g' := (mkF m 58 #[.val (.ref a2)] [])) (fun t k => ?_) ?_
      · show Steps p.tables e below (T5.setTop (mkF m 55 #[.val (.ref a2)] [(.int (10 : Int32)), (.int v6)])) t
        exact XS.icmpNo X5.here hx rfl (hb hby d4_55) rfl (feq hc7).1 k
      refine Runs.via (T' := T5) (g' := (mkF m 60 #[.val (.ref a2)] [(.ref a2), (.ref a2)])) (fun t k => ?_) ?_
      · show Steps p.tables e below (T5.setTop (mkF m 58 #[.val (.ref a2)] [])) t
        refine XS.aloadN X5.here hx rfl (hb hby d4_58) rfl rfl ?_
        show Steps p.tables e below (T5.setTop (mkF m 59 #[.val (.ref a2)] [(.ref a2)])) t
        refine XS.dup X5.here hx rfl (hb hby d4_59) rfl rfl ?_
        exact k
      obtain ⟨T8, X8, e8, st8⟩ := getF X5 hx hZ hown (host := "") (Or.inl (hw _ (List.mem_of_getElem? (i := 10) rfl))) Via.refl e5 F_a2_end_0 (g := (mkF m 60 #[.val (.ref a2)] [(.ref a2), (.ref a2)])) rfl rfl (hb hby d4_60)
      refine Runs.via (T' := T8) (g' := (mkF m 63 #[.val (.ref a2)] [(.int q_a2_end), (.ref a2)])) (fun t k => st8 _ k) ?_
      refine Runs.via (T' := T8) (g' := (mkF m 65 #[.val (.ref a2)] [(.int (q_a2_end + (1 : Int32))), (.ref a2)])) (fun t k => ?_) ?_
      · show Steps p.tables e below (T8.setTop (mkF m 63 #[.val (.ref a2)] [(.int q_a2_end), (.ref a2)])) t
        refine XS.iconst X8.here hx rfl (hb hby d4_63) ?_
        show Steps p.tables e below (T8.setTop (mkF m 64 #[.val (.ref a2)] [(.int (1 : Int32)), (.int q_a2_end), (.ref a2)])) t
        refine XS.iadd X8.here hx rfl (hb hby d4_64) rfl ?_
        exact k
      refine letE hr ?_; intro v9 hv9 hr
      rw [← hv9]
      obtain ⟨T10, h10, X10, e10, W10, st10⟩ := putF X8 hx hZ hown (host := "") (Or.inl (hw _ (List.mem_of_getElem? (i := 10) rfl))) Via.refl e8 F_a2_end_0 E_a2_0 (Or.inl (hw _ (List.mem_of_getElem? (i := 11) rfl))) (hw _ (List.mem_of_getElem? (i := 2) rfl)) (ty := .int) (by decide) rfl rfl (g := (mkF m 65 #[.val (.ref a2)] [(.int v9), (.ref a2)])) rfl rfl (hb hby d4_65)
      have A_a1_10 : AI Z h10 a1 .byte q_a1 := A_a1_0.other W10 (by omega : @Ne Nat a1 a2)
      have E_a2_10 : Exa Z h10 a2 "com/example/braid/braid/BodyLines" := E_a2_0.wr W10
      have F_a2_end_10 : Fld Z h10 a2 "com/example/braid/braid/BodyLines" "end" "I" (.int v9) := F_a2_end_0.same W10
      have F_a2_body_10 : Fld Z h10 a2 "com/example/braid/braid/BodyLines" "body" "[B" (.ref a1) := F_a2_body_0.other W10 (Or.inr (slot_ne (Or.inr (hw _ (List.mem_of_getElem? (i := 13) rfl))) (Or.inl (hw _ (List.mem_of_getElem? (i := 11) rfl))) (by decide) (t := (.array .byte)) (t' := .int) (by decide) (by decide)))
      have F_a2_start_10 : Fld Z h10 a2 "com/example/braid/braid/BodyLines" "start" "I" (.int q_a2_start) := F_a2_start_0.other W10 (Or.inr (slot_ne (Or.inl (hw _ (List.mem_of_getElem? (i := 24) rfl))) (Or.inl (hw _ (List.mem_of_getElem? (i := 11) rfl))) (by decide) (t := .int) (t' := .int) (by decide) (by decide)))
      have F_a2_number_10 : Fld Z h10 a2 "com/example/braid/braid/BodyLines" "number" "I" (.int q_a2_number) := F_a2_number_0.other W10 (Or.inr (slot_ne (Or.inl (hw _ (List.mem_of_getElem? (i := 31) rfl))) (Or.inl (hw _ (List.mem_of_getElem? (i := 11) rfl))) (by decide) (t := .int) (t' := .int) (by decide) (by decide)))
      have N10 := Fr.snoc X10 N0 (by omega : n0 ≤ a2)
      have zz10 : n0 ≤ h10.size := Nat.le_trans Z1 (Keep.of_wr W10).1
      have K10 := KE.wr W10 (Or.inl (List.mem_of_getElem? (i := 0) rfl))
      refine Runs.via (T' := T10) (g' := (mkF m 68 #[.val (.ref a2)] [])) (fun t k => st10 _ k) ?_
      refine Runs.via (T' := T10) (g' := (mkF m 32 #[.val (.ref a2)] [])) (fun t k => ?_) ?_
      · show Steps p.tables e below (T10.setTop (mkF m 68 #[.val (.ref a2)] [])) t
        refine XS.goto X10.here hx rfl (pc0 := 68) (pc' := 32) rfl (hb hby d4_68) (by decide) (by decide) ?_
        exact k
      exact hK32 X10 e10 N10 (by show cells ≤ 0; omega) (by show slots ≤ 0; omega) zz10 K10 (by omega) (by omega) v9 q_a2_start q_a2_number A_a1_10 E_a2_10 F_a2_end_10 F_a2_body_10 F_a2_start_10 F_a2_number_10 hr
  · refine Runs.via (T' := T2) (g' := (mkF m 71 #[.val (.ref a2)] [])) (fun t k => ?_) ?_
    · show Steps p.tables e below (T2.setTop (mkF m 41 #[.val (.ref a2)] [(.int (lenO q_a1)), (.int q_a2_end)])) t
      exact XS.icmpYes X2.here hx rfl (pc0 := 41) (pc' := 71) rfl (hb hby d4_41) rfl (flt hc3).2.1 (by decide) (by decide) k
    exact b4_71 C fuel X2 e2 N0 (by show cells ≤ 0; omega) (by show slots ≤ 0; omega) Z1 KE (by omega) (by omega) q_a2_end q_a2_start q_a2_number A_a1_0 E_a2_0 F_a2_end_0 F_a2_body_0 F_a2_start_0 F_a2_number_0 hr
set_option maxRecDepth 65536 in
set_option maxHeartbeats 4000000 in
theorem u4_32 {hE : Heap} {a1 : Addr} {a2 : Addr} {q_a1 : List Int32} {q_a2_end₀ : Int32} {q_a2_start₀ : Int32} {q_a2_number₀ : Int32} (fuel : Nat) {r : Int32 × Int32 × Int32 × Int32} (C : Ctx p s m meth c Z a0 "com/example/braid/braid/BodyLines" prog_2_method_2_code 1 (some .boolean) "next") : ∀ n : Nat, ∀ {T0 : State} {locs : List Loc} {cells slots : Nat} {h0 : Heap} (X0 : Stand p l e ({ frames := 0, cells := 0, slots := 0, locals := 0 } : Room) s m args below meth c T0 locs cells slots) (e0 : T0.heap = h0) (N0 : Fr n0 locs) (hk : cells ≤ 0) (hn : slots ≤ 0) (Z1 : n0 ≤ h0.size) (KE : Keep hE h0 [a2]) (o0 : n0 ≤ a1) (o1 : @LT.lt Nat instLTNat a1 a2) (q_a2_end : Int32) (q_a2_start : Int32) (q_a2_number : Int32) (A_a1_0 : AI Z h0 a1 .byte q_a1) (E_a2_0 : Exa Z h0 a2 "com/example/braid/braid/BodyLines") (F_a2_end_0 : Fld Z h0 a2 "com/example/braid/braid/BodyLines" "end" "I" (.int q_a2_end)) (F_a2_body_0 : Fld Z h0 a2 "com/example/braid/braid/BodyLines" "body" "[B" (.ref a1)) (F_a2_start_0 : Fld Z h0 a2 "com/example/braid/braid/BodyLines" "start" "I" (.int q_a2_start)) (F_a2_number_0 : Fld Z h0 a2 "com/example/braid/braid/BodyLines" "number" "I" (.int q_a2_number)), h4_32 fuel n q_a1 q_a2_end q_a2_start q_a2_number = some r → Runs p e below s (P4 Z hE a1 a2 q_a1 q_a2_end₀ q_a2_start₀ q_a2_number₀ n0 r) 0 0 T0 (mkF m 32 #[.val (.ref a2)] []) := by
  intro n
  induction n with
  | zero => intros; rename_i hr; exact absurd hr (by simp [h4_32])
  | succ n ih =>
    intro T0 locs cells slots h0 X0 e0 N0 hk hn Z1 KE o0 o1 q_a2_end q_a2_start q_a2_number A_a1_0 E_a2_0 F_a2_end_0 F_a2_body_0 F_a2_start_0 F_a2_number_0 hr
    exact t4_32 fuel C _ ih X0 e0 N0 hk hn Z1 KE o0 o1 q_a2_end q_a2_start q_a2_number A_a1_0 E_a2_0 F_a2_end_0 F_a2_body_0 F_a2_start_0 F_a2_number_0 hr
set_option maxRecDepth 65536 in
set_option maxHeartbeats 4000000 in
theorem b4_32 {hE : Heap} {a1 : Addr} {a2 : Addr} {q_a1 : List Int32} {q_a2_end₀ : Int32} {q_a2_start₀ : Int32} {q_a2_number₀ : Int32} {r : Int32 × Int32 × Int32 × Int32} (C : Ctx p s m meth c Z a0 "com/example/braid/braid/BodyLines" prog_2_method_2_code 1 (some .boolean) "next") (fuel : Nat) (X0 : Stand p l e ({ frames := 0, cells := 0, slots := 0, locals := 0 } : Room) s m args below meth c T0 locs cells slots) (e0 : T0.heap = h0) (N0 : Fr n0 locs) (hk : cells ≤ 0) (hn : slots ≤ 0) (Z1 : n0 ≤ h0.size) (KE : Keep hE h0 [a2]) (o0 : n0 ≤ a1) (o1 : @LT.lt Nat instLTNat a1 a2) (q_a2_end : Int32) (q_a2_start : Int32) (q_a2_number : Int32) (A_a1_0 : AI Z h0 a1 .byte q_a1) (E_a2_0 : Exa Z h0 a2 "com/example/braid/braid/BodyLines") (F_a2_end_0 : Fld Z h0 a2 "com/example/braid/braid/BodyLines" "end" "I" (.int q_a2_end)) (F_a2_body_0 : Fld Z h0 a2 "com/example/braid/braid/BodyLines" "body" "[B" (.ref a1)) (F_a2_start_0 : Fld Z h0 a2 "com/example/braid/braid/BodyLines" "start" "I" (.int q_a2_start)) (F_a2_number_0 : Fld Z h0 a2 "com/example/braid/braid/BodyLines" "number" "I" (.int q_a2_number)) (hr : g4_32 fuel q_a1 q_a2_end q_a2_start q_a2_number = some r) :
    Runs p e below s (P4 Z hE a1 a2 q_a1 q_a2_end₀ q_a2_start₀ q_a2_number₀ n0 r) 0 0 T0 (mkF m 32 #[.val (.ref a2)] []) := u4_32 fuel C fuel X0 e0 N0 hk hn Z1 KE o0 o1 q_a2_end q_a2_start q_a2_number A_a1_0 E_a2_0 F_a2_end_0 F_a2_body_0 F_a2_start_0 F_a2_number_0 hr
def g4_0 (fuel : Nat) (q_a1 : List Int32) (q_a2_end : Int32) (q_a2_start : Int32) (q_a2_number : Int32) : Option (Int32 × Int32 × Int32 × Int32) := (letO (q_a2_end + (1 : Int32)) fun v2 => (if v2 < (lenO q_a1) then (g4_32 fuel q_a1 v2 v2 q_a2_number) else some ((0 : Int32), q_a2_end, v2, q_a2_number)))
set_option maxRecDepth 65536 in
set_option maxHeartbeats 4000000 in
theorem b4_0 {hE : Heap} {a1 : Addr} {a2 : Addr} {q_a1 : List Int32} {q_a2_end₀ : Int32} {q_a2_start₀ : Int32} {q_a2_number₀ : Int32} {r : Int32 × Int32 × Int32 × Int32} (C : Ctx p s m meth c Z a0 "com/example/braid/braid/BodyLines" prog_2_method_2_code 1 (some .boolean) "next") (fuel : Nat) (X0 : Stand p l e ({ frames := 0, cells := 0, slots := 0, locals := 0 } : Room) s m args below meth c T0 locs cells slots) (e0 : T0.heap = h0) (N0 : Fr n0 locs) (hk : cells ≤ 0) (hn : slots ≤ 0) (Z1 : n0 ≤ h0.size) (KE : Keep hE h0 [a2]) (o0 : n0 ≤ a1) (o1 : @LT.lt Nat instLTNat a1 a2) (q_a2_end : Int32) (q_a2_start : Int32) (q_a2_number : Int32) (A_a1_0 : AI Z h0 a1 .byte q_a1) (E_a2_0 : Exa Z h0 a2 "com/example/braid/braid/BodyLines") (F_a2_end_0 : Fld Z h0 a2 "com/example/braid/braid/BodyLines" "end" "I" (.int q_a2_end)) (F_a2_body_0 : Fld Z h0 a2 "com/example/braid/braid/BodyLines" "body" "[B" (.ref a1)) (F_a2_start_0 : Fld Z h0 a2 "com/example/braid/braid/BodyLines" "start" "I" (.int q_a2_start)) (F_a2_number_0 : Fld Z h0 a2 "com/example/braid/braid/BodyLines" "number" "I" (.int q_a2_number)) (hr : g4_0 fuel q_a1 q_a2_end q_a2_start q_a2_number = some r) :
    Runs p e below s (P4 Z hE a1 a2 q_a1 q_a2_end₀ q_a2_start₀ q_a2_number₀ n0 r) 0 0 T0 (mkF m 0 #[.val (.ref a2)] []) := by
  unfold g4_0 at hr
  have ⟨hx, hZ, hw, hby, hml, hown, hret, hlk, hnm⟩ := C
  refine Runs.via (T' := T0) (g' := (mkF m 2 #[.val (.ref a2)] [(.ref a2), (.ref a2)])) (fun t k => ?_) ?_
  · show Steps p.tables e below (T0.setTop (mkF m 0 #[.val (.ref a2)] [])) t
    refine XS.aloadN X0.here hx rfl (hb hby d4_0) rfl rfl ?_
    show Steps p.tables e below (T0.setTop (mkF m 1 #[.val (.ref a2)] [(.ref a2)])) t
    refine XS.aloadN X0.here hx rfl (hb hby d4_1) rfl rfl ?_
    exact k
  obtain ⟨T1, X1, e1, st1⟩ := getF X0 hx hZ hown (host := "") (Or.inl (hw _ (List.mem_of_getElem? (i := 10) rfl))) Via.refl e0 F_a2_end_0 (g := (mkF m 2 #[.val (.ref a2)] [(.ref a2), (.ref a2)])) rfl rfl (hb hby d4_2)
  refine Runs.via (T' := T1) (g' := (mkF m 5 #[.val (.ref a2)] [(.int q_a2_end), (.ref a2)])) (fun t k => st1 _ k) ?_
  refine Runs.via (T' := T1) (g' := (mkF m 7 #[.val (.ref a2)] [(.int (q_a2_end + (1 : Int32))), (.ref a2)])) (fun t k => ?_) ?_
  · show Steps p.tables e below (T1.setTop (mkF m 5 #[.val (.ref a2)] [(.int q_a2_end), (.ref a2)])) t
    refine XS.iconst X1.here hx rfl (hb hby d4_5) ?_
    show Steps p.tables e below (T1.setTop (mkF m 6 #[.val (.ref a2)] [(.int (1 : Int32)), (.int q_a2_end), (.ref a2)])) t
    refine XS.iadd X1.here hx rfl (hb hby d4_6) rfl ?_
    exact k
  refine letE hr ?_; intro v2 hv2 hr
  rw [← hv2]
  obtain ⟨T3, h3, X3, e3, W3, st3⟩ := putF X1 hx hZ hown (host := "") (Or.inl (hw _ (List.mem_of_getElem? (i := 23) rfl))) Via.refl e1 F_a2_start_0 E_a2_0 (Or.inl (hw _ (List.mem_of_getElem? (i := 24) rfl))) (hw _ (List.mem_of_getElem? (i := 2) rfl)) (ty := .int) (by decide) rfl rfl (g := (mkF m 7 #[.val (.ref a2)] [(.int v2), (.ref a2)])) rfl rfl (hb hby d4_7)
  have A_a1_3 : AI Z h3 a1 .byte q_a1 := A_a1_0.other W3 (by omega : @Ne Nat a1 a2)
  have E_a2_3 : Exa Z h3 a2 "com/example/braid/braid/BodyLines" := E_a2_0.wr W3
  have F_a2_end_3 : Fld Z h3 a2 "com/example/braid/braid/BodyLines" "end" "I" (.int q_a2_end) := F_a2_end_0.other W3 (Or.inr (slot_ne (Or.inl (hw _ (List.mem_of_getElem? (i := 11) rfl))) (Or.inl (hw _ (List.mem_of_getElem? (i := 24) rfl))) (by decide) (t := .int) (t' := .int) (by decide) (by decide)))
  have F_a2_body_3 : Fld Z h3 a2 "com/example/braid/braid/BodyLines" "body" "[B" (.ref a1) := F_a2_body_0.other W3 (Or.inr (slot_ne (Or.inr (hw _ (List.mem_of_getElem? (i := 13) rfl))) (Or.inl (hw _ (List.mem_of_getElem? (i := 24) rfl))) (by decide) (t := (.array .byte)) (t' := .int) (by decide) (by decide)))
  have F_a2_start_3 : Fld Z h3 a2 "com/example/braid/braid/BodyLines" "start" "I" (.int v2) := F_a2_start_0.same W3
  have F_a2_number_3 : Fld Z h3 a2 "com/example/braid/braid/BodyLines" "number" "I" (.int q_a2_number) := F_a2_number_0.other W3 (Or.inr (slot_ne (Or.inl (hw _ (List.mem_of_getElem? (i := 31) rfl))) (Or.inl (hw _ (List.mem_of_getElem? (i := 24) rfl))) (by decide) (t := .int) (t' := .int) (by decide) (by decide)))
  have N3 := Fr.snoc X3 N0 (by omega : n0 ≤ a2)
  have zz3 : n0 ≤ h3.size := Nat.le_trans Z1 (Keep.of_wr W3).1
  have K3 := KE.wr W3 (Or.inl (List.mem_of_getElem? (i := 0) rfl))
  refine Runs.via (T' := T3) (g' := (mkF m 10 #[.val (.ref a2)] [])) (fun t k => st3 _ k) ?_
  refine Runs.via (T' := T3) (g' := (mkF m 11 #[.val (.ref a2)] [(.ref a2)])) (fun t k => ?_) ?_
  · show Steps p.tables e below (T3.setTop (mkF m 10 #[.val (.ref a2)] [])) t
    refine XS.aloadN X3.here hx rfl (hb hby d4_10) rfl rfl ?_
    exact k
  obtain ⟨T4, X4, e4, st4⟩ := getF X3 hx hZ hown (host := "") (Or.inl (hw _ (List.mem_of_getElem? (i := 23) rfl))) Via.refl e3 F_a2_start_3 (g := (mkF m 11 #[.val (.ref a2)] [(.ref a2)])) rfl rfl (hb hby d4_11)
  refine Runs.via (T' := T4) (g' := (mkF m 14 #[.val (.ref a2)] [(.int v2)])) (fun t k => st4 _ k) ?_
  refine Runs.via (T' := T4) (g' := (mkF m 15 #[.val (.ref a2)] [(.ref a2), (.int v2)])) (fun t k => ?_) ?_
  · show Steps p.tables e below (T4.setTop (mkF m 14 #[.val (.ref a2)] [(.int v2)])) t
    refine XS.aloadN X4.here hx rfl (hb hby d4_14) rfl rfl ?_
    exact k
  obtain ⟨T5, X5, e5, st5⟩ := getF X4 hx hZ hown (host := "") (Or.inl (hw _ (List.mem_of_getElem? (i := 12) rfl))) Via.refl e4 F_a2_body_3 (g := (mkF m 15 #[.val (.ref a2)] [(.ref a2), (.int v2)])) rfl rfl (hb hby d4_15)
  refine Runs.via (T' := T5) (g' := (mkF m 18 #[.val (.ref a2)] [(.ref a1), (.int v2)])) (fun t k => st5 _ k) ?_
  refine Runs.via (T' := T5) (g' := (mkF m 19 #[.val (.ref a2)] [(.int (lenO q_a1)), (.int v2)])) (fun t k => ?_) ?_
  · show Steps p.tables e below (T5.setTop (mkF m 18 #[.val (.ref a2)] [(.ref a1), (.int v2)])) t
    refine lenAI X5 hx hZ e5 A_a1_3 rfl (g := (mkF m 18 #[.val (.ref a2)] [(.ref a1), (.int v2)])) rfl (hb hby d4_18) _ ?_
    exact k
  refine iteE hr (fun hc6 hr => ?_) (fun hc6 hr => ?_)
  · refine Runs.via (T' := T5) (g' := (mkF m 24 #[.val (.ref a2)] [])) (fun t k => ?_) ?_
    · show Steps p.tables e below (T5.setTop (mkF m 19 #[.val (.ref a2)] [(.int (lenO q_a1)), (.int v2)])) t
      exact XS.icmpYes X5.here hx rfl (pc0 := 19) (pc' := 24) rfl (hb hby d4_19) rfl (tlt hc6).1 (by decide) (by decide) k
    refine Runs.via (T' := T5) (g' := (mkF m 26 #[.val (.ref a2)] [(.ref a2), (.ref a2)])) (fun t k => ?_) ?_
    · show Steps p.tables e below (T5.setTop (mkF m 24 #[.val (.ref a2)] [])) t
      refine XS.aloadN X5.here hx rfl (hb hby d4_24) rfl rfl ?_
      show Steps p.tables e below (T5.setTop (mkF m 25 #[.val (.ref a2)] [(.ref a2)])) t
      refine XS.aloadN X5.here hx rfl (hb hby d4_25) rfl rfl ?_
      exact k
    obtain ⟨T7, X7, e7, st7⟩ := getF X5 hx hZ hown (host := "") (Or.inl (hw _ (List.mem_of_getElem? (i := 23) rfl))) Via.refl e5 F_a2_start_3 (g := (mkF m 26 #[.val (.ref a2)] [(.ref a2), (.ref a2)])) rfl rfl (hb hby d4_26)
    refine Runs.via (T' := T7) (g' := (mkF m 29 #[.val (.ref a2)] [(.int v2), (.ref a2)])) (fun t k => st7 _ k) ?_
    obtain ⟨T8, h8, X8, e8, W8, st8⟩ := putF X7 hx hZ hown (host := "") (Or.inl (hw _ (List.mem_of_getElem? (i := 10) rfl))) Via.refl e7 F_a2_end_3 E_a2_3 (Or.inl (hw _ (List.mem_of_getElem? (i := 11) rfl))) (hw _ (List.mem_of_getElem? (i := 2) rfl)) (ty := .int) (by decide) rfl rfl (g := (mkF m 29 #[.val (.ref a2)] [(.int v2), (.ref a2)])) rfl rfl (hb hby d4_29)
    have A_a1_8 : AI Z h8 a1 .byte q_a1 := A_a1_3.other W8 (by omega : @Ne Nat a1 a2)
    have E_a2_8 : Exa Z h8 a2 "com/example/braid/braid/BodyLines" := E_a2_3.wr W8
    have F_a2_end_8 : Fld Z h8 a2 "com/example/braid/braid/BodyLines" "end" "I" (.int v2) := F_a2_end_3.same W8
    have F_a2_body_8 : Fld Z h8 a2 "com/example/braid/braid/BodyLines" "body" "[B" (.ref a1) := F_a2_body_3.other W8 (Or.inr (slot_ne (Or.inr (hw _ (List.mem_of_getElem? (i := 13) rfl))) (Or.inl (hw _ (List.mem_of_getElem? (i := 11) rfl))) (by decide) (t := (.array .byte)) (t' := .int) (by decide) (by decide)))
    have F_a2_start_8 : Fld Z h8 a2 "com/example/braid/braid/BodyLines" "start" "I" (.int v2) := F_a2_start_3.other W8 (Or.inr (slot_ne (Or.inl (hw _ (List.mem_of_getElem? (i := 24) rfl))) (Or.inl (hw _ (List.mem_of_getElem? (i := 11) rfl))) (by decide) (t := .int) (t' := .int) (by decide) (by decide)))
    have F_a2_number_8 : Fld Z h8 a2 "com/example/braid/braid/BodyLines" "number" "I" (.int q_a2_number) := F_a2_number_3.other W8 (Or.inr (slot_ne (Or.inl (hw _ (List.mem_of_getElem? (i := 31) rfl))) (Or.inl (hw _ (List.mem_of_getElem? (i := 11) rfl))) (by decide) (t := .int) (t' := .int) (by decide) (by decide)))
    have N8 := Fr.snoc X8 N3 (by omega : n0 ≤ a2)
    have zz8 : n0 ≤ h8.size := Nat.le_trans zz3 (Keep.of_wr W8).1
    have K8 := K3.wr W8 (Or.inl (List.mem_of_getElem? (i := 0) rfl))
    refine Runs.via (T' := T8) (g' := (mkF m 32 #[.val (.ref a2)] [])) (fun t k => st8 _ k) ?_
    exact b4_32 C fuel X8 e8 N8 (by show cells ≤ 0; omega) (by show slots ≤ 0; omega) zz8 K8 (by omega) (by omega) v2 v2 q_a2_number A_a1_8 E_a2_8 F_a2_end_8 F_a2_body_8 F_a2_start_8 F_a2_number_8 hr
  · refine Runs.via (T' := T5) (g' := (mkF m 22 #[.val (.ref a2)] [])) (fun t k => ?_) ?_
    · show Steps p.tables e below (T5.setTop (mkF m 19 #[.val (.ref a2)] [(.int (lenO q_a1)), (.int v2)])) t
      exact XS.icmpNo X5.here hx rfl (hb hby d4_19) rfl (flt hc6).1 k
    refine Runs.via (T' := T5) (g' := (mkF m 23 #[.val (.ref a2)] [(.int (0 : Int32))])) (fun t k => ?_) ?_
    · show Steps p.tables e below (T5.setTop (mkF m 22 #[.val (.ref a2)] [])) t
      refine XS.iconst X5.here hx rfl (hb hby d4_22) ?_
      exact k
    obtain rfl := Option.some.inj hr
    exact own_retN X5 hx hlk (t := .boolean) hret (by simp) (hb hby d4_23) (by show cells ≤ 0; omega) (by show slots ≤ 0; omega) ⟨rfl, N3, (by rw [e5]; exact K3), (by rw [e5]; exact E_a2_3), (by rw [e5]; exact F_a2_end_3), (by rw [e5]; exact F_a2_body_3), (by rw [e5]; exact F_a2_start_3), (by rw [e5]; exact F_a2_number_3)⟩
def f4 (fuel : Nat) (q_a1 : List Int32) (q_a2_end : Int32) (q_a2_start : Int32) (q_a2_number : Int32) : Option (Int32 × Int32 × Int32 × Int32) := g4_0 fuel q_a1 q_a2_end q_a2_start q_a2_number
theorem pn_4 : plainName "com/example/braid/braid/BodyLines" = true := by first | (simp [plainName, overriddenIn]; done) | decide +kernel
theorem ef_4 (m : MethodId) (a1 : Addr) (a2 : Addr) : entryFrame m #[(.ref a2)] 1 = mkF m 0 #[.val (.ref a2)] [] := by first | (simp [entryFrame, mkF, argsToLocals, Value.category]; done) | rfl
set_option maxRecDepth 65536 in
set_option maxHeartbeats 4000000 in
theorem rm4 (l : Launch) (Z : State) (a0 : Array Value) (hw : ∀ d ∈ tables_1, d.before a0 Z = true) (ws : List Jvm.Cond) (a1 : Addr) (a2 : Addr) (q_a1 : List Int32) (q_a2_end : Int32) (q_a2_start : Int32) (q_a2_number : Int32) (hE : Heap) (n0 : Nat) (Z0 : n0 ≤ hE.size) (o0 : n0 ≤ a1) (o1 : @LT.lt Nat instLTNat a1 a2) (A_a1_0 : AI Z hE a1 .byte q_a1) (E_a2_0 : Exa Z hE a2 "com/example/braid/braid/BodyLines") (F_a2_end_0 : Fld Z hE a2 "com/example/braid/braid/BodyLines" "end" "I" (.int q_a2_end)) (F_a2_body_0 : Fld Z hE a2 "com/example/braid/braid/BodyLines" "body" "[B" (.ref a1)) (F_a2_start_0 : Fld Z hE a2 "com/example/braid/braid/BodyLines" "start" "I" (.int q_a2_start)) (F_a2_number_0 : Fld Z hE a2 "com/example/braid/braid/BodyLines" "number" "I" (.int q_a2_number)) (fuel : Nat) (r : Int32 × Int32 × Int32 × Int32) (hr : f4 fuel q_a1 q_a2_end q_a2_start q_a2_number = some r) :
    MetFree l (⟨"com/example/braid/braid/BodyLines", "next", "()Z"⟩ : MethodName) (head1 (Jvm.Cond.code (⟨"com/example/braid/braid/BodyLines", "next", "()Z"⟩ : MethodName) prog_2_method_2_code 1 (some .boolean) :: ws) ({ frames := 0, cells := 0, slots := 0, locals := 0 } : Room)) (fun a U => a = #[(.ref a2)] ∧ Z.Warmed39 U.vm ∧ U.heap = hE) (fun _ _ _ _ _ => True) (fun _ U o U' => ∃ v L, o = .returned v ∧ (P4 Z hE a1 a2 q_a1 q_a2_end q_a2_start q_a2_number n0 r v U'.heap L) ∧ FrameEnd U o U' L ({ frames := 0, cells := 0, slots := 0, locals := 0 } : Room).cells ({ frames := 0, cells := 0, slots := 0, locals := 0 } : Room).slots) := by
  refine MetFree.of_bodySF (plainFor_of_name pn_4) hisR ?_
  intro p e s m args below meth c s₁ Bd hml0 hP hK
  obtain ⟨rfl, hZ, hh⟩ := hP
  have X0 : Stand p l e ({ frames := 0, cells := 0, slots := 0, locals := 0 } : Room) s m #[(.ref a2)] below meth c s₁ [] 0 0 := Stand.of_body Bd
  have e0 : s₁.heap = hE := by rw [← hh, Bd.state]; rfl
  have C : Ctx p s m meth c Z a0 "com/example/braid/braid/BodyLines" prog_2_method_2_code 1 (some .boolean) "next" := ⟨Bd.exec, hZ, hw, Bd.bytes, hml0, findClass_of_methodNamed Bd.named, Bd.returns, BodyLoose.notSynchronized Bd, (name_of_methodNamed Bd.named Bd.method).1⟩
  refine Runs.via (fun t k => castTop (ef_4 m a1 a2) k) (b4_0 C fuel X0 e0 (Fr.nil n0) (by show 0 ≤ 0; omega) (by show 0 ≤ 0; omega) Z0 (Keep.refl hE [a2]) (by omega) (by omega) q_a2_end q_a2_start q_a2_number A_a1_0 E_a2_0 F_a2_end_0 F_a2_body_0 F_a2_start_0 F_a2_number_0 hr)
theorem pd_2 : parseMethodDescriptor "()Z" = some ⟨[], some .boolean⟩ := by decide +kernel
theorem d7_0 : decode method_3_code 0 = .ok (.iload_n 2, 1) := by decide +kernel
theorem d7_1 : decode method_3_code 1 = .ok (.iload_n 1, 1) := by decide +kernel
theorem d7_2 : decode method_3_code 2 = .ok (.if_icmp .ge 11, 3) := by decide +kernel
theorem d7_5 : decode method_3_code 5 = .ok (.aload_n 0, 1) := by decide +kernel
theorem d7_6 : decode method_3_code 6 = .ok (.iload_n 2, 1) := by decide +kernel
theorem d7_7 : decode method_3_code 7 = .ok (.baload, 1) := by decide +kernel
theorem d7_8 : decode method_3_code 8 = .ok (.bipush 10, 2) := by decide +kernel
theorem d7_10 : decode method_3_code 10 = .ok (.if_icmp .ne 5, 3) := by decide +kernel
theorem d7_13 : decode method_3_code 13 = .ok (.iload_n 2, 1) := by decide +kernel
theorem d7_14 : decode method_3_code 14 = .ok (.ireturn, 1) := by decide +kernel
theorem d7_15 : decode method_3_code 15 = .ok (.iload_n 2, 1) := by decide +kernel
theorem d7_16 : decode method_3_code 16 = .ok (.iconst 1, 1) := by decide +kernel
theorem d7_17 : decode method_3_code 17 = .ok (.iadd, 1) := by decide +kernel
theorem d7_18 : decode method_3_code 18 = .ok (.iload_n 1, 1) := by decide +kernel
theorem d7_19 : decode method_3_code 19 = .ok (.if_icmp .ge 13, 3) := by decide +kernel
theorem d7_22 : decode method_3_code 22 = .ok (.aload_n 0, 1) := by decide +kernel
theorem d7_23 : decode method_3_code 23 = .ok (.iload_n 2, 1) := by decide +kernel
theorem d7_24 : decode method_3_code 24 = .ok (.iconst 1, 1) := by decide +kernel
theorem d7_25 : decode method_3_code 25 = .ok (.iadd, 1) := by decide +kernel
theorem d7_26 : decode method_3_code 26 = .ok (.baload, 1) := by decide +kernel
theorem d7_27 : decode method_3_code 27 = .ok (.bipush 10, 2) := by decide +kernel
theorem d7_29 : decode method_3_code 29 = .ok (.if_icmp .ne 7, 3) := by decide +kernel
theorem d7_32 : decode method_3_code 32 = .ok (.iload_n 2, 1) := by decide +kernel
theorem d7_33 : decode method_3_code 33 = .ok (.iconst 1, 1) := by decide +kernel
theorem d7_34 : decode method_3_code 34 = .ok (.iadd, 1) := by decide +kernel
theorem d7_35 : decode method_3_code 35 = .ok (.ireturn, 1) := by decide +kernel
theorem d7_36 : decode method_3_code 36 = .ok (.iload_n 2, 1) := by decide +kernel
theorem d7_37 : decode method_3_code 37 = .ok (.iconst 2, 1) := by decide +kernel
theorem d7_38 : decode method_3_code 38 = .ok (.iadd, 1) := by decide +kernel
theorem d7_39 : decode method_3_code 39 = .ok (.iload_n 1, 1) := by decide +kernel
theorem d7_40 : decode method_3_code 40 = .ok (.if_icmp .ge 13, 3) := by decide +kernel
theorem d7_43 : decode method_3_code 43 = .ok (.aload_n 0, 1) := by decide +kernel
theorem d7_44 : decode method_3_code 44 = .ok (.iload_n 2, 1) := by decide +kernel
theorem d7_45 : decode method_3_code 45 = .ok (.iconst 2, 1) := by decide +kernel
theorem d7_46 : decode method_3_code 46 = .ok (.iadd, 1) := by decide +kernel
theorem d7_47 : decode method_3_code 47 = .ok (.baload, 1) := by decide +kernel
theorem d7_48 : decode method_3_code 48 = .ok (.bipush 10, 2) := by decide +kernel
theorem d7_50 : decode method_3_code 50 = .ok (.if_icmp .ne 7, 3) := by decide +kernel
theorem d7_53 : decode method_3_code 53 = .ok (.iload_n 2, 1) := by decide +kernel
theorem d7_54 : decode method_3_code 54 = .ok (.iconst 2, 1) := by decide +kernel
theorem d7_55 : decode method_3_code 55 = .ok (.iadd, 1) := by decide +kernel
theorem d7_56 : decode method_3_code 56 = .ok (.ireturn, 1) := by decide +kernel
theorem d7_57 : decode method_3_code 57 = .ok (.iload_n 2, 1) := by decide +kernel
theorem d7_58 : decode method_3_code 58 = .ok (.iconst 3, 1) := by decide +kernel
theorem d7_59 : decode method_3_code 59 = .ok (.iadd, 1) := by decide +kernel
theorem d7_60 : decode method_3_code 60 = .ok (.ireturn, 1) := by decide +kernel
def P7 (Z : State) (hE : Heap) (a1 : Addr) (q_a1 : List Int32) (n0 : Nat) (r : Int32) (v : Option Value) (h : Heap) (L : List Loc) : Prop := v = some (.int r) ∧ Fr n0 L ∧ h = hE
def g7_53 (x2 : Int32) (q_a1 : List Int32) : Option (Int32) := some (x2 + (2 : Int32))
set_option maxRecDepth 65536 in
set_option maxHeartbeats 4000000 in
theorem b7_53 {hE : Heap} {a1 : Addr} {q_a1 : List Int32} {r : Int32} (C : Ctx p s m meth c Z a0 "com/example/braid/braid/BodyLinesNextPinLaw" method_3_code 3 (some .int) "endFrom") (X0 : Stand p l e ({ frames := 0, cells := 0, slots := 0, locals := 0 } : Room) s m args below meth c T0 locs cells slots) (e0 : T0.heap = hE) (N0 : Fr n0 locs) (hk : cells ≤ 0) (hn : slots ≤ 0) (Z1 : n0 ≤ hE.size) (o0 : n0 ≤ a1) (x1 : Int32) (x2 : Int32) (A_a1_0 : AI Z hE a1 .byte q_a1) (hr : g7_53 x2 q_a1 = some r) :
    Runs p e below s (P7 Z hE a1 q_a1 n0 r) 0 0 T0 (mkF m 53 #[.val (.ref a1), .val (.int x1), .val (.int x2)] []) := by
  unfold g7_53 at hr
  have ⟨hx, hZ, hw, hby, hml, hown, hret, hlk, hnm⟩ := C
  refine Runs.via (T' := T0) (g' := (mkF m 56 #[.val (.ref a1), .val (.int x1), .val (.int x2)] [(.int (x2 + (2 : Int32)))])) (fun t k => ?_) ?_
  · show Steps p.tables e below (T0.setTop (mkF m 53 #[.val (.ref a1), .val (.int x1), .val (.int x2)] [])) t
    refine XS.iloadN X0.here hx rfl (hb hby d7_53) rfl ?_
    show Steps p.tables e below (T0.setTop (mkF m 54 #[.val (.ref a1), .val (.int x1), .val (.int x2)] [(.int x2)])) t
    refine XS.iconst X0.here hx rfl (hb hby d7_54) ?_
    show Steps p.tables e below (T0.setTop (mkF m 55 #[.val (.ref a1), .val (.int x1), .val (.int x2)] [(.int (2 : Int32)), (.int x2)])) t
    refine XS.iadd X0.here hx rfl (hb hby d7_55) rfl ?_
    exact k
  obtain rfl := Option.some.inj hr
  exact own_retI X0 hx hlk hret (hb hby d7_56) (by show cells ≤ 0; omega) (by show slots ≤ 0; omega) ⟨rfl, N0, e0⟩
def g7_32 (x2 : Int32) (q_a1 : List Int32) : Option (Int32) := some (x2 + (1 : Int32))
set_option maxRecDepth 65536 in
set_option maxHeartbeats 4000000 in
theorem b7_32 {hE : Heap} {a1 : Addr} {q_a1 : List Int32} {r : Int32} (C : Ctx p s m meth c Z a0 "com/example/braid/braid/BodyLinesNextPinLaw" method_3_code 3 (some .int) "endFrom") (X0 : Stand p l e ({ frames := 0, cells := 0, slots := 0, locals := 0 } : Room) s m args below meth c T0 locs cells slots) (e0 : T0.heap = hE) (N0 : Fr n0 locs) (hk : cells ≤ 0) (hn : slots ≤ 0) (Z1 : n0 ≤ hE.size) (o0 : n0 ≤ a1) (x1 : Int32) (x2 : Int32) (A_a1_0 : AI Z hE a1 .byte q_a1) (hr : g7_32 x2 q_a1 = some r) :
    Runs p e below s (P7 Z hE a1 q_a1 n0 r) 0 0 T0 (mkF m 32 #[.val (.ref a1), .val (.int x1), .val (.int x2)] []) := by
  unfold g7_32 at hr
  have ⟨hx, hZ, hw, hby, hml, hown, hret, hlk, hnm⟩ := C
  refine Runs.via (T' := T0) (g' := (mkF m 35 #[.val (.ref a1), .val (.int x1), .val (.int x2)] [(.int (x2 + (1 : Int32)))])) (fun t k => ?_) ?_
  · show Steps p.tables e below (T0.setTop (mkF m 32 #[.val (.ref a1), .val (.int x1), .val (.int x2)] [])) t
    refine XS.iloadN X0.here hx rfl (hb hby d7_32) rfl ?_
    show Steps p.tables e below (T0.setTop (mkF m 33 #[.val (.ref a1), .val (.int x1), .val (.int x2)] [(.int x2)])) t
    refine XS.iconst X0.here hx rfl (hb hby d7_33) ?_
    show Steps p.tables e below (T0.setTop (mkF m 34 #[.val (.ref a1), .val (.int x1), .val (.int x2)] [(.int (1 : Int32)), (.int x2)])) t
    refine XS.iadd X0.here hx rfl (hb hby d7_34) rfl ?_
    exact k
  obtain rfl := Option.some.inj hr
  exact own_retI X0 hx hlk hret (hb hby d7_35) (by show cells ≤ 0; omega) (by show slots ≤ 0; omega) ⟨rfl, N0, e0⟩
def g7_0 (x1 : Int32) (x2 : Int32) (q_a1 : List Int32) : Option (Int32) := (if x2 < x1 then ((rdO q_a1 x2).bind fun v2 => (if v2 = (10 : Int32) then some x2 else (if (x2 + (1 : Int32)) < x1 then ((rdO q_a1 (x2 + (1 : Int32))).bind fun v5 => (if v5 = (10 : Int32) then (g7_32 x2 q_a1) else (if (x2 + (2 : Int32)) < x1 then ((rdO q_a1 (x2 + (2 : Int32))).bind fun v8 => (if v8 = (10 : Int32) then (g7_53 x2 q_a1) else some (x2 + (3 : Int32)))) else (g7_53 x2 q_a1)))) else (g7_32 x2 q_a1)))) else some x2)
set_option maxRecDepth 65536 in
set_option maxHeartbeats 4000000 in
theorem b7_0 {hE : Heap} {a1 : Addr} {q_a1 : List Int32} {r : Int32} (C : Ctx p s m meth c Z a0 "com/example/braid/braid/BodyLinesNextPinLaw" method_3_code 3 (some .int) "endFrom") (X0 : Stand p l e ({ frames := 0, cells := 0, slots := 0, locals := 0 } : Room) s m args below meth c T0 locs cells slots) (e0 : T0.heap = hE) (N0 : Fr n0 locs) (hk : cells ≤ 0) (hn : slots ≤ 0) (Z1 : n0 ≤ hE.size) (o0 : n0 ≤ a1) (x1 : Int32) (x2 : Int32) (A_a1_0 : AI Z hE a1 .byte q_a1) (hr : g7_0 x1 x2 q_a1 = some r) :
    Runs p e below s (P7 Z hE a1 q_a1 n0 r) 0 0 T0 (mkF m 0 #[.val (.ref a1), .val (.int x1), .val (.int x2)] []) := by
  unfold g7_0 at hr
  have ⟨hx, hZ, hw, hby, hml, hown, hret, hlk, hnm⟩ := C
  refine Runs.via (T' := T0) (g' := (mkF m 2 #[.val (.ref a1), .val (.int x1), .val (.int x2)] [(.int x1), (.int x2)])) (fun t k => ?_) ?_
  · show Steps p.tables e below (T0.setTop (mkF m 0 #[.val (.ref a1), .val (.int x1), .val (.int x2)] [])) t
    refine XS.iloadN X0.here hx rfl (hb hby d7_0) rfl ?_
    show Steps p.tables e below (T0.setTop (mkF m 1 #[.val (.ref a1), .val (.int x1), .val (.int x2)] [(.int x2)])) t
    refine XS.iloadN X0.here hx rfl (hb hby d7_1) rfl ?_
    exact k
  refine iteE hr (fun hc1 hr => ?_) (fun hc1 hr => ?_)
  · refine Runs.via (T' := T0) (g' := (mkF m 5 #[.val (.ref a1), .val (.int x1), .val (.int x2)] [])) (fun t k => ?_) ?_
    · show Steps p.tables e below (T0.setTop (mkF m 2 #[.val (.ref a1), .val (.int x1), .val (.int x2)] [(.int x1), (.int x2)])) t
      exact XS.icmpNo X0.here hx rfl (hb hby d7_2) rfl (tlt hc1).2.1 k
    refine Runs.via (T' := T0) (g' := (mkF m 7 #[.val (.ref a1), .val (.int x1), .val (.int x2)] [(.int x2), (.ref a1)])) (fun t k => ?_) ?_
    · show Steps p.tables e below (T0.setTop (mkF m 5 #[.val (.ref a1), .val (.int x1), .val (.int x2)] [])) t
      refine XS.aloadN X0.here hx rfl (hb hby d7_5) rfl rfl ?_
      show Steps p.tables e below (T0.setTop (mkF m 6 #[.val (.ref a1), .val (.int x1), .val (.int x2)] [(.ref a1)])) t
      refine XS.iloadN X0.here hx rfl (hb hby d7_6) rfl ?_
      exact k
    refine bindE hr ?_; intro v2 hv2 hr
    refine Runs.via (T' := T0) (g' := (mkF m 8 #[.val (.ref a1), .val (.int x1), .val (.int x2)] [(.int v2)])) (fun t k => ldB X0 hx hZ e0 A_a1_0 hv2 (g := (mkF m 7 #[.val (.ref a1), .val (.int x1), .val (.int x2)] [(.int x2), (.ref a1)])) rfl rfl (hb hby d7_7) _ k) ?_
    refine Runs.via (T' := T0) (g' := (mkF m 10 #[.val (.ref a1), .val (.int x1), .val (.int x2)] [(.int (10 : Int32)), (.int v2)])) (fun t k => ?_) ?_
    · show Steps p.tables e below (T0.setTop (mkF m 8 #[.val (.ref a1), .val (.int x1), .val (.int x2)] [(.int v2)])) t
      refine XS.bipush X0.here hx rfl (hb hby d7_8) ?_
      exact k
    refine iteE hr (fun hc3 hr => ?_) (fun hc3 hr => ?_)
    · refine Runs.via (T' := T0) (g' := (mkF m 13 #[.val (.ref a1), .val (.int x1), .val (.int x2)] [])) (fun t k => ?_) ?_
      · show Steps p.tables e below (T0.setTop (mkF m 10 #[.val (.ref a1), .val (.int x1), .val (.int x2)] [(.int (10 : Int32)), (.int v2)])) t
        exact XS.icmpNo X0.here hx rfl (hb hby d7_10) rfl (teq hc3).2 k
      refine Runs.via (T' := T0) (g' := (mkF m 14 #[.val (.ref a1), .val (.int x1), .val (.int x2)] [(.int x2)])) (fun t k => ?_) ?_
      · show Steps p.tables e below (T0.setTop (mkF m 13 #[.val (.ref a1), .val (.int x1), .val (.int x2)] [])) t
        refine XS.iloadN X0.here hx rfl (hb hby d7_13) rfl ?_
        exact k
      obtain rfl := Option.some.inj hr
      exact own_retI X0 hx hlk hret (hb hby d7_14) (by show cells ≤ 0; omega) (by show slots ≤ 0; omega) ⟨rfl, N0, e0⟩
    · refine Runs.via (T' := T0) (g' := (mkF m 15 #[.val (.ref a1), .val (.int x1), .val (.int x2)] [])) (fun t k => ?_) ?_
      · show Steps p.tables e below (T0.setTop (mkF m 10 #[.val (.ref a1), .val (.int x1), .val (.int x2)] [(.int (10 : Int32)), (.int v2)])) t
        exact XS.icmpYes X0.here hx rfl (pc0 := 10) (pc' := 15) rfl (hb hby d7_10) rfl (feq hc3).2 (by decide) (by decide) k
      refine Runs.via (T' := T0) (g' := (mkF m 19 #[.val (.ref a1), .val (.int x1), .val (.int x2)] [(.int x1), (.int (x2 + (1 : Int32)))])) (fun t k => ?_) ?_
      · show Steps p.tables e below (T0.setTop (mkF m 15 #[.val (.ref a1), .val (.int x1), .val (.int x2)] [])) t
        refine XS.iloadN X0.here hx rfl (hb hby d7_15) rfl ?_
        show Steps p.tables e below (T0.setTop (mkF m 16 #[.val (.ref a1), .val (.int x1), .val (.int x2)] [(.int x2)])) t
        refine XS.iconst X0.here hx rfl (hb hby d7_16) ?_
        show Steps p.tables e below (T0.setTop (mkF m 17 #[.val (.ref a1), .val (.int x1), .val (.int x2)] [(.int (1 : Int32)), (.int x2)])) t
        refine XS.iadd X0.here hx rfl (hb hby d7_17) rfl ?_
        show Steps p.tables e below (T0.setTop (mkF m 18 #[.val (.ref a1), .val (.int x1), .val (.int x2)] [(.int (x2 + (1 : Int32)))])) t
        refine XS.iloadN X0.here hx rfl (hb hby d7_18) rfl ?_
        exact k
      refine iteE hr (fun hc4 hr => ?_) (fun hc4 hr => ?_)
      · refine Runs.via (T' := T0) (g' := (mkF m 22 #[.val (.ref a1), .val (.int x1), .val (.int x2)] [])) (fun t k => ?_) ?_
        · show Steps p.tables e below (T0.setTop (mkF m 19 #[.val (.ref a1), .val (.int x1), .val (.int x2)] [(.int x1), (.int (x2 + (1 : Int32)))])) t
          exact XS.icmpNo X0.here hx rfl (hb hby d7_19) rfl (tlt hc4).2.1 k
        refine Runs.via (T' := T0) (g' := (mkF m 26 #[.val (.ref a1), .val (.int x1), .val (.int x2)] [(.int (x2 + (1 : Int32))), (.ref a1)])) (fun t k => ?_) ?_
        · show Steps p.tables e below (T0.setTop (mkF m 22 #[.val (.ref a1), .val (.int x1), .val (.int x2)] [])) t
          refine XS.aloadN X0.here hx rfl (hb hby d7_22) rfl rfl ?_
          show Steps p.tables e below (T0.setTop (mkF m 23 #[.val (.ref a1), .val (.int x1), .val (.int x2)] [(.ref a1)])) t
          refine XS.iloadN X0.here hx rfl (hb hby d7_23) rfl ?_
          show Steps p.tables e below (T0.setTop (mkF m 24 #[.val (.ref a1), .val (.int x1), .val (.int x2)] [(.int x2), (.ref a1)])) t
          refine XS.iconst X0.here hx rfl (hb hby d7_24) ?_
          show Steps p.tables e below (T0.setTop (mkF m 25 #[.val (.ref a1), .val (.int x1), .val (.int x2)] [(.int (1 : Int32)), (.int x2), (.ref a1)])) t
          refine XS.iadd X0.here hx rfl (hb hby d7_25) rfl ?_
          exact k
        refine bindE hr ?_; intro v5 hv5 hr
        refine Runs.via (T' := T0) (g' := (mkF m 27 #[.val (.ref a1), .val (.int x1), .val (.int x2)] [(.int v5)])) (fun t k => ldB X0 hx hZ e0 A_a1_0 hv5 (g := (mkF m 26 #[.val (.ref a1), .val (.int x1), .val (.int x2)] [(.int (x2 + (1 : Int32))), (.ref a1)])) rfl rfl (hb hby d7_26) _ k) ?_
        refine Runs.via (T' := T0) (g' := (mkF m 29 #[.val (.ref a1), .val (.int x1), .val (.int x2)] [(.int (10 : Int32)), (.int v5)])) (fun t k => ?_) ?_
        · show Steps p.tables e below (T0.setTop (mkF m 27 #[.val (.ref a1), .val (.int x1), .val (.int x2)] [(.int v5)])) t
          refine XS.bipush X0.here hx rfl (hb hby d7_27) ?_
          exact k
        refine iteE hr (fun hc6 hr => ?_) (fun hc6 hr => ?_)
        · refine Runs.via (T' := T0) (g' := (mkF m 32 #[.val (.ref a1), .val (.int x1), .val (.int x2)] [])) (fun t k => ?_) ?_
          · show Steps p.tables e below (T0.setTop (mkF m 29 #[.val (.ref a1), .val (.int x1), .val (.int x2)] [(.int (10 : Int32)), (.int v5)])) t
            exact XS.icmpNo X0.here hx rfl (hb hby d7_29) rfl (teq hc6).2 k
          exact b7_32 C X0 e0 N0 (by show cells ≤ 0; omega) (by show slots ≤ 0; omega) Z1 (by omega) x1 x2 A_a1_0 hr
        · refine Runs.via (T' := T0) (g' := (mkF m 36 #[.val (.ref a1), .val (.int x1), .val (.int x2)] [])) (fun t k => ?_) ?_
          · show Steps p.tables e below (T0.setTop (mkF m 29 #[.val (.ref a1), .val (.int x1), .val (.int x2)] [(.int (10 : Int32)), (.int v5)])) t
            exact XS.icmpYes X0.here hx rfl (pc0 := 29) (pc' := 36) rfl (hb hby d7_29) rfl (feq hc6).2 (by decide) (by decide) k
          refine Runs.via (T' := T0) (g' := (mkF m 40 #[.val (.ref a1), .val (.int x1), .val (.int x2)] [(.int x1), (.int (x2 + (2 : Int32)))])) (fun t k => ?_) ?_
          · show Steps p.tables e below (T0.setTop (mkF m 36 #[.val (.ref a1), .val (.int x1), .val (.int x2)] [])) t
            refine XS.iloadN X0.here hx rfl (hb hby d7_36) rfl ?_
            show Steps p.tables e below (T0.setTop (mkF m 37 #[.val (.ref a1), .val (.int x1), .val (.int x2)] [(.int x2)])) t
            refine XS.iconst X0.here hx rfl (hb hby d7_37) ?_
            show Steps p.tables e below (T0.setTop (mkF m 38 #[.val (.ref a1), .val (.int x1), .val (.int x2)] [(.int (2 : Int32)), (.int x2)])) t
            refine XS.iadd X0.here hx rfl (hb hby d7_38) rfl ?_
            show Steps p.tables e below (T0.setTop (mkF m 39 #[.val (.ref a1), .val (.int x1), .val (.int x2)] [(.int (x2 + (2 : Int32)))])) t
            refine XS.iloadN X0.here hx rfl (hb hby d7_39) rfl ?_
            exact k
          refine iteE hr (fun hc7 hr => ?_) (fun hc7 hr => ?_)
          · refine Runs.via (T' := T0) (g' := (mkF m 43 #[.val (.ref a1), .val (.int x1), .val (.int x2)] [])) (fun t k => ?_) ?_
            · show Steps p.tables e below (T0.setTop (mkF m 40 #[.val (.ref a1), .val (.int x1), .val (.int x2)] [(.int x1), (.int (x2 + (2 : Int32)))])) t
              exact XS.icmpNo X0.here hx rfl (hb hby d7_40) rfl (tlt hc7).2.1 k
            refine Runs.via (T' := T0) (g' := (mkF m 47 #[.val (.ref a1), .val (.int x1), .val (.int x2)] [(.int (x2 + (2 : Int32))), (.ref a1)])) (fun t k => ?_) ?_
            · show Steps p.tables e below (T0.setTop (mkF m 43 #[.val (.ref a1), .val (.int x1), .val (.int x2)] [])) t
              refine XS.aloadN X0.here hx rfl (hb hby d7_43) rfl rfl ?_
              show Steps p.tables e below (T0.setTop (mkF m 44 #[.val (.ref a1), .val (.int x1), .val (.int x2)] [(.ref a1)])) t
              refine XS.iloadN X0.here hx rfl (hb hby d7_44) rfl ?_
              show Steps p.tables e below (T0.setTop (mkF m 45 #[.val (.ref a1), .val (.int x1), .val (.int x2)] [(.int x2), (.ref a1)])) t
              refine XS.iconst X0.here hx rfl (hb hby d7_45) ?_
              show Steps p.tables e below (T0.setTop (mkF m 46 #[.val (.ref a1), .val (.int x1), .val (.int x2)] [(.int (2 : Int32)), (.int x2), (.ref a1)])) t
              refine XS.iadd X0.here hx rfl (hb hby d7_46) rfl ?_
              exact k
            refine bindE hr ?_; intro v8 hv8 hr
            refine Runs.via (T' := T0) (g' := (mkF m 48 #[.val (.ref a1), .val (.int x1), .val (.int x2)] [(.int v8)])) (fun t k => ldB X0 hx hZ e0 A_a1_0 hv8 (g := (mkF m 47 #[.val (.ref a1), .val (.int x1), .val (.int x2)] [(.int (x2 + (2 : Int32))), (.ref a1)])) rfl rfl (hb hby d7_47) _ k) ?_
            refine Runs.via (T' := T0) (g' := (mkF m 50 #[.val (.ref a1), .val (.int x1), .val (.int x2)] [(.int (10 : Int32)), (.int v8)])) (fun t k => ?_) ?_
            · show Steps p.tables e below (T0.setTop (mkF m 48 #[.val (.ref a1), .val (.int x1), .val (.int x2)] [(.int v8)])) t
              refine XS.bipush X0.here hx rfl (hb hby d7_48) ?_
              exact k
            refine iteE hr (fun hc9 hr => ?_) (fun hc9 hr => ?_)
            · refine Runs.via (T' := T0) (g' := (mkF m 53 #[.val (.ref a1), .val (.int x1), .val (.int x2)] [])) (fun t k => ?_) ?_
              · show Steps p.tables e below (T0.setTop (mkF m 50 #[.val (.ref a1), .val (.int x1), .val (.int x2)] [(.int (10 : Int32)), (.int v8)])) t
                exact XS.icmpNo X0.here hx rfl (hb hby d7_50) rfl (teq hc9).2 k
              exact b7_53 C X0 e0 N0 (by show cells ≤ 0; omega) (by show slots ≤ 0; omega) Z1 (by omega) x1 x2 A_a1_0 hr
            · refine Runs.via (T' := T0) (g' := (mkF m 57 #[.val (.ref a1), .val (.int x1), .val (.int x2)] [])) (fun t k => ?_) ?_
              · show Steps p.tables e below (T0.setTop (mkF m 50 #[.val (.ref a1), .val (.int x1), .val (.int x2)] [(.int (10 : Int32)), (.int v8)])) t
                exact XS.icmpYes X0.here hx rfl (pc0 := 50) (pc' := 57) rfl (hb hby d7_50) rfl (feq hc9).2 (by decide) (by decide) k
              refine Runs.via (T' := T0) (g' := (mkF m 60 #[.val (.ref a1), .val (.int x1), .val (.int x2)] [(.int (x2 + (3 : Int32)))])) (fun t k => ?_) ?_
              · show Steps p.tables e below (T0.setTop (mkF m 57 #[.val (.ref a1), .val (.int x1), .val (.int x2)] [])) t
                refine XS.iloadN X0.here hx rfl (hb hby d7_57) rfl ?_
                show Steps p.tables e below (T0.setTop (mkF m 58 #[.val (.ref a1), .val (.int x1), .val (.int x2)] [(.int x2)])) t
                refine XS.iconst X0.here hx rfl (hb hby d7_58) ?_
                show Steps p.tables e below (T0.setTop (mkF m 59 #[.val (.ref a1), .val (.int x1), .val (.int x2)] [(.int (3 : Int32)), (.int x2)])) t
                refine XS.iadd X0.here hx rfl (hb hby d7_59) rfl ?_
                exact k
              obtain rfl := Option.some.inj hr
              exact own_retI X0 hx hlk hret (hb hby d7_60) (by show cells ≤ 0; omega) (by show slots ≤ 0; omega) ⟨rfl, N0, e0⟩
          · refine Runs.via (T' := T0) (g' := (mkF m 53 #[.val (.ref a1), .val (.int x1), .val (.int x2)] [])) (fun t k => ?_) ?_
            · show Steps p.tables e below (T0.setTop (mkF m 40 #[.val (.ref a1), .val (.int x1), .val (.int x2)] [(.int x1), (.int (x2 + (2 : Int32)))])) t
              exact XS.icmpYes X0.here hx rfl (pc0 := 40) (pc' := 53) rfl (hb hby d7_40) rfl (flt hc7).2.1 (by decide) (by decide) k
            exact b7_53 C X0 e0 N0 (by show cells ≤ 0; omega) (by show slots ≤ 0; omega) Z1 (by omega) x1 x2 A_a1_0 hr
      · refine Runs.via (T' := T0) (g' := (mkF m 32 #[.val (.ref a1), .val (.int x1), .val (.int x2)] [])) (fun t k => ?_) ?_
        · show Steps p.tables e below (T0.setTop (mkF m 19 #[.val (.ref a1), .val (.int x1), .val (.int x2)] [(.int x1), (.int (x2 + (1 : Int32)))])) t
          exact XS.icmpYes X0.here hx rfl (pc0 := 19) (pc' := 32) rfl (hb hby d7_19) rfl (flt hc4).2.1 (by decide) (by decide) k
        exact b7_32 C X0 e0 N0 (by show cells ≤ 0; omega) (by show slots ≤ 0; omega) Z1 (by omega) x1 x2 A_a1_0 hr
  · refine Runs.via (T' := T0) (g' := (mkF m 13 #[.val (.ref a1), .val (.int x1), .val (.int x2)] [])) (fun t k => ?_) ?_
    · show Steps p.tables e below (T0.setTop (mkF m 2 #[.val (.ref a1), .val (.int x1), .val (.int x2)] [(.int x1), (.int x2)])) t
      exact XS.icmpYes X0.here hx rfl (pc0 := 2) (pc' := 13) rfl (hb hby d7_2) rfl (flt hc1).2.1 (by decide) (by decide) k
    refine Runs.via (T' := T0) (g' := (mkF m 14 #[.val (.ref a1), .val (.int x1), .val (.int x2)] [(.int x2)])) (fun t k => ?_) ?_
    · show Steps p.tables e below (T0.setTop (mkF m 13 #[.val (.ref a1), .val (.int x1), .val (.int x2)] [])) t
      refine XS.iloadN X0.here hx rfl (hb hby d7_13) rfl ?_
      exact k
    obtain rfl := Option.some.inj hr
    exact own_retI X0 hx hlk hret (hb hby d7_14) (by show cells ≤ 0; omega) (by show slots ≤ 0; omega) ⟨rfl, N0, e0⟩
def f7 (x1 : Int32) (x2 : Int32) (q_a1 : List Int32) : Option (Int32) := g7_0 x1 x2 q_a1
theorem pn_7 : plainName "com/example/braid/braid/BodyLinesNextPinLaw" = true := by first | (simp [plainName, overriddenIn]; done) | decide +kernel
theorem ef_7 (m : MethodId) (x1 : Int32) (x2 : Int32) (a1 : Addr) : entryFrame m #[(.ref a1), (.int x1), (.int x2)] 3 = mkF m 0 #[.val (.ref a1), .val (.int x1), .val (.int x2)] [] := by first | (simp [entryFrame, mkF, argsToLocals, Value.category]; done) | rfl
set_option maxRecDepth 65536 in
set_option maxHeartbeats 4000000 in
theorem rm7 (l : Launch) (Z : State) (a0 : Array Value) (hw : ∀ d ∈ tables_1, d.before a0 Z = true) (ws : List Jvm.Cond) (x1 : Int32) (x2 : Int32) (a1 : Addr) (q_a1 : List Int32) (hE : Heap) (n0 : Nat) (Z0 : n0 ≤ hE.size) (o0 : n0 ≤ a1) (A_a1_0 : AI Z hE a1 .byte q_a1) (r : Int32) (hr : f7 x1 x2 q_a1 = some r) :
    MetFree l (⟨"com/example/braid/braid/BodyLinesNextPinLaw", "endFrom", "([BII)I"⟩ : MethodName) (head1 (Jvm.Cond.code (⟨"com/example/braid/braid/BodyLinesNextPinLaw", "endFrom", "([BII)I"⟩ : MethodName) method_3_code 3 (some .int) :: ws) ({ frames := 0, cells := 0, slots := 0, locals := 0 } : Room)) (fun a U => a = #[(.ref a1), (.int x1), (.int x2)] ∧ Z.Warmed39 U.vm ∧ U.heap = hE) (fun _ _ _ _ _ => True) (fun _ U o U' => ∃ v L, o = .returned v ∧ (P7 Z hE a1 q_a1 n0 r v U'.heap L) ∧ FrameEnd U o U' L ({ frames := 0, cells := 0, slots := 0, locals := 0 } : Room).cells ({ frames := 0, cells := 0, slots := 0, locals := 0 } : Room).slots) := by
  refine MetFree.of_bodySF (plainFor_of_name pn_7) hisR ?_
  intro p e s m args below meth c s₁ Bd hml0 hP hK
  obtain ⟨rfl, hZ, hh⟩ := hP
  have X0 : Stand p l e ({ frames := 0, cells := 0, slots := 0, locals := 0 } : Room) s m #[(.ref a1), (.int x1), (.int x2)] below meth c s₁ [] 0 0 := Stand.of_body Bd
  have e0 : s₁.heap = hE := by rw [← hh, Bd.state]; rfl
  have C : Ctx p s m meth c Z a0 "com/example/braid/braid/BodyLinesNextPinLaw" method_3_code 3 (some .int) "endFrom" := ⟨Bd.exec, hZ, hw, Bd.bytes, hml0, findClass_of_methodNamed Bd.named, Bd.returns, BodyLoose.notSynchronized Bd, (name_of_methodNamed Bd.named Bd.method).1⟩
  refine Runs.via (fun t k => castTop (ef_7 m x1 x2 a1) k) (b7_0 C X0 e0 (Fr.nil n0) (by show 0 ≤ 0; omega) (by show 0 ≤ 0; omega) Z0 (by omega) x1 x2 A_a1_0 hr)
theorem pd_3 : parseMethodDescriptor "([BII)I" = some ⟨[(.array .byte), .int, .int], some .int⟩ := by decide +kernel
theorem d8_0 : decode prog_2_method_4_code 0 = .ok (.aload_n 0, 1) := by decide +kernel
theorem d8_1 : decode prog_2_method_4_code 1 = .ok (.getfield 17, 3) := by decide +kernel
theorem d8_4 : decode prog_2_method_4_code 4 = .ok (.ireturn, 1) := by decide +kernel
def P8 (Z : State) (hE : Heap) (a1 : Addr) (a2 : Addr) (q_a1 : List Int32) (q_a2_end : Int32) (q_a2_start : Int32) (q_a2_number : Int32) (n0 : Nat) (r : Int32) (v : Option Value) (h : Heap) (L : List Loc) : Prop := v = some (.int r) ∧ Fr n0 L ∧ h = hE
def g8_0 (q_a1 : List Int32) (q_a2_end : Int32) (q_a2_start : Int32) (q_a2_number : Int32) : Option (Int32) := some q_a2_start
set_option maxRecDepth 65536 in
set_option maxHeartbeats 4000000 in
theorem b8_0 {hE : Heap} {a1 : Addr} {a2 : Addr} {q_a1 : List Int32} {q_a2_end : Int32} {q_a2_start : Int32} {q_a2_number : Int32} {r : Int32} (C : Ctx p s m meth c Z a0 "com/example/braid/braid/BodyLines" prog_2_method_4_code 1 (some .int) "start") (X0 : Stand p l e ({ frames := 0, cells := 0, slots := 0, locals := 0 } : Room) s m args below meth c T0 locs cells slots) (e0 : T0.heap = hE) (N0 : Fr n0 locs) (hk : cells ≤ 0) (hn : slots ≤ 0) (Z1 : n0 ≤ hE.size) (o0 : n0 ≤ a1) (o1 : @LT.lt Nat instLTNat a1 a2) (A_a1_0 : AI Z hE a1 .byte q_a1) (E_a2_0 : Exa Z hE a2 "com/example/braid/braid/BodyLines") (F_a2_end_0 : Fld Z hE a2 "com/example/braid/braid/BodyLines" "end" "I" (.int q_a2_end)) (F_a2_body_0 : Fld Z hE a2 "com/example/braid/braid/BodyLines" "body" "[B" (.ref a1)) (F_a2_start_0 : Fld Z hE a2 "com/example/braid/braid/BodyLines" "start" "I" (.int q_a2_start)) (F_a2_number_0 : Fld Z hE a2 "com/example/braid/braid/BodyLines" "number" "I" (.int q_a2_number)) (hr : g8_0 q_a1 q_a2_end q_a2_start q_a2_number = some r) :
    Runs p e below s (P8 Z hE a1 a2 q_a1 q_a2_end q_a2_start q_a2_number n0 r) 0 0 T0 (mkF m 0 #[.val (.ref a2)] []) := by
  unfold g8_0 at hr
  have ⟨hx, hZ, hw, hby, hml, hown, hret, hlk, hnm⟩ := C
  refine Runs.via (T' := T0) (g' := (mkF m 1 #[.val (.ref a2)] [(.ref a2)])) (fun t k => ?_) ?_
  · show Steps p.tables e below (T0.setTop (mkF m 0 #[.val (.ref a2)] [])) t
    refine XS.aloadN X0.here hx rfl (hb hby d8_0) rfl rfl ?_
    exact k
  obtain ⟨T1, X1, e1, st1⟩ := getF X0 hx hZ hown (host := "") (Or.inl (hw _ (List.mem_of_getElem? (i := 23) rfl))) Via.refl e0 F_a2_start_0 (g := (mkF m 1 #[.val (.ref a2)] [(.ref a2)])) rfl rfl (hb hby d8_1)
  refine Runs.via (T' := T1) (g' := (mkF m 4 #[.val (.ref a2)] [(.int q_a2_start)])) (fun t k => st1 _ k) ?_
  obtain rfl := Option.some.inj hr
  exact own_retI X1 hx hlk hret (hb hby d8_4) (by show cells ≤ 0; omega) (by show slots ≤ 0; omega) ⟨rfl, N0, e1⟩
def f8 (q_a1 : List Int32) (q_a2_end : Int32) (q_a2_start : Int32) (q_a2_number : Int32) : Option (Int32) := g8_0 q_a1 q_a2_end q_a2_start q_a2_number
theorem pn_8 : plainName "com/example/braid/braid/BodyLines" = true := by first | (simp [plainName, overriddenIn]; done) | decide +kernel
theorem ef_8 (m : MethodId) (a1 : Addr) (a2 : Addr) : entryFrame m #[(.ref a2)] 1 = mkF m 0 #[.val (.ref a2)] [] := by first | (simp [entryFrame, mkF, argsToLocals, Value.category]; done) | rfl
set_option maxRecDepth 65536 in
set_option maxHeartbeats 4000000 in
theorem rm8 (l : Launch) (Z : State) (a0 : Array Value) (hw : ∀ d ∈ tables_1, d.before a0 Z = true) (ws : List Jvm.Cond) (a1 : Addr) (a2 : Addr) (q_a1 : List Int32) (q_a2_end : Int32) (q_a2_start : Int32) (q_a2_number : Int32) (hE : Heap) (n0 : Nat) (Z0 : n0 ≤ hE.size) (o0 : n0 ≤ a1) (o1 : @LT.lt Nat instLTNat a1 a2) (A_a1_0 : AI Z hE a1 .byte q_a1) (E_a2_0 : Exa Z hE a2 "com/example/braid/braid/BodyLines") (F_a2_end_0 : Fld Z hE a2 "com/example/braid/braid/BodyLines" "end" "I" (.int q_a2_end)) (F_a2_body_0 : Fld Z hE a2 "com/example/braid/braid/BodyLines" "body" "[B" (.ref a1)) (F_a2_start_0 : Fld Z hE a2 "com/example/braid/braid/BodyLines" "start" "I" (.int q_a2_start)) (F_a2_number_0 : Fld Z hE a2 "com/example/braid/braid/BodyLines" "number" "I" (.int q_a2_number)) (r : Int32) (hr : f8 q_a1 q_a2_end q_a2_start q_a2_number = some r) :
    MetFree l (⟨"com/example/braid/braid/BodyLines", "start", "()I"⟩ : MethodName) (head1 (Jvm.Cond.code (⟨"com/example/braid/braid/BodyLines", "start", "()I"⟩ : MethodName) prog_2_method_4_code 1 (some .int) :: ws) ({ frames := 0, cells := 0, slots := 0, locals := 0 } : Room)) (fun a U => a = #[(.ref a2)] ∧ Z.Warmed39 U.vm ∧ U.heap = hE) (fun _ _ _ _ _ => True) (fun _ U o U' => ∃ v L, o = .returned v ∧ (P8 Z hE a1 a2 q_a1 q_a2_end q_a2_start q_a2_number n0 r v U'.heap L) ∧ FrameEnd U o U' L ({ frames := 0, cells := 0, slots := 0, locals := 0 } : Room).cells ({ frames := 0, cells := 0, slots := 0, locals := 0 } : Room).slots) := by
  refine MetFree.of_bodySF (plainFor_of_name pn_8) hisR ?_
  intro p e s m args below meth c s₁ Bd hml0 hP hK
  obtain ⟨rfl, hZ, hh⟩ := hP
  have X0 : Stand p l e ({ frames := 0, cells := 0, slots := 0, locals := 0 } : Room) s m #[(.ref a2)] below meth c s₁ [] 0 0 := Stand.of_body Bd
  have e0 : s₁.heap = hE := by rw [← hh, Bd.state]; rfl
  have C : Ctx p s m meth c Z a0 "com/example/braid/braid/BodyLines" prog_2_method_4_code 1 (some .int) "start" := ⟨Bd.exec, hZ, hw, Bd.bytes, hml0, findClass_of_methodNamed Bd.named, Bd.returns, BodyLoose.notSynchronized Bd, (name_of_methodNamed Bd.named Bd.method).1⟩
  refine Runs.via (fun t k => castTop (ef_8 m a1 a2) k) (b8_0 C X0 e0 (Fr.nil n0) (by show 0 ≤ 0; omega) (by show 0 ≤ 0; omega) Z0 (by omega) (by omega) A_a1_0 E_a2_0 F_a2_end_0 F_a2_body_0 F_a2_start_0 F_a2_number_0 hr)
theorem pd_4 : parseMethodDescriptor "()I" = some ⟨[], some .int⟩ := by decide +kernel
theorem d9_0 : decode prog_2_method_5_code 0 = .ok (.aload_n 0, 1) := by decide +kernel
theorem d9_1 : decode prog_2_method_5_code 1 = .ok (.getfield 7, 3) := by decide +kernel
theorem d9_4 : decode prog_2_method_5_code 4 = .ok (.aload_n 0, 1) := by decide +kernel
theorem d9_5 : decode prog_2_method_5_code 5 = .ok (.getfield 17, 3) := by decide +kernel
theorem d9_8 : decode prog_2_method_5_code 8 = .ok (.isub, 1) := by decide +kernel
theorem d9_9 : decode prog_2_method_5_code 9 = .ok (.ireturn, 1) := by decide +kernel
def P9 (Z : State) (hE : Heap) (a1 : Addr) (a2 : Addr) (q_a1 : List Int32) (q_a2_end : Int32) (q_a2_start : Int32) (q_a2_number : Int32) (n0 : Nat) (r : Int32) (v : Option Value) (h : Heap) (L : List Loc) : Prop := v = some (.int r) ∧ Fr n0 L ∧ h = hE
def g9_0 (q_a1 : List Int32) (q_a2_end : Int32) (q_a2_start : Int32) (q_a2_number : Int32) : Option (Int32) := some (q_a2_end - q_a2_start)
set_option maxRecDepth 65536 in
set_option maxHeartbeats 4000000 in
theorem b9_0 {hE : Heap} {a1 : Addr} {a2 : Addr} {q_a1 : List Int32} {q_a2_end : Int32} {q_a2_start : Int32} {q_a2_number : Int32} {r : Int32} (C : Ctx p s m meth c Z a0 "com/example/braid/braid/BodyLines" prog_2_method_5_code 1 (some .int) "length") (X0 : Stand p l e ({ frames := 0, cells := 0, slots := 0, locals := 0 } : Room) s m args below meth c T0 locs cells slots) (e0 : T0.heap = hE) (N0 : Fr n0 locs) (hk : cells ≤ 0) (hn : slots ≤ 0) (Z1 : n0 ≤ hE.size) (o0 : n0 ≤ a1) (o1 : @LT.lt Nat instLTNat a1 a2) (A_a1_0 : AI Z hE a1 .byte q_a1) (E_a2_0 : Exa Z hE a2 "com/example/braid/braid/BodyLines") (F_a2_end_0 : Fld Z hE a2 "com/example/braid/braid/BodyLines" "end" "I" (.int q_a2_end)) (F_a2_body_0 : Fld Z hE a2 "com/example/braid/braid/BodyLines" "body" "[B" (.ref a1)) (F_a2_start_0 : Fld Z hE a2 "com/example/braid/braid/BodyLines" "start" "I" (.int q_a2_start)) (F_a2_number_0 : Fld Z hE a2 "com/example/braid/braid/BodyLines" "number" "I" (.int q_a2_number)) (hr : g9_0 q_a1 q_a2_end q_a2_start q_a2_number = some r) :
    Runs p e below s (P9 Z hE a1 a2 q_a1 q_a2_end q_a2_start q_a2_number n0 r) 0 0 T0 (mkF m 0 #[.val (.ref a2)] []) := by
  unfold g9_0 at hr
  have ⟨hx, hZ, hw, hby, hml, hown, hret, hlk, hnm⟩ := C
  refine Runs.via (T' := T0) (g' := (mkF m 1 #[.val (.ref a2)] [(.ref a2)])) (fun t k => ?_) ?_
  · show Steps p.tables e below (T0.setTop (mkF m 0 #[.val (.ref a2)] [])) t
    refine XS.aloadN X0.here hx rfl (hb hby d9_0) rfl rfl ?_
    exact k
  obtain ⟨T1, X1, e1, st1⟩ := getF X0 hx hZ hown (host := "") (Or.inl (hw _ (List.mem_of_getElem? (i := 10) rfl))) Via.refl e0 F_a2_end_0 (g := (mkF m 1 #[.val (.ref a2)] [(.ref a2)])) rfl rfl (hb hby d9_1)
  refine Runs.via (T' := T1) (g' := (mkF m 4 #[.val (.ref a2)] [(.int q_a2_end)])) (fun t k => st1 _ k) ?_
  refine Runs.via (T' := T1) (g' := (mkF m 5 #[.val (.ref a2)] [(.ref a2), (.int q_a2_end)])) (fun t k => ?_) ?_
  · show Steps p.tables e below (T1.setTop (mkF m 4 #[.val (.ref a2)] [(.int q_a2_end)])) t
    refine XS.aloadN X1.here hx rfl (hb hby d9_4) rfl rfl ?_
    exact k
  obtain ⟨T2, X2, e2, st2⟩ := getF X1 hx hZ hown (host := "") (Or.inl (hw _ (List.mem_of_getElem? (i := 23) rfl))) Via.refl e1 F_a2_start_0 (g := (mkF m 5 #[.val (.ref a2)] [(.ref a2), (.int q_a2_end)])) rfl rfl (hb hby d9_5)
  refine Runs.via (T' := T2) (g' := (mkF m 8 #[.val (.ref a2)] [(.int q_a2_start), (.int q_a2_end)])) (fun t k => st2 _ k) ?_
  refine Runs.via (T' := T2) (g' := (mkF m 9 #[.val (.ref a2)] [(.int (q_a2_end - q_a2_start))])) (fun t k => ?_) ?_
  · show Steps p.tables e below (T2.setTop (mkF m 8 #[.val (.ref a2)] [(.int q_a2_start), (.int q_a2_end)])) t
    refine XS.isub X2.here hx rfl (hb hby d9_8) rfl ?_
    exact k
  obtain rfl := Option.some.inj hr
  exact own_retI X2 hx hlk hret (hb hby d9_9) (by show cells ≤ 0; omega) (by show slots ≤ 0; omega) ⟨rfl, N0, e2⟩
def f9 (q_a1 : List Int32) (q_a2_end : Int32) (q_a2_start : Int32) (q_a2_number : Int32) : Option (Int32) := g9_0 q_a1 q_a2_end q_a2_start q_a2_number
theorem pn_9 : plainName "com/example/braid/braid/BodyLines" = true := by first | (simp [plainName, overriddenIn]; done) | decide +kernel
theorem ef_9 (m : MethodId) (a1 : Addr) (a2 : Addr) : entryFrame m #[(.ref a2)] 1 = mkF m 0 #[.val (.ref a2)] [] := by first | (simp [entryFrame, mkF, argsToLocals, Value.category]; done) | rfl
set_option maxRecDepth 65536 in
set_option maxHeartbeats 4000000 in
theorem rm9 (l : Launch) (Z : State) (a0 : Array Value) (hw : ∀ d ∈ tables_1, d.before a0 Z = true) (ws : List Jvm.Cond) (a1 : Addr) (a2 : Addr) (q_a1 : List Int32) (q_a2_end : Int32) (q_a2_start : Int32) (q_a2_number : Int32) (hE : Heap) (n0 : Nat) (Z0 : n0 ≤ hE.size) (o0 : n0 ≤ a1) (o1 : @LT.lt Nat instLTNat a1 a2) (A_a1_0 : AI Z hE a1 .byte q_a1) (E_a2_0 : Exa Z hE a2 "com/example/braid/braid/BodyLines") (F_a2_end_0 : Fld Z hE a2 "com/example/braid/braid/BodyLines" "end" "I" (.int q_a2_end)) (F_a2_body_0 : Fld Z hE a2 "com/example/braid/braid/BodyLines" "body" "[B" (.ref a1)) (F_a2_start_0 : Fld Z hE a2 "com/example/braid/braid/BodyLines" "start" "I" (.int q_a2_start)) (F_a2_number_0 : Fld Z hE a2 "com/example/braid/braid/BodyLines" "number" "I" (.int q_a2_number)) (r : Int32) (hr : f9 q_a1 q_a2_end q_a2_start q_a2_number = some r) :
    MetFree l (⟨"com/example/braid/braid/BodyLines", "length", "()I"⟩ : MethodName) (head1 (Jvm.Cond.code (⟨"com/example/braid/braid/BodyLines", "length", "()I"⟩ : MethodName) prog_2_method_5_code 1 (some .int) :: ws) ({ frames := 0, cells := 0, slots := 0, locals := 0 } : Room)) (fun a U => a = #[(.ref a2)] ∧ Z.Warmed39 U.vm ∧ U.heap = hE) (fun _ _ _ _ _ => True) (fun _ U o U' => ∃ v L, o = .returned v ∧ (P9 Z hE a1 a2 q_a1 q_a2_end q_a2_start q_a2_number n0 r v U'.heap L) ∧ FrameEnd U o U' L ({ frames := 0, cells := 0, slots := 0, locals := 0 } : Room).cells ({ frames := 0, cells := 0, slots := 0, locals := 0 } : Room).slots) := by
  refine MetFree.of_bodySF (plainFor_of_name pn_9) hisR ?_
  intro p e s m args below meth c s₁ Bd hml0 hP hK
  obtain ⟨rfl, hZ, hh⟩ := hP
  have X0 : Stand p l e ({ frames := 0, cells := 0, slots := 0, locals := 0 } : Room) s m #[(.ref a2)] below meth c s₁ [] 0 0 := Stand.of_body Bd
  have e0 : s₁.heap = hE := by rw [← hh, Bd.state]; rfl
  have C : Ctx p s m meth c Z a0 "com/example/braid/braid/BodyLines" prog_2_method_5_code 1 (some .int) "length" := ⟨Bd.exec, hZ, hw, Bd.bytes, hml0, findClass_of_methodNamed Bd.named, Bd.returns, BodyLoose.notSynchronized Bd, (name_of_methodNamed Bd.named Bd.method).1⟩
  refine Runs.via (fun t k => castTop (ef_9 m a1 a2) k) (b9_0 C X0 e0 (Fr.nil n0) (by show 0 ≤ 0; omega) (by show 0 ≤ 0; omega) Z0 (by omega) (by omega) A_a1_0 E_a2_0 F_a2_end_0 F_a2_body_0 F_a2_start_0 F_a2_number_0 hr)
theorem d5_0 : decode prog_2_method_6_code 0 = .ok (.aload_n 0, 1) := by decide +kernel
theorem d5_1 : decode prog_2_method_6_code 1 = .ok (.getfield 20, 3) := by decide +kernel
theorem d5_4 : decode prog_2_method_6_code 4 = .ok (.ireturn, 1) := by decide +kernel
def P5 (Z : State) (hE : Heap) (a1 : Addr) (a2 : Addr) (q_a1 : List Int32) (q_a2_end : Int32) (q_a2_start : Int32) (q_a2_number : Int32) (n0 : Nat) (r : Int32) (v : Option Value) (h : Heap) (L : List Loc) : Prop := v = some (.int r) ∧ Fr n0 L ∧ h = hE
def g5_0 (q_a1 : List Int32) (q_a2_end : Int32) (q_a2_start : Int32) (q_a2_number : Int32) : Option (Int32) := some q_a2_number
set_option maxRecDepth 65536 in
set_option maxHeartbeats 4000000 in
theorem b5_0 {hE : Heap} {a1 : Addr} {a2 : Addr} {q_a1 : List Int32} {q_a2_end : Int32} {q_a2_start : Int32} {q_a2_number : Int32} {r : Int32} (C : Ctx p s m meth c Z a0 "com/example/braid/braid/BodyLines" prog_2_method_6_code 1 (some .int) "number") (X0 : Stand p l e ({ frames := 0, cells := 0, slots := 0, locals := 0 } : Room) s m args below meth c T0 locs cells slots) (e0 : T0.heap = hE) (N0 : Fr n0 locs) (hk : cells ≤ 0) (hn : slots ≤ 0) (Z1 : n0 ≤ hE.size) (o0 : n0 ≤ a1) (o1 : @LT.lt Nat instLTNat a1 a2) (A_a1_0 : AI Z hE a1 .byte q_a1) (E_a2_0 : Exa Z hE a2 "com/example/braid/braid/BodyLines") (F_a2_end_0 : Fld Z hE a2 "com/example/braid/braid/BodyLines" "end" "I" (.int q_a2_end)) (F_a2_body_0 : Fld Z hE a2 "com/example/braid/braid/BodyLines" "body" "[B" (.ref a1)) (F_a2_start_0 : Fld Z hE a2 "com/example/braid/braid/BodyLines" "start" "I" (.int q_a2_start)) (F_a2_number_0 : Fld Z hE a2 "com/example/braid/braid/BodyLines" "number" "I" (.int q_a2_number)) (hr : g5_0 q_a1 q_a2_end q_a2_start q_a2_number = some r) :
    Runs p e below s (P5 Z hE a1 a2 q_a1 q_a2_end q_a2_start q_a2_number n0 r) 0 0 T0 (mkF m 0 #[.val (.ref a2)] []) := by
  unfold g5_0 at hr
  have ⟨hx, hZ, hw, hby, hml, hown, hret, hlk, hnm⟩ := C
  refine Runs.via (T' := T0) (g' := (mkF m 1 #[.val (.ref a2)] [(.ref a2)])) (fun t k => ?_) ?_
  · show Steps p.tables e below (T0.setTop (mkF m 0 #[.val (.ref a2)] [])) t
    refine XS.aloadN X0.here hx rfl (hb hby d5_0) rfl rfl ?_
    exact k
  obtain ⟨T1, X1, e1, st1⟩ := getF X0 hx hZ hown (host := "") (Or.inl (hw _ (List.mem_of_getElem? (i := 30) rfl))) Via.refl e0 F_a2_number_0 (g := (mkF m 1 #[.val (.ref a2)] [(.ref a2)])) rfl rfl (hb hby d5_1)
  refine Runs.via (T' := T1) (g' := (mkF m 4 #[.val (.ref a2)] [(.int q_a2_number)])) (fun t k => st1 _ k) ?_
  obtain rfl := Option.some.inj hr
  exact own_retI X1 hx hlk hret (hb hby d5_4) (by show cells ≤ 0; omega) (by show slots ≤ 0; omega) ⟨rfl, N0, e1⟩
def f5 (q_a1 : List Int32) (q_a2_end : Int32) (q_a2_start : Int32) (q_a2_number : Int32) : Option (Int32) := g5_0 q_a1 q_a2_end q_a2_start q_a2_number
theorem pn_5 : plainName "com/example/braid/braid/BodyLines" = true := by first | (simp [plainName, overriddenIn]; done) | decide +kernel
theorem ef_5 (m : MethodId) (a1 : Addr) (a2 : Addr) : entryFrame m #[(.ref a2)] 1 = mkF m 0 #[.val (.ref a2)] [] := by first | (simp [entryFrame, mkF, argsToLocals, Value.category]; done) | rfl
set_option maxRecDepth 65536 in
set_option maxHeartbeats 4000000 in
theorem rm5 (l : Launch) (Z : State) (a0 : Array Value) (hw : ∀ d ∈ tables_1, d.before a0 Z = true) (ws : List Jvm.Cond) (a1 : Addr) (a2 : Addr) (q_a1 : List Int32) (q_a2_end : Int32) (q_a2_start : Int32) (q_a2_number : Int32) (hE : Heap) (n0 : Nat) (Z0 : n0 ≤ hE.size) (o0 : n0 ≤ a1) (o1 : @LT.lt Nat instLTNat a1 a2) (A_a1_0 : AI Z hE a1 .byte q_a1) (E_a2_0 : Exa Z hE a2 "com/example/braid/braid/BodyLines") (F_a2_end_0 : Fld Z hE a2 "com/example/braid/braid/BodyLines" "end" "I" (.int q_a2_end)) (F_a2_body_0 : Fld Z hE a2 "com/example/braid/braid/BodyLines" "body" "[B" (.ref a1)) (F_a2_start_0 : Fld Z hE a2 "com/example/braid/braid/BodyLines" "start" "I" (.int q_a2_start)) (F_a2_number_0 : Fld Z hE a2 "com/example/braid/braid/BodyLines" "number" "I" (.int q_a2_number)) (r : Int32) (hr : f5 q_a1 q_a2_end q_a2_start q_a2_number = some r) :
    MetFree l (⟨"com/example/braid/braid/BodyLines", "number", "()I"⟩ : MethodName) (head1 (Jvm.Cond.code (⟨"com/example/braid/braid/BodyLines", "number", "()I"⟩ : MethodName) prog_2_method_6_code 1 (some .int) :: ws) ({ frames := 0, cells := 0, slots := 0, locals := 0 } : Room)) (fun a U => a = #[(.ref a2)] ∧ Z.Warmed39 U.vm ∧ U.heap = hE) (fun _ _ _ _ _ => True) (fun _ U o U' => ∃ v L, o = .returned v ∧ (P5 Z hE a1 a2 q_a1 q_a2_end q_a2_start q_a2_number n0 r v U'.heap L) ∧ FrameEnd U o U' L ({ frames := 0, cells := 0, slots := 0, locals := 0 } : Room).cells ({ frames := 0, cells := 0, slots := 0, locals := 0 } : Room).slots) := by
  refine MetFree.of_bodySF (plainFor_of_name pn_5) hisR ?_
  intro p e s m args below meth c s₁ Bd hml0 hP hK
  obtain ⟨rfl, hZ, hh⟩ := hP
  have X0 : Stand p l e ({ frames := 0, cells := 0, slots := 0, locals := 0 } : Room) s m #[(.ref a2)] below meth c s₁ [] 0 0 := Stand.of_body Bd
  have e0 : s₁.heap = hE := by rw [← hh, Bd.state]; rfl
  have C : Ctx p s m meth c Z a0 "com/example/braid/braid/BodyLines" prog_2_method_6_code 1 (some .int) "number" := ⟨Bd.exec, hZ, hw, Bd.bytes, hml0, findClass_of_methodNamed Bd.named, Bd.returns, BodyLoose.notSynchronized Bd, (name_of_methodNamed Bd.named Bd.method).1⟩
  refine Runs.via (fun t k => castTop (ef_5 m a1 a2) k) (b5_0 C X0 e0 (Fr.nil n0) (by show 0 ≤ 0; omega) (by show 0 ≤ 0; omega) Z0 (by omega) (by omega) A_a1_0 E_a2_0 F_a2_end_0 F_a2_body_0 F_a2_start_0 F_a2_number_0 hr)
theorem d3_0 : decode method_4_code 0 = .ok (.aload_n 0, 1) := by decide +kernel
theorem d3_1 : decode method_4_code 1 = .ok (.invokevirtual 7, 3) := by decide +kernel
theorem d3_4 : decode method_4_code 4 = .ok (.istore 5, 2) := by decide +kernel
theorem d3_6 : decode method_4_code 6 = .ok (.iload_n 3, 1) := by decide +kernel
theorem d3_7 : decode method_4_code 7 = .ok (.iload_n 2, 1) := by decide +kernel
theorem d3_8 : decode method_4_code 8 = .ok (.if_icmp .ge 7, 3) := by decide +kernel
theorem d3_11 : decode method_4_code 11 = .ok (.iconst 1, 1) := by decide +kernel
theorem d3_12 : decode method_4_code 12 = .ok (.goto 4, 3) := by decide +kernel
theorem d3_15 : decode method_4_code 15 = .ok (.iconst 0, 1) := by decide +kernel
theorem d3_16 : decode method_4_code 16 = .ok (.istore 6, 2) := by decide +kernel
theorem d3_18 : decode method_4_code 18 = .ok (.iload 5, 2) := by decide +kernel
theorem d3_20 : decode method_4_code 20 = .ok (.iload 6, 2) := by decide +kernel
theorem d3_22 : decode method_4_code 22 = .ok (.if_icmp .eq 5, 3) := by decide +kernel
theorem d3_25 : decode method_4_code 25 = .ok (.iconst (-1), 1) := by decide +kernel
theorem d3_26 : decode method_4_code 26 = .ok (.ireturn, 1) := by decide +kernel
theorem d3_27 : decode method_4_code 27 = .ok (.iload 6, 2) := by decide +kernel
theorem d3_29 : decode method_4_code 29 = .ok (.ifCond .ne 5, 3) := by decide +kernel
theorem d3_32 : decode method_4_code 32 = .ok (.iload_n 3, 1) := by decide +kernel
theorem d3_33 : decode method_4_code 33 = .ok (.ireturn, 1) := by decide +kernel
theorem d3_34 : decode method_4_code 34 = .ok (.aload_n 1, 1) := by decide +kernel
theorem d3_35 : decode method_4_code 35 = .ok (.iload_n 2, 1) := by decide +kernel
theorem d3_36 : decode method_4_code 36 = .ok (.iload_n 3, 1) := by decide +kernel
theorem d3_37 : decode method_4_code 37 = .ok (.invokestatic 13, 3) := by decide +kernel
theorem d3_40 : decode method_4_code 40 = .ok (.istore 7, 2) := by decide +kernel
theorem d3_42 : decode method_4_code 42 = .ok (.aload_n 0, 1) := by decide +kernel
theorem d3_43 : decode method_4_code 43 = .ok (.invokevirtual 19, 3) := by decide +kernel
theorem d3_46 : decode method_4_code 46 = .ok (.iload_n 3, 1) := by decide +kernel
theorem d3_47 : decode method_4_code 47 = .ok (.if_icmp .eq 5, 3) := by decide +kernel
theorem d3_50 : decode method_4_code 50 = .ok (.iconst (-1), 1) := by decide +kernel
theorem d3_51 : decode method_4_code 51 = .ok (.ireturn, 1) := by decide +kernel
theorem d3_52 : decode method_4_code 52 = .ok (.aload_n 0, 1) := by decide +kernel
theorem d3_53 : decode method_4_code 53 = .ok (.invokevirtual 23, 3) := by decide +kernel
theorem d3_56 : decode method_4_code 56 = .ok (.iload 7, 2) := by decide +kernel
theorem d3_58 : decode method_4_code 58 = .ok (.iload_n 3, 1) := by decide +kernel
theorem d3_59 : decode method_4_code 59 = .ok (.isub, 1) := by decide +kernel
theorem d3_60 : decode method_4_code 60 = .ok (.if_icmp .eq 5, 3) := by decide +kernel
theorem d3_63 : decode method_4_code 63 = .ok (.iconst (-1), 1) := by decide +kernel
theorem d3_64 : decode method_4_code 64 = .ok (.ireturn, 1) := by decide +kernel
theorem d3_65 : decode method_4_code 65 = .ok (.aload_n 0, 1) := by decide +kernel
theorem d3_66 : decode method_4_code 66 = .ok (.invokevirtual 26, 3) := by decide +kernel
theorem d3_69 : decode method_4_code 69 = .ok (.iload 4, 2) := by decide +kernel
theorem d3_71 : decode method_4_code 71 = .ok (.if_icmp .eq 5, 3) := by decide +kernel
theorem d3_74 : decode method_4_code 74 = .ok (.iconst (-1), 1) := by decide +kernel
theorem d3_75 : decode method_4_code 75 = .ok (.ireturn, 1) := by decide +kernel
theorem d3_76 : decode method_4_code 76 = .ok (.iload 7, 2) := by decide +kernel
theorem d3_78 : decode method_4_code 78 = .ok (.iconst 1, 1) := by decide +kernel
theorem d3_79 : decode method_4_code 79 = .ok (.iadd, 1) := by decide +kernel
theorem d3_80 : decode method_4_code 80 = .ok (.ireturn, 1) := by decide +kernel
def P3 (Z : State) (hE : Heap) (a1 : Addr) (a2 : Addr) (q_a1 : List Int32) (q_a2_end : Int32) (q_a2_start : Int32) (q_a2_number : Int32) (n0 : Nat) (r : Int32 × Int32 × Int32 × Int32) (v : Option Value) (h : Heap) (L : List Loc) : Prop := v = some (.int r.1) ∧ Fr n0 L ∧ Keep hE h [a2] ∧ Exa Z h a2 "com/example/braid/braid/BodyLines" ∧ Fld Z h a2 "com/example/braid/braid/BodyLines" "end" "I" (.int r.2.1) ∧ Fld Z h a2 "com/example/braid/braid/BodyLines" "body" "[B" (.ref a1) ∧ Fld Z h a2 "com/example/braid/braid/BodyLines" "start" "I" (.int r.2.2.1) ∧ Fld Z h a2 "com/example/braid/braid/BodyLines" "number" "I" (.int r.2.2.2)
def g3_16 (fuel : Nat) (x2 : Int32) (x3 : Int32) (x4 : Int32) (x5 : Int32) (u0 : Int32) (q_a1 : List Int32) (q_a2_end : Int32) (q_a2_start : Int32) (q_a2_number : Int32) : Option (Int32 × Int32 × Int32 × Int32) := (if x5 = u0 then (if u0 = (0 : Int32) then some (x3, q_a2_end, q_a2_start, q_a2_number) else ((f7 x2 x3 q_a1).bind fun r3 => ((f8 q_a1 q_a2_end q_a2_start q_a2_number).bind fun r4 => (if r4 = x3 then ((f9 q_a1 q_a2_end q_a2_start q_a2_number).bind fun r6 => (if r6 = (r3 - x3) then ((f5 q_a1 q_a2_end q_a2_start q_a2_number).bind fun r8 => (if r8 = x4 then some ((r3 + (1 : Int32)), q_a2_end, q_a2_start, q_a2_number) else some ((-1 : Int32), q_a2_end, q_a2_start, q_a2_number))) else some ((-1 : Int32), q_a2_end, q_a2_start, q_a2_number))) else some ((-1 : Int32), q_a2_end, q_a2_start, q_a2_number))))) else some ((-1 : Int32), q_a2_end, q_a2_start, q_a2_number))
set_option maxRecDepth 65536 in
set_option maxHeartbeats 4000000 in
theorem b3_16 {hE : Heap} {a1 : Addr} {a2 : Addr} {q_a1 : List Int32} {q_a2_end₀ : Int32} {q_a2_start₀ : Int32} {q_a2_number₀ : Int32} {r : Int32 × Int32 × Int32 × Int32} (C : Ctx p s m meth c Z a0 "com/example/braid/braid/BodyLinesNextPinLaw" method_4_code 8 (some .int) "step") (fuel : Nat) (X0 : Stand p l e ({ frames := 1, cells := 0, slots := 0, locals := 14 } : Room) s m args below meth c T0 locs cells slots) (e0 : T0.heap = h0) (N0 : Fr n0 locs) (hk : cells ≤ 0) (hn : slots ≤ 0) (Z1 : n0 ≤ h0.size) (KE : Keep hE h0 [a2]) (o0 : n0 ≤ a1) (o1 : @LT.lt Nat instLTNat a1 a2) (q_a2_end : Int32) (q_a2_start : Int32) (q_a2_number : Int32) (x2 : Int32) (x3 : Int32) (x4 : Int32) (x5 : Int32) (u0 : Int32) (A_a1_0 : AI Z h0 a1 .byte q_a1) (E_a2_0 : Exa Z h0 a2 "com/example/braid/braid/BodyLines") (F_a2_end_0 : Fld Z h0 a2 "com/example/braid/braid/BodyLines" "end" "I" (.int q_a2_end)) (F_a2_body_0 : Fld Z h0 a2 "com/example/braid/braid/BodyLines" "body" "[B" (.ref a1)) (F_a2_start_0 : Fld Z h0 a2 "com/example/braid/braid/BodyLines" "start" "I" (.int q_a2_start)) (F_a2_number_0 : Fld Z h0 a2 "com/example/braid/braid/BodyLines" "number" "I" (.int q_a2_number)) (hr : g3_16 fuel x2 x3 x4 x5 u0 q_a1 q_a2_end q_a2_start q_a2_number = some r) :
    Runs p e below s (P3 Z hE a1 a2 q_a1 q_a2_end₀ q_a2_start₀ q_a2_number₀ n0 r) 0 0 T0 (mkF m 16 #[.val (.ref a2), .val (.ref a1), .val (.int x2), .val (.int x3), .val (.int x4), .val (.int x5), .unset, .unset] [(.int u0)]) := by
  unfold g3_16 at hr
  have ⟨hx, hZ, hw, hby, hml, hown, hret, hlk, hnm⟩ := C
  refine Runs.via (T' := T0) (g' := (mkF m 22 #[.val (.ref a2), .val (.ref a1), .val (.int x2), .val (.int x3), .val (.int x4), .val (.int x5), .val (.int u0), .unset] [(.int u0), (.int x5)])) (fun t k => ?_) ?_
  · show Steps p.tables e below (T0.setTop (mkF m 16 #[.val (.ref a2), .val (.ref a1), .val (.int x2), .val (.int x3), .val (.int x4), .val (.int x5), .unset, .unset] [(.int u0)])) t
    refine XS.istore X0.here hx rfl (hb hby d3_16) rfl (l' := #[.val (.ref a2), .val (.ref a1), .val (.int x2), .val (.int x3), .val (.int x4), .val (.int x5), .val (.int u0), .unset]) rfl ?_
    show Steps p.tables e below (T0.setTop (mkF m 18 #[.val (.ref a2), .val (.ref a1), .val (.int x2), .val (.int x3), .val (.int x4), .val (.int x5), .val (.int u0), .unset] [])) t
    refine XS.iload X0.here hx rfl (hb hby d3_18) rfl ?_
    show Steps p.tables e below (T0.setTop (mkF m 20 #[.val (.ref a2), .val (.ref a1), .val (.int x2), .val (.int x3), .val (.int x4), .val (.int x5), .val (.int u0), .unset] [(.int x5)])) t
    refine XS.iload X0.here hx rfl (hb hby d3_20) rfl ?_
    exact k
  refine iteE hr (fun hc1 hr => ?_) (fun hc1 hr => ?_)
  · refine Runs.via (T' := T0) (g' := (mkF m 27 #[.val (.ref a2), .val (.ref a1), .val (.int x2), .val (.int x3), .val (.int x4), .val (.int x5), .val (.int u0), .unset] [])) (fun t k => ?_) ?_
    · show Steps p.tables e below (T0.setTop (mkF m 22 #[.val (.ref a2), .val (.ref a1), .val (.int x2), .val (.int x3), .val (.int x4), .val (.int x5), .val (.int u0), .unset] [(.int u0), (.int x5)])) t
      exact XS.icmpYes X0.here hx rfl (pc0 := 22) (pc' := 27) rfl (hb hby d3_22) rfl (teq hc1).1 (by decide) (by decide) k
    refine Runs.via (T' := T0) (g' := (mkF m 29 #[.val (.ref a2), .val (.ref a1), .val (.int x2), .val (.int x3), .val (.int x4), .val (.int x5), .val (.int u0), .unset] [(.int u0)])) (fun t k => ?_) ?_
    · show Steps p.tables e below (T0.setTop (mkF m 27 #[.val (.ref a2), .val (.ref a1), .val (.int x2), .val (.int x3), .val (.int x4), .val (.int x5), .val (.int u0), .unset] [])) t
      refine XS.iload X0.here hx rfl (hb hby d3_27) rfl ?_
      exact k
    refine iteE hr (fun hc2 hr => ?_) (fun hc2 hr => ?_)
    · refine Runs.via (T' := T0) (g' := (mkF m 32 #[.val (.ref a2), .val (.ref a1), .val (.int x2), .val (.int x3), .val (.int x4), .val (.int x5), .val (.int u0), .unset] [])) (fun t k => ?_) ?_
      · show Steps p.tables e below (T0.setTop (mkF m 29 #[.val (.ref a2), .val (.ref a1), .val (.int x2), .val (.int x3), .val (.int x4), .val (.int x5), .val (.int u0), .unset] [(.int u0)])) t
        exact XS.ifNo X0.here hx rfl (hb hby d3_29) rfl ((if0 _ _).trans (teq hc2).2) k
      refine Runs.via (T' := T0) (g' := (mkF m 33 #[.val (.ref a2), .val (.ref a1), .val (.int x2), .val (.int x3), .val (.int x4), .val (.int x5), .val (.int u0), .unset] [(.int x3)])) (fun t k => ?_) ?_
      · show Steps p.tables e below (T0.setTop (mkF m 32 #[.val (.ref a2), .val (.ref a1), .val (.int x2), .val (.int x3), .val (.int x4), .val (.int x5), .val (.int u0), .unset] [])) t
        refine XS.iloadN X0.here hx rfl (hb hby d3_32) rfl ?_
        exact k
      obtain rfl := Option.some.inj hr
      exact own_retI X0 hx hlk hret (hb hby d3_33) (by show cells ≤ 0; omega) (by show slots ≤ 0; omega) ⟨rfl, N0, (by rw [e0]; exact KE), (by rw [e0]; exact E_a2_0), (by rw [e0]; exact F_a2_end_0), (by rw [e0]; exact F_a2_body_0), (by rw [e0]; exact F_a2_start_0), (by rw [e0]; exact F_a2_number_0)⟩
    · refine Runs.via (T' := T0) (g' := (mkF m 34 #[.val (.ref a2), .val (.ref a1), .val (.int x2), .val (.int x3), .val (.int x4), .val (.int x5), .val (.int u0), .unset] [])) (fun t k => ?_) ?_
      · show Steps p.tables e below (T0.setTop (mkF m 29 #[.val (.ref a2), .val (.ref a1), .val (.int x2), .val (.int x3), .val (.int x4), .val (.int x5), .val (.int u0), .unset] [(.int u0)])) t
        exact XS.ifYes X0.here hx rfl (pc0 := 29) (pc' := 34) rfl (hb hby d3_29) rfl ((if0 _ _).trans (feq hc2).2) (by decide) (by decide) k
      refine Runs.via (T' := T0) (g' := (mkF m 37 #[.val (.ref a2), .val (.ref a1), .val (.int x2), .val (.int x3), .val (.int x4), .val (.int x5), .val (.int u0), .unset] [(.int x3), (.int x2), (.ref a1)])) (fun t k => ?_) ?_
      · show Steps p.tables e below (T0.setTop (mkF m 34 #[.val (.ref a2), .val (.ref a1), .val (.int x2), .val (.int x3), .val (.int x4), .val (.int x5), .val (.int u0), .unset] [])) t
        refine XS.aloadN X0.here hx rfl (hb hby d3_34) rfl rfl ?_
        show Steps p.tables e below (T0.setTop (mkF m 35 #[.val (.ref a2), .val (.ref a1), .val (.int x2), .val (.int x3), .val (.int x4), .val (.int x5), .val (.int u0), .unset] [(.ref a1)])) t
        refine XS.iloadN X0.here hx rfl (hb hby d3_35) rfl ?_
        show Steps p.tables e below (T0.setTop (mkF m 36 #[.val (.ref a2), .val (.ref a1), .val (.int x2), .val (.int x3), .val (.int x4), .val (.int x5), .val (.int u0), .unset] [(.int x2), (.ref a1)])) t
        refine XS.iloadN X0.here hx rfl (hb hby d3_36) rfl ?_
        exact k
      refine bindE hr ?_; intro r3 hr3m hr
      obtain ⟨_, _, ⟨T3, L3, k3, n3⟩, -, X3, ⟨Lc3, hQ3, l3, y3, z3⟩, st3⟩ := Jvm.LawKit.callS X0 hx (y := (⟨"com/example/braid/braid/BodyLinesNextPinLaw", "endFrom", "([BII)I"⟩ : MethodName)) hown (mvT hZ (hw _ (List.mem_of_getElem? (i := 35) rfl))) (mvT hZ (hw _ (List.mem_of_getElem? (i := 36) rfl))) (mvT hZ (hw _ (List.mem_of_getElem? (i := 16) rfl))) (mvT hZ (hw _ (List.mem_of_getElem? (i := 37) rfl))) (by decide) (backOf (W := 0) (rm7 l Z a0 hw [] x2 x3 a1 q_a1 h0 n0 Z1 (by omega) A_a1_0 r3 hr3m) hZ (hw _ (List.mem_of_getElem? (i := 37) rfl)) (hw _ (List.mem_of_getElem? (i := 16) rfl)) (by decide) (by decide)) (g := (mkF m 37 #[.val (.ref a2), .val (.ref a1), .val (.int x2), .val (.int x3), .val (.int x4), .val (.int x5), .val (.int u0), .unset] [(.int x3), (.int x2), (.ref a1)])) rfl (by rw [hml]; rfl) (argsL := [(.ref a1), (.int x2), (.int x3)]) (rest := []) (lenOf pd_3 rfl) rfl (by show 2 * 0 + _ ≤ _; exact Nat.le_of_eq rfl) (hb hby d3_37) (fun _ _ => ⟨rfl, e0, (by show cells + 0 ≤ 0; omega), (by show slots + 0 ≤ 0; omega)⟩)
      dsimp only [Pt.U, Pt.locs, Pt.cells, Pt.slots] at X3 l3 y3 z3 st3 hQ3
      replace y3 := y3.symm; replace z3 := z3.symm; subst l3 y3 z3
      obtain ⟨rfl, N3q, e3⟩ := hQ3
      have N3 := Fr.app N0 N3q
      refine Runs.via (T' := T3) (g' := (mkF m 40 #[.val (.ref a2), .val (.ref a1), .val (.int x2), .val (.int x3), .val (.int x4), .val (.int x5), .val (.int u0), .unset] [(.int r3)])) (fun t k => st3 _ k) ?_
      refine Runs.via (T' := T3) (g' := (mkF m 43 #[.val (.ref a2), .val (.ref a1), .val (.int x2), .val (.int x3), .val (.int x4), .val (.int x5), .val (.int u0), .val (.int r3)] [(.ref a2)])) (fun t k => ?_) ?_
      · show Steps p.tables e below (T3.setTop (mkF m 40 #[.val (.ref a2), .val (.ref a1), .val (.int x2), .val (.int x3), .val (.int x4), .val (.int x5), .val (.int u0), .unset] [(.int r3)])) t
        refine XS.istore X3.here hx rfl (hb hby d3_40) rfl (l' := #[.val (.ref a2), .val (.ref a1), .val (.int x2), .val (.int x3), .val (.int x4), .val (.int x5), .val (.int u0), .val (.int r3)]) rfl ?_
        show Steps p.tables e below (T3.setTop (mkF m 42 #[.val (.ref a2), .val (.ref a1), .val (.int x2), .val (.int x3), .val (.int x4), .val (.int x5), .val (.int u0), .val (.int r3)] [])) t
        refine XS.aloadN X3.here hx rfl (hb hby d3_42) rfl rfl ?_
        exact k
      refine bindE hr ?_; intro r4 hr4m hr
      obtain ⟨cq4, kq4, q4a, q4b, q4c⟩ := isOf hZ e3 E_a2_0
      obtain ⟨_, _, ⟨T4, L4, k4, n4⟩, -, X4, ⟨Lc4, hQ4, l4, y4, z4⟩, st4⟩ := X3.virtualBack hx (y := (⟨"com/example/braid/braid/BodyLines", "start", "()I"⟩ : MethodName)) (z := (⟨"com/example/braid/braid/BodyLines", "start", "()I"⟩ : MethodName)) hown (mvT hZ (hw _ (List.mem_of_getElem? (i := 38) rfl))) (mvT hZ (hw _ (List.mem_of_getElem? (i := 39) rfl))) (notFace_of_selects (args := #[]) (mvT hZ (hw _ (List.mem_of_getElem? (i := 41) rfl)))) (mvT hZ (hw _ (List.mem_of_getElem? (i := 41) rfl))) (mvT hZ (hw _ (List.mem_of_getElem? (i := 40) rfl))) (by decide) (backOf (W := 0) (rm8 l Z a0 hw [] a1 a2 q_a1 q_a2_end q_a2_start q_a2_number h0 n0 Z1 (by omega) (by omega) A_a1_0 E_a2_0 F_a2_end_0 F_a2_body_0 F_a2_start_0 F_a2_number_0 r4 hr4m) hZ (hw _ (List.mem_of_getElem? (i := 42) rfl)) (hw _ (List.mem_of_getElem? (i := 3) rfl)) (by decide) (by decide)) q4a q4c (g := (mkF m 43 #[.val (.ref a2), .val (.ref a1), .val (.int x2), .val (.int x3), .val (.int x4), .val (.int x5), .val (.int u0), .val (.int r3)] [(.ref a2)])) rfl (by rw [hml]; rfl) (Steps.refl _) (argsL := []) (rest := []) (lenOf pd_4 rfl) rfl (by show 2 * 0 + _ ≤ _; exact Nat.le_of_eq rfl) (hb hby d3_43) (fun _ _ => ⟨rfl, e3, (by show (cells + 0) + 0 ≤ 0; omega), (by show (slots + 0) + 0 ≤ 0; omega)⟩)
      dsimp only [Pt.U, Pt.locs, Pt.cells, Pt.slots] at X4 l4 y4 z4 st4 hQ4
      replace y4 := y4.symm; replace z4 := z4.symm; subst l4 y4 z4
      obtain ⟨rfl, N4q, e4⟩ := hQ4
      have N4 := Fr.app N3 N4q
      refine Runs.via (T' := T4) (g' := (mkF m 46 #[.val (.ref a2), .val (.ref a1), .val (.int x2), .val (.int x3), .val (.int x4), .val (.int x5), .val (.int u0), .val (.int r3)] [(.int r4)])) (fun t k => st4.trans k) ?_
      refine Runs.via (T' := T4) (g' := (mkF m 47 #[.val (.ref a2), .val (.ref a1), .val (.int x2), .val (.int x3), .val (.int x4), .val (.int x5), .val (.int u0), .val (.int r3)] [(.int x3), (.int r4)])) (fun t k => ?_) ?_
      · show Steps p.tables e below (T4.setTop (mkF m 46 #[.val (.ref a2), .val (.ref a1), .val (.int x2), .val (.int x3), .val (.int x4), .val (.int x5), .val (.int u0), .val (.int r3)] [(.int r4)])) t
        refine XS.iloadN X4.here hx rfl (hb hby d3_46) rfl ?_
        exact k
      refine iteE hr (fun hc5 hr => ?_) (fun hc5 hr => ?_)
      · refine Runs.via (T' := T4) (g' := (mkF m 52 #[.val (.ref a2), .val (.ref a1), .val (.int x2), .val (.int x3), .val (.int x4), .val (.int x5), .val (.int u0), .val (.int r3)] [])) (fun t k => ?_) ?_
        · show Steps p.tables e below (T4.setTop (mkF m 47 #[.val (.ref a2), .val (.ref a1), .val (.int x2), .val (.int x3), .val (.int x4), .val (.int x5), .val (.int u0), .val (.int r3)] [(.int x3), (.int r4)])) t
          exact XS.icmpYes X4.here hx rfl (pc0 := 47) (pc' := 52) rfl (hb hby d3_47) rfl (teq hc5).1 (by decide) (by decide) k
        refine Runs.via (T' := T4) (g' := (mkF m 53 #[.val (.ref a2), .val (.ref a1), .val (.int x2), .val (.int x3), .val (.int x4), .val (.int x5), .val (.int u0), .val (.int r3)] [(.ref a2)])) (fun t k => ?_) ?_
        · show Steps p.tables e below (T4.setTop (mkF m 52 #[.val (.ref a2), .val (.ref a1), .val (.int x2), .val (.int x3), .val (.int x4), .val (.int x5), .val (.int u0), .val (.int r3)] [])) t
          refine XS.aloadN X4.here hx rfl (hb hby d3_52) rfl rfl ?_
          exact k
        refine bindE hr ?_; intro r6 hr6m hr
        obtain ⟨cq6, kq6, q6a, q6b, q6c⟩ := isOf hZ e4 E_a2_0
        obtain ⟨_, _, ⟨T6, L6, k6, n6⟩, -, X6, ⟨Lc6, hQ6, l6, y6, z6⟩, st6⟩ := X4.virtualBack hx (y := (⟨"com/example/braid/braid/BodyLines", "length", "()I"⟩ : MethodName)) (z := (⟨"com/example/braid/braid/BodyLines", "length", "()I"⟩ : MethodName)) hown (mvT hZ (hw _ (List.mem_of_getElem? (i := 43) rfl))) (mvT hZ (hw _ (List.mem_of_getElem? (i := 44) rfl))) (notFace_of_selects (args := #[]) (mvT hZ (hw _ (List.mem_of_getElem? (i := 46) rfl)))) (mvT hZ (hw _ (List.mem_of_getElem? (i := 46) rfl))) (mvT hZ (hw _ (List.mem_of_getElem? (i := 45) rfl))) (by decide) (backOf (W := 0) (rm9 l Z a0 hw [] a1 a2 q_a1 q_a2_end q_a2_start q_a2_number h0 n0 Z1 (by omega) (by omega) A_a1_0 E_a2_0 F_a2_end_0 F_a2_body_0 F_a2_start_0 F_a2_number_0 r6 hr6m) hZ (hw _ (List.mem_of_getElem? (i := 47) rfl)) (hw _ (List.mem_of_getElem? (i := 3) rfl)) (by decide) (by decide)) q6a q6c (g := (mkF m 53 #[.val (.ref a2), .val (.ref a1), .val (.int x2), .val (.int x3), .val (.int x4), .val (.int x5), .val (.int u0), .val (.int r3)] [(.ref a2)])) rfl (by rw [hml]; rfl) (Steps.refl _) (argsL := []) (rest := []) (lenOf pd_4 rfl) rfl (by show 2 * 0 + _ ≤ _; exact Nat.le_of_eq rfl) (hb hby d3_53) (fun _ _ => ⟨rfl, e4, (by show ((cells + 0) + 0) + 0 ≤ 0; omega), (by show ((slots + 0) + 0) + 0 ≤ 0; omega)⟩)
        dsimp only [Pt.U, Pt.locs, Pt.cells, Pt.slots] at X6 l6 y6 z6 st6 hQ6
        replace y6 := y6.symm; replace z6 := z6.symm; subst l6 y6 z6
        obtain ⟨rfl, N6q, e6⟩ := hQ6
        have N6 := Fr.app N4 N6q
        refine Runs.via (T' := T6) (g' := (mkF m 56 #[.val (.ref a2), .val (.ref a1), .val (.int x2), .val (.int x3), .val (.int x4), .val (.int x5), .val (.int u0), .val (.int r3)] [(.int r6)])) (fun t k => st6.trans k) ?_
        refine Runs.via (T' := T6) (g' := (mkF m 60 #[.val (.ref a2), .val (.ref a1), .val (.int x2), .val (.int x3), .val (.int x4), .val (.int x5), .val (.int u0), .val (.int r3)] [(.int (r3 - x3)), (.int r6)])) (fun t k => ?_) ?_
        · show Steps p.tables e below (T6.setTop (mkF m 56 #[.val (.ref a2), .val (.ref a1), .val (.int x2), .val (.int x3), .val (.int x4), .val (.int x5), .val (.int u0), .val (.int r3)] [(.int r6)])) t
          refine XS.iload X6.here hx rfl (hb hby d3_56) rfl ?_
          show Steps p.tables e below (T6.setTop (mkF m 58 #[.val (.ref a2), .val (.ref a1), .val (.int x2), .val (.int x3), .val (.int x4), .val (.int x5), .val (.int u0), .val (.int r3)] [(.int r3), (.int r6)])) t
          refine XS.iloadN X6.here hx rfl (hb hby d3_58) rfl ?_
          show Steps p.tables e below (T6.setTop (mkF m 59 #[.val (.ref a2), .val (.ref a1), .val (.int x2), .val (.int x3), .val (.int x4), .val (.int x5), .val (.int u0), .val (.int r3)] [(.int x3), (.int r3), (.int r6)])) t
          refine XS.isub X6.here hx rfl (hb hby d3_59) rfl ?_
          exact k
        refine iteE hr (fun hc7 hr => ?_) (fun hc7 hr => ?_)
        · refine Runs.via (T' := T6) (g' := (mkF m 65 #[.val (.ref a2), .val (.ref a1), .val (.int x2), .val (.int x3), .val (.int x4), .val (.int x5), .val (.int u0), .val (.int r3)] [])) (fun t k => ?_) ?_
          · show Steps p.tables e below (T6.setTop (mkF m 60 #[.val (.ref a2), .val (.ref a1), .val (.int x2), .val (.int x3), .val (.int x4), .val (.int x5), .val (.int u0), .val (.int r3)] [(.int (r3 - x3)), (.int r6)])) t
            exact XS.icmpYes X6.here hx rfl (pc0 := 60) (pc' := 65) rfl (hb hby d3_60) rfl (teq hc7).1 (by decide) (by decide) k
          refine Runs.via (T' := T6) (g' := (mkF m 66 #[.val (.ref a2), .val (.ref a1), .val (.int x2), .val (.int x3), .val (.int x4), .val (.int x5), .val (.int u0), .val (.int r3)] [(.ref a2)])) (fun t k => ?_) ?_
          · show Steps p.tables e below (T6.setTop (mkF m 65 #[.val (.ref a2), .val (.ref a1), .val (.int x2), .val (.int x3), .val (.int x4), .val (.int x5), .val (.int u0), .val (.int r3)] [])) t
            refine XS.aloadN X6.here hx rfl (hb hby d3_65) rfl rfl ?_
            exact k
          refine bindE hr ?_; intro r8 hr8m hr
          obtain ⟨cq8, kq8, q8a, q8b, q8c⟩ := isOf hZ e6 E_a2_0
          obtain ⟨_, _, ⟨T8, L8, k8, n8⟩, -, X8, ⟨Lc8, hQ8, l8, y8, z8⟩, st8⟩ := X6.virtualBack hx (y := (⟨"com/example/braid/braid/BodyLines", "number", "()I"⟩ : MethodName)) (z := (⟨"com/example/braid/braid/BodyLines", "number", "()I"⟩ : MethodName)) hown (mvT hZ (hw _ (List.mem_of_getElem? (i := 25) rfl))) (mvT hZ (hw _ (List.mem_of_getElem? (i := 26) rfl))) (notFace_of_selects (args := #[]) (mvT hZ (hw _ (List.mem_of_getElem? (i := 28) rfl)))) (mvT hZ (hw _ (List.mem_of_getElem? (i := 28) rfl))) (mvT hZ (hw _ (List.mem_of_getElem? (i := 27) rfl))) (by decide) (backOf (W := 0) (rm5 l Z a0 hw [] a1 a2 q_a1 q_a2_end q_a2_start q_a2_number h0 n0 Z1 (by omega) (by omega) A_a1_0 E_a2_0 F_a2_end_0 F_a2_body_0 F_a2_start_0 F_a2_number_0 r8 hr8m) hZ (hw _ (List.mem_of_getElem? (i := 29) rfl)) (hw _ (List.mem_of_getElem? (i := 3) rfl)) (by decide) (by decide)) q8a q8c (g := (mkF m 66 #[.val (.ref a2), .val (.ref a1), .val (.int x2), .val (.int x3), .val (.int x4), .val (.int x5), .val (.int u0), .val (.int r3)] [(.ref a2)])) rfl (by rw [hml]; rfl) (Steps.refl _) (argsL := []) (rest := []) (lenOf pd_4 rfl) rfl (by show 2 * 0 + _ ≤ _; exact Nat.le_of_eq rfl) (hb hby d3_66) (fun _ _ => ⟨rfl, e6, (by show (((cells + 0) + 0) + 0) + 0 ≤ 0; omega), (by show (((slots + 0) + 0) + 0) + 0 ≤ 0; omega)⟩)
          dsimp only [Pt.U, Pt.locs, Pt.cells, Pt.slots] at X8 l8 y8 z8 st8 hQ8
          replace y8 := y8.symm; replace z8 := z8.symm; subst l8 y8 z8
          obtain ⟨rfl, N8q, e8⟩ := hQ8
          have N8 := Fr.app N6 N8q
          refine Runs.via (T' := T8) (g' := (mkF m 69 #[.val (.ref a2), .val (.ref a1), .val (.int x2), .val (.int x3), .val (.int x4), .val (.int x5), .val (.int u0), .val (.int r3)] [(.int r8)])) (fun t k => st8.trans k) ?_
          refine Runs.via (T' := T8) (g' := (mkF m 71 #[.val (.ref a2), .val (.ref a1), .val (.int x2), .val (.int x3), .val (.int x4), .val (.int x5), .val (.int u0), .val (.int r3)] [(.int x4), (.int r8)])) (fun t k => ?_) ?_
          · show Steps p.tables e below (T8.setTop (mkF m 69 #[.val (.ref a2), .val (.ref a1), .val (.int x2), .val (.int x3), .val (.int x4), .val (.int x5), .val (.int u0), .val (.int r3)] [(.int r8)])) t
            refine XS.iload X8.here hx rfl (hb hby d3_69) rfl ?_
            exact k
          refine iteE hr (fun hc9 hr => ?_) (fun hc9 hr => ?_)
          · refine Runs.via (T' := T8) (g' := (mkF m 76 #[.val (.ref a2), .val (.ref a1), .val (.int x2), .val (.int x3), .val (.int x4), .val (.int x5), .val (.int u0), .val (.int r3)] [])) (fun t k => ?_) ?_
            · show Steps p.tables e below (T8.setTop (mkF m 71 #[.val (.ref a2), .val (.ref a1), .val (.int x2), .val (.int x3), .val (.int x4), .val (.int x5), .val (.int u0), .val (.int r3)] [(.int x4), (.int r8)])) t
              exact XS.icmpYes X8.here hx rfl (pc0 := 71) (pc' := 76) rfl (hb hby d3_71) rfl (teq hc9).1 (by decide) (by decide) k
            refine Runs.via (T' := T8) (g' := (mkF m 80 #[.val (.ref a2), .val (.ref a1), .val (.int x2), .val (.int x3), .val (.int x4), .val (.int x5), .val (.int u0), .val (.int r3)] [(.int (r3 + (1 : Int32)))])) (fun t k => ?_) ?_
            · show Steps p.tables e below (T8.setTop (mkF m 76 #[.val (.ref a2), .val (.ref a1), .val (.int x2), .val (.int x3), .val (.int x4), .val (.int x5), .val (.int u0), .val (.int r3)] [])) t
              refine XS.iload X8.here hx rfl (hb hby d3_76) rfl ?_
              show Steps p.tables e below (T8.setTop (mkF m 78 #[.val (.ref a2), .val (.ref a1), .val (.int x2), .val (.int x3), .val (.int x4), .val (.int x5), .val (.int u0), .val (.int r3)] [(.int r3)])) t
              refine XS.iconst X8.here hx rfl (hb hby d3_78) ?_
              show Steps p.tables e below (T8.setTop (mkF m 79 #[.val (.ref a2), .val (.ref a1), .val (.int x2), .val (.int x3), .val (.int x4), .val (.int x5), .val (.int u0), .val (.int r3)] [(.int (1 : Int32)), (.int r3)])) t
              refine XS.iadd X8.here hx rfl (hb hby d3_79) rfl ?_
              exact k
            obtain rfl := Option.some.inj hr
            exact own_retI X8 hx hlk hret (hb hby d3_80) (by show ((((cells + 0) + 0) + 0) + 0) ≤ 0; omega) (by show ((((slots + 0) + 0) + 0) + 0) ≤ 0; omega) ⟨rfl, N8, (by rw [e8]; exact KE), (by rw [e8]; exact E_a2_0), (by rw [e8]; exact F_a2_end_0), (by rw [e8]; exact F_a2_body_0), (by rw [e8]; exact F_a2_start_0), (by rw [e8]; exact F_a2_number_0)⟩
          · refine Runs.via (T' := T8) (g' := (mkF m 74 #[.val (.ref a2), .val (.ref a1), .val (.int x2), .val (.int x3), .val (.int x4), .val (.int x5), .val (.int u0), .val (.int r3)] [])) (fun t k => ?_) ?_
            · show Steps p.tables e below (T8.setTop (mkF m 71 #[.val (.ref a2), .val (.ref a1), .val (.int x2), .val (.int x3), .val (.int x4), .val (.int x5), .val (.int u0), .val (.int r3)] [(.int x4), (.int r8)])) t
              exact XS.icmpNo X8.here hx rfl (hb hby d3_71) rfl (feq hc9).1 k
            refine Runs.via (T' := T8) (g' := (mkF m 75 #[.val (.ref a2), .val (.ref a1), .val (.int x2), .val (.int x3), .val (.int x4), .val (.int x5), .val (.int u0), .val (.int r3)] [(.int (-1 : Int32))])) (fun t k => ?_) ?_
            · show Steps p.tables e below (T8.setTop (mkF m 74 #[.val (.ref a2), .val (.ref a1), .val (.int x2), .val (.int x3), .val (.int x4), .val (.int x5), .val (.int u0), .val (.int r3)] [])) t
              refine XS.iconst X8.here hx rfl (hb hby d3_74) ?_
              exact k
            obtain rfl := Option.some.inj hr
            exact own_retI X8 hx hlk hret (hb hby d3_75) (by show ((((cells + 0) + 0) + 0) + 0) ≤ 0; omega) (by show ((((slots + 0) + 0) + 0) + 0) ≤ 0; omega) ⟨rfl, N8, (by rw [e8]; exact KE), (by rw [e8]; exact E_a2_0), (by rw [e8]; exact F_a2_end_0), (by rw [e8]; exact F_a2_body_0), (by rw [e8]; exact F_a2_start_0), (by rw [e8]; exact F_a2_number_0)⟩
        · refine Runs.via (T' := T6) (g' := (mkF m 63 #[.val (.ref a2), .val (.ref a1), .val (.int x2), .val (.int x3), .val (.int x4), .val (.int x5), .val (.int u0), .val (.int r3)] [])) (fun t k => ?_) ?_
          · show Steps p.tables e below (T6.setTop (mkF m 60 #[.val (.ref a2), .val (.ref a1), .val (.int x2), .val (.int x3), .val (.int x4), .val (.int x5), .val (.int u0), .val (.int r3)] [(.int (r3 - x3)), (.int r6)])) t
            exact XS.icmpNo X6.here hx rfl (hb hby d3_60) rfl (feq hc7).1 k
          refine Runs.via (T' := T6) (g' := (mkF m 64 #[.val (.ref a2), .val (.ref a1), .val (.int x2), .val (.int x3), .val (.int x4), .val (.int x5), .val (.int u0), .val (.int r3)] [(.int (-1 : Int32))])) (fun t k => ?_) ?_
          · show Steps p.tables e below (T6.setTop (mkF m 63 #[.val (.ref a2), .val (.ref a1), .val (.int x2), .val (.int x3), .val (.int x4), .val (.int x5), .val (.int u0), .val (.int r3)] [])) t
            refine XS.iconst X6.here hx rfl (hb hby d3_63) ?_
            exact k
          obtain rfl := Option.some.inj hr
          exact own_retI X6 hx hlk hret (hb hby d3_64) (by show (((cells + 0) + 0) + 0) ≤ 0; omega) (by show (((slots + 0) + 0) + 0) ≤ 0; omega) ⟨rfl, N6, (by rw [e6]; exact KE), (by rw [e6]; exact E_a2_0), (by rw [e6]; exact F_a2_end_0), (by rw [e6]; exact F_a2_body_0), (by rw [e6]; exact F_a2_start_0), (by rw [e6]; exact F_a2_number_0)⟩
      · refine Runs.via (T' := T4) (g' := (mkF m 50 #[.val (.ref a2), .val (.ref a1), .val (.int x2), .val (.int x3), .val (.int x4), .val (.int x5), .val (.int u0), .val (.int r3)] [])) (fun t k => ?_) ?_
        · show Steps p.tables e below (T4.setTop (mkF m 47 #[.val (.ref a2), .val (.ref a1), .val (.int x2), .val (.int x3), .val (.int x4), .val (.int x5), .val (.int u0), .val (.int r3)] [(.int x3), (.int r4)])) t
          exact XS.icmpNo X4.here hx rfl (hb hby d3_47) rfl (feq hc5).1 k
        refine Runs.via (T' := T4) (g' := (mkF m 51 #[.val (.ref a2), .val (.ref a1), .val (.int x2), .val (.int x3), .val (.int x4), .val (.int x5), .val (.int u0), .val (.int r3)] [(.int (-1 : Int32))])) (fun t k => ?_) ?_
        · show Steps p.tables e below (T4.setTop (mkF m 50 #[.val (.ref a2), .val (.ref a1), .val (.int x2), .val (.int x3), .val (.int x4), .val (.int x5), .val (.int u0), .val (.int r3)] [])) t
          refine XS.iconst X4.here hx rfl (hb hby d3_50) ?_
          exact k
        obtain rfl := Option.some.inj hr
        exact own_retI X4 hx hlk hret (hb hby d3_51) (by show ((cells + 0) + 0) ≤ 0; omega) (by show ((slots + 0) + 0) ≤ 0; omega) ⟨rfl, N4, (by rw [e4]; exact KE), (by rw [e4]; exact E_a2_0), (by rw [e4]; exact F_a2_end_0), (by rw [e4]; exact F_a2_body_0), (by rw [e4]; exact F_a2_start_0), (by rw [e4]; exact F_a2_number_0)⟩
  · refine Runs.via (T' := T0) (g' := (mkF m 25 #[.val (.ref a2), .val (.ref a1), .val (.int x2), .val (.int x3), .val (.int x4), .val (.int x5), .val (.int u0), .unset] [])) (fun t k => ?_) ?_
    · show Steps p.tables e below (T0.setTop (mkF m 22 #[.val (.ref a2), .val (.ref a1), .val (.int x2), .val (.int x3), .val (.int x4), .val (.int x5), .val (.int u0), .unset] [(.int u0), (.int x5)])) t
      exact XS.icmpNo X0.here hx rfl (hb hby d3_22) rfl (feq hc1).1 k
    refine Runs.via (T' := T0) (g' := (mkF m 26 #[.val (.ref a2), .val (.ref a1), .val (.int x2), .val (.int x3), .val (.int x4), .val (.int x5), .val (.int u0), .unset] [(.int (-1 : Int32))])) (fun t k => ?_) ?_
    · show Steps p.tables e below (T0.setTop (mkF m 25 #[.val (.ref a2), .val (.ref a1), .val (.int x2), .val (.int x3), .val (.int x4), .val (.int x5), .val (.int u0), .unset] [])) t
      refine XS.iconst X0.here hx rfl (hb hby d3_25) ?_
      exact k
    obtain rfl := Option.some.inj hr
    exact own_retI X0 hx hlk hret (hb hby d3_26) (by show cells ≤ 0; omega) (by show slots ≤ 0; omega) ⟨rfl, N0, (by rw [e0]; exact KE), (by rw [e0]; exact E_a2_0), (by rw [e0]; exact F_a2_end_0), (by rw [e0]; exact F_a2_body_0), (by rw [e0]; exact F_a2_start_0), (by rw [e0]; exact F_a2_number_0)⟩
def g3_0 (fuel : Nat) (x2 : Int32) (x3 : Int32) (x4 : Int32) (q_a1 : List Int32) (q_a2_end : Int32) (q_a2_start : Int32) (q_a2_number : Int32) : Option (Int32 × Int32 × Int32 × Int32) := ((f4 fuel q_a1 q_a2_end q_a2_start q_a2_number).bind fun r1 => (if x3 < x2 then (g3_16 fuel x2 x3 x4 r1.1 (1 : Int32) q_a1 r1.2.1 r1.2.2.1 r1.2.2.2) else (g3_16 fuel x2 x3 x4 r1.1 (0 : Int32) q_a1 r1.2.1 r1.2.2.1 r1.2.2.2)))
set_option maxRecDepth 65536 in
set_option maxHeartbeats 4000000 in
theorem b3_0 {hE : Heap} {a1 : Addr} {a2 : Addr} {q_a1 : List Int32} {q_a2_end₀ : Int32} {q_a2_start₀ : Int32} {q_a2_number₀ : Int32} {r : Int32 × Int32 × Int32 × Int32} (C : Ctx p s m meth c Z a0 "com/example/braid/braid/BodyLinesNextPinLaw" method_4_code 8 (some .int) "step") (fuel : Nat) (X0 : Stand p l e ({ frames := 1, cells := 0, slots := 0, locals := 14 } : Room) s m args below meth c T0 locs cells slots) (e0 : T0.heap = h0) (N0 : Fr n0 locs) (hk : cells ≤ 0) (hn : slots ≤ 0) (Z1 : n0 ≤ h0.size) (KE : Keep hE h0 [a2]) (o0 : n0 ≤ a1) (o1 : @LT.lt Nat instLTNat a1 a2) (q_a2_end : Int32) (q_a2_start : Int32) (q_a2_number : Int32) (x2 : Int32) (x3 : Int32) (x4 : Int32) (A_a1_0 : AI Z h0 a1 .byte q_a1) (E_a2_0 : Exa Z h0 a2 "com/example/braid/braid/BodyLines") (F_a2_end_0 : Fld Z h0 a2 "com/example/braid/braid/BodyLines" "end" "I" (.int q_a2_end)) (F_a2_body_0 : Fld Z h0 a2 "com/example/braid/braid/BodyLines" "body" "[B" (.ref a1)) (F_a2_start_0 : Fld Z h0 a2 "com/example/braid/braid/BodyLines" "start" "I" (.int q_a2_start)) (F_a2_number_0 : Fld Z h0 a2 "com/example/braid/braid/BodyLines" "number" "I" (.int q_a2_number)) (hr : g3_0 fuel x2 x3 x4 q_a1 q_a2_end q_a2_start q_a2_number = some r) :
    Runs p e below s (P3 Z hE a1 a2 q_a1 q_a2_end₀ q_a2_start₀ q_a2_number₀ n0 r) 0 0 T0 (mkF m 0 #[.val (.ref a2), .val (.ref a1), .val (.int x2), .val (.int x3), .val (.int x4), .unset, .unset, .unset] []) := by
  unfold g3_0 at hr
  have ⟨hx, hZ, hw, hby, hml, hown, hret, hlk, hnm⟩ := C
  refine Runs.via (T' := T0) (g' := (mkF m 1 #[.val (.ref a2), .val (.ref a1), .val (.int x2), .val (.int x3), .val (.int x4), .unset, .unset, .unset] [(.ref a2)])) (fun t k => ?_) ?_
  · show Steps p.tables e below (T0.setTop (mkF m 0 #[.val (.ref a2), .val (.ref a1), .val (.int x2), .val (.int x3), .val (.int x4), .unset, .unset, .unset] [])) t
    refine XS.aloadN X0.here hx rfl (hb hby d3_0) rfl rfl ?_
    exact k
  refine bindE hr ?_; intro r1 hr1m hr
  obtain ⟨cq1, kq1, q1a, q1b, q1c⟩ := isOf hZ e0 E_a2_0
  obtain ⟨_, _, ⟨T1, L1, k1, n1⟩, -, X1, ⟨Lc1, hQ1, l1, y1, z1⟩, st1⟩ := X0.virtualBack hx (y := (⟨"com/example/braid/braid/BodyLines", "next", "()Z"⟩ : MethodName)) (z := (⟨"com/example/braid/braid/BodyLines", "next", "()Z"⟩ : MethodName)) hown (mvT hZ (hw _ (List.mem_of_getElem? (i := 18) rfl))) (mvT hZ (hw _ (List.mem_of_getElem? (i := 19) rfl))) (notFace_of_selects (args := #[]) (mvT hZ (hw _ (List.mem_of_getElem? (i := 21) rfl)))) (mvT hZ (hw _ (List.mem_of_getElem? (i := 21) rfl))) (mvT hZ (hw _ (List.mem_of_getElem? (i := 20) rfl))) (by decide) (backOf (W := 0) (rm4 l Z a0 hw [] a1 a2 q_a1 q_a2_end q_a2_start q_a2_number h0 n0 Z1 (by omega) (by omega) A_a1_0 E_a2_0 F_a2_end_0 F_a2_body_0 F_a2_start_0 F_a2_number_0 fuel r1 hr1m) hZ (hw _ (List.mem_of_getElem? (i := 22) rfl)) (hw _ (List.mem_of_getElem? (i := 3) rfl)) (by decide) (by decide)) q1a q1c (g := (mkF m 1 #[.val (.ref a2), .val (.ref a1), .val (.int x2), .val (.int x3), .val (.int x4), .unset, .unset, .unset] [(.ref a2)])) rfl (by rw [hml]; rfl) (Steps.refl _) (argsL := []) (rest := []) (lenOf pd_2 rfl) rfl (by show 2 * 0 + _ ≤ _; exact Nat.le_of_eq rfl) (hb hby d3_1) (fun _ _ => ⟨rfl, e0, (by show cells + 0 ≤ 0; omega), (by show slots + 0 ≤ 0; omega)⟩)
  dsimp only [Pt.U, Pt.locs, Pt.cells, Pt.slots] at X1 l1 y1 z1 st1 hQ1
  replace y1 := y1.symm; replace z1 := z1.symm; subst l1 y1 z1
  obtain ⟨h1, e1⟩ : ∃ z, T1.heap = z := ⟨_, rfl⟩
  rw [e1] at hQ1
  obtain ⟨rfl, N1q, K1q, E_a2_1, F_a2_end_1, F_a2_body_1, F_a2_start_1, F_a2_number_1⟩ := hQ1
  have N1 := Fr.app N0 N1q
  have A_a1_1 := A_a1_0.keep K1q (ninS (by omega : @Ne Nat a1 a2) nin0)
  have K1 := KE.trans K1q (allS (Or.inl (List.mem_of_getElem? (i := 0) rfl)) all0)
  have zz1 : n0 ≤ h1.size := Nat.le_trans Z1 K1q.1
  refine Runs.via (T' := T1) (g' := (mkF m 4 #[.val (.ref a2), .val (.ref a1), .val (.int x2), .val (.int x3), .val (.int x4), .unset, .unset, .unset] [(.int r1.1)])) (fun t k => st1.trans k) ?_
  refine Runs.via (T' := T1) (g' := (mkF m 8 #[.val (.ref a2), .val (.ref a1), .val (.int x2), .val (.int x3), .val (.int x4), .val (.int r1.1), .unset, .unset] [(.int x2), (.int x3)])) (fun t k => ?_) ?_
  · show Steps p.tables e below (T1.setTop (mkF m 4 #[.val (.ref a2), .val (.ref a1), .val (.int x2), .val (.int x3), .val (.int x4), .unset, .unset, .unset] [(.int r1.1)])) t
    refine XS.istore X1.here hx rfl (hb hby d3_4) rfl (l' := #[.val (.ref a2), .val (.ref a1), .val (.int x2), .val (.int x3), .val (.int x4), .val (.int r1.1), .unset, .unset]) rfl ?_
    show Steps p.tables e below (T1.setTop (mkF m 6 #[.val (.ref a2), .val (.ref a1), .val (.int x2), .val (.int x3), .val (.int x4), .val (.int r1.1), .unset, .unset] [])) t
    refine XS.iloadN X1.here hx rfl (hb hby d3_6) rfl ?_
    show Steps p.tables e below (T1.setTop (mkF m 7 #[.val (.ref a2), .val (.ref a1), .val (.int x2), .val (.int x3), .val (.int x4), .val (.int r1.1), .unset, .unset] [(.int x3)])) t
    refine XS.iloadN X1.here hx rfl (hb hby d3_7) rfl ?_
    exact k
  refine iteE hr (fun hc2 hr => ?_) (fun hc2 hr => ?_)
  · refine Runs.via (T' := T1) (g' := (mkF m 11 #[.val (.ref a2), .val (.ref a1), .val (.int x2), .val (.int x3), .val (.int x4), .val (.int r1.1), .unset, .unset] [])) (fun t k => ?_) ?_
    · show Steps p.tables e below (T1.setTop (mkF m 8 #[.val (.ref a2), .val (.ref a1), .val (.int x2), .val (.int x3), .val (.int x4), .val (.int r1.1), .unset, .unset] [(.int x2), (.int x3)])) t
      exact XS.icmpNo X1.here hx rfl (hb hby d3_8) rfl (tlt hc2).2.1 k
    refine Runs.via (T' := T1) (g' := (mkF m 16 #[.val (.ref a2), .val (.ref a1), .val (.int x2), .val (.int x3), .val (.int x4), .val (.int r1.1), .unset, .unset] [(.int (1 : Int32))])) (fun t k => ?_) ?_
    · show Steps p.tables e below (T1.setTop (mkF m 11 #[.val (.ref a2), .val (.ref a1), .val (.int x2), .val (.int x3), .val (.int x4), .val (.int r1.1), .unset, .unset] [])) t
      refine XS.iconst X1.here hx rfl (hb hby d3_11) ?_
      show Steps p.tables e below (T1.setTop (mkF m 12 #[.val (.ref a2), .val (.ref a1), .val (.int x2), .val (.int x3), .val (.int x4), .val (.int r1.1), .unset, .unset] [(.int (1 : Int32))])) t
      refine XS.goto X1.here hx rfl (pc0 := 12) (pc' := 16) rfl (hb hby d3_12) (by decide) (by decide) ?_
      exact k
    exact b3_16 C fuel X1 e1 N1 (by show (cells + 0) ≤ 0; omega) (by show (slots + 0) ≤ 0; omega) zz1 K1 (by omega) (by omega) r1.2.1 r1.2.2.1 r1.2.2.2 x2 x3 x4 r1.1 (1 : Int32) A_a1_1 E_a2_1 F_a2_end_1 F_a2_body_1 F_a2_start_1 F_a2_number_1 hr
  · refine Runs.via (T' := T1) (g' := (mkF m 15 #[.val (.ref a2), .val (.ref a1), .val (.int x2), .val (.int x3), .val (.int x4), .val (.int r1.1), .unset, .unset] [])) (fun t k => ?_) ?_
    · show Steps p.tables e below (T1.setTop (mkF m 8 #[.val (.ref a2), .val (.ref a1), .val (.int x2), .val (.int x3), .val (.int x4), .val (.int r1.1), .unset, .unset] [(.int x2), (.int x3)])) t
      exact XS.icmpYes X1.here hx rfl (pc0 := 8) (pc' := 15) rfl (hb hby d3_8) rfl (flt hc2).2.1 (by decide) (by decide) k
    refine Runs.via (T' := T1) (g' := (mkF m 16 #[.val (.ref a2), .val (.ref a1), .val (.int x2), .val (.int x3), .val (.int x4), .val (.int r1.1), .unset, .unset] [(.int (0 : Int32))])) (fun t k => ?_) ?_
    · show Steps p.tables e below (T1.setTop (mkF m 15 #[.val (.ref a2), .val (.ref a1), .val (.int x2), .val (.int x3), .val (.int x4), .val (.int r1.1), .unset, .unset] [])) t
      refine XS.iconst X1.here hx rfl (hb hby d3_15) ?_
      exact k
    exact b3_16 C fuel X1 e1 N1 (by show (cells + 0) ≤ 0; omega) (by show (slots + 0) ≤ 0; omega) zz1 K1 (by omega) (by omega) r1.2.1 r1.2.2.1 r1.2.2.2 x2 x3 x4 r1.1 (0 : Int32) A_a1_1 E_a2_1 F_a2_end_1 F_a2_body_1 F_a2_start_1 F_a2_number_1 hr
def f3 (fuel : Nat) (x2 : Int32) (x3 : Int32) (x4 : Int32) (q_a1 : List Int32) (q_a2_end : Int32) (q_a2_start : Int32) (q_a2_number : Int32) : Option (Int32 × Int32 × Int32 × Int32) := g3_0 fuel x2 x3 x4 q_a1 q_a2_end q_a2_start q_a2_number
theorem pn_3 : plainName "com/example/braid/braid/BodyLinesNextPinLaw" = true := by first | (simp [plainName, overriddenIn]; done) | decide +kernel
theorem ef_3 (m : MethodId) (x2 : Int32) (x3 : Int32) (x4 : Int32) (a1 : Addr) (a2 : Addr) : entryFrame m #[(.ref a2), (.ref a1), (.int x2), (.int x3), (.int x4)] 8 = mkF m 0 #[.val (.ref a2), .val (.ref a1), .val (.int x2), .val (.int x3), .val (.int x4), .unset, .unset, .unset] [] := by first | (simp [entryFrame, mkF, argsToLocals, Value.category]; done) | rfl
set_option maxRecDepth 65536 in
set_option maxHeartbeats 4000000 in
theorem rm3 (l : Launch) (Z : State) (a0 : Array Value) (hw : ∀ d ∈ tables_1, d.before a0 Z = true) (ws : List Jvm.Cond) (x2 : Int32) (x3 : Int32) (x4 : Int32) (a1 : Addr) (a2 : Addr) (q_a1 : List Int32) (q_a2_end : Int32) (q_a2_start : Int32) (q_a2_number : Int32) (hE : Heap) (n0 : Nat) (Z0 : n0 ≤ hE.size) (o0 : n0 ≤ a1) (o1 : @LT.lt Nat instLTNat a1 a2) (A_a1_0 : AI Z hE a1 .byte q_a1) (E_a2_0 : Exa Z hE a2 "com/example/braid/braid/BodyLines") (F_a2_end_0 : Fld Z hE a2 "com/example/braid/braid/BodyLines" "end" "I" (.int q_a2_end)) (F_a2_body_0 : Fld Z hE a2 "com/example/braid/braid/BodyLines" "body" "[B" (.ref a1)) (F_a2_start_0 : Fld Z hE a2 "com/example/braid/braid/BodyLines" "start" "I" (.int q_a2_start)) (F_a2_number_0 : Fld Z hE a2 "com/example/braid/braid/BodyLines" "number" "I" (.int q_a2_number)) (fuel : Nat) (r : Int32 × Int32 × Int32 × Int32) (hr : f3 fuel x2 x3 x4 q_a1 q_a2_end q_a2_start q_a2_number = some r) :
    MetFree l (⟨"com/example/braid/braid/BodyLinesNextPinLaw", "step", "(Lcom/example/braid/braid/BodyLines;[BIII)I"⟩ : MethodName) (head1 (Jvm.Cond.code (⟨"com/example/braid/braid/BodyLinesNextPinLaw", "step", "(Lcom/example/braid/braid/BodyLines;[BIII)I"⟩ : MethodName) method_4_code 8 (some .int) :: ws) ({ frames := 1, cells := 0, slots := 0, locals := 14 } : Room)) (fun a U => a = #[(.ref a2), (.ref a1), (.int x2), (.int x3), (.int x4)] ∧ Z.Warmed39 U.vm ∧ U.heap = hE) (fun _ _ _ _ _ => True) (fun _ U o U' => ∃ v L, o = .returned v ∧ (P3 Z hE a1 a2 q_a1 q_a2_end q_a2_start q_a2_number n0 r v U'.heap L) ∧ FrameEnd U o U' L ({ frames := 1, cells := 0, slots := 0, locals := 14 } : Room).cells ({ frames := 1, cells := 0, slots := 0, locals := 14 } : Room).slots) := by
  refine MetFree.of_bodySF (plainFor_of_name pn_3) hisR ?_
  intro p e s m args below meth c s₁ Bd hml0 hP hK
  obtain ⟨rfl, hZ, hh⟩ := hP
  have X0 : Stand p l e ({ frames := 1, cells := 0, slots := 0, locals := 14 } : Room) s m #[(.ref a2), (.ref a1), (.int x2), (.int x3), (.int x4)] below meth c s₁ [] 0 0 := Stand.of_body Bd
  have e0 : s₁.heap = hE := by rw [← hh, Bd.state]; rfl
  have C : Ctx p s m meth c Z a0 "com/example/braid/braid/BodyLinesNextPinLaw" method_4_code 8 (some .int) "step" := ⟨Bd.exec, hZ, hw, Bd.bytes, hml0, findClass_of_methodNamed Bd.named, Bd.returns, BodyLoose.notSynchronized Bd, (name_of_methodNamed Bd.named Bd.method).1⟩
  refine Runs.via (fun t k => castTop (ef_3 m x2 x3 x4 a1 a2) k) (b3_0 C fuel X0 e0 (Fr.nil n0) (by show 0 ≤ 0; omega) (by show 0 ≤ 0; omega) Z0 (Keep.refl hE [a2]) (by omega) (by omega) q_a2_end q_a2_start q_a2_number x2 x3 x4 A_a1_0 E_a2_0 F_a2_end_0 F_a2_body_0 F_a2_start_0 F_a2_number_0 hr)
theorem pd_5 : parseMethodDescriptor "(Lcom/example/braid/braid/BodyLines;[BIII)I" = some ⟨[(.object "com/example/braid/braid/BodyLines"), (.array .byte), .int, .int, .int], some .int⟩ := by decide +kernel
def P0 (n0 : Nat) (r : Int32) (v : Option Value) (h : Heap) (L : List Loc) : Prop := v = some (.int r) ∧ Fr n0 L
def g0_206 (fuel : Nat) (x7 : Int32) (x8 : Int32) (q_n0_0 : List Int32) (q_n1_0_end : Int32) (q_n1_0_start : Int32) (q_n1_0_number : Int32) : Option (Int32) := ((f5 q_n0_0 q_n1_0_end q_n1_0_start q_n1_0_number).bind fun r1 => (if r1 = (x7 - (1 : Int32)) then some (1 : Int32) else some (0 : Int32)))
set_option maxRecDepth 65536 in
set_option maxHeartbeats 4000000 in
theorem b0_206 {r : Int32} (C : Ctx p s m meth c Z a0 "com/example/braid/braid/BodyLinesNextPinLaw" code 9 (some .boolean) "law") (fuel : Nat) (X0 : Stand p l e room_1 s m args below meth c T0 locs cells slots) (e0 : T0.heap = h0) (N0 : Fr n0 locs) (hk : cells ≤ 2) (hn : slots ≤ 7) (Z1 : n0 ≤ h0.size) (n0_0 : Addr) (n1_0 : Addr) (o0 : n0 ≤ n0_0) (o1 : @LT.lt Nat instLTNat n0_0 n1_0) (q_n0_0 : List Int32) (q_n1_0_end : Int32) (q_n1_0_start : Int32) (q_n1_0_number : Int32) (x0 : Int32) (x1 : Int32) (x2 : Int32) (x3 : Int32) (x6 : Int32) (x7 : Int32) (x8 : Int32) (A_n0_0_0 : AI Z h0 n0_0 .byte q_n0_0) (E_n1_0_0 : Exa Z h0 n1_0 "com/example/braid/braid/BodyLines") (F_n1_0_end_0 : Fld Z h0 n1_0 "com/example/braid/braid/BodyLines" "end" "I" (.int q_n1_0_end)) (F_n1_0_body_0 : Fld Z h0 n1_0 "com/example/braid/braid/BodyLines" "body" "[B" (.ref n0_0)) (F_n1_0_start_0 : Fld Z h0 n1_0 "com/example/braid/braid/BodyLines" "start" "I" (.int q_n1_0_start)) (F_n1_0_number_0 : Fld Z h0 n1_0 "com/example/braid/braid/BodyLines" "number" "I" (.int q_n1_0_number)) (hr : g0_206 fuel x7 x8 q_n0_0 q_n1_0_end q_n1_0_start q_n1_0_number = some r) :
    Runs p e below s (P0 n0 r) 2 7 T0 (mkF m 206 #[.val (.int x0), .val (.int x1), .val (.int x2), .val (.int x3), .val (.ref n0_0), .val (.ref n1_0), .val (.int x6), .val (.int x7), .val (.int x8)] []) := by
  unfold g0_206 at hr
  have ⟨hx, hZ, hw, hby, hml, hown, hret, hlk, hnm⟩ := C
  refine Runs.via (T' := T0) (g' := (mkF m 212 #[.val (.int x0), .val (.int x1), .val (.int x2), .val (.int x3), .val (.ref n0_0), .val (.ref n1_0), .val (.int x8), .val (.int x7), .val (.int x8)] [(.ref n1_0)])) (fun t k => ?_) ?_
  · show Steps p.tables e below (T0.setTop (mkF m 206 #[.val (.int x0), .val (.int x1), .val (.int x2), .val (.int x3), .val (.ref n0_0), .val (.ref n1_0), .val (.int x6), .val (.int x7), .val (.int x8)] [])) t
    refine XS.iload X0.here hx rfl (hb hby at_206) rfl ?_
    show Steps p.tables e below (T0.setTop (mkF m 208 #[.val (.int x0), .val (.int x1), .val (.int x2), .val (.int x3), .val (.ref n0_0), .val (.ref n1_0), .val (.int x6), .val (.int x7), .val (.int x8)] [(.int x8)])) t
    refine XS.istore X0.here hx rfl (hb hby at_208) rfl (l' := #[.val (.int x0), .val (.int x1), .val (.int x2), .val (.int x3), .val (.ref n0_0), .val (.ref n1_0), .val (.int x8), .val (.int x7), .val (.int x8)]) rfl ?_
    show Steps p.tables e below (T0.setTop (mkF m 210 #[.val (.int x0), .val (.int x1), .val (.int x2), .val (.int x3), .val (.ref n0_0), .val (.ref n1_0), .val (.int x8), .val (.int x7), .val (.int x8)] [])) t
    refine XS.aload X0.here hx rfl (hb hby at_210) rfl rfl ?_
    exact k
  refine bindE hr ?_; intro r1 hr1m hr
  obtain ⟨cq1, kq1, q1a, q1b, q1c⟩ := isOf hZ e0 E_n1_0_0
  obtain ⟨_, _, ⟨T1, L1, k1, n1⟩, -, X1, ⟨Lc1, hQ1, l1, y1, z1⟩, st1⟩ := X0.virtualBack hx (y := (⟨"com/example/braid/braid/BodyLines", "number", "()I"⟩ : MethodName)) (z := (⟨"com/example/braid/braid/BodyLines", "number", "()I"⟩ : MethodName)) hown (mvT hZ (hw _ (List.mem_of_getElem? (i := 25) rfl))) (mvT hZ (hw _ (List.mem_of_getElem? (i := 26) rfl))) (notFace_of_selects (args := #[]) (mvT hZ (hw _ (List.mem_of_getElem? (i := 28) rfl)))) (mvT hZ (hw _ (List.mem_of_getElem? (i := 28) rfl))) (mvT hZ (hw _ (List.mem_of_getElem? (i := 27) rfl))) (by decide) (backOf (W := 0) (rm5 l Z a0 hw [] n0_0 n1_0 q_n0_0 q_n1_0_end q_n1_0_start q_n1_0_number h0 n0 Z1 (by omega) (by omega) A_n0_0_0 E_n1_0_0 F_n1_0_end_0 F_n1_0_body_0 F_n1_0_start_0 F_n1_0_number_0 r1 hr1m) hZ (hw _ (List.mem_of_getElem? (i := 29) rfl)) (hw _ (List.mem_of_getElem? (i := 3) rfl)) (by decide) (by decide)) q1a q1c (g := (mkF m 212 #[.val (.int x0), .val (.int x1), .val (.int x2), .val (.int x3), .val (.ref n0_0), .val (.ref n1_0), .val (.int x8), .val (.int x7), .val (.int x8)] [(.ref n1_0)])) rfl (by rw [hml]; rfl) (Steps.refl _) (argsL := []) (rest := []) (lenOf pd_4 rfl) rfl (by show 2 * 0 + _ ≤ _; exact Nat.le_of_eq rfl) (hb hby at_212) (fun _ _ => ⟨rfl, e0, (by show cells + 0 ≤ 16; omega), (by show slots + 0 ≤ 128; omega)⟩)
  dsimp only [Pt.U, Pt.locs, Pt.cells, Pt.slots] at X1 l1 y1 z1 st1 hQ1
  replace y1 := y1.symm; replace z1 := z1.symm; subst l1 y1 z1
  obtain ⟨rfl, N1q, e1⟩ := hQ1
  have N1 := Fr.app N0 N1q
  refine Runs.via (T' := T1) (g' := (mkF m 215 #[.val (.int x0), .val (.int x1), .val (.int x2), .val (.int x3), .val (.ref n0_0), .val (.ref n1_0), .val (.int x8), .val (.int x7), .val (.int x8)] [(.int r1)])) (fun t k => st1.trans k) ?_
  refine Runs.via (T' := T1) (g' := (mkF m 219 #[.val (.int x0), .val (.int x1), .val (.int x2), .val (.int x3), .val (.ref n0_0), .val (.ref n1_0), .val (.int x8), .val (.int x7), .val (.int x8)] [(.int (x7 - (1 : Int32))), (.int r1)])) (fun t k => ?_) ?_
  · show Steps p.tables e below (T1.setTop (mkF m 215 #[.val (.int x0), .val (.int x1), .val (.int x2), .val (.int x3), .val (.ref n0_0), .val (.ref n1_0), .val (.int x8), .val (.int x7), .val (.int x8)] [(.int r1)])) t
    refine XS.iload X1.here hx rfl (hb hby at_215) rfl ?_
    show Steps p.tables e below (T1.setTop (mkF m 217 #[.val (.int x0), .val (.int x1), .val (.int x2), .val (.int x3), .val (.ref n0_0), .val (.ref n1_0), .val (.int x8), .val (.int x7), .val (.int x8)] [(.int x7), (.int r1)])) t
    refine XS.iconst X1.here hx rfl (hb hby at_217) ?_
    show Steps p.tables e below (T1.setTop (mkF m 218 #[.val (.int x0), .val (.int x1), .val (.int x2), .val (.int x3), .val (.ref n0_0), .val (.ref n1_0), .val (.int x8), .val (.int x7), .val (.int x8)] [(.int (1 : Int32)), (.int x7), (.int r1)])) t
    refine XS.isub X1.here hx rfl (hb hby at_218) rfl ?_
    exact k
  refine iteE hr (fun hc2 hr => ?_) (fun hc2 hr => ?_)
  · refine Runs.via (T' := T1) (g' := (mkF m 222 #[.val (.int x0), .val (.int x1), .val (.int x2), .val (.int x3), .val (.ref n0_0), .val (.ref n1_0), .val (.int x8), .val (.int x7), .val (.int x8)] [])) (fun t k => ?_) ?_
    · show Steps p.tables e below (T1.setTop (mkF m 219 #[.val (.int x0), .val (.int x1), .val (.int x2), .val (.int x3), .val (.ref n0_0), .val (.ref n1_0), .val (.int x8), .val (.int x7), .val (.int x8)] [(.int (x7 - (1 : Int32))), (.int r1)])) t
      exact XS.icmpNo X1.here hx rfl (hb hby at_219) rfl (teq hc2).2 k
    refine Runs.via (T' := T1) (g' := (mkF m 227 #[.val (.int x0), .val (.int x1), .val (.int x2), .val (.int x3), .val (.ref n0_0), .val (.ref n1_0), .val (.int x8), .val (.int x7), .val (.int x8)] [(.int (1 : Int32))])) (fun t k => ?_) ?_
    · show Steps p.tables e below (T1.setTop (mkF m 222 #[.val (.int x0), .val (.int x1), .val (.int x2), .val (.int x3), .val (.ref n0_0), .val (.ref n1_0), .val (.int x8), .val (.int x7), .val (.int x8)] [])) t
      refine XS.iconst X1.here hx rfl (hb hby at_222) ?_
      show Steps p.tables e below (T1.setTop (mkF m 223 #[.val (.int x0), .val (.int x1), .val (.int x2), .val (.int x3), .val (.ref n0_0), .val (.ref n1_0), .val (.int x8), .val (.int x7), .val (.int x8)] [(.int (1 : Int32))])) t
      refine XS.goto X1.here hx rfl (pc0 := 223) (pc' := 227) rfl (hb hby at_223) (by decide) (by decide) ?_
      exact k
    obtain rfl := Option.some.inj hr
    exact own_retN X1 hx hlk (t := .boolean) hret (by simp) (hb hby at_227) (by show (cells + 0) ≤ 2; omega) (by show (slots + 0) ≤ 7; omega) ⟨rfl, N1⟩
  · refine Runs.via (T' := T1) (g' := (mkF m 226 #[.val (.int x0), .val (.int x1), .val (.int x2), .val (.int x3), .val (.ref n0_0), .val (.ref n1_0), .val (.int x8), .val (.int x7), .val (.int x8)] [])) (fun t k => ?_) ?_
    · show Steps p.tables e below (T1.setTop (mkF m 219 #[.val (.int x0), .val (.int x1), .val (.int x2), .val (.int x3), .val (.ref n0_0), .val (.ref n1_0), .val (.int x8), .val (.int x7), .val (.int x8)] [(.int (x7 - (1 : Int32))), (.int r1)])) t
      exact XS.icmpYes X1.here hx rfl (pc0 := 219) (pc' := 226) rfl (hb hby at_219) rfl (feq hc2).2 (by decide) (by decide) k
    refine Runs.via (T' := T1) (g' := (mkF m 227 #[.val (.int x0), .val (.int x1), .val (.int x2), .val (.int x3), .val (.ref n0_0), .val (.ref n1_0), .val (.int x8), .val (.int x7), .val (.int x8)] [(.int (0 : Int32))])) (fun t k => ?_) ?_
    · show Steps p.tables e below (T1.setTop (mkF m 226 #[.val (.int x0), .val (.int x1), .val (.int x2), .val (.int x3), .val (.ref n0_0), .val (.ref n1_0), .val (.int x8), .val (.int x7), .val (.int x8)] [])) t
      refine XS.iconst X1.here hx rfl (hb hby at_226) ?_
      exact k
    obtain rfl := Option.some.inj hr
    exact own_retN X1 hx hlk (t := .boolean) hret (by simp) (hb hby at_227) (by show (cells + 0) ≤ 2; omega) (by show (slots + 0) ≤ 7; omega) ⟨rfl, N1⟩
def g0_171 (fuel : Nat) (x3 : Int32) (x7 : Int32) (x8 : Int32) (q_n0_0 : List Int32) (q_n1_0_end : Int32) (q_n1_0_start : Int32) (q_n1_0_number : Int32) : Option (Int32) := ((f3 fuel x3 x8 x7 q_n0_0 q_n1_0_end q_n1_0_start q_n1_0_number).bind fun r1 => (if r1.1 < (0 : Int32) then some (0 : Int32) else (if r1.1 = x8 then (g0_206 fuel x7 r1.1 q_n0_0 r1.2.1 r1.2.2.1 r1.2.2.2) else (g0_206 fuel (x7 + (1 : Int32)) r1.1 q_n0_0 r1.2.1 r1.2.2.1 r1.2.2.2))))
set_option maxRecDepth 65536 in
set_option maxHeartbeats 4000000 in
theorem b0_171 {r : Int32} (C : Ctx p s m meth c Z a0 "com/example/braid/braid/BodyLinesNextPinLaw" code 9 (some .boolean) "law") (fuel : Nat) (X0 : Stand p l e room_1 s m args below meth c T0 locs cells slots) (e0 : T0.heap = h0) (N0 : Fr n0 locs) (hk : cells ≤ 2) (hn : slots ≤ 7) (Z1 : n0 ≤ h0.size) (n0_0 : Addr) (n1_0 : Addr) (o0 : n0 ≤ n0_0) (o1 : @LT.lt Nat instLTNat n0_0 n1_0) (q_n0_0 : List Int32) (q_n1_0_end : Int32) (q_n1_0_start : Int32) (q_n1_0_number : Int32) (x0 : Int32) (x1 : Int32) (x2 : Int32) (x3 : Int32) (x6 : Int32) (x7 : Int32) (x8 : Int32) (A_n0_0_0 : AI Z h0 n0_0 .byte q_n0_0) (E_n1_0_0 : Exa Z h0 n1_0 "com/example/braid/braid/BodyLines") (F_n1_0_end_0 : Fld Z h0 n1_0 "com/example/braid/braid/BodyLines" "end" "I" (.int q_n1_0_end)) (F_n1_0_body_0 : Fld Z h0 n1_0 "com/example/braid/braid/BodyLines" "body" "[B" (.ref n0_0)) (F_n1_0_start_0 : Fld Z h0 n1_0 "com/example/braid/braid/BodyLines" "start" "I" (.int q_n1_0_start)) (F_n1_0_number_0 : Fld Z h0 n1_0 "com/example/braid/braid/BodyLines" "number" "I" (.int q_n1_0_number)) (hr : g0_171 fuel x3 x7 x8 q_n0_0 q_n1_0_end q_n1_0_start q_n1_0_number = some r) :
    Runs p e below s (P0 n0 r) 2 7 T0 (mkF m 171 #[.val (.int x0), .val (.int x1), .val (.int x2), .val (.int x3), .val (.ref n0_0), .val (.ref n1_0), .val (.int x6), .val (.int x7), .val (.int x8)] []) := by
  unfold g0_171 at hr
  have ⟨hx, hZ, hw, hby, hml, hown, hret, hlk, hnm⟩ := C
  refine Runs.via (T' := T0) (g' := (mkF m 184 #[.val (.int x0), .val (.int x1), .val (.int x2), .val (.int x3), .val (.ref n0_0), .val (.ref n1_0), .val (.int x8), .val (.int x7), .val (.int x8)] [(.int x7), (.int x8), (.int x3), (.ref n0_0), (.ref n1_0)])) (fun t k => ?_) ?_
  · show Steps p.tables e below (T0.setTop (mkF m 171 #[.val (.int x0), .val (.int x1), .val (.int x2), .val (.int x3), .val (.ref n0_0), .val (.ref n1_0), .val (.int x6), .val (.int x7), .val (.int x8)] [])) t
    refine XS.iload X0.here hx rfl (hb hby at_171) rfl ?_
    show Steps p.tables e below (T0.setTop (mkF m 173 #[.val (.int x0), .val (.int x1), .val (.int x2), .val (.int x3), .val (.ref n0_0), .val (.ref n1_0), .val (.int x6), .val (.int x7), .val (.int x8)] [(.int x8)])) t
    refine XS.istore X0.here hx rfl (hb hby at_173) rfl (l' := #[.val (.int x0), .val (.int x1), .val (.int x2), .val (.int x3), .val (.ref n0_0), .val (.ref n1_0), .val (.int x8), .val (.int x7), .val (.int x8)]) rfl ?_
    show Steps p.tables e below (T0.setTop (mkF m 175 #[.val (.int x0), .val (.int x1), .val (.int x2), .val (.int x3), .val (.ref n0_0), .val (.ref n1_0), .val (.int x8), .val (.int x7), .val (.int x8)] [])) t
    refine XS.aload X0.here hx rfl (hb hby at_175) rfl rfl ?_
    show Steps p.tables e below (T0.setTop (mkF m 177 #[.val (.int x0), .val (.int x1), .val (.int x2), .val (.int x3), .val (.ref n0_0), .val (.ref n1_0), .val (.int x8), .val (.int x7), .val (.int x8)] [(.ref n1_0)])) t
    refine XS.aload X0.here hx rfl (hb hby at_177) rfl rfl ?_
    show Steps p.tables e below (T0.setTop (mkF m 179 #[.val (.int x0), .val (.int x1), .val (.int x2), .val (.int x3), .val (.ref n0_0), .val (.ref n1_0), .val (.int x8), .val (.int x7), .val (.int x8)] [(.ref n0_0), (.ref n1_0)])) t
    refine XS.iloadN X0.here hx rfl (hb hby at_179) rfl ?_
    show Steps p.tables e below (T0.setTop (mkF m 180 #[.val (.int x0), .val (.int x1), .val (.int x2), .val (.int x3), .val (.ref n0_0), .val (.ref n1_0), .val (.int x8), .val (.int x7), .val (.int x8)] [(.int x3), (.ref n0_0), (.ref n1_0)])) t
    refine XS.iload X0.here hx rfl (hb hby at_180) rfl ?_
    show Steps p.tables e below (T0.setTop (mkF m 182 #[.val (.int x0), .val (.int x1), .val (.int x2), .val (.int x3), .val (.ref n0_0), .val (.ref n1_0), .val (.int x8), .val (.int x7), .val (.int x8)] [(.int x8), (.int x3), (.ref n0_0), (.ref n1_0)])) t
    refine XS.iload X0.here hx rfl (hb hby at_182) rfl ?_
    exact k
  refine bindE hr ?_; intro r1 hr1m hr
  obtain ⟨_, _, ⟨T1, L1, k1, n1⟩, -, X1, ⟨Lc1, hQ1, l1, y1, z1⟩, st1⟩ := Jvm.LawKit.callS X0 hx (y := (⟨"com/example/braid/braid/BodyLinesNextPinLaw", "step", "(Lcom/example/braid/braid/BodyLines;[BIII)I"⟩ : MethodName)) hown (mvT hZ (hw _ (List.mem_of_getElem? (i := 14) rfl))) (mvT hZ (hw _ (List.mem_of_getElem? (i := 15) rfl))) (mvT hZ (hw _ (List.mem_of_getElem? (i := 16) rfl))) (mvT hZ (hw _ (List.mem_of_getElem? (i := 17) rfl))) (by decide) (backOf (W := 0) (rm3 l Z a0 hw [] x3 x8 x7 n0_0 n1_0 q_n0_0 q_n1_0_end q_n1_0_start q_n1_0_number h0 n0 Z1 (by omega) (by omega) A_n0_0_0 E_n1_0_0 F_n1_0_end_0 F_n1_0_body_0 F_n1_0_start_0 F_n1_0_number_0 fuel r1 hr1m) hZ (hw _ (List.mem_of_getElem? (i := 17) rfl)) (hw _ (List.mem_of_getElem? (i := 16) rfl)) (by decide) (by decide)) (g := (mkF m 184 #[.val (.int x0), .val (.int x1), .val (.int x2), .val (.int x3), .val (.ref n0_0), .val (.ref n1_0), .val (.int x8), .val (.int x7), .val (.int x8)] [(.int x7), (.int x8), (.int x3), (.ref n0_0), (.ref n1_0)])) rfl (by rw [hml]; rfl) (argsL := [(.ref n1_0), (.ref n0_0), (.int x3), (.int x8), (.int x7)]) (rest := []) (lenOf pd_5 rfl) rfl (by show 2 * 0 + _ ≤ _; exact Nat.le_of_eq rfl) (hb hby at_184) (fun _ _ => ⟨rfl, e0, (by show cells + 0 ≤ 16; omega), (by show slots + 0 ≤ 128; omega)⟩)
  dsimp only [Pt.U, Pt.locs, Pt.cells, Pt.slots] at X1 l1 y1 z1 st1 hQ1
  replace y1 := y1.symm; replace z1 := z1.symm; subst l1 y1 z1
  obtain ⟨h1, e1⟩ : ∃ z, T1.heap = z := ⟨_, rfl⟩
  rw [e1] at hQ1
  obtain ⟨rfl, N1q, K1q, E_n1_0_1, F_n1_0_end_1, F_n1_0_body_1, F_n1_0_start_1, F_n1_0_number_1⟩ := hQ1
  have N1 := Fr.app N0 N1q
  have A_n0_0_1 := A_n0_0_0.keep K1q (ninS (by omega : @Ne Nat n0_0 n1_0) nin0)
  have zz1 : n0 ≤ h1.size := Nat.le_trans Z1 K1q.1
  refine Runs.via (T' := T1) (g' := (mkF m 187 #[.val (.int x0), .val (.int x1), .val (.int x2), .val (.int x3), .val (.ref n0_0), .val (.ref n1_0), .val (.int x8), .val (.int x7), .val (.int x8)] [(.int r1.1)])) (fun t k => st1 _ k) ?_
  refine Runs.via (T' := T1) (g' := (mkF m 191 #[.val (.int x0), .val (.int x1), .val (.int x2), .val (.int x3), .val (.ref n0_0), .val (.ref n1_0), .val (.int x8), .val (.int x7), .val (.int r1.1)] [(.int r1.1)])) (fun t k => ?_) ?_
  · show Steps p.tables e below (T1.setTop (mkF m 187 #[.val (.int x0), .val (.int x1), .val (.int x2), .val (.int x3), .val (.ref n0_0), .val (.ref n1_0), .val (.int x8), .val (.int x7), .val (.int x8)] [(.int r1.1)])) t
    refine XS.istore X1.here hx rfl (hb hby at_187) rfl (l' := #[.val (.int x0), .val (.int x1), .val (.int x2), .val (.int x3), .val (.ref n0_0), .val (.ref n1_0), .val (.int x8), .val (.int x7), .val (.int r1.1)]) rfl ?_
    show Steps p.tables e below (T1.setTop (mkF m 189 #[.val (.int x0), .val (.int x1), .val (.int x2), .val (.int x3), .val (.ref n0_0), .val (.ref n1_0), .val (.int x8), .val (.int x7), .val (.int r1.1)] [])) t
    refine XS.iload X1.here hx rfl (hb hby at_189) rfl ?_
    exact k
  refine iteE hr (fun hc2 hr => ?_) (fun hc2 hr => ?_)
  · refine Runs.via (T' := T1) (g' := (mkF m 194 #[.val (.int x0), .val (.int x1), .val (.int x2), .val (.int x3), .val (.ref n0_0), .val (.ref n1_0), .val (.int x8), .val (.int x7), .val (.int r1.1)] [])) (fun t k => ?_) ?_
    · show Steps p.tables e below (T1.setTop (mkF m 191 #[.val (.int x0), .val (.int x1), .val (.int x2), .val (.int x3), .val (.ref n0_0), .val (.ref n1_0), .val (.int x8), .val (.int x7), .val (.int r1.1)] [(.int r1.1)])) t
      exact XS.ifNo X1.here hx rfl (hb hby at_191) rfl ((if0 _ _).trans (tlt hc2).2.1) k
    refine Runs.via (T' := T1) (g' := (mkF m 195 #[.val (.int x0), .val (.int x1), .val (.int x2), .val (.int x3), .val (.ref n0_0), .val (.ref n1_0), .val (.int x8), .val (.int x7), .val (.int r1.1)] [(.int (0 : Int32))])) (fun t k => ?_) ?_
    · show Steps p.tables e below (T1.setTop (mkF m 194 #[.val (.int x0), .val (.int x1), .val (.int x2), .val (.int x3), .val (.ref n0_0), .val (.ref n1_0), .val (.int x8), .val (.int x7), .val (.int r1.1)] [])) t
      refine XS.iconst X1.here hx rfl (hb hby at_194) ?_
      exact k
    obtain rfl := Option.some.inj hr
    exact own_retN X1 hx hlk (t := .boolean) hret (by simp) (hb hby at_195) (by show (cells + 0) ≤ 2; omega) (by show (slots + 0) ≤ 7; omega) ⟨rfl, N1⟩
  · refine Runs.via (T' := T1) (g' := (mkF m 196 #[.val (.int x0), .val (.int x1), .val (.int x2), .val (.int x3), .val (.ref n0_0), .val (.ref n1_0), .val (.int x8), .val (.int x7), .val (.int r1.1)] [])) (fun t k => ?_) ?_
    · show Steps p.tables e below (T1.setTop (mkF m 191 #[.val (.int x0), .val (.int x1), .val (.int x2), .val (.int x3), .val (.ref n0_0), .val (.ref n1_0), .val (.int x8), .val (.int x7), .val (.int r1.1)] [(.int r1.1)])) t
      exact XS.ifYes X1.here hx rfl (pc0 := 191) (pc' := 196) rfl (hb hby at_191) rfl ((if0 _ _).trans (flt hc2).2.1) (by decide) (by decide) k
    refine Runs.via (T' := T1) (g' := (mkF m 200 #[.val (.int x0), .val (.int x1), .val (.int x2), .val (.int x3), .val (.ref n0_0), .val (.ref n1_0), .val (.int x8), .val (.int x7), .val (.int r1.1)] [(.int x8), (.int r1.1)])) (fun t k => ?_) ?_
    · show Steps p.tables e below (T1.setTop (mkF m 196 #[.val (.int x0), .val (.int x1), .val (.int x2), .val (.int x3), .val (.ref n0_0), .val (.ref n1_0), .val (.int x8), .val (.int x7), .val (.int r1.1)] [])) t
      refine XS.iload X1.here hx rfl (hb hby at_196) rfl ?_
      show Steps p.tables e below (T1.setTop (mkF m 198 #[.val (.int x0), .val (.int x1), .val (.int x2), .val (.int x3), .val (.ref n0_0), .val (.ref n1_0), .val (.int x8), .val (.int x7), .val (.int r1.1)] [(.int r1.1)])) t
      refine XS.iload X1.here hx rfl (hb hby at_198) rfl ?_
      exact k
    refine iteE hr (fun hc3 hr => ?_) (fun hc3 hr => ?_)
    · refine Runs.via (T' := T1) (g' := (mkF m 206 #[.val (.int x0), .val (.int x1), .val (.int x2), .val (.int x3), .val (.ref n0_0), .val (.ref n1_0), .val (.int x8), .val (.int x7), .val (.int r1.1)] [])) (fun t k => ?_) ?_
      · show Steps p.tables e below (T1.setTop (mkF m 200 #[.val (.int x0), .val (.int x1), .val (.int x2), .val (.int x3), .val (.ref n0_0), .val (.ref n1_0), .val (.int x8), .val (.int x7), .val (.int r1.1)] [(.int x8), (.int r1.1)])) t
        exact XS.icmpYes X1.here hx rfl (pc0 := 200) (pc' := 206) rfl (hb hby at_200) rfl (teq hc3).1 (by decide) (by decide) k
      exact b0_206 C fuel X1 e1 N1 (by show (cells + 0) ≤ 2; omega) (by show (slots + 0) ≤ 7; omega) zz1 n0_0 n1_0 (by omega) (by omega) q_n0_0 r1.2.1 r1.2.2.1 r1.2.2.2 x0 x1 x2 x3 x8 x7 r1.1 A_n0_0_1 E_n1_0_1 F_n1_0_end_1 F_n1_0_body_1 F_n1_0_start_1 F_n1_0_number_1 hr
    · refine Runs.via (T' := T1) (g' := (mkF m 203 #[.val (.int x0), .val (.int x1), .val (.int x2), .val (.int x3), .val (.ref n0_0), .val (.ref n1_0), .val (.int x8), .val (.int x7), .val (.int r1.1)] [])) (fun t k => ?_) ?_
      · show Steps p.tables e below (T1.setTop (mkF m 200 #[.val (.int x0), .val (.int x1), .val (.int x2), .val (.int x3), .val (.ref n0_0), .val (.ref n1_0), .val (.int x8), .val (.int x7), .val (.int r1.1)] [(.int x8), (.int r1.1)])) t
        exact XS.icmpNo X1.here hx rfl (hb hby at_200) rfl (feq hc3).1 k
      refine Runs.via (T' := T1) (g' := (mkF m 206 #[.val (.int x0), .val (.int x1), .val (.int x2), .val (.int x3), .val (.ref n0_0), .val (.ref n1_0), .val (.int x8), .val (.int (x7 + (1 : Int32))), .val (.int r1.1)] [])) (fun t k => ?_) ?_
      · show Steps p.tables e below (T1.setTop (mkF m 203 #[.val (.int x0), .val (.int x1), .val (.int x2), .val (.int x3), .val (.ref n0_0), .val (.ref n1_0), .val (.int x8), .val (.int x7), .val (.int r1.1)] [])) t
        refine XS.iinc X1.here hx rfl (hb hby at_203) rfl (l' := #[.val (.int x0), .val (.int x1), .val (.int x2), .val (.int x3), .val (.ref n0_0), .val (.ref n1_0), .val (.int x8), .val (.int (x7 + (1 : Int32))), .val (.int r1.1)]) rfl ?_
        exact k
      exact b0_206 C fuel X1 e1 N1 (by show (cells + 0) ≤ 2; omega) (by show (slots + 0) ≤ 7; omega) zz1 n0_0 n1_0 (by omega) (by omega) q_n0_0 r1.2.1 r1.2.2.1 r1.2.2.2 x0 x1 x2 x3 x8 (x7 + (1 : Int32)) r1.1 A_n0_0_1 E_n1_0_1 F_n1_0_end_1 F_n1_0_body_1 F_n1_0_start_1 F_n1_0_number_1 hr
def g0_136 (fuel : Nat) (x3 : Int32) (x7 : Int32) (x8 : Int32) (q_n0_0 : List Int32) (q_n1_0_end : Int32) (q_n1_0_start : Int32) (q_n1_0_number : Int32) : Option (Int32) := ((f3 fuel x3 x8 x7 q_n0_0 q_n1_0_end q_n1_0_start q_n1_0_number).bind fun r1 => (if r1.1 < (0 : Int32) then some (0 : Int32) else (if r1.1 = x8 then (g0_171 fuel x3 x7 r1.1 q_n0_0 r1.2.1 r1.2.2.1 r1.2.2.2) else (g0_171 fuel x3 (x7 + (1 : Int32)) r1.1 q_n0_0 r1.2.1 r1.2.2.1 r1.2.2.2))))
set_option maxRecDepth 65536 in
set_option maxHeartbeats 4000000 in
theorem b0_136 {r : Int32} (C : Ctx p s m meth c Z a0 "com/example/braid/braid/BodyLinesNextPinLaw" code 9 (some .boolean) "law") (fuel : Nat) (X0 : Stand p l e room_1 s m args below meth c T0 locs cells slots) (e0 : T0.heap = h0) (N0 : Fr n0 locs) (hk : cells ≤ 2) (hn : slots ≤ 7) (Z1 : n0 ≤ h0.size) (n0_0 : Addr) (n1_0 : Addr) (o0 : n0 ≤ n0_0) (o1 : @LT.lt Nat instLTNat n0_0 n1_0) (q_n0_0 : List Int32) (q_n1_0_end : Int32) (q_n1_0_start : Int32) (q_n1_0_number : Int32) (x0 : Int32) (x1 : Int32) (x2 : Int32) (x3 : Int32) (x6 : Int32) (x7 : Int32) (x8 : Int32) (A_n0_0_0 : AI Z h0 n0_0 .byte q_n0_0) (E_n1_0_0 : Exa Z h0 n1_0 "com/example/braid/braid/BodyLines") (F_n1_0_end_0 : Fld Z h0 n1_0 "com/example/braid/braid/BodyLines" "end" "I" (.int q_n1_0_end)) (F_n1_0_body_0 : Fld Z h0 n1_0 "com/example/braid/braid/BodyLines" "body" "[B" (.ref n0_0)) (F_n1_0_start_0 : Fld Z h0 n1_0 "com/example/braid/braid/BodyLines" "start" "I" (.int q_n1_0_start)) (F_n1_0_number_0 : Fld Z h0 n1_0 "com/example/braid/braid/BodyLines" "number" "I" (.int q_n1_0_number)) (hr : g0_136 fuel x3 x7 x8 q_n0_0 q_n1_0_end q_n1_0_start q_n1_0_number = some r) :
    Runs p e below s (P0 n0 r) 2 7 T0 (mkF m 136 #[.val (.int x0), .val (.int x1), .val (.int x2), .val (.int x3), .val (.ref n0_0), .val (.ref n1_0), .val (.int x6), .val (.int x7), .val (.int x8)] []) := by
  unfold g0_136 at hr
  have ⟨hx, hZ, hw, hby, hml, hown, hret, hlk, hnm⟩ := C
  refine Runs.via (T' := T0) (g' := (mkF m 149 #[.val (.int x0), .val (.int x1), .val (.int x2), .val (.int x3), .val (.ref n0_0), .val (.ref n1_0), .val (.int x8), .val (.int x7), .val (.int x8)] [(.int x7), (.int x8), (.int x3), (.ref n0_0), (.ref n1_0)])) (fun t k => ?_) ?_
  · show Steps p.tables e below (T0.setTop (mkF m 136 #[.val (.int x0), .val (.int x1), .val (.int x2), .val (.int x3), .val (.ref n0_0), .val (.ref n1_0), .val (.int x6), .val (.int x7), .val (.int x8)] [])) t
    refine XS.iload X0.here hx rfl (hb hby at_136) rfl ?_
    show Steps p.tables e below (T0.setTop (mkF m 138 #[.val (.int x0), .val (.int x1), .val (.int x2), .val (.int x3), .val (.ref n0_0), .val (.ref n1_0), .val (.int x6), .val (.int x7), .val (.int x8)] [(.int x8)])) t
    refine XS.istore X0.here hx rfl (hb hby at_138) rfl (l' := #[.val (.int x0), .val (.int x1), .val (.int x2), .val (.int x3), .val (.ref n0_0), .val (.ref n1_0), .val (.int x8), .val (.int x7), .val (.int x8)]) rfl ?_
    show Steps p.tables e below (T0.setTop (mkF m 140 #[.val (.int x0), .val (.int x1), .val (.int x2), .val (.int x3), .val (.ref n0_0), .val (.ref n1_0), .val (.int x8), .val (.int x7), .val (.int x8)] [])) t
    refine XS.aload X0.here hx rfl (hb hby at_140) rfl rfl ?_
    show Steps p.tables e below (T0.setTop (mkF m 142 #[.val (.int x0), .val (.int x1), .val (.int x2), .val (.int x3), .val (.ref n0_0), .val (.ref n1_0), .val (.int x8), .val (.int x7), .val (.int x8)] [(.ref n1_0)])) t
    refine XS.aload X0.here hx rfl (hb hby at_142) rfl rfl ?_
    show Steps p.tables e below (T0.setTop (mkF m 144 #[.val (.int x0), .val (.int x1), .val (.int x2), .val (.int x3), .val (.ref n0_0), .val (.ref n1_0), .val (.int x8), .val (.int x7), .val (.int x8)] [(.ref n0_0), (.ref n1_0)])) t
    refine XS.iloadN X0.here hx rfl (hb hby at_144) rfl ?_
    show Steps p.tables e below (T0.setTop (mkF m 145 #[.val (.int x0), .val (.int x1), .val (.int x2), .val (.int x3), .val (.ref n0_0), .val (.ref n1_0), .val (.int x8), .val (.int x7), .val (.int x8)] [(.int x3), (.ref n0_0), (.ref n1_0)])) t
    refine XS.iload X0.here hx rfl (hb hby at_145) rfl ?_
    show Steps p.tables e below (T0.setTop (mkF m 147 #[.val (.int x0), .val (.int x1), .val (.int x2), .val (.int x3), .val (.ref n0_0), .val (.ref n1_0), .val (.int x8), .val (.int x7), .val (.int x8)] [(.int x8), (.int x3), (.ref n0_0), (.ref n1_0)])) t
    refine XS.iload X0.here hx rfl (hb hby at_147) rfl ?_
    exact k
  refine bindE hr ?_; intro r1 hr1m hr
  obtain ⟨_, _, ⟨T1, L1, k1, n1⟩, -, X1, ⟨Lc1, hQ1, l1, y1, z1⟩, st1⟩ := Jvm.LawKit.callS X0 hx (y := (⟨"com/example/braid/braid/BodyLinesNextPinLaw", "step", "(Lcom/example/braid/braid/BodyLines;[BIII)I"⟩ : MethodName)) hown (mvT hZ (hw _ (List.mem_of_getElem? (i := 14) rfl))) (mvT hZ (hw _ (List.mem_of_getElem? (i := 15) rfl))) (mvT hZ (hw _ (List.mem_of_getElem? (i := 16) rfl))) (mvT hZ (hw _ (List.mem_of_getElem? (i := 17) rfl))) (by decide) (backOf (W := 0) (rm3 l Z a0 hw [] x3 x8 x7 n0_0 n1_0 q_n0_0 q_n1_0_end q_n1_0_start q_n1_0_number h0 n0 Z1 (by omega) (by omega) A_n0_0_0 E_n1_0_0 F_n1_0_end_0 F_n1_0_body_0 F_n1_0_start_0 F_n1_0_number_0 fuel r1 hr1m) hZ (hw _ (List.mem_of_getElem? (i := 17) rfl)) (hw _ (List.mem_of_getElem? (i := 16) rfl)) (by decide) (by decide)) (g := (mkF m 149 #[.val (.int x0), .val (.int x1), .val (.int x2), .val (.int x3), .val (.ref n0_0), .val (.ref n1_0), .val (.int x8), .val (.int x7), .val (.int x8)] [(.int x7), (.int x8), (.int x3), (.ref n0_0), (.ref n1_0)])) rfl (by rw [hml]; rfl) (argsL := [(.ref n1_0), (.ref n0_0), (.int x3), (.int x8), (.int x7)]) (rest := []) (lenOf pd_5 rfl) rfl (by show 2 * 0 + _ ≤ _; exact Nat.le_of_eq rfl) (hb hby at_149) (fun _ _ => ⟨rfl, e0, (by show cells + 0 ≤ 16; omega), (by show slots + 0 ≤ 128; omega)⟩)
  dsimp only [Pt.U, Pt.locs, Pt.cells, Pt.slots] at X1 l1 y1 z1 st1 hQ1
  replace y1 := y1.symm; replace z1 := z1.symm; subst l1 y1 z1
  obtain ⟨h1, e1⟩ : ∃ z, T1.heap = z := ⟨_, rfl⟩
  rw [e1] at hQ1
  obtain ⟨rfl, N1q, K1q, E_n1_0_1, F_n1_0_end_1, F_n1_0_body_1, F_n1_0_start_1, F_n1_0_number_1⟩ := hQ1
  have N1 := Fr.app N0 N1q
  have A_n0_0_1 := A_n0_0_0.keep K1q (ninS (by omega : @Ne Nat n0_0 n1_0) nin0)
  have zz1 : n0 ≤ h1.size := Nat.le_trans Z1 K1q.1
  refine Runs.via (T' := T1) (g' := (mkF m 152 #[.val (.int x0), .val (.int x1), .val (.int x2), .val (.int x3), .val (.ref n0_0), .val (.ref n1_0), .val (.int x8), .val (.int x7), .val (.int x8)] [(.int r1.1)])) (fun t k => st1 _ k) ?_
  refine Runs.via (T' := T1) (g' := (mkF m 156 #[.val (.int x0), .val (.int x1), .val (.int x2), .val (.int x3), .val (.ref n0_0), .val (.ref n1_0), .val (.int x8), .val (.int x7), .val (.int r1.1)] [(.int r1.1)])) (fun t k => ?_) ?_
  · show Steps p.tables e below (T1.setTop (mkF m 152 #[.val (.int x0), .val (.int x1), .val (.int x2), .val (.int x3), .val (.ref n0_0), .val (.ref n1_0), .val (.int x8), .val (.int x7), .val (.int x8)] [(.int r1.1)])) t
    refine XS.istore X1.here hx rfl (hb hby at_152) rfl (l' := #[.val (.int x0), .val (.int x1), .val (.int x2), .val (.int x3), .val (.ref n0_0), .val (.ref n1_0), .val (.int x8), .val (.int x7), .val (.int r1.1)]) rfl ?_
    show Steps p.tables e below (T1.setTop (mkF m 154 #[.val (.int x0), .val (.int x1), .val (.int x2), .val (.int x3), .val (.ref n0_0), .val (.ref n1_0), .val (.int x8), .val (.int x7), .val (.int r1.1)] [])) t
    refine XS.iload X1.here hx rfl (hb hby at_154) rfl ?_
    exact k
  refine iteE hr (fun hc2 hr => ?_) (fun hc2 hr => ?_)
  · refine Runs.via (T' := T1) (g' := (mkF m 159 #[.val (.int x0), .val (.int x1), .val (.int x2), .val (.int x3), .val (.ref n0_0), .val (.ref n1_0), .val (.int x8), .val (.int x7), .val (.int r1.1)] [])) (fun t k => ?_) ?_
    · show Steps p.tables e below (T1.setTop (mkF m 156 #[.val (.int x0), .val (.int x1), .val (.int x2), .val (.int x3), .val (.ref n0_0), .val (.ref n1_0), .val (.int x8), .val (.int x7), .val (.int r1.1)] [(.int r1.1)])) t
      exact XS.ifNo X1.here hx rfl (hb hby at_156) rfl ((if0 _ _).trans (tlt hc2).2.1) k
    refine Runs.via (T' := T1) (g' := (mkF m 160 #[.val (.int x0), .val (.int x1), .val (.int x2), .val (.int x3), .val (.ref n0_0), .val (.ref n1_0), .val (.int x8), .val (.int x7), .val (.int r1.1)] [(.int (0 : Int32))])) (fun t k => ?_) ?_
    · show Steps p.tables e below (T1.setTop (mkF m 159 #[.val (.int x0), .val (.int x1), .val (.int x2), .val (.int x3), .val (.ref n0_0), .val (.ref n1_0), .val (.int x8), .val (.int x7), .val (.int r1.1)] [])) t
      refine XS.iconst X1.here hx rfl (hb hby at_159) ?_
      exact k
    obtain rfl := Option.some.inj hr
    exact own_retN X1 hx hlk (t := .boolean) hret (by simp) (hb hby at_160) (by show (cells + 0) ≤ 2; omega) (by show (slots + 0) ≤ 7; omega) ⟨rfl, N1⟩
  · refine Runs.via (T' := T1) (g' := (mkF m 161 #[.val (.int x0), .val (.int x1), .val (.int x2), .val (.int x3), .val (.ref n0_0), .val (.ref n1_0), .val (.int x8), .val (.int x7), .val (.int r1.1)] [])) (fun t k => ?_) ?_
    · show Steps p.tables e below (T1.setTop (mkF m 156 #[.val (.int x0), .val (.int x1), .val (.int x2), .val (.int x3), .val (.ref n0_0), .val (.ref n1_0), .val (.int x8), .val (.int x7), .val (.int r1.1)] [(.int r1.1)])) t
      exact XS.ifYes X1.here hx rfl (pc0 := 156) (pc' := 161) rfl (hb hby at_156) rfl ((if0 _ _).trans (flt hc2).2.1) (by decide) (by decide) k
    refine Runs.via (T' := T1) (g' := (mkF m 165 #[.val (.int x0), .val (.int x1), .val (.int x2), .val (.int x3), .val (.ref n0_0), .val (.ref n1_0), .val (.int x8), .val (.int x7), .val (.int r1.1)] [(.int x8), (.int r1.1)])) (fun t k => ?_) ?_
    · show Steps p.tables e below (T1.setTop (mkF m 161 #[.val (.int x0), .val (.int x1), .val (.int x2), .val (.int x3), .val (.ref n0_0), .val (.ref n1_0), .val (.int x8), .val (.int x7), .val (.int r1.1)] [])) t
      refine XS.iload X1.here hx rfl (hb hby at_161) rfl ?_
      show Steps p.tables e below (T1.setTop (mkF m 163 #[.val (.int x0), .val (.int x1), .val (.int x2), .val (.int x3), .val (.ref n0_0), .val (.ref n1_0), .val (.int x8), .val (.int x7), .val (.int r1.1)] [(.int r1.1)])) t
      refine XS.iload X1.here hx rfl (hb hby at_163) rfl ?_
      exact k
    refine iteE hr (fun hc3 hr => ?_) (fun hc3 hr => ?_)
    · refine Runs.via (T' := T1) (g' := (mkF m 171 #[.val (.int x0), .val (.int x1), .val (.int x2), .val (.int x3), .val (.ref n0_0), .val (.ref n1_0), .val (.int x8), .val (.int x7), .val (.int r1.1)] [])) (fun t k => ?_) ?_
      · show Steps p.tables e below (T1.setTop (mkF m 165 #[.val (.int x0), .val (.int x1), .val (.int x2), .val (.int x3), .val (.ref n0_0), .val (.ref n1_0), .val (.int x8), .val (.int x7), .val (.int r1.1)] [(.int x8), (.int r1.1)])) t
        exact XS.icmpYes X1.here hx rfl (pc0 := 165) (pc' := 171) rfl (hb hby at_165) rfl (teq hc3).1 (by decide) (by decide) k
      exact b0_171 C fuel X1 e1 N1 (by show (cells + 0) ≤ 2; omega) (by show (slots + 0) ≤ 7; omega) zz1 n0_0 n1_0 (by omega) (by omega) q_n0_0 r1.2.1 r1.2.2.1 r1.2.2.2 x0 x1 x2 x3 x8 x7 r1.1 A_n0_0_1 E_n1_0_1 F_n1_0_end_1 F_n1_0_body_1 F_n1_0_start_1 F_n1_0_number_1 hr
    · refine Runs.via (T' := T1) (g' := (mkF m 168 #[.val (.int x0), .val (.int x1), .val (.int x2), .val (.int x3), .val (.ref n0_0), .val (.ref n1_0), .val (.int x8), .val (.int x7), .val (.int r1.1)] [])) (fun t k => ?_) ?_
      · show Steps p.tables e below (T1.setTop (mkF m 165 #[.val (.int x0), .val (.int x1), .val (.int x2), .val (.int x3), .val (.ref n0_0), .val (.ref n1_0), .val (.int x8), .val (.int x7), .val (.int r1.1)] [(.int x8), (.int r1.1)])) t
        exact XS.icmpNo X1.here hx rfl (hb hby at_165) rfl (feq hc3).1 k
      refine Runs.via (T' := T1) (g' := (mkF m 171 #[.val (.int x0), .val (.int x1), .val (.int x2), .val (.int x3), .val (.ref n0_0), .val (.ref n1_0), .val (.int x8), .val (.int (x7 + (1 : Int32))), .val (.int r1.1)] [])) (fun t k => ?_) ?_
      · show Steps p.tables e below (T1.setTop (mkF m 168 #[.val (.int x0), .val (.int x1), .val (.int x2), .val (.int x3), .val (.ref n0_0), .val (.ref n1_0), .val (.int x8), .val (.int x7), .val (.int r1.1)] [])) t
        refine XS.iinc X1.here hx rfl (hb hby at_168) rfl (l' := #[.val (.int x0), .val (.int x1), .val (.int x2), .val (.int x3), .val (.ref n0_0), .val (.ref n1_0), .val (.int x8), .val (.int (x7 + (1 : Int32))), .val (.int r1.1)]) rfl ?_
        exact k
      exact b0_171 C fuel X1 e1 N1 (by show (cells + 0) ≤ 2; omega) (by show (slots + 0) ≤ 7; omega) zz1 n0_0 n1_0 (by omega) (by omega) q_n0_0 r1.2.1 r1.2.2.1 r1.2.2.2 x0 x1 x2 x3 x8 (x7 + (1 : Int32)) r1.1 A_n0_0_1 E_n1_0_1 F_n1_0_end_1 F_n1_0_body_1 F_n1_0_start_1 F_n1_0_number_1 hr
def g0_101 (fuel : Nat) (x3 : Int32) (x7 : Int32) (x8 : Int32) (q_n0_0 : List Int32) (q_n1_0_end : Int32) (q_n1_0_start : Int32) (q_n1_0_number : Int32) : Option (Int32) := ((f3 fuel x3 x8 x7 q_n0_0 q_n1_0_end q_n1_0_start q_n1_0_number).bind fun r1 => (if r1.1 < (0 : Int32) then some (0 : Int32) else (if r1.1 = x8 then (g0_136 fuel x3 x7 r1.1 q_n0_0 r1.2.1 r1.2.2.1 r1.2.2.2) else (g0_136 fuel x3 (x7 + (1 : Int32)) r1.1 q_n0_0 r1.2.1 r1.2.2.1 r1.2.2.2))))
set_option maxRecDepth 65536 in
set_option maxHeartbeats 4000000 in
theorem b0_101 {r : Int32} (C : Ctx p s m meth c Z a0 "com/example/braid/braid/BodyLinesNextPinLaw" code 9 (some .boolean) "law") (fuel : Nat) (X0 : Stand p l e room_1 s m args below meth c T0 locs cells slots) (e0 : T0.heap = h0) (N0 : Fr n0 locs) (hk : cells ≤ 2) (hn : slots ≤ 7) (Z1 : n0 ≤ h0.size) (n0_0 : Addr) (n1_0 : Addr) (o0 : n0 ≤ n0_0) (o1 : @LT.lt Nat instLTNat n0_0 n1_0) (q_n0_0 : List Int32) (q_n1_0_end : Int32) (q_n1_0_start : Int32) (q_n1_0_number : Int32) (x0 : Int32) (x1 : Int32) (x2 : Int32) (x3 : Int32) (x6 : Int32) (x7 : Int32) (x8 : Int32) (A_n0_0_0 : AI Z h0 n0_0 .byte q_n0_0) (E_n1_0_0 : Exa Z h0 n1_0 "com/example/braid/braid/BodyLines") (F_n1_0_end_0 : Fld Z h0 n1_0 "com/example/braid/braid/BodyLines" "end" "I" (.int q_n1_0_end)) (F_n1_0_body_0 : Fld Z h0 n1_0 "com/example/braid/braid/BodyLines" "body" "[B" (.ref n0_0)) (F_n1_0_start_0 : Fld Z h0 n1_0 "com/example/braid/braid/BodyLines" "start" "I" (.int q_n1_0_start)) (F_n1_0_number_0 : Fld Z h0 n1_0 "com/example/braid/braid/BodyLines" "number" "I" (.int q_n1_0_number)) (hr : g0_101 fuel x3 x7 x8 q_n0_0 q_n1_0_end q_n1_0_start q_n1_0_number = some r) :
    Runs p e below s (P0 n0 r) 2 7 T0 (mkF m 101 #[.val (.int x0), .val (.int x1), .val (.int x2), .val (.int x3), .val (.ref n0_0), .val (.ref n1_0), .val (.int x6), .val (.int x7), .val (.int x8)] []) := by
  unfold g0_101 at hr
  have ⟨hx, hZ, hw, hby, hml, hown, hret, hlk, hnm⟩ := C
  refine Runs.via (T' := T0) (g' := (mkF m 114 #[.val (.int x0), .val (.int x1), .val (.int x2), .val (.int x3), .val (.ref n0_0), .val (.ref n1_0), .val (.int x8), .val (.int x7), .val (.int x8)] [(.int x7), (.int x8), (.int x3), (.ref n0_0), (.ref n1_0)])) (fun t k => ?_) ?_
  · show Steps p.tables e below (T0.setTop (mkF m 101 #[.val (.int x0), .val (.int x1), .val (.int x2), .val (.int x3), .val (.ref n0_0), .val (.ref n1_0), .val (.int x6), .val (.int x7), .val (.int x8)] [])) t
    refine XS.iload X0.here hx rfl (hb hby at_101) rfl ?_
    show Steps p.tables e below (T0.setTop (mkF m 103 #[.val (.int x0), .val (.int x1), .val (.int x2), .val (.int x3), .val (.ref n0_0), .val (.ref n1_0), .val (.int x6), .val (.int x7), .val (.int x8)] [(.int x8)])) t
    refine XS.istore X0.here hx rfl (hb hby at_103) rfl (l' := #[.val (.int x0), .val (.int x1), .val (.int x2), .val (.int x3), .val (.ref n0_0), .val (.ref n1_0), .val (.int x8), .val (.int x7), .val (.int x8)]) rfl ?_
    show Steps p.tables e below (T0.setTop (mkF m 105 #[.val (.int x0), .val (.int x1), .val (.int x2), .val (.int x3), .val (.ref n0_0), .val (.ref n1_0), .val (.int x8), .val (.int x7), .val (.int x8)] [])) t
    refine XS.aload X0.here hx rfl (hb hby at_105) rfl rfl ?_
    show Steps p.tables e below (T0.setTop (mkF m 107 #[.val (.int x0), .val (.int x1), .val (.int x2), .val (.int x3), .val (.ref n0_0), .val (.ref n1_0), .val (.int x8), .val (.int x7), .val (.int x8)] [(.ref n1_0)])) t
    refine XS.aload X0.here hx rfl (hb hby at_107) rfl rfl ?_
    show Steps p.tables e below (T0.setTop (mkF m 109 #[.val (.int x0), .val (.int x1), .val (.int x2), .val (.int x3), .val (.ref n0_0), .val (.ref n1_0), .val (.int x8), .val (.int x7), .val (.int x8)] [(.ref n0_0), (.ref n1_0)])) t
    refine XS.iloadN X0.here hx rfl (hb hby at_109) rfl ?_
    show Steps p.tables e below (T0.setTop (mkF m 110 #[.val (.int x0), .val (.int x1), .val (.int x2), .val (.int x3), .val (.ref n0_0), .val (.ref n1_0), .val (.int x8), .val (.int x7), .val (.int x8)] [(.int x3), (.ref n0_0), (.ref n1_0)])) t
    refine XS.iload X0.here hx rfl (hb hby at_110) rfl ?_
    show Steps p.tables e below (T0.setTop (mkF m 112 #[.val (.int x0), .val (.int x1), .val (.int x2), .val (.int x3), .val (.ref n0_0), .val (.ref n1_0), .val (.int x8), .val (.int x7), .val (.int x8)] [(.int x8), (.int x3), (.ref n0_0), (.ref n1_0)])) t
    refine XS.iload X0.here hx rfl (hb hby at_112) rfl ?_
    exact k
  refine bindE hr ?_; intro r1 hr1m hr
  obtain ⟨_, _, ⟨T1, L1, k1, n1⟩, -, X1, ⟨Lc1, hQ1, l1, y1, z1⟩, st1⟩ := Jvm.LawKit.callS X0 hx (y := (⟨"com/example/braid/braid/BodyLinesNextPinLaw", "step", "(Lcom/example/braid/braid/BodyLines;[BIII)I"⟩ : MethodName)) hown (mvT hZ (hw _ (List.mem_of_getElem? (i := 14) rfl))) (mvT hZ (hw _ (List.mem_of_getElem? (i := 15) rfl))) (mvT hZ (hw _ (List.mem_of_getElem? (i := 16) rfl))) (mvT hZ (hw _ (List.mem_of_getElem? (i := 17) rfl))) (by decide) (backOf (W := 0) (rm3 l Z a0 hw [] x3 x8 x7 n0_0 n1_0 q_n0_0 q_n1_0_end q_n1_0_start q_n1_0_number h0 n0 Z1 (by omega) (by omega) A_n0_0_0 E_n1_0_0 F_n1_0_end_0 F_n1_0_body_0 F_n1_0_start_0 F_n1_0_number_0 fuel r1 hr1m) hZ (hw _ (List.mem_of_getElem? (i := 17) rfl)) (hw _ (List.mem_of_getElem? (i := 16) rfl)) (by decide) (by decide)) (g := (mkF m 114 #[.val (.int x0), .val (.int x1), .val (.int x2), .val (.int x3), .val (.ref n0_0), .val (.ref n1_0), .val (.int x8), .val (.int x7), .val (.int x8)] [(.int x7), (.int x8), (.int x3), (.ref n0_0), (.ref n1_0)])) rfl (by rw [hml]; rfl) (argsL := [(.ref n1_0), (.ref n0_0), (.int x3), (.int x8), (.int x7)]) (rest := []) (lenOf pd_5 rfl) rfl (by show 2 * 0 + _ ≤ _; exact Nat.le_of_eq rfl) (hb hby at_114) (fun _ _ => ⟨rfl, e0, (by show cells + 0 ≤ 16; omega), (by show slots + 0 ≤ 128; omega)⟩)
  dsimp only [Pt.U, Pt.locs, Pt.cells, Pt.slots] at X1 l1 y1 z1 st1 hQ1
  replace y1 := y1.symm; replace z1 := z1.symm; subst l1 y1 z1
  obtain ⟨h1, e1⟩ : ∃ z, T1.heap = z := ⟨_, rfl⟩
  rw [e1] at hQ1
  obtain ⟨rfl, N1q, K1q, E_n1_0_1, F_n1_0_end_1, F_n1_0_body_1, F_n1_0_start_1, F_n1_0_number_1⟩ := hQ1
  have N1 := Fr.app N0 N1q
  have A_n0_0_1 := A_n0_0_0.keep K1q (ninS (by omega : @Ne Nat n0_0 n1_0) nin0)
  have zz1 : n0 ≤ h1.size := Nat.le_trans Z1 K1q.1
  refine Runs.via (T' := T1) (g' := (mkF m 117 #[.val (.int x0), .val (.int x1), .val (.int x2), .val (.int x3), .val (.ref n0_0), .val (.ref n1_0), .val (.int x8), .val (.int x7), .val (.int x8)] [(.int r1.1)])) (fun t k => st1 _ k) ?_
  refine Runs.via (T' := T1) (g' := (mkF m 121 #[.val (.int x0), .val (.int x1), .val (.int x2), .val (.int x3), .val (.ref n0_0), .val (.ref n1_0), .val (.int x8), .val (.int x7), .val (.int r1.1)] [(.int r1.1)])) (fun t k => ?_) ?_
  · show Steps p.tables e below (T1.setTop (mkF m 117 #[.val (.int x0), .val (.int x1), .val (.int x2), .val (.int x3), .val (.ref n0_0), .val (.ref n1_0), .val (.int x8), .val (.int x7), .val (.int x8)] [(.int r1.1)])) t
    refine XS.istore X1.here hx rfl (hb hby at_117) rfl (l' := #[.val (.int x0), .val (.int x1), .val (.int x2), .val (.int x3), .val (.ref n0_0), .val (.ref n1_0), .val (.int x8), .val (.int x7), .val (.int r1.1)]) rfl ?_
    show Steps p.tables e below (T1.setTop (mkF m 119 #[.val (.int x0), .val (.int x1), .val (.int x2), .val (.int x3), .val (.ref n0_0), .val (.ref n1_0), .val (.int x8), .val (.int x7), .val (.int r1.1)] [])) t
    refine XS.iload X1.here hx rfl (hb hby at_119) rfl ?_
    exact k
  refine iteE hr (fun hc2 hr => ?_) (fun hc2 hr => ?_)
  · refine Runs.via (T' := T1) (g' := (mkF m 124 #[.val (.int x0), .val (.int x1), .val (.int x2), .val (.int x3), .val (.ref n0_0), .val (.ref n1_0), .val (.int x8), .val (.int x7), .val (.int r1.1)] [])) (fun t k => ?_) ?_
    · show Steps p.tables e below (T1.setTop (mkF m 121 #[.val (.int x0), .val (.int x1), .val (.int x2), .val (.int x3), .val (.ref n0_0), .val (.ref n1_0), .val (.int x8), .val (.int x7), .val (.int r1.1)] [(.int r1.1)])) t
      exact XS.ifNo X1.here hx rfl (hb hby at_121) rfl ((if0 _ _).trans (tlt hc2).2.1) k
    refine Runs.via (T' := T1) (g' := (mkF m 125 #[.val (.int x0), .val (.int x1), .val (.int x2), .val (.int x3), .val (.ref n0_0), .val (.ref n1_0), .val (.int x8), .val (.int x7), .val (.int r1.1)] [(.int (0 : Int32))])) (fun t k => ?_) ?_
    · show Steps p.tables e below (T1.setTop (mkF m 124 #[.val (.int x0), .val (.int x1), .val (.int x2), .val (.int x3), .val (.ref n0_0), .val (.ref n1_0), .val (.int x8), .val (.int x7), .val (.int r1.1)] [])) t
      refine XS.iconst X1.here hx rfl (hb hby at_124) ?_
      exact k
    obtain rfl := Option.some.inj hr
    exact own_retN X1 hx hlk (t := .boolean) hret (by simp) (hb hby at_125) (by show (cells + 0) ≤ 2; omega) (by show (slots + 0) ≤ 7; omega) ⟨rfl, N1⟩
  · refine Runs.via (T' := T1) (g' := (mkF m 126 #[.val (.int x0), .val (.int x1), .val (.int x2), .val (.int x3), .val (.ref n0_0), .val (.ref n1_0), .val (.int x8), .val (.int x7), .val (.int r1.1)] [])) (fun t k => ?_) ?_
    · show Steps p.tables e below (T1.setTop (mkF m 121 #[.val (.int x0), .val (.int x1), .val (.int x2), .val (.int x3), .val (.ref n0_0), .val (.ref n1_0), .val (.int x8), .val (.int x7), .val (.int r1.1)] [(.int r1.1)])) t
      exact XS.ifYes X1.here hx rfl (pc0 := 121) (pc' := 126) rfl (hb hby at_121) rfl ((if0 _ _).trans (flt hc2).2.1) (by decide) (by decide) k
    refine Runs.via (T' := T1) (g' := (mkF m 130 #[.val (.int x0), .val (.int x1), .val (.int x2), .val (.int x3), .val (.ref n0_0), .val (.ref n1_0), .val (.int x8), .val (.int x7), .val (.int r1.1)] [(.int x8), (.int r1.1)])) (fun t k => ?_) ?_
    · show Steps p.tables e below (T1.setTop (mkF m 126 #[.val (.int x0), .val (.int x1), .val (.int x2), .val (.int x3), .val (.ref n0_0), .val (.ref n1_0), .val (.int x8), .val (.int x7), .val (.int r1.1)] [])) t
      refine XS.iload X1.here hx rfl (hb hby at_126) rfl ?_
      show Steps p.tables e below (T1.setTop (mkF m 128 #[.val (.int x0), .val (.int x1), .val (.int x2), .val (.int x3), .val (.ref n0_0), .val (.ref n1_0), .val (.int x8), .val (.int x7), .val (.int r1.1)] [(.int r1.1)])) t
      refine XS.iload X1.here hx rfl (hb hby at_128) rfl ?_
      exact k
    refine iteE hr (fun hc3 hr => ?_) (fun hc3 hr => ?_)
    · refine Runs.via (T' := T1) (g' := (mkF m 136 #[.val (.int x0), .val (.int x1), .val (.int x2), .val (.int x3), .val (.ref n0_0), .val (.ref n1_0), .val (.int x8), .val (.int x7), .val (.int r1.1)] [])) (fun t k => ?_) ?_
      · show Steps p.tables e below (T1.setTop (mkF m 130 #[.val (.int x0), .val (.int x1), .val (.int x2), .val (.int x3), .val (.ref n0_0), .val (.ref n1_0), .val (.int x8), .val (.int x7), .val (.int r1.1)] [(.int x8), (.int r1.1)])) t
        exact XS.icmpYes X1.here hx rfl (pc0 := 130) (pc' := 136) rfl (hb hby at_130) rfl (teq hc3).1 (by decide) (by decide) k
      exact b0_136 C fuel X1 e1 N1 (by show (cells + 0) ≤ 2; omega) (by show (slots + 0) ≤ 7; omega) zz1 n0_0 n1_0 (by omega) (by omega) q_n0_0 r1.2.1 r1.2.2.1 r1.2.2.2 x0 x1 x2 x3 x8 x7 r1.1 A_n0_0_1 E_n1_0_1 F_n1_0_end_1 F_n1_0_body_1 F_n1_0_start_1 F_n1_0_number_1 hr
    · refine Runs.via (T' := T1) (g' := (mkF m 133 #[.val (.int x0), .val (.int x1), .val (.int x2), .val (.int x3), .val (.ref n0_0), .val (.ref n1_0), .val (.int x8), .val (.int x7), .val (.int r1.1)] [])) (fun t k => ?_) ?_
      · show Steps p.tables e below (T1.setTop (mkF m 130 #[.val (.int x0), .val (.int x1), .val (.int x2), .val (.int x3), .val (.ref n0_0), .val (.ref n1_0), .val (.int x8), .val (.int x7), .val (.int r1.1)] [(.int x8), (.int r1.1)])) t
        exact XS.icmpNo X1.here hx rfl (hb hby at_130) rfl (feq hc3).1 k
      refine Runs.via (T' := T1) (g' := (mkF m 136 #[.val (.int x0), .val (.int x1), .val (.int x2), .val (.int x3), .val (.ref n0_0), .val (.ref n1_0), .val (.int x8), .val (.int (x7 + (1 : Int32))), .val (.int r1.1)] [])) (fun t k => ?_) ?_
      · show Steps p.tables e below (T1.setTop (mkF m 133 #[.val (.int x0), .val (.int x1), .val (.int x2), .val (.int x3), .val (.ref n0_0), .val (.ref n1_0), .val (.int x8), .val (.int x7), .val (.int r1.1)] [])) t
        refine XS.iinc X1.here hx rfl (hb hby at_133) rfl (l' := #[.val (.int x0), .val (.int x1), .val (.int x2), .val (.int x3), .val (.ref n0_0), .val (.ref n1_0), .val (.int x8), .val (.int (x7 + (1 : Int32))), .val (.int r1.1)]) rfl ?_
        exact k
      exact b0_136 C fuel X1 e1 N1 (by show (cells + 0) ≤ 2; omega) (by show (slots + 0) ≤ 7; omega) zz1 n0_0 n1_0 (by omega) (by omega) q_n0_0 r1.2.1 r1.2.2.1 r1.2.2.2 x0 x1 x2 x3 x8 (x7 + (1 : Int32)) r1.1 A_n0_0_1 E_n1_0_1 F_n1_0_end_1 F_n1_0_body_1 F_n1_0_start_1 F_n1_0_number_1 hr
def g0_53 (fuel : Nat) (x3 : Int32) (q_n0_0 : List Int32) : Option (Int32) := ((f1 q_n0_0 (0 : Int32) (0 : Int32) (0 : Int32)).bind fun r2 => ((f3 fuel x3 (0 : Int32) (1 : Int32) q_n0_0 r2 (0 : Int32) (0 : Int32)).bind fun r3 => (if r3.1 < (0 : Int32) then some (0 : Int32) else (if r3.1 = (0 : Int32) then (g0_101 fuel x3 (1 : Int32) r3.1 q_n0_0 r3.2.1 r3.2.2.1 r3.2.2.2) else (g0_101 fuel x3 ((1 : Int32) + (1 : Int32)) r3.1 q_n0_0 r3.2.1 r3.2.2.1 r3.2.2.2)))))
set_option maxRecDepth 65536 in
set_option maxHeartbeats 4000000 in
theorem b0_53 {r : Int32} (C : Ctx p s m meth c Z a0 "com/example/braid/braid/BodyLinesNextPinLaw" code 9 (some .boolean) "law") (fuel : Nat) (X0 : Stand p l e room_1 s m args below meth c T0 locs cells slots) (e0 : T0.heap = h0) (N0 : Fr n0 locs) (hk : cells ≤ 1) (hn : slots ≤ 3) (Z1 : n0 ≤ h0.size) (n0_0 : Addr) (o0 : n0 ≤ n0_0) (q_n0_0 : List Int32) (x0 : Int32) (x1 : Int32) (x2 : Int32) (x3 : Int32) (A_n0_0_0 : AI Z h0 n0_0 .byte q_n0_0) (hr : g0_53 fuel x3 q_n0_0 = some r) :
    Runs p e below s (P0 n0 r) 2 7 T0 (mkF m 53 #[.val (.int x0), .val (.int x1), .val (.int x2), .val (.int x3), .val (.ref n0_0), .unset, .unset, .unset, .unset] []) := by
  unfold g0_53 at hr
  have ⟨hx, hZ, hw, hby, hml, hown, hret, hlk, hnm⟩ := C
  obtain ⟨T1, h1, X1, e1, E1, A1, D1, -, st1⟩ := newO X0 hx hZ hown (hw _ (List.mem_of_getElem? (i := 1) rfl)) (hw _ (List.mem_of_getElem? (i := 2) rfl)) (hw _ (List.mem_of_getElem? (i := 3) rfl)) e0 (g := (mkF m 53 #[.val (.int x0), .val (.int x1), .val (.int x2), .val (.int x3), .val (.ref n0_0), .unset, .unset, .unset, .unset] [])) rfl (hb hby at_53) (by show cells + 1 ≤ 16; omega) (by show slots + 4 ≤ 128; omega)
  obtain ⟨b53, g1⟩ : ∃ z, z = h0.size := ⟨_, rfl⟩
  rw [← g1] at A1 D1 st1
  have i1 := E1.1
  have A_n0_0_1 := A_n0_0_0.ext E1
  have zz1 : n0 ≤ h1.size := Nat.le_trans Z1 i1
  have E_b53_1 := A1
  have F_b53_end_1 : Fld Z h1 b53 "com/example/braid/braid/BodyLines" "end" "I" (.int (0 : Int32)) := D1 (Or.inl (hw _ (List.mem_of_getElem? (i := 11) rfl))) (ty := .int) (by decide)
  have F_b53_body_1 : Fld Z h1 b53 "com/example/braid/braid/BodyLines" "body" "[B" .null := D1 (Or.inr (hw _ (List.mem_of_getElem? (i := 13) rfl))) (ty := (.array .byte)) (by decide)
  have F_b53_start_1 : Fld Z h1 b53 "com/example/braid/braid/BodyLines" "start" "I" (.int (0 : Int32)) := D1 (Or.inl (hw _ (List.mem_of_getElem? (i := 24) rfl))) (ty := .int) (by decide)
  have F_b53_number_1 : Fld Z h1 b53 "com/example/braid/braid/BodyLines" "number" "I" (.int (0 : Int32)) := D1 (Or.inl (hw _ (List.mem_of_getElem? (i := 31) rfl))) (ty := .int) (by decide)
  have pb53 : @LT.lt Nat instLTNat n0_0 b53 := by have : @LT.lt Nat instLTNat _ _ := A_n0_0_0.lt; omega
  have sb53 : n0 ≤ b53 := by omega
  refine Runs.via (T' := T1) (g' := (mkF m 56 #[.val (.int x0), .val (.int x1), .val (.int x2), .val (.int x3), .val (.ref n0_0), .unset, .unset, .unset, .unset] [(.ref b53)])) (fun t k => st1 _ k) ?_
  refine Runs.via (T' := T1) (g' := (mkF m 59 #[.val (.int x0), .val (.int x1), .val (.int x2), .val (.int x3), .val (.ref n0_0), .unset, .unset, .unset, .unset] [(.ref n0_0), (.ref b53), (.ref b53)])) (fun t k => ?_) ?_
  · show Steps p.tables e below (T1.setTop (mkF m 56 #[.val (.int x0), .val (.int x1), .val (.int x2), .val (.int x3), .val (.ref n0_0), .unset, .unset, .unset, .unset] [(.ref b53)])) t
    refine XS.dup X1.here hx rfl (hb hby at_56) rfl rfl ?_
    show Steps p.tables e below (T1.setTop (mkF m 57 #[.val (.int x0), .val (.int x1), .val (.int x2), .val (.int x3), .val (.ref n0_0), .unset, .unset, .unset, .unset] [(.ref b53), (.ref b53)])) t
    refine XS.aload X1.here hx rfl (hb hby at_57) rfl rfl ?_
    exact k
  refine bindE hr ?_; intro r2 hr2m hr
  obtain ⟨_, _, ⟨T2, L2, k2, n2⟩, -, X2, ⟨Lc2, hQ2, l2, y2, z2⟩, st2⟩ := X1.specialBack hx (y := (⟨"com/example/braid/braid/BodyLines", "<init>", "([B)V"⟩ : MethodName)) rfl hown (mvT hZ (hw _ (List.mem_of_getElem? (i := 4) rfl))) (mvT hZ (hw _ (List.mem_of_getElem? (i := 5) rfl))) (mvT hZ (hw _ (List.mem_of_getElem? (i := 6) rfl))) (by decide) (backOf (W := 1) (rm1 l Z a0 hw [] n0_0 b53 q_n0_0 (0 : Int32) (0 : Int32) (0 : Int32) h1 n0 zz1 (by omega) (by omega) A_n0_0_1 E_b53_1 F_b53_end_1 F_b53_body_1 F_b53_start_1 F_b53_number_1 r2 hr2m) hZ (hw _ (List.mem_of_getElem? (i := 6) rfl)) (hw _ (List.mem_of_getElem? (i := 3) rfl)) (by decide) (by decide)) (g := (mkF m 59 #[.val (.int x0), .val (.int x1), .val (.int x2), .val (.int x3), .val (.ref n0_0), .unset, .unset, .unset, .unset] [(.ref n0_0), (.ref b53), (.ref b53)])) rfl (by rw [hml]; rfl) (Steps.refl _) (a := b53) (argsL := [(.ref n0_0)]) (rest := [(.ref b53)]) (lenOf pd_1 rfl) rfl (by show 2 * 0 + _ ≤ _; exact Nat.le_of_eq rfl) (hb hby at_59) (fun _ _ => ⟨rfl, e1, (by show (cells + 1) + 0 ≤ 16; omega), (by show (slots + 4) + 0 ≤ 128; omega)⟩)
  dsimp only [Pt.U, Pt.locs, Pt.cells, Pt.slots] at X2 l2 y2 z2 st2 hQ2
  replace y2 := y2.symm; replace z2 := z2.symm; subst l2 y2 z2
  obtain ⟨h2, e2⟩ : ∃ z, T2.heap = z := ⟨_, rfl⟩
  rw [e2] at hQ2
  obtain ⟨rfl, N2q, K2q, E_b53_2, F_b53_end_2, F_b53_body_2, F_b53_start_2, F_b53_number_2⟩ := hQ2
  have N2 := Fr.app N0 N2q
  have A_n0_0_2 := A_n0_0_1.keep K2q (ninS (by omega : @Ne Nat n0_0 b53) nin0)
  have zz2 : n0 ≤ h2.size := Nat.le_trans zz1 K2q.1
  refine Runs.via (T' := T2) (g' := (mkF m 62 #[.val (.int x0), .val (.int x1), .val (.int x2), .val (.int x3), .val (.ref n0_0), .unset, .unset, .unset, .unset] [(.ref b53)])) (fun t k => st2.trans k) ?_
  refine Runs.via (T' := T2) (g' := (mkF m 79 #[.val (.int x0), .val (.int x1), .val (.int x2), .val (.int x3), .val (.ref n0_0), .val (.ref b53), .val (.int (0 : Int32)), .val (.int (1 : Int32)), .unset] [(.int (1 : Int32)), (.int (0 : Int32)), (.int x3), (.ref n0_0), (.ref b53)])) (fun t k => ?_) ?_
  · show Steps p.tables e below (T2.setTop (mkF m 62 #[.val (.int x0), .val (.int x1), .val (.int x2), .val (.int x3), .val (.ref n0_0), .unset, .unset, .unset, .unset] [(.ref b53)])) t
    refine XS.astore X2.here hx rfl (hb hby at_62) rfl rfl (l' := #[.val (.int x0), .val (.int x1), .val (.int x2), .val (.int x3), .val (.ref n0_0), .val (.ref b53), .unset, .unset, .unset]) rfl ?_
    show Steps p.tables e below (T2.setTop (mkF m 64 #[.val (.int x0), .val (.int x1), .val (.int x2), .val (.int x3), .val (.ref n0_0), .val (.ref b53), .unset, .unset, .unset] [])) t
    refine XS.iconst X2.here hx rfl (hb hby at_64) ?_
    show Steps p.tables e below (T2.setTop (mkF m 65 #[.val (.int x0), .val (.int x1), .val (.int x2), .val (.int x3), .val (.ref n0_0), .val (.ref b53), .unset, .unset, .unset] [(.int (0 : Int32))])) t
    refine XS.istore X2.here hx rfl (hb hby at_65) rfl (l' := #[.val (.int x0), .val (.int x1), .val (.int x2), .val (.int x3), .val (.ref n0_0), .val (.ref b53), .val (.int (0 : Int32)), .unset, .unset]) rfl ?_
    show Steps p.tables e below (T2.setTop (mkF m 67 #[.val (.int x0), .val (.int x1), .val (.int x2), .val (.int x3), .val (.ref n0_0), .val (.ref b53), .val (.int (0 : Int32)), .unset, .unset] [])) t
    refine XS.iconst X2.here hx rfl (hb hby at_67) ?_
    show Steps p.tables e below (T2.setTop (mkF m 68 #[.val (.int x0), .val (.int x1), .val (.int x2), .val (.int x3), .val (.ref n0_0), .val (.ref b53), .val (.int (0 : Int32)), .unset, .unset] [(.int (1 : Int32))])) t
    refine XS.istore X2.here hx rfl (hb hby at_68) rfl (l' := #[.val (.int x0), .val (.int x1), .val (.int x2), .val (.int x3), .val (.ref n0_0), .val (.ref b53), .val (.int (0 : Int32)), .val (.int (1 : Int32)), .unset]) rfl ?_
    show Steps p.tables e below (T2.setTop (mkF m 70 #[.val (.int x0), .val (.int x1), .val (.int x2), .val (.int x3), .val (.ref n0_0), .val (.ref b53), .val (.int (0 : Int32)), .val (.int (1 : Int32)), .unset] [])) t
    refine XS.aload X2.here hx rfl (hb hby at_70) rfl rfl ?_
    show Steps p.tables e below (T2.setTop (mkF m 72 #[.val (.int x0), .val (.int x1), .val (.int x2), .val (.int x3), .val (.ref n0_0), .val (.ref b53), .val (.int (0 : Int32)), .val (.int (1 : Int32)), .unset] [(.ref b53)])) t
    refine XS.aload X2.here hx rfl (hb hby at_72) rfl rfl ?_
    show Steps p.tables e below (T2.setTop (mkF m 74 #[.val (.int x0), .val (.int x1), .val (.int x2), .val (.int x3), .val (.ref n0_0), .val (.ref b53), .val (.int (0 : Int32)), .val (.int (1 : Int32)), .unset] [(.ref n0_0), (.ref b53)])) t
    refine XS.iloadN X2.here hx rfl (hb hby at_74) rfl ?_
    show Steps p.tables e below (T2.setTop (mkF m 75 #[.val (.int x0), .val (.int x1), .val (.int x2), .val (.int x3), .val (.ref n0_0), .val (.ref b53), .val (.int (0 : Int32)), .val (.int (1 : Int32)), .unset] [(.int x3), (.ref n0_0), (.ref b53)])) t
    refine XS.iload X2.here hx rfl (hb hby at_75) rfl ?_
    show Steps p.tables e below (T2.setTop (mkF m 77 #[.val (.int x0), .val (.int x1), .val (.int x2), .val (.int x3), .val (.ref n0_0), .val (.ref b53), .val (.int (0 : Int32)), .val (.int (1 : Int32)), .unset] [(.int (0 : Int32)), (.int x3), (.ref n0_0), (.ref b53)])) t
    refine XS.iload X2.here hx rfl (hb hby at_77) rfl ?_
    exact k
  refine bindE hr ?_; intro r3 hr3m hr
  obtain ⟨_, _, ⟨T3, L3, k3, n3⟩, -, X3, ⟨Lc3, hQ3, l3, y3, z3⟩, st3⟩ := Jvm.LawKit.callS X2 hx (y := (⟨"com/example/braid/braid/BodyLinesNextPinLaw", "step", "(Lcom/example/braid/braid/BodyLines;[BIII)I"⟩ : MethodName)) hown (mvT hZ (hw _ (List.mem_of_getElem? (i := 14) rfl))) (mvT hZ (hw _ (List.mem_of_getElem? (i := 15) rfl))) (mvT hZ (hw _ (List.mem_of_getElem? (i := 16) rfl))) (mvT hZ (hw _ (List.mem_of_getElem? (i := 17) rfl))) (by decide) (backOf (W := 0) (rm3 l Z a0 hw [] x3 (0 : Int32) (1 : Int32) n0_0 b53 q_n0_0 r2 (0 : Int32) (0 : Int32) h2 n0 zz2 (by omega) (by omega) A_n0_0_2 E_b53_2 F_b53_end_2 F_b53_body_2 F_b53_start_2 F_b53_number_2 fuel r3 hr3m) hZ (hw _ (List.mem_of_getElem? (i := 17) rfl)) (hw _ (List.mem_of_getElem? (i := 16) rfl)) (by decide) (by decide)) (g := (mkF m 79 #[.val (.int x0), .val (.int x1), .val (.int x2), .val (.int x3), .val (.ref n0_0), .val (.ref b53), .val (.int (0 : Int32)), .val (.int (1 : Int32)), .unset] [(.int (1 : Int32)), (.int (0 : Int32)), (.int x3), (.ref n0_0), (.ref b53)])) rfl (by rw [hml]; rfl) (argsL := [(.ref b53), (.ref n0_0), (.int x3), (.int (0 : Int32)), (.int (1 : Int32))]) (rest := []) (lenOf pd_5 rfl) rfl (by show 2 * 0 + _ ≤ _; exact Nat.le_of_eq rfl) (hb hby at_79) (fun _ _ => ⟨rfl, e2, (by show ((cells + 1) + 0) + 0 ≤ 16; omega), (by show ((slots + 4) + 0) + 0 ≤ 128; omega)⟩)
  dsimp only [Pt.U, Pt.locs, Pt.cells, Pt.slots] at X3 l3 y3 z3 st3 hQ3
  replace y3 := y3.symm; replace z3 := z3.symm; subst l3 y3 z3
  obtain ⟨h3, e3⟩ : ∃ z, T3.heap = z := ⟨_, rfl⟩
  rw [e3] at hQ3
  obtain ⟨rfl, N3q, K3q, E_b53_3, F_b53_end_3, F_b53_body_3, F_b53_start_3, F_b53_number_3⟩ := hQ3
  have N3 := Fr.app N2 N3q
  have A_n0_0_3 := A_n0_0_2.keep K3q (ninS (by omega : @Ne Nat n0_0 b53) nin0)
  have zz3 : n0 ≤ h3.size := Nat.le_trans zz2 K3q.1
  refine Runs.via (T' := T3) (g' := (mkF m 82 #[.val (.int x0), .val (.int x1), .val (.int x2), .val (.int x3), .val (.ref n0_0), .val (.ref b53), .val (.int (0 : Int32)), .val (.int (1 : Int32)), .unset] [(.int r3.1)])) (fun t k => st3 _ k) ?_
  refine Runs.via (T' := T3) (g' := (mkF m 86 #[.val (.int x0), .val (.int x1), .val (.int x2), .val (.int x3), .val (.ref n0_0), .val (.ref b53), .val (.int (0 : Int32)), .val (.int (1 : Int32)), .val (.int r3.1)] [(.int r3.1)])) (fun t k => ?_) ?_
  · show Steps p.tables e below (T3.setTop (mkF m 82 #[.val (.int x0), .val (.int x1), .val (.int x2), .val (.int x3), .val (.ref n0_0), .val (.ref b53), .val (.int (0 : Int32)), .val (.int (1 : Int32)), .unset] [(.int r3.1)])) t
    refine XS.istore X3.here hx rfl (hb hby at_82) rfl (l' := #[.val (.int x0), .val (.int x1), .val (.int x2), .val (.int x3), .val (.ref n0_0), .val (.ref b53), .val (.int (0 : Int32)), .val (.int (1 : Int32)), .val (.int r3.1)]) rfl ?_
    show Steps p.tables e below (T3.setTop (mkF m 84 #[.val (.int x0), .val (.int x1), .val (.int x2), .val (.int x3), .val (.ref n0_0), .val (.ref b53), .val (.int (0 : Int32)), .val (.int (1 : Int32)), .val (.int r3.1)] [])) t
    refine XS.iload X3.here hx rfl (hb hby at_84) rfl ?_
    exact k
  refine iteE hr (fun hc4 hr => ?_) (fun hc4 hr => ?_)
  · refine Runs.via (T' := T3) (g' := (mkF m 89 #[.val (.int x0), .val (.int x1), .val (.int x2), .val (.int x3), .val (.ref n0_0), .val (.ref b53), .val (.int (0 : Int32)), .val (.int (1 : Int32)), .val (.int r3.1)] [])) (fun t k => ?_) ?_
    · show Steps p.tables e below (T3.setTop (mkF m 86 #[.val (.int x0), .val (.int x1), .val (.int x2), .val (.int x3), .val (.ref n0_0), .val (.ref b53), .val (.int (0 : Int32)), .val (.int (1 : Int32)), .val (.int r3.1)] [(.int r3.1)])) t
      exact XS.ifNo X3.here hx rfl (hb hby at_86) rfl ((if0 _ _).trans (tlt hc4).2.1) k
    refine Runs.via (T' := T3) (g' := (mkF m 90 #[.val (.int x0), .val (.int x1), .val (.int x2), .val (.int x3), .val (.ref n0_0), .val (.ref b53), .val (.int (0 : Int32)), .val (.int (1 : Int32)), .val (.int r3.1)] [(.int (0 : Int32))])) (fun t k => ?_) ?_
    · show Steps p.tables e below (T3.setTop (mkF m 89 #[.val (.int x0), .val (.int x1), .val (.int x2), .val (.int x3), .val (.ref n0_0), .val (.ref b53), .val (.int (0 : Int32)), .val (.int (1 : Int32)), .val (.int r3.1)] [])) t
      refine XS.iconst X3.here hx rfl (hb hby at_89) ?_
      exact k
    obtain rfl := Option.some.inj hr
    exact own_retN X3 hx hlk (t := .boolean) hret (by simp) (hb hby at_90) (by show (((cells + 1) + 0) + 0) ≤ 2; omega) (by show (((slots + 4) + 0) + 0) ≤ 7; omega) ⟨rfl, N3⟩
  · refine Runs.via (T' := T3) (g' := (mkF m 91 #[.val (.int x0), .val (.int x1), .val (.int x2), .val (.int x3), .val (.ref n0_0), .val (.ref b53), .val (.int (0 : Int32)), .val (.int (1 : Int32)), .val (.int r3.1)] [])) (fun t k => ?_) ?_
    · show Steps p.tables e below (T3.setTop (mkF m 86 #[.val (.int x0), .val (.int x1), .val (.int x2), .val (.int x3), .val (.ref n0_0), .val (.ref b53), .val (.int (0 : Int32)), .val (.int (1 : Int32)), .val (.int r3.1)] [(.int r3.1)])) t
      exact XS.ifYes X3.here hx rfl (pc0 := 86) (pc' := 91) rfl (hb hby at_86) rfl ((if0 _ _).trans (flt hc4).2.1) (by decide) (by decide) k
    refine Runs.via (T' := T3) (g' := (mkF m 95 #[.val (.int x0), .val (.int x1), .val (.int x2), .val (.int x3), .val (.ref n0_0), .val (.ref b53), .val (.int (0 : Int32)), .val (.int (1 : Int32)), .val (.int r3.1)] [(.int (0 : Int32)), (.int r3.1)])) (fun t k => ?_) ?_
    · show Steps p.tables e below (T3.setTop (mkF m 91 #[.val (.int x0), .val (.int x1), .val (.int x2), .val (.int x3), .val (.ref n0_0), .val (.ref b53), .val (.int (0 : Int32)), .val (.int (1 : Int32)), .val (.int r3.1)] [])) t
      refine XS.iload X3.here hx rfl (hb hby at_91) rfl ?_
      show Steps p.tables e below (T3.setTop (mkF m 93 #[.val (.int x0), .val (.int x1), .val (.int x2), .val (.int x3), .val (.ref n0_0), .val (.ref b53), .val (.int (0 : Int32)), .val (.int (1 : Int32)), .val (.int r3.1)] [(.int r3.1)])) t
      refine XS.iload X3.here hx rfl (hb hby at_93) rfl ?_
      exact k
    refine iteE hr (fun hc5 hr => ?_) (fun hc5 hr => ?_)
    · refine Runs.via (T' := T3) (g' := (mkF m 101 #[.val (.int x0), .val (.int x1), .val (.int x2), .val (.int x3), .val (.ref n0_0), .val (.ref b53), .val (.int (0 : Int32)), .val (.int (1 : Int32)), .val (.int r3.1)] [])) (fun t k => ?_) ?_
      · show Steps p.tables e below (T3.setTop (mkF m 95 #[.val (.int x0), .val (.int x1), .val (.int x2), .val (.int x3), .val (.ref n0_0), .val (.ref b53), .val (.int (0 : Int32)), .val (.int (1 : Int32)), .val (.int r3.1)] [(.int (0 : Int32)), (.int r3.1)])) t
        exact XS.icmpYes X3.here hx rfl (pc0 := 95) (pc' := 101) rfl (hb hby at_95) rfl (teq hc5).1 (by decide) (by decide) k
      exact b0_101 C fuel X3 e3 N3 (by show (((cells + 1) + 0) + 0) ≤ 2; omega) (by show (((slots + 4) + 0) + 0) ≤ 7; omega) zz3 n0_0 b53 (by omega) (by omega) q_n0_0 r3.2.1 r3.2.2.1 r3.2.2.2 x0 x1 x2 x3 (0 : Int32) (1 : Int32) r3.1 A_n0_0_3 E_b53_3 F_b53_end_3 F_b53_body_3 F_b53_start_3 F_b53_number_3 hr
    · refine Runs.via (T' := T3) (g' := (mkF m 98 #[.val (.int x0), .val (.int x1), .val (.int x2), .val (.int x3), .val (.ref n0_0), .val (.ref b53), .val (.int (0 : Int32)), .val (.int (1 : Int32)), .val (.int r3.1)] [])) (fun t k => ?_) ?_
      · show Steps p.tables e below (T3.setTop (mkF m 95 #[.val (.int x0), .val (.int x1), .val (.int x2), .val (.int x3), .val (.ref n0_0), .val (.ref b53), .val (.int (0 : Int32)), .val (.int (1 : Int32)), .val (.int r3.1)] [(.int (0 : Int32)), (.int r3.1)])) t
        exact XS.icmpNo X3.here hx rfl (hb hby at_95) rfl (feq hc5).1 k
      refine Runs.via (T' := T3) (g' := (mkF m 101 #[.val (.int x0), .val (.int x1), .val (.int x2), .val (.int x3), .val (.ref n0_0), .val (.ref b53), .val (.int (0 : Int32)), .val (.int ((1 : Int32) + (1 : Int32))), .val (.int r3.1)] [])) (fun t k => ?_) ?_
      · show Steps p.tables e below (T3.setTop (mkF m 98 #[.val (.int x0), .val (.int x1), .val (.int x2), .val (.int x3), .val (.ref n0_0), .val (.ref b53), .val (.int (0 : Int32)), .val (.int (1 : Int32)), .val (.int r3.1)] [])) t
        refine XS.iinc X3.here hx rfl (hb hby at_98) rfl (l' := #[.val (.int x0), .val (.int x1), .val (.int x2), .val (.int x3), .val (.ref n0_0), .val (.ref b53), .val (.int (0 : Int32)), .val (.int ((1 : Int32) + (1 : Int32))), .val (.int r3.1)]) rfl ?_
        exact k
      exact b0_101 C fuel X3 e3 N3 (by show (((cells + 1) + 0) + 0) ≤ 2; omega) (by show (((slots + 4) + 0) + 0) ≤ 7; omega) zz3 n0_0 b53 (by omega) (by omega) q_n0_0 r3.2.1 r3.2.2.1 r3.2.2.2 x0 x1 x2 x3 (0 : Int32) ((1 : Int32) + (1 : Int32)) r3.1 A_n0_0_3 E_b53_3 F_b53_end_3 F_b53_body_3 F_b53_start_3 F_b53_number_3 hr
def g0_38 (fuel : Nat) (x1 : Int32) (x2 : Int32) (x3 : Int32) (q_n0_0 : List Int32) : Option (Int32) := (if (2 : Int32) < x3 then ((wrO q_n0_0 (2 : Int32) ((f6 x1 x2 (2 : Int32)).toInt8.toInt32)).bind fun v3 => (g0_53 fuel x3 v3)) else (g0_53 fuel x3 q_n0_0))
set_option maxRecDepth 65536 in
set_option maxHeartbeats 4000000 in
theorem b0_38 {r : Int32} (C : Ctx p s m meth c Z a0 "com/example/braid/braid/BodyLinesNextPinLaw" code 9 (some .boolean) "law") (fuel : Nat) (X0 : Stand p l e room_1 s m args below meth c T0 locs cells slots) (e0 : T0.heap = h0) (N0 : Fr n0 locs) (hk : cells ≤ 1) (hn : slots ≤ 3) (Z1 : n0 ≤ h0.size) (n0_0 : Addr) (o0 : n0 ≤ n0_0) (q_n0_0 : List Int32) (x0 : Int32) (x1 : Int32) (x2 : Int32) (x3 : Int32) (A_n0_0_0 : AI Z h0 n0_0 .byte q_n0_0) (hr : g0_38 fuel x1 x2 x3 q_n0_0 = some r) :
    Runs p e below s (P0 n0 r) 2 7 T0 (mkF m 38 #[.val (.int x0), .val (.int x1), .val (.int x2), .val (.int x3), .val (.ref n0_0), .unset, .unset, .unset, .unset] []) := by
  unfold g0_38 at hr
  have ⟨hx, hZ, hw, hby, hml, hown, hret, hlk, hnm⟩ := C
  refine Runs.via (T' := T0) (g' := (mkF m 40 #[.val (.int x0), .val (.int x1), .val (.int x2), .val (.int x3), .val (.ref n0_0), .unset, .unset, .unset, .unset] [(.int (2 : Int32)), (.int x3)])) (fun t k => ?_) ?_
  · show Steps p.tables e below (T0.setTop (mkF m 38 #[.val (.int x0), .val (.int x1), .val (.int x2), .val (.int x3), .val (.ref n0_0), .unset, .unset, .unset, .unset] [])) t
    refine XS.iloadN X0.here hx rfl (hb hby at_38) rfl ?_
    show Steps p.tables e below (T0.setTop (mkF m 39 #[.val (.int x0), .val (.int x1), .val (.int x2), .val (.int x3), .val (.ref n0_0), .unset, .unset, .unset, .unset] [(.int x3)])) t
    refine XS.iconst X0.here hx rfl (hb hby at_39) ?_
    exact k
  refine iteE hr (fun hc1 hr => ?_) (fun hc1 hr => ?_)
  · refine Runs.via (T' := T0) (g' := (mkF m 43 #[.val (.int x0), .val (.int x1), .val (.int x2), .val (.int x3), .val (.ref n0_0), .unset, .unset, .unset, .unset] [])) (fun t k => ?_) ?_
    · show Steps p.tables e below (T0.setTop (mkF m 40 #[.val (.int x0), .val (.int x1), .val (.int x2), .val (.int x3), .val (.ref n0_0), .unset, .unset, .unset, .unset] [(.int (2 : Int32)), (.int x3)])) t
      exact XS.icmpNo X0.here hx rfl (hb hby at_40) rfl (tlt hc1).2.2.2 k
    refine Runs.via (T' := T0) (g' := (mkF m 49 #[.val (.int x0), .val (.int x1), .val (.int x2), .val (.int x3), .val (.ref n0_0), .unset, .unset, .unset, .unset] [(.int (2 : Int32)), (.int x2), (.int x1), (.int (2 : Int32)), (.ref n0_0)])) (fun t k => ?_) ?_
    · show Steps p.tables e below (T0.setTop (mkF m 43 #[.val (.int x0), .val (.int x1), .val (.int x2), .val (.int x3), .val (.ref n0_0), .unset, .unset, .unset, .unset] [])) t
      refine XS.aload X0.here hx rfl (hb hby at_43) rfl rfl ?_
      show Steps p.tables e below (T0.setTop (mkF m 45 #[.val (.int x0), .val (.int x1), .val (.int x2), .val (.int x3), .val (.ref n0_0), .unset, .unset, .unset, .unset] [(.ref n0_0)])) t
      refine XS.iconst X0.here hx rfl (hb hby at_45) ?_
      show Steps p.tables e below (T0.setTop (mkF m 46 #[.val (.int x0), .val (.int x1), .val (.int x2), .val (.int x3), .val (.ref n0_0), .unset, .unset, .unset, .unset] [(.int (2 : Int32)), (.ref n0_0)])) t
      refine XS.iloadN X0.here hx rfl (hb hby at_46) rfl ?_
      show Steps p.tables e below (T0.setTop (mkF m 47 #[.val (.int x0), .val (.int x1), .val (.int x2), .val (.int x3), .val (.ref n0_0), .unset, .unset, .unset, .unset] [(.int x1), (.int (2 : Int32)), (.ref n0_0)])) t
      refine XS.iloadN X0.here hx rfl (hb hby at_47) rfl ?_
      show Steps p.tables e below (T0.setTop (mkF m 48 #[.val (.int x0), .val (.int x1), .val (.int x2), .val (.int x3), .val (.ref n0_0), .unset, .unset, .unset, .unset] [(.int x2), (.int x1), (.int (2 : Int32)), (.ref n0_0)])) t
      refine XS.iconst X0.here hx rfl (hb hby at_48) ?_
      exact k
    obtain ⟨_, _, ⟨T2, L2, k2, n2⟩, -, X2, ⟨Lc2, hQ2, l2, y2, z2⟩, st2⟩ := Jvm.LawKit.callS X0 hx (y := (⟨"com/example/braid/braid/BodyLinesNextPinLaw", "pick", "(III)B"⟩ : MethodName)) hown (mvT hZ (hw _ (List.mem_of_getElem? (i := 32) rfl))) (mvT hZ (hw _ (List.mem_of_getElem? (i := 33) rfl))) (mvT hZ (hw _ (List.mem_of_getElem? (i := 16) rfl))) (mvT hZ (hw _ (List.mem_of_getElem? (i := 34) rfl))) (by decide) (backOf (W := 2) (rm6 l Z a0 hw [] x1 x2 (2 : Int32) h0 n0) hZ (hw _ (List.mem_of_getElem? (i := 34) rfl)) (hw _ (List.mem_of_getElem? (i := 16) rfl)) (by decide) (by decide)) (g := (mkF m 49 #[.val (.int x0), .val (.int x1), .val (.int x2), .val (.int x3), .val (.ref n0_0), .unset, .unset, .unset, .unset] [(.int (2 : Int32)), (.int x2), (.int x1), (.int (2 : Int32)), (.ref n0_0)])) rfl (by rw [hml]; rfl) (argsL := [(.int x1), (.int x2), (.int (2 : Int32))]) (rest := [(.int (2 : Int32)), (.ref n0_0)]) (lenOf pd_0 rfl) rfl (by show 2 * 0 + _ ≤ _; exact Nat.le_of_eq rfl) (hb hby at_49) (fun _ _ => ⟨rfl, e0, (by show cells + 0 ≤ 16; omega), (by show slots + 0 ≤ 128; omega)⟩)
    dsimp only [Pt.U, Pt.locs, Pt.cells, Pt.slots] at X2 l2 y2 z2 st2 hQ2
    replace y2 := y2.symm; replace z2 := z2.symm; subst l2 y2 z2
    obtain ⟨rfl, N2q, e2⟩ := hQ2
    have N2 := Fr.app N0 N2q
    refine Runs.via (T' := T2) (g' := (mkF m 52 #[.val (.int x0), .val (.int x1), .val (.int x2), .val (.int x3), .val (.ref n0_0), .unset, .unset, .unset, .unset] [(.int (f6 x1 x2 (2 : Int32))), (.int (2 : Int32)), (.ref n0_0)])) (fun t k => st2 _ k) ?_
    refine bindE hr ?_; intro v3 hv3 hr
    obtain ⟨T3, h3, X3, e3, W3, A3, st3⟩ := soB X2 hx hZ e2 A_n0_0_0 hv3 (g := (mkF m 52 #[.val (.int x0), .val (.int x1), .val (.int x2), .val (.int x3), .val (.ref n0_0), .unset, .unset, .unset, .unset] [(.int (f6 x1 x2 (2 : Int32))), (.int (2 : Int32)), (.ref n0_0)])) rfl rfl (hb hby at_52)
    have A_n0_0_3 : AI Z h3 n0_0 .byte v3 := A3
    have N3 := Fr.snoc X3 N2 (by omega : n0 ≤ n0_0)
    have zz3 : n0 ≤ h3.size := Nat.le_trans Z1 (Keep.of_wr W3).1
    refine Runs.via (T' := T3) (g' := (mkF m 53 #[.val (.int x0), .val (.int x1), .val (.int x2), .val (.int x3), .val (.ref n0_0), .unset, .unset, .unset, .unset] [])) (fun t k => st3 _ k) ?_
    exact b0_53 C fuel X3 e3 N3 (by show (cells + 0) ≤ 1; omega) (by show (slots + 0) ≤ 3; omega) zz3 n0_0 (by omega) v3 x0 x1 x2 x3 A_n0_0_3 hr
  · refine Runs.via (T' := T0) (g' := (mkF m 53 #[.val (.int x0), .val (.int x1), .val (.int x2), .val (.int x3), .val (.ref n0_0), .unset, .unset, .unset, .unset] [])) (fun t k => ?_) ?_
    · show Steps p.tables e below (T0.setTop (mkF m 40 #[.val (.int x0), .val (.int x1), .val (.int x2), .val (.int x3), .val (.ref n0_0), .unset, .unset, .unset, .unset] [(.int (2 : Int32)), (.int x3)])) t
      exact XS.icmpYes X0.here hx rfl (pc0 := 40) (pc' := 53) rfl (hb hby at_40) rfl (flt hc1).2.2.2 (by decide) (by decide) k
    exact b0_53 C fuel X0 e0 N0 (by show cells ≤ 1; omega) (by show slots ≤ 3; omega) Z1 n0_0 (by omega) q_n0_0 x0 x1 x2 x3 A_n0_0_0 hr
def g0_23 (fuel : Nat) (x1 : Int32) (x2 : Int32) (x3 : Int32) (q_n0_0 : List Int32) : Option (Int32) := (if (1 : Int32) < x3 then ((wrO q_n0_0 (1 : Int32) ((f6 x1 x2 (1 : Int32)).toInt8.toInt32)).bind fun v3 => (g0_38 fuel x1 x2 x3 v3)) else (g0_38 fuel x1 x2 x3 q_n0_0))
set_option maxRecDepth 65536 in
set_option maxHeartbeats 4000000 in
theorem b0_23 {r : Int32} (C : Ctx p s m meth c Z a0 "com/example/braid/braid/BodyLinesNextPinLaw" code 9 (some .boolean) "law") (fuel : Nat) (X0 : Stand p l e room_1 s m args below meth c T0 locs cells slots) (e0 : T0.heap = h0) (N0 : Fr n0 locs) (hk : cells ≤ 1) (hn : slots ≤ 3) (Z1 : n0 ≤ h0.size) (n0_0 : Addr) (o0 : n0 ≤ n0_0) (q_n0_0 : List Int32) (x0 : Int32) (x1 : Int32) (x2 : Int32) (x3 : Int32) (A_n0_0_0 : AI Z h0 n0_0 .byte q_n0_0) (hr : g0_23 fuel x1 x2 x3 q_n0_0 = some r) :
    Runs p e below s (P0 n0 r) 2 7 T0 (mkF m 23 #[.val (.int x0), .val (.int x1), .val (.int x2), .val (.int x3), .val (.ref n0_0), .unset, .unset, .unset, .unset] []) := by
  unfold g0_23 at hr
  have ⟨hx, hZ, hw, hby, hml, hown, hret, hlk, hnm⟩ := C
  refine Runs.via (T' := T0) (g' := (mkF m 25 #[.val (.int x0), .val (.int x1), .val (.int x2), .val (.int x3), .val (.ref n0_0), .unset, .unset, .unset, .unset] [(.int (1 : Int32)), (.int x3)])) (fun t k => ?_) ?_
  · show Steps p.tables e below (T0.setTop (mkF m 23 #[.val (.int x0), .val (.int x1), .val (.int x2), .val (.int x3), .val (.ref n0_0), .unset, .unset, .unset, .unset] [])) t
    refine XS.iloadN X0.here hx rfl (hb hby at_23) rfl ?_
    show Steps p.tables e below (T0.setTop (mkF m 24 #[.val (.int x0), .val (.int x1), .val (.int x2), .val (.int x3), .val (.ref n0_0), .unset, .unset, .unset, .unset] [(.int x3)])) t
    refine XS.iconst X0.here hx rfl (hb hby at_24) ?_
    exact k
  refine iteE hr (fun hc1 hr => ?_) (fun hc1 hr => ?_)
  · refine Runs.via (T' := T0) (g' := (mkF m 28 #[.val (.int x0), .val (.int x1), .val (.int x2), .val (.int x3), .val (.ref n0_0), .unset, .unset, .unset, .unset] [])) (fun t k => ?_) ?_
    · show Steps p.tables e below (T0.setTop (mkF m 25 #[.val (.int x0), .val (.int x1), .val (.int x2), .val (.int x3), .val (.ref n0_0), .unset, .unset, .unset, .unset] [(.int (1 : Int32)), (.int x3)])) t
      exact XS.icmpNo X0.here hx rfl (hb hby at_25) rfl (tlt hc1).2.2.2 k
    refine Runs.via (T' := T0) (g' := (mkF m 34 #[.val (.int x0), .val (.int x1), .val (.int x2), .val (.int x3), .val (.ref n0_0), .unset, .unset, .unset, .unset] [(.int (1 : Int32)), (.int x2), (.int x1), (.int (1 : Int32)), (.ref n0_0)])) (fun t k => ?_) ?_
    · show Steps p.tables e below (T0.setTop (mkF m 28 #[.val (.int x0), .val (.int x1), .val (.int x2), .val (.int x3), .val (.ref n0_0), .unset, .unset, .unset, .unset] [])) t
      refine XS.aload X0.here hx rfl (hb hby at_28) rfl rfl ?_
      show Steps p.tables e below (T0.setTop (mkF m 30 #[.val (.int x0), .val (.int x1), .val (.int x2), .val (.int x3), .val (.ref n0_0), .unset, .unset, .unset, .unset] [(.ref n0_0)])) t
      refine XS.iconst X0.here hx rfl (hb hby at_30) ?_
      show Steps p.tables e below (T0.setTop (mkF m 31 #[.val (.int x0), .val (.int x1), .val (.int x2), .val (.int x3), .val (.ref n0_0), .unset, .unset, .unset, .unset] [(.int (1 : Int32)), (.ref n0_0)])) t
      refine XS.iloadN X0.here hx rfl (hb hby at_31) rfl ?_
      show Steps p.tables e below (T0.setTop (mkF m 32 #[.val (.int x0), .val (.int x1), .val (.int x2), .val (.int x3), .val (.ref n0_0), .unset, .unset, .unset, .unset] [(.int x1), (.int (1 : Int32)), (.ref n0_0)])) t
      refine XS.iloadN X0.here hx rfl (hb hby at_32) rfl ?_
      show Steps p.tables e below (T0.setTop (mkF m 33 #[.val (.int x0), .val (.int x1), .val (.int x2), .val (.int x3), .val (.ref n0_0), .unset, .unset, .unset, .unset] [(.int x2), (.int x1), (.int (1 : Int32)), (.ref n0_0)])) t
      refine XS.iconst X0.here hx rfl (hb hby at_33) ?_
      exact k
    obtain ⟨_, _, ⟨T2, L2, k2, n2⟩, -, X2, ⟨Lc2, hQ2, l2, y2, z2⟩, st2⟩ := Jvm.LawKit.callS X0 hx (y := (⟨"com/example/braid/braid/BodyLinesNextPinLaw", "pick", "(III)B"⟩ : MethodName)) hown (mvT hZ (hw _ (List.mem_of_getElem? (i := 32) rfl))) (mvT hZ (hw _ (List.mem_of_getElem? (i := 33) rfl))) (mvT hZ (hw _ (List.mem_of_getElem? (i := 16) rfl))) (mvT hZ (hw _ (List.mem_of_getElem? (i := 34) rfl))) (by decide) (backOf (W := 2) (rm6 l Z a0 hw [] x1 x2 (1 : Int32) h0 n0) hZ (hw _ (List.mem_of_getElem? (i := 34) rfl)) (hw _ (List.mem_of_getElem? (i := 16) rfl)) (by decide) (by decide)) (g := (mkF m 34 #[.val (.int x0), .val (.int x1), .val (.int x2), .val (.int x3), .val (.ref n0_0), .unset, .unset, .unset, .unset] [(.int (1 : Int32)), (.int x2), (.int x1), (.int (1 : Int32)), (.ref n0_0)])) rfl (by rw [hml]; rfl) (argsL := [(.int x1), (.int x2), (.int (1 : Int32))]) (rest := [(.int (1 : Int32)), (.ref n0_0)]) (lenOf pd_0 rfl) rfl (by show 2 * 0 + _ ≤ _; exact Nat.le_of_eq rfl) (hb hby at_34) (fun _ _ => ⟨rfl, e0, (by show cells + 0 ≤ 16; omega), (by show slots + 0 ≤ 128; omega)⟩)
    dsimp only [Pt.U, Pt.locs, Pt.cells, Pt.slots] at X2 l2 y2 z2 st2 hQ2
    replace y2 := y2.symm; replace z2 := z2.symm; subst l2 y2 z2
    obtain ⟨rfl, N2q, e2⟩ := hQ2
    have N2 := Fr.app N0 N2q
    refine Runs.via (T' := T2) (g' := (mkF m 37 #[.val (.int x0), .val (.int x1), .val (.int x2), .val (.int x3), .val (.ref n0_0), .unset, .unset, .unset, .unset] [(.int (f6 x1 x2 (1 : Int32))), (.int (1 : Int32)), (.ref n0_0)])) (fun t k => st2 _ k) ?_
    refine bindE hr ?_; intro v3 hv3 hr
    obtain ⟨T3, h3, X3, e3, W3, A3, st3⟩ := soB X2 hx hZ e2 A_n0_0_0 hv3 (g := (mkF m 37 #[.val (.int x0), .val (.int x1), .val (.int x2), .val (.int x3), .val (.ref n0_0), .unset, .unset, .unset, .unset] [(.int (f6 x1 x2 (1 : Int32))), (.int (1 : Int32)), (.ref n0_0)])) rfl rfl (hb hby at_37)
    have A_n0_0_3 : AI Z h3 n0_0 .byte v3 := A3
    have N3 := Fr.snoc X3 N2 (by omega : n0 ≤ n0_0)
    have zz3 : n0 ≤ h3.size := Nat.le_trans Z1 (Keep.of_wr W3).1
    refine Runs.via (T' := T3) (g' := (mkF m 38 #[.val (.int x0), .val (.int x1), .val (.int x2), .val (.int x3), .val (.ref n0_0), .unset, .unset, .unset, .unset] [])) (fun t k => st3 _ k) ?_
    exact b0_38 C fuel X3 e3 N3 (by show (cells + 0) ≤ 1; omega) (by show (slots + 0) ≤ 3; omega) zz3 n0_0 (by omega) v3 x0 x1 x2 x3 A_n0_0_3 hr
  · refine Runs.via (T' := T0) (g' := (mkF m 38 #[.val (.int x0), .val (.int x1), .val (.int x2), .val (.int x3), .val (.ref n0_0), .unset, .unset, .unset, .unset] [])) (fun t k => ?_) ?_
    · show Steps p.tables e below (T0.setTop (mkF m 25 #[.val (.int x0), .val (.int x1), .val (.int x2), .val (.int x3), .val (.ref n0_0), .unset, .unset, .unset, .unset] [(.int (1 : Int32)), (.int x3)])) t
      exact XS.icmpYes X0.here hx rfl (pc0 := 25) (pc' := 38) rfl (hb hby at_25) rfl (flt hc1).2.2.2 (by decide) (by decide) k
    exact b0_38 C fuel X0 e0 N0 (by show cells ≤ 1; omega) (by show slots ≤ 3; omega) Z1 n0_0 (by omega) q_n0_0 x0 x1 x2 x3 A_n0_0_0 hr
def g0_0 (fuel : Nat) (x0 : Int32) (x1 : Int32) (x2 : Int32) : Option (Int32) := (letO (x0 &&& (3 : Int32)) fun v1 => ((mkO v1 3).bind fun v2 => (if (0 : Int32) < v1 then ((wrO v2 (0 : Int32) ((f6 x1 x2 (0 : Int32)).toInt8.toInt32)).bind fun v5 => (g0_23 fuel x1 x2 v1 v5)) else (g0_23 fuel x1 x2 v1 v2))))
set_option maxRecDepth 65536 in
set_option maxHeartbeats 4000000 in
theorem b0_0 {r : Int32} (C : Ctx p s m meth c Z a0 "com/example/braid/braid/BodyLinesNextPinLaw" code 9 (some .boolean) "law") (fuel : Nat) (X0 : Stand p l e room_1 s m args below meth c T0 locs cells slots) (e0 : T0.heap = h0) (N0 : Fr n0 locs) (hk : cells ≤ 0) (hn : slots ≤ 0) (Z1 : n0 ≤ h0.size) (x0 : Int32) (x1 : Int32) (x2 : Int32) (hr : g0_0 fuel x0 x1 x2 = some r) :
    Runs p e below s (P0 n0 r) 2 7 T0 (mkF m 0 #[.val (.int x0), .val (.int x1), .val (.int x2), .unset, .unset, .unset, .unset, .unset, .unset] []) := by
  unfold g0_0 at hr
  have ⟨hx, hZ, hw, hby, hml, hown, hret, hlk, hnm⟩ := C
  refine Runs.via (T' := T0) (g' := (mkF m 3 #[.val (.int x0), .val (.int x1), .val (.int x2), .unset, .unset, .unset, .unset, .unset, .unset] [(.int (x0 &&& (3 : Int32)))])) (fun t k => ?_) ?_
  · show Steps p.tables e below (T0.setTop (mkF m 0 #[.val (.int x0), .val (.int x1), .val (.int x2), .unset, .unset, .unset, .unset, .unset, .unset] [])) t
    refine XS.iloadN X0.here hx rfl (hb hby at_0) rfl ?_
    show Steps p.tables e below (T0.setTop (mkF m 1 #[.val (.int x0), .val (.int x1), .val (.int x2), .unset, .unset, .unset, .unset, .unset, .unset] [(.int x0)])) t
    refine XS.iconst X0.here hx rfl (hb hby at_1) ?_
    show Steps p.tables e below (T0.setTop (mkF m 2 #[.val (.int x0), .val (.int x1), .val (.int x2), .unset, .unset, .unset, .unset, .unset, .unset] [(.int (3 : Int32)), (.int x0)])) t
    refine XS.iand X0.here hx rfl (hb hby at_2) rfl ?_
    exact k
  refine letE hr ?_; intro v1 hv1 hr
  rw [← hv1]
  refine Runs.via (T' := T0) (g' := (mkF m 5 #[.val (.int x0), .val (.int x1), .val (.int x2), .val (.int v1), .unset, .unset, .unset, .unset, .unset] [(.int v1)])) (fun t k => ?_) ?_
  · show Steps p.tables e below (T0.setTop (mkF m 3 #[.val (.int x0), .val (.int x1), .val (.int x2), .unset, .unset, .unset, .unset, .unset, .unset] [(.int v1)])) t
    refine XS.istoreN X0.here hx rfl (hb hby at_3) rfl (l' := #[.val (.int x0), .val (.int x1), .val (.int x2), .val (.int v1), .unset, .unset, .unset, .unset, .unset]) rfl ?_
    show Steps p.tables e below (T0.setTop (mkF m 4 #[.val (.int x0), .val (.int x1), .val (.int x2), .val (.int v1), .unset, .unset, .unset, .unset, .unset] [])) t
    refine XS.iloadN X0.here hx rfl (hb hby at_4) rfl ?_
    exact k
  refine bindE hr ?_; intro v2 hv2 hr
  obtain ⟨T2, h2, X2, e2, E2, A2, st2⟩ := newI X0 hx hZ (aty := .byte) (ty := .byte) rfl rfl (hw _ (List.mem_of_getElem? (i := 0) rfl)) e0 hv2 (g := (mkF m 5 #[.val (.int x0), .val (.int x1), .val (.int x2), .val (.int v1), .unset, .unset, .unset, .unset, .unset] [(.int v1)])) rfl (hb hby at_5) rfl (by decide) (by show cells + 1 ≤ 16; omega) (by show slots + 3 ≤ 128; omega)
  obtain ⟨b5, g2⟩ : ∃ z, z = h0.size := ⟨_, rfl⟩
  rw [← g2] at A2 st2
  have i2 := E2.1
  have zz2 : n0 ≤ h2.size := Nat.le_trans Z1 i2
  have A_b5_2 := A2
  have sb5 : n0 ≤ b5 := by omega
  refine Runs.via (T' := T2) (g' := (mkF m 7 #[.val (.int x0), .val (.int x1), .val (.int x2), .val (.int v1), .unset, .unset, .unset, .unset, .unset] [(.ref b5)])) (fun t k => st2 _ k) ?_
  refine Runs.via (T' := T2) (g' := (mkF m 10 #[.val (.int x0), .val (.int x1), .val (.int x2), .val (.int v1), .val (.ref b5), .unset, .unset, .unset, .unset] [(.int v1)])) (fun t k => ?_) ?_
  · show Steps p.tables e below (T2.setTop (mkF m 7 #[.val (.int x0), .val (.int x1), .val (.int x2), .val (.int v1), .unset, .unset, .unset, .unset, .unset] [(.ref b5)])) t
    refine XS.astore X2.here hx rfl (hb hby at_7) rfl rfl (l' := #[.val (.int x0), .val (.int x1), .val (.int x2), .val (.int v1), .val (.ref b5), .unset, .unset, .unset, .unset]) rfl ?_
    show Steps p.tables e below (T2.setTop (mkF m 9 #[.val (.int x0), .val (.int x1), .val (.int x2), .val (.int v1), .val (.ref b5), .unset, .unset, .unset, .unset] [])) t
    refine XS.iloadN X2.here hx rfl (hb hby at_9) rfl ?_
    exact k
  refine iteE hr (fun hc3 hr => ?_) (fun hc3 hr => ?_)
  · refine Runs.via (T' := T2) (g' := (mkF m 13 #[.val (.int x0), .val (.int x1), .val (.int x2), .val (.int v1), .val (.ref b5), .unset, .unset, .unset, .unset] [])) (fun t k => ?_) ?_
    · show Steps p.tables e below (T2.setTop (mkF m 10 #[.val (.int x0), .val (.int x1), .val (.int x2), .val (.int v1), .val (.ref b5), .unset, .unset, .unset, .unset] [(.int v1)])) t
      exact XS.ifNo X2.here hx rfl (hb hby at_10) rfl ((if0 _ _).trans (tlt hc3).2.2.2) k
    refine Runs.via (T' := T2) (g' := (mkF m 19 #[.val (.int x0), .val (.int x1), .val (.int x2), .val (.int v1), .val (.ref b5), .unset, .unset, .unset, .unset] [(.int (0 : Int32)), (.int x2), (.int x1), (.int (0 : Int32)), (.ref b5)])) (fun t k => ?_) ?_
    · show Steps p.tables e below (T2.setTop (mkF m 13 #[.val (.int x0), .val (.int x1), .val (.int x2), .val (.int v1), .val (.ref b5), .unset, .unset, .unset, .unset] [])) t
      refine XS.aload X2.here hx rfl (hb hby at_13) rfl rfl ?_
      show Steps p.tables e below (T2.setTop (mkF m 15 #[.val (.int x0), .val (.int x1), .val (.int x2), .val (.int v1), .val (.ref b5), .unset, .unset, .unset, .unset] [(.ref b5)])) t
      refine XS.iconst X2.here hx rfl (hb hby at_15) ?_
      show Steps p.tables e below (T2.setTop (mkF m 16 #[.val (.int x0), .val (.int x1), .val (.int x2), .val (.int v1), .val (.ref b5), .unset, .unset, .unset, .unset] [(.int (0 : Int32)), (.ref b5)])) t
      refine XS.iloadN X2.here hx rfl (hb hby at_16) rfl ?_
      show Steps p.tables e below (T2.setTop (mkF m 17 #[.val (.int x0), .val (.int x1), .val (.int x2), .val (.int v1), .val (.ref b5), .unset, .unset, .unset, .unset] [(.int x1), (.int (0 : Int32)), (.ref b5)])) t
      refine XS.iloadN X2.here hx rfl (hb hby at_17) rfl ?_
      show Steps p.tables e below (T2.setTop (mkF m 18 #[.val (.int x0), .val (.int x1), .val (.int x2), .val (.int v1), .val (.ref b5), .unset, .unset, .unset, .unset] [(.int x2), (.int x1), (.int (0 : Int32)), (.ref b5)])) t
      refine XS.iconst X2.here hx rfl (hb hby at_18) ?_
      exact k
    obtain ⟨_, _, ⟨T4, L4, k4, n4⟩, -, X4, ⟨Lc4, hQ4, l4, y4, z4⟩, st4⟩ := Jvm.LawKit.callS X2 hx (y := (⟨"com/example/braid/braid/BodyLinesNextPinLaw", "pick", "(III)B"⟩ : MethodName)) hown (mvT hZ (hw _ (List.mem_of_getElem? (i := 32) rfl))) (mvT hZ (hw _ (List.mem_of_getElem? (i := 33) rfl))) (mvT hZ (hw _ (List.mem_of_getElem? (i := 16) rfl))) (mvT hZ (hw _ (List.mem_of_getElem? (i := 34) rfl))) (by decide) (backOf (W := 2) (rm6 l Z a0 hw [] x1 x2 (0 : Int32) h2 n0) hZ (hw _ (List.mem_of_getElem? (i := 34) rfl)) (hw _ (List.mem_of_getElem? (i := 16) rfl)) (by decide) (by decide)) (g := (mkF m 19 #[.val (.int x0), .val (.int x1), .val (.int x2), .val (.int v1), .val (.ref b5), .unset, .unset, .unset, .unset] [(.int (0 : Int32)), (.int x2), (.int x1), (.int (0 : Int32)), (.ref b5)])) rfl (by rw [hml]; rfl) (argsL := [(.int x1), (.int x2), (.int (0 : Int32))]) (rest := [(.int (0 : Int32)), (.ref b5)]) (lenOf pd_0 rfl) rfl (by show 2 * 0 + _ ≤ _; exact Nat.le_of_eq rfl) (hb hby at_19) (fun _ _ => ⟨rfl, e2, (by show (cells + 1) + 0 ≤ 16; omega), (by show (slots + 3) + 0 ≤ 128; omega)⟩)
    dsimp only [Pt.U, Pt.locs, Pt.cells, Pt.slots] at X4 l4 y4 z4 st4 hQ4
    replace y4 := y4.symm; replace z4 := z4.symm; subst l4 y4 z4
    obtain ⟨rfl, N4q, e4⟩ := hQ4
    have N4 := Fr.app N0 N4q
    refine Runs.via (T' := T4) (g' := (mkF m 22 #[.val (.int x0), .val (.int x1), .val (.int x2), .val (.int v1), .val (.ref b5), .unset, .unset, .unset, .unset] [(.int (f6 x1 x2 (0 : Int32))), (.int (0 : Int32)), (.ref b5)])) (fun t k => st4 _ k) ?_
    refine bindE hr ?_; intro v5 hv5 hr
    obtain ⟨T5, h5, X5, e5, W5, A5, st5⟩ := soB X4 hx hZ e4 A_b5_2 hv5 (g := (mkF m 22 #[.val (.int x0), .val (.int x1), .val (.int x2), .val (.int v1), .val (.ref b5), .unset, .unset, .unset, .unset] [(.int (f6 x1 x2 (0 : Int32))), (.int (0 : Int32)), (.ref b5)])) rfl rfl (hb hby at_22)
    have A_b5_5 : AI Z h5 b5 .byte v5 := A5
    have N5 := Fr.snoc X5 N4 (by omega : n0 ≤ b5)
    have zz5 : n0 ≤ h5.size := Nat.le_trans zz2 (Keep.of_wr W5).1
    refine Runs.via (T' := T5) (g' := (mkF m 23 #[.val (.int x0), .val (.int x1), .val (.int x2), .val (.int v1), .val (.ref b5), .unset, .unset, .unset, .unset] [])) (fun t k => st5 _ k) ?_
    exact b0_23 C fuel X5 e5 N5 (by show ((cells + 1) + 0) ≤ 1; omega) (by show ((slots + 3) + 0) ≤ 3; omega) zz5 b5 (by omega) v5 x0 x1 x2 v1 A_b5_5 hr
  · refine Runs.via (T' := T2) (g' := (mkF m 23 #[.val (.int x0), .val (.int x1), .val (.int x2), .val (.int v1), .val (.ref b5), .unset, .unset, .unset, .unset] [])) (fun t k => ?_) ?_
    · show Steps p.tables e below (T2.setTop (mkF m 10 #[.val (.int x0), .val (.int x1), .val (.int x2), .val (.int v1), .val (.ref b5), .unset, .unset, .unset, .unset] [(.int v1)])) t
      exact XS.ifYes X2.here hx rfl (pc0 := 10) (pc' := 23) rfl (hb hby at_10) rfl ((if0 _ _).trans (flt hc3).2.2.2) (by decide) (by decide) k
    exact b0_23 C fuel X2 e2 N0 (by show (cells + 1) ≤ 1; omega) (by show (slots + 3) ≤ 3; omega) zz2 b5 (by omega) v2 x0 x1 x2 v1 A_b5_2 hr
def f0 (fuel : Nat) (x0 : Int32) (x1 : Int32) (x2 : Int32) : Option (Int32) := g0_0 fuel x0 x1 x2
theorem pn_0 : plainName "com/example/braid/braid/BodyLinesNextPinLaw" = true := by first | (simp [plainName, overriddenIn]; done) | decide +kernel
theorem ef_0 (m : MethodId) (x0 : Int32) (x1 : Int32) (x2 : Int32) : entryFrame m #[(.int x0), (.int x1), (.int x2)] maxLocals = mkF m 0 #[.val (.int x0), .val (.int x1), .val (.int x2), .unset, .unset, .unset, .unset, .unset, .unset] [] := by first | (simp [entryFrame, mkF, argsToLocals, Value.category, maxLocals]; done) | rfl
set_option maxRecDepth 65536 in
set_option maxHeartbeats 4000000 in
theorem rm0 (l : Launch) (Z : State) (a0 : Array Value) (hw : ∀ d ∈ tables_1, d.before a0 Z = true) (ws : List Jvm.Cond) (x0 : Int32) (x1 : Int32) (x2 : Int32) (hE : Heap) (n0 : Nat) (Z0 : n0 ≤ hE.size) (fuel : Nat) (r : Int32) (hr : f0 fuel x0 x1 x2 = some r) :
    MetFree l x (head1 (Jvm.Cond.code x code maxLocals ret :: ws) room_1) (fun a U => a = #[(.int x0), (.int x1), (.int x2)] ∧ Z.Warmed39 U.vm ∧ U.heap = hE) (fun _ _ _ _ _ => True) (fun _ U o U' => ∃ v L, o = .returned v ∧ (P0 n0 r v U'.heap L) ∧ FrameEnd U o U' L 2 7) := by
  refine MetFree.of_bodySF (plainFor_of_name pn_0) hisR ?_
  intro p e s m args below meth c s₁ Bd hml0 hP hK
  obtain ⟨rfl, hZ, hh⟩ := hP
  have X0 : Stand p l e room_1 s m #[(.int x0), (.int x1), (.int x2)] below meth c s₁ [] 0 0 := Stand.of_body Bd
  have e0 : s₁.heap = hE := by rw [← hh, Bd.state]; rfl
  have C : Ctx p s m meth c Z a0 "com/example/braid/braid/BodyLinesNextPinLaw" code 9 (some .boolean) "law" := ⟨Bd.exec, hZ, hw, Bd.bytes, hml0, findClass_of_methodNamed Bd.named, Bd.returns, BodyLoose.notSynchronized Bd, (name_of_methodNamed Bd.named Bd.method).1⟩
  refine Runs.via (fun t k => castTop (ef_0 m x0 x1 x2) k) (b0_0 C fuel X0 e0 (Fr.nil n0) (by show 0 ≤ 0; omega) (by show 0 ≤ 0; omega) Z0 x0 x1 x2 hr)
end Own
theorem bindS {α β : Type} {x : Option α} {k : α → Option β} {r : Option β} {v : α} (h : x = some v) (H : k v = r) : x.bind k = r := by rw [h]; exact H
theorem letS {α β : Type} {x : α} {k : α → β} {r : β} (H : k x = r) : letO x k = r := H
theorem wrS {α β : Type} {n : Nat} {xs : List α} {j : Int32} {v : α} {k : List α → Option β} {r : Option β} (hl : xs.length = n) (h1 : ¬ j < 0) (h2 : j.toNatClampNeg < n) (H : ∀ ys : List α, ys.length = n → k ys = r) : (wrO xs j v).bind k = r := by
  refine bindS (v := xs.set j.toNatClampNeg v) ?_ (H _ (by simp [hl]))
  unfold wrO
  rw [if_neg]
  rintro (q | q)
  · exact h1 q
  · omega
/-- a byte counts only by whether it is the newline -/
def own_cn (v : Int32) : Int32 := if v = 10 then 10 else 0
theorem own_cn10 (v : Int32) : (own_cn v = 10) = (v = 10) := by
  unfold own_cn
  by_cases h : v = 10
  · simp [h]
  · simp [h]
theorem own_rd (xs : List Int32) (j : Int32) : rdO (xs.map own_cn) j = (rdO xs j).map own_cn := by
  unfold rdO
  split
  · rfl
  · simp
theorem own_len (xs : List Int32) : lenO (xs.map own_cn) = lenO xs := by unfold lenO; simp
theorem own_h4 (fuel n : Nat) (xs : List Int32) : ∀ e s m : Int32, h4_32 fuel n (xs.map own_cn) e s m = h4_32 fuel n xs e s m := by
  induction n with
  | zero => intro e s m; rfl
  | succ n ih =>
    intro e s m
    show s4_32 (h4_32 fuel n) fuel (xs.map own_cn) e s m = s4_32 (h4_32 fuel n) fuel xs e s m
    unfold s4_32 g4_71
    rw [own_len, own_rd]
    cases rdO xs e with
    | none => rfl
    | some v => simp only [Option.map_some, Option.bind_some, own_cn10, ih, letO]
theorem own_f4 (fuel : Nat) (xs : List Int32) (e s m : Int32) : f4 fuel (xs.map own_cn) e s m = f4 fuel xs e s m := by
  unfold f4 g4_0 g4_32
  simp only [own_len, own_h4, letO]
theorem own_f7 (n s : Int32) (xs : List Int32) : f7 n s (xs.map own_cn) = f7 n s xs := by
  unfold f7 g7_0 g7_32 g7_53
  simp only [own_rd]
  cases rdO xs s with
  | none => rfl
  | some v =>
    cases rdO xs (s + 1) with
    | none => simp only [Option.map_some, Option.map_none, Option.bind_some, Option.bind_none, own_cn10]
    | some w =>
      cases rdO xs (s + 2) with
      | none => simp only [Option.map_some, Option.map_none, Option.bind_some, Option.bind_none, own_cn10]
      | some z => simp only [Option.map_some, Option.bind_some, own_cn10]
theorem own_f3 (fuel : Nat) (n s k : Int32) (xs : List Int32) (e t m : Int32) : f3 fuel n s k (xs.map own_cn) e t m = f3 fuel n s k xs e t m := by
  unfold f3 g3_0 g3_16 f8 g8_0 f9 g9_0 f5 g5_0
  simp only [own_f4, own_f7]
theorem own_53 (fuel : Nat) (n : Int32) (xs : List Int32) : g0_53 fuel n (xs.map own_cn) = g0_53 fuel n xs := by
  unfold g0_53 g0_101 g0_136 g0_171 g0_206 f1 g1_0 f5 g5_0
  simp only [own_f3]
def own_b (b : Bool) : Int32 := if b then 10 else 0
theorem own_b_cn (v : Int32) : own_cn v = own_b (decide (v = 10)) := by
  unfold own_cn own_b
  by_cases h : v = 10 <;> simp [h]
theorem own_fin0 : g0_53 6 0 [] = some 1 := by decide +kernel
theorem own_fin1 : ∀ a : Bool, g0_53 6 1 [own_b a] = some 1 := by decide +kernel
theorem own_fin2 : ∀ a b : Bool, g0_53 6 2 [own_b a, own_b b] = some 1 := by decide +kernel
theorem own_fin3 : ∀ a b c : Bool, g0_53 6 3 [own_b a, own_b b, own_b c] = some 1 := by decide +kernel
theorem own_all (n : Int32) (k : Nat) (hk : n.toInt = k) (h3 : k ≤ 3) (xs : List Int32) (hl : xs.length = k) : g0_53 6 n xs = some 1 := by
  rw [← own_53]
  match k, h3 with
  | 0, _ =>
    obtain rfl : n = 0 := Int32.toInt_inj.mp hk
    match xs, hl with
    | [], _ => exact own_fin0
  | 1, _ =>
    obtain rfl : n = 1 := Int32.toInt_inj.mp hk
    match xs, hl with
    | [a], _ => simp only [List.map_cons, List.map_nil, own_b_cn]; exact own_fin1 _
  | 2, _ =>
    obtain rfl : n = 2 := Int32.toInt_inj.mp hk
    match xs, hl with
    | [a, b], _ => simp only [List.map_cons, List.map_nil, own_b_cn]; exact own_fin2 _ _
  | 3, _ =>
    obtain rfl : n = 3 := Int32.toInt_inj.mp hk
    match xs, hl with
    | [a, b, c], _ => simp only [List.map_cons, List.map_nil, own_b_cn]; exact own_fin3 _ _ _
theorem own_law (x0 x1 x2 : Int32) : ∃ fuel, f0 fuel x0 x1 x2 = some 1 := by
  refine ⟨6, ?_⟩
  unfold f0 g0_0
  refine letS ?_
  have h1 := c_mask x0 3 2 (by decide) (by decide)
  have b1 : 0 ≤ (x0 &&& (3 : Int32)).toInt ∧ (x0 &&& (3 : Int32)).toInt < 4 := by rw [h1]; exact ⟨Int.emod_nonneg _ (by decide), Int.emod_lt_of_pos _ (by decide)⟩
  generalize (x0 &&& (3 : Int32)) = n at b1
  clear h1
  obtain ⟨k, hk⟩ : ∃ k : Nat, n.toInt = k := ⟨n.toInt.toNat, by omega⟩
  have hc : n.toNatClampNeg = k := by show n.toInt.toNat = k; omega
  have z0 : (0 : Int32).toInt = 0 := by decide
  have z1 : (1 : Int32).toInt = 1 := by decide
  have z2 : (2 : Int32).toInt = 2 := by decide
  have hmk : mkO n 3 = some (List.replicate k 0) := by
    unfold mkO
    rw [if_neg, hc]
    rintro (q | q)
    · rw [Int32.lt_iff_toInt_lt] at q; omega
    · omega
  refine bindS hmk ?_
  have hl : (List.replicate k (0 : Int32)).length = k := by simp
  generalize List.replicate k (0 : Int32) = w at hl
  have s38 : ∀ ys : List Int32, ys.length = k → g0_38 6 x1 x2 n ys = some 1 := by
    intro ys hy
    unfold g0_38
    split
    · rename_i q
      rw [Int32.lt_iff_toInt_lt] at q
      exact wrS hy (by decide) (by show 2 < k; omega) (fun zs hz => own_all n k hk (by omega) zs hz)
    · exact own_all n k hk (by omega) ys hy
  have s23 : ∀ ys : List Int32, ys.length = k → g0_23 6 x1 x2 n ys = some 1 := by
    intro ys hy
    unfold g0_23
    split
    · rename_i q
      rw [Int32.lt_iff_toInt_lt] at q
      exact wrS hy (by decide) (by show 1 < k; omega) (fun zs hz => s38 zs hz)
    · exact s38 ys hy
  split
  · rename_i q
    rw [Int32.lt_iff_toInt_lt] at q
    exact wrS hl (by decide) (by show 0 < k; omega) (fun zs hz => s23 zs hz)
  · exact s23 w hl
set_option maxRecDepth 65536 in
set_option maxHeartbeats 40000000 in
theorem comes_1 {Post : Tables → Env → Array Value → State → Outcome → State → Prop} (hpost : ∀ tb e args s v u, (limb_1_1.after args s (.returned v) u = true ∧ limb_1_2.after args s (.returned v) u = true ∧ True) → FrameEnd s (.returned v) u (Jvm.fieldLocs frame_1_writes args s ++ Jvm.arrayLocs frame_1_arrays args s ++ Jvm.staticLocs frame_1_statics s) 16 128 → Post tb e args s (.returned v) u) :
    ArmFor flags0 classFile x code maxLocals ret World_1 tables_1 room_1 Calls_1 rest_1 Pre_1 Post := by
  intro l hfl _ _ p e ha hc hk s m args below hf hA hF happ hP
  obtain ⟨hcalls, hrest, hpre⟩ := hP
  obtain ⟨-, -, -, hnamed, -, -, -, hat⟩ := (Spec.applies_iff hf).mp happ
  obtain ⟨hg, hn⟩ := and_e (Cond.before_iff.mp (show (Jvm.Cond.and given_1 narrow_1).before args s = true from hpre))
  obtain ⟨g1, g2⟩ := and_e hg
  obtain ⟨g3, g4⟩ := and_e g2
  obtain ⟨g5, g6⟩ := and_e g4
  obtain ⟨w0, w1, w2, rfl⟩ : ∃ w0 w1 w2 : Value, args = #[w0, w1, w2] := by
    have hs : args.size = 3 := by simpa [Cond.value, given_1] using g1
    obtain ⟨L⟩ := args
    match L, hs with
    | [w0, w1, w2], _ => exact ⟨w0, w1, w2, rfl⟩
  have hw := fun d (hd : d ∈ tables_1) => atoms_spec (ws := Jvm.Cond.code x code maxLocals ret :: tables_1) hat d (List.mem_cons_of_mem _ hd)
  obtain ⟨i0, ei0⟩ := is_v g3
  obtain rfl : w0 = (.int i0) := Option.some.inj ei0
  obtain ⟨i1, ei1⟩ := is_v g5
  obtain rfl : w1 = (.int i1) := Option.some.inj ei1
  obtain ⟨i2, ei2⟩ := is_v g6
  obtain rfl : w2 = (.int i2) := Option.some.inj ei2
  obtain ⟨fuel, hone⟩ := own_law i0 i1 i2
  obtain ⟨n, o, h1, h2, h3, _, L, rfl, ⟨rfl, N⟩, hq⟩ := rm0 l s _ hw tables_1 i0 i1 i2 s.heap s.heap.size (Nat.le_refl _) fuel _ hone p e ha hc hk s m _ below hf ((Spec.applies_iff_loose hf).mp happ).1 ⟨rfl, State.Warmed39.refl s, rfl⟩ trivial
  refine ⟨n, _, h1, h2, h3, hpost _ _ _ _ _ _ ⟨Cond.after_iff.mpr rfl, Cond.after_iff.mpr (eq_i res_at (Term.int_eval (1)) rfl), trivial⟩ ⟨hq.1, hq.2.1, (hq.2.2.sift fun y hy => Or.inr (N y hy)).mono (by decide) (by decide)⟩⟩
theorem main_1_1 : Claimed_1_1 := comes_1 fun _ _ _ _ _ _ h hF => ⟨h.1, hF⟩
theorem main_1_2 : Claimed_1_2 := comes_1 fun _ _ _ _ _ _ h hF => ⟨h.2.1, hF⟩
end Jvm.Pilot.@@N@@
namespace Jvm.Pilot.@@N@@
open Jvm Jvm.ClassFile Sem Op Lib Jvm.Free Jvm.Stand Jvm.Pilot.@@N@@.Jvm.D
/-! MADE BY PROGRAM (witnessworld.py) out of the Statement's table words and the real class files: 9 classes; the members and pool entries that the words name. The judged class is class 1, her method 4. -/
namespace start1
open Jvm.ClassFile
def u (s : String) : CpInfo := .utf8 (stringToUtf16 s)
/-- a pool by its gaps: so many unusable entries, then the entry; so many at the end -/
def gap : Nat → List CpInfo → List CpInfo
  | 0, r => r
  | n + 1, r => .unusable :: gap n r
def poolList (es : List (Nat × CpInfo)) (last : Nat) : List CpInfo := es.foldr (fun e r => gap e.1 (e.2 :: r)) (gap last [])
def pool (es : List (Nat × CpInfo)) (last : Nat) : Array CpInfo := ⟨poolList es last⟩
def fileOf (pool : Array CpInfo) (this : Nat) (attrs : Array Attribute := #[]) (ms : Array MethodInfo := #[]) (fl : Nat := 33) (sup : Nat := 0) (ifs : Array Nat := #[]) (fds : Array FieldInfo := #[]) : ClassFile where
  minorVersion := 0
  majorVersion := 65
  constantPool := pool
  accessFlags := fl
  thisClass := this
  superClass := sup
  interfaces := ifs
  fields := fds
  methods := ms
  attributes := attrs
def plain (name : String) (sup : Option ClassId) : Class where
  name := name
  kind := .ordinary
  loader := none
  accessFlags := 33
  super := sup
  interfaces := #[]
  cf := none
  fields := #[]
  methods := #[]
  instanceTypes := #[]
  staticTypes := #[]
  resolved := #[]
  callSites := []
  init := .initialized
  statics := none
  mirror := none

def pool0 : Array CpInfo := pool [(5, u "<init>"), (0, u "()V"), (1, .class_ 10), (1, u "java/lang/Object")] 113

def k0c0 : Code := { maxStack := 0, maxLocals := 1, code := object_method_1_code, exceptionTable := #[], attributes := #[] }
def k0m0 : Method := { name := "<init>", desc := "()V", sig := { parameters := [], returnType := none }, accessFlags := 1, code := some k0c0 }
/-- java/lang/Object -/
def k0 : Class := { plain "java/lang/Object" none with
  accessFlags := 33
  interfaces := #[]
  cf := some (fileOf pool0 8 #[] #[{ accessFlags := 1, nameIndex := 5, descriptorIndex := 6, attributes := #[] }] 33 0 #[] #[])
  fields := #[]
  methods := #[k0m0]
  instanceTypes := #[]
  staticTypes := #[]
  resolved := Array.replicate 124 none
  statics := none }

def pool1 : Array CpInfo := pool [(2, .class_ 4), (1, u "java/lang/Object"), (0, u "<init>"), (0, u "()V"), (0, .methodref 8 9), (0, .class_ 10), (0, .nameAndType 11 12), (0, u "com/example/braid/braid/BodyLines"), (0, u "next"), (0, u "()Z"), (0, .methodref 14 15), (0, .class_ 16), (0, .nameAndType 17 18), (0, u "com/example/braid/braid/BodyLinesNextPinLaw"), (0, u "endFrom"), (0, u "([BII)I"), (0, .methodref 8 20), (0, .nameAndType 21 22), (0, u "start"), (0, u "()I"), (0, .methodref 8 24), (0, .nameAndType 25 22), (0, u "length"), (0, .methodref 8 27), (0, .nameAndType 28 22), (0, u "number"), (0, .methodref 14 30), (0, .nameAndType 31 32), (0, u "pick"), (0, u "(III)B"), (0, .methodref 8 34), (0, .nameAndType 5 35), (0, u "([B)V"), (0, .methodref 14 37), (0, .nameAndType 38 39), (0, u "step"), (0, u "(Lcom/example/braid/braid/BodyLines;[BIII)I"), (3, u "law"), (0, u "(III)Z")] 4

def k1m0 : Method := { name := "<init>", desc := "()V", sig := { parameters := [], returnType := none }, accessFlags := 2, code := none }
def k1c1 : Code := { maxStack := 3, maxLocals := 3, code := method_2_code, exceptionTable := #[], attributes := #[] }
def k1m1 : Method := { name := "pick", desc := "(III)B", sig := { parameters := [.int, .int, .int], returnType := some .byte }, accessFlags := 10, code := some k1c1 }
def k1c2 : Code := { maxStack := 3, maxLocals := 3, code := method_3_code, exceptionTable := #[], attributes := #[] }
def k1m2 : Method := { name := "endFrom", desc := "([BII)I", sig := { parameters := [(.array .byte), .int, .int], returnType := some .int }, accessFlags := 10, code := some k1c2 }
def k1c3 : Code := { maxStack := 3, maxLocals := 8, code := method_4_code, exceptionTable := #[], attributes := #[] }
def k1m3 : Method := { name := "step", desc := "(Lcom/example/braid/braid/BodyLines;[BIII)I", sig := { parameters := [(.object "com/example/braid/braid/BodyLines"), (.array .byte), .int, .int, .int], returnType := some .int }, accessFlags := 10, code := some k1c3 }
def k1c4 : Code := { maxStack := 5, maxLocals := 9, code := code, exceptionTable := #[], attributes := #[] }
def k1m4 : Method := { name := "law", desc := "(III)Z", sig := { parameters := [.int, .int, .int], returnType := some .boolean }, accessFlags := 9, code := some k1c4 }
/-- com/example/braid/braid/BodyLinesNextPinLaw -/
def k1 : Class := { plain "com/example/braid/braid/BodyLinesNextPinLaw" (some 0) with
  accessFlags := 49
  interfaces := #[]
  cf := some (fileOf pool1 14 #[] #[{ accessFlags := 2, nameIndex := 5, descriptorIndex := 6, attributes := #[] }, { accessFlags := 10, nameIndex := 31, descriptorIndex := 32, attributes := #[] }, { accessFlags := 10, nameIndex := 17, descriptorIndex := 18, attributes := #[] }, { accessFlags := 10, nameIndex := 38, descriptorIndex := 39, attributes := #[] }, { accessFlags := 9, nameIndex := 43, descriptorIndex := 44, attributes := #[] }] 49 2 #[] #[])
  fields := #[]
  methods := #[k1m0, k1m1, k1m2, k1m3, k1m4]
  instanceTypes := #[]
  staticTypes := #[]
  resolved := Array.replicate 49 none
  statics := none }

def pool2 : Array CpInfo := pool [(1, .methodref 2 3), (0, .class_ 4), (0, .nameAndType 5 6), (0, u "java/lang/Object"), (0, u "<init>"), (0, u "()V"), (0, .fieldref 8 9), (0, .class_ 10), (0, .nameAndType 11 12), (0, u "com/example/braid/braid/BodyLines"), (0, u "end"), (0, u "I"), (0, .fieldref 8 14), (0, .nameAndType 15 16), (0, u "body"), (0, u "[B"), (0, .fieldref 8 18), (0, .nameAndType 19 12), (0, u "start"), (0, .fieldref 8 21), (0, .nameAndType 22 12), (0, u "number"), (2, u "next"), (0, u "()Z"), (3, u "([B)V"), (4, u "()I"), (0, u "length")] 2

def k2c0 : Code := { maxStack := 2, maxLocals := 2, code := prog_2_method_1_code, exceptionTable := #[], attributes := #[] }
def k2m0 : Method := { name := "<init>", desc := "([B)V", sig := { parameters := [(.array .byte)], returnType := none }, accessFlags := 0, code := some k2c0 }
def k2c1 : Code := { maxStack := 3, maxLocals := 1, code := prog_2_method_2_code, exceptionTable := #[], attributes := #[] }
def k2m1 : Method := { name := "next", desc := "()Z", sig := { parameters := [], returnType := some .boolean }, accessFlags := 0, code := some k2c1 }
def k2c2 : Code := { maxStack := 1, maxLocals := 1, code := prog_2_method_4_code, exceptionTable := #[], attributes := #[] }
def k2m2 : Method := { name := "start", desc := "()I", sig := { parameters := [], returnType := some .int }, accessFlags := 0, code := some k2c2 }
def k2c3 : Code := { maxStack := 2, maxLocals := 1, code := prog_2_method_5_code, exceptionTable := #[], attributes := #[] }
def k2m3 : Method := { name := "length", desc := "()I", sig := { parameters := [], returnType := some .int }, accessFlags := 0, code := some k2c3 }
def k2c4 : Code := { maxStack := 1, maxLocals := 1, code := prog_2_method_6_code, exceptionTable := #[], attributes := #[] }
def k2m4 : Method := { name := "number", desc := "()I", sig := { parameters := [], returnType := some .int }, accessFlags := 0, code := some k2c4 }
/-- com/example/braid/braid/BodyLines -/
def k2 : Class := { plain "com/example/braid/braid/BodyLines" (some 0) with
  accessFlags := 48
  interfaces := #[]
  cf := some (fileOf pool2 8 #[] #[{ accessFlags := 0, nameIndex := 5, descriptorIndex := 30, attributes := #[] }, { accessFlags := 0, nameIndex := 25, descriptorIndex := 26, attributes := #[] }, { accessFlags := 0, nameIndex := 19, descriptorIndex := 35, attributes := #[] }, { accessFlags := 0, nameIndex := 36, descriptorIndex := 35, attributes := #[] }, { accessFlags := 0, nameIndex := 22, descriptorIndex := 35, attributes := #[] }] 48 2 #[] #[{ accessFlags := 18, nameIndex := 15, descriptorIndex := 16, attributes := #[] }, { accessFlags := 2, nameIndex := 19, descriptorIndex := 12, attributes := #[] }, { accessFlags := 2, nameIndex := 11, descriptorIndex := 12, attributes := #[] }, { accessFlags := 2, nameIndex := 22, descriptorIndex := 12, attributes := #[] }])
  fields := #[{ name := "body", type := (.array .byte), accessFlags := 18, slot := 0, constantValue := 0 }, { name := "start", type := .int, accessFlags := 2, slot := 1, constantValue := 0 }, { name := "end", type := .int, accessFlags := 2, slot := 2, constantValue := 0 }, { name := "number", type := .int, accessFlags := 2, slot := 3, constantValue := 0 }]
  methods := #[k2m0, k2m1, k2m2, k2m3, k2m4]
  instanceTypes := #[(.array .byte), .int, .int, .int]
  staticTypes := #[]
  resolved := Array.replicate 39 none
  statics := none }

def pool3 : Array CpInfo := pool [(1, u "java/lang/Cloneable"), (0, .class_ 1), (0, u "java/lang/Object"), (0, .class_ 3)] 3

/-- java/lang/Cloneable -/
def k3 : Class := { plain "java/lang/Cloneable" (some 0) with
  accessFlags := 1537
  interfaces := #[]
  cf := some (fileOf pool3 2 #[] #[] 1537 4 #[] #[])
  fields := #[]
  methods := #[]
  instanceTypes := #[]
  staticTypes := #[]
  resolved := Array.replicate 8 none
  statics := none }

def pool4 : Array CpInfo := pool [(1, u "java/io/Serializable"), (0, .class_ 1), (0, u "java/lang/Object"), (0, .class_ 3)] 3

/-- java/io/Serializable -/
def k4 : Class := { plain "java/io/Serializable" (some 0) with
  accessFlags := 1537
  interfaces := #[]
  cf := some (fileOf pool4 2 #[] #[] 1537 4 #[] #[])
  fields := #[]
  methods := #[]
  instanceTypes := #[]
  staticTypes := #[]
  resolved := Array.replicate 8 none
  statics := none }

/-- the primitive byte -/
def k5 : Class := { plain "byte" none with kind := .primitive 'B', accessFlags := 0x411 }
/-- [B -/
def k6 : Class := { plain "[B" (some 0) with kind := .array 5 .byte, interfaces := #[3, 4], accessFlags := 1041 }

/-- the primitive int -/
def k7 : Class := { plain "int" none with kind := .primitive 'I', accessFlags := 0x411 }
/-- [I -/
def k8 : Class := { plain "[I" (some 0) with kind := .array 7 .int, interfaces := #[3, 4], accessFlags := 1041 }

def heap : Heap := #[]
def classes : Array Class := #[k0, k1, k2, k3, k4, k5, k6, k7, k8]
def interned : List (Array UInt16 × Addr) := []
def slotsUsed : Nat := 0
def theMethod : MethodId := ⟨1, 4⟩
def args0 : Array Value := #[.int 1, .int 3, .int 2]
def aboutOver (below : List Frame) : State where
  vm := { classes := classes, interned := interned.toArray }
  heap := heap
  slotsUsed := slotsUsed
  threads := #[{ frames := .invoking theMethod args0 :: below }]
def below0 : List Frame := [.native { method := ⟨0, 0⟩, args := #[] }]
def about1 : State := aboutOver below0
def p0 : Program := .bare "" "" ""
def e0 : Env := launch0.env 0 0 0
theorem w_frames : about1.frames = Frame.invoking theMethod args0 :: below0 := rfl
set_option maxRecDepth 65536 in
theorem w_args : argsFit about1.vm theMethod args0 = true := by decide +kernel
set_option maxRecDepth 65536 in
theorem w_heap : heapFits about1 = true := by decide +kernel
set_option maxRecDepth 65536 in
theorem w_runnable : about1.curStatus? = some .runnable := by decide +kernel
set_option maxRecDepth 65536 in
theorem w_alone : about1.alone = true := by decide +kernel
set_option maxRecDepth 65536 in
theorem w_named : about1.methodNamed? x = some theMethod := by decide +kernel
set_option maxRecDepth 65536 in
theorem w_hears : about1.hears theMethod below0 = true := by decide +kernel
set_option maxRecDepth 65536 in
theorem w_ripe : about1.ripe theMethod args0 below0 = true := by decide +kernel
theorem w_running : about1.status = .running := rfl
set_option maxRecDepth 65536 in
theorem w_room : about1.hasRoom e0.platform room_1 = true :=
  launch0.hasRoom_least _ room_1 (by decide +kernel) (by decide +kernel) (by decide +kernel) (by decide +kernel) (by decide +kernel) (by decide +kernel)
theorem allAtoms_all (ts : List Jvm.Cond) (a : Array Jvm.Value) (st : Jvm.State) : (allAtoms ts).before a st = ts.all (fun c => c.before a st) := by
  induction ts with
  | nil => rfl
  | cons c t ih =>
    show (Jvm.Cond.and c (allAtoms t)).before a st = _
    rw [Jvm.Cond.before_and, ih, List.all_cons]
def words1 : List Jvm.Cond := Jvm.Cond.code x code maxLocals ret :: tables_1
/-- a 'code' word, met by the world's own term for the bytes: nothing is compared byte by byte -/
theorem code_word {y : MethodName} {bytes : ByteArray} {mx : Nat} {rt : Option FieldType} {a : Array Value} {s : State} {m : MethodId} {meth : Method} {c : Code} (h1 : s.methodNamed? y = some m) (h2 : s.vm.method? m = some meth) (h3 : meth.code = some c) (h4 : c.code = bytes)
    (h5 : (c.maxLocals == mx && c.exceptionTable.isEmpty && decide (c.maxStack ≤ mostOperands) && decide (meth.sig.returnType = rt) && !meth.locks && decide (parseMethodDescriptor y.desc = some meth.sig)) = true) : (Jvm.Cond.code y bytes mx rt).before a s = true := by
  simp only [Bool.and_eq_true, beq_iff_eq, Bool.not_eq_true', decide_eq_true_eq] at h5
  obtain ⟨⟨⟨⟨⟨g1, g2⟩, g3⟩, g4⟩, g5⟩, g6⟩ := h5
  simp [Cond.before, Cond.holds, Cond.value, h1, h2, h3, h4, g1, g2, g3, g4, g5, g6]
def isCode : Jvm.Cond → Bool
  | .code _ _ _ _ => true
  | _ => false
theorem all_split {L : List Jvm.Cond} {P : Jvm.Cond → Bool} (h1 : L.all (fun c => isCode c || P c) = true) (h2 : ∀ c ∈ L.filter isCode, P c = true) : L.all P = true := by
  refine List.all_eq_true.mpr fun c hc => ?_
  have h := List.all_eq_true.mp h1 c hc
  rcases Bool.eq_false_or_eq_true (isCode c) with hi | hi
  · exact h2 c (List.mem_filter.mpr ⟨hc, hi⟩)
  · simpa [hi] using h
set_option maxRecDepth 65536 in
theorem w_c0 : (Jvm.Cond.code x code maxLocals ret).before args0 about1 = true := code_word (m := ⟨1, 4⟩) (meth := k1m4) (c := k1c4) (by decide +kernel) rfl rfl rfl (by decide +kernel)
set_option maxRecDepth 65536 in
theorem w_c1 : (Jvm.Cond.code ({ cls := "com/example/braid/braid/BodyLines", name := "<init>", desc := "([B)V" } : Jvm.MethodName) prog_2_method_1_code (2 : Nat) (Option.none : Option Jvm.ClassFile.FieldType)).before args0 about1 = true := code_word (m := ⟨2, 0⟩) (meth := k2m0) (c := k2c0) (by decide +kernel) rfl rfl rfl (by decide +kernel)
set_option maxRecDepth 65536 in
theorem w_c2 : (Jvm.Cond.code ({ cls := "java/lang/Object", name := "<init>", desc := "()V" } : Jvm.MethodName) object_method_1_code (1 : Nat) (Option.none : Option Jvm.ClassFile.FieldType)).before args0 about1 = true := code_word (m := ⟨0, 0⟩) (meth := k0m0) (c := k0c0) (by decide +kernel) rfl rfl rfl (by decide +kernel)
set_option maxRecDepth 65536 in
theorem w_c3 : (Jvm.Cond.code ({ cls := "com/example/braid/braid/BodyLinesNextPinLaw", name := "step", desc := "(Lcom/example/braid/braid/BodyLines;[BIII)I" } : Jvm.MethodName) method_4_code (8 : Nat) (Option.some Jvm.ClassFile.FieldType.int)).before args0 about1 = true := code_word (m := ⟨1, 3⟩) (meth := k1m3) (c := k1c3) (by decide +kernel) rfl rfl rfl (by decide +kernel)
set_option maxRecDepth 65536 in
theorem w_c4 : (Jvm.Cond.code ({ cls := "com/example/braid/braid/BodyLines", name := "next", desc := "()Z" } : Jvm.MethodName) prog_2_method_2_code (1 : Nat) (Option.some Jvm.ClassFile.FieldType.boolean)).before args0 about1 = true := code_word (m := ⟨2, 1⟩) (meth := k2m1) (c := k2c1) (by decide +kernel) rfl rfl rfl (by decide +kernel)
set_option maxRecDepth 65536 in
theorem w_c5 : (Jvm.Cond.code ({ cls := "com/example/braid/braid/BodyLines", name := "number", desc := "()I" } : Jvm.MethodName) prog_2_method_6_code (1 : Nat) (Option.some Jvm.ClassFile.FieldType.int)).before args0 about1 = true := code_word (m := ⟨2, 4⟩) (meth := k2m4) (c := k2c4) (by decide +kernel) rfl rfl rfl (by decide +kernel)
set_option maxRecDepth 65536 in
theorem w_c6 : (Jvm.Cond.code ({ cls := "com/example/braid/braid/BodyLinesNextPinLaw", name := "pick", desc := "(III)B" } : Jvm.MethodName) method_2_code (3 : Nat) (Option.some Jvm.ClassFile.FieldType.byte)).before args0 about1 = true := code_word (m := ⟨1, 1⟩) (meth := k1m1) (c := k1c1) (by decide +kernel) rfl rfl rfl (by decide +kernel)
set_option maxRecDepth 65536 in
theorem w_c7 : (Jvm.Cond.code ({ cls := "com/example/braid/braid/BodyLinesNextPinLaw", name := "endFrom", desc := "([BII)I" } : Jvm.MethodName) method_3_code (3 : Nat) (Option.some Jvm.ClassFile.FieldType.int)).before args0 about1 = true := code_word (m := ⟨1, 2⟩) (meth := k1m2) (c := k1c2) (by decide +kernel) rfl rfl rfl (by decide +kernel)
set_option maxRecDepth 65536 in
theorem w_c8 : (Jvm.Cond.code ({ cls := "com/example/braid/braid/BodyLines", name := "start", desc := "()I" } : Jvm.MethodName) prog_2_method_4_code (1 : Nat) (Option.some Jvm.ClassFile.FieldType.int)).before args0 about1 = true := code_word (m := ⟨2, 2⟩) (meth := k2m2) (c := k2c2) (by decide +kernel) rfl rfl rfl (by decide +kernel)
set_option maxRecDepth 65536 in
theorem w_c9 : (Jvm.Cond.code ({ cls := "com/example/braid/braid/BodyLines", name := "length", desc := "()I" } : Jvm.MethodName) prog_2_method_5_code (1 : Nat) (Option.some Jvm.ClassFile.FieldType.int)).before args0 about1 = true := code_word (m := ⟨2, 3⟩) (meth := k2m3) (c := k2c3) (by decide +kernel) rfl rfl rfl (by decide +kernel)
def codes1 : List Jvm.Cond := [Jvm.Cond.code x code maxLocals ret, Jvm.Cond.code ({ cls := "com/example/braid/braid/BodyLines", name := "<init>", desc := "([B)V" } : Jvm.MethodName) prog_2_method_1_code (2 : Nat) (Option.none : Option Jvm.ClassFile.FieldType), Jvm.Cond.code ({ cls := "java/lang/Object", name := "<init>", desc := "()V" } : Jvm.MethodName) object_method_1_code (1 : Nat) (Option.none : Option Jvm.ClassFile.FieldType), Jvm.Cond.code ({ cls := "com/example/braid/braid/BodyLinesNextPinLaw", name := "step", desc := "(Lcom/example/braid/braid/BodyLines;[BIII)I" } : Jvm.MethodName) method_4_code (8 : Nat) (Option.some Jvm.ClassFile.FieldType.int), Jvm.Cond.code ({ cls := "com/example/braid/braid/BodyLines", name := "next", desc := "()Z" } : Jvm.MethodName) prog_2_method_2_code (1 : Nat) (Option.some Jvm.ClassFile.FieldType.boolean), Jvm.Cond.code ({ cls := "com/example/braid/braid/BodyLines", name := "number", desc := "()I" } : Jvm.MethodName) prog_2_method_6_code (1 : Nat) (Option.some Jvm.ClassFile.FieldType.int), Jvm.Cond.code ({ cls := "com/example/braid/braid/BodyLinesNextPinLaw", name := "pick", desc := "(III)B" } : Jvm.MethodName) method_2_code (3 : Nat) (Option.some Jvm.ClassFile.FieldType.byte), Jvm.Cond.code ({ cls := "com/example/braid/braid/BodyLinesNextPinLaw", name := "endFrom", desc := "([BII)I" } : Jvm.MethodName) method_3_code (3 : Nat) (Option.some Jvm.ClassFile.FieldType.int), Jvm.Cond.code ({ cls := "com/example/braid/braid/BodyLines", name := "start", desc := "()I" } : Jvm.MethodName) prog_2_method_4_code (1 : Nat) (Option.some Jvm.ClassFile.FieldType.int), Jvm.Cond.code ({ cls := "com/example/braid/braid/BodyLines", name := "length", desc := "()I" } : Jvm.MethodName) prog_2_method_5_code (1 : Nat) (Option.some Jvm.ClassFile.FieldType.int)]
set_option maxRecDepth 65536 in
theorem codes_eq : words1.filter isCode = codes1 := rfl
theorem w_codes : ∀ c ∈ words1.filter isCode, c.before args0 about1 = true := by
  rw [codes_eq]
  intro c hc
  simp only [codes1, List.mem_cons, List.not_mem_nil, or_false] at hc
  rcases hc with rfl | rfl | rfl | rfl | rfl | rfl | rfl | rfl | rfl | rfl
  · exact w_c0
  · exact w_c1
  · exact w_c2
  · exact w_c3
  · exact w_c4
  · exact w_c5
  · exact w_c6
  · exact w_c7
  · exact w_c8
  · exact w_c9
set_option maxRecDepth 65536 in
theorem w_t1 : (words1.take 24).all (fun c => isCode c || c.before args0 about1) = true := by decide +kernel
set_option maxRecDepth 65536 in
theorem w_t2 : ((words1.drop 24).take 24).all (fun c => isCode c || c.before args0 about1) = true := by decide +kernel
set_option maxRecDepth 65536 in
theorem w_t3 : ((words1.drop 24).drop 24).all (fun c => isCode c || c.before args0 about1) = true := by decide +kernel
theorem w_tables : (allAtoms (Jvm.Cond.code x code maxLocals ret :: tables_1)).before args0 about1 = true := by
  rw [allAtoms_all]
  show words1.all (fun c => c.before args0 about1) = true
  refine all_split ?_ w_codes
  rw [← List.take_append_drop 24 words1, List.all_append, w_t1, ← List.take_append_drop 24 (words1.drop 24), List.all_append, w_t2, w_t3]
  rfl
set_option maxRecDepth 65536 in
theorem w_case : (Jvm.Cond.and given_1 narrow_1).before args0 about1 = true := by decide +kernel
theorem w_applies : (headSpec (Jvm.Cond.code x code maxLocals ret :: tables_1) room_1).applies x e0.platform about1 = true :=
  (Spec.applies_iff w_frames).mpr ⟨w_running, w_runnable, w_alone, w_named, w_hears, w_ripe, w_room, w_tables⟩
theorem atStart : AtStart classFile x code maxLocals ret World_1 tables_1 room_1 Calls_1 rest_1 Pre_1 launch0 p0 e0 about1 theMethod args0 below0 :=
  ⟨lists_1, trivial, launch0.admits_env _ _ _, launch0.least_env, fairChoices_fair.cas, fairChoices_fair.clock, w_frames, w_args, w_heap, w_applies, trivial, trivial, w_case⟩
end start1
theorem witness_1 : WitnessClaimed_1 := ⟨start1.p0, start1.e0, start1.about1, start1.theMethod, start1.args0, start1.below0, start1.atStart⟩
end Jvm.Pilot.@@N@@
