import JvmDerived
import JvmDerived.Pilot.@@N@@Statement
import JvmDerived.Pilot.@@N@@Code
set_option linter.unusedVariables false
set_option linter.unusedSimpArgs false
namespace Jvm.RoadKit
open Sem ClassFile Op Lib Jvm.Stand Jvm.Free Jvm.LawKit
section New
variable {p : Program} {l : Launch} {e : Env} {R : Room} {s : State} {m : MethodId} {args : Array Value} {below : List Frame} {meth : Method} {c : Code} {T : State} {locs : List Loc} {cells slots : Nat}
theorem retI (X : Stand p l e R s m args below meth c T locs cells slots) (hx : p.tables.exec = Jvm.exec) {pc : Nat} {Ls : Array Slot} {z : Int32} {rest : List Value} (hret : meth.sig.returnType = some .int) (hd : decode c.code pc = .ok (.ireturn, 1)) {fs : List Frame}
    (hl : ∀ (f : JFrame) (acts : List Action), f.method = m → f.locked = none → f.entered = [] → (doReturn e (T.setTop f) acts (some (.int z))).1 = T.setFrames fs) : Steps p.tables e below (T.setTop (mkF m pc Ls (.int z :: rest))) (T.setFrames fs) := by
  have hm' : T.vm.method? m = some meth := X.method'
  have hn : narrow .int (.int z) = .int z := rfl
  show Steps p.tables e below (T.setTop { method := m, pc := pc, locals := Ls, stack := _ :: rest, locked := none }) _
  jvm_step X.here [X.here.top, hx, hd, hm', hret, hn]
  first | (intro acts; rw [hl _ acts rfl rfl rfl]) | rw [hl _ _ rfl rfl rfl]
  exact Steps.refl _
end New
end Jvm.RoadKit
namespace Jvm.Pilot.@@N@@
open Jvm Jvm.ClassFile Sem Op Lib Jvm.Free Jvm.Stand Jvm.LawKit Jvm.RoadKit Bundle Jvm.Pilot.@@N@@.Jvm.D
def QP (r : Option Value) (h0 : Heap) (n0 : Nat) (v : Option Value) (h : Heap) (L : List Loc) : Prop := v = r ∧ Fr n0 L ∧ h = h0
def Ctx (p : Program) (s : State) (m : MethodId) (meth : Method) (c : Code) (Z : State) (a0 : Array Value) (own : String) (bytes : ByteArray) (ml : Nat) (rt : Option FieldType) (name : String) : Prop :=
  p.tables.exec = Jvm.exec ∧ Z.Warmed39 s.vm ∧ (∀ d ∈ tables_1, d.before a0 Z = true) ∧ c.code = bytes ∧ c.maxLocals = ml ∧ s.vm.findClass own = some m.cls ∧ meth.sig.returnType = rt ∧ meth.locks = false ∧ meth.name = name
/-- from T with the frame g on top the run comes to a return, of which Φ holds -/
def Runs (p : Program) (e : Env) (below : List Frame) (s : State) (Φ : Option Value → Heap → List Loc → Prop) (k n : Nat) (T : State) (g : JFrame) : Prop :=
  ∃ s₂ o, Steps p.tables e below (T.setTop g) s₂ ∧ s₂.status = .running ∧ Ended s₂ below o ∧ ∃ v L, o = .returned v ∧ Φ v s₂.heap L ∧ FrameEnd s o s₂ L k n
section Own
variable {p : Program} {l : Launch} {e : Env} {R : Room} {s : State} {m : MethodId} {args : Array Value} {below : List Frame} {meth : Method} {c : Code} {T T' T0 Z : State} {a0 : Array Value} {locs : List Loc} {cells slots k n n0 : Nat} {h0 : Heap} {g g' : JFrame} {Φ : Option Value → Heap → List Loc → Prop}
theorem Runs.via (h : ∀ t, Steps p.tables e below (T'.setTop g') t → Steps p.tables e below (T.setTop g) t) (r : Runs p e below s Φ k n T' g') : Runs p e below s Φ k n T g := by
  obtain ⟨s₂, o, h1, r⟩ := r
  exact ⟨s₂, o, h _ h1, r⟩
theorem QP.cast {r r' : Option Value} (h : r = r') (H : Runs p e below s (QP r' h0 n0) k n T g) : Runs p e below s (QP r h0 n0) k n T g := by rw [h]; exact H
theorem own_retI (X : Stand p l e R s m args below meth c T locs cells slots) (hx : p.tables.exec = Jvm.exec) (hlk : meth.locks = false) (hret : meth.sig.returnType = some .int) {pc : Nat} {Ls : Array Slot} {z : Int32} {rest : List Value} (hd : decode c.code pc = .ok (.ireturn, 1)) (hk : cells ≤ k) (hn : slots ≤ n) (hΦ : Φ (some (.int z)) T.heap locs) :
    Runs p e below s Φ k n T (mkF m pc Ls (.int z :: rest)) := by
  obtain ⟨fs, hr, hrun, hended, hW, hsame⟩ := X.leave (v := some (.int z)) (fun h => by rw [hret] at h; cases h) hlk
  exact ⟨_, _, retI X hx hret hd hr, hrun, hended, _, _, rfl, hΦ, ⟨_, rfl⟩, hW, hsame.mono hk hn⟩
theorem own_retN (X : Stand p l e R s m args below meth c T locs cells slots) (hx : p.tables.exec = Jvm.exec) (hlk : meth.locks = false) {t : FieldType} (hret : meth.sig.returnType = some t) (ht : t = .boolean ∨ t = .byte ∨ t = .char ∨ t = .short) {pc : Nat} {Ls : Array Slot} {z : Int32} {rest : List Value} (hd : decode c.code pc = .ok (.ireturn, 1)) (hk : cells ≤ k) (hn : slots ≤ n) (hΦ : Φ (some (.int (nar t z))) T.heap locs) :
    Runs p e below s Φ k n T (mkF m pc Ls (.int z :: rest)) := by
  obtain ⟨fs, hr, hrun, hended, hW, hsame⟩ := X.leave (v := some (.int (nar t z))) (fun h => by rw [hret] at h; cases h) hlk
  exact ⟨_, _, retN X hx hret ht hd hr, hrun, hended, _, _, rfl, hΦ, ⟨_, rfl⟩, hW, hsame.mono hk hn⟩
theorem own_retJ (X : Stand p l e R s m args below meth c T locs cells slots) (hx : p.tables.exec = Jvm.exec) (hlk : meth.locks = false) (hret : meth.sig.returnType = some .long) {pc : Nat} {Ls : Array Slot} {z : Int64} (hd : decode c.code pc = .ok (.lreturn, 1)) (hk : cells ≤ k) (hn : slots ≤ n) (hΦ : Φ (some (.long z)) T.heap locs) :
    Runs p e below s Φ k n T (mkF m pc Ls [.long z]) := by
  obtain ⟨fs, hr, hrun, hended, hW, hsame⟩ := X.leave (v := some (.long z)) (fun h => by rw [hret] at h; cases h) hlk
  exact ⟨_, _, X.lreturnOut hx hret hd hr, hrun, hended, _, _, rfl, hΦ, ⟨_, rfl⟩, hW, hsame.mono hk hn⟩
theorem own_privSel {s : State} {args : Array Value} {y : MethodName} {n : Nat} (hwi : (Cond.instantiable y.cls n).before args s = true) (hp : (Cond.privateMethod y).before args s = true) (hinst : (Cond.instanceMethod y).before args s = true) (hy : y.cls ≠ "java/lang/invoke/MethodHandle" ∧ y.cls ≠ "java/lang/invoke/VarHandle") : (Cond.selects y.cls y y).before args s = true := by
  obtain ⟨c, k, h1, h2, h3, h4, -⟩ := Cond.instantiable_spec hwi
  exact selects_self_of_private h1 h2 (by simp only [Bool.or_eq_false_iff] at h4; exact h4.1) (Cond.privateMethod_at hp) hinst hy
theorem own_retV (X : Stand p l e R s m args below meth c T locs cells slots) (hx : p.tables.exec = Jvm.exec) (hlk : meth.locks = false) (hret : meth.sig.returnType = none) {pc : Nat} {Ls : Array Slot} (hd : decode c.code pc = .ok (.return_, 1)) (hk : cells ≤ k) (hn : slots ≤ n) (hΦ : Φ none T.heap locs) :
    Runs p e below s Φ k n T (mkF m pc Ls []) := by
  obtain ⟨fs, hr, hrun, hended, hW, hsame⟩ := X.leave (v := none) (fun _ => rfl) hlk
  exact ⟨_, _, X.returnOut hx hret hd hr, hrun, hended, _, _, rfl, hΦ, ⟨_, rfl⟩, hW, hsame.mono hk hn⟩
theorem own_retR (X : Stand p l e R s m args below meth c T locs cells slots) (hx : p.tables.exec = Jvm.exec) (hlk : meth.locks = false) {t : FieldType} (hret : meth.sig.returnType = some t) (ht : t.isReference = true) {pc : Nat} {Ls : Array Slot} {a : Addr} {rest : List Value} (hd : decode c.code pc = .ok (.areturn, 1)) (hk : cells ≤ k) (hn : slots ≤ n) (hΦ : Φ (some (.ref a)) T.heap locs) :
    Runs p e below s Φ k n T (mkF m pc Ls (.ref a :: rest)) := by
  obtain ⟨fs, hr, hrun, hended, hW, hsame⟩ := X.leave (v := some (.ref a)) (fun h => by rw [hret] at h; cases h) hlk
  exact ⟨_, _, retOut X hx hret (by cases t <;> first | rfl | (cases ht; done)) (Or.inr (Or.inr (Or.inr (Or.inr ⟨rfl, ht, rfl⟩)))) hd hr, hrun, hended, _, _, rfl, hΦ, ⟨_, rfl⟩, hW, hsame.mono hk hn⟩
theorem bindE {α β : Type} {G : Prop} {x : Option α} {k : α → Option β} {r : β} (hr : x.bind k = some r) (H : ∀ v, x = some v → k v = some r → G) : G := by
  cases x with
  | none => exact nomatch hr
  | some v => exact H v rfl hr
def letO {α β : Type} (x : α) (k : α → β) : β := k x
theorem letE {α β : Type} {G : Prop} {x : α} {k : α → Option β} {r : β} (hr : letO x k = some r) (H : ∀ v, v = x → k v = some r → G) : G := H x rfl hr
theorem iteE {β : Type} {G P : Prop} [Decidable P] {a b : Option β} {r : β} (hr : (if P then a else b) = some r) (H1 : P → a = some r → G) (H2 : ¬ P → b = some r → G) : G := by
  by_cases h : P
  · rw [if_pos h] at hr; exact H1 h hr
  · rw [if_neg h] at hr; exact H2 h hr
/-- an array's place, a store, its length, a new array -/
def rdO {α : Type} (xs : List α) (j : Int32) : Option α := if j < 0 then none else xs[j.toNatClampNeg]?
def wrO {α : Type} (xs : List α) (j : Int32) (v : α) : Option (List α) := if j < 0 ∨ xs.length ≤ j.toNatClampNeg then none else some (xs.set j.toNatClampNeg v)
def lenO {α : Type} (xs : List α) : Int32 := xs.length.toInt32
def mkO (n : Int32) (cap : Nat) : Option (List Int32) := if n < 0 ∨ cap < n.toNatClampNeg then none else some (List.replicate n.toNatClampNeg 0)
def mkOJ (n : Int32) (cap : Nat) : Option (List Int64) := if n < 0 ∨ cap < n.toNatClampNeg then none else some (List.replicate n.toNatClampNeg 0)
def AI (Z : State) (h : Heap) (a : Addr) (ty : FieldType) (xs : List Int32) : Prop := ∃ c : Cell, Arr Z h a c ty ∧ c.slots = (xs.map Value.int).toArray
def AJ (Z : State) (h : Heap) (a : Addr) (ty : FieldType) (xs : List Int64) : Prop := ∃ c : Cell, Arr Z h a c ty ∧ c.slots = (xs.map Value.long).toArray
section Arrs
variable {p : Program} {l : Launch} {e : Env} {R : Room} {s : State} {m : MethodId} {args : Array Value} {below : List Frame} {meth : Method} {c : Code} {T Z : State} {a0 : Array Value} {locs : List Loc} {cells slots : Nat} {h h' : Heap} {a b : Addr} {ty : FieldType} {sl : Nat} {v : Value} {ws : List Addr}
theorem AI.lt {xs : List Int32} (F : AI Z h a ty xs) : a < h.size := by obtain ⟨c, A, -⟩ := F; exact A.lt
theorem AI.ext {xs : List Int32} (F : AI Z h a ty xs) (E : Ext h h') : AI Z h' a ty xs := by obtain ⟨c, A, q⟩ := F; exact ⟨c, A.ext E, q⟩
theorem AI.other {xs : List Int32} (F : AI Z h b ty xs) (W : Wr h h' a sl v) (q : b ≠ a) : AI Z h' b ty xs := by obtain ⟨c, A, r⟩ := F; exact ⟨c, A.other W q, r⟩
theorem AI.keep {xs : List Int32} (F : AI Z h a ty xs) (K : Keep h h' ws) (q : a ∉ ws) : AI Z h' a ty xs := by obtain ⟨c, A, r⟩ := F; exact ⟨c, ⟨K.2.1 a c A.1 q, A.2⟩, r⟩
theorem AJ.lt {xs : List Int64} (F : AJ Z h a ty xs) : a < h.size := by obtain ⟨c, A, -⟩ := F; exact A.lt
theorem AJ.ext {xs : List Int64} (F : AJ Z h a ty xs) (E : Ext h h') : AJ Z h' a ty xs := by obtain ⟨c, A, q⟩ := F; exact ⟨c, A.ext E, q⟩
theorem AJ.other {xs : List Int64} (F : AJ Z h b ty xs) (W : Wr h h' a sl v) (q : b ≠ a) : AJ Z h' b ty xs := by obtain ⟨c, A, r⟩ := F; exact ⟨c, A.other W q, r⟩
theorem AJ.keep {xs : List Int64} (F : AJ Z h a ty xs) (K : Keep h h' ws) (q : a ∉ ws) : AJ Z h' a ty xs := by obtain ⟨c, A, r⟩ := F; exact ⟨c, ⟨K.2.1 a c A.1 q, A.2⟩, r⟩
theorem rd_at {α : Type} {f : α → Value} {xs : List α} {j : Int32} {z : α} {cl : Cell} (q : cl.slots = (xs.map f).toArray) (hr : rdO xs j = some z) : ¬ (j < 0 ∨ cl.slots.size ≤ j.toNatClampNeg) ∧ cl.slots[j.toNatClampNeg]? = some (f z) := by
  unfold rdO at hr
  by_cases hj : j < 0
  · rw [if_pos hj] at hr; exact nomatch hr
  · rw [if_neg hj] at hr
    obtain ⟨hi, he⟩ := List.getElem?_eq_some_iff.mp hr
    rw [q]
    refine ⟨?_, by simp [hr]⟩
    rintro (h1 | h1)
    · exact hj h1
    · simp at h1; omega
theorem wr_at2 {α : Type} {f : α → Value} {xs xs' : List α} {j : Int32} {z : α} {cl : Cell} (q : cl.slots = (xs.map f).toArray) (hr : wrO xs j z = some xs') : ¬ (j < 0 ∨ cl.slots.size ≤ j.toNatClampNeg) ∧ (cl.setSlot j.toNatClampNeg (f z)).slots = (xs'.map f).toArray := by
  unfold wrO at hr
  by_cases hj : j < 0 ∨ xs.length ≤ j.toNatClampNeg
  · rw [if_pos hj] at hr; exact nomatch hr
  · rw [if_neg hj] at hr
    obtain rfl := Option.some.inj hr
    refine ⟨by rw [q]; simpa using hj, ?_⟩
    simp only [Cell.setSlot, q]
    simp [List.map_set]
theorem ldI (X : Stand p l e R s m args below meth c T locs cells slots) (hx : p.tables.exec = Jvm.exec) (hZ : Z.Warmed39 s.vm) (eT : T.heap = h) {xs : List Int32} (A : AI Z h a .int xs) {j z : Int32} (hr : rdO xs j = some z) {g : JFrame} (hg : g.method = m) {rest : List Value} (hs : g.stack = .int j :: .ref a :: rest) (hd : decode c.code g.pc = .ok (.iaload, 1)) :
    ∀ target, Steps p.tables e below (T.setTop { g with pc := g.pc + 1, stack := .int z :: rest }) target → Steps p.tables e below (T.setTop g) target := by
  obtain ⟨cl, A, q⟩ := A
  obtain ⟨h1, h2⟩ := rd_at q hr
  exact X.iaload hx (j := j) (v := .int z) (by rw [eT]; exact A.1) (State.isArrayOf_alike hZ.alike A.2.1) A.2.2 h1 h2 hg hs hd
theorem ldB (X : Stand p l e R s m args below meth c T locs cells slots) (hx : p.tables.exec = Jvm.exec) (hZ : Z.Warmed39 s.vm) (eT : T.heap = h) {xs : List Int32} (A : AI Z h a .byte xs) {j z : Int32} (hr : rdO xs j = some z) {g : JFrame} (hg : g.method = m) {rest : List Value} (hs : g.stack = .int j :: .ref a :: rest) (hd : decode c.code g.pc = .ok (.baload, 1)) :
    ∀ target, Steps p.tables e below (T.setTop { g with pc := g.pc + 1, stack := .int z :: rest }) target → Steps p.tables e below (T.setTop g) target := by
  obtain ⟨cl, A, q⟩ := A
  obtain ⟨h1, h2⟩ := rd_at q hr
  exact X.baloadBytes hx (j := j) (v := .int z) (by rw [eT]; exact A.1) (State.isArrayOf_alike hZ.alike A.2.1) A.2.2 h1 h2 hg hs hd
theorem ldJ (X : Stand p l e R s m args below meth c T locs cells slots) (hx : p.tables.exec = Jvm.exec) (hZ : Z.Warmed39 s.vm) (eT : T.heap = h) {xs : List Int64} (A : AJ Z h a .long xs) {j : Int32} {z : Int64} (hr : rdO xs j = some z) {g : JFrame} (hg : g.method = m) {rest : List Value} (hs : g.stack = .int j :: .ref a :: rest) (hd : decode c.code g.pc = .ok (.laload, 1)) :
    ∀ target, Steps p.tables e below (T.setTop { g with pc := g.pc + 1, stack := .long z :: rest }) target → Steps p.tables e below (T.setTop g) target := by
  obtain ⟨cl, A, q⟩ := A
  obtain ⟨h1, h2⟩ := rd_at q hr
  exact X.laload hx (j := j) (v := .long z) (by rw [eT]; exact A.1) (State.isArrayOf_alike hZ.alike A.2.1) A.2.2 h1 h2 hg hs hd
theorem soI (X : Stand p l e R s m args below meth c T locs cells slots) (hx : p.tables.exec = Jvm.exec) (hZ : Z.Warmed39 s.vm) (eT : T.heap = h) {xs xs' : List Int32} (A : AI Z h a .int xs) {j z : Int32} (hr : wrO xs j z = some xs') {g : JFrame} (hg : g.method = m) {rest : List Value} (hs : g.stack = .int z :: .int j :: .ref a :: rest) (hd : decode c.code g.pc = .ok (.iastore, 1)) :
    ∃ T' h', Stand p l e R s m args below meth c T' (locs ++ [⟨a, j.toNatClampNeg⟩]) cells slots ∧ T'.heap = h' ∧ Wr h h' a j.toNatClampNeg (.int z) ∧ AI Z h' a .int xs' ∧ ∀ target, Steps p.tables e below (T'.setTop { g with pc := g.pc + 1, stack := rest }) target → Steps p.tables e below (T.setTop g) target := by
  obtain ⟨cl, A, q⟩ := A
  obtain ⟨h1, h2⟩ := wr_at2 q hr
  obtain ⟨T', h', X', e', W, st⟩ := stI X hx hZ eT A h1 hg hs hd
  exact ⟨T', h', X', e', W, ⟨_, A.same W, h2⟩, st⟩
theorem soB (X : Stand p l e R s m args below meth c T locs cells slots) (hx : p.tables.exec = Jvm.exec) (hZ : Z.Warmed39 s.vm) (eT : T.heap = h) {xs xs' : List Int32} (A : AI Z h a .byte xs) {j z : Int32} (hr : wrO xs j (z.toInt8.toInt32) = some xs') {g : JFrame} (hg : g.method = m) {rest : List Value} (hs : g.stack = .int z :: .int j :: .ref a :: rest) (hd : decode c.code g.pc = .ok (.bastore, 1)) :
    ∃ T' h', Stand p l e R s m args below meth c T' (locs ++ [⟨a, j.toNatClampNeg⟩]) cells slots ∧ T'.heap = h' ∧ Wr h h' a j.toNatClampNeg (.int (z.toInt8.toInt32)) ∧ AI Z h' a .byte xs' ∧ ∀ target, Steps p.tables e below (T'.setTop { g with pc := g.pc + 1, stack := rest }) target → Steps p.tables e below (T.setTop g) target := by
  obtain ⟨cl, A, q⟩ := A
  obtain ⟨h1, h2⟩ := wr_at2 q hr
  obtain ⟨T', h', X', e', W, st⟩ := stB X hx hZ eT A h1 hg hs hd
  exact ⟨T', h', X', e', W, ⟨_, A.same W, h2⟩, st⟩
theorem soJ (X : Stand p l e R s m args below meth c T locs cells slots) (hx : p.tables.exec = Jvm.exec) (hZ : Z.Warmed39 s.vm) (eT : T.heap = h) {xs xs' : List Int64} (A : AJ Z h a .long xs) {j : Int32} {z : Int64} (hr : wrO xs j z = some xs') {g : JFrame} (hg : g.method = m) {rest : List Value} (hs : g.stack = .long z :: .int j :: .ref a :: rest) (hd : decode c.code g.pc = .ok (.lastore, 1)) :
    ∃ T' h', Stand p l e R s m args below meth c T' (locs ++ [⟨a, j.toNatClampNeg⟩]) cells slots ∧ T'.heap = h' ∧ Wr h h' a j.toNatClampNeg (.long z) ∧ AJ Z h' a .long xs' ∧ ∀ target, Steps p.tables e below (T'.setTop { g with pc := g.pc + 1, stack := rest }) target → Steps p.tables e below (T.setTop g) target := by
  obtain ⟨cl, A, q⟩ := A
  obtain ⟨h1, h2⟩ := wr_at2 q hr
  obtain ⟨T', h', X', e', W, st⟩ := stJ X hx hZ eT A h1 hg hs hd
  exact ⟨T', h', X', e', W, ⟨_, A.same W, h2⟩, st⟩
theorem lenAI (X : Stand p l e R s m args below meth c T locs cells slots) (hx : p.tables.exec = Jvm.exec) (hZ : Z.Warmed39 s.vm) (eT : T.heap = h) {xs : List Int32} (A : AI Z h a ty xs) {g : JFrame} (hg : g.method = m) {rest : List Value} (hs : g.stack = .ref a :: rest) (hd : decode c.code g.pc = .ok (.arraylength, 1)) :
    ∀ target, Steps p.tables e below (T.setTop { g with pc := g.pc + 1, stack := .int (lenO xs) :: rest }) target → Steps p.tables e below (T.setTop g) target := by
  obtain ⟨cl, A, q⟩ := A
  have e1 : cl.slots.size.toInt32 = lenO xs := by rw [q]; simp [lenO]
  intro t k
  refine X.arraylength hx (by rw [eT]; exact A.1) (State.isArrayOf_alike hZ.alike A.2.1) hg hs hd _ ?_
  rw [e1]; exact k
theorem lenAJ (X : Stand p l e R s m args below meth c T locs cells slots) (hx : p.tables.exec = Jvm.exec) (hZ : Z.Warmed39 s.vm) (eT : T.heap = h) {xs : List Int64} (A : AJ Z h a ty xs) {g : JFrame} (hg : g.method = m) {rest : List Value} (hs : g.stack = .ref a :: rest) (hd : decode c.code g.pc = .ok (.arraylength, 1)) :
    ∀ target, Steps p.tables e below (T.setTop { g with pc := g.pc + 1, stack := .int (lenO xs) :: rest }) target → Steps p.tables e below (T.setTop g) target := by
  obtain ⟨cl, A, q⟩ := A
  have e1 : cl.slots.size.toInt32 = lenO xs := by rw [q]; simp [lenO]
  intro t k
  refine X.arraylength hx (by rw [eT]; exact A.1) (State.isArrayOf_alike hZ.alike A.2.1) hg hs hd _ ?_
  rw [e1]; exact k
theorem newI (X : Stand p l e R s m args below meth c T locs cells slots) (hx : p.tables.exec = Jvm.exec) (hZ : Z.Warmed39 s.vm) {aty : ArrayType} (ht : newarray.typeOf aty = ty) (hdv : defaultValue ty = .int 0) (w : (Cond.arrayClass ty).before a0 Z = true) (eT : T.heap = h) {n : Int32} {cap : Nat} {xs : List Int32} (hr : mkO n cap = some xs) {g : JFrame} (hg : g.method = m) (hd : decode c.code g.pc = .ok (.newarray aty, 2)) {rest : List Value} (hs : g.stack = .int n :: rest) (hb : cap * 8 ≤ 536870912) (hc : cells + 1 ≤ R.cells) (hl : slots + cap ≤ R.slots) :
    ∃ T' h', Stand p l e R s m args below meth c T' locs (cells + 1) (slots + cap) ∧ T'.heap = h' ∧ Ext h h' ∧ AI Z h' h.size ty xs ∧ ∀ target, Steps p.tables e below (T'.setTop { g with pc := g.pc + 2, stack := .ref h.size :: rest }) target → Steps p.tables e below (T.setTop g) target := by
  subst ht
  unfold mkO at hr
  by_cases hn : n < 0 ∨ cap < n.toNatClampNeg
  · rw [if_pos hn] at hr; exact nomatch hr
  · rw [if_neg hn] at hr
    obtain rfl := Option.some.inj hr
    obtain ⟨T', h', cA, X', e', E, A, st⟩ := newP X hx hZ w eT hg hd hs (fun q => hn (Or.inl q)) (cap := cap) (Nat.le_of_not_lt fun q => hn (Or.inr q)) hb hc hl
    exact ⟨T', h', X', e', E, ⟨_, A, by simp [newA, hdv]⟩, st⟩
theorem newJ (X : Stand p l e R s m args below meth c T locs cells slots) (hx : p.tables.exec = Jvm.exec) (hZ : Z.Warmed39 s.vm) {aty : ArrayType} (ht : newarray.typeOf aty = .long) (w : (Cond.arrayClass .long).before a0 Z = true) (eT : T.heap = h) {n : Int32} {cap : Nat} {xs : List Int64} (hr : mkOJ n cap = some xs) {g : JFrame} (hg : g.method = m) (hd : decode c.code g.pc = .ok (.newarray aty, 2)) {rest : List Value} (hs : g.stack = .int n :: rest) (hb : cap * 8 ≤ 536870912) (hc : cells + 1 ≤ R.cells) (hl : slots + cap ≤ R.slots) :
    ∃ T' h', Stand p l e R s m args below meth c T' locs (cells + 1) (slots + cap) ∧ T'.heap = h' ∧ Ext h h' ∧ AJ Z h' h.size .long xs ∧ ∀ target, Steps p.tables e below (T'.setTop { g with pc := g.pc + 2, stack := .ref h.size :: rest }) target → Steps p.tables e below (T.setTop g) target := by
  unfold mkOJ at hr
  by_cases hn : n < 0 ∨ cap < n.toNatClampNeg
  · rw [if_pos hn] at hr; exact nomatch hr
  · rw [if_neg hn] at hr
    obtain rfl := Option.some.inj hr
    obtain ⟨T', h', cA, X', e', E, A, st⟩ := newP X hx hZ (by rw [ht]; exact w) eT hg hd hs (fun q => hn (Or.inl q)) (cap := cap) (Nat.le_of_not_lt fun q => hn (Or.inr q)) hb hc hl
    rw [ht] at A
    exact ⟨T', h', X', e', E, ⟨_, A, by simp [newA, defaultValue]⟩, st⟩
end Arrs
theorem d1_0 : decode method_2_code 0 = .ok (.iload_n 0, 1) := by decide +kernel
theorem d1_1 : decode method_2_code 1 = .ok (.bipush 7, 2) := by decide +kernel
theorem d1_3 : decode method_2_code 3 = .ok (.iand, 1) := by decide +kernel
theorem d1_4 : decode method_2_code 4 = .ok (.istore_n 1, 1) := by decide +kernel
theorem d1_5 : decode method_2_code 5 = .ok (.iload_n 1, 1) := by decide +kernel
theorem d1_6 : decode method_2_code 6 = .ok (.ifCond .ne 6, 3) := by decide +kernel
theorem d1_9 : decode method_2_code 9 = .ok (.bipush 10, 2) := by decide +kernel
theorem d1_11 : decode method_2_code 11 = .ok (.ireturn, 1) := by decide +kernel
theorem d1_12 : decode method_2_code 12 = .ok (.iload_n 1, 1) := by decide +kernel
theorem d1_13 : decode method_2_code 13 = .ok (.iconst 1, 1) := by decide +kernel
theorem d1_14 : decode method_2_code 14 = .ok (.if_icmp .ne 6, 3) := by decide +kernel
theorem d1_17 : decode method_2_code 17 = .ok (.bipush 32, 2) := by decide +kernel
theorem d1_19 : decode method_2_code 19 = .ok (.ireturn, 1) := by decide +kernel
theorem d1_20 : decode method_2_code 20 = .ok (.iload_n 1, 1) := by decide +kernel
theorem d1_21 : decode method_2_code 21 = .ok (.iconst 2, 1) := by decide +kernel
theorem d1_22 : decode method_2_code 22 = .ok (.if_icmp .ne 6, 3) := by decide +kernel
theorem d1_25 : decode method_2_code 25 = .ok (.bipush 9, 2) := by decide +kernel
theorem d1_27 : decode method_2_code 27 = .ok (.ireturn, 1) := by decide +kernel
theorem d1_28 : decode method_2_code 28 = .ok (.iload_n 1, 1) := by decide +kernel
theorem d1_29 : decode method_2_code 29 = .ok (.iconst 3, 1) := by decide +kernel
theorem d1_30 : decode method_2_code 30 = .ok (.if_icmp .ne 6, 3) := by decide +kernel
theorem d1_33 : decode method_2_code 33 = .ok (.bipush 13, 2) := by decide +kernel
theorem d1_35 : decode method_2_code 35 = .ok (.ireturn, 1) := by decide +kernel
theorem d1_36 : decode method_2_code 36 = .ok (.iload_n 0, 1) := by decide +kernel
theorem d1_37 : decode method_2_code 37 = .ok (.iconst 3, 1) := by decide +kernel
theorem d1_38 : decode method_2_code 38 = .ok (.ishr, 1) := by decide +kernel
theorem d1_39 : decode method_2_code 39 = .ok (.i2b, 1) := by decide +kernel
theorem d1_40 : decode method_2_code 40 = .ok (.ireturn, 1) := by decide +kernel
def g1_0 (x0 : Int32) : Int32 := (if (x0 &&& (7 : Int32)) = (0 : Int32) then ((10 : Int32).toInt8.toInt32) else (if (x0 &&& (7 : Int32)) = (1 : Int32) then ((32 : Int32).toInt8.toInt32) else (if (x0 &&& (7 : Int32)) = (2 : Int32) then ((9 : Int32).toInt8.toInt32) else (if (x0 &&& (7 : Int32)) = (3 : Int32) then ((13 : Int32).toInt8.toInt32) else (((x0 >>> ((3 : Int32) &&& 31)).toInt8.toInt32).toInt8.toInt32)))))
set_option maxRecDepth 65536 in
set_option maxHeartbeats 4000000 in
theorem b1_0 (C : Ctx p s m meth c Z a0 "com/example/braid/braid/BodyLinesNextNotBlankPinLaw" method_2_code 2 (some .byte) "draw") (X0 : Stand p l e ({ frames := 0, cells := 0, slots := 0, locals := 0 } : Room) s m args below meth c T0 locs cells slots) (e0 : T0.heap = h0) (N0 : Fr n0 locs) (hk : cells ≤ 0) (hn : slots ≤ 0) (x0 : Int32) :
    Runs p e below s (QP (some (.int (g1_0 x0))) h0 n0) 0 0 T0 (mkF m 0 #[.val (.int x0), .unset] []) := by
  have ⟨hx, hZ, hw, hby, hml, hown, hret, hlk, hnm⟩ := C
  refine Runs.via (T' := T0) (g' := (mkF m 6 #[.val (.int x0), .val (.int (x0 &&& (7 : Int32)))] [(.int (x0 &&& (7 : Int32)))])) (fun t k => ?_) ?_
  · show Steps p.tables e below (T0.setTop (mkF m 0 #[.val (.int x0), .unset] [])) t
    refine XS.iloadN X0.here hx rfl (hb hby d1_0) rfl ?_
    show Steps p.tables e below (T0.setTop (mkF m 1 #[.val (.int x0), .unset] [(.int x0)])) t
    refine XS.bipush X0.here hx rfl (hb hby d1_1) ?_
    show Steps p.tables e below (T0.setTop (mkF m 3 #[.val (.int x0), .unset] [(.int (7 : Int32)), (.int x0)])) t
    refine XS.iand X0.here hx rfl (hb hby d1_3) rfl ?_
    show Steps p.tables e below (T0.setTop (mkF m 4 #[.val (.int x0), .unset] [(.int (x0 &&& (7 : Int32)))])) t
    refine XS.istoreN X0.here hx rfl (hb hby d1_4) rfl (l' := #[.val (.int x0), .val (.int (x0 &&& (7 : Int32)))]) rfl ?_
    show Steps p.tables e below (T0.setTop (mkF m 5 #[.val (.int x0), .val (.int (x0 &&& (7 : Int32)))] [])) t
    refine XS.iloadN X0.here hx rfl (hb hby d1_5) rfl ?_
    exact k
  by_cases hc1 : (x0 &&& (7 : Int32)) = (0 : Int32)
  · refine Runs.via (T' := T0) (g' := (mkF m 9 #[.val (.int x0), .val (.int (x0 &&& (7 : Int32)))] [])) (fun t k => ?_) ?_
    · show Steps p.tables e below (T0.setTop (mkF m 6 #[.val (.int x0), .val (.int (x0 &&& (7 : Int32)))] [(.int (x0 &&& (7 : Int32)))])) t
      exact XS.ifNo X0.here hx rfl (hb hby d1_6) rfl ((if0 _ _).trans (teq hc1).2) k
    refine Runs.via (T' := T0) (g' := (mkF m 11 #[.val (.int x0), .val (.int (x0 &&& (7 : Int32)))] [(.int (10 : Int32))])) (fun t k => ?_) ?_
    · show Steps p.tables e below (T0.setTop (mkF m 9 #[.val (.int x0), .val (.int (x0 &&& (7 : Int32)))] [])) t
      refine XS.bipush X0.here hx rfl (hb hby d1_9) ?_
      exact k
    refine QP.cast (congrArg (fun z => some (Value.int z)) (show (g1_0 x0) = ((10 : Int32).toInt8.toInt32) from (if_pos hc1))) ?_
    exact own_retN X0 hx hlk (t := .byte) hret (by simp) (hb hby d1_11) hk hn ⟨rfl, N0, e0⟩
  · refine Runs.via (T' := T0) (g' := (mkF m 12 #[.val (.int x0), .val (.int (x0 &&& (7 : Int32)))] [])) (fun t k => ?_) ?_
    · show Steps p.tables e below (T0.setTop (mkF m 6 #[.val (.int x0), .val (.int (x0 &&& (7 : Int32)))] [(.int (x0 &&& (7 : Int32)))])) t
      exact XS.ifYes X0.here hx rfl (pc0 := 6) (pc' := 12) rfl (hb hby d1_6) rfl ((if0 _ _).trans (feq hc1).2) (by decide) (by decide) k
    refine Runs.via (T' := T0) (g' := (mkF m 14 #[.val (.int x0), .val (.int (x0 &&& (7 : Int32)))] [(.int (1 : Int32)), (.int (x0 &&& (7 : Int32)))])) (fun t k => ?_) ?_
    · show Steps p.tables e below (T0.setTop (mkF m 12 #[.val (.int x0), .val (.int (x0 &&& (7 : Int32)))] [])) t
      refine XS.iloadN X0.here hx rfl (hb hby d1_12) rfl ?_
      show Steps p.tables e below (T0.setTop (mkF m 13 #[.val (.int x0), .val (.int (x0 &&& (7 : Int32)))] [(.int (x0 &&& (7 : Int32)))])) t
      refine XS.iconst X0.here hx rfl (hb hby d1_13) ?_
      exact k
    by_cases hc2 : (x0 &&& (7 : Int32)) = (1 : Int32)
    · refine Runs.via (T' := T0) (g' := (mkF m 17 #[.val (.int x0), .val (.int (x0 &&& (7 : Int32)))] [])) (fun t k => ?_) ?_
      · show Steps p.tables e below (T0.setTop (mkF m 14 #[.val (.int x0), .val (.int (x0 &&& (7 : Int32)))] [(.int (1 : Int32)), (.int (x0 &&& (7 : Int32)))])) t
        exact XS.icmpNo X0.here hx rfl (hb hby d1_14) rfl (teq hc2).2 k
      refine Runs.via (T' := T0) (g' := (mkF m 19 #[.val (.int x0), .val (.int (x0 &&& (7 : Int32)))] [(.int (32 : Int32))])) (fun t k => ?_) ?_
      · show Steps p.tables e below (T0.setTop (mkF m 17 #[.val (.int x0), .val (.int (x0 &&& (7 : Int32)))] [])) t
        refine XS.bipush X0.here hx rfl (hb hby d1_17) ?_
        exact k
      refine QP.cast (congrArg (fun z => some (Value.int z)) (show (g1_0 x0) = ((32 : Int32).toInt8.toInt32) from ((if_neg hc1).trans (if_pos hc2)))) ?_
      exact own_retN X0 hx hlk (t := .byte) hret (by simp) (hb hby d1_19) hk hn ⟨rfl, N0, e0⟩
    · refine Runs.via (T' := T0) (g' := (mkF m 20 #[.val (.int x0), .val (.int (x0 &&& (7 : Int32)))] [])) (fun t k => ?_) ?_
      · show Steps p.tables e below (T0.setTop (mkF m 14 #[.val (.int x0), .val (.int (x0 &&& (7 : Int32)))] [(.int (1 : Int32)), (.int (x0 &&& (7 : Int32)))])) t
        exact XS.icmpYes X0.here hx rfl (pc0 := 14) (pc' := 20) rfl (hb hby d1_14) rfl (feq hc2).2 (by decide) (by decide) k
      refine Runs.via (T' := T0) (g' := (mkF m 22 #[.val (.int x0), .val (.int (x0 &&& (7 : Int32)))] [(.int (2 : Int32)), (.int (x0 &&& (7 : Int32)))])) (fun t k => ?_) ?_
      · show Steps p.tables e below (T0.setTop (mkF m 20 #[.val (.int x0), .val (.int (x0 &&& (7 : Int32)))] [])) t
        refine XS.iloadN X0.here hx rfl (hb hby d1_20) rfl ?_
        show Steps p.tables e below (T0.setTop (mkF m 21 #[.val (.int x0), .val (.int (x0 &&& (7 : Int32)))] [(.int (x0 &&& (7 : Int32)))])) t
        refine XS.iconst X0.here hx rfl (hb hby d1_21) ?_
        exact k
      by_cases hc3 : (x0 &&& (7 : Int32)) = (2 : Int32)
      · refine Runs.via (T' := T0) (g' := (mkF m 25 #[.val (.int x0), .val (.int (x0 &&& (7 : Int32)))] [])) (fun t k => ?_) ?_
        · show Steps p.tables e below (T0.setTop (mkF m 22 #[.val (.int x0), .val (.int (x0 &&& (7 : Int32)))] [(.int (2 : Int32)), (.int (x0 &&& (7 : Int32)))])) t
          exact XS.icmpNo X0.here hx rfl (hb hby d1_22) rfl (teq hc3).2 k
        refine Runs.via (T' := T0) (g' := (mkF m 27 #[.val (.int x0), .val (.int (x0 &&& (7 : Int32)))] [(.int (9 : Int32))])) (fun t k => ?_) ?_
        · show Steps p.tables e below (T0.setTop (mkF m 25 #[.val (.int x0), .val (.int (x0 &&& (7 : Int32)))] [])) t
          refine XS.bipush X0.here hx rfl (hb hby d1_25) ?_
          exact k
        refine QP.cast (congrArg (fun z => some (Value.int z)) (show (g1_0 x0) = ((9 : Int32).toInt8.toInt32) from ((if_neg hc1).trans ((if_neg hc2).trans (if_pos hc3))))) ?_
        exact own_retN X0 hx hlk (t := .byte) hret (by simp) (hb hby d1_27) hk hn ⟨rfl, N0, e0⟩
      · refine Runs.via (T' := T0) (g' := (mkF m 28 #[.val (.int x0), .val (.int (x0 &&& (7 : Int32)))] [])) (fun t k => ?_) ?_
        · show Steps p.tables e below (T0.setTop (mkF m 22 #[.val (.int x0), .val (.int (x0 &&& (7 : Int32)))] [(.int (2 : Int32)), (.int (x0 &&& (7 : Int32)))])) t
          exact XS.icmpYes X0.here hx rfl (pc0 := 22) (pc' := 28) rfl (hb hby d1_22) rfl (feq hc3).2 (by decide) (by decide) k
        refine Runs.via (T' := T0) (g' := (mkF m 30 #[.val (.int x0), .val (.int (x0 &&& (7 : Int32)))] [(.int (3 : Int32)), (.int (x0 &&& (7 : Int32)))])) (fun t k => ?_) ?_
        · show Steps p.tables e below (T0.setTop (mkF m 28 #[.val (.int x0), .val (.int (x0 &&& (7 : Int32)))] [])) t
          refine XS.iloadN X0.here hx rfl (hb hby d1_28) rfl ?_
          show Steps p.tables e below (T0.setTop (mkF m 29 #[.val (.int x0), .val (.int (x0 &&& (7 : Int32)))] [(.int (x0 &&& (7 : Int32)))])) t
          refine XS.iconst X0.here hx rfl (hb hby d1_29) ?_
          exact k
        by_cases hc4 : (x0 &&& (7 : Int32)) = (3 : Int32)
        · refine Runs.via (T' := T0) (g' := (mkF m 33 #[.val (.int x0), .val (.int (x0 &&& (7 : Int32)))] [])) (fun t k => ?_) ?_
          · show Steps p.tables e below (T0.setTop (mkF m 30 #[.val (.int x0), .val (.int (x0 &&& (7 : Int32)))] [(.int (3 : Int32)), (.int (x0 &&& (7 : Int32)))])) t
            exact XS.icmpNo X0.here hx rfl (hb hby d1_30) rfl (teq hc4).2 k
          refine Runs.via (T' := T0) (g' := (mkF m 35 #[.val (.int x0), .val (.int (x0 &&& (7 : Int32)))] [(.int (13 : Int32))])) (fun t k => ?_) ?_
          · show Steps p.tables e below (T0.setTop (mkF m 33 #[.val (.int x0), .val (.int (x0 &&& (7 : Int32)))] [])) t
            refine XS.bipush X0.here hx rfl (hb hby d1_33) ?_
            exact k
          refine QP.cast (congrArg (fun z => some (Value.int z)) (show (g1_0 x0) = ((13 : Int32).toInt8.toInt32) from ((if_neg hc1).trans ((if_neg hc2).trans ((if_neg hc3).trans (if_pos hc4)))))) ?_
          exact own_retN X0 hx hlk (t := .byte) hret (by simp) (hb hby d1_35) hk hn ⟨rfl, N0, e0⟩
        · refine Runs.via (T' := T0) (g' := (mkF m 36 #[.val (.int x0), .val (.int (x0 &&& (7 : Int32)))] [])) (fun t k => ?_) ?_
          · show Steps p.tables e below (T0.setTop (mkF m 30 #[.val (.int x0), .val (.int (x0 &&& (7 : Int32)))] [(.int (3 : Int32)), (.int (x0 &&& (7 : Int32)))])) t
            exact XS.icmpYes X0.here hx rfl (pc0 := 30) (pc' := 36) rfl (hb hby d1_30) rfl (feq hc4).2 (by decide) (by decide) k
          refine Runs.via (T' := T0) (g' := (mkF m 40 #[.val (.int x0), .val (.int (x0 &&& (7 : Int32)))] [(.int ((x0 >>> ((3 : Int32) &&& 31)).toInt8.toInt32))])) (fun t k => ?_) ?_
          · show Steps p.tables e below (T0.setTop (mkF m 36 #[.val (.int x0), .val (.int (x0 &&& (7 : Int32)))] [])) t
            refine XS.iloadN X0.here hx rfl (hb hby d1_36) rfl ?_
            show Steps p.tables e below (T0.setTop (mkF m 37 #[.val (.int x0), .val (.int (x0 &&& (7 : Int32)))] [(.int x0)])) t
            refine XS.iconst X0.here hx rfl (hb hby d1_37) ?_
            show Steps p.tables e below (T0.setTop (mkF m 38 #[.val (.int x0), .val (.int (x0 &&& (7 : Int32)))] [(.int (3 : Int32)), (.int x0)])) t
            refine XS.ishr X0.here hx rfl (hb hby d1_38) rfl ?_
            show Steps p.tables e below (T0.setTop (mkF m 39 #[.val (.int x0), .val (.int (x0 &&& (7 : Int32)))] [(.int (x0 >>> ((3 : Int32) &&& 31)))])) t
            refine XS.i2b X0.here hx rfl (hb hby d1_39) rfl ?_
            exact k
          refine QP.cast (congrArg (fun z => some (Value.int z)) (show (g1_0 x0) = (((x0 >>> ((3 : Int32) &&& 31)).toInt8.toInt32).toInt8.toInt32) from ((if_neg hc1).trans ((if_neg hc2).trans ((if_neg hc3).trans (if_neg hc4)))))) ?_
          exact own_retN X0 hx hlk (t := .byte) hret (by simp) (hb hby d1_40) hk hn ⟨rfl, N0, e0⟩
def f1 (x0 : Int32) : Int32 := g1_0 x0
theorem pn_1 : plainName "com/example/braid/braid/BodyLinesNextNotBlankPinLaw" = true := by first | (simp [plainName, overriddenIn]; done) | decide +kernel
theorem ef_1 (m : MethodId) (x0 : Int32) : entryFrame m #[(.int x0)] 2 = mkF m 0 #[.val (.int x0), .unset] [] := by first | (simp [entryFrame, mkF, argsToLocals, Value.category]; done) | rfl
set_option maxRecDepth 65536 in
set_option maxHeartbeats 4000000 in
theorem rm1 (l : Launch) (Z : State) (a0 : Array Value) (hw : ∀ d ∈ tables_1, d.before a0 Z = true) (ws : List Jvm.Cond) (x0 : Int32) (h0 : Heap) (n0 : Nat) :
    MetFree l (⟨"com/example/braid/braid/BodyLinesNextNotBlankPinLaw", "draw", "(I)B"⟩ : MethodName) (head1 (Jvm.Cond.code (⟨"com/example/braid/braid/BodyLinesNextNotBlankPinLaw", "draw", "(I)B"⟩ : MethodName) method_2_code 2 (some .byte) :: ws) ({ frames := 0, cells := 0, slots := 0, locals := 0 } : Room)) (fun a U => a = #[(.int x0)] ∧ Z.Warmed39 U.vm ∧ U.heap = h0) (fun _ _ _ _ _ => True) (fun _ U o U' => ∃ v L, o = .returned v ∧ QP (some (.int (f1 x0))) h0 n0 v U'.heap L ∧ FrameEnd U o U' L ({ frames := 0, cells := 0, slots := 0, locals := 0 } : Room).cells ({ frames := 0, cells := 0, slots := 0, locals := 0 } : Room).slots) := by
  refine MetFree.of_bodySF (plainFor_of_name pn_1) hisR ?_
  intro p e s m args below meth c s₁ Bd hml0 hP hK
  obtain ⟨rfl, hZ, hh⟩ := hP
  have X0 : Stand p l e ({ frames := 0, cells := 0, slots := 0, locals := 0 } : Room) s m #[(.int x0)] below meth c s₁ [] 0 0 := Stand.of_body Bd
  have e0 : s₁.heap = h0 := by rw [← hh, Bd.state]; rfl
  have C : Ctx p s m meth c Z a0 "com/example/braid/braid/BodyLinesNextNotBlankPinLaw" method_2_code 2 (some .byte) "draw" := ⟨Bd.exec, hZ, hw, Bd.bytes, hml0, findClass_of_methodNamed Bd.named, Bd.returns, BodyLoose.notSynchronized Bd, (name_of_methodNamed Bd.named Bd.method).1⟩
  refine Runs.via (fun t k => castTop (ef_1 m x0) k) (b1_0 C X0 e0 (Fr.nil n0) (Nat.le_refl 0) (Nat.le_refl 0) x0)
theorem pd_0 : parseMethodDescriptor "(I)B" = some ⟨[.int], some .byte⟩ := by decide +kernel
theorem d2_0 : decode prog_2_method_1_code 0 = .ok (.aload_n 0, 1) := by decide +kernel
theorem d2_1 : decode prog_2_method_1_code 1 = .ok (.invokespecial 1, 3) := by decide +kernel
theorem d2_4 : decode prog_2_method_1_code 4 = .ok (.aload_n 0, 1) := by decide +kernel
theorem d2_5 : decode prog_2_method_1_code 5 = .ok (.iconst (-1), 1) := by decide +kernel
theorem d2_6 : decode prog_2_method_1_code 6 = .ok (.putfield 7, 3) := by decide +kernel
theorem d2_9 : decode prog_2_method_1_code 9 = .ok (.aload_n 0, 1) := by decide +kernel
theorem d2_10 : decode prog_2_method_1_code 10 = .ok (.aload_n 1, 1) := by decide +kernel
theorem d2_11 : decode prog_2_method_1_code 11 = .ok (.putfield 13, 3) := by decide +kernel
theorem d2_14 : decode prog_2_method_1_code 14 = .ok (.return_, 1) := by decide +kernel
def P2 (Z : State) (hE : Heap) (a1 : Addr) (a2 : Addr) (q_a1 : List Int32) (q_a2_end : Int32) (q_a2_start : Int32) (q_a2_number : Int32) (n0 : Nat) (r : Int32) (v : Option Value) (h : Heap) (L : List Loc) : Prop := v = none ∧ Fr n0 L ∧ Keep hE h [a2] ∧ Exa Z h a2 "com/example/braid/braid/BodyLines" ∧ Fld Z h a2 "com/example/braid/braid/BodyLines" "end" "I" (.int r) ∧ Fld Z h a2 "com/example/braid/braid/BodyLines" "body" "[B" (.ref a1) ∧ Fld Z h a2 "com/example/braid/braid/BodyLines" "start" "I" (.int q_a2_start) ∧ Fld Z h a2 "com/example/braid/braid/BodyLines" "number" "I" (.int q_a2_number)
def g2_0 (q_a1 : List Int32) (q_a2_end : Int32) (q_a2_start : Int32) (q_a2_number : Int32) : Option (Int32) := some (-1 : Int32)
set_option maxRecDepth 65536 in
set_option maxHeartbeats 4000000 in
theorem b2_0 {hE : Heap} {a1 : Addr} {a2 : Addr} {q_a1 : List Int32} {q_a2_start : Int32} {q_a2_number : Int32} {q_a2_end₀ : Int32} {r : Int32} (C : Ctx p s m meth c Z a0 "com/example/braid/braid/BodyLines" prog_2_method_1_code 2 none "<init>") (X0 : Stand p l e ({ frames := 1, cells := 0, slots := 0, locals := 12 } : Room) s m args below meth c T0 locs cells slots) (e0 : T0.heap = h0) (N0 : Fr n0 locs) (hk : cells ≤ 0) (hn : slots ≤ 0) (Z1 : n0 ≤ h0.size) (KE : Keep hE h0 [a2]) (o0 : n0 ≤ a1) (o1 : @LT.lt Nat instLTNat a1 a2) (q_a2_end : Int32) (A_a1_0 : AI Z h0 a1 .byte q_a1) (E_a2_0 : Exa Z h0 a2 "com/example/braid/braid/BodyLines") (F_a2_end_0 : Fld Z h0 a2 "com/example/braid/braid/BodyLines" "end" "I" (.int q_a2_end)) (F_a2_body_0 : Fld Z h0 a2 "com/example/braid/braid/BodyLines" "body" "[B" .null) (F_a2_start_0 : Fld Z h0 a2 "com/example/braid/braid/BodyLines" "start" "I" (.int q_a2_start)) (F_a2_number_0 : Fld Z h0 a2 "com/example/braid/braid/BodyLines" "number" "I" (.int q_a2_number)) (hr : g2_0 q_a1 q_a2_end q_a2_start q_a2_number = some r) :
    Runs p e below s (P2 Z hE a1 a2 q_a1 q_a2_end₀ q_a2_start q_a2_number n0 r) 0 0 T0 (mkF m 0 #[.val (.ref a2), .val (.ref a1)] []) := by
  unfold g2_0 at hr
  have ⟨hx, hZ, hw, hby, hml, hown, hret, hlk, hnm⟩ := C
  refine Runs.via (T' := T0) (g' := (mkF m 1 #[.val (.ref a2), .val (.ref a1)] [(.ref a2)])) (fun t k => ?_) ?_
  · show Steps p.tables e below (T0.setTop (mkF m 0 #[.val (.ref a2), .val (.ref a1)] [])) t
    refine XS.aloadN X0.here hx rfl (hb hby d2_0) rfl rfl ?_
    exact k
  obtain ⟨T1, X1, e1, st1⟩ := initO X0 hx hZ hown (hw _ (List.mem_of_getElem? (i := 12) rfl)) (hw _ (List.mem_of_getElem? (i := 13) rfl)) (hw _ (List.mem_of_getElem? (i := 14) rfl)) e0 (g := (mkF m 1 #[.val (.ref a2), .val (.ref a1)] [(.ref a2)])) rfl (by rw [hml]; rfl) rfl (hb hby d2_1) (by decide) (W := 0) (by show 2 * 0 + _ ≤ _; exact Nat.le_of_eq rfl) (by decide)
  refine Runs.via (T' := T1) (g' := (mkF m 4 #[.val (.ref a2), .val (.ref a1)] [])) (fun t k => st1 _ k) ?_
  refine Runs.via (T' := T1) (g' := (mkF m 6 #[.val (.ref a2), .val (.ref a1)] [(.int (-1 : Int32)), (.ref a2)])) (fun t k => ?_) ?_
  · show Steps p.tables e below (T1.setTop (mkF m 4 #[.val (.ref a2), .val (.ref a1)] [])) t
    refine XS.aloadN X1.here hx rfl (hb hby d2_4) rfl rfl ?_
    show Steps p.tables e below (T1.setTop (mkF m 5 #[.val (.ref a2), .val (.ref a1)] [(.ref a2)])) t
    refine XS.iconst X1.here hx rfl (hb hby d2_5) ?_
    exact k
  obtain ⟨T2, h2, X2, e2, W2, st2⟩ := putF X1 hx hZ hown (host := "") (Or.inl (hw _ (List.mem_of_getElem? (i := 15) rfl))) Via.refl e1 F_a2_end_0 E_a2_0 (Or.inl (hw _ (List.mem_of_getElem? (i := 16) rfl))) (hw _ (List.mem_of_getElem? (i := 7) rfl)) (ty := .int) (by decide) rfl rfl (g := (mkF m 6 #[.val (.ref a2), .val (.ref a1)] [(.int (-1 : Int32)), (.ref a2)])) rfl rfl (hb hby d2_6)
  have A_a1_2 : AI Z h2 a1 .byte q_a1 := A_a1_0.other W2 (by omega : @Ne Nat a1 a2)
  have E_a2_2 : Exa Z h2 a2 "com/example/braid/braid/BodyLines" := E_a2_0.wr W2
  have F_a2_end_2 : Fld Z h2 a2 "com/example/braid/braid/BodyLines" "end" "I" (.int (-1 : Int32)) := F_a2_end_0.same W2
  have F_a2_body_2 : Fld Z h2 a2 "com/example/braid/braid/BodyLines" "body" "[B" .null := F_a2_body_0.other W2 (Or.inr (slot_ne (Or.inr (hw _ (List.mem_of_getElem? (i := 18) rfl))) (Or.inl (hw _ (List.mem_of_getElem? (i := 16) rfl))) (by decide) (t := (.array .byte)) (t' := .int) (by decide) (by decide)))
  have F_a2_start_2 : Fld Z h2 a2 "com/example/braid/braid/BodyLines" "start" "I" (.int q_a2_start) := F_a2_start_0.other W2 (Or.inr (slot_ne (Or.inl (hw _ (List.mem_of_getElem? (i := 30) rfl))) (Or.inl (hw _ (List.mem_of_getElem? (i := 16) rfl))) (by decide) (t := .int) (t' := .int) (by decide) (by decide)))
  have F_a2_number_2 : Fld Z h2 a2 "com/example/braid/braid/BodyLines" "number" "I" (.int q_a2_number) := F_a2_number_0.other W2 (Or.inr (slot_ne (Or.inl (hw _ (List.mem_of_getElem? (i := 32) rfl))) (Or.inl (hw _ (List.mem_of_getElem? (i := 16) rfl))) (by decide) (t := .int) (t' := .int) (by decide) (by decide)))
  have N2 := Fr.snoc X2 N0 (by omega : n0 ≤ a2)
  have zz2 : n0 ≤ h2.size := Nat.le_trans Z1 (Keep.of_wr W2).1
  have K2 := KE.wr W2 (Or.inl (List.mem_of_getElem? (i := 0) rfl))
  refine Runs.via (T' := T2) (g' := (mkF m 9 #[.val (.ref a2), .val (.ref a1)] [])) (fun t k => st2 _ k) ?_
  refine Runs.via (T' := T2) (g' := (mkF m 11 #[.val (.ref a2), .val (.ref a1)] [(.ref a1), (.ref a2)])) (fun t k => ?_) ?_
  · show Steps p.tables e below (T2.setTop (mkF m 9 #[.val (.ref a2), .val (.ref a1)] [])) t
    refine XS.aloadN X2.here hx rfl (hb hby d2_9) rfl rfl ?_
    show Steps p.tables e below (T2.setTop (mkF m 10 #[.val (.ref a2), .val (.ref a1)] [(.ref a2)])) t
    refine XS.aloadN X2.here hx rfl (hb hby d2_10) rfl rfl ?_
    exact k
  obtain ⟨T3, h3, X3, e3, W3, st3⟩ := putF X2 hx hZ hown (host := "") (Or.inl (hw _ (List.mem_of_getElem? (i := 17) rfl))) Via.refl e2 F_a2_body_2 E_a2_2 (Or.inr ⟨(hw _ (List.mem_of_getElem? (i := 18) rfl)), rfl, hnm⟩) (hw _ (List.mem_of_getElem? (i := 7) rfl)) (ty := (.array .byte)) (by decide) rfl rfl (g := (mkF m 11 #[.val (.ref a2), .val (.ref a1)] [(.ref a1), (.ref a2)])) rfl rfl (hb hby d2_11)
  have A_a1_3 : AI Z h3 a1 .byte q_a1 := A_a1_2.other W3 (by omega : @Ne Nat a1 a2)
  have E_a2_3 : Exa Z h3 a2 "com/example/braid/braid/BodyLines" := E_a2_2.wr W3
  have F_a2_end_3 : Fld Z h3 a2 "com/example/braid/braid/BodyLines" "end" "I" (.int (-1 : Int32)) := F_a2_end_2.other W3 (Or.inr (slot_ne (Or.inl (hw _ (List.mem_of_getElem? (i := 16) rfl))) (Or.inr (hw _ (List.mem_of_getElem? (i := 18) rfl))) (by decide) (t := .int) (t' := (.array .byte)) (by decide) (by decide)))
  have F_a2_body_3 : Fld Z h3 a2 "com/example/braid/braid/BodyLines" "body" "[B" (.ref a1) := F_a2_body_2.same W3
  have F_a2_start_3 : Fld Z h3 a2 "com/example/braid/braid/BodyLines" "start" "I" (.int q_a2_start) := F_a2_start_2.other W3 (Or.inr (slot_ne (Or.inl (hw _ (List.mem_of_getElem? (i := 30) rfl))) (Or.inr (hw _ (List.mem_of_getElem? (i := 18) rfl))) (by decide) (t := .int) (t' := (.array .byte)) (by decide) (by decide)))
  have F_a2_number_3 : Fld Z h3 a2 "com/example/braid/braid/BodyLines" "number" "I" (.int q_a2_number) := F_a2_number_2.other W3 (Or.inr (slot_ne (Or.inl (hw _ (List.mem_of_getElem? (i := 32) rfl))) (Or.inr (hw _ (List.mem_of_getElem? (i := 18) rfl))) (by decide) (t := .int) (t' := (.array .byte)) (by decide) (by decide)))
  have N3 := Fr.snoc X3 N2 (by omega : n0 ≤ a2)
  have zz3 : n0 ≤ h3.size := Nat.le_trans zz2 (Keep.of_wr W3).1
  have K3 := K2.wr W3 (Or.inl (List.mem_of_getElem? (i := 0) rfl))
  refine Runs.via (T' := T3) (g' := (mkF m 14 #[.val (.ref a2), .val (.ref a1)] [])) (fun t k => st3 _ k) ?_
  obtain rfl := Option.some.inj hr
  exact own_retV X3 hx hlk hret (hb hby d2_14) (by show cells ≤ 0; omega) (by show slots ≤ 0; omega) ⟨rfl, N3, (by rw [e3]; exact K3), (by rw [e3]; exact E_a2_3), (by rw [e3]; exact F_a2_end_3), (by rw [e3]; exact F_a2_body_3), (by rw [e3]; exact F_a2_start_3), (by rw [e3]; exact F_a2_number_3)⟩
def f2 (q_a1 : List Int32) (q_a2_end : Int32) (q_a2_start : Int32) (q_a2_number : Int32) : Option (Int32) := g2_0 q_a1 q_a2_end q_a2_start q_a2_number
theorem pn_2 : plainName "com/example/braid/braid/BodyLines" = true := by first | (simp [plainName, overriddenIn]; done) | decide +kernel
theorem ef_2 (m : MethodId) (a1 : Addr) (a2 : Addr) : entryFrame m #[(.ref a2), (.ref a1)] 2 = mkF m 0 #[.val (.ref a2), .val (.ref a1)] [] := by first | (simp [entryFrame, mkF, argsToLocals, Value.category]; done) | rfl
set_option maxRecDepth 65536 in
set_option maxHeartbeats 4000000 in
theorem rm2 (l : Launch) (Z : State) (a0 : Array Value) (hw : ∀ d ∈ tables_1, d.before a0 Z = true) (ws : List Jvm.Cond) (a1 : Addr) (a2 : Addr) (q_a1 : List Int32) (q_a2_end : Int32) (q_a2_start : Int32) (q_a2_number : Int32) (hE : Heap) (n0 : Nat) (Z0 : n0 ≤ hE.size) (o0 : n0 ≤ a1) (o1 : @LT.lt Nat instLTNat a1 a2) (A_a1_0 : AI Z hE a1 .byte q_a1) (E_a2_0 : Exa Z hE a2 "com/example/braid/braid/BodyLines") (F_a2_end_0 : Fld Z hE a2 "com/example/braid/braid/BodyLines" "end" "I" (.int q_a2_end)) (F_a2_body_0 : Fld Z hE a2 "com/example/braid/braid/BodyLines" "body" "[B" .null) (F_a2_start_0 : Fld Z hE a2 "com/example/braid/braid/BodyLines" "start" "I" (.int q_a2_start)) (F_a2_number_0 : Fld Z hE a2 "com/example/braid/braid/BodyLines" "number" "I" (.int q_a2_number)) (r : Int32) (hr : f2 q_a1 q_a2_end q_a2_start q_a2_number = some r) :
    MetFree l (⟨"com/example/braid/braid/BodyLines", "<init>", "([B)V"⟩ : MethodName) (head1 (Jvm.Cond.code (⟨"com/example/braid/braid/BodyLines", "<init>", "([B)V"⟩ : MethodName) prog_2_method_1_code 2 none :: ws) ({ frames := 1, cells := 0, slots := 0, locals := 12 } : Room)) (fun a U => a = #[(.ref a2), (.ref a1)] ∧ Z.Warmed39 U.vm ∧ U.heap = hE) (fun _ _ _ _ _ => True) (fun _ U o U' => ∃ v L, o = .returned v ∧ (P2 Z hE a1 a2 q_a1 q_a2_end q_a2_start q_a2_number n0 r v U'.heap L) ∧ FrameEnd U o U' L ({ frames := 1, cells := 0, slots := 0, locals := 12 } : Room).cells ({ frames := 1, cells := 0, slots := 0, locals := 12 } : Room).slots) := by
  refine MetFree.of_bodySF (plainFor_of_name pn_2) hisR ?_
  intro p e s m args below meth c s₁ Bd hml0 hP hK
  obtain ⟨rfl, hZ, hh⟩ := hP
  have X0 : Stand p l e ({ frames := 1, cells := 0, slots := 0, locals := 12 } : Room) s m #[(.ref a2), (.ref a1)] below meth c s₁ [] 0 0 := Stand.of_body Bd
  have e0 : s₁.heap = hE := by rw [← hh, Bd.state]; rfl
  have C : Ctx p s m meth c Z a0 "com/example/braid/braid/BodyLines" prog_2_method_1_code 2 none "<init>" := ⟨Bd.exec, hZ, hw, Bd.bytes, hml0, findClass_of_methodNamed Bd.named, Bd.returns, BodyLoose.notSynchronized Bd, (name_of_methodNamed Bd.named Bd.method).1⟩
  refine Runs.via (fun t k => castTop (ef_2 m a1 a2) k) (b2_0 C X0 e0 (Fr.nil n0) (by show 0 ≤ 0; omega) (by show 0 ≤ 0; omega) Z0 (Keep.refl hE [a2]) (by omega) (by omega) q_a2_end A_a1_0 E_a2_0 F_a2_end_0 F_a2_body_0 F_a2_start_0 F_a2_number_0 hr)
theorem pd_1 : parseMethodDescriptor "([B)V" = some ⟨[(.array .byte)], none⟩ := by decide +kernel
theorem d5_0 : decode prog_2_method_2_code 0 = .ok (.aload_n 0, 1) := by decide +kernel
theorem d5_1 : decode prog_2_method_2_code 1 = .ok (.aload_n 0, 1) := by decide +kernel
theorem d5_2 : decode prog_2_method_2_code 2 = .ok (.getfield 7, 3) := by decide +kernel
theorem d5_5 : decode prog_2_method_2_code 5 = .ok (.iconst 1, 1) := by decide +kernel
theorem d5_6 : decode prog_2_method_2_code 6 = .ok (.iadd, 1) := by decide +kernel
theorem d5_7 : decode prog_2_method_2_code 7 = .ok (.putfield 17, 3) := by decide +kernel
theorem d5_10 : decode prog_2_method_2_code 10 = .ok (.aload_n 0, 1) := by decide +kernel
theorem d5_11 : decode prog_2_method_2_code 11 = .ok (.getfield 17, 3) := by decide +kernel
theorem d5_14 : decode prog_2_method_2_code 14 = .ok (.aload_n 0, 1) := by decide +kernel
theorem d5_15 : decode prog_2_method_2_code 15 = .ok (.getfield 13, 3) := by decide +kernel
theorem d5_18 : decode prog_2_method_2_code 18 = .ok (.arraylength, 1) := by decide +kernel
theorem d5_19 : decode prog_2_method_2_code 19 = .ok (.if_icmp .lt 5, 3) := by decide +kernel
theorem d5_22 : decode prog_2_method_2_code 22 = .ok (.iconst 0, 1) := by decide +kernel
theorem d5_23 : decode prog_2_method_2_code 23 = .ok (.ireturn, 1) := by decide +kernel
theorem d5_24 : decode prog_2_method_2_code 24 = .ok (.aload_n 0, 1) := by decide +kernel
theorem d5_25 : decode prog_2_method_2_code 25 = .ok (.aload_n 0, 1) := by decide +kernel
theorem d5_26 : decode prog_2_method_2_code 26 = .ok (.getfield 17, 3) := by decide +kernel
theorem d5_29 : decode prog_2_method_2_code 29 = .ok (.putfield 7, 3) := by decide +kernel
theorem d5_32 : decode prog_2_method_2_code 32 = .ok (.aload_n 0, 1) := by decide +kernel
theorem d5_33 : decode prog_2_method_2_code 33 = .ok (.getfield 7, 3) := by decide +kernel
theorem d5_36 : decode prog_2_method_2_code 36 = .ok (.aload_n 0, 1) := by decide +kernel
theorem d5_37 : decode prog_2_method_2_code 37 = .ok (.getfield 13, 3) := by decide +kernel
theorem d5_40 : decode prog_2_method_2_code 40 = .ok (.arraylength, 1) := by decide +kernel
theorem d5_41 : decode prog_2_method_2_code 41 = .ok (.if_icmp .ge 30, 3) := by decide +kernel
theorem d5_44 : decode prog_2_method_2_code 44 = .ok (.aload_n 0, 1) := by decide +kernel
theorem d5_45 : decode prog_2_method_2_code 45 = .ok (.getfield 13, 3) := by decide +kernel
theorem d5_48 : decode prog_2_method_2_code 48 = .ok (.aload_n 0, 1) := by decide +kernel
theorem d5_49 : decode prog_2_method_2_code 49 = .ok (.getfield 7, 3) := by decide +kernel
theorem d5_52 : decode prog_2_method_2_code 52 = .ok (.baload, 1) := by decide +kernel
theorem d5_53 : decode prog_2_method_2_code 53 = .ok (.bipush 10, 2) := by decide +kernel
theorem d5_55 : decode prog_2_method_2_code 55 = .ok (.if_icmp .eq 16, 3) := by decide +kernel
theorem d5_58 : decode prog_2_method_2_code 58 = .ok (.aload_n 0, 1) := by decide +kernel
theorem d5_59 : decode prog_2_method_2_code 59 = .ok (.dup, 1) := by decide +kernel
theorem d5_60 : decode prog_2_method_2_code 60 = .ok (.getfield 7, 3) := by decide +kernel
theorem d5_63 : decode prog_2_method_2_code 63 = .ok (.iconst 1, 1) := by decide +kernel
theorem d5_64 : decode prog_2_method_2_code 64 = .ok (.iadd, 1) := by decide +kernel
theorem d5_65 : decode prog_2_method_2_code 65 = .ok (.putfield 7, 3) := by decide +kernel
theorem d5_68 : decode prog_2_method_2_code 68 = .ok (.goto (-36), 3) := by decide +kernel
theorem d5_71 : decode prog_2_method_2_code 71 = .ok (.aload_n 0, 1) := by decide +kernel
theorem d5_72 : decode prog_2_method_2_code 72 = .ok (.dup, 1) := by decide +kernel
theorem d5_73 : decode prog_2_method_2_code 73 = .ok (.getfield 20, 3) := by decide +kernel
theorem d5_76 : decode prog_2_method_2_code 76 = .ok (.iconst 1, 1) := by decide +kernel
theorem d5_77 : decode prog_2_method_2_code 77 = .ok (.iadd, 1) := by decide +kernel
theorem d5_78 : decode prog_2_method_2_code 78 = .ok (.putfield 20, 3) := by decide +kernel
theorem d5_81 : decode prog_2_method_2_code 81 = .ok (.iconst 1, 1) := by decide +kernel
theorem d5_82 : decode prog_2_method_2_code 82 = .ok (.ireturn, 1) := by decide +kernel
def P5 (Z : State) (hE : Heap) (a1 : Addr) (a2 : Addr) (q_a1 : List Int32) (q_a2_end : Int32) (q_a2_start : Int32) (q_a2_number : Int32) (n0 : Nat) (r : Int32 × Int32 × Int32 × Int32) (v : Option Value) (h : Heap) (L : List Loc) : Prop := v = some (.int r.1) ∧ Fr n0 L ∧ Keep hE h [a2] ∧ Exa Z h a2 "com/example/braid/braid/BodyLines" ∧ Fld Z h a2 "com/example/braid/braid/BodyLines" "end" "I" (.int r.2.1) ∧ Fld Z h a2 "com/example/braid/braid/BodyLines" "body" "[B" (.ref a1) ∧ Fld Z h a2 "com/example/braid/braid/BodyLines" "start" "I" (.int r.2.2.1) ∧ Fld Z h a2 "com/example/braid/braid/BodyLines" "number" "I" (.int r.2.2.2)
def g5_71 (fuel : Nat) (q_a1 : List Int32) (q_a2_end : Int32) (q_a2_start : Int32) (q_a2_number : Int32) : Option (Int32 × Int32 × Int32 × Int32) := (letO (q_a2_number + (1 : Int32)) fun v2 => some ((1 : Int32), q_a2_end, q_a2_start, v2))
set_option maxRecDepth 65536 in
set_option maxHeartbeats 4000000 in
theorem b5_71 {hE : Heap} {a1 : Addr} {a2 : Addr} {q_a1 : List Int32} {q_a2_end₀ : Int32} {q_a2_start₀ : Int32} {q_a2_number₀ : Int32} {r : Int32 × Int32 × Int32 × Int32} (C : Ctx p s m meth c Z a0 "com/example/braid/braid/BodyLines" prog_2_method_2_code 1 (some .boolean) "next") (fuel : Nat) (X0 : Stand p l e ({ frames := 0, cells := 0, slots := 0, locals := 0 } : Room) s m args below meth c T0 locs cells slots) (e0 : T0.heap = h0) (N0 : Fr n0 locs) (hk : cells ≤ 0) (hn : slots ≤ 0) (Z1 : n0 ≤ h0.size) (KE : Keep hE h0 [a2]) (o0 : n0 ≤ a1) (o1 : @LT.lt Nat instLTNat a1 a2) (q_a2_end : Int32) (q_a2_start : Int32) (q_a2_number : Int32) (A_a1_0 : AI Z h0 a1 .byte q_a1) (E_a2_0 : Exa Z h0 a2 "com/example/braid/braid/BodyLines") (F_a2_end_0 : Fld Z h0 a2 "com/example/braid/braid/BodyLines" "end" "I" (.int q_a2_end)) (F_a2_body_0 : Fld Z h0 a2 "com/example/braid/braid/BodyLines" "body" "[B" (.ref a1)) (F_a2_start_0 : Fld Z h0 a2 "com/example/braid/braid/BodyLines" "start" "I" (.int q_a2_start)) (F_a2_number_0 : Fld Z h0 a2 "com/example/braid/braid/BodyLines" "number" "I" (.int q_a2_number)) (hr : g5_71 fuel q_a1 q_a2_end q_a2_start q_a2_number = some r) :
    Runs p e below s (P5 Z hE a1 a2 q_a1 q_a2_end₀ q_a2_start₀ q_a2_number₀ n0 r) 0 0 T0 (mkF m 71 #[.val (.ref a2)] []) := by
  unfold g5_71 at hr
  have ⟨hx, hZ, hw, hby, hml, hown, hret, hlk, hnm⟩ := C
  refine Runs.via (T' := T0) (g' := (mkF m 73 #[.val (.ref a2)] [(.ref a2), (.ref a2)])) (fun t k => ?_) ?_
  · show Steps p.tables e below (T0.setTop (mkF m 71 #[.val (.ref a2)] [])) t
    refine XS.aloadN X0.here hx rfl (hb hby d5_71) rfl rfl ?_
    show Steps p.tables e below (T0.setTop (mkF m 72 #[.val (.ref a2)] [(.ref a2)])) t
    refine XS.dup X0.here hx rfl (hb hby d5_72) rfl rfl ?_
    exact k
  obtain ⟨T1, X1, e1, st1⟩ := getF X0 hx hZ hown (host := "") (Or.inl (hw _ (List.mem_of_getElem? (i := 31) rfl))) Via.refl e0 F_a2_number_0 (g := (mkF m 73 #[.val (.ref a2)] [(.ref a2), (.ref a2)])) rfl rfl (hb hby d5_73)
  refine Runs.via (T' := T1) (g' := (mkF m 76 #[.val (.ref a2)] [(.int q_a2_number), (.ref a2)])) (fun t k => st1 _ k) ?_
  refine Runs.via (T' := T1) (g' := (mkF m 78 #[.val (.ref a2)] [(.int (q_a2_number + (1 : Int32))), (.ref a2)])) (fun t k => ?_) ?_
  · show Steps p.tables e below (T1.setTop (mkF m 76 #[.val (.ref a2)] [(.int q_a2_number), (.ref a2)])) t
    refine XS.iconst X1.here hx rfl (hb hby d5_76) ?_
    show Steps p.tables e below (T1.setTop (mkF m 77 #[.val (.ref a2)] [(.int (1 : Int32)), (.int q_a2_number), (.ref a2)])) t
    refine XS.iadd X1.here hx rfl (hb hby d5_77) rfl ?_
    exact k
  refine letE hr ?_; intro v2 hv2 hr
  rw [← hv2]
  obtain ⟨T3, h3, X3, e3, W3, st3⟩ := putF X1 hx hZ hown (host := "") (Or.inl (hw _ (List.mem_of_getElem? (i := 31) rfl))) Via.refl e1 F_a2_number_0 E_a2_0 (Or.inl (hw _ (List.mem_of_getElem? (i := 32) rfl))) (hw _ (List.mem_of_getElem? (i := 7) rfl)) (ty := .int) (by decide) rfl rfl (g := (mkF m 78 #[.val (.ref a2)] [(.int v2), (.ref a2)])) rfl rfl (hb hby d5_78)
  have A_a1_3 : AI Z h3 a1 .byte q_a1 := A_a1_0.other W3 (by omega : @Ne Nat a1 a2)
  have E_a2_3 : Exa Z h3 a2 "com/example/braid/braid/BodyLines" := E_a2_0.wr W3
  have F_a2_end_3 : Fld Z h3 a2 "com/example/braid/braid/BodyLines" "end" "I" (.int q_a2_end) := F_a2_end_0.other W3 (Or.inr (slot_ne (Or.inl (hw _ (List.mem_of_getElem? (i := 16) rfl))) (Or.inl (hw _ (List.mem_of_getElem? (i := 32) rfl))) (by decide) (t := .int) (t' := .int) (by decide) (by decide)))
  have F_a2_body_3 : Fld Z h3 a2 "com/example/braid/braid/BodyLines" "body" "[B" (.ref a1) := F_a2_body_0.other W3 (Or.inr (slot_ne (Or.inr (hw _ (List.mem_of_getElem? (i := 18) rfl))) (Or.inl (hw _ (List.mem_of_getElem? (i := 32) rfl))) (by decide) (t := (.array .byte)) (t' := .int) (by decide) (by decide)))
  have F_a2_start_3 : Fld Z h3 a2 "com/example/braid/braid/BodyLines" "start" "I" (.int q_a2_start) := F_a2_start_0.other W3 (Or.inr (slot_ne (Or.inl (hw _ (List.mem_of_getElem? (i := 30) rfl))) (Or.inl (hw _ (List.mem_of_getElem? (i := 32) rfl))) (by decide) (t := .int) (t' := .int) (by decide) (by decide)))
  have F_a2_number_3 : Fld Z h3 a2 "com/example/braid/braid/BodyLines" "number" "I" (.int v2) := F_a2_number_0.same W3
  have N3 := Fr.snoc X3 N0 (by omega : n0 ≤ a2)
  have zz3 : n0 ≤ h3.size := Nat.le_trans Z1 (Keep.of_wr W3).1
  have K3 := KE.wr W3 (Or.inl (List.mem_of_getElem? (i := 0) rfl))
  refine Runs.via (T' := T3) (g' := (mkF m 81 #[.val (.ref a2)] [])) (fun t k => st3 _ k) ?_
  refine Runs.via (T' := T3) (g' := (mkF m 82 #[.val (.ref a2)] [(.int (1 : Int32))])) (fun t k => ?_) ?_
  · show Steps p.tables e below (T3.setTop (mkF m 81 #[.val (.ref a2)] [])) t
    refine XS.iconst X3.here hx rfl (hb hby d5_81) ?_
    exact k
  obtain rfl := Option.some.inj hr
  exact own_retN X3 hx hlk (t := .boolean) hret (by simp) (hb hby d5_82) (by show cells ≤ 0; omega) (by show slots ≤ 0; omega) ⟨rfl, N3, (by rw [e3]; exact K3), (by rw [e3]; exact E_a2_3), (by rw [e3]; exact F_a2_end_3), (by rw [e3]; exact F_a2_body_3), (by rw [e3]; exact F_a2_start_3), (by rw [e3]; exact F_a2_number_3)⟩
def s5_32 (K32 : List Int32 → Int32 → Int32 → Int32 → Option (Int32 × Int32 × Int32 × Int32)) (fuel : Nat) (q_a1 : List Int32) (q_a2_end : Int32) (q_a2_start : Int32) (q_a2_number : Int32) : Option (Int32 × Int32 × Int32 × Int32) := (if q_a2_end < (lenO q_a1) then ((rdO q_a1 q_a2_end).bind fun v6 => (if v6 = (10 : Int32) then (g5_71 fuel q_a1 q_a2_end q_a2_start q_a2_number) else (letO (q_a2_end + (1 : Int32)) fun v9 => (K32 q_a1 v9 q_a2_start q_a2_number)))) else (g5_71 fuel q_a1 q_a2_end q_a2_start q_a2_number))
def h5_32 (fuel : Nat) : Nat → List Int32 → Int32 → Int32 → Int32 → Option (Int32 × Int32 × Int32 × Int32)
  | 0 => fun _ _ _ _ => none
  | n + 1 => fun q_a1 q_a2_end q_a2_start q_a2_number => s5_32 (h5_32 fuel n) fuel q_a1 q_a2_end q_a2_start q_a2_number
def g5_32 (fuel : Nat) (q_a1 : List Int32) (q_a2_end : Int32) (q_a2_start : Int32) (q_a2_number : Int32) : Option (Int32 × Int32 × Int32 × Int32) := h5_32 fuel fuel q_a1 q_a2_end q_a2_start q_a2_number
set_option maxRecDepth 65536 in
set_option maxHeartbeats 4000000 in
theorem t5_32 {hE : Heap} {a1 : Addr} {a2 : Addr} {q_a1 : List Int32} {q_a2_end₀ : Int32} {q_a2_start₀ : Int32} {q_a2_number₀ : Int32} (fuel : Nat) {r : Int32 × Int32 × Int32 × Int32} (C : Ctx p s m meth c Z a0 "com/example/braid/braid/BodyLines" prog_2_method_2_code 1 (some .boolean) "next") (K32 : List Int32 → Int32 → Int32 → Int32 → Option (Int32 × Int32 × Int32 × Int32)) (hK32 : ∀ {T0 : State} {locs : List Loc} {cells slots : Nat} {h0 : Heap} (X0 : Stand p l e ({ frames := 0, cells := 0, slots := 0, locals := 0 } : Room) s m args below meth c T0 locs cells slots) (e0 : T0.heap = h0) (N0 : Fr n0 locs) (hk : cells ≤ 0) (hn : slots ≤ 0) (Z1 : n0 ≤ h0.size) (KE : Keep hE h0 [a2]) (o0 : n0 ≤ a1) (o1 : @LT.lt Nat instLTNat a1 a2) (q_a2_end : Int32) (q_a2_start : Int32) (q_a2_number : Int32) (A_a1_0 : AI Z h0 a1 .byte q_a1) (E_a2_0 : Exa Z h0 a2 "com/example/braid/braid/BodyLines") (F_a2_end_0 : Fld Z h0 a2 "com/example/braid/braid/BodyLines" "end" "I" (.int q_a2_end)) (F_a2_body_0 : Fld Z h0 a2 "com/example/braid/braid/BodyLines" "body" "[B" (.ref a1)) (F_a2_start_0 : Fld Z h0 a2 "com/example/braid/braid/BodyLines" "start" "I" (.int q_a2_start)) (F_a2_number_0 : Fld Z h0 a2 "com/example/braid/braid/BodyLines" "number" "I" (.int q_a2_number)), K32 q_a1 q_a2_end q_a2_start q_a2_number = some r → Runs p e below s (P5 Z hE a1 a2 q_a1 q_a2_end₀ q_a2_start₀ q_a2_number₀ n0 r) 0 0 T0 (mkF m 32 #[.val (.ref a2)] [])) (X0 : Stand p l e ({ frames := 0, cells := 0, slots := 0, locals := 0 } : Room) s m args below meth c T0 locs cells slots) (e0 : T0.heap = h0) (N0 : Fr n0 locs) (hk : cells ≤ 0) (hn : slots ≤ 0) (Z1 : n0 ≤ h0.size) (KE : Keep hE h0 [a2]) (o0 : n0 ≤ a1) (o1 : @LT.lt Nat instLTNat a1 a2) (q_a2_end : Int32) (q_a2_start : Int32) (q_a2_number : Int32) (A_a1_0 : AI Z h0 a1 .byte q_a1) (E_a2_0 : Exa Z h0 a2 "com/example/braid/braid/BodyLines") (F_a2_end_0 : Fld Z h0 a2 "com/example/braid/braid/BodyLines" "end" "I" (.int q_a2_end)) (F_a2_body_0 : Fld Z h0 a2 "com/example/braid/braid/BodyLines" "body" "[B" (.ref a1)) (F_a2_start_0 : Fld Z h0 a2 "com/example/braid/braid/BodyLines" "start" "I" (.int q_a2_start)) (F_a2_number_0 : Fld Z h0 a2 "com/example/braid/braid/BodyLines" "number" "I" (.int q_a2_number)) (hr : s5_32 K32 fuel q_a1 q_a2_end q_a2_start q_a2_number = some r) :
    Runs p e below s (P5 Z hE a1 a2 q_a1 q_a2_end₀ q_a2_start₀ q_a2_number₀ n0 r) 0 0 T0 (mkF m 32 #[.val (.ref a2)] []) := by
  unfold s5_32 at hr
  have ⟨hx, hZ, hw, hby, hml, hown, hret, hlk, hnm⟩ := C
  refine Runs.via (T' := T0) (g' := (mkF m 33 #[.val (.ref a2)] [(.ref a2)])) (fun t k => ?_) ?_
  · show Steps p.tables e below (T0.setTop (mkF m 32 #[.val (.ref a2)] [])) t
    refine XS.aloadN X0.here hx rfl (hb hby d5_32) rfl rfl ?_
    exact k
  obtain ⟨T1, X1, e1, st1⟩ := getF X0 hx hZ hown (host := "") (Or.inl (hw _ (List.mem_of_getElem? (i := 15) rfl))) Via.refl e0 F_a2_end_0 (g := (mkF m 33 #[.val (.ref a2)] [(.ref a2)])) rfl rfl (hb hby d5_33)
  refine Runs.via (T' := T1) (g' := (mkF m 36 #[.val (.ref a2)] [(.int q_a2_end)])) (fun t k => st1 _ k) ?_
  refine Runs.via (T' := T1) (g' := (mkF m 37 #[.val (.ref a2)] [(.ref a2), (.int q_a2_end)])) (fun t k => ?_) ?_
  · show Steps p.tables e below (T1.setTop (mkF m 36 #[.val (.ref a2)] [(.int q_a2_end)])) t
    refine XS.aloadN X1.here hx rfl (hb hby d5_36) rfl rfl ?_
    exact k
  obtain ⟨T2, X2, e2, st2⟩ := getF X1 hx hZ hown (host := "") (Or.inl (hw _ (List.mem_of_getElem? (i := 17) rfl))) Via.refl e1 F_a2_body_0 (g := (mkF m 37 #[.val (.ref a2)] [(.ref a2), (.int q_a2_end)])) rfl rfl (hb hby d5_37)
  refine Runs.via (T' := T2) (g' := (mkF m 40 #[.val (.ref a2)] [(.ref a1), (.int q_a2_end)])) (fun t k => st2 _ k) ?_
  refine Runs.via (T' := T2) (g' := (mkF m 41 #[.val (.ref a2)] [(.int (lenO q_a1)), (.int q_a2_end)])) (fun t k => ?_) ?_
  · show Steps p.tables e below (T2.setTop (mkF m 40 #[.val (.ref a2)] [(.ref a1), (.int q_a2_end)])) t
    refine lenAI X2 hx hZ e2 A_a1_0 rfl (g := (mkF m 40 #[.val (.ref a2)] [(.ref a1), (.int q_a2_end)])) rfl (hb hby d5_40) _ ?_
    exact k
  refine iteE hr (fun hc3 hr => ?_) (fun hc3 hr => ?_)
  · refine Runs.via (T' := T2) (g' := (mkF m 44 #[.val (.ref a2)] [])) (fun t k => ?_) ?_
    · show Steps p.tables e below (T2.setTop (mkF m 41 #[.val (.ref a2)] [(.int (lenO q_a1)), (.int q_a2_end)])) t
      exact XS.icmpNo X2.here hx rfl (hb hby d5_41) rfl (tlt hc3).2.1 k
    refine Runs.via (T' := T2) (g' := (mkF m 45 #[.val (.ref a2)] [(.ref a2)])) (fun t k => ?_) ?_
    · show Steps p.tables e below (T2.setTop (mkF m 44 #[.val (.ref a2)] [])) t
      refine XS.aloadN X2.here hx rfl (hb hby d5_44) rfl rfl ?_
      exact k
    obtain ⟨T4, X4, e4, st4⟩ := getF X2 hx hZ hown (host := "") (Or.inl (hw _ (List.mem_of_getElem? (i := 17) rfl))) Via.refl e2 F_a2_body_0 (g := (mkF m 45 #[.val (.ref a2)] [(.ref a2)])) rfl rfl (hb hby d5_45)
    refine Runs.via (T' := T4) (g' := (mkF m 48 #[.val (.ref a2)] [(.ref a1)])) (fun t k => st4 _ k) ?_
    refine Runs.via (T' := T4) (g' := (mkF m 49 #[.val (.ref a2)] [(.ref a2), (.ref a1)])) (fun t k => ?_) ?_
    · show Steps p.tables e below (T4.setTop (mkF m 48 #[.val (.ref a2)] [(.ref a1)])) t
      refine XS.aloadN X4.here hx rfl (hb hby d5_48) rfl rfl ?_
      exact k
    obtain ⟨T5, X5, e5, st5⟩ := getF X4 hx hZ hown (host := "") (Or.inl (hw _ (List.mem_of_getElem? (i := 15) rfl))) Via.refl e4 F_a2_end_0 (g := (mkF m 49 #[.val (.ref a2)] [(.ref a2), (.ref a1)])) rfl rfl (hb hby d5_49)
    refine Runs.via (T' := T5) (g' := (mkF m 52 #[.val (.ref a2)] [(.int q_a2_end), (.ref a1)])) (fun t k => st5 _ k) ?_
    refine bindE hr ?_; intro v6 hv6 hr
    refine Runs.via (T' := T5) (g' := (mkF m 53 #[.val (.ref a2)] [(.int v6)])) (fun t k => ldB X5 hx hZ e5 A_a1_0 hv6 (g := (mkF m 52 #[.val (.ref a2)] [(.int q_a2_end), (.ref a1)])) rfl rfl (hb hby d5_52) _ k) ?_
    refine Runs.via (T' := T5) (g' := (mkF m 55 #[.val (.ref a2)] [(.int (10 : Int32)), (.int v6)])) (fun t k => ?_) ?_
    · show Steps p.tables e below (T5.setTop (mkF m 53 #[.val (.ref a2)] [(.int v6)])) t
      refine XS.bipush X5.here hx rfl (hb hby d5_53) ?_
      exact k
    refine iteE hr (fun hc7 hr => ?_) (fun hc7 hr => ?_)
    · refine Runs.via (T' := T5) (g' := (mkF m 71 #[.val (.ref a2)] [])) (fun t k => ?_) ?_
      · show Steps p.tables e below (T5.setTop (mkF m 55 #[.val (.ref a2)] [(.int (10 : Int32)), (.int v6)])) t
        exact XS.icmpYes X5.here hx rfl (pc0 := 55) (pc' := 71) rfl (hb hby d5_55) rfl (teq hc7).1 (by decide) (by decide) k
      exact b5_71 C fuel X5 e5 N0 (by show cells ≤ 0; omega) (by show slots ≤ 0; omega) Z1 KE (by omega) (by omega) q_a2_end q_a2_start q_a2_number A_a1_0 E_a2_0 F_a2_end_0 F_a2_body_0 F_a2_start_0 F_a2_number_0 hr
    · refine Runs.via (T' := T5) (g' := (mkF m 58 #[.val (.ref a2)] [])) (fun t k => ?_) ?_
      · show Steps p.tables e below (T5.setTop (mkF m 55 #[.val (.ref a2)] [(.int (10 : Int32)), (.int v6)])) t
        exact XS.icmpNo X5.here hx rfl (hb hby d5_55) rfl (feq hc7).1 k
      refine Runs.via (T' := T5) (g' := (mkF m 60 #[.val (.ref a2)] [(.ref a2), (.ref a2)])) (fun t k => ?_) ?_
      · show Steps p.tables e below (T5.setTop (mkF m 58 #[.val (.ref a2)] [])) t
        refine XS.aloadN X5.here hx rfl (hb hby d5_58) rfl rfl ?_
        show Steps p.tables e below (T5.setTop (mkF m 59 #[.val (.ref a2)] [(.ref a2)])) t
        refine XS.dup X5.here hx rfl (hb hby d5_59) rfl rfl ?_
        exact k
      obtain ⟨T8, X8, e8, st8⟩ := getF X5 hx hZ hown (host := "") (Or.inl (hw _ (List.mem_of_getElem? (i := 15) rfl))) Via.refl e5 F_a2_end_0 (g := (mkF m 60 #[.val (.ref a2)] [(.ref a2), (.ref a2)])) rfl rfl (hb hby d5_60)
      refine Runs.via (T' := T8) (g' := (mkF m 63 #[.val (.ref a2)] [(.int q_a2_end), (.ref a2)])) (fun t k => st8 _ k) ?_
      refine Runs.via (T' := T8) (g' := (mkF m 65 #[.val (.ref a2)] [(.int (q_a2_end + (1 : Int32))), (.ref a2)])) (fun t k => ?_) ?_
      · show Steps p.tables e below (T8.setTop (mkF m 63 #[.val (.ref a2)] [(.int q_a2_end), (.ref a2)])) t
        refine XS.iconst X8.here hx rfl (hb hby d5_63) ?_
        show Steps p.tables e below (T8.setTop (mkF m 64 #[.val (.ref a2)] [(.int (1 : Int32)), (.int q_a2_end), (.ref a2)])) t
        refine XS.iadd X8.here hx rfl (hb hby d5_64) rfl ?_
        exact k
      refine letE hr ?_; intro v9 hv9 hr
      rw [← hv9]
      obtain ⟨T10, h10, X10, e10, W10, st10⟩ := putF X8 hx hZ hown (host := "") (Or.inl (hw _ (List.mem_of_getElem? (i := 15) rfl))) Via.refl e8 F_a2_end_0 E_a2_0 (Or.inl (hw _ (List.mem_of_getElem? (i := 16) rfl))) (hw _ (List.mem_of_getElem? (i := 7) rfl)) (ty := .int) (by decide) rfl rfl (g := (mkF m 65 #[.val (.ref a2)] [(.int v9), (.ref a2)])) rfl rfl (hb hby d5_65)
      have A_a1_10 : AI Z h10 a1 .byte q_a1 := A_a1_0.other W10 (by omega : @Ne Nat a1 a2)
      have E_a2_10 : Exa Z h10 a2 "com/example/braid/braid/BodyLines" := E_a2_0.wr W10
      have F_a2_end_10 : Fld Z h10 a2 "com/example/braid/braid/BodyLines" "end" "I" (.int v9) := F_a2_end_0.same W10
      have F_a2_body_10 : Fld Z h10 a2 "com/example/braid/braid/BodyLines" "body" "[B" (.ref a1) := F_a2_body_0.other W10 (Or.inr (slot_ne (Or.inr (hw _ (List.mem_of_getElem? (i := 18) rfl))) (Or.inl (hw _ (List.mem_of_getElem? (i := 16) rfl))) (by decide) (t := (.array .byte)) (t' := .int) (by decide) (by decide)))
      have F_a2_start_10 : Fld Z h10 a2 "com/example/braid/braid/BodyLines" "start" "I" (.int q_a2_start) := F_a2_start_0.other W10 (Or.inr (slot_ne (Or.inl (hw _ (List.mem_of_getElem? (i := 30) rfl))) (Or.inl (hw _ (List.mem_of_getElem? (i := 16) rfl))) (by decide) (t := .int) (t' := .int) (by decide) (by decide)))
      have F_a2_number_10 : Fld Z h10 a2 "com/example/braid/braid/BodyLines" "number" "I" (.int q_a2_number) := F_a2_number_0.other W10 (Or.inr (slot_ne (Or.inl (hw _ (List.mem_of_getElem? (i := 32) rfl))) (Or.inl (hw _ (List.mem_of_getElem? (i := 16) rfl))) (by decide) (t := .int) (t' := .int) (by decide) (by decide)))
      have N10 := Fr.snoc X10 N0 (by omega : n0 ≤ a2)
      have zz10 : n0 ≤ h10.size := Nat.le_trans Z1 (Keep.of_wr W10).1
      have K10 := KE.wr W10 (Or.inl (List.mem_of_getElem? (i := 0) rfl))
      refine Runs.via (T' := T10) (g' := (mkF m 68 #[.val (.ref a2)] [])) (fun t k => st10 _ k) ?_
      refine Runs.via (T' := T10) (g' := (mkF m 32 #[.val (.ref a2)] [])) (fun t k => ?_) ?_
      · show Steps p.tables e below (T10.setTop (mkF m 68 #[.val (.ref a2)] [])) t
        refine XS.goto X10.here hx rfl (pc0 := 68) (pc' := 32) rfl (hb hby d5_68) (by decide) (by decide) ?_
        exact k
      exact hK32 X10 e10 N10 (by show cells ≤ 0; omega) (by show slots ≤ 0; omega) zz10 K10 (by omega) (by omega) v9 q_a2_start q_a2_number A_a1_10 E_a2_10 F_a2_end_10 F_a2_body_10 F_a2_start_10 F_a2_number_10 hr
  · refine Runs.via (T' := T2) (g' := (mkF m 71 #[.val (.ref a2)] [])) (fun t k => ?_) ?_
    · show Steps p.tables e below (T2.setTop (mkF m 41 #[.val (.ref a2)] [(.int (lenO q_a1)), (.int q_a2_end)])) t
      exact XS.icmpYes X2.here hx rfl (pc0 := 41) (pc' := 71) rfl (hb hby d5_41) rfl (flt hc3).2.1 (by decide) (by decide) k
    exact b5_71 C fuel X2 e2 N0 (by show cells ≤ 0; omega) (by show slots ≤ 0; omega) Z1 KE (by omega) (by omega) q_a2_end q_a2_start q_a2_number A_a1_0 E_a2_0 F_a2_end_0 F_a2_body_0 F_a2_start_0 F_a2_number_0 hr
set_option maxRecDepth 65536 in
set_option maxHeartbeats 4000000 in
theorem u5_32 {hE : Heap} {a1 : Addr} {a2 : Addr} {q_a1 : List Int32} {q_a2_end₀ : Int32} {q_a2_start₀ : Int32} {q_a2_number₀ : Int32} (fuel : Nat) {r : Int32 × Int32 × Int32 × Int32} (C : Ctx p s m meth c Z a0 "com/example/braid/braid/BodyLines" prog_2_method_2_code 1 (some .boolean) "next") : ∀ n : Nat, ∀ {T0 : State} {locs : List Loc} {cells slots : Nat} {h0 : Heap} (X0 : Stand p l e ({ frames := 0, cells := 0, slots := 0, locals := 0 } : Room) s m args below meth c T0 locs cells slots) (e0 : T0.heap = h0) (N0 : Fr n0 locs) (hk : cells ≤ 0) (hn : slots ≤ 0) (Z1 : n0 ≤ h0.size) (KE : Keep hE h0 [a2]) (o0 : n0 ≤ a1) (o1 : @LT.lt Nat instLTNat a1 a2) (q_a2_end : Int32) (q_a2_start : Int32) (q_a2_number : Int32) (A_a1_0 : AI Z h0 a1 .byte q_a1) (E_a2_0 : Exa Z h0 a2 "com/example/braid/braid/BodyLines") (F_a2_end_0 : Fld Z h0 a2 "com/example/braid/braid/BodyLines" "end" "I" (.int q_a2_end)) (F_a2_body_0 : Fld Z h0 a2 "com/example/braid/braid/BodyLines" "body" "[B" (.ref a1)) (F_a2_start_0 : Fld Z h0 a2 "com/example/braid/braid/BodyLines" "start" "I" (.int q_a2_start)) (F_a2_number_0 : Fld Z h0 a2 "com/example/braid/braid/BodyLines" "number" "I" (.int q_a2_number)), h5_32 fuel n q_a1 q_a2_end q_a2_start q_a2_number = some r → Runs p e below s (P5 Z hE a1 a2 q_a1 q_a2_end₀ q_a2_start₀ q_a2_number₀ n0 r) 0 0 T0 (mkF m 32 #[.val (.ref a2)] []) := by
  intro n
  induction n with
  | zero => intros; rename_i hr; exact absurd hr (by simp [h5_32])
  | succ n ih =>
    intro T0 locs cells slots h0 X0 e0 N0 hk hn Z1 KE o0 o1 q_a2_end q_a2_start q_a2_number A_a1_0 E_a2_0 F_a2_end_0 F_a2_body_0 F_a2_start_0 F_a2_number_0 hr
    exact t5_32 fuel C _ ih X0 e0 N0 hk hn Z1 KE o0 o1 q_a2_end q_a2_start q_a2_number A_a1_0 E_a2_0 F_a2_end_0 F_a2_body_0 F_a2_start_0 F_a2_number_0 hr
set_option maxRecDepth 65536 in
set_option maxHeartbeats 4000000 in
theorem b5_32 {hE : Heap} {a1 : Addr} {a2 : Addr} {q_a1 : List Int32} {q_a2_end₀ : Int32} {q_a2_start₀ : Int32} {q_a2_number₀ : Int32} {r : Int32 × Int32 × Int32 × Int32} (C : Ctx p s m meth c Z a0 "com/example/braid/braid/BodyLines" prog_2_method_2_code 1 (some .boolean) "next") (fuel : Nat) (X0 : Stand p l e ({ frames := 0, cells := 0, slots := 0, locals := 0 } : Room) s m args below meth c T0 locs cells slots) (e0 : T0.heap = h0) (N0 : Fr n0 locs) (hk : cells ≤ 0) (hn : slots ≤ 0) (Z1 : n0 ≤ h0.size) (KE : Keep hE h0 [a2]) (o0 : n0 ≤ a1) (o1 : @LT.lt Nat instLTNat a1 a2) (q_a2_end : Int32) (q_a2_start : Int32) (q_a2_number : Int32) (A_a1_0 : AI Z h0 a1 .byte q_a1) (E_a2_0 : Exa Z h0 a2 "com/example/braid/braid/BodyLines") (F_a2_end_0 : Fld Z h0 a2 "com/example/braid/braid/BodyLines" "end" "I" (.int q_a2_end)) (F_a2_body_0 : Fld Z h0 a2 "com/example/braid/braid/BodyLines" "body" "[B" (.ref a1)) (F_a2_start_0 : Fld Z h0 a2 "com/example/braid/braid/BodyLines" "start" "I" (.int q_a2_start)) (F_a2_number_0 : Fld Z h0 a2 "com/example/braid/braid/BodyLines" "number" "I" (.int q_a2_number)) (hr : g5_32 fuel q_a1 q_a2_end q_a2_start q_a2_number = some r) :
    Runs p e below s (P5 Z hE a1 a2 q_a1 q_a2_end₀ q_a2_start₀ q_a2_number₀ n0 r) 0 0 T0 (mkF m 32 #[.val (.ref a2)] []) := u5_32 fuel C fuel X0 e0 N0 hk hn Z1 KE o0 o1 q_a2_end q_a2_start q_a2_number A_a1_0 E_a2_0 F_a2_end_0 F_a2_body_0 F_a2_start_0 F_a2_number_0 hr
def g5_0 (fuel : Nat) (q_a1 : List Int32) (q_a2_end : Int32) (q_a2_start : Int32) (q_a2_number : Int32) : Option (Int32 × Int32 × Int32 × Int32) := (letO (q_a2_end + (1 : Int32)) fun v2 => (if v2 < (lenO q_a1) then (g5_32 fuel q_a1 v2 v2 q_a2_number) else some ((0 : Int32), q_a2_end, v2, q_a2_number)))
set_option maxRecDepth 65536 in
set_option maxHeartbeats 4000000 in
theorem b5_0 {hE : Heap} {a1 : Addr} {a2 : Addr} {q_a1 : List Int32} {q_a2_end₀ : Int32} {q_a2_start₀ : Int32} {q_a2_number₀ : Int32} {r : Int32 × Int32 × Int32 × Int32} (C : Ctx p s m meth c Z a0 "com/example/braid/braid/BodyLines" prog_2_method_2_code 1 (some .boolean) "next") (fuel : Nat) (X0 : Stand p l e ({ frames := 0, cells := 0, slots := 0, locals := 0 } : Room) s m args below meth c T0 locs cells slots) (e0 : T0.heap = h0) (N0 : Fr n0 locs) (hk : cells ≤ 0) (hn : slots ≤ 0) (Z1 : n0 ≤ h0.size) (KE : Keep hE h0 [a2]) (o0 : n0 ≤ a1) (o1 : @LT.lt Nat instLTNat a1 a2) (q_a2_end : Int32) (q_a2_start : Int32) (q_a2_number : Int32) (A_a1_0 : AI Z h0 a1 .byte q_a1) (E_a2_0 : Exa Z h0 a2 "com/example/braid/braid/BodyLines") (F_a2_end_0 : Fld Z h0 a2 "com/example/braid/braid/BodyLines" "end" "I" (.int q_a2_end)) (F_a2_body_0 : Fld Z h0 a2 "com/example/braid/braid/BodyLines" "body" "[B" (.ref a1)) (F_a2_start_0 : Fld Z h0 a2 "com/example/braid/braid/BodyLines" "start" "I" (.int q_a2_start)) (F_a2_number_0 : Fld Z h0 a2 "com/example/braid/braid/BodyLines" "number" "I" (.int q_a2_number)) (hr : g5_0 fuel q_a1 q_a2_end q_a2_start q_a2_number = some r) :
    Runs p e below s (P5 Z hE a1 a2 q_a1 q_a2_end₀ q_a2_start₀ q_a2_number₀ n0 r) 0 0 T0 (mkF m 0 #[.val (.ref a2)] []) := by
  unfold g5_0 at hr
  have ⟨hx, hZ, hw, hby, hml, hown, hret, hlk, hnm⟩ := C
  refine Runs.via (T' := T0) (g' := (mkF m 2 #[.val (.ref a2)] [(.ref a2), (.ref a2)])) (fun t k => ?_) ?_
  · show Steps p.tables e below (T0.setTop (mkF m 0 #[.val (.ref a2)] [])) t
    refine XS.aloadN X0.here hx rfl (hb hby d5_0) rfl rfl ?_
    show Steps p.tables e below (T0.setTop (mkF m 1 #[.val (.ref a2)] [(.ref a2)])) t
    refine XS.aloadN X0.here hx rfl (hb hby d5_1) rfl rfl ?_
    exact k
  obtain ⟨T1, X1, e1, st1⟩ := getF X0 hx hZ hown (host := "") (Or.inl (hw _ (List.mem_of_getElem? (i := 15) rfl))) Via.refl e0 F_a2_end_0 (g := (mkF m 2 #[.val (.ref a2)] [(.ref a2), (.ref a2)])) rfl rfl (hb hby d5_2)
  refine Runs.via (T' := T1) (g' := (mkF m 5 #[.val (.ref a2)] [(.int q_a2_end), (.ref a2)])) (fun t k => st1 _ k) ?_
  refine Runs.via (T' := T1) (g' := (mkF m 7 #[.val (.ref a2)] [(.int (q_a2_end + (1 : Int32))), (.ref a2)])) (fun t k => ?_) ?_
  · show Steps p.tables e below (T1.setTop (mkF m 5 #[.val (.ref a2)] [(.int q_a2_end), (.ref a2)])) t
    refine XS.iconst X1.here hx rfl (hb hby d5_5) ?_
    show Steps p.tables e below (T1.setTop (mkF m 6 #[.val (.ref a2)] [(.int (1 : Int32)), (.int q_a2_end), (.ref a2)])) t
    refine XS.iadd X1.here hx rfl (hb hby d5_6) rfl ?_
    exact k
  refine letE hr ?_; intro v2 hv2 hr
  rw [← hv2]
  obtain ⟨T3, h3, X3, e3, W3, st3⟩ := putF X1 hx hZ hown (host := "") (Or.inl (hw _ (List.mem_of_getElem? (i := 29) rfl))) Via.refl e1 F_a2_start_0 E_a2_0 (Or.inl (hw _ (List.mem_of_getElem? (i := 30) rfl))) (hw _ (List.mem_of_getElem? (i := 7) rfl)) (ty := .int) (by decide) rfl rfl (g := (mkF m 7 #[.val (.ref a2)] [(.int v2), (.ref a2)])) rfl rfl (hb hby d5_7)
  have A_a1_3 : AI Z h3 a1 .byte q_a1 := A_a1_0.other W3 (by omega : @Ne Nat a1 a2)
  have E_a2_3 : Exa Z h3 a2 "com/example/braid/braid/BodyLines" := E_a2_0.wr W3
  have F_a2_end_3 : Fld Z h3 a2 "com/example/braid/braid/BodyLines" "end" "I" (.int q_a2_end) := F_a2_end_0.other W3 (Or.inr (slot_ne (Or.inl (hw _ (List.mem_of_getElem? (i := 16) rfl))) (Or.inl (hw _ (List.mem_of_getElem? (i := 30) rfl))) (by decide) (t := .int) (t' := .int) (by decide) (by decide)))
  have F_a2_body_3 : Fld Z h3 a2 "com/example/braid/braid/BodyLines" "body" "[B" (.ref a1) := F_a2_body_0.other W3 (Or.inr (slot_ne (Or.inr (hw _ (List.mem_of_getElem? (i := 18) rfl))) (Or.inl (hw _ (List.mem_of_getElem? (i := 30) rfl))) (by decide) (t := (.array .byte)) (t' := .int) (by decide) (by decide)))
  have F_a2_start_3 : Fld Z h3 a2 "com/example/braid/braid/BodyLines" "start" "I" (.int v2) := F_a2_start_0.same W3
  have F_a2_number_3 : Fld Z h3 a2 "com/example/braid/braid/BodyLines" "number" "I" (.int q_a2_number) := F_a2_number_0.other W3 (Or.inr (slot_ne (Or.inl (hw _ (List.mem_of_getElem? (i := 32) rfl))) (Or.inl (hw _ (List.mem_of_getElem? (i := 30) rfl))) (by decide) (t := .int) (t' := .int) (by decide) (by decide)))
  have N3 := Fr.snoc X3 N0 (by omega : n0 ≤ a2)
  have zz3 : n0 ≤ h3.size := Nat.le_trans Z1 (Keep.of_wr W3).1
  have K3 := KE.wr W3 (Or.inl (List.mem_of_getElem? (i := 0) rfl))
  refine Runs.via (T' := T3) (g' := (mkF m 10 #[.val (.ref a2)] [])) (fun t k => st3 _ k) ?_
  refine Runs.via (T' := T3) (g' := (mkF m 11 #[.val (.ref a2)] [(.ref a2)])) (fun t k => ?_) ?_
  · show Steps p.tables e below (T3.setTop (mkF m 10 #[.val (.ref a2)] [])) t
    refine XS.aloadN X3.here hx rfl (hb hby d5_10) rfl rfl ?_
    exact k
  obtain ⟨T4, X4, e4, st4⟩ := getF X3 hx hZ hown (host := "") (Or.inl (hw _ (List.mem_of_getElem? (i := 29) rfl))) Via.refl e3 F_a2_start_3 (g := (mkF m 11 #[.val (.ref a2)] [(.ref a2)])) rfl rfl (hb hby d5_11)
  refine Runs.via (T' := T4) (g' := (mkF m 14 #[.val (.ref a2)] [(.int v2)])) (fun t k => st4 _ k) ?_
  refine Runs.via (T' := T4) (g' := (mkF m 15 #[.val (.ref a2)] [(.ref a2), (.int v2)])) (fun t k => ?_) ?_
  · show Steps p.tables e below (T4.setTop (mkF m 14 #[.val (.ref a2)] [(.int v2)])) t
    refine XS.aloadN X4.here hx rfl (hb hby d5_14) rfl rfl ?_
    exact k
  obtain ⟨T5, X5, e5, st5⟩ := getF X4 hx hZ hown (host := "") (Or.inl (hw _ (List.mem_of_getElem? (i := 17) rfl))) Via.refl e4 F_a2_body_3 (g := (mkF m 15 #[.val (.ref a2)] [(.ref a2), (.int v2)])) rfl rfl (hb hby d5_15)
  refine Runs.via (T' := T5) (g' := (mkF m 18 #[.val (.ref a2)] [(.ref a1), (.int v2)])) (fun t k => st5 _ k) ?_
  refine Runs.via (T' := T5) (g' := (mkF m 19 #[.val (.ref a2)] [(.int (lenO q_a1)), (.int v2)])) (fun t k => ?_) ?_
  · show Steps p.tables e below (T5.setTop (mkF m 18 #[.val (.ref a2)] [(.ref a1), (.int v2)])) t
    refine lenAI X5 hx hZ e5 A_a1_3 rfl (g := (mkF m 18 #[.val (.ref a2)] [(.ref a1), (.int v2)])) rfl (hb hby d5_18) _ ?_
    exact k
  refine iteE hr (fun hc6 hr => ?_) (fun hc6 hr => ?_)
  · refine Runs.via (T' := T5) (g' := (mkF m 24 #[.val (.ref a2)] [])) (fun t k => ?_) ?_
    · show Steps p.tables e below (T5.setTop (mkF m 19 #[.val (.ref a2)] [(.int (lenO q_a1)), (.int v2)])) t
      exact XS.icmpYes X5.here hx rfl (pc0 := 19) (pc' := 24) rfl (hb hby d5_19) rfl (tlt hc6).1 (by decide) (by decide) k
    refine Runs.via (T' := T5) (g' := (mkF m 26 #[.val (.ref a2)] [(.ref a2), (.ref a2)])) (fun t k => ?_) ?_
    · show Steps p.tables e below (T5.setTop (mkF m 24 #[.val (.ref a2)] [])) t
      refine XS.aloadN X5.here hx rfl (hb hby d5_24) rfl rfl ?_
      show Steps p.tables e below (T5.setTop (mkF m 25 #[.val (.ref a2)] [(.ref a2)])) t
      refine XS.aloadN X5.here hx rfl (hb hby d5_25) rfl rfl ?_
      exact k
    obtain ⟨T7, X7, e7, st7⟩ := getF X5 hx hZ hown (host := "") (Or.inl (hw _ (List.mem_of_getElem? (i := 29) rfl))) Via.refl e5 F_a2_start_3 (g := (mkF m 26 #[.val (.ref a2)] [(.ref a2), (.ref a2)])) rfl rfl (hb hby d5_26)
    refine Runs.via (T' := T7) (g' := (mkF m 29 #[.val (.ref a2)] [(.int v2), (.ref a2)])) (fun t k => st7 _ k) ?_
    obtain ⟨T8, h8, X8, e8, W8, st8⟩ := putF X7 hx hZ hown (host := "") (Or.inl (hw _ (List.mem_of_getElem? (i := 15) rfl))) Via.refl e7 F_a2_end_3 E_a2_3 (Or.inl (hw _ (List.mem_of_getElem? (i := 16) rfl))) (hw _ (List.mem_of_getElem? (i := 7) rfl)) (ty := .int) (by decide) rfl rfl (g := (mkF m 29 #[.val (.ref a2)] [(.int v2), (.ref a2)])) rfl rfl (hb hby d5_29)
    have A_a1_8 : AI Z h8 a1 .byte q_a1 := A_a1_3.other W8 (by omega : @Ne Nat a1 a2)
    have E_a2_8 : Exa Z h8 a2 "com/example/braid/braid/BodyLines" := E_a2_3.wr W8
    have F_a2_end_8 : Fld Z h8 a2 "com/example/braid/braid/BodyLines" "end" "I" (.int v2) := F_a2_end_3.same W8
    have F_a2_body_8 : Fld Z h8 a2 "com/example/braid/braid/BodyLines" "body" "[B" (.ref a1) := F_a2_body_3.other W8 (Or.inr (slot_ne (Or.inr (hw _ (List.mem_of_getElem? (i := 18) rfl))) (Or.inl (hw _ (List.mem_of_getElem? (i := 16) rfl))) (by decide) (t := (.array .byte)) (t' := .int) (by decide) (by decide)))
    have F_a2_start_8 : Fld Z h8 a2 "com/example/braid/braid/BodyLines" "start" "I" (.int v2) := F_a2_start_3.other W8 (Or.inr (slot_ne (Or.inl (hw _ (List.mem_of_getElem? (i := 30) rfl))) (Or.inl (hw _ (List.mem_of_getElem? (i := 16) rfl))) (by decide) (t := .int) (t' := .int) (by decide) (by decide)))
    have F_a2_number_8 : Fld Z h8 a2 "com/example/braid/braid/BodyLines" "number" "I" (.int q_a2_number) := F_a2_number_3.other W8 (Or.inr (slot_ne (Or.inl (hw _ (List.mem_of_getElem? (i := 32) rfl))) (Or.inl (hw _ (List.mem_of_getElem? (i := 16) rfl))) (by decide) (t := .int) (t' := .int) (by decide) (by decide)))
    have N8 := Fr.snoc X8 N3 (by omega : n0 ≤ a2)
    have zz8 : n0 ≤ h8.size := Nat.le_trans zz3 (Keep.of_wr W8).1
    have K8 := K3.wr W8 (Or.inl (List.mem_of_getElem? (i := 0) rfl))
    refine Runs.via (T' := T8) (g' := (mkF m 32 #[.val (.ref a2)] [])) (fun t k => st8 _ k) ?_
    exact b5_32 C fuel X8 e8 N8 (by show cells ≤ 0; omega) (by show slots ≤ 0; omega) zz8 K8 (by omega) (by omega) v2 v2 q_a2_number A_a1_8 E_a2_8 F_a2_end_8 F_a2_body_8 F_a2_start_8 F_a2_number_8 hr
  · refine Runs.via (T' := T5) (g' := (mkF m 22 #[.val (.ref a2)] [])) (fun t k => ?_) ?_
    · show Steps p.tables e below (T5.setTop (mkF m 19 #[.val (.ref a2)] [(.int (lenO q_a1)), (.int v2)])) t
      exact XS.icmpNo X5.here hx rfl (hb hby d5_19) rfl (flt hc6).1 k
    refine Runs.via (T' := T5) (g' := (mkF m 23 #[.val (.ref a2)] [(.int (0 : Int32))])) (fun t k => ?_) ?_
    · show Steps p.tables e below (T5.setTop (mkF m 22 #[.val (.ref a2)] [])) t
      refine XS.iconst X5.here hx rfl (hb hby d5_22) ?_
      exact k
    obtain rfl := Option.some.inj hr
    exact own_retN X5 hx hlk (t := .boolean) hret (by simp) (hb hby d5_23) (by show cells ≤ 0; omega) (by show slots ≤ 0; omega) ⟨rfl, N3, (by rw [e5]; exact K3), (by rw [e5]; exact E_a2_3), (by rw [e5]; exact F_a2_end_3), (by rw [e5]; exact F_a2_body_3), (by rw [e5]; exact F_a2_start_3), (by rw [e5]; exact F_a2_number_3)⟩
def f5 (fuel : Nat) (q_a1 : List Int32) (q_a2_end : Int32) (q_a2_start : Int32) (q_a2_number : Int32) : Option (Int32 × Int32 × Int32 × Int32) := g5_0 fuel q_a1 q_a2_end q_a2_start q_a2_number
theorem pn_5 : plainName "com/example/braid/braid/BodyLines" = true := by first | (simp [plainName, overriddenIn]; done) | decide +kernel
theorem ef_5 (m : MethodId) (a1 : Addr) (a2 : Addr) : entryFrame m #[(.ref a2)] 1 = mkF m 0 #[.val (.ref a2)] [] := by first | (simp [entryFrame, mkF, argsToLocals, Value.category]; done) | rfl
set_option maxRecDepth 65536 in
set_option maxHeartbeats 4000000 in
theorem rm5 (l : Launch) (Z : State) (a0 : Array Value) (hw : ∀ d ∈ tables_1, d.before a0 Z = true) (ws : List Jvm.Cond) (a1 : Addr) (a2 : Addr) (q_a1 : List Int32) (q_a2_end : Int32) (q_a2_start : Int32) (q_a2_number : Int32) (hE : Heap) (n0 : Nat) (Z0 : n0 ≤ hE.size) (o0 : n0 ≤ a1) (o1 : @LT.lt Nat instLTNat a1 a2) (A_a1_0 : AI Z hE a1 .byte q_a1) (E_a2_0 : Exa Z hE a2 "com/example/braid/braid/BodyLines") (F_a2_end_0 : Fld Z hE a2 "com/example/braid/braid/BodyLines" "end" "I" (.int q_a2_end)) (F_a2_body_0 : Fld Z hE a2 "com/example/braid/braid/BodyLines" "body" "[B" (.ref a1)) (F_a2_start_0 : Fld Z hE a2 "com/example/braid/braid/BodyLines" "start" "I" (.int q_a2_start)) (F_a2_number_0 : Fld Z hE a2 "com/example/braid/braid/BodyLines" "number" "I" (.int q_a2_number)) (fuel : Nat) (r : Int32 × Int32 × Int32 × Int32) (hr : f5 fuel q_a1 q_a2_end q_a2_start q_a2_number = some r) :
    MetFree l (⟨"com/example/braid/braid/BodyLines", "next", "()Z"⟩ : MethodName) (head1 (Jvm.Cond.code (⟨"com/example/braid/braid/BodyLines", "next", "()Z"⟩ : MethodName) prog_2_method_2_code 1 (some .boolean) :: ws) ({ frames := 0, cells := 0, slots := 0, locals := 0 } : Room)) (fun a U => a = #[(.ref a2)] ∧ Z.Warmed39 U.vm ∧ U.heap = hE) (fun _ _ _ _ _ => True) (fun _ U o U' => ∃ v L, o = .returned v ∧ (P5 Z hE a1 a2 q_a1 q_a2_end q_a2_start q_a2_number n0 r v U'.heap L) ∧ FrameEnd U o U' L ({ frames := 0, cells := 0, slots := 0, locals := 0 } : Room).cells ({ frames := 0, cells := 0, slots := 0, locals := 0 } : Room).slots) := by
  refine MetFree.of_bodySF (plainFor_of_name pn_5) hisR ?_
  intro p e s m args below meth c s₁ Bd hml0 hP hK
  obtain ⟨rfl, hZ, hh⟩ := hP
  have X0 : Stand p l e ({ frames := 0, cells := 0, slots := 0, locals := 0 } : Room) s m #[(.ref a2)] below meth c s₁ [] 0 0 := Stand.of_body Bd
  have e0 : s₁.heap = hE := by rw [← hh, Bd.state]; rfl
  have C : Ctx p s m meth c Z a0 "com/example/braid/braid/BodyLines" prog_2_method_2_code 1 (some .boolean) "next" := ⟨Bd.exec, hZ, hw, Bd.bytes, hml0, findClass_of_methodNamed Bd.named, Bd.returns, BodyLoose.notSynchronized Bd, (name_of_methodNamed Bd.named Bd.method).1⟩
  refine Runs.via (fun t k => castTop (ef_5 m a1 a2) k) (b5_0 C fuel X0 e0 (Fr.nil n0) (by show 0 ≤ 0; omega) (by show 0 ≤ 0; omega) Z0 (Keep.refl hE [a2]) (by omega) (by omega) q_a2_end q_a2_start q_a2_number A_a1_0 E_a2_0 F_a2_end_0 F_a2_body_0 F_a2_start_0 F_a2_number_0 hr)
theorem pd_2 : parseMethodDescriptor "()Z" = some ⟨[], some .boolean⟩ := by decide +kernel
theorem d6_0 : decode prog_2_method_7_code 0 = .ok (.aload_n 0, 1) := by decide +kernel
theorem d6_1 : decode prog_2_method_7_code 1 = .ok (.getfield 17, 3) := by decide +kernel
theorem d6_4 : decode prog_2_method_7_code 4 = .ok (.istore_n 1, 1) := by decide +kernel
theorem d6_5 : decode prog_2_method_7_code 5 = .ok (.iload_n 1, 1) := by decide +kernel
theorem d6_6 : decode prog_2_method_7_code 6 = .ok (.aload_n 0, 1) := by decide +kernel
theorem d6_7 : decode prog_2_method_7_code 7 = .ok (.getfield 7, 3) := by decide +kernel
theorem d6_10 : decode prog_2_method_7_code 10 = .ok (.if_icmp .ge 44, 3) := by decide +kernel
theorem d6_13 : decode prog_2_method_7_code 13 = .ok (.aload_n 0, 1) := by decide +kernel
theorem d6_14 : decode prog_2_method_7_code 14 = .ok (.getfield 13, 3) := by decide +kernel
theorem d6_17 : decode prog_2_method_7_code 17 = .ok (.iload_n 1, 1) := by decide +kernel
theorem d6_18 : decode prog_2_method_7_code 18 = .ok (.baload, 1) := by decide +kernel
theorem d6_19 : decode prog_2_method_7_code 19 = .ok (.bipush 32, 2) := by decide +kernel
theorem d6_21 : decode prog_2_method_7_code 21 = .ok (.if_icmp .eq 27, 3) := by decide +kernel
theorem d6_24 : decode prog_2_method_7_code 24 = .ok (.aload_n 0, 1) := by decide +kernel
theorem d6_25 : decode prog_2_method_7_code 25 = .ok (.getfield 13, 3) := by decide +kernel
theorem d6_28 : decode prog_2_method_7_code 28 = .ok (.iload_n 1, 1) := by decide +kernel
theorem d6_29 : decode prog_2_method_7_code 29 = .ok (.baload, 1) := by decide +kernel
theorem d6_30 : decode prog_2_method_7_code 30 = .ok (.bipush 9, 2) := by decide +kernel
theorem d6_32 : decode prog_2_method_7_code 32 = .ok (.if_icmp .eq 16, 3) := by decide +kernel
theorem d6_35 : decode prog_2_method_7_code 35 = .ok (.aload_n 0, 1) := by decide +kernel
theorem d6_36 : decode prog_2_method_7_code 36 = .ok (.getfield 13, 3) := by decide +kernel
theorem d6_39 : decode prog_2_method_7_code 39 = .ok (.iload_n 1, 1) := by decide +kernel
theorem d6_40 : decode prog_2_method_7_code 40 = .ok (.baload, 1) := by decide +kernel
theorem d6_41 : decode prog_2_method_7_code 41 = .ok (.bipush 13, 2) := by decide +kernel
theorem d6_43 : decode prog_2_method_7_code 43 = .ok (.if_icmp .eq 5, 3) := by decide +kernel
theorem d6_46 : decode prog_2_method_7_code 46 = .ok (.iconst 0, 1) := by decide +kernel
theorem d6_47 : decode prog_2_method_7_code 47 = .ok (.ireturn, 1) := by decide +kernel
theorem d6_48 : decode prog_2_method_7_code 48 = .ok (.iinc 1 1, 3) := by decide +kernel
theorem d6_51 : decode prog_2_method_7_code 51 = .ok (.goto (-46), 3) := by decide +kernel
theorem d6_54 : decode prog_2_method_7_code 54 = .ok (.iconst 1, 1) := by decide +kernel
theorem d6_55 : decode prog_2_method_7_code 55 = .ok (.ireturn, 1) := by decide +kernel
def P6 (Z : State) (hE : Heap) (a1 : Addr) (a2 : Addr) (q_a1 : List Int32) (q_a2_end : Int32) (q_a2_start : Int32) (q_a2_number : Int32) (n0 : Nat) (r : Int32) (v : Option Value) (h : Heap) (L : List Loc) : Prop := v = some (.int r) ∧ Fr n0 L ∧ h = hE
def g6_48 (K5 : Int32 → List Int32 → Int32 → Int32 → Int32 → Option (Int32)) (fuel : Nat) (x1 : Int32) (q_a1 : List Int32) (q_a2_end : Int32) (q_a2_start : Int32) (q_a2_number : Int32) : Option (Int32) := (K5 (x1 + (1 : Int32)) q_a1 q_a2_end q_a2_start q_a2_number)
set_option maxRecDepth 65536 in
set_option maxHeartbeats 4000000 in
theorem b6_48 {hE : Heap} {a1 : Addr} {a2 : Addr} {q_a1 : List Int32} {q_a2_end : Int32} {q_a2_start : Int32} {q_a2_number : Int32} {r : Int32} (C : Ctx p s m meth c Z a0 "com/example/braid/braid/BodyLines" prog_2_method_7_code 2 (some .boolean) "isBlank") (fuel : Nat) (K5 : Int32 → List Int32 → Int32 → Int32 → Int32 → Option (Int32)) (hK5 : ∀ {T0 : State} {locs : List Loc} {cells slots : Nat} (X0 : Stand p l e ({ frames := 0, cells := 0, slots := 0, locals := 0 } : Room) s m args below meth c T0 locs cells slots) (e0 : T0.heap = hE) (N0 : Fr n0 locs) (hk : cells ≤ 0) (hn : slots ≤ 0) (Z1 : n0 ≤ hE.size) (o0 : n0 ≤ a1) (o1 : @LT.lt Nat instLTNat a1 a2) (x1 : Int32) (A_a1_0 : AI Z hE a1 .byte q_a1) (E_a2_0 : Exa Z hE a2 "com/example/braid/braid/BodyLines") (F_a2_end_0 : Fld Z hE a2 "com/example/braid/braid/BodyLines" "end" "I" (.int q_a2_end)) (F_a2_body_0 : Fld Z hE a2 "com/example/braid/braid/BodyLines" "body" "[B" (.ref a1)) (F_a2_start_0 : Fld Z hE a2 "com/example/braid/braid/BodyLines" "start" "I" (.int q_a2_start)) (F_a2_number_0 : Fld Z hE a2 "com/example/braid/braid/BodyLines" "number" "I" (.int q_a2_number)), K5 x1 q_a1 q_a2_end q_a2_start q_a2_number = some r → Runs p e below s (P6 Z hE a1 a2 q_a1 q_a2_end q_a2_start q_a2_number n0 r) 0 0 T0 (mkF m 5 #[.val (.ref a2), .val (.int x1)] [])) (X0 : Stand p l e ({ frames := 0, cells := 0, slots := 0, locals := 0 } : Room) s m args below meth c T0 locs cells slots) (e0 : T0.heap = hE) (N0 : Fr n0 locs) (hk : cells ≤ 0) (hn : slots ≤ 0) (Z1 : n0 ≤ hE.size) (o0 : n0 ≤ a1) (o1 : @LT.lt Nat instLTNat a1 a2) (x1 : Int32) (A_a1_0 : AI Z hE a1 .byte q_a1) (E_a2_0 : Exa Z hE a2 "com/example/braid/braid/BodyLines") (F_a2_end_0 : Fld Z hE a2 "com/example/braid/braid/BodyLines" "end" "I" (.int q_a2_end)) (F_a2_body_0 : Fld Z hE a2 "com/example/braid/braid/BodyLines" "body" "[B" (.ref a1)) (F_a2_start_0 : Fld Z hE a2 "com/example/braid/braid/BodyLines" "start" "I" (.int q_a2_start)) (F_a2_number_0 : Fld Z hE a2 "com/example/braid/braid/BodyLines" "number" "I" (.int q_a2_number)) (hr : g6_48 K5 fuel x1 q_a1 q_a2_end q_a2_start q_a2_number = some r) :
    Runs p e below s (P6 Z hE a1 a2 q_a1 q_a2_end q_a2_start q_a2_number n0 r) 0 0 T0 (mkF m 48 #[.val (.ref a2), .val (.int x1)] []) := by
  unfold g6_48 at hr
  have ⟨hx, hZ, hw, hby, hml, hown, hret, hlk, hnm⟩ := C
  refine Runs.via (T' := T0) (g' := (mkF m 5 #[.val (.ref a2), .val (.int (x1 + (1 : Int32)))] [])) (fun t k => ?_) ?_
  · show Steps p.tables e below (T0.setTop (mkF m 48 #[.val (.ref a2), .val (.int x1)] [])) t
    refine XS.iinc X0.here hx rfl (hb hby d6_48) rfl (l' := #[.val (.ref a2), .val (.int (x1 + (1 : Int32)))]) rfl ?_
    show Steps p.tables e below (T0.setTop (mkF m 51 #[.val (.ref a2), .val (.int (x1 + (1 : Int32)))] [])) t
    refine XS.goto X0.here hx rfl (pc0 := 51) (pc' := 5) rfl (hb hby d6_51) (by decide) (by decide) ?_
    exact k
  exact hK5 X0 e0 N0 (by show cells ≤ 0; omega) (by show slots ≤ 0; omega) Z1 (by omega) (by omega) (x1 + (1 : Int32)) A_a1_0 E_a2_0 F_a2_end_0 F_a2_body_0 F_a2_start_0 F_a2_number_0 hr
def s6_5 (K5 : Int32 → List Int32 → Int32 → Int32 → Int32 → Option (Int32)) (fuel : Nat) (x1 : Int32) (q_a1 : List Int32) (q_a2_end : Int32) (q_a2_start : Int32) (q_a2_number : Int32) : Option (Int32) := (if x1 < q_a2_end then ((rdO q_a1 x1).bind fun v4 => (if v4 = (32 : Int32) then (g6_48 K5 fuel x1 q_a1 q_a2_end q_a2_start q_a2_number) else ((rdO q_a1 x1).bind fun v7 => (if v7 = (9 : Int32) then (g6_48 K5 fuel x1 q_a1 q_a2_end q_a2_start q_a2_number) else ((rdO q_a1 x1).bind fun v10 => (if v10 = (13 : Int32) then (g6_48 K5 fuel x1 q_a1 q_a2_end q_a2_start q_a2_number) else some (0 : Int32))))))) else some (1 : Int32))
def h6_5 (fuel : Nat) : Nat → Int32 → List Int32 → Int32 → Int32 → Int32 → Option (Int32)
  | 0 => fun _ _ _ _ _ => none
  | n + 1 => fun x1 q_a1 q_a2_end q_a2_start q_a2_number => s6_5 (h6_5 fuel n) fuel x1 q_a1 q_a2_end q_a2_start q_a2_number
def g6_5 (fuel : Nat) (x1 : Int32) (q_a1 : List Int32) (q_a2_end : Int32) (q_a2_start : Int32) (q_a2_number : Int32) : Option (Int32) := h6_5 fuel fuel x1 q_a1 q_a2_end q_a2_start q_a2_number
set_option maxRecDepth 65536 in
set_option maxHeartbeats 4000000 in
theorem t6_5 {hE : Heap} {a1 : Addr} {a2 : Addr} {q_a1 : List Int32} {q_a2_end : Int32} {q_a2_start : Int32} {q_a2_number : Int32} (fuel : Nat) {r : Int32} (C : Ctx p s m meth c Z a0 "com/example/braid/braid/BodyLines" prog_2_method_7_code 2 (some .boolean) "isBlank") (K5 : Int32 → List Int32 → Int32 → Int32 → Int32 → Option (Int32)) (hK5 : ∀ {T0 : State} {locs : List Loc} {cells slots : Nat} (X0 : Stand p l e ({ frames := 0, cells := 0, slots := 0, locals := 0 } : Room) s m args below meth c T0 locs cells slots) (e0 : T0.heap = hE) (N0 : Fr n0 locs) (hk : cells ≤ 0) (hn : slots ≤ 0) (Z1 : n0 ≤ hE.size) (o0 : n0 ≤ a1) (o1 : @LT.lt Nat instLTNat a1 a2) (x1 : Int32) (A_a1_0 : AI Z hE a1 .byte q_a1) (E_a2_0 : Exa Z hE a2 "com/example/braid/braid/BodyLines") (F_a2_end_0 : Fld Z hE a2 "com/example/braid/braid/BodyLines" "end" "I" (.int q_a2_end)) (F_a2_body_0 : Fld Z hE a2 "com/example/braid/braid/BodyLines" "body" "[B" (.ref a1)) (F_a2_start_0 : Fld Z hE a2 "com/example/braid/braid/BodyLines" "start" "I" (.int q_a2_start)) (F_a2_number_0 : Fld Z hE a2 "com/example/braid/braid/BodyLines" "number" "I" (.int q_a2_number)), K5 x1 q_a1 q_a2_end q_a2_start q_a2_number = some r → Runs p e below s (P6 Z hE a1 a2 q_a1 q_a2_end q_a2_start q_a2_number n0 r) 0 0 T0 (mkF m 5 #[.val (.ref a2), .val (.int x1)] [])) (X0 : Stand p l e ({ frames := 0, cells := 0, slots := 0, locals := 0 } : Room) s m args below meth c T0 locs cells slots) (e0 : T0.heap = hE) (N0 : Fr n0 locs) (hk : cells ≤ 0) (hn : slots ≤ 0) (Z1 : n0 ≤ hE.size) (o0 : n0 ≤ a1) (o1 : @LT.lt Nat instLTNat a1 a2) (x1 : Int32) (A_a1_0 : AI Z hE a1 .byte q_a1) (E_a2_0 : Exa Z hE a2 "com/example/braid/braid/BodyLines") (F_a2_end_0 : Fld Z hE a2 "com/example/braid/braid/BodyLines" "end" "I" (.int q_a2_end)) (F_a2_body_0 : Fld Z hE a2 "com/example/braid/braid/BodyLines" "body" "[B" (.ref a1)) (F_a2_start_0 : Fld Z hE a2 "com/example/braid/braid/BodyLines" "start" "I" (.int q_a2_start)) (F_a2_number_0 : Fld Z hE a2 "com/example/braid/braid/BodyLines" "number" "I" (.int q_a2_number)) (hr : s6_5 K5 fuel x1 q_a1 q_a2_end q_a2_start q_a2_number = some r) :
    Runs p e below s (P6 Z hE a1 a2 q_a1 q_a2_end q_a2_start q_a2_number n0 r) 0 0 T0 (mkF m 5 #[.val (.ref a2), .val (.int x1)] []) := by
  unfold s6_5 at hr
  have ⟨hx, hZ, hw, hby, hml, hown, hret, hlk, hnm⟩ := C
  refine Runs.via (T' := T0) (g' := (mkF m 7 #[.val (.ref a2), .val (.int x1)] [(.ref a2), (.int x1)])) (fun t k => ?_) ?_
  · show Steps p.tables e below (T0.setTop (mkF m 5 #[.val (.ref a2), .val (.int x1)] [])) t
    refine XS.iloadN X0.here hx rfl (hb hby d6_5) rfl ?_
    show Steps p.tables e below (T0.setTop (mkF m 6 #[.val (.ref a2), .val (.int x1)] [(.int x1)])) t
    refine XS.aloadN X0.here hx rfl (hb hby d6_6) rfl rfl ?_
    exact k
  obtain ⟨T1, X1, e1, st1⟩ := getF X0 hx hZ hown (host := "") (Or.inl (hw _ (List.mem_of_getElem? (i := 15) rfl))) Via.refl e0 F_a2_end_0 (g := (mkF m 7 #[.val (.ref a2), .val (.int x1)] [(.ref a2), (.int x1)])) rfl rfl (hb hby d6_7)
  refine Runs.via (T' := T1) (g' := (mkF m 10 #[.val (.ref a2), .val (.int x1)] [(.int q_a2_end), (.int x1)])) (fun t k => st1 _ k) ?_
  refine iteE hr (fun hc2 hr => ?_) (fun hc2 hr => ?_)
  · refine Runs.via (T' := T1) (g' := (mkF m 13 #[.val (.ref a2), .val (.int x1)] [])) (fun t k => ?_) ?_
    · show Steps p.tables e below (T1.setTop (mkF m 10 #[.val (.ref a2), .val (.int x1)] [(.int q_a2_end), (.int x1)])) t
      exact XS.icmpNo X1.here hx rfl (hb hby d6_10) rfl (tlt hc2).2.1 k
    refine Runs.via (T' := T1) (g' := (mkF m 14 #[.val (.ref a2), .val (.int x1)] [(.ref a2)])) (fun t k => ?_) ?_
    · show Steps p.tables e below (T1.setTop (mkF m 13 #[.val (.ref a2), .val (.int x1)] [])) t
      refine XS.aloadN X1.here hx rfl (hb hby d6_13) rfl rfl ?_
      exact k
    obtain ⟨T3, X3, e3, st3⟩ := getF X1 hx hZ hown (host := "") (Or.inl (hw _ (List.mem_of_getElem? (i := 17) rfl))) Via.refl e1 F_a2_body_0 (g := (mkF m 14 #[.val (.ref a2), .val (.int x1)] [(.ref a2)])) rfl rfl (hb hby d6_14)
    refine Runs.via (T' := T3) (g' := (mkF m 17 #[.val (.ref a2), .val (.int x1)] [(.ref a1)])) (fun t k => st3 _ k) ?_
    refine Runs.via (T' := T3) (g' := (mkF m 18 #[.val (.ref a2), .val (.int x1)] [(.int x1), (.ref a1)])) (fun t k => ?_) ?_
    · show Steps p.tables e below (T3.setTop (mkF m 17 #[.val (.ref a2), .val (.int x1)] [(.ref a1)])) t
      refine XS.iloadN X3.here hx rfl (hb hby d6_17) rfl ?_
      exact k
    refine bindE hr ?_; intro v4 hv4 hr
    refine Runs.via (T' := T3) (g' := (mkF m 19 #[.val (.ref a2), .val (.int x1)] [(.int v4)])) (fun t k => ldB X3 hx hZ e3 A_a1_0 hv4 (g := (mkF m 18 #[.val (.ref a2), .val (.int x1)] [(.int x1), (.ref a1)])) rfl rfl (hb hby d6_18) _ k) ?_
    refine Runs.via (T' := T3) (g' := (mkF m 21 #[.val (.ref a2), .val (.int x1)] [(.int (32 : Int32)), (.int v4)])) (fun t k => ?_) ?_
    · show Steps p.tables e below (T3.setTop (mkF m 19 #[.val (.ref a2), .val (.int x1)] [(.int v4)])) t
      refine XS.bipush X3.here hx rfl (hb hby d6_19) ?_
      exact k
    refine iteE hr (fun hc5 hr => ?_) (fun hc5 hr => ?_)
    · refine Runs.via (T' := T3) (g' := (mkF m 48 #[.val (.ref a2), .val (.int x1)] [])) (fun t k => ?_) ?_
      · show Steps p.tables e below (T3.setTop (mkF m 21 #[.val (.ref a2), .val (.int x1)] [(.int (32 : Int32)), (.int v4)])) t
        exact XS.icmpYes X3.here hx rfl (pc0 := 21) (pc' := 48) rfl (hb hby d6_21) rfl (teq hc5).1 (by decide) (by decide) k
      exact b6_48 C fuel K5 hK5 X3 e3 N0 (by show cells ≤ 0; omega) (by show slots ≤ 0; omega) Z1 (by omega) (by omega) x1 A_a1_0 E_a2_0 F_a2_end_0 F_a2_body_0 F_a2_start_0 F_a2_number_0 hr
    · refine Runs.via (T' := T3) (g' := (mkF m 24 #[.val (.ref a2), .val (.int x1)] [])) (fun t k => ?_) ?_
      · show Steps p.tables e below (T3.setTop (mkF m 21 #[.val (.ref a2), .val (.int x1)] [(.int (32 : Int32)), (.int v4)])) t
        exact XS.icmpNo X3.here hx rfl (hb hby d6_21) rfl (feq hc5).1 k
      refine Runs.via (T' := T3) (g' := (mkF m 25 #[.val (.ref a2), .val (.int x1)] [(.ref a2)])) (fun t k => ?_) ?_
      · show Steps p.tables e below (T3.setTop (mkF m 24 #[.val (.ref a2), .val (.int x1)] [])) t
        refine XS.aloadN X3.here hx rfl (hb hby d6_24) rfl rfl ?_
        exact k
      obtain ⟨T6, X6, e6, st6⟩ := getF X3 hx hZ hown (host := "") (Or.inl (hw _ (List.mem_of_getElem? (i := 17) rfl))) Via.refl e3 F_a2_body_0 (g := (mkF m 25 #[.val (.ref a2), .val (.int x1)] [(.ref a2)])) rfl rfl (hb hby d6_25)
      refine Runs.via (T' := T6) (g' := (mkF m 28 #[.val (.ref a2), .val (.int x1)] [(.ref a1)])) (fun t k => st6 _ k) ?_
      refine Runs.via (T' := T6) (g' := (mkF m 29 #[.val (.ref a2), .val (.int x1)] [(.int x1), (.ref a1)])) (fun t k => ?_) ?_
      · show Steps p.tables e below (T6.setTop (mkF m 28 #[.val (.ref a2), .val (.int x1)] [(.ref a1)])) t
        refine XS.iloadN X6.here hx rfl (hb hby d6_28) rfl ?_
        exact k
      refine bindE hr ?_; intro v7 hv7 hr
      refine Runs.via (T' := T6) (g' := (mkF m 30 #[.val (.ref a2), .val (.int x1)] [(.int v7)])) (fun t k => ldB X6 hx hZ e6 A_a1_0 hv7 (g := (mkF m 29 #[.val (.ref a2), .val (.int x1)] [(.int x1), (.ref a1)])) rfl rfl (hb hby d6_29) _ k) ?_
      refine Runs.via (T' := T6) (g' := (mkF m 32 #[.val (.ref a2), .val (.int x1)] [(.int (9 : Int32)), (.int v7)])) (fun t k => ?_) ?_
      · show Steps p.tables e below (T6.setTop (mkF m 30 #[.val (.ref a2), .val (.int x1)] [(.int v7)])) t
        refine XS.bipush X6.here hx rfl (hb hby d6_30) ?_
        exact k
      refine iteE hr (fun hc8 hr => ?_) (fun hc8 hr => ?_)
      · refine Runs.via (T' := T6) (g' := (mkF m 48 #[.val (.ref a2), .val (.int x1)] [])) (fun t k => ?_) ?_
        · show Steps p.tables e below (T6.setTop (mkF m 32 #[.val (.ref a2), .val (.int x1)] [(.int (9 : Int32)), (.int v7)])) t
          exact XS.icmpYes X6.here hx rfl (pc0 := 32) (pc' := 48) rfl (hb hby d6_32) rfl (teq hc8).1 (by decide) (by decide) k
        exact b6_48 C fuel K5 hK5 X6 e6 N0 (by show cells ≤ 0; omega) (by show slots ≤ 0; omega) Z1 (by omega) (by omega) x1 A_a1_0 E_a2_0 F_a2_end_0 F_a2_body_0 F_a2_start_0 F_a2_number_0 hr
      · refine Runs.via (T' := T6) (g' := (mkF m 35 #[.val (.ref a2), .val (.int x1)] [])) (fun t k => ?_) ?_
        · show Steps p.tables e below (T6.setTop (mkF m 32 #[.val (.ref a2), .val (.int x1)] [(.int (9 : Int32)), (.int v7)])) t
          exact XS.icmpNo X6.here hx rfl (hb hby d6_32) rfl (feq hc8).1 k
        refine Runs.via (T' := T6) (g' := (mkF m 36 #[.val (.ref a2), .val (.int x1)] [(.ref a2)])) (fun t k => ?_) ?_
        · show Steps p.tables e below (T6.setTop (mkF m 35 #[.val (.ref a2), .val (.int x1)] [])) t
          refine XS.aloadN X6.here hx rfl (hb hby d6_35) rfl rfl ?_
          exact k
        obtain ⟨T9, X9, e9, st9⟩ := getF X6 hx hZ hown (host := "") (Or.inl (hw _ (List.mem_of_getElem? (i := 17) rfl))) Via.refl e6 F_a2_body_0 (g := (mkF m 36 #[.val (.ref a2), .val (.int x1)] [(.ref a2)])) rfl rfl (hb hby d6_36)
        refine Runs.via (T' := T9) (g' := (mkF m 39 #[.val (.ref a2), .val (.int x1)] [(.ref a1)])) (fun t k => st9 _ k) ?_
        refine Runs.via (T' := T9) (g' := (mkF m 40 #[.val (.ref a2), .val (.int x1)] [(.int x1), (.ref a1)])) (fun t k => ?_) ?_
        · show Steps p.tables e below (T9.setTop (mkF m 39 #[.val (.ref a2), .val (.int x1)] [(.ref a1)])) t
          refine XS.iloadN X9.here hx rfl (hb hby d6_39) rfl ?_
          exact k
        refine bindE hr ?_; intro v10 hv10 hr
        refine Runs.via (T' := T9) (g' := (mkF m 41 #[.val (.ref a2), .val (.int x1)] [(.int v10)])) (fun t k => ldB X9 hx hZ e9 A_a1_0 hv10 (g := (mkF m 40 #[.val (.ref a2), .val (.int x1)] [(.int x1), (.ref a1)])) rfl rfl (hb hby d6_40) _ k) ?_
        refine Runs.via (T' := T9) (g' := (mkF m 43 #[.val (.ref a2), .val (.int x1)] [(.int (13 : Int32)), (.int v10)])) (fun t k => ?_) ?_
        · show Steps p.tables e below (T9.setTop (mkF m 41 #[.val (.ref a2), .val (.int x1)] [(.int v10)])) t
          refine XS.bipush X9.here hx rfl (hb hby d6_41) ?_
          exact k
        refine iteE hr (fun hc11 hr => ?_) (fun hc11 hr => ?_)
        · refine Runs.via (T' := T9) (g' := (mkF m 48 #[.val (.ref a2), .val (.int x1)] [])) (fun t k => ?_) ?_
          · show Steps p.tables e below (T9.setTop (mkF m 43 #[.val (.ref a2), .val (.int x1)] [(.int (13 : Int32)), (.int v10)])) t
            exact XS.icmpYes X9.here hx rfl (pc0 := 43) (pc' := 48) rfl (hb hby d6_43) rfl (teq hc11).1 (by decide) (by decide) k
          exact b6_48 C fuel K5 hK5 X9 e9 N0 (by show cells ≤ 0; omega) (by show slots ≤ 0; omega) Z1 (by omega) (by omega) x1 A_a1_0 E_a2_0 F_a2_end_0 F_a2_body_0 F_a2_start_0 F_a2_number_0 hr
        · refine Runs.via (T' := T9) (g' := (mkF m 46 #[.val (.ref a2), .val (.int x1)] [])) (fun t k => ?_) ?_
          · show Steps p.tables e below (T9.setTop (mkF m 43 #[.val (.ref a2), .val (.int x1)] [(.int (13 : Int32)), (.int v10)])) t
            exact XS.icmpNo X9.here hx rfl (hb hby d6_43) rfl (feq hc11).1 k
          refine Runs.via (T' := T9) (g' := (mkF m 47 #[.val (.ref a2), .val (.int x1)] [(.int (0 : Int32))])) (fun t k => ?_) ?_
          · show Steps p.tables e below (T9.setTop (mkF m 46 #[.val (.ref a2), .val (.int x1)] [])) t
            refine XS.iconst X9.here hx rfl (hb hby d6_46) ?_
            exact k
          obtain rfl := Option.some.inj hr
          exact own_retN X9 hx hlk (t := .boolean) hret (by simp) (hb hby d6_47) (by show cells ≤ 0; omega) (by show slots ≤ 0; omega) ⟨rfl, N0, e9⟩
  · refine Runs.via (T' := T1) (g' := (mkF m 54 #[.val (.ref a2), .val (.int x1)] [])) (fun t k => ?_) ?_
    · show Steps p.tables e below (T1.setTop (mkF m 10 #[.val (.ref a2), .val (.int x1)] [(.int q_a2_end), (.int x1)])) t
      exact XS.icmpYes X1.here hx rfl (pc0 := 10) (pc' := 54) rfl (hb hby d6_10) rfl (flt hc2).2.1 (by decide) (by decide) k
    refine Runs.via (T' := T1) (g' := (mkF m 55 #[.val (.ref a2), .val (.int x1)] [(.int (1 : Int32))])) (fun t k => ?_) ?_
    · show Steps p.tables e below (T1.setTop (mkF m 54 #[.val (.ref a2), .val (.int x1)] [])) t
      refine XS.iconst X1.here hx rfl (hb hby d6_54) ?_
      exact k
    obtain rfl := Option.some.inj hr
    exact own_retN X1 hx hlk (t := .boolean) hret (by simp) (hb hby d6_55) (by show cells ≤ 0; omega) (by show slots ≤ 0; omega) ⟨rfl, N0, e1⟩
set_option maxRecDepth 65536 in
set_option maxHeartbeats 4000000 in
theorem u6_5 {hE : Heap} {a1 : Addr} {a2 : Addr} {q_a1 : List Int32} {q_a2_end : Int32} {q_a2_start : Int32} {q_a2_number : Int32} (fuel : Nat) {r : Int32} (C : Ctx p s m meth c Z a0 "com/example/braid/braid/BodyLines" prog_2_method_7_code 2 (some .boolean) "isBlank") : ∀ n : Nat, ∀ {T0 : State} {locs : List Loc} {cells slots : Nat} (X0 : Stand p l e ({ frames := 0, cells := 0, slots := 0, locals := 0 } : Room) s m args below meth c T0 locs cells slots) (e0 : T0.heap = hE) (N0 : Fr n0 locs) (hk : cells ≤ 0) (hn : slots ≤ 0) (Z1 : n0 ≤ hE.size) (o0 : n0 ≤ a1) (o1 : @LT.lt Nat instLTNat a1 a2) (x1 : Int32) (A_a1_0 : AI Z hE a1 .byte q_a1) (E_a2_0 : Exa Z hE a2 "com/example/braid/braid/BodyLines") (F_a2_end_0 : Fld Z hE a2 "com/example/braid/braid/BodyLines" "end" "I" (.int q_a2_end)) (F_a2_body_0 : Fld Z hE a2 "com/example/braid/braid/BodyLines" "body" "[B" (.ref a1)) (F_a2_start_0 : Fld Z hE a2 "com/example/braid/braid/BodyLines" "start" "I" (.int q_a2_start)) (F_a2_number_0 : Fld Z hE a2 "com/example/braid/braid/BodyLines" "number" "I" (.int q_a2_number)), h6_5 fuel n x1 q_a1 q_a2_end q_a2_start q_a2_number = some r → Runs p e below s (P6 Z hE a1 a2 q_a1 q_a2_end q_a2_start q_a2_number n0 r) 0 0 T0 (mkF m 5 #[.val (.ref a2), .val (.int x1)] []) := by
  intro n
  induction n with
  | zero => intros; rename_i hr; exact absurd hr (by simp [h6_5])
  | succ n ih =>
    intro T0 locs cells slots X0 e0 N0 hk hn Z1 o0 o1 x1 A_a1_0 E_a2_0 F_a2_end_0 F_a2_body_0 F_a2_start_0 F_a2_number_0 hr
    exact t6_5 fuel C _ ih X0 e0 N0 hk hn Z1 o0 o1 x1 A_a1_0 E_a2_0 F_a2_end_0 F_a2_body_0 F_a2_start_0 F_a2_number_0 hr
set_option maxRecDepth 65536 in
set_option maxHeartbeats 4000000 in
theorem b6_5 {hE : Heap} {a1 : Addr} {a2 : Addr} {q_a1 : List Int32} {q_a2_end : Int32} {q_a2_start : Int32} {q_a2_number : Int32} {r : Int32} (C : Ctx p s m meth c Z a0 "com/example/braid/braid/BodyLines" prog_2_method_7_code 2 (some .boolean) "isBlank") (fuel : Nat) (X0 : Stand p l e ({ frames := 0, cells := 0, slots := 0, locals := 0 } : Room) s m args below meth c T0 locs cells slots) (e0 : T0.heap = hE) (N0 : Fr n0 locs) (hk : cells ≤ 0) (hn : slots ≤ 0) (Z1 : n0 ≤ hE.size) (o0 : n0 ≤ a1) (o1 : @LT.lt Nat instLTNat a1 a2) (x1 : Int32) (A_a1_0 : AI Z hE a1 .byte q_a1) (E_a2_0 : Exa Z hE a2 "com/example/braid/braid/BodyLines") (F_a2_end_0 : Fld Z hE a2 "com/example/braid/braid/BodyLines" "end" "I" (.int q_a2_end)) (F_a2_body_0 : Fld Z hE a2 "com/example/braid/braid/BodyLines" "body" "[B" (.ref a1)) (F_a2_start_0 : Fld Z hE a2 "com/example/braid/braid/BodyLines" "start" "I" (.int q_a2_start)) (F_a2_number_0 : Fld Z hE a2 "com/example/braid/braid/BodyLines" "number" "I" (.int q_a2_number)) (hr : g6_5 fuel x1 q_a1 q_a2_end q_a2_start q_a2_number = some r) :
    Runs p e below s (P6 Z hE a1 a2 q_a1 q_a2_end q_a2_start q_a2_number n0 r) 0 0 T0 (mkF m 5 #[.val (.ref a2), .val (.int x1)] []) := u6_5 fuel C fuel X0 e0 N0 hk hn Z1 o0 o1 x1 A_a1_0 E_a2_0 F_a2_end_0 F_a2_body_0 F_a2_start_0 F_a2_number_0 hr
def g6_0 (fuel : Nat) (q_a1 : List Int32) (q_a2_end : Int32) (q_a2_start : Int32) (q_a2_number : Int32) : Option (Int32) := (g6_5 fuel q_a2_start q_a1 q_a2_end q_a2_start q_a2_number)
set_option maxRecDepth 65536 in
set_option maxHeartbeats 4000000 in
theorem b6_0 {hE : Heap} {a1 : Addr} {a2 : Addr} {q_a1 : List Int32} {q_a2_end : Int32} {q_a2_start : Int32} {q_a2_number : Int32} {r : Int32} (C : Ctx p s m meth c Z a0 "com/example/braid/braid/BodyLines" prog_2_method_7_code 2 (some .boolean) "isBlank") (fuel : Nat) (X0 : Stand p l e ({ frames := 0, cells := 0, slots := 0, locals := 0 } : Room) s m args below meth c T0 locs cells slots) (e0 : T0.heap = hE) (N0 : Fr n0 locs) (hk : cells ≤ 0) (hn : slots ≤ 0) (Z1 : n0 ≤ hE.size) (o0 : n0 ≤ a1) (o1 : @LT.lt Nat instLTNat a1 a2) (A_a1_0 : AI Z hE a1 .byte q_a1) (E_a2_0 : Exa Z hE a2 "com/example/braid/braid/BodyLines") (F_a2_end_0 : Fld Z hE a2 "com/example/braid/braid/BodyLines" "end" "I" (.int q_a2_end)) (F_a2_body_0 : Fld Z hE a2 "com/example/braid/braid/BodyLines" "body" "[B" (.ref a1)) (F_a2_start_0 : Fld Z hE a2 "com/example/braid/braid/BodyLines" "start" "I" (.int q_a2_start)) (F_a2_number_0 : Fld Z hE a2 "com/example/braid/braid/BodyLines" "number" "I" (.int q_a2_number)) (hr : g6_0 fuel q_a1 q_a2_end q_a2_start q_a2_number = some r) :
    Runs p e below s (P6 Z hE a1 a2 q_a1 q_a2_end q_a2_start q_a2_number n0 r) 0 0 T0 (mkF m 0 #[.val (.ref a2), .unset] []) := by
  unfold g6_0 at hr
  have ⟨hx, hZ, hw, hby, hml, hown, hret, hlk, hnm⟩ := C
  refine Runs.via (T' := T0) (g' := (mkF m 1 #[.val (.ref a2), .unset] [(.ref a2)])) (fun t k => ?_) ?_
  · show Steps p.tables e below (T0.setTop (mkF m 0 #[.val (.ref a2), .unset] [])) t
    refine XS.aloadN X0.here hx rfl (hb hby d6_0) rfl rfl ?_
    exact k
  obtain ⟨T1, X1, e1, st1⟩ := getF X0 hx hZ hown (host := "") (Or.inl (hw _ (List.mem_of_getElem? (i := 29) rfl))) Via.refl e0 F_a2_start_0 (g := (mkF m 1 #[.val (.ref a2), .unset] [(.ref a2)])) rfl rfl (hb hby d6_1)
  refine Runs.via (T' := T1) (g' := (mkF m 4 #[.val (.ref a2), .unset] [(.int q_a2_start)])) (fun t k => st1 _ k) ?_
  refine Runs.via (T' := T1) (g' := (mkF m 5 #[.val (.ref a2), .val (.int q_a2_start)] [])) (fun t k => ?_) ?_
  · show Steps p.tables e below (T1.setTop (mkF m 4 #[.val (.ref a2), .unset] [(.int q_a2_start)])) t
    refine XS.istoreN X1.here hx rfl (hb hby d6_4) rfl (l' := #[.val (.ref a2), .val (.int q_a2_start)]) rfl ?_
    exact k
  exact b6_5 C fuel X1 e1 N0 (by show cells ≤ 0; omega) (by show slots ≤ 0; omega) Z1 (by omega) (by omega) q_a2_start A_a1_0 E_a2_0 F_a2_end_0 F_a2_body_0 F_a2_start_0 F_a2_number_0 hr
def f6 (fuel : Nat) (q_a1 : List Int32) (q_a2_end : Int32) (q_a2_start : Int32) (q_a2_number : Int32) : Option (Int32) := g6_0 fuel q_a1 q_a2_end q_a2_start q_a2_number
theorem pn_6 : plainName "com/example/braid/braid/BodyLines" = true := by first | (simp [plainName, overriddenIn]; done) | decide +kernel
theorem ef_6 (m : MethodId) (a1 : Addr) (a2 : Addr) : entryFrame m #[(.ref a2)] 2 = mkF m 0 #[.val (.ref a2), .unset] [] := by first | (simp [entryFrame, mkF, argsToLocals, Value.category]; done) | rfl
set_option maxRecDepth 65536 in
set_option maxHeartbeats 4000000 in
theorem rm6 (l : Launch) (Z : State) (a0 : Array Value) (hw : ∀ d ∈ tables_1, d.before a0 Z = true) (ws : List Jvm.Cond) (a1 : Addr) (a2 : Addr) (q_a1 : List Int32) (q_a2_end : Int32) (q_a2_start : Int32) (q_a2_number : Int32) (hE : Heap) (n0 : Nat) (Z0 : n0 ≤ hE.size) (o0 : n0 ≤ a1) (o1 : @LT.lt Nat instLTNat a1 a2) (A_a1_0 : AI Z hE a1 .byte q_a1) (E_a2_0 : Exa Z hE a2 "com/example/braid/braid/BodyLines") (F_a2_end_0 : Fld Z hE a2 "com/example/braid/braid/BodyLines" "end" "I" (.int q_a2_end)) (F_a2_body_0 : Fld Z hE a2 "com/example/braid/braid/BodyLines" "body" "[B" (.ref a1)) (F_a2_start_0 : Fld Z hE a2 "com/example/braid/braid/BodyLines" "start" "I" (.int q_a2_start)) (F_a2_number_0 : Fld Z hE a2 "com/example/braid/braid/BodyLines" "number" "I" (.int q_a2_number)) (fuel : Nat) (r : Int32) (hr : f6 fuel q_a1 q_a2_end q_a2_start q_a2_number = some r) :
    MetFree l (⟨"com/example/braid/braid/BodyLines", "isBlank", "()Z"⟩ : MethodName) (head1 (Jvm.Cond.code (⟨"com/example/braid/braid/BodyLines", "isBlank", "()Z"⟩ : MethodName) prog_2_method_7_code 2 (some .boolean) :: ws) ({ frames := 0, cells := 0, slots := 0, locals := 0 } : Room)) (fun a U => a = #[(.ref a2)] ∧ Z.Warmed39 U.vm ∧ U.heap = hE) (fun _ _ _ _ _ => True) (fun _ U o U' => ∃ v L, o = .returned v ∧ (P6 Z hE a1 a2 q_a1 q_a2_end q_a2_start q_a2_number n0 r v U'.heap L) ∧ FrameEnd U o U' L ({ frames := 0, cells := 0, slots := 0, locals := 0 } : Room).cells ({ frames := 0, cells := 0, slots := 0, locals := 0 } : Room).slots) := by
  refine MetFree.of_bodySF (plainFor_of_name pn_6) hisR ?_
  intro p e s m args below meth c s₁ Bd hml0 hP hK
  obtain ⟨rfl, hZ, hh⟩ := hP
  have X0 : Stand p l e ({ frames := 0, cells := 0, slots := 0, locals := 0 } : Room) s m #[(.ref a2)] below meth c s₁ [] 0 0 := Stand.of_body Bd
  have e0 : s₁.heap = hE := by rw [← hh, Bd.state]; rfl
  have C : Ctx p s m meth c Z a0 "com/example/braid/braid/BodyLines" prog_2_method_7_code 2 (some .boolean) "isBlank" := ⟨Bd.exec, hZ, hw, Bd.bytes, hml0, findClass_of_methodNamed Bd.named, Bd.returns, BodyLoose.notSynchronized Bd, (name_of_methodNamed Bd.named Bd.method).1⟩
  refine Runs.via (fun t k => castTop (ef_6 m a1 a2) k) (b6_0 C fuel X0 e0 (Fr.nil n0) (by show 0 ≤ 0; omega) (by show 0 ≤ 0; omega) Z0 (by omega) (by omega) A_a1_0 E_a2_0 F_a2_end_0 F_a2_body_0 F_a2_start_0 F_a2_number_0 hr)
theorem d4_0 : decode prog_2_method_3_code 0 = .ok (.aload_n 0, 1) := by decide +kernel
theorem d4_1 : decode prog_2_method_3_code 1 = .ok (.invokevirtual 23, 3) := by decide +kernel
theorem d4_4 : decode prog_2_method_3_code 4 = .ok (.istore_n 1, 1) := by decide +kernel
theorem d4_5 : decode prog_2_method_3_code 5 = .ok (.iload_n 1, 1) := by decide +kernel
theorem d4_6 : decode prog_2_method_3_code 6 = .ok (.ifCond .eq 18, 3) := by decide +kernel
theorem d4_9 : decode prog_2_method_3_code 9 = .ok (.aload_n 0, 1) := by decide +kernel
theorem d4_10 : decode prog_2_method_3_code 10 = .ok (.invokevirtual 27, 3) := by decide +kernel
theorem d4_13 : decode prog_2_method_3_code 13 = .ok (.ifCond .eq 11, 3) := by decide +kernel
theorem d4_16 : decode prog_2_method_3_code 16 = .ok (.aload_n 0, 1) := by decide +kernel
theorem d4_17 : decode prog_2_method_3_code 17 = .ok (.invokevirtual 23, 3) := by decide +kernel
theorem d4_20 : decode prog_2_method_3_code 20 = .ok (.istore_n 1, 1) := by decide +kernel
theorem d4_21 : decode prog_2_method_3_code 21 = .ok (.goto (-16), 3) := by decide +kernel
theorem d4_24 : decode prog_2_method_3_code 24 = .ok (.iload_n 1, 1) := by decide +kernel
theorem d4_25 : decode prog_2_method_3_code 25 = .ok (.ireturn, 1) := by decide +kernel
def P4 (Z : State) (hE : Heap) (a1 : Addr) (a2 : Addr) (q_a1 : List Int32) (q_a2_end : Int32) (q_a2_start : Int32) (q_a2_number : Int32) (n0 : Nat) (r : Int32 × Int32 × Int32 × Int32) (v : Option Value) (h : Heap) (L : List Loc) : Prop := v = some (.int r.1) ∧ Fr n0 L ∧ Keep hE h [a2] ∧ Exa Z h a2 "com/example/braid/braid/BodyLines" ∧ Fld Z h a2 "com/example/braid/braid/BodyLines" "end" "I" (.int r.2.1) ∧ Fld Z h a2 "com/example/braid/braid/BodyLines" "body" "[B" (.ref a1) ∧ Fld Z h a2 "com/example/braid/braid/BodyLines" "start" "I" (.int r.2.2.1) ∧ Fld Z h a2 "com/example/braid/braid/BodyLines" "number" "I" (.int r.2.2.2)
def s4_5 (K5 : Int32 → List Int32 → Int32 → Int32 → Int32 → Option (Int32 × Int32 × Int32 × Int32)) (fuel : Nat) (x1 : Int32) (q_a1 : List Int32) (q_a2_end : Int32) (q_a2_start : Int32) (q_a2_number : Int32) : Option (Int32 × Int32 × Int32 × Int32) := (if x1 = (0 : Int32) then some ((x1 &&& 1), q_a2_end, q_a2_start, q_a2_number) else ((f6 fuel q_a1 q_a2_end q_a2_start q_a2_number).bind fun r2 => (if r2 = (0 : Int32) then some ((x1 &&& 1), q_a2_end, q_a2_start, q_a2_number) else ((f5 fuel q_a1 q_a2_end q_a2_start q_a2_number).bind fun r4 => (K5 r4.1 q_a1 r4.2.1 r4.2.2.1 r4.2.2.2)))))
def h4_5 (fuel : Nat) : Nat → Int32 → List Int32 → Int32 → Int32 → Int32 → Option (Int32 × Int32 × Int32 × Int32)
  | 0 => fun _ _ _ _ _ => none
  | n + 1 => fun x1 q_a1 q_a2_end q_a2_start q_a2_number => s4_5 (h4_5 fuel n) fuel x1 q_a1 q_a2_end q_a2_start q_a2_number
def g4_5 (fuel : Nat) (x1 : Int32) (q_a1 : List Int32) (q_a2_end : Int32) (q_a2_start : Int32) (q_a2_number : Int32) : Option (Int32 × Int32 × Int32 × Int32) := h4_5 fuel fuel x1 q_a1 q_a2_end q_a2_start q_a2_number
set_option maxRecDepth 65536 in
set_option maxHeartbeats 4000000 in
theorem t4_5 {hE : Heap} {a1 : Addr} {a2 : Addr} {q_a1 : List Int32} {q_a2_end₀ : Int32} {q_a2_start₀ : Int32} {q_a2_number₀ : Int32} (fuel : Nat) {r : Int32 × Int32 × Int32 × Int32} (C : Ctx p s m meth c Z a0 "com/example/braid/braid/BodyLines" prog_2_method_3_code 2 (some .boolean) "nextNotBlank") (K5 : Int32 → List Int32 → Int32 → Int32 → Int32 → Option (Int32 × Int32 × Int32 × Int32)) (hK5 : ∀ {T0 : State} {locs : List Loc} {cells slots : Nat} {h0 : Heap} (X0 : Stand p l e ({ frames := 1, cells := 0, slots := 0, locals := 13 } : Room) s m args below meth c T0 locs cells slots) (e0 : T0.heap = h0) (N0 : Fr n0 locs) (hk : cells ≤ 0) (hn : slots ≤ 0) (Z1 : n0 ≤ h0.size) (KE : Keep hE h0 [a2]) (o0 : n0 ≤ a1) (o1 : @LT.lt Nat instLTNat a1 a2) (q_a2_end : Int32) (q_a2_start : Int32) (q_a2_number : Int32) (x1 : Int32) (A_a1_0 : AI Z h0 a1 .byte q_a1) (E_a2_0 : Exa Z h0 a2 "com/example/braid/braid/BodyLines") (F_a2_end_0 : Fld Z h0 a2 "com/example/braid/braid/BodyLines" "end" "I" (.int q_a2_end)) (F_a2_body_0 : Fld Z h0 a2 "com/example/braid/braid/BodyLines" "body" "[B" (.ref a1)) (F_a2_start_0 : Fld Z h0 a2 "com/example/braid/braid/BodyLines" "start" "I" (.int q_a2_start)) (F_a2_number_0 : Fld Z h0 a2 "com/example/braid/braid/BodyLines" "number" "I" (.int q_a2_number)), K5 x1 q_a1 q_a2_end q_a2_start q_a2_number = some r → Runs p e below s (P4 Z hE a1 a2 q_a1 q_a2_end₀ q_a2_start₀ q_a2_number₀ n0 r) 0 0 T0 (mkF m 5 #[.val (.ref a2), .val (.int x1)] [])) (X0 : Stand p l e ({ frames := 1, cells := 0, slots := 0, locals := 13 } : Room) s m args below meth c T0 locs cells slots) (e0 : T0.heap = h0) (N0 : Fr n0 locs) (hk : cells ≤ 0) (hn : slots ≤ 0) (Z1 : n0 ≤ h0.size) (KE : Keep hE h0 [a2]) (o0 : n0 ≤ a1) (o1 : @LT.lt Nat instLTNat a1 a2) (q_a2_end : Int32) (q_a2_start : Int32) (q_a2_number : Int32) (x1 : Int32) (A_a1_0 : AI Z h0 a1 .byte q_a1) (E_a2_0 : Exa Z h0 a2 "com/example/braid/braid/BodyLines") (F_a2_end_0 : Fld Z h0 a2 "com/example/braid/braid/BodyLines" "end" "I" (.int q_a2_end)) (F_a2_body_0 : Fld Z h0 a2 "com/example/braid/braid/BodyLines" "body" "[B" (.ref a1)) (F_a2_start_0 : Fld Z h0 a2 "com/example/braid/braid/BodyLines" "start" "I" (.int q_a2_start)) (F_a2_number_0 : Fld Z h0 a2 "com/example/braid/braid/BodyLines" "number" "I" (.int q_a2_number)) (hr : s4_5 K5 fuel x1 q_a1 q_a2_end q_a2_start q_a2_number = some r) :
    Runs p e below s (P4 Z hE a1 a2 q_a1 q_a2_end₀ q_a2_start₀ q_a2_number₀ n0 r) 0 0 T0 (mkF m 5 #[.val (.ref a2), .val (.int x1)] []) := by
  unfold s4_5 at hr
  have ⟨hx, hZ, hw, hby, hml, hown, hret, hlk, hnm⟩ := C
  refine Runs.via (T' := T0) (g' := (mkF m 6 #[.val (.ref a2), .val (.int x1)] [(.int x1)])) (fun t k => ?_) ?_
  · show Steps p.tables e below (T0.setTop (mkF m 5 #[.val (.ref a2), .val (.int x1)] [])) t
    refine XS.iloadN X0.here hx rfl (hb hby d4_5) rfl ?_
    exact k
  refine iteE hr (fun hc1 hr => ?_) (fun hc1 hr => ?_)
  · refine Runs.via (T' := T0) (g' := (mkF m 24 #[.val (.ref a2), .val (.int x1)] [])) (fun t k => ?_) ?_
    · show Steps p.tables e below (T0.setTop (mkF m 6 #[.val (.ref a2), .val (.int x1)] [(.int x1)])) t
      exact XS.ifYes X0.here hx rfl (pc0 := 6) (pc' := 24) rfl (hb hby d4_6) rfl ((if0 _ _).trans (teq hc1).1) (by decide) (by decide) k
    refine Runs.via (T' := T0) (g' := (mkF m 25 #[.val (.ref a2), .val (.int x1)] [(.int x1)])) (fun t k => ?_) ?_
    · show Steps p.tables e below (T0.setTop (mkF m 24 #[.val (.ref a2), .val (.int x1)] [])) t
      refine XS.iloadN X0.here hx rfl (hb hby d4_24) rfl ?_
      exact k
    obtain rfl := Option.some.inj hr
    exact own_retN X0 hx hlk (t := .boolean) hret (by simp) (hb hby d4_25) (by show cells ≤ 0; omega) (by show slots ≤ 0; omega) ⟨rfl, N0, (by rw [e0]; exact KE), (by rw [e0]; exact E_a2_0), (by rw [e0]; exact F_a2_end_0), (by rw [e0]; exact F_a2_body_0), (by rw [e0]; exact F_a2_start_0), (by rw [e0]; exact F_a2_number_0)⟩
  · refine Runs.via (T' := T0) (g' := (mkF m 9 #[.val (.ref a2), .val (.int x1)] [])) (fun t k => ?_) ?_
    · show Steps p.tables e below (T0.setTop (mkF m 6 #[.val (.ref a2), .val (.int x1)] [(.int x1)])) t
      exact XS.ifNo X0.here hx rfl (hb hby d4_6) rfl ((if0 _ _).trans (feq hc1).1) k
    refine Runs.via (T' := T0) (g' := (mkF m 10 #[.val (.ref a2), .val (.int x1)] [(.ref a2)])) (fun t k => ?_) ?_
    · show Steps p.tables e below (T0.setTop (mkF m 9 #[.val (.ref a2), .val (.int x1)] [])) t
      refine XS.aloadN X0.here hx rfl (hb hby d4_9) rfl rfl ?_
      exact k
    refine bindE hr ?_; intro r2 hr2m hr
    obtain ⟨cq2, q2, q2'⟩ := E_a2_0.cell
    obtain ⟨_, _, ⟨T2, L2, k2, n2⟩, -, X2, ⟨Lc2, hQ2, l2, y2, z2⟩, st2⟩ := X0.privateBack hx (y := (⟨"com/example/braid/braid/BodyLines", "isBlank", "()Z"⟩ : MethodName)) hown (mvT hZ (hw _ (List.mem_of_getElem? (i := 33) rfl))) (mvT hZ (hw _ (List.mem_of_getElem? (i := 34) rfl))) (own_privSel (mvT hZ (hw _ (List.mem_of_getElem? (i := 7) rfl))) (mvP hZ (hw _ (List.mem_of_getElem? (i := 35) rfl))) (mvT hZ (hw _ (List.mem_of_getElem? (i := 34) rfl))) (by decide)) (Cond.privateMethod_at (mvP hZ (hw _ (List.mem_of_getElem? (i := 35) rfl)) (args := #[]))) (mvT hZ (hw _ (List.mem_of_getElem? (i := 36) rfl))) (by decide) (backOf (W := 0) (rm6 l Z a0 hw [] a1 a2 q_a1 q_a2_end q_a2_start q_a2_number h0 n0 Z1 (by omega) (by omega) A_a1_0 E_a2_0 F_a2_end_0 F_a2_body_0 F_a2_start_0 F_a2_number_0 fuel r2 hr2m) hZ (hw _ (List.mem_of_getElem? (i := 36) rfl)) (hw _ (List.mem_of_getElem? (i := 8) rfl)) (by decide) (by decide)) (g := (mkF m 10 #[.val (.ref a2), .val (.int x1)] [(.ref a2)])) rfl (by rw [hml]; rfl) (Steps.refl _) (a := a2) (by rw [e0]; exact q2) q2' (argsL := []) (rest := []) (lenOf pd_2 rfl) rfl (by show 2 * 0 + _ ≤ _; exact Nat.le_of_eq rfl) (hb hby d4_10) (fun _ _ => ⟨rfl, e0, (by show cells + 0 ≤ 0; omega), (by show slots + 0 ≤ 0; omega)⟩)
    dsimp only [Pt.U, Pt.locs, Pt.cells, Pt.slots] at X2 l2 y2 z2 st2 hQ2
    replace y2 := y2.symm; replace z2 := z2.symm; subst l2 y2 z2
    obtain ⟨rfl, N2q, e2⟩ := hQ2
    have N2 := Fr.app N0 N2q
    refine Runs.via (T' := T2) (g' := (mkF m 13 #[.val (.ref a2), .val (.int x1)] [(.int r2)])) (fun t k => st2.trans k) ?_
    refine iteE hr (fun hc3 hr => ?_) (fun hc3 hr => ?_)
    · refine Runs.via (T' := T2) (g' := (mkF m 24 #[.val (.ref a2), .val (.int x1)] [])) (fun t k => ?_) ?_
      · show Steps p.tables e below (T2.setTop (mkF m 13 #[.val (.ref a2), .val (.int x1)] [(.int r2)])) t
        exact XS.ifYes X2.here hx rfl (pc0 := 13) (pc' := 24) rfl (hb hby d4_13) rfl ((if0 _ _).trans (teq hc3).1) (by decide) (by decide) k
      refine Runs.via (T' := T2) (g' := (mkF m 25 #[.val (.ref a2), .val (.int x1)] [(.int x1)])) (fun t k => ?_) ?_
      · show Steps p.tables e below (T2.setTop (mkF m 24 #[.val (.ref a2), .val (.int x1)] [])) t
        refine XS.iloadN X2.here hx rfl (hb hby d4_24) rfl ?_
        exact k
      obtain rfl := Option.some.inj hr
      exact own_retN X2 hx hlk (t := .boolean) hret (by simp) (hb hby d4_25) (by show (cells + 0) ≤ 0; omega) (by show (slots + 0) ≤ 0; omega) ⟨rfl, N2, (by rw [e2]; exact KE), (by rw [e2]; exact E_a2_0), (by rw [e2]; exact F_a2_end_0), (by rw [e2]; exact F_a2_body_0), (by rw [e2]; exact F_a2_start_0), (by rw [e2]; exact F_a2_number_0)⟩
    · refine Runs.via (T' := T2) (g' := (mkF m 16 #[.val (.ref a2), .val (.int x1)] [])) (fun t k => ?_) ?_
      · show Steps p.tables e below (T2.setTop (mkF m 13 #[.val (.ref a2), .val (.int x1)] [(.int r2)])) t
        exact XS.ifNo X2.here hx rfl (hb hby d4_13) rfl ((if0 _ _).trans (feq hc3).1) k
      refine Runs.via (T' := T2) (g' := (mkF m 17 #[.val (.ref a2), .val (.int x1)] [(.ref a2)])) (fun t k => ?_) ?_
      · show Steps p.tables e below (T2.setTop (mkF m 16 #[.val (.ref a2), .val (.int x1)] [])) t
        refine XS.aloadN X2.here hx rfl (hb hby d4_16) rfl rfl ?_
        exact k
      refine bindE hr ?_; intro r4 hr4m hr
      obtain ⟨cq4, kq4, q4a, q4b, q4c⟩ := isOf hZ e2 E_a2_0
      obtain ⟨_, _, ⟨T4, L4, k4, n4⟩, -, X4, ⟨Lc4, hQ4, l4, y4, z4⟩, st4⟩ := X2.virtualBack hx (y := (⟨"com/example/braid/braid/BodyLines", "next", "()Z"⟩ : MethodName)) (z := (⟨"com/example/braid/braid/BodyLines", "next", "()Z"⟩ : MethodName)) hown (mvT hZ (hw _ (List.mem_of_getElem? (i := 24) rfl))) (mvT hZ (hw _ (List.mem_of_getElem? (i := 25) rfl))) (notFace_of_selects (args := #[]) (mvT hZ (hw _ (List.mem_of_getElem? (i := 27) rfl)))) (mvT hZ (hw _ (List.mem_of_getElem? (i := 27) rfl))) (mvT hZ (hw _ (List.mem_of_getElem? (i := 26) rfl))) (by decide) (backOf (W := 0) (rm5 l Z a0 hw [] a1 a2 q_a1 q_a2_end q_a2_start q_a2_number h0 n0 Z1 (by omega) (by omega) A_a1_0 E_a2_0 F_a2_end_0 F_a2_body_0 F_a2_start_0 F_a2_number_0 fuel r4 hr4m) hZ (hw _ (List.mem_of_getElem? (i := 28) rfl)) (hw _ (List.mem_of_getElem? (i := 8) rfl)) (by decide) (by decide)) q4a q4c (g := (mkF m 17 #[.val (.ref a2), .val (.int x1)] [(.ref a2)])) rfl (by rw [hml]; rfl) (Steps.refl _) (argsL := []) (rest := []) (lenOf pd_2 rfl) rfl (by show 2 * 0 + _ ≤ _; exact Nat.le_of_eq rfl) (hb hby d4_17) (fun _ _ => ⟨rfl, e2, (by show (cells + 0) + 0 ≤ 0; omega), (by show (slots + 0) + 0 ≤ 0; omega)⟩)
      dsimp only [Pt.U, Pt.locs, Pt.cells, Pt.slots] at X4 l4 y4 z4 st4 hQ4
      replace y4 := y4.symm; replace z4 := z4.symm; subst l4 y4 z4
      obtain ⟨h4, e4⟩ : ∃ z, T4.heap = z := ⟨_, rfl⟩
      rw [e4] at hQ4
      obtain ⟨rfl, N4q, K4q, E_a2_4, F_a2_end_4, F_a2_body_4, F_a2_start_4, F_a2_number_4⟩ := hQ4
      have N4 := Fr.app N2 N4q
      have A_a1_4 := A_a1_0.keep K4q (ninS (by omega : @Ne Nat a1 a2) nin0)
      have K4 := KE.trans K4q (allS (Or.inl (List.mem_of_getElem? (i := 0) rfl)) all0)
      have zz4 : n0 ≤ h4.size := Nat.le_trans Z1 K4q.1
      refine Runs.via (T' := T4) (g' := (mkF m 20 #[.val (.ref a2), .val (.int x1)] [(.int r4.1)])) (fun t k => st4.trans k) ?_
      refine Runs.via (T' := T4) (g' := (mkF m 5 #[.val (.ref a2), .val (.int r4.1)] [])) (fun t k => ?_) ?_
      · show Steps p.tables e below (T4.setTop (mkF m 20 #[.val (.ref a2), .val (.int x1)] [(.int r4.1)])) t
        refine XS.istoreN X4.here hx rfl (hb hby d4_20) rfl (l' := #[.val (.ref a2), .val (.int r4.1)]) rfl ?_
        show Steps p.tables e below (T4.setTop (mkF m 21 #[.val (.ref a2), .val (.int r4.1)] [])) t
        refine XS.goto X4.here hx rfl (pc0 := 21) (pc' := 5) rfl (hb hby d4_21) (by decide) (by decide) ?_
        exact k
      exact hK5 X4 e4 N4 (by show ((cells + 0) + 0) ≤ 0; omega) (by show ((slots + 0) + 0) ≤ 0; omega) zz4 K4 (by omega) (by omega) r4.2.1 r4.2.2.1 r4.2.2.2 r4.1 A_a1_4 E_a2_4 F_a2_end_4 F_a2_body_4 F_a2_start_4 F_a2_number_4 hr
set_option maxRecDepth 65536 in
set_option maxHeartbeats 4000000 in
theorem u4_5 {hE : Heap} {a1 : Addr} {a2 : Addr} {q_a1 : List Int32} {q_a2_end₀ : Int32} {q_a2_start₀ : Int32} {q_a2_number₀ : Int32} (fuel : Nat) {r : Int32 × Int32 × Int32 × Int32} (C : Ctx p s m meth c Z a0 "com/example/braid/braid/BodyLines" prog_2_method_3_code 2 (some .boolean) "nextNotBlank") : ∀ n : Nat, ∀ {T0 : State} {locs : List Loc} {cells slots : Nat} {h0 : Heap} (X0 : Stand p l e ({ frames := 1, cells := 0, slots := 0, locals := 13 } : Room) s m args below meth c T0 locs cells slots) (e0 : T0.heap = h0) (N0 : Fr n0 locs) (hk : cells ≤ 0) (hn : slots ≤ 0) (Z1 : n0 ≤ h0.size) (KE : Keep hE h0 [a2]) (o0 : n0 ≤ a1) (o1 : @LT.lt Nat instLTNat a1 a2) (q_a2_end : Int32) (q_a2_start : Int32) (q_a2_number : Int32) (x1 : Int32) (A_a1_0 : AI Z h0 a1 .byte q_a1) (E_a2_0 : Exa Z h0 a2 "com/example/braid/braid/BodyLines") (F_a2_end_0 : Fld Z h0 a2 "com/example/braid/braid/BodyLines" "end" "I" (.int q_a2_end)) (F_a2_body_0 : Fld Z h0 a2 "com/example/braid/braid/BodyLines" "body" "[B" (.ref a1)) (F_a2_start_0 : Fld Z h0 a2 "com/example/braid/braid/BodyLines" "start" "I" (.int q_a2_start)) (F_a2_number_0 : Fld Z h0 a2 "com/example/braid/braid/BodyLines" "number" "I" (.int q_a2_number)), h4_5 fuel n x1 q_a1 q_a2_end q_a2_start q_a2_number = some r → Runs p e below s (P4 Z hE a1 a2 q_a1 q_a2_end₀ q_a2_start₀ q_a2_number₀ n0 r) 0 0 T0 (mkF m 5 #[.val (.ref a2), .val (.int x1)] []) := by
  intro n
  induction n with
  | zero => intros; rename_i hr; exact absurd hr (by simp [h4_5])
  | succ n ih =>
    intro T0 locs cells slots h0 X0 e0 N0 hk hn Z1 KE o0 o1 q_a2_end q_a2_start q_a2_number x1 A_a1_0 E_a2_0 F_a2_end_0 F_a2_body_0 F_a2_start_0 F_a2_number_0 hr
    exact t4_5 fuel C _ ih X0 e0 N0 hk hn Z1 KE o0 o1 q_a2_end q_a2_start q_a2_number x1 A_a1_0 E_a2_0 F_a2_end_0 F_a2_body_0 F_a2_start_0 F_a2_number_0 hr
set_option maxRecDepth 65536 in
set_option maxHeartbeats 4000000 in
theorem b4_5 {hE : Heap} {a1 : Addr} {a2 : Addr} {q_a1 : List Int32} {q_a2_end₀ : Int32} {q_a2_start₀ : Int32} {q_a2_number₀ : Int32} {r : Int32 × Int32 × Int32 × Int32} (C : Ctx p s m meth c Z a0 "com/example/braid/braid/BodyLines" prog_2_method_3_code 2 (some .boolean) "nextNotBlank") (fuel : Nat) (X0 : Stand p l e ({ frames := 1, cells := 0, slots := 0, locals := 13 } : Room) s m args below meth c T0 locs cells slots) (e0 : T0.heap = h0) (N0 : Fr n0 locs) (hk : cells ≤ 0) (hn : slots ≤ 0) (Z1 : n0 ≤ h0.size) (KE : Keep hE h0 [a2]) (o0 : n0 ≤ a1) (o1 : @LT.lt Nat instLTNat a1 a2) (q_a2_end : Int32) (q_a2_start : Int32) (q_a2_number : Int32) (x1 : Int32) (A_a1_0 : AI Z h0 a1 .byte q_a1) (E_a2_0 : Exa Z h0 a2 "com/example/braid/braid/BodyLines") (F_a2_end_0 : Fld Z h0 a2 "com/example/braid/braid/BodyLines" "end" "I" (.int q_a2_end)) (F_a2_body_0 : Fld Z h0 a2 "com/example/braid/braid/BodyLines" "body" "[B" (.ref a1)) (F_a2_start_0 : Fld Z h0 a2 "com/example/braid/braid/BodyLines" "start" "I" (.int q_a2_start)) (F_a2_number_0 : Fld Z h0 a2 "com/example/braid/braid/BodyLines" "number" "I" (.int q_a2_number)) (hr : g4_5 fuel x1 q_a1 q_a2_end q_a2_start q_a2_number = some r) :
    Runs p e below s (P4 Z hE a1 a2 q_a1 q_a2_end₀ q_a2_start₀ q_a2_number₀ n0 r) 0 0 T0 (mkF m 5 #[.val (.ref a2), .val (.int x1)] []) := u4_5 fuel C fuel X0 e0 N0 hk hn Z1 KE o0 o1 q_a2_end q_a2_start q_a2_number x1 A_a1_0 E_a2_0 F_a2_end_0 F_a2_body_0 F_a2_start_0 F_a2_number_0 hr
def g4_0 (fuel : Nat) (q_a1 : List Int32) (q_a2_end : Int32) (q_a2_start : Int32) (q_a2_number : Int32) : Option (Int32 × Int32 × Int32 × Int32) := ((f5 fuel q_a1 q_a2_end q_a2_start q_a2_number).bind fun r1 => (g4_5 fuel r1.1 q_a1 r1.2.1 r1.2.2.1 r1.2.2.2))
set_option maxRecDepth 65536 in
set_option maxHeartbeats 4000000 in
theorem b4_0 {hE : Heap} {a1 : Addr} {a2 : Addr} {q_a1 : List Int32} {q_a2_end₀ : Int32} {q_a2_start₀ : Int32} {q_a2_number₀ : Int32} {r : Int32 × Int32 × Int32 × Int32} (C : Ctx p s m meth c Z a0 "com/example/braid/braid/BodyLines" prog_2_method_3_code 2 (some .boolean) "nextNotBlank") (fuel : Nat) (X0 : Stand p l e ({ frames := 1, cells := 0, slots := 0, locals := 13 } : Room) s m args below meth c T0 locs cells slots) (e0 : T0.heap = h0) (N0 : Fr n0 locs) (hk : cells ≤ 0) (hn : slots ≤ 0) (Z1 : n0 ≤ h0.size) (KE : Keep hE h0 [a2]) (o0 : n0 ≤ a1) (o1 : @LT.lt Nat instLTNat a1 a2) (q_a2_end : Int32) (q_a2_start : Int32) (q_a2_number : Int32) (A_a1_0 : AI Z h0 a1 .byte q_a1) (E_a2_0 : Exa Z h0 a2 "com/example/braid/braid/BodyLines") (F_a2_end_0 : Fld Z h0 a2 "com/example/braid/braid/BodyLines" "end" "I" (.int q_a2_end)) (F_a2_body_0 : Fld Z h0 a2 "com/example/braid/braid/BodyLines" "body" "[B" (.ref a1)) (F_a2_start_0 : Fld Z h0 a2 "com/example/braid/braid/BodyLines" "start" "I" (.int q_a2_start)) (F_a2_number_0 : Fld Z h0 a2 "com/example/braid/braid/BodyLines" "number" "I" (.int q_a2_number)) (hr : g4_0 fuel q_a1 q_a2_end q_a2_start q_a2_number = some r) :
    Runs p e below s (P4 Z hE a1 a2 q_a1 q_a2_end₀ q_a2_start₀ q_a2_number₀ n0 r) 0 0 T0 (mkF m 0 #[.val (.ref a2), .unset] []) := by
  unfold g4_0 at hr
  have ⟨hx, hZ, hw, hby, hml, hown, hret, hlk, hnm⟩ := C
  refine Runs.via (T' := T0) (g' := (mkF m 1 #[.val (.ref a2), .unset] [(.ref a2)])) (fun t k => ?_) ?_
  · show Steps p.tables e below (T0.setTop (mkF m 0 #[.val (.ref a2), .unset] [])) t
    refine XS.aloadN X0.here hx rfl (hb hby d4_0) rfl rfl ?_
    exact k
  refine bindE hr ?_; intro r1 hr1m hr
  obtain ⟨cq1, kq1, q1a, q1b, q1c⟩ := isOf hZ e0 E_a2_0
  obtain ⟨_, _, ⟨T1, L1, k1, n1⟩, -, X1, ⟨Lc1, hQ1, l1, y1, z1⟩, st1⟩ := X0.virtualBack hx (y := (⟨"com/example/braid/braid/BodyLines", "next", "()Z"⟩ : MethodName)) (z := (⟨"com/example/braid/braid/BodyLines", "next", "()Z"⟩ : MethodName)) hown (mvT hZ (hw _ (List.mem_of_getElem? (i := 24) rfl))) (mvT hZ (hw _ (List.mem_of_getElem? (i := 25) rfl))) (notFace_of_selects (args := #[]) (mvT hZ (hw _ (List.mem_of_getElem? (i := 27) rfl)))) (mvT hZ (hw _ (List.mem_of_getElem? (i := 27) rfl))) (mvT hZ (hw _ (List.mem_of_getElem? (i := 26) rfl))) (by decide) (backOf (W := 0) (rm5 l Z a0 hw [] a1 a2 q_a1 q_a2_end q_a2_start q_a2_number h0 n0 Z1 (by omega) (by omega) A_a1_0 E_a2_0 F_a2_end_0 F_a2_body_0 F_a2_start_0 F_a2_number_0 fuel r1 hr1m) hZ (hw _ (List.mem_of_getElem? (i := 28) rfl)) (hw _ (List.mem_of_getElem? (i := 8) rfl)) (by decide) (by decide)) q1a q1c (g := (mkF m 1 #[.val (.ref a2), .unset] [(.ref a2)])) rfl (by rw [hml]; rfl) (Steps.refl _) (argsL := []) (rest := []) (lenOf pd_2 rfl) rfl (by show 2 * 0 + _ ≤ _; exact Nat.le_of_eq rfl) (hb hby d4_1) (fun _ _ => ⟨rfl, e0, (by show cells + 0 ≤ 0; omega), (by show slots + 0 ≤ 0; omega)⟩)
  dsimp only [Pt.U, Pt.locs, Pt.cells, Pt.slots] at X1 l1 y1 z1 st1 hQ1
  replace y1 := y1.symm; replace z1 := z1.symm; subst l1 y1 z1
  obtain ⟨h1, e1⟩ : ∃ z, T1.heap = z := ⟨_, rfl⟩
  rw [e1] at hQ1
  obtain ⟨rfl, N1q, K1q, E_a2_1, F_a2_end_1, F_a2_body_1, F_a2_start_1, F_a2_number_1⟩ := hQ1
  have N1 := Fr.app N0 N1q
  have A_a1_1 := A_a1_0.keep K1q (ninS (by omega : @Ne Nat a1 a2) nin0)
  have K1 := KE.trans K1q (allS (Or.inl (List.mem_of_getElem? (i := 0) rfl)) all0)
  have zz1 : n0 ≤ h1.size := Nat.le_trans Z1 K1q.1
  refine Runs.via (T' := T1) (g' := (mkF m 4 #[.val (.ref a2), .unset] [(.int r1.1)])) (fun t k => st1.trans k) ?_
  refine Runs.via (T' := T1) (g' := (mkF m 5 #[.val (.ref a2), .val (.int r1.1)] [])) (fun t k => ?_) ?_
  · show Steps p.tables e below (T1.setTop (mkF m 4 #[.val (.ref a2), .unset] [(.int r1.1)])) t
    refine XS.istoreN X1.here hx rfl (hb hby d4_4) rfl (l' := #[.val (.ref a2), .val (.int r1.1)]) rfl ?_
    exact k
  exact b4_5 C fuel X1 e1 N1 (by show (cells + 0) ≤ 0; omega) (by show (slots + 0) ≤ 0; omega) zz1 K1 (by omega) (by omega) r1.2.1 r1.2.2.1 r1.2.2.2 r1.1 A_a1_1 E_a2_1 F_a2_end_1 F_a2_body_1 F_a2_start_1 F_a2_number_1 hr
def f4 (fuel : Nat) (q_a1 : List Int32) (q_a2_end : Int32) (q_a2_start : Int32) (q_a2_number : Int32) : Option (Int32 × Int32 × Int32 × Int32) := g4_0 fuel q_a1 q_a2_end q_a2_start q_a2_number
theorem pn_4 : plainName "com/example/braid/braid/BodyLines" = true := by first | (simp [plainName, overriddenIn]; done) | decide +kernel
theorem ef_4 (m : MethodId) (a1 : Addr) (a2 : Addr) : entryFrame m #[(.ref a2)] 2 = mkF m 0 #[.val (.ref a2), .unset] [] := by first | (simp [entryFrame, mkF, argsToLocals, Value.category]; done) | rfl
set_option maxRecDepth 65536 in
set_option maxHeartbeats 4000000 in
theorem rm4 (l : Launch) (Z : State) (a0 : Array Value) (hw : ∀ d ∈ tables_1, d.before a0 Z = true) (ws : List Jvm.Cond) (a1 : Addr) (a2 : Addr) (q_a1 : List Int32) (q_a2_end : Int32) (q_a2_start : Int32) (q_a2_number : Int32) (hE : Heap) (n0 : Nat) (Z0 : n0 ≤ hE.size) (o0 : n0 ≤ a1) (o1 : @LT.lt Nat instLTNat a1 a2) (A_a1_0 : AI Z hE a1 .byte q_a1) (E_a2_0 : Exa Z hE a2 "com/example/braid/braid/BodyLines") (F_a2_end_0 : Fld Z hE a2 "com/example/braid/braid/BodyLines" "end" "I" (.int q_a2_end)) (F_a2_body_0 : Fld Z hE a2 "com/example/braid/braid/BodyLines" "body" "[B" (.ref a1)) (F_a2_start_0 : Fld Z hE a2 "com/example/braid/braid/BodyLines" "start" "I" (.int q_a2_start)) (F_a2_number_0 : Fld Z hE a2 "com/example/braid/braid/BodyLines" "number" "I" (.int q_a2_number)) (fuel : Nat) (r : Int32 × Int32 × Int32 × Int32) (hr : f4 fuel q_a1 q_a2_end q_a2_start q_a2_number = some r) :
    MetFree l (⟨"com/example/braid/braid/BodyLines", "nextNotBlank", "()Z"⟩ : MethodName) (head1 (Jvm.Cond.code (⟨"com/example/braid/braid/BodyLines", "nextNotBlank", "()Z"⟩ : MethodName) prog_2_method_3_code 2 (some .boolean) :: ws) ({ frames := 1, cells := 0, slots := 0, locals := 13 } : Room)) (fun a U => a = #[(.ref a2)] ∧ Z.Warmed39 U.vm ∧ U.heap = hE) (fun _ _ _ _ _ => True) (fun _ U o U' => ∃ v L, o = .returned v ∧ (P4 Z hE a1 a2 q_a1 q_a2_end q_a2_start q_a2_number n0 r v U'.heap L) ∧ FrameEnd U o U' L ({ frames := 1, cells := 0, slots := 0, locals := 13 } : Room).cells ({ frames := 1, cells := 0, slots := 0, locals := 13 } : Room).slots) := by
  refine MetFree.of_bodySF (plainFor_of_name pn_4) hisR ?_
  intro p e s m args below meth c s₁ Bd hml0 hP hK
  obtain ⟨rfl, hZ, hh⟩ := hP
  have X0 : Stand p l e ({ frames := 1, cells := 0, slots := 0, locals := 13 } : Room) s m #[(.ref a2)] below meth c s₁ [] 0 0 := Stand.of_body Bd
  have e0 : s₁.heap = hE := by rw [← hh, Bd.state]; rfl
  have C : Ctx p s m meth c Z a0 "com/example/braid/braid/BodyLines" prog_2_method_3_code 2 (some .boolean) "nextNotBlank" := ⟨Bd.exec, hZ, hw, Bd.bytes, hml0, findClass_of_methodNamed Bd.named, Bd.returns, BodyLoose.notSynchronized Bd, (name_of_methodNamed Bd.named Bd.method).1⟩
  refine Runs.via (fun t k => castTop (ef_4 m a1 a2) k) (b4_0 C fuel X0 e0 (Fr.nil n0) (by show 0 ≤ 0; omega) (by show 0 ≤ 0; omega) Z0 (Keep.refl hE [a2]) (by omega) (by omega) q_a2_end q_a2_start q_a2_number A_a1_0 E_a2_0 F_a2_end_0 F_a2_body_0 F_a2_start_0 F_a2_number_0 hr)
theorem d9_0 : decode method_3_code 0 = .ok (.iload_n 3, 1) := by decide +kernel
theorem d9_1 : decode method_3_code 1 = .ok (.iload_n 2, 1) := by decide +kernel
theorem d9_2 : decode method_3_code 2 = .ok (.if_icmp .lt 44, 3) := by decide +kernel
theorem d9_5 : decode method_3_code 5 = .ok (.iload_n 3, 1) := by decide +kernel
theorem d9_6 : decode method_3_code 6 = .ok (.iload_n 1, 1) := by decide +kernel
theorem d9_7 : decode method_3_code 7 = .ok (.if_icmp .ge 39, 3) := by decide +kernel
theorem d9_10 : decode method_3_code 10 = .ok (.aload_n 0, 1) := by decide +kernel
theorem d9_11 : decode method_3_code 11 = .ok (.iload_n 3, 1) := by decide +kernel
theorem d9_12 : decode method_3_code 12 = .ok (.baload, 1) := by decide +kernel
theorem d9_13 : decode method_3_code 13 = .ok (.bipush 10, 2) := by decide +kernel
theorem d9_15 : decode method_3_code 15 = .ok (.if_icmp .eq 31, 3) := by decide +kernel
theorem d9_18 : decode method_3_code 18 = .ok (.aload_n 0, 1) := by decide +kernel
theorem d9_19 : decode method_3_code 19 = .ok (.iload_n 3, 1) := by decide +kernel
theorem d9_20 : decode method_3_code 20 = .ok (.baload, 1) := by decide +kernel
theorem d9_21 : decode method_3_code 21 = .ok (.bipush 32, 2) := by decide +kernel
theorem d9_23 : decode method_3_code 23 = .ok (.if_icmp .eq 23, 3) := by decide +kernel
theorem d9_26 : decode method_3_code 26 = .ok (.aload_n 0, 1) := by decide +kernel
theorem d9_27 : decode method_3_code 27 = .ok (.iload_n 3, 1) := by decide +kernel
theorem d9_28 : decode method_3_code 28 = .ok (.baload, 1) := by decide +kernel
theorem d9_29 : decode method_3_code 29 = .ok (.bipush 9, 2) := by decide +kernel
theorem d9_31 : decode method_3_code 31 = .ok (.if_icmp .eq 15, 3) := by decide +kernel
theorem d9_34 : decode method_3_code 34 = .ok (.aload_n 0, 1) := by decide +kernel
theorem d9_35 : decode method_3_code 35 = .ok (.iload_n 3, 1) := by decide +kernel
theorem d9_36 : decode method_3_code 36 = .ok (.baload, 1) := by decide +kernel
theorem d9_37 : decode method_3_code 37 = .ok (.bipush 13, 2) := by decide +kernel
theorem d9_39 : decode method_3_code 39 = .ok (.if_icmp .eq 7, 3) := by decide +kernel
theorem d9_42 : decode method_3_code 42 = .ok (.iconst 1, 1) := by decide +kernel
theorem d9_43 : decode method_3_code 43 = .ok (.goto 4, 3) := by decide +kernel
theorem d9_46 : decode method_3_code 46 = .ok (.iconst 0, 1) := by decide +kernel
theorem d9_47 : decode method_3_code 47 = .ok (.ireturn, 1) := by decide +kernel
def P9 (Z : State) (hE : Heap) (a1 : Addr) (q_a1 : List Int32) (n0 : Nat) (r : Int32) (v : Option Value) (h : Heap) (L : List Loc) : Prop := v = some (.int r) ∧ Fr n0 L ∧ h = hE
def g9_0 (x1 : Int32) (x2 : Int32) (x3 : Int32) (q_a1 : List Int32) : Option (Int32) := (if x3 < x2 then some (0 : Int32) else (if x3 < x1 then ((rdO q_a1 x3).bind fun v3 => (if v3 = (10 : Int32) then some (0 : Int32) else ((rdO q_a1 x3).bind fun v5 => (if v5 = (32 : Int32) then some (0 : Int32) else ((rdO q_a1 x3).bind fun v7 => (if v7 = (9 : Int32) then some (0 : Int32) else ((rdO q_a1 x3).bind fun v9 => (if v9 = (13 : Int32) then some (0 : Int32) else some (1 : Int32))))))))) else some (0 : Int32)))
set_option maxRecDepth 65536 in
set_option maxHeartbeats 4000000 in
theorem b9_0 {hE : Heap} {a1 : Addr} {q_a1 : List Int32} {r : Int32} (C : Ctx p s m meth c Z a0 "com/example/braid/braid/BodyLinesNextNotBlankPinLaw" method_3_code 4 (some .boolean) "cont") (X0 : Stand p l e ({ frames := 0, cells := 0, slots := 0, locals := 0 } : Room) s m args below meth c T0 locs cells slots) (e0 : T0.heap = hE) (N0 : Fr n0 locs) (hk : cells ≤ 0) (hn : slots ≤ 0) (Z1 : n0 ≤ hE.size) (o0 : n0 ≤ a1) (x1 : Int32) (x2 : Int32) (x3 : Int32) (A_a1_0 : AI Z hE a1 .byte q_a1) (hr : g9_0 x1 x2 x3 q_a1 = some r) :
    Runs p e below s (P9 Z hE a1 q_a1 n0 r) 0 0 T0 (mkF m 0 #[.val (.ref a1), .val (.int x1), .val (.int x2), .val (.int x3)] []) := by
  unfold g9_0 at hr
  have ⟨hx, hZ, hw, hby, hml, hown, hret, hlk, hnm⟩ := C
  refine Runs.via (T' := T0) (g' := (mkF m 2 #[.val (.ref a1), .val (.int x1), .val (.int x2), .val (.int x3)] [(.int x2), (.int x3)])) (fun t k => ?_) ?_
  · show Steps p.tables e below (T0.setTop (mkF m 0 #[.val (.ref a1), .val (.int x1), .val (.int x2), .val (.int x3)] [])) t
    refine XS.iloadN X0.here hx rfl (hb hby d9_0) rfl ?_
    show Steps p.tables e below (T0.setTop (mkF m 1 #[.val (.ref a1), .val (.int x1), .val (.int x2), .val (.int x3)] [(.int x3)])) t
    refine XS.iloadN X0.here hx rfl (hb hby d9_1) rfl ?_
    exact k
  refine iteE hr (fun hc1 hr => ?_) (fun hc1 hr => ?_)
  · refine Runs.via (T' := T0) (g' := (mkF m 46 #[.val (.ref a1), .val (.int x1), .val (.int x2), .val (.int x3)] [])) (fun t k => ?_) ?_
    · show Steps p.tables e below (T0.setTop (mkF m 2 #[.val (.ref a1), .val (.int x1), .val (.int x2), .val (.int x3)] [(.int x2), (.int x3)])) t
      exact XS.icmpYes X0.here hx rfl (pc0 := 2) (pc' := 46) rfl (hb hby d9_2) rfl (tlt hc1).1 (by decide) (by decide) k
    refine Runs.via (T' := T0) (g' := (mkF m 47 #[.val (.ref a1), .val (.int x1), .val (.int x2), .val (.int x3)] [(.int (0 : Int32))])) (fun t k => ?_) ?_
    · show Steps p.tables e below (T0.setTop (mkF m 46 #[.val (.ref a1), .val (.int x1), .val (.int x2), .val (.int x3)] [])) t
      refine XS.iconst X0.here hx rfl (hb hby d9_46) ?_
      exact k
    obtain rfl := Option.some.inj hr
    exact own_retN X0 hx hlk (t := .boolean) hret (by simp) (hb hby d9_47) (by show cells ≤ 0; omega) (by show slots ≤ 0; omega) ⟨rfl, N0, e0⟩
  · refine Runs.via (T' := T0) (g' := (mkF m 5 #[.val (.ref a1), .val (.int x1), .val (.int x2), .val (.int x3)] [])) (fun t k => ?_) ?_
    · show Steps p.tables e below (T0.setTop (mkF m 2 #[.val (.ref a1), .val (.int x1), .val (.int x2), .val (.int x3)] [(.int x2), (.int x3)])) t
      exact XS.icmpNo X0.here hx rfl (hb hby d9_2) rfl (flt hc1).1 k
    refine Runs.via (T' := T0) (g' := (mkF m 7 #[.val (.ref a1), .val (.int x1), .val (.int x2), .val (.int x3)] [(.int x1), (.int x3)])) (fun t k => ?_) ?_
    · show Steps p.tables e below (T0.setTop (mkF m 5 #[.val (.ref a1), .val (.int x1), .val (.int x2), .val (.int x3)] [])) t
      refine XS.iloadN X0.here hx rfl (hb hby d9_5) rfl ?_
      show Steps p.tables e below (T0.setTop (mkF m 6 #[.val (.ref a1), .val (.int x1), .val (.int x2), .val (.int x3)] [(.int x3)])) t
      refine XS.iloadN X0.here hx rfl (hb hby d9_6) rfl ?_
      exact k
    refine iteE hr (fun hc2 hr => ?_) (fun hc2 hr => ?_)
    · refine Runs.via (T' := T0) (g' := (mkF m 10 #[.val (.ref a1), .val (.int x1), .val (.int x2), .val (.int x3)] [])) (fun t k => ?_) ?_
      · show Steps p.tables e below (T0.setTop (mkF m 7 #[.val (.ref a1), .val (.int x1), .val (.int x2), .val (.int x3)] [(.int x1), (.int x3)])) t
        exact XS.icmpNo X0.here hx rfl (hb hby d9_7) rfl (tlt hc2).2.1 k
      refine Runs.via (T' := T0) (g' := (mkF m 12 #[.val (.ref a1), .val (.int x1), .val (.int x2), .val (.int x3)] [(.int x3), (.ref a1)])) (fun t k => ?_) ?_
      · show Steps p.tables e below (T0.setTop (mkF m 10 #[.val (.ref a1), .val (.int x1), .val (.int x2), .val (.int x3)] [])) t
        refine XS.aloadN X0.here hx rfl (hb hby d9_10) rfl rfl ?_
        show Steps p.tables e below (T0.setTop (mkF m 11 #[.val (.ref a1), .val (.int x1), .val (.int x2), .val (.int x3)] [(.ref a1)])) t
        refine XS.iloadN X0.here hx rfl (hb hby d9_11) rfl ?_
        exact k
      refine bindE hr ?_; intro v3 hv3 hr
      refine Runs.via (T' := T0) (g' := (mkF m 13 #[.val (.ref a1), .val (.int x1), .val (.int x2), .val (.int x3)] [(.int v3)])) (fun t k => ldB X0 hx hZ e0 A_a1_0 hv3 (g := (mkF m 12 #[.val (.ref a1), .val (.int x1), .val (.int x2), .val (.int x3)] [(.int x3), (.ref a1)])) rfl rfl (hb hby d9_12) _ k) ?_
      refine Runs.via (T' := T0) (g' := (mkF m 15 #[.val (.ref a1), .val (.int x1), .val (.int x2), .val (.int x3)] [(.int (10 : Int32)), (.int v3)])) (fun t k => ?_) ?_
      · show Steps p.tables e below (T0.setTop (mkF m 13 #[.val (.ref a1), .val (.int x1), .val (.int x2), .val (.int x3)] [(.int v3)])) t
        refine XS.bipush X0.here hx rfl (hb hby d9_13) ?_
        exact k
      refine iteE hr (fun hc4 hr => ?_) (fun hc4 hr => ?_)
      · refine Runs.via (T' := T0) (g' := (mkF m 46 #[.val (.ref a1), .val (.int x1), .val (.int x2), .val (.int x3)] [])) (fun t k => ?_) ?_
        · show Steps p.tables e below (T0.setTop (mkF m 15 #[.val (.ref a1), .val (.int x1), .val (.int x2), .val (.int x3)] [(.int (10 : Int32)), (.int v3)])) t
          exact XS.icmpYes X0.here hx rfl (pc0 := 15) (pc' := 46) rfl (hb hby d9_15) rfl (teq hc4).1 (by decide) (by decide) k
        refine Runs.via (T' := T0) (g' := (mkF m 47 #[.val (.ref a1), .val (.int x1), .val (.int x2), .val (.int x3)] [(.int (0 : Int32))])) (fun t k => ?_) ?_
        · show Steps p.tables e below (T0.setTop (mkF m 46 #[.val (.ref a1), .val (.int x1), .val (.int x2), .val (.int x3)] [])) t
          refine XS.iconst X0.here hx rfl (hb hby d9_46) ?_
          exact k
        obtain rfl := Option.some.inj hr
        exact own_retN X0 hx hlk (t := .boolean) hret (by simp) (hb hby d9_47) (by show cells ≤ 0; omega) (by show slots ≤ 0; omega) ⟨rfl, N0, e0⟩
      · refine Runs.via (T' := T0) (g' := (mkF m 18 #[.val (.ref a1), .val (.int x1), .val (.int x2), .val (.int x3)] [])) (fun t k => ?_) ?_
        · show Steps p.tables e below (T0.setTop (mkF m 15 #[.val (.ref a1), .val (.int x1), .val (.int x2), .val (.int x3)] [(.int (10 : Int32)), (.int v3)])) t
          exact XS.icmpNo X0.here hx rfl (hb hby d9_15) rfl (feq hc4).1 k
        refine Runs.via (T' := T0) (g' := (mkF m 20 #[.val (.ref a1), .val (.int x1), .val (.int x2), .val (.int x3)] [(.int x3), (.ref a1)])) (fun t k => ?_) ?_
        · show Steps p.tables e below (T0.setTop (mkF m 18 #[.val (.ref a1), .val (.int x1), .val (.int x2), .val (.int x3)] [])) t
          refine XS.aloadN X0.here hx rfl (hb hby d9_18) rfl rfl ?_
          show Steps p.tables e below (T0.setTop (mkF m 19 #[.val (.ref a1), .val (.int x1), .val (.int x2), .val (.int x3)] [(.ref a1)])) t
          refine XS.iloadN X0.here hx rfl (hb hby d9_19) rfl ?_
          exact k
        refine bindE hr ?_; intro v5 hv5 hr
        refine Runs.via (T' := T0) (g' := (mkF m 21 #[.val (.ref a1), .val (.int x1), .val (.int x2), .val (.int x3)] [(.int v5)])) (fun t k => ldB X0 hx hZ e0 A_a1_0 hv5 (g := (mkF m 20 #[.val (.ref a1), .val (.int x1), .val (.int x2), .val (.int x3)] [(.int x3), (.ref a1)])) rfl rfl (hb hby d9_20) _ k) ?_
        refine Runs.via (T' := T0) (g' := (mkF m 23 #[.val (.ref a1), .val (.int x1), .val (.int x2), .val (.int x3)] [(.int (32 : Int32)), (.int v5)])) (fun t k => ?_) ?_
        · show Steps p.tables e below (T0.setTop (mkF m 21 #[.val (.ref a1), .val (.int x1), .val (.int x2), .val (.int x3)] [(.int v5)])) t
          refine XS.bipush X0.here hx rfl (hb hby d9_21) ?_
          exact k
        refine iteE hr (fun hc6 hr => ?_) (fun hc6 hr => ?_)
        · refine Runs.via (T' := T0) (g' := (mkF m 46 #[.val (.ref a1), .val (.int x1), .val (.int x2), .val (.int x3)] [])) (fun t k => ?_) ?_
          · show Steps p.tables e below (T0.setTop (mkF m 23 #[.val (.ref a1), .val (.int x1), .val (.int x2), .val (.int x3)] [(.int (32 : Int32)), (.int v5)])) t
            exact XS.icmpYes X0.here hx rfl (pc0 := 23) (pc' := 46) rfl (hb hby d9_23) rfl (teq hc6).1 (by decide) (by decide) k
          refine Runs.via (T' := T0) (g' := (mkF m 47 #[.val (.ref a1), .val (.int x1), .val (.int x2), .val (.int x3)] [(.int (0 : Int32))])) (fun t k => ?_) ?_
          · show Steps p.tables e below (T0.setTop (mkF m 46 #[.val (.ref a1), .val (.int x1), .val (.int x2), .val (.int x3)] [])) t
            refine XS.iconst X0.here hx rfl (hb hby d9_46) ?_
            exact k
          obtain rfl := Option.some.inj hr
          exact own_retN X0 hx hlk (t := .boolean) hret (by simp) (hb hby d9_47) (by show cells ≤ 0; omega) (by show slots ≤ 0; omega) ⟨rfl, N0, e0⟩
        · refine Runs.via (T' := T0) (g' := (mkF m 26 #[.val (.ref a1), .val (.int x1), .val (.int x2), .val (.int x3)] [])) (fun t k => ?_) ?_
          · show Steps p.tables e below (T0.setTop (mkF m 23 #[.val (.ref a1), .val (.int x1), .val (.int x2), .val (.int x3)] [(.int (32 : Int32)), (.int v5)])) t
            exact XS.icmpNo X0.here hx rfl (hb hby d9_23) rfl (feq hc6).1 k
          refine Runs.via (T' := T0) (g' := (mkF m 28 #[.val (.ref a1), .val (.int x1), .val (.int x2), .val (.int x3)] [(.int x3), (.ref a1)])) (fun t k => ?_) ?_
          · show Steps p.tables e below (T0.setTop (mkF m 26 #[.val (.ref a1), .val (.int x1), .val (.int x2), .val (.int x3)] [])) t
            refine XS.aloadN X0.here hx rfl (hb hby d9_26) rfl rfl ?_
            show Steps p.tables e below (T0.setTop (mkF m 27 #[.val (.ref a1), .val (.int x1), .val (.int x2), .val (.int x3)] [(.ref a1)])) t
            refine XS.iloadN X0.here hx rfl (hb hby d9_27) rfl ?_
            exact k
          refine bindE hr ?_; intro v7 hv7 hr
          refine Runs.via (T' := T0) (g' := (mkF m 29 #[.val (.ref a1), .val (.int x1), .val (.int x2), .val (.int x3)] [(.int v7)])) (fun t k => ldB X0 hx hZ e0 A_a1_0 hv7 (g := (mkF m 28 #[.val (.ref a1), .val (.int x1), .val (.int x2), .val (.int x3)] [(.int x3), (.ref a1)])) rfl rfl (hb hby d9_28) _ k) ?_
          refine Runs.via (T' := T0) (g' := (mkF m 31 #[.val (.ref a1), .val (.int x1), .val (.int x2), .val (.int x3)] [(.int (9 : Int32)), (.int v7)])) (fun t k => ?_) ?_
          · show Steps p.tables e below (T0.setTop (mkF m 29 #[.val (.ref a1), .val (.int x1), .val (.int x2), .val (.int x3)] [(.int v7)])) t
            refine XS.bipush X0.here hx rfl (hb hby d9_29) ?_
            exact k
          refine iteE hr (fun hc8 hr => ?_) (fun hc8 hr => ?_)
          · refine Runs.via (T' := T0) (g' := (mkF m 46 #[.val (.ref a1), .val (.int x1), .val (.int x2), .val (.int x3)] [])) (fun t k => ?_) ?_
            · show Steps p.tables e below (T0.setTop (mkF m 31 #[.val (.ref a1), .val (.int x1), .val (.int x2), .val (.int x3)] [(.int (9 : Int32)), (.int v7)])) t
              exact XS.icmpYes X0.here hx rfl (pc0 := 31) (pc' := 46) rfl (hb hby d9_31) rfl (teq hc8).1 (by decide) (by decide) k
            refine Runs.via (T' := T0) (g' := (mkF m 47 #[.val (.ref a1), .val (.int x1), .val (.int x2), .val (.int x3)] [(.int (0 : Int32))])) (fun t k => ?_) ?_
            · show Steps p.tables e below (T0.setTop (mkF m 46 #[.val (.ref a1), .val (.int x1), .val (.int x2), .val (.int x3)] [])) t
              refine XS.iconst X0.here hx rfl (hb hby d9_46) ?_
              exact k
            obtain rfl := Option.some.inj hr
            exact own_retN X0 hx hlk (t := .boolean) hret (by simp) (hb hby d9_47) (by show cells ≤ 0; omega) (by show slots ≤ 0; omega) ⟨rfl, N0, e0⟩
          · refine Runs.via (T' := T0) (g' := (mkF m 34 #[.val (.ref a1), .val (.int x1), .val (.int x2), .val (.int x3)] [])) (fun t k => ?_) ?_
            · show Steps p.tables e below (T0.setTop (mkF m 31 #[.val (.ref a1), .val (.int x1), .val (.int x2), .val (.int x3)] [(.int (9 : Int32)), (.int v7)])) t
              exact XS.icmpNo X0.here hx rfl (hb hby d9_31) rfl (feq hc8).1 k
            refine Runs.via (T' := T0) (g' := (mkF m 36 #[.val (.ref a1), .val (.int x1), .val (.int x2), .val (.int x3)] [(.int x3), (.ref a1)])) (fun t k => ?_) ?_
            · show Steps p.tables e below (T0.setTop (mkF m 34 #[.val (.ref a1), .val (.int x1), .val (.int x2), .val (.int x3)] [])) t
              refine XS.aloadN X0.here hx rfl (hb hby d9_34) rfl rfl ?_
              show Steps p.tables e below (T0.setTop (mkF m 35 #[.val (.ref a1), .val (.int x1), .val (.int x2), .val (.int x3)] [(.ref a1)])) t
              refine XS.iloadN X0.here hx rfl (hb hby d9_35) rfl ?_
              exact k
            refine bindE hr ?_; intro v9 hv9 hr
            refine Runs.via (T' := T0) (g' := (mkF m 37 #[.val (.ref a1), .val (.int x1), .val (.int x2), .val (.int x3)] [(.int v9)])) (fun t k => ldB X0 hx hZ e0 A_a1_0 hv9 (g := (mkF m 36 #[.val (.ref a1), .val (.int x1), .val (.int x2), .val (.int x3)] [(.int x3), (.ref a1)])) rfl rfl (hb hby d9_36) _ k) ?_
            refine Runs.via (T' := T0) (g' := (mkF m 39 #[.val (.ref a1), .val (.int x1), .val (.int x2), .val (.int x3)] [(.int (13 : Int32)), (.int v9)])) (fun t k => ?_) ?_
            · show Steps p.tables e below (T0.setTop (mkF m 37 #[.val (.ref a1), .val (.int x1), .val (.int x2), .val (.int x3)] [(.int v9)])) t
              refine XS.bipush X0.here hx rfl (hb hby d9_37) ?_
              exact k
            refine iteE hr (fun hc10 hr => ?_) (fun hc10 hr => ?_)
            · refine Runs.via (T' := T0) (g' := (mkF m 46 #[.val (.ref a1), .val (.int x1), .val (.int x2), .val (.int x3)] [])) (fun t k => ?_) ?_
              · show Steps p.tables e below (T0.setTop (mkF m 39 #[.val (.ref a1), .val (.int x1), .val (.int x2), .val (.int x3)] [(.int (13 : Int32)), (.int v9)])) t
                exact XS.icmpYes X0.here hx rfl (pc0 := 39) (pc' := 46) rfl (hb hby d9_39) rfl (teq hc10).1 (by decide) (by decide) k
              refine Runs.via (T' := T0) (g' := (mkF m 47 #[.val (.ref a1), .val (.int x1), .val (.int x2), .val (.int x3)] [(.int (0 : Int32))])) (fun t k => ?_) ?_
              · show Steps p.tables e below (T0.setTop (mkF m 46 #[.val (.ref a1), .val (.int x1), .val (.int x2), .val (.int x3)] [])) t
                refine XS.iconst X0.here hx rfl (hb hby d9_46) ?_
                exact k
              obtain rfl := Option.some.inj hr
              exact own_retN X0 hx hlk (t := .boolean) hret (by simp) (hb hby d9_47) (by show cells ≤ 0; omega) (by show slots ≤ 0; omega) ⟨rfl, N0, e0⟩
            · refine Runs.via (T' := T0) (g' := (mkF m 42 #[.val (.ref a1), .val (.int x1), .val (.int x2), .val (.int x3)] [])) (fun t k => ?_) ?_
              · show Steps p.tables e below (T0.setTop (mkF m 39 #[.val (.ref a1), .val (.int x1), .val (.int x2), .val (.int x3)] [(.int (13 : Int32)), (.int v9)])) t
                exact XS.icmpNo X0.here hx rfl (hb hby d9_39) rfl (feq hc10).1 k
              refine Runs.via (T' := T0) (g' := (mkF m 47 #[.val (.ref a1), .val (.int x1), .val (.int x2), .val (.int x3)] [(.int (1 : Int32))])) (fun t k => ?_) ?_
              · show Steps p.tables e below (T0.setTop (mkF m 42 #[.val (.ref a1), .val (.int x1), .val (.int x2), .val (.int x3)] [])) t
                refine XS.iconst X0.here hx rfl (hb hby d9_42) ?_
                show Steps p.tables e below (T0.setTop (mkF m 43 #[.val (.ref a1), .val (.int x1), .val (.int x2), .val (.int x3)] [(.int (1 : Int32))])) t
                refine XS.goto X0.here hx rfl (pc0 := 43) (pc' := 47) rfl (hb hby d9_43) (by decide) (by decide) ?_
                exact k
              obtain rfl := Option.some.inj hr
              exact own_retN X0 hx hlk (t := .boolean) hret (by simp) (hb hby d9_47) (by show cells ≤ 0; omega) (by show slots ≤ 0; omega) ⟨rfl, N0, e0⟩
    · refine Runs.via (T' := T0) (g' := (mkF m 46 #[.val (.ref a1), .val (.int x1), .val (.int x2), .val (.int x3)] [])) (fun t k => ?_) ?_
      · show Steps p.tables e below (T0.setTop (mkF m 7 #[.val (.ref a1), .val (.int x1), .val (.int x2), .val (.int x3)] [(.int x1), (.int x3)])) t
        exact XS.icmpYes X0.here hx rfl (pc0 := 7) (pc' := 46) rfl (hb hby d9_7) rfl (flt hc2).2.1 (by decide) (by decide) k
      refine Runs.via (T' := T0) (g' := (mkF m 47 #[.val (.ref a1), .val (.int x1), .val (.int x2), .val (.int x3)] [(.int (0 : Int32))])) (fun t k => ?_) ?_
      · show Steps p.tables e below (T0.setTop (mkF m 46 #[.val (.ref a1), .val (.int x1), .val (.int x2), .val (.int x3)] [])) t
        refine XS.iconst X0.here hx rfl (hb hby d9_46) ?_
        exact k
      obtain rfl := Option.some.inj hr
      exact own_retN X0 hx hlk (t := .boolean) hret (by simp) (hb hby d9_47) (by show cells ≤ 0; omega) (by show slots ≤ 0; omega) ⟨rfl, N0, e0⟩
def f9 (x1 : Int32) (x2 : Int32) (x3 : Int32) (q_a1 : List Int32) : Option (Int32) := g9_0 x1 x2 x3 q_a1
theorem pn_9 : plainName "com/example/braid/braid/BodyLinesNextNotBlankPinLaw" = true := by first | (simp [plainName, overriddenIn]; done) | decide +kernel
theorem ef_9 (m : MethodId) (x1 : Int32) (x2 : Int32) (x3 : Int32) (a1 : Addr) : entryFrame m #[(.ref a1), (.int x1), (.int x2), (.int x3)] 4 = mkF m 0 #[.val (.ref a1), .val (.int x1), .val (.int x2), .val (.int x3)] [] := by first | (simp [entryFrame, mkF, argsToLocals, Value.category]; done) | rfl
set_option maxRecDepth 65536 in
set_option maxHeartbeats 4000000 in
theorem rm9 (l : Launch) (Z : State) (a0 : Array Value) (hw : ∀ d ∈ tables_1, d.before a0 Z = true) (ws : List Jvm.Cond) (x1 : Int32) (x2 : Int32) (x3 : Int32) (a1 : Addr) (q_a1 : List Int32) (hE : Heap) (n0 : Nat) (Z0 : n0 ≤ hE.size) (o0 : n0 ≤ a1) (A_a1_0 : AI Z hE a1 .byte q_a1) (r : Int32) (hr : f9 x1 x2 x3 q_a1 = some r) :
    MetFree l (⟨"com/example/braid/braid/BodyLinesNextNotBlankPinLaw", "cont", "([BIII)Z"⟩ : MethodName) (head1 (Jvm.Cond.code (⟨"com/example/braid/braid/BodyLinesNextNotBlankPinLaw", "cont", "([BIII)Z"⟩ : MethodName) method_3_code 4 (some .boolean) :: ws) ({ frames := 0, cells := 0, slots := 0, locals := 0 } : Room)) (fun a U => a = #[(.ref a1), (.int x1), (.int x2), (.int x3)] ∧ Z.Warmed39 U.vm ∧ U.heap = hE) (fun _ _ _ _ _ => True) (fun _ U o U' => ∃ v L, o = .returned v ∧ (P9 Z hE a1 q_a1 n0 r v U'.heap L) ∧ FrameEnd U o U' L ({ frames := 0, cells := 0, slots := 0, locals := 0 } : Room).cells ({ frames := 0, cells := 0, slots := 0, locals := 0 } : Room).slots) := by
  refine MetFree.of_bodySF (plainFor_of_name pn_9) hisR ?_
  intro p e s m args below meth c s₁ Bd hml0 hP hK
  obtain ⟨rfl, hZ, hh⟩ := hP
  have X0 : Stand p l e ({ frames := 0, cells := 0, slots := 0, locals := 0 } : Room) s m #[(.ref a1), (.int x1), (.int x2), (.int x3)] below meth c s₁ [] 0 0 := Stand.of_body Bd
  have e0 : s₁.heap = hE := by rw [← hh, Bd.state]; rfl
  have C : Ctx p s m meth c Z a0 "com/example/braid/braid/BodyLinesNextNotBlankPinLaw" method_3_code 4 (some .boolean) "cont" := ⟨Bd.exec, hZ, hw, Bd.bytes, hml0, findClass_of_methodNamed Bd.named, Bd.returns, BodyLoose.notSynchronized Bd, (name_of_methodNamed Bd.named Bd.method).1⟩
  refine Runs.via (fun t k => castTop (ef_9 m x1 x2 x3 a1) k) (b9_0 C X0 e0 (Fr.nil n0) (by show 0 ≤ 0; omega) (by show 0 ≤ 0; omega) Z0 (by omega) x1 x2 x3 A_a1_0 hr)
theorem pd_3 : parseMethodDescriptor "([BIII)Z" = some ⟨[(.array .byte), .int, .int, .int], some .boolean⟩ := by decide +kernel
theorem d8_0 : decode method_4_code 0 = .ok (.aload_n 0, 1) := by decide +kernel
theorem d8_1 : decode method_4_code 1 = .ok (.iload_n 1, 1) := by decide +kernel
theorem d8_2 : decode method_4_code 2 = .ok (.iload_n 2, 1) := by decide +kernel
theorem d8_3 : decode method_4_code 3 = .ok (.iconst 0, 1) := by decide +kernel
theorem d8_4 : decode method_4_code 4 = .ok (.invokestatic 7, 3) := by decide +kernel
theorem d8_7 : decode method_4_code 7 = .ok (.ifCond .eq 5, 3) := by decide +kernel
theorem d8_10 : decode method_4_code 10 = .ok (.iconst 0, 1) := by decide +kernel
theorem d8_11 : decode method_4_code 11 = .ok (.ireturn, 1) := by decide +kernel
theorem d8_12 : decode method_4_code 12 = .ok (.aload_n 0, 1) := by decide +kernel
theorem d8_13 : decode method_4_code 13 = .ok (.iload_n 1, 1) := by decide +kernel
theorem d8_14 : decode method_4_code 14 = .ok (.iload_n 2, 1) := by decide +kernel
theorem d8_15 : decode method_4_code 15 = .ok (.iconst 1, 1) := by decide +kernel
theorem d8_16 : decode method_4_code 16 = .ok (.invokestatic 7, 3) := by decide +kernel
theorem d8_19 : decode method_4_code 19 = .ok (.ifCond .eq 5, 3) := by decide +kernel
theorem d8_22 : decode method_4_code 22 = .ok (.iconst 1, 1) := by decide +kernel
theorem d8_23 : decode method_4_code 23 = .ok (.ireturn, 1) := by decide +kernel
theorem d8_24 : decode method_4_code 24 = .ok (.aload_n 0, 1) := by decide +kernel
theorem d8_25 : decode method_4_code 25 = .ok (.iload_n 1, 1) := by decide +kernel
theorem d8_26 : decode method_4_code 26 = .ok (.iload_n 2, 1) := by decide +kernel
theorem d8_27 : decode method_4_code 27 = .ok (.iconst 2, 1) := by decide +kernel
theorem d8_28 : decode method_4_code 28 = .ok (.invokestatic 7, 3) := by decide +kernel
theorem d8_31 : decode method_4_code 31 = .ok (.ifCond .eq 5, 3) := by decide +kernel
theorem d8_34 : decode method_4_code 34 = .ok (.iconst 2, 1) := by decide +kernel
theorem d8_35 : decode method_4_code 35 = .ok (.ireturn, 1) := by decide +kernel
theorem d8_36 : decode method_4_code 36 = .ok (.aload_n 0, 1) := by decide +kernel
theorem d8_37 : decode method_4_code 37 = .ok (.iload_n 1, 1) := by decide +kernel
theorem d8_38 : decode method_4_code 38 = .ok (.iload_n 2, 1) := by decide +kernel
theorem d8_39 : decode method_4_code 39 = .ok (.iconst 3, 1) := by decide +kernel
theorem d8_40 : decode method_4_code 40 = .ok (.invokestatic 7, 3) := by decide +kernel
theorem d8_43 : decode method_4_code 43 = .ok (.ifCond .eq 5, 3) := by decide +kernel
theorem d8_46 : decode method_4_code 46 = .ok (.iconst 3, 1) := by decide +kernel
theorem d8_47 : decode method_4_code 47 = .ok (.ireturn, 1) := by decide +kernel
theorem d8_48 : decode method_4_code 48 = .ok (.aload_n 0, 1) := by decide +kernel
theorem d8_49 : decode method_4_code 49 = .ok (.iload_n 1, 1) := by decide +kernel
theorem d8_50 : decode method_4_code 50 = .ok (.iload_n 2, 1) := by decide +kernel
theorem d8_51 : decode method_4_code 51 = .ok (.iconst 4, 1) := by decide +kernel
theorem d8_52 : decode method_4_code 52 = .ok (.invokestatic 7, 3) := by decide +kernel
theorem d8_55 : decode method_4_code 55 = .ok (.ifCond .eq 5, 3) := by decide +kernel
theorem d8_58 : decode method_4_code 58 = .ok (.iconst 4, 1) := by decide +kernel
theorem d8_59 : decode method_4_code 59 = .ok (.ireturn, 1) := by decide +kernel
theorem d8_60 : decode method_4_code 60 = .ok (.iconst (-1), 1) := by decide +kernel
theorem d8_61 : decode method_4_code 61 = .ok (.ireturn, 1) := by decide +kernel
def P8 (Z : State) (hE : Heap) (a1 : Addr) (q_a1 : List Int32) (n0 : Nat) (r : Int32) (v : Option Value) (h : Heap) (L : List Loc) : Prop := v = some (.int r) ∧ Fr n0 L ∧ h = hE
def g8_0 (x1 : Int32) (x2 : Int32) (q_a1 : List Int32) : Option (Int32) := ((f9 x1 x2 (0 : Int32) q_a1).bind fun r1 => (if r1 = (0 : Int32) then ((f9 x1 x2 (1 : Int32) q_a1).bind fun r3 => (if r3 = (0 : Int32) then ((f9 x1 x2 (2 : Int32) q_a1).bind fun r5 => (if r5 = (0 : Int32) then ((f9 x1 x2 (3 : Int32) q_a1).bind fun r7 => (if r7 = (0 : Int32) then ((f9 x1 x2 (4 : Int32) q_a1).bind fun r9 => (if r9 = (0 : Int32) then some (-1 : Int32) else some (4 : Int32))) else some (3 : Int32))) else some (2 : Int32))) else some (1 : Int32))) else some (0 : Int32)))
set_option maxRecDepth 65536 in
set_option maxHeartbeats 4000000 in
theorem b8_0 {hE : Heap} {a1 : Addr} {q_a1 : List Int32} {r : Int32} (C : Ctx p s m meth c Z a0 "com/example/braid/braid/BodyLinesNextNotBlankPinLaw" method_4_code 3 (some .int) "firstContent") (X0 : Stand p l e ({ frames := 1, cells := 0, slots := 0, locals := 15 } : Room) s m args below meth c T0 locs cells slots) (e0 : T0.heap = hE) (N0 : Fr n0 locs) (hk : cells ≤ 0) (hn : slots ≤ 0) (Z1 : n0 ≤ hE.size) (o0 : n0 ≤ a1) (x1 : Int32) (x2 : Int32) (A_a1_0 : AI Z hE a1 .byte q_a1) (hr : g8_0 x1 x2 q_a1 = some r) :
    Runs p e below s (P8 Z hE a1 q_a1 n0 r) 0 0 T0 (mkF m 0 #[.val (.ref a1), .val (.int x1), .val (.int x2)] []) := by
  unfold g8_0 at hr
  have ⟨hx, hZ, hw, hby, hml, hown, hret, hlk, hnm⟩ := C
  refine Runs.via (T' := T0) (g' := (mkF m 4 #[.val (.ref a1), .val (.int x1), .val (.int x2)] [(.int (0 : Int32)), (.int x2), (.int x1), (.ref a1)])) (fun t k => ?_) ?_
  · show Steps p.tables e below (T0.setTop (mkF m 0 #[.val (.ref a1), .val (.int x1), .val (.int x2)] [])) t
    refine XS.aloadN X0.here hx rfl (hb hby d8_0) rfl rfl ?_
    show Steps p.tables e below (T0.setTop (mkF m 1 #[.val (.ref a1), .val (.int x1), .val (.int x2)] [(.ref a1)])) t
    refine XS.iloadN X0.here hx rfl (hb hby d8_1) rfl ?_
    show Steps p.tables e below (T0.setTop (mkF m 2 #[.val (.ref a1), .val (.int x1), .val (.int x2)] [(.int x1), (.ref a1)])) t
    refine XS.iloadN X0.here hx rfl (hb hby d8_2) rfl ?_
    show Steps p.tables e below (T0.setTop (mkF m 3 #[.val (.ref a1), .val (.int x1), .val (.int x2)] [(.int x2), (.int x1), (.ref a1)])) t
    refine XS.iconst X0.here hx rfl (hb hby d8_3) ?_
    exact k
  refine bindE hr ?_; intro r1 hr1m hr
  obtain ⟨_, _, ⟨T1, L1, k1, n1⟩, -, X1, ⟨Lc1, hQ1, l1, y1, z1⟩, st1⟩ := Jvm.LawKit.callS X0 hx (y := (⟨"com/example/braid/braid/BodyLinesNextNotBlankPinLaw", "cont", "([BIII)Z"⟩ : MethodName)) hown (mvT hZ (hw _ (List.mem_of_getElem? (i := 43) rfl))) (mvT hZ (hw _ (List.mem_of_getElem? (i := 44) rfl))) (mvT hZ (hw _ (List.mem_of_getElem? (i := 4) rfl))) (mvT hZ (hw _ (List.mem_of_getElem? (i := 45) rfl))) (by decide) (backOf (W := 0) (rm9 l Z a0 hw [] x1 x2 (0 : Int32) a1 q_a1 hE n0 Z1 (by omega) A_a1_0 r1 hr1m) hZ (hw _ (List.mem_of_getElem? (i := 45) rfl)) (hw _ (List.mem_of_getElem? (i := 4) rfl)) (by decide) (by decide)) (g := (mkF m 4 #[.val (.ref a1), .val (.int x1), .val (.int x2)] [(.int (0 : Int32)), (.int x2), (.int x1), (.ref a1)])) rfl (by rw [hml]; rfl) (argsL := [(.ref a1), (.int x1), (.int x2), (.int (0 : Int32))]) (rest := []) (lenOf pd_3 rfl) rfl (by show 2 * 0 + _ ≤ _; exact Nat.le_of_eq rfl) (hb hby d8_4) (fun _ _ => ⟨rfl, e0, (by show cells + 0 ≤ 0; omega), (by show slots + 0 ≤ 0; omega)⟩)
  dsimp only [Pt.U, Pt.locs, Pt.cells, Pt.slots] at X1 l1 y1 z1 st1 hQ1
  replace y1 := y1.symm; replace z1 := z1.symm; subst l1 y1 z1
  obtain ⟨rfl, N1q, e1⟩ := hQ1
  have N1 := Fr.app N0 N1q
  refine Runs.via (T' := T1) (g' := (mkF m 7 #[.val (.ref a1), .val (.int x1), .val (.int x2)] [(.int r1)])) (fun t k => st1 _ k) ?_
  refine iteE hr (fun hc2 hr => ?_) (fun hc2 hr => ?_)
  · refine Runs.via (T' := T1) (g' := (mkF m 12 #[.val (.ref a1), .val (.int x1), .val (.int x2)] [])) (fun t k => ?_) ?_
    · show Steps p.tables e below (T1.setTop (mkF m 7 #[.val (.ref a1), .val (.int x1), .val (.int x2)] [(.int r1)])) t
      exact XS.ifYes X1.here hx rfl (pc0 := 7) (pc' := 12) rfl (hb hby d8_7) rfl ((if0 _ _).trans (teq hc2).1) (by decide) (by decide) k
    refine Runs.via (T' := T1) (g' := (mkF m 16 #[.val (.ref a1), .val (.int x1), .val (.int x2)] [(.int (1 : Int32)), (.int x2), (.int x1), (.ref a1)])) (fun t k => ?_) ?_
    · show Steps p.tables e below (T1.setTop (mkF m 12 #[.val (.ref a1), .val (.int x1), .val (.int x2)] [])) t
      refine XS.aloadN X1.here hx rfl (hb hby d8_12) rfl rfl ?_
      show Steps p.tables e below (T1.setTop (mkF m 13 #[.val (.ref a1), .val (.int x1), .val (.int x2)] [(.ref a1)])) t
      refine XS.iloadN X1.here hx rfl (hb hby d8_13) rfl ?_
      show Steps p.tables e below (T1.setTop (mkF m 14 #[.val (.ref a1), .val (.int x1), .val (.int x2)] [(.int x1), (.ref a1)])) t
      refine XS.iloadN X1.here hx rfl (hb hby d8_14) rfl ?_
      show Steps p.tables e below (T1.setTop (mkF m 15 #[.val (.ref a1), .val (.int x1), .val (.int x2)] [(.int x2), (.int x1), (.ref a1)])) t
      refine XS.iconst X1.here hx rfl (hb hby d8_15) ?_
      exact k
    refine bindE hr ?_; intro r3 hr3m hr
    obtain ⟨_, _, ⟨T3, L3, k3, n3⟩, -, X3, ⟨Lc3, hQ3, l3, y3, z3⟩, st3⟩ := Jvm.LawKit.callS X1 hx (y := (⟨"com/example/braid/braid/BodyLinesNextNotBlankPinLaw", "cont", "([BIII)Z"⟩ : MethodName)) hown (mvT hZ (hw _ (List.mem_of_getElem? (i := 43) rfl))) (mvT hZ (hw _ (List.mem_of_getElem? (i := 44) rfl))) (mvT hZ (hw _ (List.mem_of_getElem? (i := 4) rfl))) (mvT hZ (hw _ (List.mem_of_getElem? (i := 45) rfl))) (by decide) (backOf (W := 0) (rm9 l Z a0 hw [] x1 x2 (1 : Int32) a1 q_a1 hE n0 Z1 (by omega) A_a1_0 r3 hr3m) hZ (hw _ (List.mem_of_getElem? (i := 45) rfl)) (hw _ (List.mem_of_getElem? (i := 4) rfl)) (by decide) (by decide)) (g := (mkF m 16 #[.val (.ref a1), .val (.int x1), .val (.int x2)] [(.int (1 : Int32)), (.int x2), (.int x1), (.ref a1)])) rfl (by rw [hml]; rfl) (argsL := [(.ref a1), (.int x1), (.int x2), (.int (1 : Int32))]) (rest := []) (lenOf pd_3 rfl) rfl (by show 2 * 0 + _ ≤ _; exact Nat.le_of_eq rfl) (hb hby d8_16) (fun _ _ => ⟨rfl, e1, (by show (cells + 0) + 0 ≤ 0; omega), (by show (slots + 0) + 0 ≤ 0; omega)⟩)
    dsimp only [Pt.U, Pt.locs, Pt.cells, Pt.slots] at X3 l3 y3 z3 st3 hQ3
    replace y3 := y3.symm; replace z3 := z3.symm; subst l3 y3 z3
    obtain ⟨rfl, N3q, e3⟩ := hQ3
    have N3 := Fr.app N1 N3q
    refine Runs.via (T' := T3) (g' := (mkF m 19 #[.val (.ref a1), .val (.int x1), .val (.int x2)] [(.int r3)])) (fun t k => st3 _ k) ?_
    refine iteE hr (fun hc4 hr => ?_) (fun hc4 hr => ?_)
    · refine Runs.via (T' := T3) (g' := (mkF m 24 #[.val (.ref a1), .val (.int x1), .val (.int x2)] [])) (fun t k => ?_) ?_
      · show Steps p.tables e below (T3.setTop (mkF m 19 #[.val (.ref a1), .val (.int x1), .val (.int x2)] [(.int r3)])) t
        exact XS.ifYes X3.here hx rfl (pc0 := 19) (pc' := 24) rfl (hb hby d8_19) rfl ((if0 _ _).trans (teq hc4).1) (by decide) (by decide) k
      refine Runs.via (T' := T3) (g' := (mkF m 28 #[.val (.ref a1), .val (.int x1), .val (.int x2)] [(.int (2 : Int32)), (.int x2), (.int x1), (.ref a1)])) (fun t k => ?_) ?_
      · show Steps p.tables e below (T3.setTop (mkF m 24 #[.val (.ref a1), .val (.int x1), .val (.int x2)] [])) t
        refine XS.aloadN X3.here hx rfl (hb hby d8_24) rfl rfl ?_
        show Steps p.tables e below (T3.setTop (mkF m 25 #[.val (.ref a1), .val (.int x1), .val (.int x2)] [(.ref a1)])) t
        refine XS.iloadN X3.here hx rfl (hb hby d8_25) rfl ?_
        show Steps p.tables e below (T3.setTop (mkF m 26 #[.val (.ref a1), .val (.int x1), .val (.int x2)] [(.int x1), (.ref a1)])) t
        refine XS.iloadN X3.here hx rfl (hb hby d8_26) rfl ?_
        show Steps p.tables e below (T3.setTop (mkF m 27 #[.val (.ref a1), .val (.int x1), .val (.int x2)] [(.int x2), (.int x1), (.ref a1)])) t
        refine XS.iconst X3.here hx rfl (hb hby d8_27) ?_
        exact k
      refine bindE hr ?_; intro r5 hr5m hr
      obtain ⟨_, _, ⟨T5, L5, k5, n5⟩, -, X5, ⟨Lc5, hQ5, l5, y5, z5⟩, st5⟩ := Jvm.LawKit.callS X3 hx (y := (⟨"com/example/braid/braid/BodyLinesNextNotBlankPinLaw", "cont", "([BIII)Z"⟩ : MethodName)) hown (mvT hZ (hw _ (List.mem_of_getElem? (i := 43) rfl))) (mvT hZ (hw _ (List.mem_of_getElem? (i := 44) rfl))) (mvT hZ (hw _ (List.mem_of_getElem? (i := 4) rfl))) (mvT hZ (hw _ (List.mem_of_getElem? (i := 45) rfl))) (by decide) (backOf (W := 0) (rm9 l Z a0 hw [] x1 x2 (2 : Int32) a1 q_a1 hE n0 Z1 (by omega) A_a1_0 r5 hr5m) hZ (hw _ (List.mem_of_getElem? (i := 45) rfl)) (hw _ (List.mem_of_getElem? (i := 4) rfl)) (by decide) (by decide)) (g := (mkF m 28 #[.val (.ref a1), .val (.int x1), .val (.int x2)] [(.int (2 : Int32)), (.int x2), (.int x1), (.ref a1)])) rfl (by rw [hml]; rfl) (argsL := [(.ref a1), (.int x1), (.int x2), (.int (2 : Int32))]) (rest := []) (lenOf pd_3 rfl) rfl (by show 2 * 0 + _ ≤ _; exact Nat.le_of_eq rfl) (hb hby d8_28) (fun _ _ => ⟨rfl, e3, (by show ((cells + 0) + 0) + 0 ≤ 0; omega), (by show ((slots + 0) + 0) + 0 ≤ 0; omega)⟩)
      dsimp only [Pt.U, Pt.locs, Pt.cells, Pt.slots] at X5 l5 y5 z5 st5 hQ5
      replace y5 := y5.symm; replace z5 := z5.symm; subst l5 y5 z5
      obtain ⟨rfl, N5q, e5⟩ := hQ5
      have N5 := Fr.app N3 N5q
      refine Runs.via (T' := T5) (g' := (mkF m 31 #[.val (.ref a1), .val (.int x1), .val (.int x2)] [(.int r5)])) (fun t k => st5 _ k) ?_
      refine iteE hr (fun hc6 hr => ?_) (fun hc6 hr => ?_)
      · refine Runs.via (T' := T5) (g' := (mkF m 36 #[.val (.ref a1), .val (.int x1), .val (.int x2)] [])) (fun t k => ?_) ?_
        · show Steps p.tables e below (T5.setTop (mkF m 31 #[.val (.ref a1), .val (.int x1), .val (.int x2)] [(.int r5)])) t
          exact XS.ifYes X5.here hx rfl (pc0 := 31) (pc' := 36) rfl (hb hby d8_31) rfl ((if0 _ _).trans (teq hc6).1) (by decide) (by decide) k
        refine Runs.via (T' := T5) (g' := (mkF m 40 #[.val (.ref a1), .val (.int x1), .val (.int x2)] [(.int (3 : Int32)), (.int x2), (.int x1), (.ref a1)])) (fun t k => ?_) ?_
        · show Steps p.tables e below (T5.setTop (mkF m 36 #[.val (.ref a1), .val (.int x1), .val (.int x2)] [])) t
          refine XS.aloadN X5.here hx rfl (hb hby d8_36) rfl rfl ?_
          show Steps p.tables e below (T5.setTop (mkF m 37 #[.val (.ref a1), .val (.int x1), .val (.int x2)] [(.ref a1)])) t
          refine XS.iloadN X5.here hx rfl (hb hby d8_37) rfl ?_
          show Steps p.tables e below (T5.setTop (mkF m 38 #[.val (.ref a1), .val (.int x1), .val (.int x2)] [(.int x1), (.ref a1)])) t
          refine XS.iloadN X5.here hx rfl (hb hby d8_38) rfl ?_
          show Steps p.tables e below (T5.setTop (mkF m 39 #[.val (.ref a1), .val (.int x1), .val (.int x2)] [(.int x2), (.int x1), (.ref a1)])) t
          refine XS.iconst X5.here hx rfl (hb hby d8_39) ?_
          exact k
        refine bindE hr ?_; intro r7 hr7m hr
        obtain ⟨_, _, ⟨T7, L7, k7, n7⟩, -, X7, ⟨Lc7, hQ7, l7, y7, z7⟩, st7⟩ := Jvm.LawKit.callS X5 hx (y := (⟨"com/example/braid/braid/BodyLinesNextNotBlankPinLaw", "cont", "([BIII)Z"⟩ : MethodName)) hown (mvT hZ (hw _ (List.mem_of_getElem? (i := 43) rfl))) (mvT hZ (hw _ (List.mem_of_getElem? (i := 44) rfl))) (mvT hZ (hw _ (List.mem_of_getElem? (i := 4) rfl))) (mvT hZ (hw _ (List.mem_of_getElem? (i := 45) rfl))) (by decide) (backOf (W := 0) (rm9 l Z a0 hw [] x1 x2 (3 : Int32) a1 q_a1 hE n0 Z1 (by omega) A_a1_0 r7 hr7m) hZ (hw _ (List.mem_of_getElem? (i := 45) rfl)) (hw _ (List.mem_of_getElem? (i := 4) rfl)) (by decide) (by decide)) (g := (mkF m 40 #[.val (.ref a1), .val (.int x1), .val (.int x2)] [(.int (3 : Int32)), (.int x2), (.int x1), (.ref a1)])) rfl (by rw [hml]; rfl) (argsL := [(.ref a1), (.int x1), (.int x2), (.int (3 : Int32))]) (rest := []) (lenOf pd_3 rfl) rfl (by show 2 * 0 + _ ≤ _; exact Nat.le_of_eq rfl) (hb hby d8_40) (fun _ _ => ⟨rfl, e5, (by show (((cells + 0) + 0) + 0) + 0 ≤ 0; omega), (by show (((slots + 0) + 0) + 0) + 0 ≤ 0; omega)⟩)
        dsimp only [Pt.U, Pt.locs, Pt.cells, Pt.slots] at X7 l7 y7 z7 st7 hQ7
        replace y7 := y7.symm; replace z7 := z7.symm; subst l7 y7 z7
        obtain ⟨rfl, N7q, e7⟩ := hQ7
        have N7 := Fr.app N5 N7q
        refine Runs.via (T' := T7) (g' := (mkF m 43 #[.val (.ref a1), .val (.int x1), .val (.int x2)] [(.int r7)])) (fun t k => st7 _ k) ?_
        refine iteE hr (fun hc8 hr => ?_) (fun hc8 hr => ?_)
        · refine Runs.via (T' := T7) (g' := (mkF m 48 #[.val (.ref a1), .val (.int x1), .val (.int x2)] [])) (fun t k => ?_) ?_
          · show Steps p.tables e below (T7.setTop (mkF m 43 #[.val (.ref a1), .val (.int x1), .val (.int x2)] [(.int r7)])) t
            exact XS.ifYes X7.here hx rfl (pc0 := 43) (pc' := 48) rfl (hb hby d8_43) rfl ((if0 _ _).trans (teq hc8).1) (by decide) (by decide) k
          refine Runs.via (T' := T7) (g' := (mkF m 52 #[.val (.ref a1), .val (.int x1), .val (.int x2)] [(.int (4 : Int32)), (.int x2), (.int x1), (.ref a1)])) (fun t k => ?_) ?_
          · show Steps p.tables e below (T7.setTop (mkF m 48 #[.val (.ref a1), .val (.int x1), .val (.int x2)] [])) t
            refine XS.aloadN X7.here hx rfl (hb hby d8_48) rfl rfl ?_
            show Steps p.tables e below (T7.setTop (mkF m 49 #[.val (.ref a1), .val (.int x1), .val (.int x2)] [(.ref a1)])) t
            refine XS.iloadN X7.here hx rfl (hb hby d8_49) rfl ?_
            show Steps p.tables e below (T7.setTop (mkF m 50 #[.val (.ref a1), .val (.int x1), .val (.int x2)] [(.int x1), (.ref a1)])) t
            refine XS.iloadN X7.here hx rfl (hb hby d8_50) rfl ?_
            show Steps p.tables e below (T7.setTop (mkF m 51 #[.val (.ref a1), .val (.int x1), .val (.int x2)] [(.int x2), (.int x1), (.ref a1)])) t
            refine XS.iconst X7.here hx rfl (hb hby d8_51) ?_
            exact k
          refine bindE hr ?_; intro r9 hr9m hr
          obtain ⟨_, _, ⟨T9, L9, k9, n9⟩, -, X9, ⟨Lc9, hQ9, l9, y9, z9⟩, st9⟩ := Jvm.LawKit.callS X7 hx (y := (⟨"com/example/braid/braid/BodyLinesNextNotBlankPinLaw", "cont", "([BIII)Z"⟩ : MethodName)) hown (mvT hZ (hw _ (List.mem_of_getElem? (i := 43) rfl))) (mvT hZ (hw _ (List.mem_of_getElem? (i := 44) rfl))) (mvT hZ (hw _ (List.mem_of_getElem? (i := 4) rfl))) (mvT hZ (hw _ (List.mem_of_getElem? (i := 45) rfl))) (by decide) (backOf (W := 0) (rm9 l Z a0 hw [] x1 x2 (4 : Int32) a1 q_a1 hE n0 Z1 (by omega) A_a1_0 r9 hr9m) hZ (hw _ (List.mem_of_getElem? (i := 45) rfl)) (hw _ (List.mem_of_getElem? (i := 4) rfl)) (by decide) (by decide)) (g := (mkF m 52 #[.val (.ref a1), .val (.int x1), .val (.int x2)] [(.int (4 : Int32)), (.int x2), (.int x1), (.ref a1)])) rfl (by rw [hml]; rfl) (argsL := [(.ref a1), (.int x1), (.int x2), (.int (4 : Int32))]) (rest := []) (lenOf pd_3 rfl) rfl (by show 2 * 0 + _ ≤ _; exact Nat.le_of_eq rfl) (hb hby d8_52) (fun _ _ => ⟨rfl, e7, (by show ((((cells + 0) + 0) + 0) + 0) + 0 ≤ 0; omega), (by show ((((slots + 0) + 0) + 0) + 0) + 0 ≤ 0; omega)⟩)
          dsimp only [Pt.U, Pt.locs, Pt.cells, Pt.slots] at X9 l9 y9 z9 st9 hQ9
          replace y9 := y9.symm; replace z9 := z9.symm; subst l9 y9 z9
          obtain ⟨rfl, N9q, e9⟩ := hQ9
          have N9 := Fr.app N7 N9q
          refine Runs.via (T' := T9) (g' := (mkF m 55 #[.val (.ref a1), .val (.int x1), .val (.int x2)] [(.int r9)])) (fun t k => st9 _ k) ?_
          refine iteE hr (fun hc10 hr => ?_) (fun hc10 hr => ?_)
          · refine Runs.via (T' := T9) (g' := (mkF m 60 #[.val (.ref a1), .val (.int x1), .val (.int x2)] [])) (fun t k => ?_) ?_
            · show Steps p.tables e below (T9.setTop (mkF m 55 #[.val (.ref a1), .val (.int x1), .val (.int x2)] [(.int r9)])) t
              exact XS.ifYes X9.here hx rfl (pc0 := 55) (pc' := 60) rfl (hb hby d8_55) rfl ((if0 _ _).trans (teq hc10).1) (by decide) (by decide) k
            refine Runs.via (T' := T9) (g' := (mkF m 61 #[.val (.ref a1), .val (.int x1), .val (.int x2)] [(.int (-1 : Int32))])) (fun t k => ?_) ?_
            · show Steps p.tables e below (T9.setTop (mkF m 60 #[.val (.ref a1), .val (.int x1), .val (.int x2)] [])) t
              refine XS.iconst X9.here hx rfl (hb hby d8_60) ?_
              exact k
            obtain rfl := Option.some.inj hr
            exact own_retI X9 hx hlk hret (hb hby d8_61) (by show (((((cells + 0) + 0) + 0) + 0) + 0) ≤ 0; omega) (by show (((((slots + 0) + 0) + 0) + 0) + 0) ≤ 0; omega) ⟨rfl, N9, e9⟩
          · refine Runs.via (T' := T9) (g' := (mkF m 58 #[.val (.ref a1), .val (.int x1), .val (.int x2)] [])) (fun t k => ?_) ?_
            · show Steps p.tables e below (T9.setTop (mkF m 55 #[.val (.ref a1), .val (.int x1), .val (.int x2)] [(.int r9)])) t
              exact XS.ifNo X9.here hx rfl (hb hby d8_55) rfl ((if0 _ _).trans (feq hc10).1) k
            refine Runs.via (T' := T9) (g' := (mkF m 59 #[.val (.ref a1), .val (.int x1), .val (.int x2)] [(.int (4 : Int32))])) (fun t k => ?_) ?_
            · show Steps p.tables e below (T9.setTop (mkF m 58 #[.val (.ref a1), .val (.int x1), .val (.int x2)] [])) t
              refine XS.iconst X9.here hx rfl (hb hby d8_58) ?_
              exact k
            obtain rfl := Option.some.inj hr
            exact own_retI X9 hx hlk hret (hb hby d8_59) (by show (((((cells + 0) + 0) + 0) + 0) + 0) ≤ 0; omega) (by show (((((slots + 0) + 0) + 0) + 0) + 0) ≤ 0; omega) ⟨rfl, N9, e9⟩
        · refine Runs.via (T' := T7) (g' := (mkF m 46 #[.val (.ref a1), .val (.int x1), .val (.int x2)] [])) (fun t k => ?_) ?_
          · show Steps p.tables e below (T7.setTop (mkF m 43 #[.val (.ref a1), .val (.int x1), .val (.int x2)] [(.int r7)])) t
            exact XS.ifNo X7.here hx rfl (hb hby d8_43) rfl ((if0 _ _).trans (feq hc8).1) k
          refine Runs.via (T' := T7) (g' := (mkF m 47 #[.val (.ref a1), .val (.int x1), .val (.int x2)] [(.int (3 : Int32))])) (fun t k => ?_) ?_
          · show Steps p.tables e below (T7.setTop (mkF m 46 #[.val (.ref a1), .val (.int x1), .val (.int x2)] [])) t
            refine XS.iconst X7.here hx rfl (hb hby d8_46) ?_
            exact k
          obtain rfl := Option.some.inj hr
          exact own_retI X7 hx hlk hret (hb hby d8_47) (by show ((((cells + 0) + 0) + 0) + 0) ≤ 0; omega) (by show ((((slots + 0) + 0) + 0) + 0) ≤ 0; omega) ⟨rfl, N7, e7⟩
      · refine Runs.via (T' := T5) (g' := (mkF m 34 #[.val (.ref a1), .val (.int x1), .val (.int x2)] [])) (fun t k => ?_) ?_
        · show Steps p.tables e below (T5.setTop (mkF m 31 #[.val (.ref a1), .val (.int x1), .val (.int x2)] [(.int r5)])) t
          exact XS.ifNo X5.here hx rfl (hb hby d8_31) rfl ((if0 _ _).trans (feq hc6).1) k
        refine Runs.via (T' := T5) (g' := (mkF m 35 #[.val (.ref a1), .val (.int x1), .val (.int x2)] [(.int (2 : Int32))])) (fun t k => ?_) ?_
        · show Steps p.tables e below (T5.setTop (mkF m 34 #[.val (.ref a1), .val (.int x1), .val (.int x2)] [])) t
          refine XS.iconst X5.here hx rfl (hb hby d8_34) ?_
          exact k
        obtain rfl := Option.some.inj hr
        exact own_retI X5 hx hlk hret (hb hby d8_35) (by show (((cells + 0) + 0) + 0) ≤ 0; omega) (by show (((slots + 0) + 0) + 0) ≤ 0; omega) ⟨rfl, N5, e5⟩
    · refine Runs.via (T' := T3) (g' := (mkF m 22 #[.val (.ref a1), .val (.int x1), .val (.int x2)] [])) (fun t k => ?_) ?_
      · show Steps p.tables e below (T3.setTop (mkF m 19 #[.val (.ref a1), .val (.int x1), .val (.int x2)] [(.int r3)])) t
        exact XS.ifNo X3.here hx rfl (hb hby d8_19) rfl ((if0 _ _).trans (feq hc4).1) k
      refine Runs.via (T' := T3) (g' := (mkF m 23 #[.val (.ref a1), .val (.int x1), .val (.int x2)] [(.int (1 : Int32))])) (fun t k => ?_) ?_
      · show Steps p.tables e below (T3.setTop (mkF m 22 #[.val (.ref a1), .val (.int x1), .val (.int x2)] [])) t
        refine XS.iconst X3.here hx rfl (hb hby d8_22) ?_
        exact k
      obtain rfl := Option.some.inj hr
      exact own_retI X3 hx hlk hret (hb hby d8_23) (by show ((cells + 0) + 0) ≤ 0; omega) (by show ((slots + 0) + 0) ≤ 0; omega) ⟨rfl, N3, e3⟩
  · refine Runs.via (T' := T1) (g' := (mkF m 10 #[.val (.ref a1), .val (.int x1), .val (.int x2)] [])) (fun t k => ?_) ?_
    · show Steps p.tables e below (T1.setTop (mkF m 7 #[.val (.ref a1), .val (.int x1), .val (.int x2)] [(.int r1)])) t
      exact XS.ifNo X1.here hx rfl (hb hby d8_7) rfl ((if0 _ _).trans (feq hc2).1) k
    refine Runs.via (T' := T1) (g' := (mkF m 11 #[.val (.ref a1), .val (.int x1), .val (.int x2)] [(.int (0 : Int32))])) (fun t k => ?_) ?_
    · show Steps p.tables e below (T1.setTop (mkF m 10 #[.val (.ref a1), .val (.int x1), .val (.int x2)] [])) t
      refine XS.iconst X1.here hx rfl (hb hby d8_10) ?_
      exact k
    obtain rfl := Option.some.inj hr
    exact own_retI X1 hx hlk hret (hb hby d8_11) (by show (cells + 0) ≤ 0; omega) (by show (slots + 0) ≤ 0; omega) ⟨rfl, N1, e1⟩
def f8 (x1 : Int32) (x2 : Int32) (q_a1 : List Int32) : Option (Int32) := g8_0 x1 x2 q_a1
theorem pn_8 : plainName "com/example/braid/braid/BodyLinesNextNotBlankPinLaw" = true := by first | (simp [plainName, overriddenIn]; done) | decide +kernel
theorem ef_8 (m : MethodId) (x1 : Int32) (x2 : Int32) (a1 : Addr) : entryFrame m #[(.ref a1), (.int x1), (.int x2)] 3 = mkF m 0 #[.val (.ref a1), .val (.int x1), .val (.int x2)] [] := by first | (simp [entryFrame, mkF, argsToLocals, Value.category]; done) | rfl
set_option maxRecDepth 65536 in
set_option maxHeartbeats 4000000 in
theorem rm8 (l : Launch) (Z : State) (a0 : Array Value) (hw : ∀ d ∈ tables_1, d.before a0 Z = true) (ws : List Jvm.Cond) (x1 : Int32) (x2 : Int32) (a1 : Addr) (q_a1 : List Int32) (hE : Heap) (n0 : Nat) (Z0 : n0 ≤ hE.size) (o0 : n0 ≤ a1) (A_a1_0 : AI Z hE a1 .byte q_a1) (r : Int32) (hr : f8 x1 x2 q_a1 = some r) :
    MetFree l (⟨"com/example/braid/braid/BodyLinesNextNotBlankPinLaw", "firstContent", "([BII)I"⟩ : MethodName) (head1 (Jvm.Cond.code (⟨"com/example/braid/braid/BodyLinesNextNotBlankPinLaw", "firstContent", "([BII)I"⟩ : MethodName) method_4_code 3 (some .int) :: ws) ({ frames := 1, cells := 0, slots := 0, locals := 15 } : Room)) (fun a U => a = #[(.ref a1), (.int x1), (.int x2)] ∧ Z.Warmed39 U.vm ∧ U.heap = hE) (fun _ _ _ _ _ => True) (fun _ U o U' => ∃ v L, o = .returned v ∧ (P8 Z hE a1 q_a1 n0 r v U'.heap L) ∧ FrameEnd U o U' L ({ frames := 1, cells := 0, slots := 0, locals := 15 } : Room).cells ({ frames := 1, cells := 0, slots := 0, locals := 15 } : Room).slots) := by
  refine MetFree.of_bodySF (plainFor_of_name pn_8) hisR ?_
  intro p e s m args below meth c s₁ Bd hml0 hP hK
  obtain ⟨rfl, hZ, hh⟩ := hP
  have X0 : Stand p l e ({ frames := 1, cells := 0, slots := 0, locals := 15 } : Room) s m #[(.ref a1), (.int x1), (.int x2)] below meth c s₁ [] 0 0 := Stand.of_body Bd
  have e0 : s₁.heap = hE := by rw [← hh, Bd.state]; rfl
  have C : Ctx p s m meth c Z a0 "com/example/braid/braid/BodyLinesNextNotBlankPinLaw" method_4_code 3 (some .int) "firstContent" := ⟨Bd.exec, hZ, hw, Bd.bytes, hml0, findClass_of_methodNamed Bd.named, Bd.returns, BodyLoose.notSynchronized Bd, (name_of_methodNamed Bd.named Bd.method).1⟩
  refine Runs.via (fun t k => castTop (ef_8 m x1 x2 a1) k) (b8_0 C X0 e0 (Fr.nil n0) (by show 0 ≤ 0; omega) (by show 0 ≤ 0; omega) Z0 (by omega) x1 x2 A_a1_0 hr)
theorem pd_4 : parseMethodDescriptor "([BII)I" = some ⟨[(.array .byte), .int, .int], some .int⟩ := by decide +kernel
theorem d14_0 : decode method_5_code 0 = .ok (.iload_n 3, 1) := by decide +kernel
theorem d14_1 : decode method_5_code 1 = .ok (.iload_n 1, 1) := by decide +kernel
theorem d14_2 : decode method_5_code 2 = .ok (.if_icmp .lt 20, 3) := by decide +kernel
theorem d14_5 : decode method_5_code 5 = .ok (.iload_n 3, 1) := by decide +kernel
theorem d14_6 : decode method_5_code 6 = .ok (.iload_n 2, 1) := by decide +kernel
theorem d14_7 : decode method_5_code 7 = .ok (.if_icmp .ge 15, 3) := by decide +kernel
theorem d14_10 : decode method_5_code 10 = .ok (.aload_n 0, 1) := by decide +kernel
theorem d14_11 : decode method_5_code 11 = .ok (.iload_n 3, 1) := by decide +kernel
theorem d14_12 : decode method_5_code 12 = .ok (.baload, 1) := by decide +kernel
theorem d14_13 : decode method_5_code 13 = .ok (.bipush 10, 2) := by decide +kernel
theorem d14_15 : decode method_5_code 15 = .ok (.if_icmp .ne 7, 3) := by decide +kernel
theorem d14_18 : decode method_5_code 18 = .ok (.iconst 1, 1) := by decide +kernel
theorem d14_19 : decode method_5_code 19 = .ok (.goto 4, 3) := by decide +kernel
theorem d14_22 : decode method_5_code 22 = .ok (.iconst 0, 1) := by decide +kernel
theorem d14_23 : decode method_5_code 23 = .ok (.ireturn, 1) := by decide +kernel
def P14 (Z : State) (hE : Heap) (a1 : Addr) (q_a1 : List Int32) (n0 : Nat) (r : Int32) (v : Option Value) (h : Heap) (L : List Loc) : Prop := v = some (.int r) ∧ Fr n0 L ∧ h = hE
def g14_0 (x1 : Int32) (x2 : Int32) (x3 : Int32) (q_a1 : List Int32) : Option (Int32) := (if x3 < x1 then some (0 : Int32) else (if x3 < x2 then ((rdO q_a1 x3).bind fun v3 => (if v3 = (10 : Int32) then some (1 : Int32) else some (0 : Int32))) else some (0 : Int32)))
set_option maxRecDepth 65536 in
set_option maxHeartbeats 4000000 in
theorem b14_0 {hE : Heap} {a1 : Addr} {q_a1 : List Int32} {r : Int32} (C : Ctx p s m meth c Z a0 "com/example/braid/braid/BodyLinesNextNotBlankPinLaw" method_5_code 4 (some .boolean) "nl") (X0 : Stand p l e ({ frames := 0, cells := 0, slots := 0, locals := 0 } : Room) s m args below meth c T0 locs cells slots) (e0 : T0.heap = hE) (N0 : Fr n0 locs) (hk : cells ≤ 0) (hn : slots ≤ 0) (Z1 : n0 ≤ hE.size) (o0 : n0 ≤ a1) (x1 : Int32) (x2 : Int32) (x3 : Int32) (A_a1_0 : AI Z hE a1 .byte q_a1) (hr : g14_0 x1 x2 x3 q_a1 = some r) :
    Runs p e below s (P14 Z hE a1 q_a1 n0 r) 0 0 T0 (mkF m 0 #[.val (.ref a1), .val (.int x1), .val (.int x2), .val (.int x3)] []) := by
  unfold g14_0 at hr
  have ⟨hx, hZ, hw, hby, hml, hown, hret, hlk, hnm⟩ := C
  refine Runs.via (T' := T0) (g' := (mkF m 2 #[.val (.ref a1), .val (.int x1), .val (.int x2), .val (.int x3)] [(.int x1), (.int x3)])) (fun t k => ?_) ?_
  · show Steps p.tables e below (T0.setTop (mkF m 0 #[.val (.ref a1), .val (.int x1), .val (.int x2), .val (.int x3)] [])) t
    refine XS.iloadN X0.here hx rfl (hb hby d14_0) rfl ?_
    show Steps p.tables e below (T0.setTop (mkF m 1 #[.val (.ref a1), .val (.int x1), .val (.int x2), .val (.int x3)] [(.int x3)])) t
    refine XS.iloadN X0.here hx rfl (hb hby d14_1) rfl ?_
    exact k
  refine iteE hr (fun hc1 hr => ?_) (fun hc1 hr => ?_)
  · refine Runs.via (T' := T0) (g' := (mkF m 22 #[.val (.ref a1), .val (.int x1), .val (.int x2), .val (.int x3)] [])) (fun t k => ?_) ?_
    · show Steps p.tables e below (T0.setTop (mkF m 2 #[.val (.ref a1), .val (.int x1), .val (.int x2), .val (.int x3)] [(.int x1), (.int x3)])) t
      exact XS.icmpYes X0.here hx rfl (pc0 := 2) (pc' := 22) rfl (hb hby d14_2) rfl (tlt hc1).1 (by decide) (by decide) k
    refine Runs.via (T' := T0) (g' := (mkF m 23 #[.val (.ref a1), .val (.int x1), .val (.int x2), .val (.int x3)] [(.int (0 : Int32))])) (fun t k => ?_) ?_
    · show Steps p.tables e below (T0.setTop (mkF m 22 #[.val (.ref a1), .val (.int x1), .val (.int x2), .val (.int x3)] [])) t
      refine XS.iconst X0.here hx rfl (hb hby d14_22) ?_
      exact k
    obtain rfl := Option.some.inj hr
    exact own_retN X0 hx hlk (t := .boolean) hret (by simp) (hb hby d14_23) (by show cells ≤ 0; omega) (by show slots ≤ 0; omega) ⟨rfl, N0, e0⟩
  · refine Runs.via (T' := T0) (g' := (mkF m 5 #[.val (.ref a1), .val (.int x1), .val (.int x2), .val (.int x3)] [])) (fun t k => ?_) ?_
    · show Steps p.tables e below (T0.setTop (mkF m 2 #[.val (.ref a1), .val (.int x1), .val (.int x2), .val (.int x3)] [(.int x1), (.int x3)])) t
      exact XS.icmpNo X0.here hx rfl (hb hby d14_2) rfl (flt hc1).1 k
    refine Runs.via (T' := T0) (g' := (mkF m 7 #[.val (.ref a1), .val (.int x1), .val (.int x2), .val (.int x3)] [(.int x2), (.int x3)])) (fun t k => ?_) ?_
    · show Steps p.tables e below (T0.setTop (mkF m 5 #[.val (.ref a1), .val (.int x1), .val (.int x2), .val (.int x3)] [])) t
      refine XS.iloadN X0.here hx rfl (hb hby d14_5) rfl ?_
      show Steps p.tables e below (T0.setTop (mkF m 6 #[.val (.ref a1), .val (.int x1), .val (.int x2), .val (.int x3)] [(.int x3)])) t
      refine XS.iloadN X0.here hx rfl (hb hby d14_6) rfl ?_
      exact k
    refine iteE hr (fun hc2 hr => ?_) (fun hc2 hr => ?_)
    · refine Runs.via (T' := T0) (g' := (mkF m 10 #[.val (.ref a1), .val (.int x1), .val (.int x2), .val (.int x3)] [])) (fun t k => ?_) ?_
      · show Steps p.tables e below (T0.setTop (mkF m 7 #[.val (.ref a1), .val (.int x1), .val (.int x2), .val (.int x3)] [(.int x2), (.int x3)])) t
        exact XS.icmpNo X0.here hx rfl (hb hby d14_7) rfl (tlt hc2).2.1 k
      refine Runs.via (T' := T0) (g' := (mkF m 12 #[.val (.ref a1), .val (.int x1), .val (.int x2), .val (.int x3)] [(.int x3), (.ref a1)])) (fun t k => ?_) ?_
      · show Steps p.tables e below (T0.setTop (mkF m 10 #[.val (.ref a1), .val (.int x1), .val (.int x2), .val (.int x3)] [])) t
        refine XS.aloadN X0.here hx rfl (hb hby d14_10) rfl rfl ?_
        show Steps p.tables e below (T0.setTop (mkF m 11 #[.val (.ref a1), .val (.int x1), .val (.int x2), .val (.int x3)] [(.ref a1)])) t
        refine XS.iloadN X0.here hx rfl (hb hby d14_11) rfl ?_
        exact k
      refine bindE hr ?_; intro v3 hv3 hr
      refine Runs.via (T' := T0) (g' := (mkF m 13 #[.val (.ref a1), .val (.int x1), .val (.int x2), .val (.int x3)] [(.int v3)])) (fun t k => ldB X0 hx hZ e0 A_a1_0 hv3 (g := (mkF m 12 #[.val (.ref a1), .val (.int x1), .val (.int x2), .val (.int x3)] [(.int x3), (.ref a1)])) rfl rfl (hb hby d14_12) _ k) ?_
      refine Runs.via (T' := T0) (g' := (mkF m 15 #[.val (.ref a1), .val (.int x1), .val (.int x2), .val (.int x3)] [(.int (10 : Int32)), (.int v3)])) (fun t k => ?_) ?_
      · show Steps p.tables e below (T0.setTop (mkF m 13 #[.val (.ref a1), .val (.int x1), .val (.int x2), .val (.int x3)] [(.int v3)])) t
        refine XS.bipush X0.here hx rfl (hb hby d14_13) ?_
        exact k
      refine iteE hr (fun hc4 hr => ?_) (fun hc4 hr => ?_)
      · refine Runs.via (T' := T0) (g' := (mkF m 18 #[.val (.ref a1), .val (.int x1), .val (.int x2), .val (.int x3)] [])) (fun t k => ?_) ?_
        · show Steps p.tables e below (T0.setTop (mkF m 15 #[.val (.ref a1), .val (.int x1), .val (.int x2), .val (.int x3)] [(.int (10 : Int32)), (.int v3)])) t
          exact XS.icmpNo X0.here hx rfl (hb hby d14_15) rfl (teq hc4).2 k
        refine Runs.via (T' := T0) (g' := (mkF m 23 #[.val (.ref a1), .val (.int x1), .val (.int x2), .val (.int x3)] [(.int (1 : Int32))])) (fun t k => ?_) ?_
        · show Steps p.tables e below (T0.setTop (mkF m 18 #[.val (.ref a1), .val (.int x1), .val (.int x2), .val (.int x3)] [])) t
          refine XS.iconst X0.here hx rfl (hb hby d14_18) ?_
          show Steps p.tables e below (T0.setTop (mkF m 19 #[.val (.ref a1), .val (.int x1), .val (.int x2), .val (.int x3)] [(.int (1 : Int32))])) t
          refine XS.goto X0.here hx rfl (pc0 := 19) (pc' := 23) rfl (hb hby d14_19) (by decide) (by decide) ?_
          exact k
        obtain rfl := Option.some.inj hr
        exact own_retN X0 hx hlk (t := .boolean) hret (by simp) (hb hby d14_23) (by show cells ≤ 0; omega) (by show slots ≤ 0; omega) ⟨rfl, N0, e0⟩
      · refine Runs.via (T' := T0) (g' := (mkF m 22 #[.val (.ref a1), .val (.int x1), .val (.int x2), .val (.int x3)] [])) (fun t k => ?_) ?_
        · show Steps p.tables e below (T0.setTop (mkF m 15 #[.val (.ref a1), .val (.int x1), .val (.int x2), .val (.int x3)] [(.int (10 : Int32)), (.int v3)])) t
          exact XS.icmpYes X0.here hx rfl (pc0 := 15) (pc' := 22) rfl (hb hby d14_15) rfl (feq hc4).2 (by decide) (by decide) k
        refine Runs.via (T' := T0) (g' := (mkF m 23 #[.val (.ref a1), .val (.int x1), .val (.int x2), .val (.int x3)] [(.int (0 : Int32))])) (fun t k => ?_) ?_
        · show Steps p.tables e below (T0.setTop (mkF m 22 #[.val (.ref a1), .val (.int x1), .val (.int x2), .val (.int x3)] [])) t
          refine XS.iconst X0.here hx rfl (hb hby d14_22) ?_
          exact k
        obtain rfl := Option.some.inj hr
        exact own_retN X0 hx hlk (t := .boolean) hret (by simp) (hb hby d14_23) (by show cells ≤ 0; omega) (by show slots ≤ 0; omega) ⟨rfl, N0, e0⟩
    · refine Runs.via (T' := T0) (g' := (mkF m 22 #[.val (.ref a1), .val (.int x1), .val (.int x2), .val (.int x3)] [])) (fun t k => ?_) ?_
      · show Steps p.tables e below (T0.setTop (mkF m 7 #[.val (.ref a1), .val (.int x1), .val (.int x2), .val (.int x3)] [(.int x2), (.int x3)])) t
        exact XS.icmpYes X0.here hx rfl (pc0 := 7) (pc' := 22) rfl (hb hby d14_7) rfl (flt hc2).2.1 (by decide) (by decide) k
      refine Runs.via (T' := T0) (g' := (mkF m 23 #[.val (.ref a1), .val (.int x1), .val (.int x2), .val (.int x3)] [(.int (0 : Int32))])) (fun t k => ?_) ?_
      · show Steps p.tables e below (T0.setTop (mkF m 22 #[.val (.ref a1), .val (.int x1), .val (.int x2), .val (.int x3)] [])) t
        refine XS.iconst X0.here hx rfl (hb hby d14_22) ?_
        exact k
      obtain rfl := Option.some.inj hr
      exact own_retN X0 hx hlk (t := .boolean) hret (by simp) (hb hby d14_23) (by show cells ≤ 0; omega) (by show slots ≤ 0; omega) ⟨rfl, N0, e0⟩
def f14 (x1 : Int32) (x2 : Int32) (x3 : Int32) (q_a1 : List Int32) : Option (Int32) := g14_0 x1 x2 x3 q_a1
theorem pn_14 : plainName "com/example/braid/braid/BodyLinesNextNotBlankPinLaw" = true := by first | (simp [plainName, overriddenIn]; done) | decide +kernel
theorem ef_14 (m : MethodId) (x1 : Int32) (x2 : Int32) (x3 : Int32) (a1 : Addr) : entryFrame m #[(.ref a1), (.int x1), (.int x2), (.int x3)] 4 = mkF m 0 #[.val (.ref a1), .val (.int x1), .val (.int x2), .val (.int x3)] [] := by first | (simp [entryFrame, mkF, argsToLocals, Value.category]; done) | rfl
set_option maxRecDepth 65536 in
set_option maxHeartbeats 4000000 in
theorem rm14 (l : Launch) (Z : State) (a0 : Array Value) (hw : ∀ d ∈ tables_1, d.before a0 Z = true) (ws : List Jvm.Cond) (x1 : Int32) (x2 : Int32) (x3 : Int32) (a1 : Addr) (q_a1 : List Int32) (hE : Heap) (n0 : Nat) (Z0 : n0 ≤ hE.size) (o0 : n0 ≤ a1) (A_a1_0 : AI Z hE a1 .byte q_a1) (r : Int32) (hr : f14 x1 x2 x3 q_a1 = some r) :
    MetFree l (⟨"com/example/braid/braid/BodyLinesNextNotBlankPinLaw", "nl", "([BIII)Z"⟩ : MethodName) (head1 (Jvm.Cond.code (⟨"com/example/braid/braid/BodyLinesNextNotBlankPinLaw", "nl", "([BIII)Z"⟩ : MethodName) method_5_code 4 (some .boolean) :: ws) ({ frames := 0, cells := 0, slots := 0, locals := 0 } : Room)) (fun a U => a = #[(.ref a1), (.int x1), (.int x2), (.int x3)] ∧ Z.Warmed39 U.vm ∧ U.heap = hE) (fun _ _ _ _ _ => True) (fun _ U o U' => ∃ v L, o = .returned v ∧ (P14 Z hE a1 q_a1 n0 r v U'.heap L) ∧ FrameEnd U o U' L ({ frames := 0, cells := 0, slots := 0, locals := 0 } : Room).cells ({ frames := 0, cells := 0, slots := 0, locals := 0 } : Room).slots) := by
  refine MetFree.of_bodySF (plainFor_of_name pn_14) hisR ?_
  intro p e s m args below meth c s₁ Bd hml0 hP hK
  obtain ⟨rfl, hZ, hh⟩ := hP
  have X0 : Stand p l e ({ frames := 0, cells := 0, slots := 0, locals := 0 } : Room) s m #[(.ref a1), (.int x1), (.int x2), (.int x3)] below meth c s₁ [] 0 0 := Stand.of_body Bd
  have e0 : s₁.heap = hE := by rw [← hh, Bd.state]; rfl
  have C : Ctx p s m meth c Z a0 "com/example/braid/braid/BodyLinesNextNotBlankPinLaw" method_5_code 4 (some .boolean) "nl" := ⟨Bd.exec, hZ, hw, Bd.bytes, hml0, findClass_of_methodNamed Bd.named, Bd.returns, BodyLoose.notSynchronized Bd, (name_of_methodNamed Bd.named Bd.method).1⟩
  refine Runs.via (fun t k => castTop (ef_14 m x1 x2 x3 a1) k) (b14_0 C X0 e0 (Fr.nil n0) (by show 0 ≤ 0; omega) (by show 0 ≤ 0; omega) Z0 (by omega) x1 x2 x3 A_a1_0 hr)
theorem d13_0 : decode method_6_code 0 = .ok (.aload_n 0, 1) := by decide +kernel
theorem d13_1 : decode method_6_code 1 = .ok (.iload_n 1, 1) := by decide +kernel
theorem d13_2 : decode method_6_code 2 = .ok (.iload_n 2, 1) := by decide +kernel
theorem d13_3 : decode method_6_code 3 = .ok (.iconst 4, 1) := by decide +kernel
theorem d13_4 : decode method_6_code 4 = .ok (.invokestatic 13, 3) := by decide +kernel
theorem d13_7 : decode method_6_code 7 = .ok (.ifCond .eq 5, 3) := by decide +kernel
theorem d13_10 : decode method_6_code 10 = .ok (.iconst 4, 1) := by decide +kernel
theorem d13_11 : decode method_6_code 11 = .ok (.ireturn, 1) := by decide +kernel
theorem d13_12 : decode method_6_code 12 = .ok (.aload_n 0, 1) := by decide +kernel
theorem d13_13 : decode method_6_code 13 = .ok (.iload_n 1, 1) := by decide +kernel
theorem d13_14 : decode method_6_code 14 = .ok (.iload_n 2, 1) := by decide +kernel
theorem d13_15 : decode method_6_code 15 = .ok (.iconst 3, 1) := by decide +kernel
theorem d13_16 : decode method_6_code 16 = .ok (.invokestatic 13, 3) := by decide +kernel
theorem d13_19 : decode method_6_code 19 = .ok (.ifCond .eq 5, 3) := by decide +kernel
theorem d13_22 : decode method_6_code 22 = .ok (.iconst 3, 1) := by decide +kernel
theorem d13_23 : decode method_6_code 23 = .ok (.ireturn, 1) := by decide +kernel
theorem d13_24 : decode method_6_code 24 = .ok (.aload_n 0, 1) := by decide +kernel
theorem d13_25 : decode method_6_code 25 = .ok (.iload_n 1, 1) := by decide +kernel
theorem d13_26 : decode method_6_code 26 = .ok (.iload_n 2, 1) := by decide +kernel
theorem d13_27 : decode method_6_code 27 = .ok (.iconst 2, 1) := by decide +kernel
theorem d13_28 : decode method_6_code 28 = .ok (.invokestatic 13, 3) := by decide +kernel
theorem d13_31 : decode method_6_code 31 = .ok (.ifCond .eq 5, 3) := by decide +kernel
theorem d13_34 : decode method_6_code 34 = .ok (.iconst 2, 1) := by decide +kernel
theorem d13_35 : decode method_6_code 35 = .ok (.ireturn, 1) := by decide +kernel
theorem d13_36 : decode method_6_code 36 = .ok (.aload_n 0, 1) := by decide +kernel
theorem d13_37 : decode method_6_code 37 = .ok (.iload_n 1, 1) := by decide +kernel
theorem d13_38 : decode method_6_code 38 = .ok (.iload_n 2, 1) := by decide +kernel
theorem d13_39 : decode method_6_code 39 = .ok (.iconst 1, 1) := by decide +kernel
theorem d13_40 : decode method_6_code 40 = .ok (.invokestatic 13, 3) := by decide +kernel
theorem d13_43 : decode method_6_code 43 = .ok (.ifCond .eq 5, 3) := by decide +kernel
theorem d13_46 : decode method_6_code 46 = .ok (.iconst 1, 1) := by decide +kernel
theorem d13_47 : decode method_6_code 47 = .ok (.ireturn, 1) := by decide +kernel
theorem d13_48 : decode method_6_code 48 = .ok (.aload_n 0, 1) := by decide +kernel
theorem d13_49 : decode method_6_code 49 = .ok (.iload_n 1, 1) := by decide +kernel
theorem d13_50 : decode method_6_code 50 = .ok (.iload_n 2, 1) := by decide +kernel
theorem d13_51 : decode method_6_code 51 = .ok (.iconst 0, 1) := by decide +kernel
theorem d13_52 : decode method_6_code 52 = .ok (.invokestatic 13, 3) := by decide +kernel
theorem d13_55 : decode method_6_code 55 = .ok (.ifCond .eq 5, 3) := by decide +kernel
theorem d13_58 : decode method_6_code 58 = .ok (.iconst 0, 1) := by decide +kernel
theorem d13_59 : decode method_6_code 59 = .ok (.ireturn, 1) := by decide +kernel
theorem d13_60 : decode method_6_code 60 = .ok (.iconst (-1), 1) := by decide +kernel
theorem d13_61 : decode method_6_code 61 = .ok (.ireturn, 1) := by decide +kernel
def P13 (Z : State) (hE : Heap) (a1 : Addr) (q_a1 : List Int32) (n0 : Nat) (r : Int32) (v : Option Value) (h : Heap) (L : List Loc) : Prop := v = some (.int r) ∧ Fr n0 L ∧ h = hE
def g13_0 (x1 : Int32) (x2 : Int32) (q_a1 : List Int32) : Option (Int32) := ((f14 x1 x2 (4 : Int32) q_a1).bind fun r1 => (if r1 = (0 : Int32) then ((f14 x1 x2 (3 : Int32) q_a1).bind fun r3 => (if r3 = (0 : Int32) then ((f14 x1 x2 (2 : Int32) q_a1).bind fun r5 => (if r5 = (0 : Int32) then ((f14 x1 x2 (1 : Int32) q_a1).bind fun r7 => (if r7 = (0 : Int32) then ((f14 x1 x2 (0 : Int32) q_a1).bind fun r9 => (if r9 = (0 : Int32) then some (-1 : Int32) else some (0 : Int32))) else some (1 : Int32))) else some (2 : Int32))) else some (3 : Int32))) else some (4 : Int32)))
set_option maxRecDepth 65536 in
set_option maxHeartbeats 4000000 in
theorem b13_0 {hE : Heap} {a1 : Addr} {q_a1 : List Int32} {r : Int32} (C : Ctx p s m meth c Z a0 "com/example/braid/braid/BodyLinesNextNotBlankPinLaw" method_6_code 3 (some .int) "lastNL") (X0 : Stand p l e ({ frames := 1, cells := 0, slots := 0, locals := 15 } : Room) s m args below meth c T0 locs cells slots) (e0 : T0.heap = hE) (N0 : Fr n0 locs) (hk : cells ≤ 0) (hn : slots ≤ 0) (Z1 : n0 ≤ hE.size) (o0 : n0 ≤ a1) (x1 : Int32) (x2 : Int32) (A_a1_0 : AI Z hE a1 .byte q_a1) (hr : g13_0 x1 x2 q_a1 = some r) :
    Runs p e below s (P13 Z hE a1 q_a1 n0 r) 0 0 T0 (mkF m 0 #[.val (.ref a1), .val (.int x1), .val (.int x2)] []) := by
  unfold g13_0 at hr
  have ⟨hx, hZ, hw, hby, hml, hown, hret, hlk, hnm⟩ := C
  refine Runs.via (T' := T0) (g' := (mkF m 4 #[.val (.ref a1), .val (.int x1), .val (.int x2)] [(.int (4 : Int32)), (.int x2), (.int x1), (.ref a1)])) (fun t k => ?_) ?_
  · show Steps p.tables e below (T0.setTop (mkF m 0 #[.val (.ref a1), .val (.int x1), .val (.int x2)] [])) t
    refine XS.aloadN X0.here hx rfl (hb hby d13_0) rfl rfl ?_
    show Steps p.tables e below (T0.setTop (mkF m 1 #[.val (.ref a1), .val (.int x1), .val (.int x2)] [(.ref a1)])) t
    refine XS.iloadN X0.here hx rfl (hb hby d13_1) rfl ?_
    show Steps p.tables e below (T0.setTop (mkF m 2 #[.val (.ref a1), .val (.int x1), .val (.int x2)] [(.int x1), (.ref a1)])) t
    refine XS.iloadN X0.here hx rfl (hb hby d13_2) rfl ?_
    show Steps p.tables e below (T0.setTop (mkF m 3 #[.val (.ref a1), .val (.int x1), .val (.int x2)] [(.int x2), (.int x1), (.ref a1)])) t
    refine XS.iconst X0.here hx rfl (hb hby d13_3) ?_
    exact k
  refine bindE hr ?_; intro r1 hr1m hr
  obtain ⟨_, _, ⟨T1, L1, k1, n1⟩, -, X1, ⟨Lc1, hQ1, l1, y1, z1⟩, st1⟩ := Jvm.LawKit.callS X0 hx (y := (⟨"com/example/braid/braid/BodyLinesNextNotBlankPinLaw", "nl", "([BIII)Z"⟩ : MethodName)) hown (mvT hZ (hw _ (List.mem_of_getElem? (i := 64) rfl))) (mvT hZ (hw _ (List.mem_of_getElem? (i := 65) rfl))) (mvT hZ (hw _ (List.mem_of_getElem? (i := 4) rfl))) (mvT hZ (hw _ (List.mem_of_getElem? (i := 66) rfl))) (by decide) (backOf (W := 0) (rm14 l Z a0 hw [] x1 x2 (4 : Int32) a1 q_a1 hE n0 Z1 (by omega) A_a1_0 r1 hr1m) hZ (hw _ (List.mem_of_getElem? (i := 66) rfl)) (hw _ (List.mem_of_getElem? (i := 4) rfl)) (by decide) (by decide)) (g := (mkF m 4 #[.val (.ref a1), .val (.int x1), .val (.int x2)] [(.int (4 : Int32)), (.int x2), (.int x1), (.ref a1)])) rfl (by rw [hml]; rfl) (argsL := [(.ref a1), (.int x1), (.int x2), (.int (4 : Int32))]) (rest := []) (lenOf pd_3 rfl) rfl (by show 2 * 0 + _ ≤ _; exact Nat.le_of_eq rfl) (hb hby d13_4) (fun _ _ => ⟨rfl, e0, (by show cells + 0 ≤ 0; omega), (by show slots + 0 ≤ 0; omega)⟩)
  dsimp only [Pt.U, Pt.locs, Pt.cells, Pt.slots] at X1 l1 y1 z1 st1 hQ1
  replace y1 := y1.symm; replace z1 := z1.symm; subst l1 y1 z1
  obtain ⟨rfl, N1q, e1⟩ := hQ1
  have N1 := Fr.app N0 N1q
  refine Runs.via (T' := T1) (g' := (mkF m 7 #[.val (.ref a1), .val (.int x1), .val (.int x2)] [(.int r1)])) (fun t k => st1 _ k) ?_
  refine iteE hr (fun hc2 hr => ?_) (fun hc2 hr => ?_)
  · refine Runs.via (T' := T1) (g' := (mkF m 12 #[.val (.ref a1), .val (.int x1), .val (.int x2)] [])) (fun t k => ?_) ?_
    · show Steps p.tables e below (T1.setTop (mkF m 7 #[.val (.ref a1), .val (.int x1), .val (.int x2)] [(.int r1)])) t
      exact XS.ifYes X1.here hx rfl (pc0 := 7) (pc' := 12) rfl (hb hby d13_7) rfl ((if0 _ _).trans (teq hc2).1) (by decide) (by decide) k
    refine Runs.via (T' := T1) (g' := (mkF m 16 #[.val (.ref a1), .val (.int x1), .val (.int x2)] [(.int (3 : Int32)), (.int x2), (.int x1), (.ref a1)])) (fun t k => ?_) ?_
    · show Steps p.tables e below (T1.setTop (mkF m 12 #[.val (.ref a1), .val (.int x1), .val (.int x2)] [])) t
      refine XS.aloadN X1.here hx rfl (hb hby d13_12) rfl rfl ?_
      show Steps p.tables e below (T1.setTop (mkF m 13 #[.val (.ref a1), .val (.int x1), .val (.int x2)] [(.ref a1)])) t
      refine XS.iloadN X1.here hx rfl (hb hby d13_13) rfl ?_
      show Steps p.tables e below (T1.setTop (mkF m 14 #[.val (.ref a1), .val (.int x1), .val (.int x2)] [(.int x1), (.ref a1)])) t
      refine XS.iloadN X1.here hx rfl (hb hby d13_14) rfl ?_
      show Steps p.tables e below (T1.setTop (mkF m 15 #[.val (.ref a1), .val (.int x1), .val (.int x2)] [(.int x2), (.int x1), (.ref a1)])) t
      refine XS.iconst X1.here hx rfl (hb hby d13_15) ?_
      exact k
    refine bindE hr ?_; intro r3 hr3m hr
    obtain ⟨_, _, ⟨T3, L3, k3, n3⟩, -, X3, ⟨Lc3, hQ3, l3, y3, z3⟩, st3⟩ := Jvm.LawKit.callS X1 hx (y := (⟨"com/example/braid/braid/BodyLinesNextNotBlankPinLaw", "nl", "([BIII)Z"⟩ : MethodName)) hown (mvT hZ (hw _ (List.mem_of_getElem? (i := 64) rfl))) (mvT hZ (hw _ (List.mem_of_getElem? (i := 65) rfl))) (mvT hZ (hw _ (List.mem_of_getElem? (i := 4) rfl))) (mvT hZ (hw _ (List.mem_of_getElem? (i := 66) rfl))) (by decide) (backOf (W := 0) (rm14 l Z a0 hw [] x1 x2 (3 : Int32) a1 q_a1 hE n0 Z1 (by omega) A_a1_0 r3 hr3m) hZ (hw _ (List.mem_of_getElem? (i := 66) rfl)) (hw _ (List.mem_of_getElem? (i := 4) rfl)) (by decide) (by decide)) (g := (mkF m 16 #[.val (.ref a1), .val (.int x1), .val (.int x2)] [(.int (3 : Int32)), (.int x2), (.int x1), (.ref a1)])) rfl (by rw [hml]; rfl) (argsL := [(.ref a1), (.int x1), (.int x2), (.int (3 : Int32))]) (rest := []) (lenOf pd_3 rfl) rfl (by show 2 * 0 + _ ≤ _; exact Nat.le_of_eq rfl) (hb hby d13_16) (fun _ _ => ⟨rfl, e1, (by show (cells + 0) + 0 ≤ 0; omega), (by show (slots + 0) + 0 ≤ 0; omega)⟩)
    dsimp only [Pt.U, Pt.locs, Pt.cells, Pt.slots] at X3 l3 y3 z3 st3 hQ3
    replace y3 := y3.symm; replace z3 := z3.symm; subst l3 y3 z3
    obtain ⟨rfl, N3q, e3⟩ := hQ3
    have N3 := Fr.app N1 N3q
    refine Runs.via (T' := T3) (g' := (mkF m 19 #[.val (.ref a1), .val (.int x1), .val (.int x2)] [(.int r3)])) (fun t k => st3 _ k) ?_
    refine iteE hr (fun hc4 hr => ?_) (fun hc4 hr => ?_)
    · refine Runs.via (T' := T3) (g' := (mkF m 24 #[.val (.ref a1), .val (.int x1), .val (.int x2)] [])) (fun t k => ?_) ?_
      · show Steps p.tables e below (T3.setTop (mkF m 19 #[.val (.ref a1), .val (.int x1), .val (.int x2)] [(.int r3)])) t
        exact XS.ifYes X3.here hx rfl (pc0 := 19) (pc' := 24) rfl (hb hby d13_19) rfl ((if0 _ _).trans (teq hc4).1) (by decide) (by decide) k
      refine Runs.via (T' := T3) (g' := (mkF m 28 #[.val (.ref a1), .val (.int x1), .val (.int x2)] [(.int (2 : Int32)), (.int x2), (.int x1), (.ref a1)])) (fun t k => ?_) ?_
      · show Steps p.tables e below (T3.setTop (mkF m 24 #[.val (.ref a1), .val (.int x1), .val (.int x2)] [])) t
        refine XS.aloadN X3.here hx rfl (hb hby d13_24) rfl rfl ?_
        show Steps p.tables e below (T3.setTop (mkF m 25 #[.val (.ref a1), .val (.int x1), .val (.int x2)] [(.ref a1)])) t
        refine XS.iloadN X3.here hx rfl (hb hby d13_25) rfl ?_
        show Steps p.tables e below (T3.setTop (mkF m 26 #[.val (.ref a1), .val (.int x1), .val (.int x2)] [(.int x1), (.ref a1)])) t
        refine XS.iloadN X3.here hx rfl (hb hby d13_26) rfl ?_
        show Steps p.tables e below (T3.setTop (mkF m 27 #[.val (.ref a1), .val (.int x1), .val (.int x2)] [(.int x2), (.int x1), (.ref a1)])) t
        refine XS.iconst X3.here hx rfl (hb hby d13_27) ?_
        exact k
      refine bindE hr ?_; intro r5 hr5m hr
      obtain ⟨_, _, ⟨T5, L5, k5, n5⟩, -, X5, ⟨Lc5, hQ5, l5, y5, z5⟩, st5⟩ := Jvm.LawKit.callS X3 hx (y := (⟨"com/example/braid/braid/BodyLinesNextNotBlankPinLaw", "nl", "([BIII)Z"⟩ : MethodName)) hown (mvT hZ (hw _ (List.mem_of_getElem? (i := 64) rfl))) (mvT hZ (hw _ (List.mem_of_getElem? (i := 65) rfl))) (mvT hZ (hw _ (List.mem_of_getElem? (i := 4) rfl))) (mvT hZ (hw _ (List.mem_of_getElem? (i := 66) rfl))) (by decide) (backOf (W := 0) (rm14 l Z a0 hw [] x1 x2 (2 : Int32) a1 q_a1 hE n0 Z1 (by omega) A_a1_0 r5 hr5m) hZ (hw _ (List.mem_of_getElem? (i := 66) rfl)) (hw _ (List.mem_of_getElem? (i := 4) rfl)) (by decide) (by decide)) (g := (mkF m 28 #[.val (.ref a1), .val (.int x1), .val (.int x2)] [(.int (2 : Int32)), (.int x2), (.int x1), (.ref a1)])) rfl (by rw [hml]; rfl) (argsL := [(.ref a1), (.int x1), (.int x2), (.int (2 : Int32))]) (rest := []) (lenOf pd_3 rfl) rfl (by show 2 * 0 + _ ≤ _; exact Nat.le_of_eq rfl) (hb hby d13_28) (fun _ _ => ⟨rfl, e3, (by show ((cells + 0) + 0) + 0 ≤ 0; omega), (by show ((slots + 0) + 0) + 0 ≤ 0; omega)⟩)
      dsimp only [Pt.U, Pt.locs, Pt.cells, Pt.slots] at X5 l5 y5 z5 st5 hQ5
      replace y5 := y5.symm; replace z5 := z5.symm; subst l5 y5 z5
      obtain ⟨rfl, N5q, e5⟩ := hQ5
      have N5 := Fr.app N3 N5q
      refine Runs.via (T' := T5) (g' := (mkF m 31 #[.val (.ref a1), .val (.int x1), .val (.int x2)] [(.int r5)])) (fun t k => st5 _ k) ?_
      refine iteE hr (fun hc6 hr => ?_) (fun hc6 hr => ?_)
      · refine Runs.via (T' := T5) (g' := (mkF m 36 #[.val (.ref a1), .val (.int x1), .val (.int x2)] [])) (fun t k => ?_) ?_
        · show Steps p.tables e below (T5.setTop (mkF m 31 #[.val (.ref a1), .val (.int x1), .val (.int x2)] [(.int r5)])) t
          exact XS.ifYes X5.here hx rfl (pc0 := 31) (pc' := 36) rfl (hb hby d13_31) rfl ((if0 _ _).trans (teq hc6).1) (by decide) (by decide) k
        refine Runs.via (T' := T5) (g' := (mkF m 40 #[.val (.ref a1), .val (.int x1), .val (.int x2)] [(.int (1 : Int32)), (.int x2), (.int x1), (.ref a1)])) (fun t k => ?_) ?_
        · show Steps p.tables e below (T5.setTop (mkF m 36 #[.val (.ref a1), .val (.int x1), .val (.int x2)] [])) t
          refine XS.aloadN X5.here hx rfl (hb hby d13_36) rfl rfl ?_
          show Steps p.tables e below (T5.setTop (mkF m 37 #[.val (.ref a1), .val (.int x1), .val (.int x2)] [(.ref a1)])) t
          refine XS.iloadN X5.here hx rfl (hb hby d13_37) rfl ?_
          show Steps p.tables e below (T5.setTop (mkF m 38 #[.val (.ref a1), .val (.int x1), .val (.int x2)] [(.int x1), (.ref a1)])) t
          refine XS.iloadN X5.here hx rfl (hb hby d13_38) rfl ?_
          show Steps p.tables e below (T5.setTop (mkF m 39 #[.val (.ref a1), .val (.int x1), .val (.int x2)] [(.int x2), (.int x1), (.ref a1)])) t
          refine XS.iconst X5.here hx rfl (hb hby d13_39) ?_
          exact k
        refine bindE hr ?_; intro r7 hr7m hr
        obtain ⟨_, _, ⟨T7, L7, k7, n7⟩, -, X7, ⟨Lc7, hQ7, l7, y7, z7⟩, st7⟩ := Jvm.LawKit.callS X5 hx (y := (⟨"com/example/braid/braid/BodyLinesNextNotBlankPinLaw", "nl", "([BIII)Z"⟩ : MethodName)) hown (mvT hZ (hw _ (List.mem_of_getElem? (i := 64) rfl))) (mvT hZ (hw _ (List.mem_of_getElem? (i := 65) rfl))) (mvT hZ (hw _ (List.mem_of_getElem? (i := 4) rfl))) (mvT hZ (hw _ (List.mem_of_getElem? (i := 66) rfl))) (by decide) (backOf (W := 0) (rm14 l Z a0 hw [] x1 x2 (1 : Int32) a1 q_a1 hE n0 Z1 (by omega) A_a1_0 r7 hr7m) hZ (hw _ (List.mem_of_getElem? (i := 66) rfl)) (hw _ (List.mem_of_getElem? (i := 4) rfl)) (by decide) (by decide)) (g := (mkF m 40 #[.val (.ref a1), .val (.int x1), .val (.int x2)] [(.int (1 : Int32)), (.int x2), (.int x1), (.ref a1)])) rfl (by rw [hml]; rfl) (argsL := [(.ref a1), (.int x1), (.int x2), (.int (1 : Int32))]) (rest := []) (lenOf pd_3 rfl) rfl (by show 2 * 0 + _ ≤ _; exact Nat.le_of_eq rfl) (hb hby d13_40) (fun _ _ => ⟨rfl, e5, (by show (((cells + 0) + 0) + 0) + 0 ≤ 0; omega), (by show (((slots + 0) + 0) + 0) + 0 ≤ 0; omega)⟩)
        dsimp only [Pt.U, Pt.locs, Pt.cells, Pt.slots] at X7 l7 y7 z7 st7 hQ7
        replace y7 := y7.symm; replace z7 := z7.symm; subst l7 y7 z7
        obtain ⟨rfl, N7q, e7⟩ := hQ7
        have N7 := Fr.app N5 N7q
        refine Runs.via (T' := T7) (g' := (mkF m 43 #[.val (.ref a1), .val (.int x1), .val (.int x2)] [(.int r7)])) (fun t k => st7 _ k) ?_
        refine iteE hr (fun hc8 hr => ?_) (fun hc8 hr => ?_)
        · refine Runs.via (T' := T7) (g' := (mkF m 48 #[.val (.ref a1), .val (.int x1), .val (.int x2)] [])) (fun t k => ?_) ?_
          · show Steps p.tables e below (T7.setTop (mkF m 43 #[.val (.ref a1), .val (.int x1), .val (.int x2)] [(.int r7)])) t
            exact XS.ifYes X7.here hx rfl (pc0 := 43) (pc' := 48) rfl (hb hby d13_43) rfl ((if0 _ _).trans (teq hc8).1) (by decide) (by decide) k
          refine Runs.via (T' := T7) (g' := (mkF m 52 #[.val (.ref a1), .val (.int x1), .val (.int x2)] [(.int (0 : Int32)), (.int x2), (.int x1), (.ref a1)])) (fun t k => ?_) ?_
          · show Steps p.tables e below (T7.setTop (mkF m 48 #[.val (.ref a1), .val (.int x1), .val (.int x2)] [])) t
            refine XS.aloadN X7.here hx rfl (hb hby d13_48) rfl rfl ?_
            show Steps p.tables e below (T7.setTop (mkF m 49 #[.val (.ref a1), .val (.int x1), .val (.int x2)] [(.ref a1)])) t
            refine XS.iloadN X7.here hx rfl (hb hby d13_49) rfl ?_
            show Steps p.tables e below (T7.setTop (mkF m 50 #[.val (.ref a1), .val (.int x1), .val (.int x2)] [(.int x1), (.ref a1)])) t
            refine XS.iloadN X7.here hx rfl (hb hby d13_50) rfl ?_
            show Steps p.tables e below (T7.setTop (mkF m 51 #[.val (.ref a1), .val (.int x1), .val (.int x2)] [(.int x2), (.int x1), (.ref a1)])) t
            refine XS.iconst X7.here hx rfl (hb hby d13_51) ?_
            exact k
          refine bindE hr ?_; intro r9 hr9m hr
          obtain ⟨_, _, ⟨T9, L9, k9, n9⟩, -, X9, ⟨Lc9, hQ9, l9, y9, z9⟩, st9⟩ := Jvm.LawKit.callS X7 hx (y := (⟨"com/example/braid/braid/BodyLinesNextNotBlankPinLaw", "nl", "([BIII)Z"⟩ : MethodName)) hown (mvT hZ (hw _ (List.mem_of_getElem? (i := 64) rfl))) (mvT hZ (hw _ (List.mem_of_getElem? (i := 65) rfl))) (mvT hZ (hw _ (List.mem_of_getElem? (i := 4) rfl))) (mvT hZ (hw _ (List.mem_of_getElem? (i := 66) rfl))) (by decide) (backOf (W := 0) (rm14 l Z a0 hw [] x1 x2 (0 : Int32) a1 q_a1 hE n0 Z1 (by omega) A_a1_0 r9 hr9m) hZ (hw _ (List.mem_of_getElem? (i := 66) rfl)) (hw _ (List.mem_of_getElem? (i := 4) rfl)) (by decide) (by decide)) (g := (mkF m 52 #[.val (.ref a1), .val (.int x1), .val (.int x2)] [(.int (0 : Int32)), (.int x2), (.int x1), (.ref a1)])) rfl (by rw [hml]; rfl) (argsL := [(.ref a1), (.int x1), (.int x2), (.int (0 : Int32))]) (rest := []) (lenOf pd_3 rfl) rfl (by show 2 * 0 + _ ≤ _; exact Nat.le_of_eq rfl) (hb hby d13_52) (fun _ _ => ⟨rfl, e7, (by show ((((cells + 0) + 0) + 0) + 0) + 0 ≤ 0; omega), (by show ((((slots + 0) + 0) + 0) + 0) + 0 ≤ 0; omega)⟩)
          dsimp only [Pt.U, Pt.locs, Pt.cells, Pt.slots] at X9 l9 y9 z9 st9 hQ9
          replace y9 := y9.symm; replace z9 := z9.symm; subst l9 y9 z9
          obtain ⟨rfl, N9q, e9⟩ := hQ9
          have N9 := Fr.app N7 N9q
          refine Runs.via (T' := T9) (g' := (mkF m 55 #[.val (.ref a1), .val (.int x1), .val (.int x2)] [(.int r9)])) (fun t k => st9 _ k) ?_
          refine iteE hr (fun hc10 hr => ?_) (fun hc10 hr => ?_)
          · refine Runs.via (T' := T9) (g' := (mkF m 60 #[.val (.ref a1), .val (.int x1), .val (.int x2)] [])) (fun t k => ?_) ?_
            · show Steps p.tables e below (T9.setTop (mkF m 55 #[.val (.ref a1), .val (.int x1), .val (.int x2)] [(.int r9)])) t
              exact XS.ifYes X9.here hx rfl (pc0 := 55) (pc' := 60) rfl (hb hby d13_55) rfl ((if0 _ _).trans (teq hc10).1) (by decide) (by decide) k
            refine Runs.via (T' := T9) (g' := (mkF m 61 #[.val (.ref a1), .val (.int x1), .val (.int x2)] [(.int (-1 : Int32))])) (fun t k => ?_) ?_
            · show Steps p.tables e below (T9.setTop (mkF m 60 #[.val (.ref a1), .val (.int x1), .val (.int x2)] [])) t
              refine XS.iconst X9.here hx rfl (hb hby d13_60) ?_
              exact k
            obtain rfl := Option.some.inj hr
            exact own_retI X9 hx hlk hret (hb hby d13_61) (by show (((((cells + 0) + 0) + 0) + 0) + 0) ≤ 0; omega) (by show (((((slots + 0) + 0) + 0) + 0) + 0) ≤ 0; omega) ⟨rfl, N9, e9⟩
          · refine Runs.via (T' := T9) (g' := (mkF m 58 #[.val (.ref a1), .val (.int x1), .val (.int x2)] [])) (fun t k => ?_) ?_
            · show Steps p.tables e below (T9.setTop (mkF m 55 #[.val (.ref a1), .val (.int x1), .val (.int x2)] [(.int r9)])) t
              exact XS.ifNo X9.here hx rfl (hb hby d13_55) rfl ((if0 _ _).trans (feq hc10).1) k
            refine Runs.via (T' := T9) (g' := (mkF m 59 #[.val (.ref a1), .val (.int x1), .val (.int x2)] [(.int (0 : Int32))])) (fun t k => ?_) ?_
            · show Steps p.tables e below (T9.setTop (mkF m 58 #[.val (.ref a1), .val (.int x1), .val (.int x2)] [])) t
              refine XS.iconst X9.here hx rfl (hb hby d13_58) ?_
              exact k
            obtain rfl := Option.some.inj hr
            exact own_retI X9 hx hlk hret (hb hby d13_59) (by show (((((cells + 0) + 0) + 0) + 0) + 0) ≤ 0; omega) (by show (((((slots + 0) + 0) + 0) + 0) + 0) ≤ 0; omega) ⟨rfl, N9, e9⟩
        · refine Runs.via (T' := T7) (g' := (mkF m 46 #[.val (.ref a1), .val (.int x1), .val (.int x2)] [])) (fun t k => ?_) ?_
          · show Steps p.tables e below (T7.setTop (mkF m 43 #[.val (.ref a1), .val (.int x1), .val (.int x2)] [(.int r7)])) t
            exact XS.ifNo X7.here hx rfl (hb hby d13_43) rfl ((if0 _ _).trans (feq hc8).1) k
          refine Runs.via (T' := T7) (g' := (mkF m 47 #[.val (.ref a1), .val (.int x1), .val (.int x2)] [(.int (1 : Int32))])) (fun t k => ?_) ?_
          · show Steps p.tables e below (T7.setTop (mkF m 46 #[.val (.ref a1), .val (.int x1), .val (.int x2)] [])) t
            refine XS.iconst X7.here hx rfl (hb hby d13_46) ?_
            exact k
          obtain rfl := Option.some.inj hr
          exact own_retI X7 hx hlk hret (hb hby d13_47) (by show ((((cells + 0) + 0) + 0) + 0) ≤ 0; omega) (by show ((((slots + 0) + 0) + 0) + 0) ≤ 0; omega) ⟨rfl, N7, e7⟩
      · refine Runs.via (T' := T5) (g' := (mkF m 34 #[.val (.ref a1), .val (.int x1), .val (.int x2)] [])) (fun t k => ?_) ?_
        · show Steps p.tables e below (T5.setTop (mkF m 31 #[.val (.ref a1), .val (.int x1), .val (.int x2)] [(.int r5)])) t
          exact XS.ifNo X5.here hx rfl (hb hby d13_31) rfl ((if0 _ _).trans (feq hc6).1) k
        refine Runs.via (T' := T5) (g' := (mkF m 35 #[.val (.ref a1), .val (.int x1), .val (.int x2)] [(.int (2 : Int32))])) (fun t k => ?_) ?_
        · show Steps p.tables e below (T5.setTop (mkF m 34 #[.val (.ref a1), .val (.int x1), .val (.int x2)] [])) t
          refine XS.iconst X5.here hx rfl (hb hby d13_34) ?_
          exact k
        obtain rfl := Option.some.inj hr
        exact own_retI X5 hx hlk hret (hb hby d13_35) (by show (((cells + 0) + 0) + 0) ≤ 0; omega) (by show (((slots + 0) + 0) + 0) ≤ 0; omega) ⟨rfl, N5, e5⟩
    · refine Runs.via (T' := T3) (g' := (mkF m 22 #[.val (.ref a1), .val (.int x1), .val (.int x2)] [])) (fun t k => ?_) ?_
      · show Steps p.tables e below (T3.setTop (mkF m 19 #[.val (.ref a1), .val (.int x1), .val (.int x2)] [(.int r3)])) t
        exact XS.ifNo X3.here hx rfl (hb hby d13_19) rfl ((if0 _ _).trans (feq hc4).1) k
      refine Runs.via (T' := T3) (g' := (mkF m 23 #[.val (.ref a1), .val (.int x1), .val (.int x2)] [(.int (3 : Int32))])) (fun t k => ?_) ?_
      · show Steps p.tables e below (T3.setTop (mkF m 22 #[.val (.ref a1), .val (.int x1), .val (.int x2)] [])) t
        refine XS.iconst X3.here hx rfl (hb hby d13_22) ?_
        exact k
      obtain rfl := Option.some.inj hr
      exact own_retI X3 hx hlk hret (hb hby d13_23) (by show ((cells + 0) + 0) ≤ 0; omega) (by show ((slots + 0) + 0) ≤ 0; omega) ⟨rfl, N3, e3⟩
  · refine Runs.via (T' := T1) (g' := (mkF m 10 #[.val (.ref a1), .val (.int x1), .val (.int x2)] [])) (fun t k => ?_) ?_
    · show Steps p.tables e below (T1.setTop (mkF m 7 #[.val (.ref a1), .val (.int x1), .val (.int x2)] [(.int r1)])) t
      exact XS.ifNo X1.here hx rfl (hb hby d13_7) rfl ((if0 _ _).trans (feq hc2).1) k
    refine Runs.via (T' := T1) (g' := (mkF m 11 #[.val (.ref a1), .val (.int x1), .val (.int x2)] [(.int (4 : Int32))])) (fun t k => ?_) ?_
    · show Steps p.tables e below (T1.setTop (mkF m 10 #[.val (.ref a1), .val (.int x1), .val (.int x2)] [])) t
      refine XS.iconst X1.here hx rfl (hb hby d13_10) ?_
      exact k
    obtain rfl := Option.some.inj hr
    exact own_retI X1 hx hlk hret (hb hby d13_11) (by show (cells + 0) ≤ 0; omega) (by show (slots + 0) ≤ 0; omega) ⟨rfl, N1, e1⟩
def f13 (x1 : Int32) (x2 : Int32) (q_a1 : List Int32) : Option (Int32) := g13_0 x1 x2 q_a1
theorem pn_13 : plainName "com/example/braid/braid/BodyLinesNextNotBlankPinLaw" = true := by first | (simp [plainName, overriddenIn]; done) | decide +kernel
theorem ef_13 (m : MethodId) (x1 : Int32) (x2 : Int32) (a1 : Addr) : entryFrame m #[(.ref a1), (.int x1), (.int x2)] 3 = mkF m 0 #[.val (.ref a1), .val (.int x1), .val (.int x2)] [] := by first | (simp [entryFrame, mkF, argsToLocals, Value.category]; done) | rfl
set_option maxRecDepth 65536 in
set_option maxHeartbeats 4000000 in
theorem rm13 (l : Launch) (Z : State) (a0 : Array Value) (hw : ∀ d ∈ tables_1, d.before a0 Z = true) (ws : List Jvm.Cond) (x1 : Int32) (x2 : Int32) (a1 : Addr) (q_a1 : List Int32) (hE : Heap) (n0 : Nat) (Z0 : n0 ≤ hE.size) (o0 : n0 ≤ a1) (A_a1_0 : AI Z hE a1 .byte q_a1) (r : Int32) (hr : f13 x1 x2 q_a1 = some r) :
    MetFree l (⟨"com/example/braid/braid/BodyLinesNextNotBlankPinLaw", "lastNL", "([BII)I"⟩ : MethodName) (head1 (Jvm.Cond.code (⟨"com/example/braid/braid/BodyLinesNextNotBlankPinLaw", "lastNL", "([BII)I"⟩ : MethodName) method_6_code 3 (some .int) :: ws) ({ frames := 1, cells := 0, slots := 0, locals := 15 } : Room)) (fun a U => a = #[(.ref a1), (.int x1), (.int x2)] ∧ Z.Warmed39 U.vm ∧ U.heap = hE) (fun _ _ _ _ _ => True) (fun _ U o U' => ∃ v L, o = .returned v ∧ (P13 Z hE a1 q_a1 n0 r v U'.heap L) ∧ FrameEnd U o U' L ({ frames := 1, cells := 0, slots := 0, locals := 15 } : Room).cells ({ frames := 1, cells := 0, slots := 0, locals := 15 } : Room).slots) := by
  refine MetFree.of_bodySF (plainFor_of_name pn_13) hisR ?_
  intro p e s m args below meth c s₁ Bd hml0 hP hK
  obtain ⟨rfl, hZ, hh⟩ := hP
  have X0 : Stand p l e ({ frames := 1, cells := 0, slots := 0, locals := 15 } : Room) s m #[(.ref a1), (.int x1), (.int x2)] below meth c s₁ [] 0 0 := Stand.of_body Bd
  have e0 : s₁.heap = hE := by rw [← hh, Bd.state]; rfl
  have C : Ctx p s m meth c Z a0 "com/example/braid/braid/BodyLinesNextNotBlankPinLaw" method_6_code 3 (some .int) "lastNL" := ⟨Bd.exec, hZ, hw, Bd.bytes, hml0, findClass_of_methodNamed Bd.named, Bd.returns, BodyLoose.notSynchronized Bd, (name_of_methodNamed Bd.named Bd.method).1⟩
  refine Runs.via (fun t k => castTop (ef_13 m x1 x2 a1) k) (b13_0 C X0 e0 (Fr.nil n0) (by show 0 ≤ 0; omega) (by show 0 ≤ 0; omega) Z0 (by omega) x1 x2 A_a1_0 hr)
theorem d15_0 : decode method_7_code 0 = .ok (.aload_n 0, 1) := by decide +kernel
theorem d15_1 : decode method_7_code 1 = .ok (.iload_n 1, 1) := by decide +kernel
theorem d15_2 : decode method_7_code 2 = .ok (.iload_n 2, 1) := by decide +kernel
theorem d15_3 : decode method_7_code 3 = .ok (.iconst 0, 1) := by decide +kernel
theorem d15_4 : decode method_7_code 4 = .ok (.invokestatic 13, 3) := by decide +kernel
theorem d15_7 : decode method_7_code 7 = .ok (.ifCond .eq 5, 3) := by decide +kernel
theorem d15_10 : decode method_7_code 10 = .ok (.iconst 0, 1) := by decide +kernel
theorem d15_11 : decode method_7_code 11 = .ok (.ireturn, 1) := by decide +kernel
theorem d15_12 : decode method_7_code 12 = .ok (.aload_n 0, 1) := by decide +kernel
theorem d15_13 : decode method_7_code 13 = .ok (.iload_n 1, 1) := by decide +kernel
theorem d15_14 : decode method_7_code 14 = .ok (.iload_n 2, 1) := by decide +kernel
theorem d15_15 : decode method_7_code 15 = .ok (.iconst 1, 1) := by decide +kernel
theorem d15_16 : decode method_7_code 16 = .ok (.invokestatic 13, 3) := by decide +kernel
theorem d15_19 : decode method_7_code 19 = .ok (.ifCond .eq 5, 3) := by decide +kernel
theorem d15_22 : decode method_7_code 22 = .ok (.iconst 1, 1) := by decide +kernel
theorem d15_23 : decode method_7_code 23 = .ok (.ireturn, 1) := by decide +kernel
theorem d15_24 : decode method_7_code 24 = .ok (.aload_n 0, 1) := by decide +kernel
theorem d15_25 : decode method_7_code 25 = .ok (.iload_n 1, 1) := by decide +kernel
theorem d15_26 : decode method_7_code 26 = .ok (.iload_n 2, 1) := by decide +kernel
theorem d15_27 : decode method_7_code 27 = .ok (.iconst 2, 1) := by decide +kernel
theorem d15_28 : decode method_7_code 28 = .ok (.invokestatic 13, 3) := by decide +kernel
theorem d15_31 : decode method_7_code 31 = .ok (.ifCond .eq 5, 3) := by decide +kernel
theorem d15_34 : decode method_7_code 34 = .ok (.iconst 2, 1) := by decide +kernel
theorem d15_35 : decode method_7_code 35 = .ok (.ireturn, 1) := by decide +kernel
theorem d15_36 : decode method_7_code 36 = .ok (.aload_n 0, 1) := by decide +kernel
theorem d15_37 : decode method_7_code 37 = .ok (.iload_n 1, 1) := by decide +kernel
theorem d15_38 : decode method_7_code 38 = .ok (.iload_n 2, 1) := by decide +kernel
theorem d15_39 : decode method_7_code 39 = .ok (.iconst 3, 1) := by decide +kernel
theorem d15_40 : decode method_7_code 40 = .ok (.invokestatic 13, 3) := by decide +kernel
theorem d15_43 : decode method_7_code 43 = .ok (.ifCond .eq 5, 3) := by decide +kernel
theorem d15_46 : decode method_7_code 46 = .ok (.iconst 3, 1) := by decide +kernel
theorem d15_47 : decode method_7_code 47 = .ok (.ireturn, 1) := by decide +kernel
theorem d15_48 : decode method_7_code 48 = .ok (.aload_n 0, 1) := by decide +kernel
theorem d15_49 : decode method_7_code 49 = .ok (.iload_n 1, 1) := by decide +kernel
theorem d15_50 : decode method_7_code 50 = .ok (.iload_n 2, 1) := by decide +kernel
theorem d15_51 : decode method_7_code 51 = .ok (.iconst 4, 1) := by decide +kernel
theorem d15_52 : decode method_7_code 52 = .ok (.invokestatic 13, 3) := by decide +kernel
theorem d15_55 : decode method_7_code 55 = .ok (.ifCond .eq 5, 3) := by decide +kernel
theorem d15_58 : decode method_7_code 58 = .ok (.iconst 4, 1) := by decide +kernel
theorem d15_59 : decode method_7_code 59 = .ok (.ireturn, 1) := by decide +kernel
theorem d15_60 : decode method_7_code 60 = .ok (.iconst (-1), 1) := by decide +kernel
theorem d15_61 : decode method_7_code 61 = .ok (.ireturn, 1) := by decide +kernel
def P15 (Z : State) (hE : Heap) (a1 : Addr) (q_a1 : List Int32) (n0 : Nat) (r : Int32) (v : Option Value) (h : Heap) (L : List Loc) : Prop := v = some (.int r) ∧ Fr n0 L ∧ h = hE
def g15_0 (x1 : Int32) (x2 : Int32) (q_a1 : List Int32) : Option (Int32) := ((f14 x1 x2 (0 : Int32) q_a1).bind fun r1 => (if r1 = (0 : Int32) then ((f14 x1 x2 (1 : Int32) q_a1).bind fun r3 => (if r3 = (0 : Int32) then ((f14 x1 x2 (2 : Int32) q_a1).bind fun r5 => (if r5 = (0 : Int32) then ((f14 x1 x2 (3 : Int32) q_a1).bind fun r7 => (if r7 = (0 : Int32) then ((f14 x1 x2 (4 : Int32) q_a1).bind fun r9 => (if r9 = (0 : Int32) then some (-1 : Int32) else some (4 : Int32))) else some (3 : Int32))) else some (2 : Int32))) else some (1 : Int32))) else some (0 : Int32)))
set_option maxRecDepth 65536 in
set_option maxHeartbeats 4000000 in
theorem b15_0 {hE : Heap} {a1 : Addr} {q_a1 : List Int32} {r : Int32} (C : Ctx p s m meth c Z a0 "com/example/braid/braid/BodyLinesNextNotBlankPinLaw" method_7_code 3 (some .int) "firstNL") (X0 : Stand p l e ({ frames := 1, cells := 0, slots := 0, locals := 15 } : Room) s m args below meth c T0 locs cells slots) (e0 : T0.heap = hE) (N0 : Fr n0 locs) (hk : cells ≤ 0) (hn : slots ≤ 0) (Z1 : n0 ≤ hE.size) (o0 : n0 ≤ a1) (x1 : Int32) (x2 : Int32) (A_a1_0 : AI Z hE a1 .byte q_a1) (hr : g15_0 x1 x2 q_a1 = some r) :
    Runs p e below s (P15 Z hE a1 q_a1 n0 r) 0 0 T0 (mkF m 0 #[.val (.ref a1), .val (.int x1), .val (.int x2)] []) := by
  unfold g15_0 at hr
  have ⟨hx, hZ, hw, hby, hml, hown, hret, hlk, hnm⟩ := C
  refine Runs.via (T' := T0) (g' := (mkF m 4 #[.val (.ref a1), .val (.int x1), .val (.int x2)] [(.int (0 : Int32)), (.int x2), (.int x1), (.ref a1)])) (fun t k => ?_) ?_
  · show Steps p.tables e below (T0.setTop (mkF m 0 #[.val (.ref a1), .val (.int x1), .val (.int x2)] [])) t
    refine XS.aloadN X0.here hx rfl (hb hby d15_0) rfl rfl ?_
    show Steps p.tables e below (T0.setTop (mkF m 1 #[.val (.ref a1), .val (.int x1), .val (.int x2)] [(.ref a1)])) t
    refine XS.iloadN X0.here hx rfl (hb hby d15_1) rfl ?_
    show Steps p.tables e below (T0.setTop (mkF m 2 #[.val (.ref a1), .val (.int x1), .val (.int x2)] [(.int x1), (.ref a1)])) t
    refine XS.iloadN X0.here hx rfl (hb hby d15_2) rfl ?_
    show Steps p.tables e below (T0.setTop (mkF m 3 #[.val (.ref a1), .val (.int x1), .val (.int x2)] [(.int x2), (.int x1), (.ref a1)])) t
    refine XS.iconst X0.here hx rfl (hb hby d15_3) ?_
    exact k
  refine bindE hr ?_; intro r1 hr1m hr
  obtain ⟨_, _, ⟨T1, L1, k1, n1⟩, -, X1, ⟨Lc1, hQ1, l1, y1, z1⟩, st1⟩ := Jvm.LawKit.callS X0 hx (y := (⟨"com/example/braid/braid/BodyLinesNextNotBlankPinLaw", "nl", "([BIII)Z"⟩ : MethodName)) hown (mvT hZ (hw _ (List.mem_of_getElem? (i := 64) rfl))) (mvT hZ (hw _ (List.mem_of_getElem? (i := 65) rfl))) (mvT hZ (hw _ (List.mem_of_getElem? (i := 4) rfl))) (mvT hZ (hw _ (List.mem_of_getElem? (i := 66) rfl))) (by decide) (backOf (W := 0) (rm14 l Z a0 hw [] x1 x2 (0 : Int32) a1 q_a1 hE n0 Z1 (by omega) A_a1_0 r1 hr1m) hZ (hw _ (List.mem_of_getElem? (i := 66) rfl)) (hw _ (List.mem_of_getElem? (i := 4) rfl)) (by decide) (by decide)) (g := (mkF m 4 #[.val (.ref a1), .val (.int x1), .val (.int x2)] [(.int (0 : Int32)), (.int x2), (.int x1), (.ref a1)])) rfl (by rw [hml]; rfl) (argsL := [(.ref a1), (.int x1), (.int x2), (.int (0 : Int32))]) (rest := []) (lenOf pd_3 rfl) rfl (by show 2 * 0 + _ ≤ _; exact Nat.le_of_eq rfl) (hb hby d15_4) (fun _ _ => ⟨rfl, e0, (by show cells + 0 ≤ 0; omega), (by show slots + 0 ≤ 0; omega)⟩)
  dsimp only [Pt.U, Pt.locs, Pt.cells, Pt.slots] at X1 l1 y1 z1 st1 hQ1
  replace y1 := y1.symm; replace z1 := z1.symm; subst l1 y1 z1
  obtain ⟨rfl, N1q, e1⟩ := hQ1
  have N1 := Fr.app N0 N1q
  refine Runs.via (T' := T1) (g' := (mkF m 7 #[.val (.ref a1), .val (.int x1), .val (.int x2)] [(.int r1)])) (fun t k => st1 _ k) ?_
  refine iteE hr (fun hc2 hr => ?_) (fun hc2 hr => ?_)
  · refine Runs.via (T' := T1) (g' := (mkF m 12 #[.val (.ref a1), .val (.int x1), .val (.int x2)] [])) (fun t k => ?_) ?_
    · show Steps p.tables e below (T1.setTop (mkF m 7 #[.val (.ref a1), .val (.int x1), .val (.int x2)] [(.int r1)])) t
      exact XS.ifYes X1.here hx rfl (pc0 := 7) (pc' := 12) rfl (hb hby d15_7) rfl ((if0 _ _).trans (teq hc2).1) (by decide) (by decide) k
    refine Runs.via (T' := T1) (g' := (mkF m 16 #[.val (.ref a1), .val (.int x1), .val (.int x2)] [(.int (1 : Int32)), (.int x2), (.int x1), (.ref a1)])) (fun t k => ?_) ?_
    · show Steps p.tables e below (T1.setTop (mkF m 12 #[.val (.ref a1), .val (.int x1), .val (.int x2)] [])) t
      refine XS.aloadN X1.here hx rfl (hb hby d15_12) rfl rfl ?_
      show Steps p.tables e below (T1.setTop (mkF m 13 #[.val (.ref a1), .val (.int x1), .val (.int x2)] [(.ref a1)])) t
      refine XS.iloadN X1.here hx rfl (hb hby d15_13) rfl ?_
      show Steps p.tables e below (T1.setTop (mkF m 14 #[.val (.ref a1), .val (.int x1), .val (.int x2)] [(.int x1), (.ref a1)])) t
      refine XS.iloadN X1.here hx rfl (hb hby d15_14) rfl ?_
      show Steps p.tables e below (T1.setTop (mkF m 15 #[.val (.ref a1), .val (.int x1), .val (.int x2)] [(.int x2), (.int x1), (.ref a1)])) t
      refine XS.iconst X1.here hx rfl (hb hby d15_15) ?_
      exact k
    refine bindE hr ?_; intro r3 hr3m hr
    obtain ⟨_, _, ⟨T3, L3, k3, n3⟩, -, X3, ⟨Lc3, hQ3, l3, y3, z3⟩, st3⟩ := Jvm.LawKit.callS X1 hx (y := (⟨"com/example/braid/braid/BodyLinesNextNotBlankPinLaw", "nl", "([BIII)Z"⟩ : MethodName)) hown (mvT hZ (hw _ (List.mem_of_getElem? (i := 64) rfl))) (mvT hZ (hw _ (List.mem_of_getElem? (i := 65) rfl))) (mvT hZ (hw _ (List.mem_of_getElem? (i := 4) rfl))) (mvT hZ (hw _ (List.mem_of_getElem? (i := 66) rfl))) (by decide) (backOf (W := 0) (rm14 l Z a0 hw [] x1 x2 (1 : Int32) a1 q_a1 hE n0 Z1 (by omega) A_a1_0 r3 hr3m) hZ (hw _ (List.mem_of_getElem? (i := 66) rfl)) (hw _ (List.mem_of_getElem? (i := 4) rfl)) (by decide) (by decide)) (g := (mkF m 16 #[.val (.ref a1), .val (.int x1), .val (.int x2)] [(.int (1 : Int32)), (.int x2), (.int x1), (.ref a1)])) rfl (by rw [hml]; rfl) (argsL := [(.ref a1), (.int x1), (.int x2), (.int (1 : Int32))]) (rest := []) (lenOf pd_3 rfl) rfl (by show 2 * 0 + _ ≤ _; exact Nat.le_of_eq rfl) (hb hby d15_16) (fun _ _ => ⟨rfl, e1, (by show (cells + 0) + 0 ≤ 0; omega), (by show (slots + 0) + 0 ≤ 0; omega)⟩)
    dsimp only [Pt.U, Pt.locs, Pt.cells, Pt.slots] at X3 l3 y3 z3 st3 hQ3
    replace y3 := y3.symm; replace z3 := z3.symm; subst l3 y3 z3
    obtain ⟨rfl, N3q, e3⟩ := hQ3
    have N3 := Fr.app N1 N3q
    refine Runs.via (T' := T3) (g' := (mkF m 19 #[.val (.ref a1), .val (.int x1), .val (.int x2)] [(.int r3)])) (fun t k => st3 _ k) ?_
    refine iteE hr (fun hc4 hr => ?_) (fun hc4 hr => ?_)
    · refine Runs.via (T' := T3) (g' := (mkF m 24 #[.val (.ref a1), .val (.int x1), .val (.int x2)] [])) (fun t k => ?_) ?_
      · show Steps p.tables e below (T3.setTop (mkF m 19 #[.val (.ref a1), .val (.int x1), .val (.int x2)] [(.int r3)])) t
        exact XS.ifYes X3.here hx rfl (pc0 := 19) (pc' := 24) rfl (hb hby d15_19) rfl ((if0 _ _).trans (teq hc4).1) (by decide) (by decide) k
      refine Runs.via (T' := T3) (g' := (mkF m 28 #[.val (.ref a1), .val (.int x1), .val (.int x2)] [(.int (2 : Int32)), (.int x2), (.int x1), (.ref a1)])) (fun t k => ?_) ?_
      · show Steps p.tables e below (T3.setTop (mkF m 24 #[.val (.ref a1), .val (.int x1), .val (.int x2)] [])) t
        refine XS.aloadN X3.here hx rfl (hb hby d15_24) rfl rfl ?_
        show Steps p.tables e below (T3.setTop (mkF m 25 #[.val (.ref a1), .val (.int x1), .val (.int x2)] [(.ref a1)])) t
        refine XS.iloadN X3.here hx rfl (hb hby d15_25) rfl ?_
        show Steps p.tables e below (T3.setTop (mkF m 26 #[.val (.ref a1), .val (.int x1), .val (.int x2)] [(.int x1), (.ref a1)])) t
        refine XS.iloadN X3.here hx rfl (hb hby d15_26) rfl ?_
        show Steps p.tables e below (T3.setTop (mkF m 27 #[.val (.ref a1), .val (.int x1), .val (.int x2)] [(.int x2), (.int x1), (.ref a1)])) t
        refine XS.iconst X3.here hx rfl (hb hby d15_27) ?_
        exact k
      refine bindE hr ?_; intro r5 hr5m hr
      obtain ⟨_, _, ⟨T5, L5, k5, n5⟩, -, X5, ⟨Lc5, hQ5, l5, y5, z5⟩, st5⟩ := Jvm.LawKit.callS X3 hx (y := (⟨"com/example/braid/braid/BodyLinesNextNotBlankPinLaw", "nl", "([BIII)Z"⟩ : MethodName)) hown (mvT hZ (hw _ (List.mem_of_getElem? (i := 64) rfl))) (mvT hZ (hw _ (List.mem_of_getElem? (i := 65) rfl))) (mvT hZ (hw _ (List.mem_of_getElem? (i := 4) rfl))) (mvT hZ (hw _ (List.mem_of_getElem? (i := 66) rfl))) (by decide) (backOf (W := 0) (rm14 l Z a0 hw [] x1 x2 (2 : Int32) a1 q_a1 hE n0 Z1 (by omega) A_a1_0 r5 hr5m) hZ (hw _ (List.mem_of_getElem? (i := 66) rfl)) (hw _ (List.mem_of_getElem? (i := 4) rfl)) (by decide) (by decide)) (g := (mkF m 28 #[.val (.ref a1), .val (.int x1), .val (.int x2)] [(.int (2 : Int32)), (.int x2), (.int x1), (.ref a1)])) rfl (by rw [hml]; rfl) (argsL := [(.ref a1), (.int x1), (.int x2), (.int (2 : Int32))]) (rest := []) (lenOf pd_3 rfl) rfl (by show 2 * 0 + _ ≤ _; exact Nat.le_of_eq rfl) (hb hby d15_28) (fun _ _ => ⟨rfl, e3, (by show ((cells + 0) + 0) + 0 ≤ 0; omega), (by show ((slots + 0) + 0) + 0 ≤ 0; omega)⟩)
      dsimp only [Pt.U, Pt.locs, Pt.cells, Pt.slots] at X5 l5 y5 z5 st5 hQ5
      replace y5 := y5.symm; replace z5 := z5.symm; subst l5 y5 z5
      obtain ⟨rfl, N5q, e5⟩ := hQ5
      have N5 := Fr.app N3 N5q
      refine Runs.via (T' := T5) (g' := (mkF m 31 #[.val (.ref a1), .val (.int x1), .val (.int x2)] [(.int r5)])) (fun t k => st5 _ k) ?_
      refine iteE hr (fun hc6 hr => ?_) (fun hc6 hr => ?_)
      · refine Runs.via (T' := T5) (g' := (mkF m 36 #[.val (.ref a1), .val (.int x1), .val (.int x2)] [])) (fun t k => ?_) ?_
        · show Steps p.tables e below (T5.setTop (mkF m 31 #[.val (.ref a1), .val (.int x1), .val (.int x2)] [(.int r5)])) t
          exact XS.ifYes X5.here hx rfl (pc0 := 31) (pc' := 36) rfl (hb hby d15_31) rfl ((if0 _ _).trans (teq hc6).1) (by decide) (by decide) k
        refine Runs.via (T' := T5) (g' := (mkF m 40 #[.val (.ref a1), .val (.int x1), .val (.int x2)] [(.int (3 : Int32)), (.int x2), (.int x1), (.ref a1)])) (fun t k => ?_) ?_
        · show Steps p.tables e below (T5.setTop (mkF m 36 #[.val (.ref a1), .val (.int x1), .val (.int x2)] [])) t
          refine XS.aloadN X5.here hx rfl (hb hby d15_36) rfl rfl ?_
          show Steps p.tables e below (T5.setTop (mkF m 37 #[.val (.ref a1), .val (.int x1), .val (.int x2)] [(.ref a1)])) t
          refine XS.iloadN X5.here hx rfl (hb hby d15_37) rfl ?_
          show Steps p.tables e below (T5.setTop (mkF m 38 #[.val (.ref a1), .val (.int x1), .val (.int x2)] [(.int x1), (.ref a1)])) t
          refine XS.iloadN X5.here hx rfl (hb hby d15_38) rfl ?_
          show Steps p.tables e below (T5.setTop (mkF m 39 #[.val (.ref a1), .val (.int x1), .val (.int x2)] [(.int x2), (.int x1), (.ref a1)])) t
          refine XS.iconst X5.here hx rfl (hb hby d15_39) ?_
          exact k
        refine bindE hr ?_; intro r7 hr7m hr
        obtain ⟨_, _, ⟨T7, L7, k7, n7⟩, -, X7, ⟨Lc7, hQ7, l7, y7, z7⟩, st7⟩ := Jvm.LawKit.callS X5 hx (y := (⟨"com/example/braid/braid/BodyLinesNextNotBlankPinLaw", "nl", "([BIII)Z"⟩ : MethodName)) hown (mvT hZ (hw _ (List.mem_of_getElem? (i := 64) rfl))) (mvT hZ (hw _ (List.mem_of_getElem? (i := 65) rfl))) (mvT hZ (hw _ (List.mem_of_getElem? (i := 4) rfl))) (mvT hZ (hw _ (List.mem_of_getElem? (i := 66) rfl))) (by decide) (backOf (W := 0) (rm14 l Z a0 hw [] x1 x2 (3 : Int32) a1 q_a1 hE n0 Z1 (by omega) A_a1_0 r7 hr7m) hZ (hw _ (List.mem_of_getElem? (i := 66) rfl)) (hw _ (List.mem_of_getElem? (i := 4) rfl)) (by decide) (by decide)) (g := (mkF m 40 #[.val (.ref a1), .val (.int x1), .val (.int x2)] [(.int (3 : Int32)), (.int x2), (.int x1), (.ref a1)])) rfl (by rw [hml]; rfl) (argsL := [(.ref a1), (.int x1), (.int x2), (.int (3 : Int32))]) (rest := []) (lenOf pd_3 rfl) rfl (by show 2 * 0 + _ ≤ _; exact Nat.le_of_eq rfl) (hb hby d15_40) (fun _ _ => ⟨rfl, e5, (by show (((cells + 0) + 0) + 0) + 0 ≤ 0; omega), (by show (((slots + 0) + 0) + 0) + 0 ≤ 0; omega)⟩)
        dsimp only [Pt.U, Pt.locs, Pt.cells, Pt.slots] at X7 l7 y7 z7 st7 hQ7
        replace y7 := y7.symm; replace z7 := z7.symm; subst l7 y7 z7
        obtain ⟨rfl, N7q, e7⟩ := hQ7
        have N7 := Fr.app N5 N7q
        refine Runs.via (T' := T7) (g' := (mkF m 43 #[.val (.ref a1), .val (.int x1), .val (.int x2)] [(.int r7)])) (fun t k => st7 _ k) ?_
        refine iteE hr (fun hc8 hr => ?_) (fun hc8 hr => ?_)
        · refine Runs.via (T' := T7) (g' := (mkF m 48 #[.val (.ref a1), .val (.int x1), .val (.int x2)] [])) (fun t k => ?_) ?_
          · show Steps p.tables e below (T7.setTop (mkF m 43 #[.val (.ref a1), .val (.int x1), .val (.int x2)] [(.int r7)])) t
            exact XS.ifYes X7.here hx rfl (pc0 := 43) (pc' := 48) rfl (hb hby d15_43) rfl ((if0 _ _).trans (teq hc8).1) (by decide) (by decide) k
          refine Runs.via (T' := T7) (g' := (mkF m 52 #[.val (.ref a1), .val (.int x1), .val (.int x2)] [(.int (4 : Int32)), (.int x2), (.int x1), (.ref a1)])) (fun t k => ?_) ?_
          · show Steps p.tables e below (T7.setTop (mkF m 48 #[.val (.ref a1), .val (.int x1), .val (.int x2)] [])) t
            refine XS.aloadN X7.here hx rfl (hb hby d15_48) rfl rfl ?_
            show Steps p.tables e below (T7.setTop (mkF m 49 #[.val (.ref a1), .val (.int x1), .val (.int x2)] [(.ref a1)])) t
            refine XS.iloadN X7.here hx rfl (hb hby d15_49) rfl ?_
            show Steps p.tables e below (T7.setTop (mkF m 50 #[.val (.ref a1), .val (.int x1), .val (.int x2)] [(.int x1), (.ref a1)])) t
            refine XS.iloadN X7.here hx rfl (hb hby d15_50) rfl ?_
            show Steps p.tables e below (T7.setTop (mkF m 51 #[.val (.ref a1), .val (.int x1), .val (.int x2)] [(.int x2), (.int x1), (.ref a1)])) t
            refine XS.iconst X7.here hx rfl (hb hby d15_51) ?_
            exact k
          refine bindE hr ?_; intro r9 hr9m hr
          obtain ⟨_, _, ⟨T9, L9, k9, n9⟩, -, X9, ⟨Lc9, hQ9, l9, y9, z9⟩, st9⟩ := Jvm.LawKit.callS X7 hx (y := (⟨"com/example/braid/braid/BodyLinesNextNotBlankPinLaw", "nl", "([BIII)Z"⟩ : MethodName)) hown (mvT hZ (hw _ (List.mem_of_getElem? (i := 64) rfl))) (mvT hZ (hw _ (List.mem_of_getElem? (i := 65) rfl))) (mvT hZ (hw _ (List.mem_of_getElem? (i := 4) rfl))) (mvT hZ (hw _ (List.mem_of_getElem? (i := 66) rfl))) (by decide) (backOf (W := 0) (rm14 l Z a0 hw [] x1 x2 (4 : Int32) a1 q_a1 hE n0 Z1 (by omega) A_a1_0 r9 hr9m) hZ (hw _ (List.mem_of_getElem? (i := 66) rfl)) (hw _ (List.mem_of_getElem? (i := 4) rfl)) (by decide) (by decide)) (g := (mkF m 52 #[.val (.ref a1), .val (.int x1), .val (.int x2)] [(.int (4 : Int32)), (.int x2), (.int x1), (.ref a1)])) rfl (by rw [hml]; rfl) (argsL := [(.ref a1), (.int x1), (.int x2), (.int (4 : Int32))]) (rest := []) (lenOf pd_3 rfl) rfl (by show 2 * 0 + _ ≤ _; exact Nat.le_of_eq rfl) (hb hby d15_52) (fun _ _ => ⟨rfl, e7, (by show ((((cells + 0) + 0) + 0) + 0) + 0 ≤ 0; omega), (by show ((((slots + 0) + 0) + 0) + 0) + 0 ≤ 0; omega)⟩)
          dsimp only [Pt.U, Pt.locs, Pt.cells, Pt.slots] at X9 l9 y9 z9 st9 hQ9
          replace y9 := y9.symm; replace z9 := z9.symm; subst l9 y9 z9
          obtain ⟨rfl, N9q, e9⟩ := hQ9
          have N9 := Fr.app N7 N9q
          refine Runs.via (T' := T9) (g' := (mkF m 55 #[.val (.ref a1), .val (.int x1), .val (.int x2)] [(.int r9)])) (fun t k => st9 _ k) ?_
          refine iteE hr (fun hc10 hr => ?_) (fun hc10 hr => ?_)
          · refine Runs.via (T' := T9) (g' := (mkF m 60 #[.val (.ref a1), .val (.int x1), .val (.int x2)] [])) (fun t k => ?_) ?_
            · show Steps p.tables e below (T9.setTop (mkF m 55 #[.val (.ref a1), .val (.int x1), .val (.int x2)] [(.int r9)])) t
              exact XS.ifYes X9.here hx rfl (pc0 := 55) (pc' := 60) rfl (hb hby d15_55) rfl ((if0 _ _).trans (teq hc10).1) (by decide) (by decide) k
            refine Runs.via (T' := T9) (g' := (mkF m 61 #[.val (.ref a1), .val (.int x1), .val (.int x2)] [(.int (-1 : Int32))])) (fun t k => ?_) ?_
            · show Steps p.tables e below (T9.setTop (mkF m 60 #[.val (.ref a1), .val (.int x1), .val (.int x2)] [])) t
              refine XS.iconst X9.here hx rfl (hb hby d15_60) ?_
              exact k
            obtain rfl := Option.some.inj hr
            exact own_retI X9 hx hlk hret (hb hby d15_61) (by show (((((cells + 0) + 0) + 0) + 0) + 0) ≤ 0; omega) (by show (((((slots + 0) + 0) + 0) + 0) + 0) ≤ 0; omega) ⟨rfl, N9, e9⟩
          · refine Runs.via (T' := T9) (g' := (mkF m 58 #[.val (.ref a1), .val (.int x1), .val (.int x2)] [])) (fun t k => ?_) ?_
            · show Steps p.tables e below (T9.setTop (mkF m 55 #[.val (.ref a1), .val (.int x1), .val (.int x2)] [(.int r9)])) t
              exact XS.ifNo X9.here hx rfl (hb hby d15_55) rfl ((if0 _ _).trans (feq hc10).1) k
            refine Runs.via (T' := T9) (g' := (mkF m 59 #[.val (.ref a1), .val (.int x1), .val (.int x2)] [(.int (4 : Int32))])) (fun t k => ?_) ?_
            · show Steps p.tables e below (T9.setTop (mkF m 58 #[.val (.ref a1), .val (.int x1), .val (.int x2)] [])) t
              refine XS.iconst X9.here hx rfl (hb hby d15_58) ?_
              exact k
            obtain rfl := Option.some.inj hr
            exact own_retI X9 hx hlk hret (hb hby d15_59) (by show (((((cells + 0) + 0) + 0) + 0) + 0) ≤ 0; omega) (by show (((((slots + 0) + 0) + 0) + 0) + 0) ≤ 0; omega) ⟨rfl, N9, e9⟩
        · refine Runs.via (T' := T7) (g' := (mkF m 46 #[.val (.ref a1), .val (.int x1), .val (.int x2)] [])) (fun t k => ?_) ?_
          · show Steps p.tables e below (T7.setTop (mkF m 43 #[.val (.ref a1), .val (.int x1), .val (.int x2)] [(.int r7)])) t
            exact XS.ifNo X7.here hx rfl (hb hby d15_43) rfl ((if0 _ _).trans (feq hc8).1) k
          refine Runs.via (T' := T7) (g' := (mkF m 47 #[.val (.ref a1), .val (.int x1), .val (.int x2)] [(.int (3 : Int32))])) (fun t k => ?_) ?_
          · show Steps p.tables e below (T7.setTop (mkF m 46 #[.val (.ref a1), .val (.int x1), .val (.int x2)] [])) t
            refine XS.iconst X7.here hx rfl (hb hby d15_46) ?_
            exact k
          obtain rfl := Option.some.inj hr
          exact own_retI X7 hx hlk hret (hb hby d15_47) (by show ((((cells + 0) + 0) + 0) + 0) ≤ 0; omega) (by show ((((slots + 0) + 0) + 0) + 0) ≤ 0; omega) ⟨rfl, N7, e7⟩
      · refine Runs.via (T' := T5) (g' := (mkF m 34 #[.val (.ref a1), .val (.int x1), .val (.int x2)] [])) (fun t k => ?_) ?_
        · show Steps p.tables e below (T5.setTop (mkF m 31 #[.val (.ref a1), .val (.int x1), .val (.int x2)] [(.int r5)])) t
          exact XS.ifNo X5.here hx rfl (hb hby d15_31) rfl ((if0 _ _).trans (feq hc6).1) k
        refine Runs.via (T' := T5) (g' := (mkF m 35 #[.val (.ref a1), .val (.int x1), .val (.int x2)] [(.int (2 : Int32))])) (fun t k => ?_) ?_
        · show Steps p.tables e below (T5.setTop (mkF m 34 #[.val (.ref a1), .val (.int x1), .val (.int x2)] [])) t
          refine XS.iconst X5.here hx rfl (hb hby d15_34) ?_
          exact k
        obtain rfl := Option.some.inj hr
        exact own_retI X5 hx hlk hret (hb hby d15_35) (by show (((cells + 0) + 0) + 0) ≤ 0; omega) (by show (((slots + 0) + 0) + 0) ≤ 0; omega) ⟨rfl, N5, e5⟩
    · refine Runs.via (T' := T3) (g' := (mkF m 22 #[.val (.ref a1), .val (.int x1), .val (.int x2)] [])) (fun t k => ?_) ?_
      · show Steps p.tables e below (T3.setTop (mkF m 19 #[.val (.ref a1), .val (.int x1), .val (.int x2)] [(.int r3)])) t
        exact XS.ifNo X3.here hx rfl (hb hby d15_19) rfl ((if0 _ _).trans (feq hc4).1) k
      refine Runs.via (T' := T3) (g' := (mkF m 23 #[.val (.ref a1), .val (.int x1), .val (.int x2)] [(.int (1 : Int32))])) (fun t k => ?_) ?_
      · show Steps p.tables e below (T3.setTop (mkF m 22 #[.val (.ref a1), .val (.int x1), .val (.int x2)] [])) t
        refine XS.iconst X3.here hx rfl (hb hby d15_22) ?_
        exact k
      obtain rfl := Option.some.inj hr
      exact own_retI X3 hx hlk hret (hb hby d15_23) (by show ((cells + 0) + 0) ≤ 0; omega) (by show ((slots + 0) + 0) ≤ 0; omega) ⟨rfl, N3, e3⟩
  · refine Runs.via (T' := T1) (g' := (mkF m 10 #[.val (.ref a1), .val (.int x1), .val (.int x2)] [])) (fun t k => ?_) ?_
    · show Steps p.tables e below (T1.setTop (mkF m 7 #[.val (.ref a1), .val (.int x1), .val (.int x2)] [(.int r1)])) t
      exact XS.ifNo X1.here hx rfl (hb hby d15_7) rfl ((if0 _ _).trans (feq hc2).1) k
    refine Runs.via (T' := T1) (g' := (mkF m 11 #[.val (.ref a1), .val (.int x1), .val (.int x2)] [(.int (0 : Int32))])) (fun t k => ?_) ?_
    · show Steps p.tables e below (T1.setTop (mkF m 10 #[.val (.ref a1), .val (.int x1), .val (.int x2)] [])) t
      refine XS.iconst X1.here hx rfl (hb hby d15_10) ?_
      exact k
    obtain rfl := Option.some.inj hr
    exact own_retI X1 hx hlk hret (hb hby d15_11) (by show (cells + 0) ≤ 0; omega) (by show (slots + 0) ≤ 0; omega) ⟨rfl, N1, e1⟩
def f15 (x1 : Int32) (x2 : Int32) (q_a1 : List Int32) : Option (Int32) := g15_0 x1 x2 q_a1
theorem pn_15 : plainName "com/example/braid/braid/BodyLinesNextNotBlankPinLaw" = true := by first | (simp [plainName, overriddenIn]; done) | decide +kernel
theorem ef_15 (m : MethodId) (x1 : Int32) (x2 : Int32) (a1 : Addr) : entryFrame m #[(.ref a1), (.int x1), (.int x2)] 3 = mkF m 0 #[.val (.ref a1), .val (.int x1), .val (.int x2)] [] := by first | (simp [entryFrame, mkF, argsToLocals, Value.category]; done) | rfl
set_option maxRecDepth 65536 in
set_option maxHeartbeats 4000000 in
theorem rm15 (l : Launch) (Z : State) (a0 : Array Value) (hw : ∀ d ∈ tables_1, d.before a0 Z = true) (ws : List Jvm.Cond) (x1 : Int32) (x2 : Int32) (a1 : Addr) (q_a1 : List Int32) (hE : Heap) (n0 : Nat) (Z0 : n0 ≤ hE.size) (o0 : n0 ≤ a1) (A_a1_0 : AI Z hE a1 .byte q_a1) (r : Int32) (hr : f15 x1 x2 q_a1 = some r) :
    MetFree l (⟨"com/example/braid/braid/BodyLinesNextNotBlankPinLaw", "firstNL", "([BII)I"⟩ : MethodName) (head1 (Jvm.Cond.code (⟨"com/example/braid/braid/BodyLinesNextNotBlankPinLaw", "firstNL", "([BII)I"⟩ : MethodName) method_7_code 3 (some .int) :: ws) ({ frames := 1, cells := 0, slots := 0, locals := 15 } : Room)) (fun a U => a = #[(.ref a1), (.int x1), (.int x2)] ∧ Z.Warmed39 U.vm ∧ U.heap = hE) (fun _ _ _ _ _ => True) (fun _ U o U' => ∃ v L, o = .returned v ∧ (P15 Z hE a1 q_a1 n0 r v U'.heap L) ∧ FrameEnd U o U' L ({ frames := 1, cells := 0, slots := 0, locals := 15 } : Room).cells ({ frames := 1, cells := 0, slots := 0, locals := 15 } : Room).slots) := by
  refine MetFree.of_bodySF (plainFor_of_name pn_15) hisR ?_
  intro p e s m args below meth c s₁ Bd hml0 hP hK
  obtain ⟨rfl, hZ, hh⟩ := hP
  have X0 : Stand p l e ({ frames := 1, cells := 0, slots := 0, locals := 15 } : Room) s m #[(.ref a1), (.int x1), (.int x2)] below meth c s₁ [] 0 0 := Stand.of_body Bd
  have e0 : s₁.heap = hE := by rw [← hh, Bd.state]; rfl
  have C : Ctx p s m meth c Z a0 "com/example/braid/braid/BodyLinesNextNotBlankPinLaw" method_7_code 3 (some .int) "firstNL" := ⟨Bd.exec, hZ, hw, Bd.bytes, hml0, findClass_of_methodNamed Bd.named, Bd.returns, BodyLoose.notSynchronized Bd, (name_of_methodNamed Bd.named Bd.method).1⟩
  refine Runs.via (fun t k => castTop (ef_15 m x1 x2 a1) k) (b15_0 C X0 e0 (Fr.nil n0) (by show 0 ≤ 0; omega) (by show 0 ≤ 0; omega) Z0 (by omega) x1 x2 A_a1_0 hr)
theorem d10_0 : decode prog_2_method_4_code 0 = .ok (.aload_n 0, 1) := by decide +kernel
theorem d10_1 : decode prog_2_method_4_code 1 = .ok (.getfield 17, 3) := by decide +kernel
theorem d10_4 : decode prog_2_method_4_code 4 = .ok (.ireturn, 1) := by decide +kernel
def P10 (Z : State) (hE : Heap) (a1 : Addr) (a2 : Addr) (q_a1 : List Int32) (q_a2_end : Int32) (q_a2_start : Int32) (q_a2_number : Int32) (n0 : Nat) (r : Int32) (v : Option Value) (h : Heap) (L : List Loc) : Prop := v = some (.int r) ∧ Fr n0 L ∧ h = hE
def g10_0 (q_a1 : List Int32) (q_a2_end : Int32) (q_a2_start : Int32) (q_a2_number : Int32) : Option (Int32) := some q_a2_start
set_option maxRecDepth 65536 in
set_option maxHeartbeats 4000000 in
theorem b10_0 {hE : Heap} {a1 : Addr} {a2 : Addr} {q_a1 : List Int32} {q_a2_end : Int32} {q_a2_start : Int32} {q_a2_number : Int32} {r : Int32} (C : Ctx p s m meth c Z a0 "com/example/braid/braid/BodyLines" prog_2_method_4_code 1 (some .int) "start") (X0 : Stand p l e ({ frames := 0, cells := 0, slots := 0, locals := 0 } : Room) s m args below meth c T0 locs cells slots) (e0 : T0.heap = hE) (N0 : Fr n0 locs) (hk : cells ≤ 0) (hn : slots ≤ 0) (Z1 : n0 ≤ hE.size) (o0 : n0 ≤ a1) (o1 : @LT.lt Nat instLTNat a1 a2) (A_a1_0 : AI Z hE a1 .byte q_a1) (E_a2_0 : Exa Z hE a2 "com/example/braid/braid/BodyLines") (F_a2_end_0 : Fld Z hE a2 "com/example/braid/braid/BodyLines" "end" "I" (.int q_a2_end)) (F_a2_body_0 : Fld Z hE a2 "com/example/braid/braid/BodyLines" "body" "[B" (.ref a1)) (F_a2_start_0 : Fld Z hE a2 "com/example/braid/braid/BodyLines" "start" "I" (.int q_a2_start)) (F_a2_number_0 : Fld Z hE a2 "com/example/braid/braid/BodyLines" "number" "I" (.int q_a2_number)) (hr : g10_0 q_a1 q_a2_end q_a2_start q_a2_number = some r) :
    Runs p e below s (P10 Z hE a1 a2 q_a1 q_a2_end q_a2_start q_a2_number n0 r) 0 0 T0 (mkF m 0 #[.val (.ref a2)] []) := by
  unfold g10_0 at hr
  have ⟨hx, hZ, hw, hby, hml, hown, hret, hlk, hnm⟩ := C
  refine Runs.via (T' := T0) (g' := (mkF m 1 #[.val (.ref a2)] [(.ref a2)])) (fun t k => ?_) ?_
  · show Steps p.tables e below (T0.setTop (mkF m 0 #[.val (.ref a2)] [])) t
    refine XS.aloadN X0.here hx rfl (hb hby d10_0) rfl rfl ?_
    exact k
  obtain ⟨T1, X1, e1, st1⟩ := getF X0 hx hZ hown (host := "") (Or.inl (hw _ (List.mem_of_getElem? (i := 29) rfl))) Via.refl e0 F_a2_start_0 (g := (mkF m 1 #[.val (.ref a2)] [(.ref a2)])) rfl rfl (hb hby d10_1)
  refine Runs.via (T' := T1) (g' := (mkF m 4 #[.val (.ref a2)] [(.int q_a2_start)])) (fun t k => st1 _ k) ?_
  obtain rfl := Option.some.inj hr
  exact own_retI X1 hx hlk hret (hb hby d10_4) (by show cells ≤ 0; omega) (by show slots ≤ 0; omega) ⟨rfl, N0, e1⟩
def f10 (q_a1 : List Int32) (q_a2_end : Int32) (q_a2_start : Int32) (q_a2_number : Int32) : Option (Int32) := g10_0 q_a1 q_a2_end q_a2_start q_a2_number
theorem pn_10 : plainName "com/example/braid/braid/BodyLines" = true := by first | (simp [plainName, overriddenIn]; done) | decide +kernel
theorem ef_10 (m : MethodId) (a1 : Addr) (a2 : Addr) : entryFrame m #[(.ref a2)] 1 = mkF m 0 #[.val (.ref a2)] [] := by first | (simp [entryFrame, mkF, argsToLocals, Value.category]; done) | rfl
set_option maxRecDepth 65536 in
set_option maxHeartbeats 4000000 in
theorem rm10 (l : Launch) (Z : State) (a0 : Array Value) (hw : ∀ d ∈ tables_1, d.before a0 Z = true) (ws : List Jvm.Cond) (a1 : Addr) (a2 : Addr) (q_a1 : List Int32) (q_a2_end : Int32) (q_a2_start : Int32) (q_a2_number : Int32) (hE : Heap) (n0 : Nat) (Z0 : n0 ≤ hE.size) (o0 : n0 ≤ a1) (o1 : @LT.lt Nat instLTNat a1 a2) (A_a1_0 : AI Z hE a1 .byte q_a1) (E_a2_0 : Exa Z hE a2 "com/example/braid/braid/BodyLines") (F_a2_end_0 : Fld Z hE a2 "com/example/braid/braid/BodyLines" "end" "I" (.int q_a2_end)) (F_a2_body_0 : Fld Z hE a2 "com/example/braid/braid/BodyLines" "body" "[B" (.ref a1)) (F_a2_start_0 : Fld Z hE a2 "com/example/braid/braid/BodyLines" "start" "I" (.int q_a2_start)) (F_a2_number_0 : Fld Z hE a2 "com/example/braid/braid/BodyLines" "number" "I" (.int q_a2_number)) (r : Int32) (hr : f10 q_a1 q_a2_end q_a2_start q_a2_number = some r) :
    MetFree l (⟨"com/example/braid/braid/BodyLines", "start", "()I"⟩ : MethodName) (head1 (Jvm.Cond.code (⟨"com/example/braid/braid/BodyLines", "start", "()I"⟩ : MethodName) prog_2_method_4_code 1 (some .int) :: ws) ({ frames := 0, cells := 0, slots := 0, locals := 0 } : Room)) (fun a U => a = #[(.ref a2)] ∧ Z.Warmed39 U.vm ∧ U.heap = hE) (fun _ _ _ _ _ => True) (fun _ U o U' => ∃ v L, o = .returned v ∧ (P10 Z hE a1 a2 q_a1 q_a2_end q_a2_start q_a2_number n0 r v U'.heap L) ∧ FrameEnd U o U' L ({ frames := 0, cells := 0, slots := 0, locals := 0 } : Room).cells ({ frames := 0, cells := 0, slots := 0, locals := 0 } : Room).slots) := by
  refine MetFree.of_bodySF (plainFor_of_name pn_10) hisR ?_
  intro p e s m args below meth c s₁ Bd hml0 hP hK
  obtain ⟨rfl, hZ, hh⟩ := hP
  have X0 : Stand p l e ({ frames := 0, cells := 0, slots := 0, locals := 0 } : Room) s m #[(.ref a2)] below meth c s₁ [] 0 0 := Stand.of_body Bd
  have e0 : s₁.heap = hE := by rw [← hh, Bd.state]; rfl
  have C : Ctx p s m meth c Z a0 "com/example/braid/braid/BodyLines" prog_2_method_4_code 1 (some .int) "start" := ⟨Bd.exec, hZ, hw, Bd.bytes, hml0, findClass_of_methodNamed Bd.named, Bd.returns, BodyLoose.notSynchronized Bd, (name_of_methodNamed Bd.named Bd.method).1⟩
  refine Runs.via (fun t k => castTop (ef_10 m a1 a2) k) (b10_0 C X0 e0 (Fr.nil n0) (by show 0 ≤ 0; omega) (by show 0 ≤ 0; omega) Z0 (by omega) (by omega) A_a1_0 E_a2_0 F_a2_end_0 F_a2_body_0 F_a2_start_0 F_a2_number_0 hr)
theorem pd_5 : parseMethodDescriptor "()I" = some ⟨[], some .int⟩ := by decide +kernel
theorem d11_0 : decode prog_2_method_5_code 0 = .ok (.aload_n 0, 1) := by decide +kernel
theorem d11_1 : decode prog_2_method_5_code 1 = .ok (.getfield 7, 3) := by decide +kernel
theorem d11_4 : decode prog_2_method_5_code 4 = .ok (.aload_n 0, 1) := by decide +kernel
theorem d11_5 : decode prog_2_method_5_code 5 = .ok (.getfield 17, 3) := by decide +kernel
theorem d11_8 : decode prog_2_method_5_code 8 = .ok (.isub, 1) := by decide +kernel
theorem d11_9 : decode prog_2_method_5_code 9 = .ok (.ireturn, 1) := by decide +kernel
def P11 (Z : State) (hE : Heap) (a1 : Addr) (a2 : Addr) (q_a1 : List Int32) (q_a2_end : Int32) (q_a2_start : Int32) (q_a2_number : Int32) (n0 : Nat) (r : Int32) (v : Option Value) (h : Heap) (L : List Loc) : Prop := v = some (.int r) ∧ Fr n0 L ∧ h = hE
def g11_0 (q_a1 : List Int32) (q_a2_end : Int32) (q_a2_start : Int32) (q_a2_number : Int32) : Option (Int32) := some (q_a2_end - q_a2_start)
set_option maxRecDepth 65536 in
set_option maxHeartbeats 4000000 in
theorem b11_0 {hE : Heap} {a1 : Addr} {a2 : Addr} {q_a1 : List Int32} {q_a2_end : Int32} {q_a2_start : Int32} {q_a2_number : Int32} {r : Int32} (C : Ctx p s m meth c Z a0 "com/example/braid/braid/BodyLines" prog_2_method_5_code 1 (some .int) "length") (X0 : Stand p l e ({ frames := 0, cells := 0, slots := 0, locals := 0 } : Room) s m args below meth c T0 locs cells slots) (e0 : T0.heap = hE) (N0 : Fr n0 locs) (hk : cells ≤ 0) (hn : slots ≤ 0) (Z1 : n0 ≤ hE.size) (o0 : n0 ≤ a1) (o1 : @LT.lt Nat instLTNat a1 a2) (A_a1_0 : AI Z hE a1 .byte q_a1) (E_a2_0 : Exa Z hE a2 "com/example/braid/braid/BodyLines") (F_a2_end_0 : Fld Z hE a2 "com/example/braid/braid/BodyLines" "end" "I" (.int q_a2_end)) (F_a2_body_0 : Fld Z hE a2 "com/example/braid/braid/BodyLines" "body" "[B" (.ref a1)) (F_a2_start_0 : Fld Z hE a2 "com/example/braid/braid/BodyLines" "start" "I" (.int q_a2_start)) (F_a2_number_0 : Fld Z hE a2 "com/example/braid/braid/BodyLines" "number" "I" (.int q_a2_number)) (hr : g11_0 q_a1 q_a2_end q_a2_start q_a2_number = some r) :
    Runs p e below s (P11 Z hE a1 a2 q_a1 q_a2_end q_a2_start q_a2_number n0 r) 0 0 T0 (mkF m 0 #[.val (.ref a2)] []) := by
  unfold g11_0 at hr
  have ⟨hx, hZ, hw, hby, hml, hown, hret, hlk, hnm⟩ := C
  refine Runs.via (T' := T0) (g' := (mkF m 1 #[.val (.ref a2)] [(.ref a2)])) (fun t k => ?_) ?_
  · show Steps p.tables e below (T0.setTop (mkF m 0 #[.val (.ref a2)] [])) t
    refine XS.aloadN X0.here hx rfl (hb hby d11_0) rfl rfl ?_
    exact k
  obtain ⟨T1, X1, e1, st1⟩ := getF X0 hx hZ hown (host := "") (Or.inl (hw _ (List.mem_of_getElem? (i := 15) rfl))) Via.refl e0 F_a2_end_0 (g := (mkF m 1 #[.val (.ref a2)] [(.ref a2)])) rfl rfl (hb hby d11_1)
  refine Runs.via (T' := T1) (g' := (mkF m 4 #[.val (.ref a2)] [(.int q_a2_end)])) (fun t k => st1 _ k) ?_
  refine Runs.via (T' := T1) (g' := (mkF m 5 #[.val (.ref a2)] [(.ref a2), (.int q_a2_end)])) (fun t k => ?_) ?_
  · show Steps p.tables e below (T1.setTop (mkF m 4 #[.val (.ref a2)] [(.int q_a2_end)])) t
    refine XS.aloadN X1.here hx rfl (hb hby d11_4) rfl rfl ?_
    exact k
  obtain ⟨T2, X2, e2, st2⟩ := getF X1 hx hZ hown (host := "") (Or.inl (hw _ (List.mem_of_getElem? (i := 29) rfl))) Via.refl e1 F_a2_start_0 (g := (mkF m 5 #[.val (.ref a2)] [(.ref a2), (.int q_a2_end)])) rfl rfl (hb hby d11_5)
  refine Runs.via (T' := T2) (g' := (mkF m 8 #[.val (.ref a2)] [(.int q_a2_start), (.int q_a2_end)])) (fun t k => st2 _ k) ?_
  refine Runs.via (T' := T2) (g' := (mkF m 9 #[.val (.ref a2)] [(.int (q_a2_end - q_a2_start))])) (fun t k => ?_) ?_
  · show Steps p.tables e below (T2.setTop (mkF m 8 #[.val (.ref a2)] [(.int q_a2_start), (.int q_a2_end)])) t
    refine XS.isub X2.here hx rfl (hb hby d11_8) rfl ?_
    exact k
  obtain rfl := Option.some.inj hr
  exact own_retI X2 hx hlk hret (hb hby d11_9) (by show cells ≤ 0; omega) (by show slots ≤ 0; omega) ⟨rfl, N0, e2⟩
def f11 (q_a1 : List Int32) (q_a2_end : Int32) (q_a2_start : Int32) (q_a2_number : Int32) : Option (Int32) := g11_0 q_a1 q_a2_end q_a2_start q_a2_number
theorem pn_11 : plainName "com/example/braid/braid/BodyLines" = true := by first | (simp [plainName, overriddenIn]; done) | decide +kernel
theorem ef_11 (m : MethodId) (a1 : Addr) (a2 : Addr) : entryFrame m #[(.ref a2)] 1 = mkF m 0 #[.val (.ref a2)] [] := by first | (simp [entryFrame, mkF, argsToLocals, Value.category]; done) | rfl
set_option maxRecDepth 65536 in
set_option maxHeartbeats 4000000 in
theorem rm11 (l : Launch) (Z : State) (a0 : Array Value) (hw : ∀ d ∈ tables_1, d.before a0 Z = true) (ws : List Jvm.Cond) (a1 : Addr) (a2 : Addr) (q_a1 : List Int32) (q_a2_end : Int32) (q_a2_start : Int32) (q_a2_number : Int32) (hE : Heap) (n0 : Nat) (Z0 : n0 ≤ hE.size) (o0 : n0 ≤ a1) (o1 : @LT.lt Nat instLTNat a1 a2) (A_a1_0 : AI Z hE a1 .byte q_a1) (E_a2_0 : Exa Z hE a2 "com/example/braid/braid/BodyLines") (F_a2_end_0 : Fld Z hE a2 "com/example/braid/braid/BodyLines" "end" "I" (.int q_a2_end)) (F_a2_body_0 : Fld Z hE a2 "com/example/braid/braid/BodyLines" "body" "[B" (.ref a1)) (F_a2_start_0 : Fld Z hE a2 "com/example/braid/braid/BodyLines" "start" "I" (.int q_a2_start)) (F_a2_number_0 : Fld Z hE a2 "com/example/braid/braid/BodyLines" "number" "I" (.int q_a2_number)) (r : Int32) (hr : f11 q_a1 q_a2_end q_a2_start q_a2_number = some r) :
    MetFree l (⟨"com/example/braid/braid/BodyLines", "length", "()I"⟩ : MethodName) (head1 (Jvm.Cond.code (⟨"com/example/braid/braid/BodyLines", "length", "()I"⟩ : MethodName) prog_2_method_5_code 1 (some .int) :: ws) ({ frames := 0, cells := 0, slots := 0, locals := 0 } : Room)) (fun a U => a = #[(.ref a2)] ∧ Z.Warmed39 U.vm ∧ U.heap = hE) (fun _ _ _ _ _ => True) (fun _ U o U' => ∃ v L, o = .returned v ∧ (P11 Z hE a1 a2 q_a1 q_a2_end q_a2_start q_a2_number n0 r v U'.heap L) ∧ FrameEnd U o U' L ({ frames := 0, cells := 0, slots := 0, locals := 0 } : Room).cells ({ frames := 0, cells := 0, slots := 0, locals := 0 } : Room).slots) := by
  refine MetFree.of_bodySF (plainFor_of_name pn_11) hisR ?_
  intro p e s m args below meth c s₁ Bd hml0 hP hK
  obtain ⟨rfl, hZ, hh⟩ := hP
  have X0 : Stand p l e ({ frames := 0, cells := 0, slots := 0, locals := 0 } : Room) s m #[(.ref a2)] below meth c s₁ [] 0 0 := Stand.of_body Bd
  have e0 : s₁.heap = hE := by rw [← hh, Bd.state]; rfl
  have C : Ctx p s m meth c Z a0 "com/example/braid/braid/BodyLines" prog_2_method_5_code 1 (some .int) "length" := ⟨Bd.exec, hZ, hw, Bd.bytes, hml0, findClass_of_methodNamed Bd.named, Bd.returns, BodyLoose.notSynchronized Bd, (name_of_methodNamed Bd.named Bd.method).1⟩
  refine Runs.via (fun t k => castTop (ef_11 m a1 a2) k) (b11_0 C X0 e0 (Fr.nil n0) (by show 0 ≤ 0; omega) (by show 0 ≤ 0; omega) Z0 (by omega) (by omega) A_a1_0 E_a2_0 F_a2_end_0 F_a2_body_0 F_a2_start_0 F_a2_number_0 hr)
theorem d12_0 : decode prog_2_method_6_code 0 = .ok (.aload_n 0, 1) := by decide +kernel
theorem d12_1 : decode prog_2_method_6_code 1 = .ok (.getfield 20, 3) := by decide +kernel
theorem d12_4 : decode prog_2_method_6_code 4 = .ok (.ireturn, 1) := by decide +kernel
def P12 (Z : State) (hE : Heap) (a1 : Addr) (a2 : Addr) (q_a1 : List Int32) (q_a2_end : Int32) (q_a2_start : Int32) (q_a2_number : Int32) (n0 : Nat) (r : Int32) (v : Option Value) (h : Heap) (L : List Loc) : Prop := v = some (.int r) ∧ Fr n0 L ∧ h = hE
def g12_0 (q_a1 : List Int32) (q_a2_end : Int32) (q_a2_start : Int32) (q_a2_number : Int32) : Option (Int32) := some q_a2_number
set_option maxRecDepth 65536 in
set_option maxHeartbeats 4000000 in
theorem b12_0 {hE : Heap} {a1 : Addr} {a2 : Addr} {q_a1 : List Int32} {q_a2_end : Int32} {q_a2_start : Int32} {q_a2_number : Int32} {r : Int32} (C : Ctx p s m meth c Z a0 "com/example/braid/braid/BodyLines" prog_2_method_6_code 1 (some .int) "number") (X0 : Stand p l e ({ frames := 0, cells := 0, slots := 0, locals := 0 } : Room) s m args below meth c T0 locs cells slots) (e0 : T0.heap = hE) (N0 : Fr n0 locs) (hk : cells ≤ 0) (hn : slots ≤ 0) (Z1 : n0 ≤ hE.size) (o0 : n0 ≤ a1) (o1 : @LT.lt Nat instLTNat a1 a2) (A_a1_0 : AI Z hE a1 .byte q_a1) (E_a2_0 : Exa Z hE a2 "com/example/braid/braid/BodyLines") (F_a2_end_0 : Fld Z hE a2 "com/example/braid/braid/BodyLines" "end" "I" (.int q_a2_end)) (F_a2_body_0 : Fld Z hE a2 "com/example/braid/braid/BodyLines" "body" "[B" (.ref a1)) (F_a2_start_0 : Fld Z hE a2 "com/example/braid/braid/BodyLines" "start" "I" (.int q_a2_start)) (F_a2_number_0 : Fld Z hE a2 "com/example/braid/braid/BodyLines" "number" "I" (.int q_a2_number)) (hr : g12_0 q_a1 q_a2_end q_a2_start q_a2_number = some r) :
    Runs p e below s (P12 Z hE a1 a2 q_a1 q_a2_end q_a2_start q_a2_number n0 r) 0 0 T0 (mkF m 0 #[.val (.ref a2)] []) := by
  unfold g12_0 at hr
  have ⟨hx, hZ, hw, hby, hml, hown, hret, hlk, hnm⟩ := C
  refine Runs.via (T' := T0) (g' := (mkF m 1 #[.val (.ref a2)] [(.ref a2)])) (fun t k => ?_) ?_
  · show Steps p.tables e below (T0.setTop (mkF m 0 #[.val (.ref a2)] [])) t
    refine XS.aloadN X0.here hx rfl (hb hby d12_0) rfl rfl ?_
    exact k
  obtain ⟨T1, X1, e1, st1⟩ := getF X0 hx hZ hown (host := "") (Or.inl (hw _ (List.mem_of_getElem? (i := 31) rfl))) Via.refl e0 F_a2_number_0 (g := (mkF m 1 #[.val (.ref a2)] [(.ref a2)])) rfl rfl (hb hby d12_1)
  refine Runs.via (T' := T1) (g' := (mkF m 4 #[.val (.ref a2)] [(.int q_a2_number)])) (fun t k => st1 _ k) ?_
  obtain rfl := Option.some.inj hr
  exact own_retI X1 hx hlk hret (hb hby d12_4) (by show cells ≤ 0; omega) (by show slots ≤ 0; omega) ⟨rfl, N0, e1⟩
def f12 (q_a1 : List Int32) (q_a2_end : Int32) (q_a2_start : Int32) (q_a2_number : Int32) : Option (Int32) := g12_0 q_a1 q_a2_end q_a2_start q_a2_number
theorem pn_12 : plainName "com/example/braid/braid/BodyLines" = true := by first | (simp [plainName, overriddenIn]; done) | decide +kernel
theorem ef_12 (m : MethodId) (a1 : Addr) (a2 : Addr) : entryFrame m #[(.ref a2)] 1 = mkF m 0 #[.val (.ref a2)] [] := by first | (simp [entryFrame, mkF, argsToLocals, Value.category]; done) | rfl
set_option maxRecDepth 65536 in
set_option maxHeartbeats 4000000 in
theorem rm12 (l : Launch) (Z : State) (a0 : Array Value) (hw : ∀ d ∈ tables_1, d.before a0 Z = true) (ws : List Jvm.Cond) (a1 : Addr) (a2 : Addr) (q_a1 : List Int32) (q_a2_end : Int32) (q_a2_start : Int32) (q_a2_number : Int32) (hE : Heap) (n0 : Nat) (Z0 : n0 ≤ hE.size) (o0 : n0 ≤ a1) (o1 : @LT.lt Nat instLTNat a1 a2) (A_a1_0 : AI Z hE a1 .byte q_a1) (E_a2_0 : Exa Z hE a2 "com/example/braid/braid/BodyLines") (F_a2_end_0 : Fld Z hE a2 "com/example/braid/braid/BodyLines" "end" "I" (.int q_a2_end)) (F_a2_body_0 : Fld Z hE a2 "com/example/braid/braid/BodyLines" "body" "[B" (.ref a1)) (F_a2_start_0 : Fld Z hE a2 "com/example/braid/braid/BodyLines" "start" "I" (.int q_a2_start)) (F_a2_number_0 : Fld Z hE a2 "com/example/braid/braid/BodyLines" "number" "I" (.int q_a2_number)) (r : Int32) (hr : f12 q_a1 q_a2_end q_a2_start q_a2_number = some r) :
    MetFree l (⟨"com/example/braid/braid/BodyLines", "number", "()I"⟩ : MethodName) (head1 (Jvm.Cond.code (⟨"com/example/braid/braid/BodyLines", "number", "()I"⟩ : MethodName) prog_2_method_6_code 1 (some .int) :: ws) ({ frames := 0, cells := 0, slots := 0, locals := 0 } : Room)) (fun a U => a = #[(.ref a2)] ∧ Z.Warmed39 U.vm ∧ U.heap = hE) (fun _ _ _ _ _ => True) (fun _ U o U' => ∃ v L, o = .returned v ∧ (P12 Z hE a1 a2 q_a1 q_a2_end q_a2_start q_a2_number n0 r v U'.heap L) ∧ FrameEnd U o U' L ({ frames := 0, cells := 0, slots := 0, locals := 0 } : Room).cells ({ frames := 0, cells := 0, slots := 0, locals := 0 } : Room).slots) := by
  refine MetFree.of_bodySF (plainFor_of_name pn_12) hisR ?_
  intro p e s m args below meth c s₁ Bd hml0 hP hK
  obtain ⟨rfl, hZ, hh⟩ := hP
  have X0 : Stand p l e ({ frames := 0, cells := 0, slots := 0, locals := 0 } : Room) s m #[(.ref a2)] below meth c s₁ [] 0 0 := Stand.of_body Bd
  have e0 : s₁.heap = hE := by rw [← hh, Bd.state]; rfl
  have C : Ctx p s m meth c Z a0 "com/example/braid/braid/BodyLines" prog_2_method_6_code 1 (some .int) "number" := ⟨Bd.exec, hZ, hw, Bd.bytes, hml0, findClass_of_methodNamed Bd.named, Bd.returns, BodyLoose.notSynchronized Bd, (name_of_methodNamed Bd.named Bd.method).1⟩
  refine Runs.via (fun t k => castTop (ef_12 m a1 a2) k) (b12_0 C X0 e0 (Fr.nil n0) (by show 0 ≤ 0; omega) (by show 0 ≤ 0; omega) Z0 (by omega) (by omega) A_a1_0 E_a2_0 F_a2_end_0 F_a2_body_0 F_a2_start_0 F_a2_number_0 hr)
theorem d16_0 : decode method_8_code 0 = .ok (.iconst 0, 1) := by decide +kernel
theorem d16_1 : decode method_8_code 1 = .ok (.istore_n 3, 1) := by decide +kernel
theorem d16_2 : decode method_8_code 2 = .ok (.aload_n 0, 1) := by decide +kernel
theorem d16_3 : decode method_8_code 3 = .ok (.iload_n 1, 1) := by decide +kernel
theorem d16_4 : decode method_8_code 4 = .ok (.iload_n 2, 1) := by decide +kernel
theorem d16_5 : decode method_8_code 5 = .ok (.iconst 0, 1) := by decide +kernel
theorem d16_6 : decode method_8_code 6 = .ok (.invokestatic 13, 3) := by decide +kernel
theorem d16_9 : decode method_8_code 9 = .ok (.ifCond .eq 6, 3) := by decide +kernel
theorem d16_12 : decode method_8_code 12 = .ok (.iinc 3 1, 3) := by decide +kernel
theorem d16_15 : decode method_8_code 15 = .ok (.aload_n 0, 1) := by decide +kernel
theorem d16_16 : decode method_8_code 16 = .ok (.iload_n 1, 1) := by decide +kernel
theorem d16_17 : decode method_8_code 17 = .ok (.iload_n 2, 1) := by decide +kernel
theorem d16_18 : decode method_8_code 18 = .ok (.iconst 1, 1) := by decide +kernel
theorem d16_19 : decode method_8_code 19 = .ok (.invokestatic 13, 3) := by decide +kernel
theorem d16_22 : decode method_8_code 22 = .ok (.ifCond .eq 6, 3) := by decide +kernel
theorem d16_25 : decode method_8_code 25 = .ok (.iinc 3 1, 3) := by decide +kernel
theorem d16_28 : decode method_8_code 28 = .ok (.aload_n 0, 1) := by decide +kernel
theorem d16_29 : decode method_8_code 29 = .ok (.iload_n 1, 1) := by decide +kernel
theorem d16_30 : decode method_8_code 30 = .ok (.iload_n 2, 1) := by decide +kernel
theorem d16_31 : decode method_8_code 31 = .ok (.iconst 2, 1) := by decide +kernel
theorem d16_32 : decode method_8_code 32 = .ok (.invokestatic 13, 3) := by decide +kernel
theorem d16_35 : decode method_8_code 35 = .ok (.ifCond .eq 6, 3) := by decide +kernel
theorem d16_38 : decode method_8_code 38 = .ok (.iinc 3 1, 3) := by decide +kernel
theorem d16_41 : decode method_8_code 41 = .ok (.aload_n 0, 1) := by decide +kernel
theorem d16_42 : decode method_8_code 42 = .ok (.iload_n 1, 1) := by decide +kernel
theorem d16_43 : decode method_8_code 43 = .ok (.iload_n 2, 1) := by decide +kernel
theorem d16_44 : decode method_8_code 44 = .ok (.iconst 3, 1) := by decide +kernel
theorem d16_45 : decode method_8_code 45 = .ok (.invokestatic 13, 3) := by decide +kernel
theorem d16_48 : decode method_8_code 48 = .ok (.ifCond .eq 6, 3) := by decide +kernel
theorem d16_51 : decode method_8_code 51 = .ok (.iinc 3 1, 3) := by decide +kernel
theorem d16_54 : decode method_8_code 54 = .ok (.aload_n 0, 1) := by decide +kernel
theorem d16_55 : decode method_8_code 55 = .ok (.iload_n 1, 1) := by decide +kernel
theorem d16_56 : decode method_8_code 56 = .ok (.iload_n 2, 1) := by decide +kernel
theorem d16_57 : decode method_8_code 57 = .ok (.iconst 4, 1) := by decide +kernel
theorem d16_58 : decode method_8_code 58 = .ok (.invokestatic 13, 3) := by decide +kernel
theorem d16_61 : decode method_8_code 61 = .ok (.ifCond .eq 6, 3) := by decide +kernel
theorem d16_64 : decode method_8_code 64 = .ok (.iinc 3 1, 3) := by decide +kernel
theorem d16_67 : decode method_8_code 67 = .ok (.iload_n 3, 1) := by decide +kernel
theorem d16_68 : decode method_8_code 68 = .ok (.ireturn, 1) := by decide +kernel
def P16 (Z : State) (hE : Heap) (a1 : Addr) (q_a1 : List Int32) (n0 : Nat) (r : Int32) (v : Option Value) (h : Heap) (L : List Loc) : Prop := v = some (.int r) ∧ Fr n0 L ∧ h = hE
def g16_54 (x1 : Int32) (x2 : Int32) (x3 : Int32) (q_a1 : List Int32) : Option (Int32) := ((f14 x1 x2 (4 : Int32) q_a1).bind fun r1 => (if r1 = (0 : Int32) then some x3 else some (x3 + (1 : Int32))))
set_option maxRecDepth 65536 in
set_option maxHeartbeats 4000000 in
theorem b16_54 {hE : Heap} {a1 : Addr} {q_a1 : List Int32} {r : Int32} (C : Ctx p s m meth c Z a0 "com/example/braid/braid/BodyLinesNextNotBlankPinLaw" method_8_code 4 (some .int) "countNL") (X0 : Stand p l e ({ frames := 1, cells := 0, slots := 0, locals := 15 } : Room) s m args below meth c T0 locs cells slots) (e0 : T0.heap = hE) (N0 : Fr n0 locs) (hk : cells ≤ 0) (hn : slots ≤ 0) (Z1 : n0 ≤ hE.size) (o0 : n0 ≤ a1) (x1 : Int32) (x2 : Int32) (x3 : Int32) (A_a1_0 : AI Z hE a1 .byte q_a1) (hr : g16_54 x1 x2 x3 q_a1 = some r) :
    Runs p e below s (P16 Z hE a1 q_a1 n0 r) 0 0 T0 (mkF m 54 #[.val (.ref a1), .val (.int x1), .val (.int x2), .val (.int x3)] []) := by
  unfold g16_54 at hr
  have ⟨hx, hZ, hw, hby, hml, hown, hret, hlk, hnm⟩ := C
  refine Runs.via (T' := T0) (g' := (mkF m 58 #[.val (.ref a1), .val (.int x1), .val (.int x2), .val (.int x3)] [(.int (4 : Int32)), (.int x2), (.int x1), (.ref a1)])) (fun t k => ?_) ?_
  · show Steps p.tables e below (T0.setTop (mkF m 54 #[.val (.ref a1), .val (.int x1), .val (.int x2), .val (.int x3)] [])) t
    refine XS.aloadN X0.here hx rfl (hb hby d16_54) rfl rfl ?_
    show Steps p.tables e below (T0.setTop (mkF m 55 #[.val (.ref a1), .val (.int x1), .val (.int x2), .val (.int x3)] [(.ref a1)])) t
    refine XS.iloadN X0.here hx rfl (hb hby d16_55) rfl ?_
    show Steps p.tables e below (T0.setTop (mkF m 56 #[.val (.ref a1), .val (.int x1), .val (.int x2), .val (.int x3)] [(.int x1), (.ref a1)])) t
    refine XS.iloadN X0.here hx rfl (hb hby d16_56) rfl ?_
    show Steps p.tables e below (T0.setTop (mkF m 57 #[.val (.ref a1), .val (.int x1), .val (.int x2), .val (.int x3)] [(.int x2), (.int x1), (.ref a1)])) t
    refine XS.iconst X0.here hx rfl (hb hby d16_57) ?_
    exact k
  refine bindE hr ?_; intro r1 hr1m hr
  obtain ⟨_, _, ⟨T1, L1, k1, n1⟩, -, X1, ⟨Lc1, hQ1, l1, y1, z1⟩, st1⟩ := Jvm.LawKit.callS X0 hx (y := (⟨"com/example/braid/braid/BodyLinesNextNotBlankPinLaw", "nl", "([BIII)Z"⟩ : MethodName)) hown (mvT hZ (hw _ (List.mem_of_getElem? (i := 64) rfl))) (mvT hZ (hw _ (List.mem_of_getElem? (i := 65) rfl))) (mvT hZ (hw _ (List.mem_of_getElem? (i := 4) rfl))) (mvT hZ (hw _ (List.mem_of_getElem? (i := 66) rfl))) (by decide) (backOf (W := 0) (rm14 l Z a0 hw [] x1 x2 (4 : Int32) a1 q_a1 hE n0 Z1 (by omega) A_a1_0 r1 hr1m) hZ (hw _ (List.mem_of_getElem? (i := 66) rfl)) (hw _ (List.mem_of_getElem? (i := 4) rfl)) (by decide) (by decide)) (g := (mkF m 58 #[.val (.ref a1), .val (.int x1), .val (.int x2), .val (.int x3)] [(.int (4 : Int32)), (.int x2), (.int x1), (.ref a1)])) rfl (by rw [hml]; rfl) (argsL := [(.ref a1), (.int x1), (.int x2), (.int (4 : Int32))]) (rest := []) (lenOf pd_3 rfl) rfl (by show 2 * 0 + _ ≤ _; exact Nat.le_of_eq rfl) (hb hby d16_58) (fun _ _ => ⟨rfl, e0, (by show cells + 0 ≤ 0; omega), (by show slots + 0 ≤ 0; omega)⟩)
  dsimp only [Pt.U, Pt.locs, Pt.cells, Pt.slots] at X1 l1 y1 z1 st1 hQ1
  replace y1 := y1.symm; replace z1 := z1.symm; subst l1 y1 z1
  obtain ⟨rfl, N1q, e1⟩ := hQ1
  have N1 := Fr.app N0 N1q
  refine Runs.via (T' := T1) (g' := (mkF m 61 #[.val (.ref a1), .val (.int x1), .val (.int x2), .val (.int x3)] [(.int r1)])) (fun t k => st1 _ k) ?_
  refine iteE hr (fun hc2 hr => ?_) (fun hc2 hr => ?_)
  · refine Runs.via (T' := T1) (g' := (mkF m 67 #[.val (.ref a1), .val (.int x1), .val (.int x2), .val (.int x3)] [])) (fun t k => ?_) ?_
    · show Steps p.tables e below (T1.setTop (mkF m 61 #[.val (.ref a1), .val (.int x1), .val (.int x2), .val (.int x3)] [(.int r1)])) t
      exact XS.ifYes X1.here hx rfl (pc0 := 61) (pc' := 67) rfl (hb hby d16_61) rfl ((if0 _ _).trans (teq hc2).1) (by decide) (by decide) k
    refine Runs.via (T' := T1) (g' := (mkF m 68 #[.val (.ref a1), .val (.int x1), .val (.int x2), .val (.int x3)] [(.int x3)])) (fun t k => ?_) ?_
    · show Steps p.tables e below (T1.setTop (mkF m 67 #[.val (.ref a1), .val (.int x1), .val (.int x2), .val (.int x3)] [])) t
      refine XS.iloadN X1.here hx rfl (hb hby d16_67) rfl ?_
      exact k
    obtain rfl := Option.some.inj hr
    exact own_retI X1 hx hlk hret (hb hby d16_68) (by show (cells + 0) ≤ 0; omega) (by show (slots + 0) ≤ 0; omega) ⟨rfl, N1, e1⟩
  · refine Runs.via (T' := T1) (g' := (mkF m 64 #[.val (.ref a1), .val (.int x1), .val (.int x2), .val (.int x3)] [])) (fun t k => ?_) ?_
    · show Steps p.tables e below (T1.setTop (mkF m 61 #[.val (.ref a1), .val (.int x1), .val (.int x2), .val (.int x3)] [(.int r1)])) t
      exact XS.ifNo X1.here hx rfl (hb hby d16_61) rfl ((if0 _ _).trans (feq hc2).1) k
    refine Runs.via (T' := T1) (g' := (mkF m 68 #[.val (.ref a1), .val (.int x1), .val (.int x2), .val (.int (x3 + (1 : Int32)))] [(.int (x3 + (1 : Int32)))])) (fun t k => ?_) ?_
    · show Steps p.tables e below (T1.setTop (mkF m 64 #[.val (.ref a1), .val (.int x1), .val (.int x2), .val (.int x3)] [])) t
      refine XS.iinc X1.here hx rfl (hb hby d16_64) rfl (l' := #[.val (.ref a1), .val (.int x1), .val (.int x2), .val (.int (x3 + (1 : Int32)))]) rfl ?_
      show Steps p.tables e below (T1.setTop (mkF m 67 #[.val (.ref a1), .val (.int x1), .val (.int x2), .val (.int (x3 + (1 : Int32)))] [])) t
      refine XS.iloadN X1.here hx rfl (hb hby d16_67) rfl ?_
      exact k
    obtain rfl := Option.some.inj hr
    exact own_retI X1 hx hlk hret (hb hby d16_68) (by show (cells + 0) ≤ 0; omega) (by show (slots + 0) ≤ 0; omega) ⟨rfl, N1, e1⟩
def g16_41 (x1 : Int32) (x2 : Int32) (x3 : Int32) (q_a1 : List Int32) : Option (Int32) := ((f14 x1 x2 (3 : Int32) q_a1).bind fun r1 => (if r1 = (0 : Int32) then (g16_54 x1 x2 x3 q_a1) else (g16_54 x1 x2 (x3 + (1 : Int32)) q_a1)))
set_option maxRecDepth 65536 in
set_option maxHeartbeats 4000000 in
theorem b16_41 {hE : Heap} {a1 : Addr} {q_a1 : List Int32} {r : Int32} (C : Ctx p s m meth c Z a0 "com/example/braid/braid/BodyLinesNextNotBlankPinLaw" method_8_code 4 (some .int) "countNL") (X0 : Stand p l e ({ frames := 1, cells := 0, slots := 0, locals := 15 } : Room) s m args below meth c T0 locs cells slots) (e0 : T0.heap = hE) (N0 : Fr n0 locs) (hk : cells ≤ 0) (hn : slots ≤ 0) (Z1 : n0 ≤ hE.size) (o0 : n0 ≤ a1) (x1 : Int32) (x2 : Int32) (x3 : Int32) (A_a1_0 : AI Z hE a1 .byte q_a1) (hr : g16_41 x1 x2 x3 q_a1 = some r) :
    Runs p e below s (P16 Z hE a1 q_a1 n0 r) 0 0 T0 (mkF m 41 #[.val (.ref a1), .val (.int x1), .val (.int x2), .val (.int x3)] []) := by
  unfold g16_41 at hr
  have ⟨hx, hZ, hw, hby, hml, hown, hret, hlk, hnm⟩ := C
  refine Runs.via (T' := T0) (g' := (mkF m 45 #[.val (.ref a1), .val (.int x1), .val (.int x2), .val (.int x3)] [(.int (3 : Int32)), (.int x2), (.int x1), (.ref a1)])) (fun t k => ?_) ?_
  · show Steps p.tables e below (T0.setTop (mkF m 41 #[.val (.ref a1), .val (.int x1), .val (.int x2), .val (.int x3)] [])) t
    refine XS.aloadN X0.here hx rfl (hb hby d16_41) rfl rfl ?_
    show Steps p.tables e below (T0.setTop (mkF m 42 #[.val (.ref a1), .val (.int x1), .val (.int x2), .val (.int x3)] [(.ref a1)])) t
    refine XS.iloadN X0.here hx rfl (hb hby d16_42) rfl ?_
    show Steps p.tables e below (T0.setTop (mkF m 43 #[.val (.ref a1), .val (.int x1), .val (.int x2), .val (.int x3)] [(.int x1), (.ref a1)])) t
    refine XS.iloadN X0.here hx rfl (hb hby d16_43) rfl ?_
    show Steps p.tables e below (T0.setTop (mkF m 44 #[.val (.ref a1), .val (.int x1), .val (.int x2), .val (.int x3)] [(.int x2), (.int x1), (.ref a1)])) t
    refine XS.iconst X0.here hx rfl (hb hby d16_44) ?_
    exact k
  refine bindE hr ?_; intro r1 hr1m hr
  obtain ⟨_, _, ⟨T1, L1, k1, n1⟩, -, X1, ⟨Lc1, hQ1, l1, y1, z1⟩, st1⟩ := Jvm.LawKit.callS X0 hx (y := (⟨"com/example/braid/braid/BodyLinesNextNotBlankPinLaw", "nl", "([BIII)Z"⟩ : MethodName)) hown (mvT hZ (hw _ (List.mem_of_getElem? (i := 64) rfl))) (mvT hZ (hw _ (List.mem_of_getElem? (i := 65) rfl))) (mvT hZ (hw _ (List.mem_of_getElem? (i := 4) rfl))) (mvT hZ (hw _ (List.mem_of_getElem? (i := 66) rfl))) (by decide) (backOf (W := 0) (rm14 l Z a0 hw [] x1 x2 (3 : Int32) a1 q_a1 hE n0 Z1 (by omega) A_a1_0 r1 hr1m) hZ (hw _ (List.mem_of_getElem? (i := 66) rfl)) (hw _ (List.mem_of_getElem? (i := 4) rfl)) (by decide) (by decide)) (g := (mkF m 45 #[.val (.ref a1), .val (.int x1), .val (.int x2), .val (.int x3)] [(.int (3 : Int32)), (.int x2), (.int x1), (.ref a1)])) rfl (by rw [hml]; rfl) (argsL := [(.ref a1), (.int x1), (.int x2), (.int (3 : Int32))]) (rest := []) (lenOf pd_3 rfl) rfl (by show 2 * 0 + _ ≤ _; exact Nat.le_of_eq rfl) (hb hby d16_45) (fun _ _ => ⟨rfl, e0, (by show cells + 0 ≤ 0; omega), (by show slots + 0 ≤ 0; omega)⟩)
  dsimp only [Pt.U, Pt.locs, Pt.cells, Pt.slots] at X1 l1 y1 z1 st1 hQ1
  replace y1 := y1.symm; replace z1 := z1.symm; subst l1 y1 z1
  obtain ⟨rfl, N1q, e1⟩ := hQ1
  have N1 := Fr.app N0 N1q
  refine Runs.via (T' := T1) (g' := (mkF m 48 #[.val (.ref a1), .val (.int x1), .val (.int x2), .val (.int x3)] [(.int r1)])) (fun t k => st1 _ k) ?_
  refine iteE hr (fun hc2 hr => ?_) (fun hc2 hr => ?_)
  · refine Runs.via (T' := T1) (g' := (mkF m 54 #[.val (.ref a1), .val (.int x1), .val (.int x2), .val (.int x3)] [])) (fun t k => ?_) ?_
    · show Steps p.tables e below (T1.setTop (mkF m 48 #[.val (.ref a1), .val (.int x1), .val (.int x2), .val (.int x3)] [(.int r1)])) t
      exact XS.ifYes X1.here hx rfl (pc0 := 48) (pc' := 54) rfl (hb hby d16_48) rfl ((if0 _ _).trans (teq hc2).1) (by decide) (by decide) k
    exact b16_54 C X1 e1 N1 (by show (cells + 0) ≤ 0; omega) (by show (slots + 0) ≤ 0; omega) Z1 (by omega) x1 x2 x3 A_a1_0 hr
  · refine Runs.via (T' := T1) (g' := (mkF m 51 #[.val (.ref a1), .val (.int x1), .val (.int x2), .val (.int x3)] [])) (fun t k => ?_) ?_
    · show Steps p.tables e below (T1.setTop (mkF m 48 #[.val (.ref a1), .val (.int x1), .val (.int x2), .val (.int x3)] [(.int r1)])) t
      exact XS.ifNo X1.here hx rfl (hb hby d16_48) rfl ((if0 _ _).trans (feq hc2).1) k
    refine Runs.via (T' := T1) (g' := (mkF m 54 #[.val (.ref a1), .val (.int x1), .val (.int x2), .val (.int (x3 + (1 : Int32)))] [])) (fun t k => ?_) ?_
    · show Steps p.tables e below (T1.setTop (mkF m 51 #[.val (.ref a1), .val (.int x1), .val (.int x2), .val (.int x3)] [])) t
      refine XS.iinc X1.here hx rfl (hb hby d16_51) rfl (l' := #[.val (.ref a1), .val (.int x1), .val (.int x2), .val (.int (x3 + (1 : Int32)))]) rfl ?_
      exact k
    exact b16_54 C X1 e1 N1 (by show (cells + 0) ≤ 0; omega) (by show (slots + 0) ≤ 0; omega) Z1 (by omega) x1 x2 (x3 + (1 : Int32)) A_a1_0 hr
def g16_28 (x1 : Int32) (x2 : Int32) (x3 : Int32) (q_a1 : List Int32) : Option (Int32) := ((f14 x1 x2 (2 : Int32) q_a1).bind fun r1 => (if r1 = (0 : Int32) then (g16_41 x1 x2 x3 q_a1) else (g16_41 x1 x2 (x3 + (1 : Int32)) q_a1)))
set_option maxRecDepth 65536 in
set_option maxHeartbeats 4000000 in
theorem b16_28 {hE : Heap} {a1 : Addr} {q_a1 : List Int32} {r : Int32} (C : Ctx p s m meth c Z a0 "com/example/braid/braid/BodyLinesNextNotBlankPinLaw" method_8_code 4 (some .int) "countNL") (X0 : Stand p l e ({ frames := 1, cells := 0, slots := 0, locals := 15 } : Room) s m args below meth c T0 locs cells slots) (e0 : T0.heap = hE) (N0 : Fr n0 locs) (hk : cells ≤ 0) (hn : slots ≤ 0) (Z1 : n0 ≤ hE.size) (o0 : n0 ≤ a1) (x1 : Int32) (x2 : Int32) (x3 : Int32) (A_a1_0 : AI Z hE a1 .byte q_a1) (hr : g16_28 x1 x2 x3 q_a1 = some r) :
    Runs p e below s (P16 Z hE a1 q_a1 n0 r) 0 0 T0 (mkF m 28 #[.val (.ref a1), .val (.int x1), .val (.int x2), .val (.int x3)] []) := by
  unfold g16_28 at hr
  have ⟨hx, hZ, hw, hby, hml, hown, hret, hlk, hnm⟩ := C
  refine Runs.via (T' := T0) (g' := (mkF m 32 #[.val (.ref a1), .val (.int x1), .val (.int x2), .val (.int x3)] [(.int (2 : Int32)), (.int x2), (.int x1), (.ref a1)])) (fun t k => ?_) ?_
  · show Steps p.tables e below (T0.setTop (mkF m 28 #[.val (.ref a1), .val (.int x1), .val (.int x2), .val (.int x3)] [])) t
    refine XS.aloadN X0.here hx rfl (hb hby d16_28) rfl rfl ?_
    show Steps p.tables e below (T0.setTop (mkF m 29 #[.val (.ref a1), .val (.int x1), .val (.int x2), .val (.int x3)] [(.ref a1)])) t
    refine XS.iloadN X0.here hx rfl (hb hby d16_29) rfl ?_
    show Steps p.tables e below (T0.setTop (mkF m 30 #[.val (.ref a1), .val (.int x1), .val (.int x2), .val (.int x3)] [(.int x1), (.ref a1)])) t
    refine XS.iloadN X0.here hx rfl (hb hby d16_30) rfl ?_
    show Steps p.tables e below (T0.setTop (mkF m 31 #[.val (.ref a1), .val (.int x1), .val (.int x2), .val (.int x3)] [(.int x2), (.int x1), (.ref a1)])) t
    refine XS.iconst X0.here hx rfl (hb hby d16_31) ?_
    exact k
  refine bindE hr ?_; intro r1 hr1m hr
  obtain ⟨_, _, ⟨T1, L1, k1, n1⟩, -, X1, ⟨Lc1, hQ1, l1, y1, z1⟩, st1⟩ := Jvm.LawKit.callS X0 hx (y := (⟨"com/example/braid/braid/BodyLinesNextNotBlankPinLaw", "nl", "([BIII)Z"⟩ : MethodName)) hown (mvT hZ (hw _ (List.mem_of_getElem? (i := 64) rfl))) (mvT hZ (hw _ (List.mem_of_getElem? (i := 65) rfl))) (mvT hZ (hw _ (List.mem_of_getElem? (i := 4) rfl))) (mvT hZ (hw _ (List.mem_of_getElem? (i := 66) rfl))) (by decide) (backOf (W := 0) (rm14 l Z a0 hw [] x1 x2 (2 : Int32) a1 q_a1 hE n0 Z1 (by omega) A_a1_0 r1 hr1m) hZ (hw _ (List.mem_of_getElem? (i := 66) rfl)) (hw _ (List.mem_of_getElem? (i := 4) rfl)) (by decide) (by decide)) (g := (mkF m 32 #[.val (.ref a1), .val (.int x1), .val (.int x2), .val (.int x3)] [(.int (2 : Int32)), (.int x2), (.int x1), (.ref a1)])) rfl (by rw [hml]; rfl) (argsL := [(.ref a1), (.int x1), (.int x2), (.int (2 : Int32))]) (rest := []) (lenOf pd_3 rfl) rfl (by show 2 * 0 + _ ≤ _; exact Nat.le_of_eq rfl) (hb hby d16_32) (fun _ _ => ⟨rfl, e0, (by show cells + 0 ≤ 0; omega), (by show slots + 0 ≤ 0; omega)⟩)
  dsimp only [Pt.U, Pt.locs, Pt.cells, Pt.slots] at X1 l1 y1 z1 st1 hQ1
  replace y1 := y1.symm; replace z1 := z1.symm; subst l1 y1 z1
  obtain ⟨rfl, N1q, e1⟩ := hQ1
  have N1 := Fr.app N0 N1q
  refine Runs.via (T' := T1) (g' := (mkF m 35 #[.val (.ref a1), .val (.int x1), .val (.int x2), .val (.int x3)] [(.int r1)])) (fun t k => st1 _ k) ?_
  refine iteE hr (fun hc2 hr => ?_) (fun hc2 hr => ?_)
  · refine Runs.via (T' := T1) (g' := (mkF m 41 #[.val (.ref a1), .val (.int x1), .val (.int x2), .val (.int x3)] [])) (fun t k => ?_) ?_
    · show Steps p.tables e below (T1.setTop (mkF m 35 #[.val (.ref a1), .val (.int x1), .val (.int x2), .val (.int x3)] [(.int r1)])) t
      exact XS.ifYes X1.here hx rfl (pc0 := 35) (pc' := 41) rfl (hb hby d16_35) rfl ((if0 _ _).trans (teq hc2).1) (by decide) (by decide) k
    exact b16_41 C X1 e1 N1 (by show (cells + 0) ≤ 0; omega) (by show (slots + 0) ≤ 0; omega) Z1 (by omega) x1 x2 x3 A_a1_0 hr
  · refine Runs.via (T' := T1) (g' := (mkF m 38 #[.val (.ref a1), .val (.int x1), .val (.int x2), .val (.int x3)] [])) (fun t k => ?_) ?_
    · show Steps p.tables e below (T1.setTop (mkF m 35 #[.val (.ref a1), .val (.int x1), .val (.int x2), .val (.int x3)] [(.int r1)])) t
      exact XS.ifNo X1.here hx rfl (hb hby d16_35) rfl ((if0 _ _).trans (feq hc2).1) k
    refine Runs.via (T' := T1) (g' := (mkF m 41 #[.val (.ref a1), .val (.int x1), .val (.int x2), .val (.int (x3 + (1 : Int32)))] [])) (fun t k => ?_) ?_
    · show Steps p.tables e below (T1.setTop (mkF m 38 #[.val (.ref a1), .val (.int x1), .val (.int x2), .val (.int x3)] [])) t
      refine XS.iinc X1.here hx rfl (hb hby d16_38) rfl (l' := #[.val (.ref a1), .val (.int x1), .val (.int x2), .val (.int (x3 + (1 : Int32)))]) rfl ?_
      exact k
    exact b16_41 C X1 e1 N1 (by show (cells + 0) ≤ 0; omega) (by show (slots + 0) ≤ 0; omega) Z1 (by omega) x1 x2 (x3 + (1 : Int32)) A_a1_0 hr
def g16_15 (x1 : Int32) (x2 : Int32) (x3 : Int32) (q_a1 : List Int32) : Option (Int32) := ((f14 x1 x2 (1 : Int32) q_a1).bind fun r1 => (if r1 = (0 : Int32) then (g16_28 x1 x2 x3 q_a1) else (g16_28 x1 x2 (x3 + (1 : Int32)) q_a1)))
set_option maxRecDepth 65536 in
set_option maxHeartbeats 4000000 in
theorem b16_15 {hE : Heap} {a1 : Addr} {q_a1 : List Int32} {r : Int32} (C : Ctx p s m meth c Z a0 "com/example/braid/braid/BodyLinesNextNotBlankPinLaw" method_8_code 4 (some .int) "countNL") (X0 : Stand p l e ({ frames := 1, cells := 0, slots := 0, locals := 15 } : Room) s m args below meth c T0 locs cells slots) (e0 : T0.heap = hE) (N0 : Fr n0 locs) (hk : cells ≤ 0) (hn : slots ≤ 0) (Z1 : n0 ≤ hE.size) (o0 : n0 ≤ a1) (x1 : Int32) (x2 : Int32) (x3 : Int32) (A_a1_0 : AI Z hE a1 .byte q_a1) (hr : g16_15 x1 x2 x3 q_a1 = some r) :
    Runs p e below s (P16 Z hE a1 q_a1 n0 r) 0 0 T0 (mkF m 15 #[.val (.ref a1), .val (.int x1), .val (.int x2), .val (.int x3)] []) := by
  unfold g16_15 at hr
  have ⟨hx, hZ, hw, hby, hml, hown, hret, hlk, hnm⟩ := C
  refine Runs.via (T' := T0) (g' := (mkF m 19 #[.val (.ref a1), .val (.int x1), .val (.int x2), .val (.int x3)] [(.int (1 : Int32)), (.int x2), (.int x1), (.ref a1)])) (fun t k => ?_) ?_
  · show Steps p.tables e below (T0.setTop (mkF m 15 #[.val (.ref a1), .val (.int x1), .val (.int x2), .val (.int x3)] [])) t
    refine XS.aloadN X0.here hx rfl (hb hby d16_15) rfl rfl ?_
    show Steps p.tables e below (T0.setTop (mkF m 16 #[.val (.ref a1), .val (.int x1), .val (.int x2), .val (.int x3)] [(.ref a1)])) t
    refine XS.iloadN X0.here hx rfl (hb hby d16_16) rfl ?_
    show Steps p.tables e below (T0.setTop (mkF m 17 #[.val (.ref a1), .val (.int x1), .val (.int x2), .val (.int x3)] [(.int x1), (.ref a1)])) t
    refine XS.iloadN X0.here hx rfl (hb hby d16_17) rfl ?_
    show Steps p.tables e below (T0.setTop (mkF m 18 #[.val (.ref a1), .val (.int x1), .val (.int x2), .val (.int x3)] [(.int x2), (.int x1), (.ref a1)])) t
    refine XS.iconst X0.here hx rfl (hb hby d16_18) ?_
    exact k
  refine bindE hr ?_; intro r1 hr1m hr
  obtain ⟨_, _, ⟨T1, L1, k1, n1⟩, -, X1, ⟨Lc1, hQ1, l1, y1, z1⟩, st1⟩ := Jvm.LawKit.callS X0 hx (y := (⟨"com/example/braid/braid/BodyLinesNextNotBlankPinLaw", "nl", "([BIII)Z"⟩ : MethodName)) hown (mvT hZ (hw _ (List.mem_of_getElem? (i := 64) rfl))) (mvT hZ (hw _ (List.mem_of_getElem? (i := 65) rfl))) (mvT hZ (hw _ (List.mem_of_getElem? (i := 4) rfl))) (mvT hZ (hw _ (List.mem_of_getElem? (i := 66) rfl))) (by decide) (backOf (W := 0) (rm14 l Z a0 hw [] x1 x2 (1 : Int32) a1 q_a1 hE n0 Z1 (by omega) A_a1_0 r1 hr1m) hZ (hw _ (List.mem_of_getElem? (i := 66) rfl)) (hw _ (List.mem_of_getElem? (i := 4) rfl)) (by decide) (by decide)) (g := (mkF m 19 #[.val (.ref a1), .val (.int x1), .val (.int x2), .val (.int x3)] [(.int (1 : Int32)), (.int x2), (.int x1), (.ref a1)])) rfl (by rw [hml]; rfl) (argsL := [(.ref a1), (.int x1), (.int x2), (.int (1 : Int32))]) (rest := []) (lenOf pd_3 rfl) rfl (by show 2 * 0 + _ ≤ _; exact Nat.le_of_eq rfl) (hb hby d16_19) (fun _ _ => ⟨rfl, e0, (by show cells + 0 ≤ 0; omega), (by show slots + 0 ≤ 0; omega)⟩)
  dsimp only [Pt.U, Pt.locs, Pt.cells, Pt.slots] at X1 l1 y1 z1 st1 hQ1
  replace y1 := y1.symm; replace z1 := z1.symm; subst l1 y1 z1
  obtain ⟨rfl, N1q, e1⟩ := hQ1
  have N1 := Fr.app N0 N1q
  refine Runs.via (T' := T1) (g' := (mkF m 22 #[.val (.ref a1), .val (.int x1), .val (.int x2), .val (.int x3)] [(.int r1)])) (fun t k => st1 _ k) ?_
  refine iteE hr (fun hc2 hr => ?_) (fun hc2 hr => ?_)
  · refine Runs.via (T' := T1) (g' := (mkF m 28 #[.val (.ref a1), .val (.int x1), .val (.int x2), .val (.int x3)] [])) (fun t k => ?_) ?_
    · show Steps p.tables e below (T1.setTop (mkF m 22 #[.val (.ref a1), .val (.int x1), .val (.int x2), .val (.int x3)] [(.int r1)])) t
      exact XS.ifYes X1.here hx rfl (pc0 := 22) (pc' := 28) rfl (hb hby d16_22) rfl ((if0 _ _).trans (teq hc2).1) (by decide) (by decide) k
    exact b16_28 C X1 e1 N1 (by show (cells + 0) ≤ 0; omega) (by show (slots + 0) ≤ 0; omega) Z1 (by omega) x1 x2 x3 A_a1_0 hr
  · refine Runs.via (T' := T1) (g' := (mkF m 25 #[.val (.ref a1), .val (.int x1), .val (.int x2), .val (.int x3)] [])) (fun t k => ?_) ?_
    · show Steps p.tables e below (T1.setTop (mkF m 22 #[.val (.ref a1), .val (.int x1), .val (.int x2), .val (.int x3)] [(.int r1)])) t
      exact XS.ifNo X1.here hx rfl (hb hby d16_22) rfl ((if0 _ _).trans (feq hc2).1) k
    refine Runs.via (T' := T1) (g' := (mkF m 28 #[.val (.ref a1), .val (.int x1), .val (.int x2), .val (.int (x3 + (1 : Int32)))] [])) (fun t k => ?_) ?_
    · show Steps p.tables e below (T1.setTop (mkF m 25 #[.val (.ref a1), .val (.int x1), .val (.int x2), .val (.int x3)] [])) t
      refine XS.iinc X1.here hx rfl (hb hby d16_25) rfl (l' := #[.val (.ref a1), .val (.int x1), .val (.int x2), .val (.int (x3 + (1 : Int32)))]) rfl ?_
      exact k
    exact b16_28 C X1 e1 N1 (by show (cells + 0) ≤ 0; omega) (by show (slots + 0) ≤ 0; omega) Z1 (by omega) x1 x2 (x3 + (1 : Int32)) A_a1_0 hr
def g16_0 (x1 : Int32) (x2 : Int32) (q_a1 : List Int32) : Option (Int32) := ((f14 x1 x2 (0 : Int32) q_a1).bind fun r1 => (if r1 = (0 : Int32) then (g16_15 x1 x2 (0 : Int32) q_a1) else (g16_15 x1 x2 ((0 : Int32) + (1 : Int32)) q_a1)))
set_option maxRecDepth 65536 in
set_option maxHeartbeats 4000000 in
theorem b16_0 {hE : Heap} {a1 : Addr} {q_a1 : List Int32} {r : Int32} (C : Ctx p s m meth c Z a0 "com/example/braid/braid/BodyLinesNextNotBlankPinLaw" method_8_code 4 (some .int) "countNL") (X0 : Stand p l e ({ frames := 1, cells := 0, slots := 0, locals := 15 } : Room) s m args below meth c T0 locs cells slots) (e0 : T0.heap = hE) (N0 : Fr n0 locs) (hk : cells ≤ 0) (hn : slots ≤ 0) (Z1 : n0 ≤ hE.size) (o0 : n0 ≤ a1) (x1 : Int32) (x2 : Int32) (A_a1_0 : AI Z hE a1 .byte q_a1) (hr : g16_0 x1 x2 q_a1 = some r) :
    Runs p e below s (P16 Z hE a1 q_a1 n0 r) 0 0 T0 (mkF m 0 #[.val (.ref a1), .val (.int x1), .val (.int x2), .unset] []) := by
  unfold g16_0 at hr
  have ⟨hx, hZ, hw, hby, hml, hown, hret, hlk, hnm⟩ := C
  refine Runs.via (T' := T0) (g' := (mkF m 6 #[.val (.ref a1), .val (.int x1), .val (.int x2), .val (.int (0 : Int32))] [(.int (0 : Int32)), (.int x2), (.int x1), (.ref a1)])) (fun t k => ?_) ?_
  · show Steps p.tables e below (T0.setTop (mkF m 0 #[.val (.ref a1), .val (.int x1), .val (.int x2), .unset] [])) t
    refine XS.iconst X0.here hx rfl (hb hby d16_0) ?_
    show Steps p.tables e below (T0.setTop (mkF m 1 #[.val (.ref a1), .val (.int x1), .val (.int x2), .unset] [(.int (0 : Int32))])) t
    refine XS.istoreN X0.here hx rfl (hb hby d16_1) rfl (l' := #[.val (.ref a1), .val (.int x1), .val (.int x2), .val (.int (0 : Int32))]) rfl ?_
    show Steps p.tables e below (T0.setTop (mkF m 2 #[.val (.ref a1), .val (.int x1), .val (.int x2), .val (.int (0 : Int32))] [])) t
    refine XS.aloadN X0.here hx rfl (hb hby d16_2) rfl rfl ?_
    show Steps p.tables e below (T0.setTop (mkF m 3 #[.val (.ref a1), .val (.int x1), .val (.int x2), .val (.int (0 : Int32))] [(.ref a1)])) t
    refine XS.iloadN X0.here hx rfl (hb hby d16_3) rfl ?_
    show Steps p.tables e below (T0.setTop (mkF m 4 #[.val (.ref a1), .val (.int x1), .val (.int x2), .val (.int (0 : Int32))] [(.int x1), (.ref a1)])) t
    refine XS.iloadN X0.here hx rfl (hb hby d16_4) rfl ?_
    show Steps p.tables e below (T0.setTop (mkF m 5 #[.val (.ref a1), .val (.int x1), .val (.int x2), .val (.int (0 : Int32))] [(.int x2), (.int x1), (.ref a1)])) t
    refine XS.iconst X0.here hx rfl (hb hby d16_5) ?_
    exact k
  refine bindE hr ?_; intro r1 hr1m hr
  obtain ⟨_, _, ⟨T1, L1, k1, n1⟩, -, X1, ⟨Lc1, hQ1, l1, y1, z1⟩, st1⟩ := Jvm.LawKit.callS X0 hx (y := (⟨"com/example/braid/braid/BodyLinesNextNotBlankPinLaw", "nl", "([BIII)Z"⟩ : MethodName)) hown (mvT hZ (hw _ (List.mem_of_getElem? (i := 64) rfl))) (mvT hZ (hw _ (List.mem_of_getElem? (i := 65) rfl))) (mvT hZ (hw _ (List.mem_of_getElem? (i := 4) rfl))) (mvT hZ (hw _ (List.mem_of_getElem? (i := 66) rfl))) (by decide) (backOf (W := 0) (rm14 l Z a0 hw [] x1 x2 (0 : Int32) a1 q_a1 hE n0 Z1 (by omega) A_a1_0 r1 hr1m) hZ (hw _ (List.mem_of_getElem? (i := 66) rfl)) (hw _ (List.mem_of_getElem? (i := 4) rfl)) (by decide) (by decide)) (g := (mkF m 6 #[.val (.ref a1), .val (.int x1), .val (.int x2), .val (.int (0 : Int32))] [(.int (0 : Int32)), (.int x2), (.int x1), (.ref a1)])) rfl (by rw [hml]; rfl) (argsL := [(.ref a1), (.int x1), (.int x2), (.int (0 : Int32))]) (rest := []) (lenOf pd_3 rfl) rfl (by show 2 * 0 + _ ≤ _; exact Nat.le_of_eq rfl) (hb hby d16_6) (fun _ _ => ⟨rfl, e0, (by show cells + 0 ≤ 0; omega), (by show slots + 0 ≤ 0; omega)⟩)
  dsimp only [Pt.U, Pt.locs, Pt.cells, Pt.slots] at X1 l1 y1 z1 st1 hQ1
  replace y1 := y1.symm; replace z1 := z1.symm; subst l1 y1 z1
  obtain ⟨rfl, N1q, e1⟩ := hQ1
  have N1 := Fr.app N0 N1q
  refine Runs.via (T' := T1) (g' := (mkF m 9 #[.val (.ref a1), .val (.int x1), .val (.int x2), .val (.int (0 : Int32))] [(.int r1)])) (fun t k => st1 _ k) ?_
  refine iteE hr (fun hc2 hr => ?_) (fun hc2 hr => ?_)
  · refine Runs.via (T' := T1) (g' := (mkF m 15 #[.val (.ref a1), .val (.int x1), .val (.int x2), .val (.int (0 : Int32))] [])) (fun t k => ?_) ?_
    · show Steps p.tables e below (T1.setTop (mkF m 9 #[.val (.ref a1), .val (.int x1), .val (.int x2), .val (.int (0 : Int32))] [(.int r1)])) t
      exact XS.ifYes X1.here hx rfl (pc0 := 9) (pc' := 15) rfl (hb hby d16_9) rfl ((if0 _ _).trans (teq hc2).1) (by decide) (by decide) k
    exact b16_15 C X1 e1 N1 (by show (cells + 0) ≤ 0; omega) (by show (slots + 0) ≤ 0; omega) Z1 (by omega) x1 x2 (0 : Int32) A_a1_0 hr
  · refine Runs.via (T' := T1) (g' := (mkF m 12 #[.val (.ref a1), .val (.int x1), .val (.int x2), .val (.int (0 : Int32))] [])) (fun t k => ?_) ?_
    · show Steps p.tables e below (T1.setTop (mkF m 9 #[.val (.ref a1), .val (.int x1), .val (.int x2), .val (.int (0 : Int32))] [(.int r1)])) t
      exact XS.ifNo X1.here hx rfl (hb hby d16_9) rfl ((if0 _ _).trans (feq hc2).1) k
    refine Runs.via (T' := T1) (g' := (mkF m 15 #[.val (.ref a1), .val (.int x1), .val (.int x2), .val (.int ((0 : Int32) + (1 : Int32)))] [])) (fun t k => ?_) ?_
    · show Steps p.tables e below (T1.setTop (mkF m 12 #[.val (.ref a1), .val (.int x1), .val (.int x2), .val (.int (0 : Int32))] [])) t
      refine XS.iinc X1.here hx rfl (hb hby d16_12) rfl (l' := #[.val (.ref a1), .val (.int x1), .val (.int x2), .val (.int ((0 : Int32) + (1 : Int32)))]) rfl ?_
      exact k
    exact b16_15 C X1 e1 N1 (by show (cells + 0) ≤ 0; omega) (by show (slots + 0) ≤ 0; omega) Z1 (by omega) x1 x2 ((0 : Int32) + (1 : Int32)) A_a1_0 hr
def f16 (x1 : Int32) (x2 : Int32) (q_a1 : List Int32) : Option (Int32) := g16_0 x1 x2 q_a1
theorem pn_16 : plainName "com/example/braid/braid/BodyLinesNextNotBlankPinLaw" = true := by first | (simp [plainName, overriddenIn]; done) | decide +kernel
theorem ef_16 (m : MethodId) (x1 : Int32) (x2 : Int32) (a1 : Addr) : entryFrame m #[(.ref a1), (.int x1), (.int x2)] 4 = mkF m 0 #[.val (.ref a1), .val (.int x1), .val (.int x2), .unset] [] := by first | (simp [entryFrame, mkF, argsToLocals, Value.category]; done) | rfl
set_option maxRecDepth 65536 in
set_option maxHeartbeats 4000000 in
theorem rm16 (l : Launch) (Z : State) (a0 : Array Value) (hw : ∀ d ∈ tables_1, d.before a0 Z = true) (ws : List Jvm.Cond) (x1 : Int32) (x2 : Int32) (a1 : Addr) (q_a1 : List Int32) (hE : Heap) (n0 : Nat) (Z0 : n0 ≤ hE.size) (o0 : n0 ≤ a1) (A_a1_0 : AI Z hE a1 .byte q_a1) (r : Int32) (hr : f16 x1 x2 q_a1 = some r) :
    MetFree l (⟨"com/example/braid/braid/BodyLinesNextNotBlankPinLaw", "countNL", "([BII)I"⟩ : MethodName) (head1 (Jvm.Cond.code (⟨"com/example/braid/braid/BodyLinesNextNotBlankPinLaw", "countNL", "([BII)I"⟩ : MethodName) method_8_code 4 (some .int) :: ws) ({ frames := 1, cells := 0, slots := 0, locals := 15 } : Room)) (fun a U => a = #[(.ref a1), (.int x1), (.int x2)] ∧ Z.Warmed39 U.vm ∧ U.heap = hE) (fun _ _ _ _ _ => True) (fun _ U o U' => ∃ v L, o = .returned v ∧ (P16 Z hE a1 q_a1 n0 r v U'.heap L) ∧ FrameEnd U o U' L ({ frames := 1, cells := 0, slots := 0, locals := 15 } : Room).cells ({ frames := 1, cells := 0, slots := 0, locals := 15 } : Room).slots) := by
  refine MetFree.of_bodySF (plainFor_of_name pn_16) hisR ?_
  intro p e s m args below meth c s₁ Bd hml0 hP hK
  obtain ⟨rfl, hZ, hh⟩ := hP
  have X0 : Stand p l e ({ frames := 1, cells := 0, slots := 0, locals := 15 } : Room) s m #[(.ref a1), (.int x1), (.int x2)] below meth c s₁ [] 0 0 := Stand.of_body Bd
  have e0 : s₁.heap = hE := by rw [← hh, Bd.state]; rfl
  have C : Ctx p s m meth c Z a0 "com/example/braid/braid/BodyLinesNextNotBlankPinLaw" method_8_code 4 (some .int) "countNL" := ⟨Bd.exec, hZ, hw, Bd.bytes, hml0, findClass_of_methodNamed Bd.named, Bd.returns, BodyLoose.notSynchronized Bd, (name_of_methodNamed Bd.named Bd.method).1⟩
  refine Runs.via (fun t k => castTop (ef_16 m x1 x2 a1) k) (b16_0 C X0 e0 (Fr.nil n0) (by show 0 ≤ 0; omega) (by show 0 ≤ 0; omega) Z0 (by omega) x1 x2 A_a1_0 hr)
theorem d7_0 : decode method_9_code 0 = .ok (.aload_n 0, 1) := by decide +kernel
theorem d7_1 : decode method_9_code 1 = .ok (.iload_n 1, 1) := by decide +kernel
theorem d7_2 : decode method_9_code 2 = .ok (.iload_n 2, 1) := by decide +kernel
theorem d7_3 : decode method_9_code 3 = .ok (.invokestatic 16, 3) := by decide +kernel
theorem d7_6 : decode method_9_code 6 = .ok (.istore 6, 2) := by decide +kernel
theorem d7_8 : decode method_9_code 8 = .ok (.iload 6, 2) := by decide +kernel
theorem d7_10 : decode method_9_code 10 = .ok (.ifCond .ge 14, 3) := by decide +kernel
theorem d7_13 : decode method_9_code 13 = .ok (.iload 4, 2) := by decide +kernel
theorem d7_15 : decode method_9_code 15 = .ok (.ifCond .ne 7, 3) := by decide +kernel
theorem d7_18 : decode method_9_code 18 = .ok (.iconst 1, 1) := by decide +kernel
theorem d7_19 : decode method_9_code 19 = .ok (.goto 4, 3) := by decide +kernel
theorem d7_22 : decode method_9_code 22 = .ok (.iconst 0, 1) := by decide +kernel
theorem d7_23 : decode method_9_code 23 = .ok (.ireturn, 1) := by decide +kernel
theorem d7_24 : decode method_9_code 24 = .ok (.iload 4, 2) := by decide +kernel
theorem d7_26 : decode method_9_code 26 = .ok (.ifCond .ne 5, 3) := by decide +kernel
theorem d7_29 : decode method_9_code 29 = .ok (.iconst 0, 1) := by decide +kernel
theorem d7_30 : decode method_9_code 30 = .ok (.ireturn, 1) := by decide +kernel
theorem d7_31 : decode method_9_code 31 = .ok (.aload_n 0, 1) := by decide +kernel
theorem d7_32 : decode method_9_code 32 = .ok (.iload_n 2, 1) := by decide +kernel
theorem d7_33 : decode method_9_code 33 = .ok (.iload 6, 2) := by decide +kernel
theorem d7_35 : decode method_9_code 35 = .ok (.invokestatic 20, 3) := by decide +kernel
theorem d7_38 : decode method_9_code 38 = .ok (.istore 7, 2) := by decide +kernel
theorem d7_40 : decode method_9_code 40 = .ok (.iload 7, 2) := by decide +kernel
theorem d7_42 : decode method_9_code 42 = .ok (.ifCond .ge 7, 3) := by decide +kernel
theorem d7_45 : decode method_9_code 45 = .ok (.iload_n 2, 1) := by decide +kernel
theorem d7_46 : decode method_9_code 46 = .ok (.goto 7, 3) := by decide +kernel
theorem d7_49 : decode method_9_code 49 = .ok (.iload 7, 2) := by decide +kernel
theorem d7_51 : decode method_9_code 51 = .ok (.iconst 1, 1) := by decide +kernel
theorem d7_52 : decode method_9_code 52 = .ok (.iadd, 1) := by decide +kernel
theorem d7_53 : decode method_9_code 53 = .ok (.istore 8, 2) := by decide +kernel
theorem d7_55 : decode method_9_code 55 = .ok (.aload_n 0, 1) := by decide +kernel
theorem d7_56 : decode method_9_code 56 = .ok (.iload 6, 2) := by decide +kernel
theorem d7_58 : decode method_9_code 58 = .ok (.iload_n 1, 1) := by decide +kernel
theorem d7_59 : decode method_9_code 59 = .ok (.invokestatic 23, 3) := by decide +kernel
theorem d7_62 : decode method_9_code 62 = .ok (.istore 9, 2) := by decide +kernel
theorem d7_64 : decode method_9_code 64 = .ok (.iload 9, 2) := by decide +kernel
theorem d7_66 : decode method_9_code 66 = .ok (.ifCond .ge 6, 3) := by decide +kernel
theorem d7_69 : decode method_9_code 69 = .ok (.iload_n 1, 1) := by decide +kernel
theorem d7_70 : decode method_9_code 70 = .ok (.istore 9, 2) := by decide +kernel
theorem d7_72 : decode method_9_code 72 = .ok (.aload 5, 2) := by decide +kernel
theorem d7_74 : decode method_9_code 74 = .ok (.invokevirtual 26, 3) := by decide +kernel
theorem d7_77 : decode method_9_code 77 = .ok (.iload 8, 2) := by decide +kernel
theorem d7_79 : decode method_9_code 79 = .ok (.if_icmp .ne 39, 3) := by decide +kernel
theorem d7_82 : decode method_9_code 82 = .ok (.aload 5, 2) := by decide +kernel
theorem d7_84 : decode method_9_code 84 = .ok (.invokevirtual 32, 3) := by decide +kernel
theorem d7_87 : decode method_9_code 87 = .ok (.iload 9, 2) := by decide +kernel
theorem d7_89 : decode method_9_code 89 = .ok (.iload 8, 2) := by decide +kernel
theorem d7_91 : decode method_9_code 91 = .ok (.isub, 1) := by decide +kernel
theorem d7_92 : decode method_9_code 92 = .ok (.if_icmp .ne 26, 3) := by decide +kernel
theorem d7_95 : decode method_9_code 95 = .ok (.aload 5, 2) := by decide +kernel
theorem d7_97 : decode method_9_code 97 = .ok (.invokevirtual 35, 3) := by decide +kernel
theorem d7_100 : decode method_9_code 100 = .ok (.iload_n 3, 1) := by decide +kernel
theorem d7_101 : decode method_9_code 101 = .ok (.aload_n 0, 1) := by decide +kernel
theorem d7_102 : decode method_9_code 102 = .ok (.iload_n 2, 1) := by decide +kernel
theorem d7_103 : decode method_9_code 103 = .ok (.iload 6, 2) := by decide +kernel
theorem d7_105 : decode method_9_code 105 = .ok (.invokestatic 38, 3) := by decide +kernel
theorem d7_108 : decode method_9_code 108 = .ok (.iadd, 1) := by decide +kernel
theorem d7_109 : decode method_9_code 109 = .ok (.iconst 1, 1) := by decide +kernel
theorem d7_110 : decode method_9_code 110 = .ok (.iadd, 1) := by decide +kernel
theorem d7_111 : decode method_9_code 111 = .ok (.if_icmp .ne 7, 3) := by decide +kernel
theorem d7_114 : decode method_9_code 114 = .ok (.iconst 1, 1) := by decide +kernel
theorem d7_115 : decode method_9_code 115 = .ok (.goto 4, 3) := by decide +kernel
theorem d7_118 : decode method_9_code 118 = .ok (.iconst 0, 1) := by decide +kernel
theorem d7_119 : decode method_9_code 119 = .ok (.ireturn, 1) := by decide +kernel
def P7 (Z : State) (hE : Heap) (a1 : Addr) (a2 : Addr) (q_a1 : List Int32) (q_a2_end : Int32) (q_a2_start : Int32) (q_a2_number : Int32) (n0 : Nat) (r : Int32) (v : Option Value) (h : Heap) (L : List Loc) : Prop := v = some (.int r) ∧ Fr n0 L ∧ h = hE
def g7_72 (x2 : Int32) (x3 : Int32) (x6 : Int32) (x8 : Int32) (x9 : Int32) (q_a1 : List Int32) (q_a2_end : Int32) (q_a2_start : Int32) (q_a2_number : Int32) : Option (Int32) := ((f10 q_a1 q_a2_end q_a2_start q_a2_number).bind fun r1 => (if r1 = x8 then ((f11 q_a1 q_a2_end q_a2_start q_a2_number).bind fun r3 => (if r3 = (x9 - x8) then ((f12 q_a1 q_a2_end q_a2_start q_a2_number).bind fun r5 => ((f16 x2 x6 q_a1).bind fun r6 => (if r5 = ((x3 + r6) + (1 : Int32)) then some (1 : Int32) else some (0 : Int32)))) else some (0 : Int32))) else some (0 : Int32)))
set_option maxRecDepth 65536 in
set_option maxHeartbeats 4000000 in
theorem b7_72 {hE : Heap} {a1 : Addr} {a2 : Addr} {q_a1 : List Int32} {q_a2_end : Int32} {q_a2_start : Int32} {q_a2_number : Int32} {r : Int32} (C : Ctx p s m meth c Z a0 "com/example/braid/braid/BodyLinesNextNotBlankPinLaw" method_9_code 10 (some .boolean) "check") (X0 : Stand p l e ({ frames := 2, cells := 0, slots := 0, locals := 32 } : Room) s m args below meth c T0 locs cells slots) (e0 : T0.heap = hE) (N0 : Fr n0 locs) (hk : cells ≤ 0) (hn : slots ≤ 0) (Z1 : n0 ≤ hE.size) (o0 : n0 ≤ a1) (o1 : @LT.lt Nat instLTNat a1 a2) (x1 : Int32) (x2 : Int32) (x3 : Int32) (x4 : Int32) (x6 : Int32) (x7 : Int32) (x8 : Int32) (x9 : Int32) (A_a1_0 : AI Z hE a1 .byte q_a1) (E_a2_0 : Exa Z hE a2 "com/example/braid/braid/BodyLines") (F_a2_end_0 : Fld Z hE a2 "com/example/braid/braid/BodyLines" "end" "I" (.int q_a2_end)) (F_a2_body_0 : Fld Z hE a2 "com/example/braid/braid/BodyLines" "body" "[B" (.ref a1)) (F_a2_start_0 : Fld Z hE a2 "com/example/braid/braid/BodyLines" "start" "I" (.int q_a2_start)) (F_a2_number_0 : Fld Z hE a2 "com/example/braid/braid/BodyLines" "number" "I" (.int q_a2_number)) (hr : g7_72 x2 x3 x6 x8 x9 q_a1 q_a2_end q_a2_start q_a2_number = some r) :
    Runs p e below s (P7 Z hE a1 a2 q_a1 q_a2_end q_a2_start q_a2_number n0 r) 0 0 T0 (mkF m 72 #[.val (.ref a1), .val (.int x1), .val (.int x2), .val (.int x3), .val (.int x4), .val (.ref a2), .val (.int x6), .val (.int x7), .val (.int x8), .val (.int x9)] []) := by
  unfold g7_72 at hr
  have ⟨hx, hZ, hw, hby, hml, hown, hret, hlk, hnm⟩ := C
  refine Runs.via (T' := T0) (g' := (mkF m 74 #[.val (.ref a1), .val (.int x1), .val (.int x2), .val (.int x3), .val (.int x4), .val (.ref a2), .val (.int x6), .val (.int x7), .val (.int x8), .val (.int x9)] [(.ref a2)])) (fun t k => ?_) ?_
  · show Steps p.tables e below (T0.setTop (mkF m 72 #[.val (.ref a1), .val (.int x1), .val (.int x2), .val (.int x3), .val (.int x4), .val (.ref a2), .val (.int x6), .val (.int x7), .val (.int x8), .val (.int x9)] [])) t
    refine XS.aload X0.here hx rfl (hb hby d7_72) rfl rfl ?_
    exact k
  refine bindE hr ?_; intro r1 hr1m hr
  obtain ⟨cq1, kq1, q1a, q1b, q1c⟩ := isOf hZ e0 E_a2_0
  obtain ⟨_, _, ⟨T1, L1, k1, n1⟩, -, X1, ⟨Lc1, hQ1, l1, y1, z1⟩, st1⟩ := X0.virtualBack hx (y := (⟨"com/example/braid/braid/BodyLines", "start", "()I"⟩ : MethodName)) (z := (⟨"com/example/braid/braid/BodyLines", "start", "()I"⟩ : MethodName)) hown (mvT hZ (hw _ (List.mem_of_getElem? (i := 46) rfl))) (mvT hZ (hw _ (List.mem_of_getElem? (i := 47) rfl))) (notFace_of_selects (args := #[]) (mvT hZ (hw _ (List.mem_of_getElem? (i := 49) rfl)))) (mvT hZ (hw _ (List.mem_of_getElem? (i := 49) rfl))) (mvT hZ (hw _ (List.mem_of_getElem? (i := 48) rfl))) (by decide) (backOf (W := 0) (rm10 l Z a0 hw [] a1 a2 q_a1 q_a2_end q_a2_start q_a2_number hE n0 Z1 (by omega) (by omega) A_a1_0 E_a2_0 F_a2_end_0 F_a2_body_0 F_a2_start_0 F_a2_number_0 r1 hr1m) hZ (hw _ (List.mem_of_getElem? (i := 50) rfl)) (hw _ (List.mem_of_getElem? (i := 8) rfl)) (by decide) (by decide)) q1a q1c (g := (mkF m 74 #[.val (.ref a1), .val (.int x1), .val (.int x2), .val (.int x3), .val (.int x4), .val (.ref a2), .val (.int x6), .val (.int x7), .val (.int x8), .val (.int x9)] [(.ref a2)])) rfl (by rw [hml]; rfl) (Steps.refl _) (argsL := []) (rest := []) (lenOf pd_5 rfl) rfl (by show 2 * 0 + _ ≤ _; exact Nat.le_of_eq rfl) (hb hby d7_74) (fun _ _ => ⟨rfl, e0, (by show cells + 0 ≤ 0; omega), (by show slots + 0 ≤ 0; omega)⟩)
  dsimp only [Pt.U, Pt.locs, Pt.cells, Pt.slots] at X1 l1 y1 z1 st1 hQ1
  replace y1 := y1.symm; replace z1 := z1.symm; subst l1 y1 z1
  obtain ⟨rfl, N1q, e1⟩ := hQ1
  have N1 := Fr.app N0 N1q
  refine Runs.via (T' := T1) (g' := (mkF m 77 #[.val (.ref a1), .val (.int x1), .val (.int x2), .val (.int x3), .val (.int x4), .val (.ref a2), .val (.int x6), .val (.int x7), .val (.int x8), .val (.int x9)] [(.int r1)])) (fun t k => st1.trans k) ?_
  refine Runs.via (T' := T1) (g' := (mkF m 79 #[.val (.ref a1), .val (.int x1), .val (.int x2), .val (.int x3), .val (.int x4), .val (.ref a2), .val (.int x6), .val (.int x7), .val (.int x8), .val (.int x9)] [(.int x8), (.int r1)])) (fun t k => ?_) ?_
  · show Steps p.tables e below (T1.setTop (mkF m 77 #[.val (.ref a1), .val (.int x1), .val (.int x2), .val (.int x3), .val (.int x4), .val (.ref a2), .val (.int x6), .val (.int x7), .val (.int x8), .val (.int x9)] [(.int r1)])) t
    refine XS.iload X1.here hx rfl (hb hby d7_77) rfl ?_
    exact k
  refine iteE hr (fun hc2 hr => ?_) (fun hc2 hr => ?_)
  · refine Runs.via (T' := T1) (g' := (mkF m 82 #[.val (.ref a1), .val (.int x1), .val (.int x2), .val (.int x3), .val (.int x4), .val (.ref a2), .val (.int x6), .val (.int x7), .val (.int x8), .val (.int x9)] [])) (fun t k => ?_) ?_
    · show Steps p.tables e below (T1.setTop (mkF m 79 #[.val (.ref a1), .val (.int x1), .val (.int x2), .val (.int x3), .val (.int x4), .val (.ref a2), .val (.int x6), .val (.int x7), .val (.int x8), .val (.int x9)] [(.int x8), (.int r1)])) t
      exact XS.icmpNo X1.here hx rfl (hb hby d7_79) rfl (teq hc2).2 k
    refine Runs.via (T' := T1) (g' := (mkF m 84 #[.val (.ref a1), .val (.int x1), .val (.int x2), .val (.int x3), .val (.int x4), .val (.ref a2), .val (.int x6), .val (.int x7), .val (.int x8), .val (.int x9)] [(.ref a2)])) (fun t k => ?_) ?_
    · show Steps p.tables e below (T1.setTop (mkF m 82 #[.val (.ref a1), .val (.int x1), .val (.int x2), .val (.int x3), .val (.int x4), .val (.ref a2), .val (.int x6), .val (.int x7), .val (.int x8), .val (.int x9)] [])) t
      refine XS.aload X1.here hx rfl (hb hby d7_82) rfl rfl ?_
      exact k
    refine bindE hr ?_; intro r3 hr3m hr
    obtain ⟨cq3, kq3, q3a, q3b, q3c⟩ := isOf hZ e1 E_a2_0
    obtain ⟨_, _, ⟨T3, L3, k3, n3⟩, -, X3, ⟨Lc3, hQ3, l3, y3, z3⟩, st3⟩ := X1.virtualBack hx (y := (⟨"com/example/braid/braid/BodyLines", "length", "()I"⟩ : MethodName)) (z := (⟨"com/example/braid/braid/BodyLines", "length", "()I"⟩ : MethodName)) hown (mvT hZ (hw _ (List.mem_of_getElem? (i := 51) rfl))) (mvT hZ (hw _ (List.mem_of_getElem? (i := 52) rfl))) (notFace_of_selects (args := #[]) (mvT hZ (hw _ (List.mem_of_getElem? (i := 54) rfl)))) (mvT hZ (hw _ (List.mem_of_getElem? (i := 54) rfl))) (mvT hZ (hw _ (List.mem_of_getElem? (i := 53) rfl))) (by decide) (backOf (W := 0) (rm11 l Z a0 hw [] a1 a2 q_a1 q_a2_end q_a2_start q_a2_number hE n0 Z1 (by omega) (by omega) A_a1_0 E_a2_0 F_a2_end_0 F_a2_body_0 F_a2_start_0 F_a2_number_0 r3 hr3m) hZ (hw _ (List.mem_of_getElem? (i := 55) rfl)) (hw _ (List.mem_of_getElem? (i := 8) rfl)) (by decide) (by decide)) q3a q3c (g := (mkF m 84 #[.val (.ref a1), .val (.int x1), .val (.int x2), .val (.int x3), .val (.int x4), .val (.ref a2), .val (.int x6), .val (.int x7), .val (.int x8), .val (.int x9)] [(.ref a2)])) rfl (by rw [hml]; rfl) (Steps.refl _) (argsL := []) (rest := []) (lenOf pd_5 rfl) rfl (by show 2 * 0 + _ ≤ _; exact Nat.le_of_eq rfl) (hb hby d7_84) (fun _ _ => ⟨rfl, e1, (by show (cells + 0) + 0 ≤ 0; omega), (by show (slots + 0) + 0 ≤ 0; omega)⟩)
    dsimp only [Pt.U, Pt.locs, Pt.cells, Pt.slots] at X3 l3 y3 z3 st3 hQ3
    replace y3 := y3.symm; replace z3 := z3.symm; subst l3 y3 z3
    obtain ⟨rfl, N3q, e3⟩ := hQ3
    have N3 := Fr.app N1 N3q
    refine Runs.via (T' := T3) (g' := (mkF m 87 #[.val (.ref a1), .val (.int x1), .val (.int x2), .val (.int x3), .val (.int x4), .val (.ref a2), .val (.int x6), .val (.int x7), .val (.int x8), .val (.int x9)] [(.int r3)])) (fun t k => st3.trans k) ?_
    refine Runs.via (T' := T3) (g' := (mkF m 92 #[.val (.ref a1), .val (.int x1), .val (.int x2), .val (.int x3), .val (.int x4), .val (.ref a2), .val (.int x6), .val (.int x7), .val (.int x8), .val (.int x9)] [(.int (x9 - x8)), (.int r3)])) (fun t k => ?_) ?_
    · show Steps p.tables e below (T3.setTop (mkF m 87 #[.val (.ref a1), .val (.int x1), .val (.int x2), .val (.int x3), .val (.int x4), .val (.ref a2), .val (.int x6), .val (.int x7), .val (.int x8), .val (.int x9)] [(.int r3)])) t
      refine XS.iload X3.here hx rfl (hb hby d7_87) rfl ?_
      show Steps p.tables e below (T3.setTop (mkF m 89 #[.val (.ref a1), .val (.int x1), .val (.int x2), .val (.int x3), .val (.int x4), .val (.ref a2), .val (.int x6), .val (.int x7), .val (.int x8), .val (.int x9)] [(.int x9), (.int r3)])) t
      refine XS.iload X3.here hx rfl (hb hby d7_89) rfl ?_
      show Steps p.tables e below (T3.setTop (mkF m 91 #[.val (.ref a1), .val (.int x1), .val (.int x2), .val (.int x3), .val (.int x4), .val (.ref a2), .val (.int x6), .val (.int x7), .val (.int x8), .val (.int x9)] [(.int x8), (.int x9), (.int r3)])) t
      refine XS.isub X3.here hx rfl (hb hby d7_91) rfl ?_
      exact k
    refine iteE hr (fun hc4 hr => ?_) (fun hc4 hr => ?_)
    · refine Runs.via (T' := T3) (g' := (mkF m 95 #[.val (.ref a1), .val (.int x1), .val (.int x2), .val (.int x3), .val (.int x4), .val (.ref a2), .val (.int x6), .val (.int x7), .val (.int x8), .val (.int x9)] [])) (fun t k => ?_) ?_
      · show Steps p.tables e below (T3.setTop (mkF m 92 #[.val (.ref a1), .val (.int x1), .val (.int x2), .val (.int x3), .val (.int x4), .val (.ref a2), .val (.int x6), .val (.int x7), .val (.int x8), .val (.int x9)] [(.int (x9 - x8)), (.int r3)])) t
        exact XS.icmpNo X3.here hx rfl (hb hby d7_92) rfl (teq hc4).2 k
      refine Runs.via (T' := T3) (g' := (mkF m 97 #[.val (.ref a1), .val (.int x1), .val (.int x2), .val (.int x3), .val (.int x4), .val (.ref a2), .val (.int x6), .val (.int x7), .val (.int x8), .val (.int x9)] [(.ref a2)])) (fun t k => ?_) ?_
      · show Steps p.tables e below (T3.setTop (mkF m 95 #[.val (.ref a1), .val (.int x1), .val (.int x2), .val (.int x3), .val (.int x4), .val (.ref a2), .val (.int x6), .val (.int x7), .val (.int x8), .val (.int x9)] [])) t
        refine XS.aload X3.here hx rfl (hb hby d7_95) rfl rfl ?_
        exact k
      refine bindE hr ?_; intro r5 hr5m hr
      obtain ⟨cq5, kq5, q5a, q5b, q5c⟩ := isOf hZ e3 E_a2_0
      obtain ⟨_, _, ⟨T5, L5, k5, n5⟩, -, X5, ⟨Lc5, hQ5, l5, y5, z5⟩, st5⟩ := X3.virtualBack hx (y := (⟨"com/example/braid/braid/BodyLines", "number", "()I"⟩ : MethodName)) (z := (⟨"com/example/braid/braid/BodyLines", "number", "()I"⟩ : MethodName)) hown (mvT hZ (hw _ (List.mem_of_getElem? (i := 56) rfl))) (mvT hZ (hw _ (List.mem_of_getElem? (i := 57) rfl))) (notFace_of_selects (args := #[]) (mvT hZ (hw _ (List.mem_of_getElem? (i := 59) rfl)))) (mvT hZ (hw _ (List.mem_of_getElem? (i := 59) rfl))) (mvT hZ (hw _ (List.mem_of_getElem? (i := 58) rfl))) (by decide) (backOf (W := 0) (rm12 l Z a0 hw [] a1 a2 q_a1 q_a2_end q_a2_start q_a2_number hE n0 Z1 (by omega) (by omega) A_a1_0 E_a2_0 F_a2_end_0 F_a2_body_0 F_a2_start_0 F_a2_number_0 r5 hr5m) hZ (hw _ (List.mem_of_getElem? (i := 60) rfl)) (hw _ (List.mem_of_getElem? (i := 8) rfl)) (by decide) (by decide)) q5a q5c (g := (mkF m 97 #[.val (.ref a1), .val (.int x1), .val (.int x2), .val (.int x3), .val (.int x4), .val (.ref a2), .val (.int x6), .val (.int x7), .val (.int x8), .val (.int x9)] [(.ref a2)])) rfl (by rw [hml]; rfl) (Steps.refl _) (argsL := []) (rest := []) (lenOf pd_5 rfl) rfl (by show 2 * 0 + _ ≤ _; exact Nat.le_of_eq rfl) (hb hby d7_97) (fun _ _ => ⟨rfl, e3, (by show ((cells + 0) + 0) + 0 ≤ 0; omega), (by show ((slots + 0) + 0) + 0 ≤ 0; omega)⟩)
      dsimp only [Pt.U, Pt.locs, Pt.cells, Pt.slots] at X5 l5 y5 z5 st5 hQ5
      replace y5 := y5.symm; replace z5 := z5.symm; subst l5 y5 z5
      obtain ⟨rfl, N5q, e5⟩ := hQ5
      have N5 := Fr.app N3 N5q
      refine Runs.via (T' := T5) (g' := (mkF m 100 #[.val (.ref a1), .val (.int x1), .val (.int x2), .val (.int x3), .val (.int x4), .val (.ref a2), .val (.int x6), .val (.int x7), .val (.int x8), .val (.int x9)] [(.int r5)])) (fun t k => st5.trans k) ?_
      refine Runs.via (T' := T5) (g' := (mkF m 105 #[.val (.ref a1), .val (.int x1), .val (.int x2), .val (.int x3), .val (.int x4), .val (.ref a2), .val (.int x6), .val (.int x7), .val (.int x8), .val (.int x9)] [(.int x6), (.int x2), (.ref a1), (.int x3), (.int r5)])) (fun t k => ?_) ?_
      · show Steps p.tables e below (T5.setTop (mkF m 100 #[.val (.ref a1), .val (.int x1), .val (.int x2), .val (.int x3), .val (.int x4), .val (.ref a2), .val (.int x6), .val (.int x7), .val (.int x8), .val (.int x9)] [(.int r5)])) t
        refine XS.iloadN X5.here hx rfl (hb hby d7_100) rfl ?_
        show Steps p.tables e below (T5.setTop (mkF m 101 #[.val (.ref a1), .val (.int x1), .val (.int x2), .val (.int x3), .val (.int x4), .val (.ref a2), .val (.int x6), .val (.int x7), .val (.int x8), .val (.int x9)] [(.int x3), (.int r5)])) t
        refine XS.aloadN X5.here hx rfl (hb hby d7_101) rfl rfl ?_
        show Steps p.tables e below (T5.setTop (mkF m 102 #[.val (.ref a1), .val (.int x1), .val (.int x2), .val (.int x3), .val (.int x4), .val (.ref a2), .val (.int x6), .val (.int x7), .val (.int x8), .val (.int x9)] [(.ref a1), (.int x3), (.int r5)])) t
        refine XS.iloadN X5.here hx rfl (hb hby d7_102) rfl ?_
        show Steps p.tables e below (T5.setTop (mkF m 103 #[.val (.ref a1), .val (.int x1), .val (.int x2), .val (.int x3), .val (.int x4), .val (.ref a2), .val (.int x6), .val (.int x7), .val (.int x8), .val (.int x9)] [(.int x2), (.ref a1), (.int x3), (.int r5)])) t
        refine XS.iload X5.here hx rfl (hb hby d7_103) rfl ?_
        exact k
      refine bindE hr ?_; intro r6 hr6m hr
      obtain ⟨_, _, ⟨T6, L6, k6, n6⟩, -, X6, ⟨Lc6, hQ6, l6, y6, z6⟩, st6⟩ := Jvm.LawKit.callS X5 hx (y := (⟨"com/example/braid/braid/BodyLinesNextNotBlankPinLaw", "countNL", "([BII)I"⟩ : MethodName)) hown (mvT hZ (hw _ (List.mem_of_getElem? (i := 70) rfl))) (mvT hZ (hw _ (List.mem_of_getElem? (i := 71) rfl))) (mvT hZ (hw _ (List.mem_of_getElem? (i := 4) rfl))) (mvT hZ (hw _ (List.mem_of_getElem? (i := 72) rfl))) (by decide) (backOf (W := 2) (rm16 l Z a0 hw [] x2 x6 a1 q_a1 hE n0 Z1 (by omega) A_a1_0 r6 hr6m) hZ (hw _ (List.mem_of_getElem? (i := 72) rfl)) (hw _ (List.mem_of_getElem? (i := 4) rfl)) (by decide) (by decide)) (g := (mkF m 105 #[.val (.ref a1), .val (.int x1), .val (.int x2), .val (.int x3), .val (.int x4), .val (.ref a2), .val (.int x6), .val (.int x7), .val (.int x8), .val (.int x9)] [(.int x6), (.int x2), (.ref a1), (.int x3), (.int r5)])) rfl (by rw [hml]; rfl) (argsL := [(.ref a1), (.int x2), (.int x6)]) (rest := [(.int x3), (.int r5)]) (lenOf pd_4 rfl) rfl (by show 2 * 0 + _ ≤ _; exact Nat.le_of_eq rfl) (hb hby d7_105) (fun _ _ => ⟨rfl, e5, (by show (((cells + 0) + 0) + 0) + 0 ≤ 0; omega), (by show (((slots + 0) + 0) + 0) + 0 ≤ 0; omega)⟩)
      dsimp only [Pt.U, Pt.locs, Pt.cells, Pt.slots] at X6 l6 y6 z6 st6 hQ6
      replace y6 := y6.symm; replace z6 := z6.symm; subst l6 y6 z6
      obtain ⟨rfl, N6q, e6⟩ := hQ6
      have N6 := Fr.app N5 N6q
      refine Runs.via (T' := T6) (g' := (mkF m 108 #[.val (.ref a1), .val (.int x1), .val (.int x2), .val (.int x3), .val (.int x4), .val (.ref a2), .val (.int x6), .val (.int x7), .val (.int x8), .val (.int x9)] [(.int r6), (.int x3), (.int r5)])) (fun t k => st6 _ k) ?_
      refine Runs.via (T' := T6) (g' := (mkF m 111 #[.val (.ref a1), .val (.int x1), .val (.int x2), .val (.int x3), .val (.int x4), .val (.ref a2), .val (.int x6), .val (.int x7), .val (.int x8), .val (.int x9)] [(.int ((x3 + r6) + (1 : Int32))), (.int r5)])) (fun t k => ?_) ?_
      · show Steps p.tables e below (T6.setTop (mkF m 108 #[.val (.ref a1), .val (.int x1), .val (.int x2), .val (.int x3), .val (.int x4), .val (.ref a2), .val (.int x6), .val (.int x7), .val (.int x8), .val (.int x9)] [(.int r6), (.int x3), (.int r5)])) t
        refine XS.iadd X6.here hx rfl (hb hby d7_108) rfl ?_
        show Steps p.tables e below (T6.setTop (mkF m 109 #[.val (.ref a1), .val (.int x1), .val (.int x2), .val (.int x3), .val (.int x4), .val (.ref a2), .val (.int x6), .val (.int x7), .val (.int x8), .val (.int x9)] [(.int (x3 + r6)), (.int r5)])) t
        refine XS.iconst X6.here hx rfl (hb hby d7_109) ?_
        show Steps p.tables e below (T6.setTop (mkF m 110 #[.val (.ref a1), .val (.int x1), .val (.int x2), .val (.int x3), .val (.int x4), .val (.ref a2), .val (.int x6), .val (.int x7), .val (.int x8), .val (.int x9)] [(.int (1 : Int32)), (.int (x3 + r6)), (.int r5)])) t
        refine XS.iadd X6.here hx rfl (hb hby d7_110) rfl ?_
        exact k
      refine iteE hr (fun hc7 hr => ?_) (fun hc7 hr => ?_)
      · refine Runs.via (T' := T6) (g' := (mkF m 114 #[.val (.ref a1), .val (.int x1), .val (.int x2), .val (.int x3), .val (.int x4), .val (.ref a2), .val (.int x6), .val (.int x7), .val (.int x8), .val (.int x9)] [])) (fun t k => ?_) ?_
        · show Steps p.tables e below (T6.setTop (mkF m 111 #[.val (.ref a1), .val (.int x1), .val (.int x2), .val (.int x3), .val (.int x4), .val (.ref a2), .val (.int x6), .val (.int x7), .val (.int x8), .val (.int x9)] [(.int ((x3 + r6) + (1 : Int32))), (.int r5)])) t
          exact XS.icmpNo X6.here hx rfl (hb hby d7_111) rfl (teq hc7).2 k
        refine Runs.via (T' := T6) (g' := (mkF m 119 #[.val (.ref a1), .val (.int x1), .val (.int x2), .val (.int x3), .val (.int x4), .val (.ref a2), .val (.int x6), .val (.int x7), .val (.int x8), .val (.int x9)] [(.int (1 : Int32))])) (fun t k => ?_) ?_
        · show Steps p.tables e below (T6.setTop (mkF m 114 #[.val (.ref a1), .val (.int x1), .val (.int x2), .val (.int x3), .val (.int x4), .val (.ref a2), .val (.int x6), .val (.int x7), .val (.int x8), .val (.int x9)] [])) t
          refine XS.iconst X6.here hx rfl (hb hby d7_114) ?_
          show Steps p.tables e below (T6.setTop (mkF m 115 #[.val (.ref a1), .val (.int x1), .val (.int x2), .val (.int x3), .val (.int x4), .val (.ref a2), .val (.int x6), .val (.int x7), .val (.int x8), .val (.int x9)] [(.int (1 : Int32))])) t
          refine XS.goto X6.here hx rfl (pc0 := 115) (pc' := 119) rfl (hb hby d7_115) (by decide) (by decide) ?_
          exact k
        obtain rfl := Option.some.inj hr
        exact own_retN X6 hx hlk (t := .boolean) hret (by simp) (hb hby d7_119) (by show ((((cells + 0) + 0) + 0) + 0) ≤ 0; omega) (by show ((((slots + 0) + 0) + 0) + 0) ≤ 0; omega) ⟨rfl, N6, e6⟩
      · refine Runs.via (T' := T6) (g' := (mkF m 118 #[.val (.ref a1), .val (.int x1), .val (.int x2), .val (.int x3), .val (.int x4), .val (.ref a2), .val (.int x6), .val (.int x7), .val (.int x8), .val (.int x9)] [])) (fun t k => ?_) ?_
        · show Steps p.tables e below (T6.setTop (mkF m 111 #[.val (.ref a1), .val (.int x1), .val (.int x2), .val (.int x3), .val (.int x4), .val (.ref a2), .val (.int x6), .val (.int x7), .val (.int x8), .val (.int x9)] [(.int ((x3 + r6) + (1 : Int32))), (.int r5)])) t
          exact XS.icmpYes X6.here hx rfl (pc0 := 111) (pc' := 118) rfl (hb hby d7_111) rfl (feq hc7).2 (by decide) (by decide) k
        refine Runs.via (T' := T6) (g' := (mkF m 119 #[.val (.ref a1), .val (.int x1), .val (.int x2), .val (.int x3), .val (.int x4), .val (.ref a2), .val (.int x6), .val (.int x7), .val (.int x8), .val (.int x9)] [(.int (0 : Int32))])) (fun t k => ?_) ?_
        · show Steps p.tables e below (T6.setTop (mkF m 118 #[.val (.ref a1), .val (.int x1), .val (.int x2), .val (.int x3), .val (.int x4), .val (.ref a2), .val (.int x6), .val (.int x7), .val (.int x8), .val (.int x9)] [])) t
          refine XS.iconst X6.here hx rfl (hb hby d7_118) ?_
          exact k
        obtain rfl := Option.some.inj hr
        exact own_retN X6 hx hlk (t := .boolean) hret (by simp) (hb hby d7_119) (by show ((((cells + 0) + 0) + 0) + 0) ≤ 0; omega) (by show ((((slots + 0) + 0) + 0) + 0) ≤ 0; omega) ⟨rfl, N6, e6⟩
    · refine Runs.via (T' := T3) (g' := (mkF m 118 #[.val (.ref a1), .val (.int x1), .val (.int x2), .val (.int x3), .val (.int x4), .val (.ref a2), .val (.int x6), .val (.int x7), .val (.int x8), .val (.int x9)] [])) (fun t k => ?_) ?_
      · show Steps p.tables e below (T3.setTop (mkF m 92 #[.val (.ref a1), .val (.int x1), .val (.int x2), .val (.int x3), .val (.int x4), .val (.ref a2), .val (.int x6), .val (.int x7), .val (.int x8), .val (.int x9)] [(.int (x9 - x8)), (.int r3)])) t
        exact XS.icmpYes X3.here hx rfl (pc0 := 92) (pc' := 118) rfl (hb hby d7_92) rfl (feq hc4).2 (by decide) (by decide) k
      refine Runs.via (T' := T3) (g' := (mkF m 119 #[.val (.ref a1), .val (.int x1), .val (.int x2), .val (.int x3), .val (.int x4), .val (.ref a2), .val (.int x6), .val (.int x7), .val (.int x8), .val (.int x9)] [(.int (0 : Int32))])) (fun t k => ?_) ?_
      · show Steps p.tables e below (T3.setTop (mkF m 118 #[.val (.ref a1), .val (.int x1), .val (.int x2), .val (.int x3), .val (.int x4), .val (.ref a2), .val (.int x6), .val (.int x7), .val (.int x8), .val (.int x9)] [])) t
        refine XS.iconst X3.here hx rfl (hb hby d7_118) ?_
        exact k
      obtain rfl := Option.some.inj hr
      exact own_retN X3 hx hlk (t := .boolean) hret (by simp) (hb hby d7_119) (by show ((cells + 0) + 0) ≤ 0; omega) (by show ((slots + 0) + 0) ≤ 0; omega) ⟨rfl, N3, e3⟩
  · refine Runs.via (T' := T1) (g' := (mkF m 118 #[.val (.ref a1), .val (.int x1), .val (.int x2), .val (.int x3), .val (.int x4), .val (.ref a2), .val (.int x6), .val (.int x7), .val (.int x8), .val (.int x9)] [])) (fun t k => ?_) ?_
    · show Steps p.tables e below (T1.setTop (mkF m 79 #[.val (.ref a1), .val (.int x1), .val (.int x2), .val (.int x3), .val (.int x4), .val (.ref a2), .val (.int x6), .val (.int x7), .val (.int x8), .val (.int x9)] [(.int x8), (.int r1)])) t
      exact XS.icmpYes X1.here hx rfl (pc0 := 79) (pc' := 118) rfl (hb hby d7_79) rfl (feq hc2).2 (by decide) (by decide) k
    refine Runs.via (T' := T1) (g' := (mkF m 119 #[.val (.ref a1), .val (.int x1), .val (.int x2), .val (.int x3), .val (.int x4), .val (.ref a2), .val (.int x6), .val (.int x7), .val (.int x8), .val (.int x9)] [(.int (0 : Int32))])) (fun t k => ?_) ?_
    · show Steps p.tables e below (T1.setTop (mkF m 118 #[.val (.ref a1), .val (.int x1), .val (.int x2), .val (.int x3), .val (.int x4), .val (.ref a2), .val (.int x6), .val (.int x7), .val (.int x8), .val (.int x9)] [])) t
      refine XS.iconst X1.here hx rfl (hb hby d7_118) ?_
      exact k
    obtain rfl := Option.some.inj hr
    exact own_retN X1 hx hlk (t := .boolean) hret (by simp) (hb hby d7_119) (by show (cells + 0) ≤ 0; omega) (by show (slots + 0) ≤ 0; omega) ⟨rfl, N1, e1⟩
def g7_53 (x1 : Int32) (x2 : Int32) (x3 : Int32) (x6 : Int32) (u0 : Int32) (q_a1 : List Int32) (q_a2_end : Int32) (q_a2_start : Int32) (q_a2_number : Int32) : Option (Int32) := ((f15 x6 x1 q_a1).bind fun r1 => (if r1 < (0 : Int32) then (g7_72 x2 x3 x6 u0 x1 q_a1 q_a2_end q_a2_start q_a2_number) else (g7_72 x2 x3 x6 u0 r1 q_a1 q_a2_end q_a2_start q_a2_number)))
set_option maxRecDepth 65536 in
set_option maxHeartbeats 4000000 in
theorem b7_53 {hE : Heap} {a1 : Addr} {a2 : Addr} {q_a1 : List Int32} {q_a2_end : Int32} {q_a2_start : Int32} {q_a2_number : Int32} {r : Int32} (C : Ctx p s m meth c Z a0 "com/example/braid/braid/BodyLinesNextNotBlankPinLaw" method_9_code 10 (some .boolean) "check") (X0 : Stand p l e ({ frames := 2, cells := 0, slots := 0, locals := 32 } : Room) s m args below meth c T0 locs cells slots) (e0 : T0.heap = hE) (N0 : Fr n0 locs) (hk : cells ≤ 0) (hn : slots ≤ 0) (Z1 : n0 ≤ hE.size) (o0 : n0 ≤ a1) (o1 : @LT.lt Nat instLTNat a1 a2) (x1 : Int32) (x2 : Int32) (x3 : Int32) (x4 : Int32) (x6 : Int32) (x7 : Int32) (u0 : Int32) (A_a1_0 : AI Z hE a1 .byte q_a1) (E_a2_0 : Exa Z hE a2 "com/example/braid/braid/BodyLines") (F_a2_end_0 : Fld Z hE a2 "com/example/braid/braid/BodyLines" "end" "I" (.int q_a2_end)) (F_a2_body_0 : Fld Z hE a2 "com/example/braid/braid/BodyLines" "body" "[B" (.ref a1)) (F_a2_start_0 : Fld Z hE a2 "com/example/braid/braid/BodyLines" "start" "I" (.int q_a2_start)) (F_a2_number_0 : Fld Z hE a2 "com/example/braid/braid/BodyLines" "number" "I" (.int q_a2_number)) (hr : g7_53 x1 x2 x3 x6 u0 q_a1 q_a2_end q_a2_start q_a2_number = some r) :
    Runs p e below s (P7 Z hE a1 a2 q_a1 q_a2_end q_a2_start q_a2_number n0 r) 0 0 T0 (mkF m 53 #[.val (.ref a1), .val (.int x1), .val (.int x2), .val (.int x3), .val (.int x4), .val (.ref a2), .val (.int x6), .val (.int x7), .unset, .unset] [(.int u0)]) := by
  unfold g7_53 at hr
  have ⟨hx, hZ, hw, hby, hml, hown, hret, hlk, hnm⟩ := C
  refine Runs.via (T' := T0) (g' := (mkF m 59 #[.val (.ref a1), .val (.int x1), .val (.int x2), .val (.int x3), .val (.int x4), .val (.ref a2), .val (.int x6), .val (.int x7), .val (.int u0), .unset] [(.int x1), (.int x6), (.ref a1)])) (fun t k => ?_) ?_
  · show Steps p.tables e below (T0.setTop (mkF m 53 #[.val (.ref a1), .val (.int x1), .val (.int x2), .val (.int x3), .val (.int x4), .val (.ref a2), .val (.int x6), .val (.int x7), .unset, .unset] [(.int u0)])) t
    refine XS.istore X0.here hx rfl (hb hby d7_53) rfl (l' := #[.val (.ref a1), .val (.int x1), .val (.int x2), .val (.int x3), .val (.int x4), .val (.ref a2), .val (.int x6), .val (.int x7), .val (.int u0), .unset]) rfl ?_
    show Steps p.tables e below (T0.setTop (mkF m 55 #[.val (.ref a1), .val (.int x1), .val (.int x2), .val (.int x3), .val (.int x4), .val (.ref a2), .val (.int x6), .val (.int x7), .val (.int u0), .unset] [])) t
    refine XS.aloadN X0.here hx rfl (hb hby d7_55) rfl rfl ?_
    show Steps p.tables e below (T0.setTop (mkF m 56 #[.val (.ref a1), .val (.int x1), .val (.int x2), .val (.int x3), .val (.int x4), .val (.ref a2), .val (.int x6), .val (.int x7), .val (.int u0), .unset] [(.ref a1)])) t
    refine XS.iload X0.here hx rfl (hb hby d7_56) rfl ?_
    show Steps p.tables e below (T0.setTop (mkF m 58 #[.val (.ref a1), .val (.int x1), .val (.int x2), .val (.int x3), .val (.int x4), .val (.ref a2), .val (.int x6), .val (.int x7), .val (.int u0), .unset] [(.int x6), (.ref a1)])) t
    refine XS.iloadN X0.here hx rfl (hb hby d7_58) rfl ?_
    exact k
  refine bindE hr ?_; intro r1 hr1m hr
  obtain ⟨_, _, ⟨T1, L1, k1, n1⟩, -, X1, ⟨Lc1, hQ1, l1, y1, z1⟩, st1⟩ := Jvm.LawKit.callS X0 hx (y := (⟨"com/example/braid/braid/BodyLinesNextNotBlankPinLaw", "firstNL", "([BII)I"⟩ : MethodName)) hown (mvT hZ (hw _ (List.mem_of_getElem? (i := 67) rfl))) (mvT hZ (hw _ (List.mem_of_getElem? (i := 68) rfl))) (mvT hZ (hw _ (List.mem_of_getElem? (i := 4) rfl))) (mvT hZ (hw _ (List.mem_of_getElem? (i := 69) rfl))) (by decide) (backOf (W := 0) (rm15 l Z a0 hw [] x6 x1 a1 q_a1 hE n0 Z1 (by omega) A_a1_0 r1 hr1m) hZ (hw _ (List.mem_of_getElem? (i := 69) rfl)) (hw _ (List.mem_of_getElem? (i := 4) rfl)) (by decide) (by decide)) (g := (mkF m 59 #[.val (.ref a1), .val (.int x1), .val (.int x2), .val (.int x3), .val (.int x4), .val (.ref a2), .val (.int x6), .val (.int x7), .val (.int u0), .unset] [(.int x1), (.int x6), (.ref a1)])) rfl (by rw [hml]; rfl) (argsL := [(.ref a1), (.int x6), (.int x1)]) (rest := []) (lenOf pd_4 rfl) rfl (by show 2 * 0 + _ ≤ _; exact Nat.le_of_eq rfl) (hb hby d7_59) (fun _ _ => ⟨rfl, e0, (by show cells + 0 ≤ 0; omega), (by show slots + 0 ≤ 0; omega)⟩)
  dsimp only [Pt.U, Pt.locs, Pt.cells, Pt.slots] at X1 l1 y1 z1 st1 hQ1
  replace y1 := y1.symm; replace z1 := z1.symm; subst l1 y1 z1
  obtain ⟨rfl, N1q, e1⟩ := hQ1
  have N1 := Fr.app N0 N1q
  refine Runs.via (T' := T1) (g' := (mkF m 62 #[.val (.ref a1), .val (.int x1), .val (.int x2), .val (.int x3), .val (.int x4), .val (.ref a2), .val (.int x6), .val (.int x7), .val (.int u0), .unset] [(.int r1)])) (fun t k => st1 _ k) ?_
  refine Runs.via (T' := T1) (g' := (mkF m 66 #[.val (.ref a1), .val (.int x1), .val (.int x2), .val (.int x3), .val (.int x4), .val (.ref a2), .val (.int x6), .val (.int x7), .val (.int u0), .val (.int r1)] [(.int r1)])) (fun t k => ?_) ?_
  · show Steps p.tables e below (T1.setTop (mkF m 62 #[.val (.ref a1), .val (.int x1), .val (.int x2), .val (.int x3), .val (.int x4), .val (.ref a2), .val (.int x6), .val (.int x7), .val (.int u0), .unset] [(.int r1)])) t
    refine XS.istore X1.here hx rfl (hb hby d7_62) rfl (l' := #[.val (.ref a1), .val (.int x1), .val (.int x2), .val (.int x3), .val (.int x4), .val (.ref a2), .val (.int x6), .val (.int x7), .val (.int u0), .val (.int r1)]) rfl ?_
    show Steps p.tables e below (T1.setTop (mkF m 64 #[.val (.ref a1), .val (.int x1), .val (.int x2), .val (.int x3), .val (.int x4), .val (.ref a2), .val (.int x6), .val (.int x7), .val (.int u0), .val (.int r1)] [])) t
    refine XS.iload X1.here hx rfl (hb hby d7_64) rfl ?_
    exact k
  refine iteE hr (fun hc2 hr => ?_) (fun hc2 hr => ?_)
  · refine Runs.via (T' := T1) (g' := (mkF m 69 #[.val (.ref a1), .val (.int x1), .val (.int x2), .val (.int x3), .val (.int x4), .val (.ref a2), .val (.int x6), .val (.int x7), .val (.int u0), .val (.int r1)] [])) (fun t k => ?_) ?_
    · show Steps p.tables e below (T1.setTop (mkF m 66 #[.val (.ref a1), .val (.int x1), .val (.int x2), .val (.int x3), .val (.int x4), .val (.ref a2), .val (.int x6), .val (.int x7), .val (.int u0), .val (.int r1)] [(.int r1)])) t
      exact XS.ifNo X1.here hx rfl (hb hby d7_66) rfl ((if0 _ _).trans (tlt hc2).2.1) k
    refine Runs.via (T' := T1) (g' := (mkF m 72 #[.val (.ref a1), .val (.int x1), .val (.int x2), .val (.int x3), .val (.int x4), .val (.ref a2), .val (.int x6), .val (.int x7), .val (.int u0), .val (.int x1)] [])) (fun t k => ?_) ?_
    · show Steps p.tables e below (T1.setTop (mkF m 69 #[.val (.ref a1), .val (.int x1), .val (.int x2), .val (.int x3), .val (.int x4), .val (.ref a2), .val (.int x6), .val (.int x7), .val (.int u0), .val (.int r1)] [])) t
      refine XS.iloadN X1.here hx rfl (hb hby d7_69) rfl ?_
      show Steps p.tables e below (T1.setTop (mkF m 70 #[.val (.ref a1), .val (.int x1), .val (.int x2), .val (.int x3), .val (.int x4), .val (.ref a2), .val (.int x6), .val (.int x7), .val (.int u0), .val (.int r1)] [(.int x1)])) t
      refine XS.istore X1.here hx rfl (hb hby d7_70) rfl (l' := #[.val (.ref a1), .val (.int x1), .val (.int x2), .val (.int x3), .val (.int x4), .val (.ref a2), .val (.int x6), .val (.int x7), .val (.int u0), .val (.int x1)]) rfl ?_
      exact k
    exact b7_72 C X1 e1 N1 (by show (cells + 0) ≤ 0; omega) (by show (slots + 0) ≤ 0; omega) Z1 (by omega) (by omega) x1 x2 x3 x4 x6 x7 u0 x1 A_a1_0 E_a2_0 F_a2_end_0 F_a2_body_0 F_a2_start_0 F_a2_number_0 hr
  · refine Runs.via (T' := T1) (g' := (mkF m 72 #[.val (.ref a1), .val (.int x1), .val (.int x2), .val (.int x3), .val (.int x4), .val (.ref a2), .val (.int x6), .val (.int x7), .val (.int u0), .val (.int r1)] [])) (fun t k => ?_) ?_
    · show Steps p.tables e below (T1.setTop (mkF m 66 #[.val (.ref a1), .val (.int x1), .val (.int x2), .val (.int x3), .val (.int x4), .val (.ref a2), .val (.int x6), .val (.int x7), .val (.int u0), .val (.int r1)] [(.int r1)])) t
      exact XS.ifYes X1.here hx rfl (pc0 := 66) (pc' := 72) rfl (hb hby d7_66) rfl ((if0 _ _).trans (flt hc2).2.1) (by decide) (by decide) k
    exact b7_72 C X1 e1 N1 (by show (cells + 0) ≤ 0; omega) (by show (slots + 0) ≤ 0; omega) Z1 (by omega) (by omega) x1 x2 x3 x4 x6 x7 u0 r1 A_a1_0 E_a2_0 F_a2_end_0 F_a2_body_0 F_a2_start_0 F_a2_number_0 hr
def g7_0 (x1 : Int32) (x2 : Int32) (x3 : Int32) (x4 : Int32) (q_a1 : List Int32) (q_a2_end : Int32) (q_a2_start : Int32) (q_a2_number : Int32) : Option (Int32) := ((f8 x1 x2 q_a1).bind fun r1 => (if r1 < (0 : Int32) then (if x4 = (0 : Int32) then some (1 : Int32) else some (0 : Int32)) else (if x4 = (0 : Int32) then some (0 : Int32) else ((f13 x2 r1 q_a1).bind fun r5 => (if r5 < (0 : Int32) then (g7_53 x1 x2 x3 r1 x2 q_a1 q_a2_end q_a2_start q_a2_number) else (g7_53 x1 x2 x3 r1 (r5 + (1 : Int32)) q_a1 q_a2_end q_a2_start q_a2_number))))))
set_option maxRecDepth 65536 in
set_option maxHeartbeats 4000000 in
theorem b7_0 {hE : Heap} {a1 : Addr} {a2 : Addr} {q_a1 : List Int32} {q_a2_end : Int32} {q_a2_start : Int32} {q_a2_number : Int32} {r : Int32} (C : Ctx p s m meth c Z a0 "com/example/braid/braid/BodyLinesNextNotBlankPinLaw" method_9_code 10 (some .boolean) "check") (X0 : Stand p l e ({ frames := 2, cells := 0, slots := 0, locals := 32 } : Room) s m args below meth c T0 locs cells slots) (e0 : T0.heap = hE) (N0 : Fr n0 locs) (hk : cells ≤ 0) (hn : slots ≤ 0) (Z1 : n0 ≤ hE.size) (o0 : n0 ≤ a1) (o1 : @LT.lt Nat instLTNat a1 a2) (x1 : Int32) (x2 : Int32) (x3 : Int32) (x4 : Int32) (A_a1_0 : AI Z hE a1 .byte q_a1) (E_a2_0 : Exa Z hE a2 "com/example/braid/braid/BodyLines") (F_a2_end_0 : Fld Z hE a2 "com/example/braid/braid/BodyLines" "end" "I" (.int q_a2_end)) (F_a2_body_0 : Fld Z hE a2 "com/example/braid/braid/BodyLines" "body" "[B" (.ref a1)) (F_a2_start_0 : Fld Z hE a2 "com/example/braid/braid/BodyLines" "start" "I" (.int q_a2_start)) (F_a2_number_0 : Fld Z hE a2 "com/example/braid/braid/BodyLines" "number" "I" (.int q_a2_number)) (hr : g7_0 x1 x2 x3 x4 q_a1 q_a2_end q_a2_start q_a2_number = some r) :
    Runs p e below s (P7 Z hE a1 a2 q_a1 q_a2_end q_a2_start q_a2_number n0 r) 0 0 T0 (mkF m 0 #[.val (.ref a1), .val (.int x1), .val (.int x2), .val (.int x3), .val (.int x4), .val (.ref a2), .unset, .unset, .unset, .unset] []) := by
  unfold g7_0 at hr
  have ⟨hx, hZ, hw, hby, hml, hown, hret, hlk, hnm⟩ := C
  refine Runs.via (T' := T0) (g' := (mkF m 3 #[.val (.ref a1), .val (.int x1), .val (.int x2), .val (.int x3), .val (.int x4), .val (.ref a2), .unset, .unset, .unset, .unset] [(.int x2), (.int x1), (.ref a1)])) (fun t k => ?_) ?_
  · show Steps p.tables e below (T0.setTop (mkF m 0 #[.val (.ref a1), .val (.int x1), .val (.int x2), .val (.int x3), .val (.int x4), .val (.ref a2), .unset, .unset, .unset, .unset] [])) t
    refine XS.aloadN X0.here hx rfl (hb hby d7_0) rfl rfl ?_
    show Steps p.tables e below (T0.setTop (mkF m 1 #[.val (.ref a1), .val (.int x1), .val (.int x2), .val (.int x3), .val (.int x4), .val (.ref a2), .unset, .unset, .unset, .unset] [(.ref a1)])) t
    refine XS.iloadN X0.here hx rfl (hb hby d7_1) rfl ?_
    show Steps p.tables e below (T0.setTop (mkF m 2 #[.val (.ref a1), .val (.int x1), .val (.int x2), .val (.int x3), .val (.int x4), .val (.ref a2), .unset, .unset, .unset, .unset] [(.int x1), (.ref a1)])) t
    refine XS.iloadN X0.here hx rfl (hb hby d7_2) rfl ?_
    exact k
  refine bindE hr ?_; intro r1 hr1m hr
  obtain ⟨_, _, ⟨T1, L1, k1, n1⟩, -, X1, ⟨Lc1, hQ1, l1, y1, z1⟩, st1⟩ := Jvm.LawKit.callS X0 hx (y := (⟨"com/example/braid/braid/BodyLinesNextNotBlankPinLaw", "firstContent", "([BII)I"⟩ : MethodName)) hown (mvT hZ (hw _ (List.mem_of_getElem? (i := 40) rfl))) (mvT hZ (hw _ (List.mem_of_getElem? (i := 41) rfl))) (mvT hZ (hw _ (List.mem_of_getElem? (i := 4) rfl))) (mvT hZ (hw _ (List.mem_of_getElem? (i := 42) rfl))) (by decide) (backOf (W := 0) (rm8 l Z a0 hw [] x1 x2 a1 q_a1 hE n0 Z1 (by omega) A_a1_0 r1 hr1m) hZ (hw _ (List.mem_of_getElem? (i := 42) rfl)) (hw _ (List.mem_of_getElem? (i := 4) rfl)) (by decide) (by decide)) (g := (mkF m 3 #[.val (.ref a1), .val (.int x1), .val (.int x2), .val (.int x3), .val (.int x4), .val (.ref a2), .unset, .unset, .unset, .unset] [(.int x2), (.int x1), (.ref a1)])) rfl (by rw [hml]; rfl) (argsL := [(.ref a1), (.int x1), (.int x2)]) (rest := []) (lenOf pd_4 rfl) rfl (by show 2 * 0 + _ ≤ _; exact Nat.le_of_eq rfl) (hb hby d7_3) (fun _ _ => ⟨rfl, e0, (by show cells + 0 ≤ 0; omega), (by show slots + 0 ≤ 0; omega)⟩)
  dsimp only [Pt.U, Pt.locs, Pt.cells, Pt.slots] at X1 l1 y1 z1 st1 hQ1
  replace y1 := y1.symm; replace z1 := z1.symm; subst l1 y1 z1
  obtain ⟨rfl, N1q, e1⟩ := hQ1
  have N1 := Fr.app N0 N1q
  refine Runs.via (T' := T1) (g' := (mkF m 6 #[.val (.ref a1), .val (.int x1), .val (.int x2), .val (.int x3), .val (.int x4), .val (.ref a2), .unset, .unset, .unset, .unset] [(.int r1)])) (fun t k => st1 _ k) ?_
  refine Runs.via (T' := T1) (g' := (mkF m 10 #[.val (.ref a1), .val (.int x1), .val (.int x2), .val (.int x3), .val (.int x4), .val (.ref a2), .val (.int r1), .unset, .unset, .unset] [(.int r1)])) (fun t k => ?_) ?_
  · show Steps p.tables e below (T1.setTop (mkF m 6 #[.val (.ref a1), .val (.int x1), .val (.int x2), .val (.int x3), .val (.int x4), .val (.ref a2), .unset, .unset, .unset, .unset] [(.int r1)])) t
    refine XS.istore X1.here hx rfl (hb hby d7_6) rfl (l' := #[.val (.ref a1), .val (.int x1), .val (.int x2), .val (.int x3), .val (.int x4), .val (.ref a2), .val (.int r1), .unset, .unset, .unset]) rfl ?_
    show Steps p.tables e below (T1.setTop (mkF m 8 #[.val (.ref a1), .val (.int x1), .val (.int x2), .val (.int x3), .val (.int x4), .val (.ref a2), .val (.int r1), .unset, .unset, .unset] [])) t
    refine XS.iload X1.here hx rfl (hb hby d7_8) rfl ?_
    exact k
  refine iteE hr (fun hc2 hr => ?_) (fun hc2 hr => ?_)
  · refine Runs.via (T' := T1) (g' := (mkF m 13 #[.val (.ref a1), .val (.int x1), .val (.int x2), .val (.int x3), .val (.int x4), .val (.ref a2), .val (.int r1), .unset, .unset, .unset] [])) (fun t k => ?_) ?_
    · show Steps p.tables e below (T1.setTop (mkF m 10 #[.val (.ref a1), .val (.int x1), .val (.int x2), .val (.int x3), .val (.int x4), .val (.ref a2), .val (.int r1), .unset, .unset, .unset] [(.int r1)])) t
      exact XS.ifNo X1.here hx rfl (hb hby d7_10) rfl ((if0 _ _).trans (tlt hc2).2.1) k
    refine Runs.via (T' := T1) (g' := (mkF m 15 #[.val (.ref a1), .val (.int x1), .val (.int x2), .val (.int x3), .val (.int x4), .val (.ref a2), .val (.int r1), .unset, .unset, .unset] [(.int x4)])) (fun t k => ?_) ?_
    · show Steps p.tables e below (T1.setTop (mkF m 13 #[.val (.ref a1), .val (.int x1), .val (.int x2), .val (.int x3), .val (.int x4), .val (.ref a2), .val (.int r1), .unset, .unset, .unset] [])) t
      refine XS.iload X1.here hx rfl (hb hby d7_13) rfl ?_
      exact k
    refine iteE hr (fun hc3 hr => ?_) (fun hc3 hr => ?_)
    · refine Runs.via (T' := T1) (g' := (mkF m 18 #[.val (.ref a1), .val (.int x1), .val (.int x2), .val (.int x3), .val (.int x4), .val (.ref a2), .val (.int r1), .unset, .unset, .unset] [])) (fun t k => ?_) ?_
      · show Steps p.tables e below (T1.setTop (mkF m 15 #[.val (.ref a1), .val (.int x1), .val (.int x2), .val (.int x3), .val (.int x4), .val (.ref a2), .val (.int r1), .unset, .unset, .unset] [(.int x4)])) t
        exact XS.ifNo X1.here hx rfl (hb hby d7_15) rfl ((if0 _ _).trans (teq hc3).2) k
      refine Runs.via (T' := T1) (g' := (mkF m 23 #[.val (.ref a1), .val (.int x1), .val (.int x2), .val (.int x3), .val (.int x4), .val (.ref a2), .val (.int r1), .unset, .unset, .unset] [(.int (1 : Int32))])) (fun t k => ?_) ?_
      · show Steps p.tables e below (T1.setTop (mkF m 18 #[.val (.ref a1), .val (.int x1), .val (.int x2), .val (.int x3), .val (.int x4), .val (.ref a2), .val (.int r1), .unset, .unset, .unset] [])) t
        refine XS.iconst X1.here hx rfl (hb hby d7_18) ?_
        show Steps p.tables e below (T1.setTop (mkF m 19 #[.val (.ref a1), .val (.int x1), .val (.int x2), .val (.int x3), .val (.int x4), .val (.ref a2), .val (.int r1), .unset, .unset, .unset] [(.int (1 : Int32))])) t
        refine XS.goto X1.here hx rfl (pc0 := 19) (pc' := 23) rfl (hb hby d7_19) (by decide) (by decide) ?_
        exact k
      obtain rfl := Option.some.inj hr
      exact own_retN X1 hx hlk (t := .boolean) hret (by simp) (hb hby d7_23) (by show (cells + 0) ≤ 0; omega) (by show (slots + 0) ≤ 0; omega) ⟨rfl, N1, e1⟩
    · refine Runs.via (T' := T1) (g' := (mkF m 22 #[.val (.ref a1), .val (.int x1), .val (.int x2), .val (.int x3), .val (.int x4), .val (.ref a2), .val (.int r1), .unset, .unset, .unset] [])) (fun t k => ?_) ?_
      · show Steps p.tables e below (T1.setTop (mkF m 15 #[.val (.ref a1), .val (.int x1), .val (.int x2), .val (.int x3), .val (.int x4), .val (.ref a2), .val (.int r1), .unset, .unset, .unset] [(.int x4)])) t
        exact XS.ifYes X1.here hx rfl (pc0 := 15) (pc' := 22) rfl (hb hby d7_15) rfl ((if0 _ _).trans (feq hc3).2) (by decide) (by decide) k
      refine Runs.via (T' := T1) (g' := (mkF m 23 #[.val (.ref a1), .val (.int x1), .val (.int x2), .val (.int x3), .val (.int x4), .val (.ref a2), .val (.int r1), .unset, .unset, .unset] [(.int (0 : Int32))])) (fun t k => ?_) ?_
      · show Steps p.tables e below (T1.setTop (mkF m 22 #[.val (.ref a1), .val (.int x1), .val (.int x2), .val (.int x3), .val (.int x4), .val (.ref a2), .val (.int r1), .unset, .unset, .unset] [])) t
        refine XS.iconst X1.here hx rfl (hb hby d7_22) ?_
        exact k
      obtain rfl := Option.some.inj hr
      exact own_retN X1 hx hlk (t := .boolean) hret (by simp) (hb hby d7_23) (by show (cells + 0) ≤ 0; omega) (by show (slots + 0) ≤ 0; omega) ⟨rfl, N1, e1⟩
  · refine Runs.via (T' := T1) (g' := (mkF m 24 #[.val (.ref a1), .val (.int x1), .val (.int x2), .val (.int x3), .val (.int x4), .val (.ref a2), .val (.int r1), .unset, .unset, .unset] [])) (fun t k => ?_) ?_
    · show Steps p.tables e below (T1.setTop (mkF m 10 #[.val (.ref a1), .val (.int x1), .val (.int x2), .val (.int x3), .val (.int x4), .val (.ref a2), .val (.int r1), .unset, .unset, .unset] [(.int r1)])) t
      exact XS.ifYes X1.here hx rfl (pc0 := 10) (pc' := 24) rfl (hb hby d7_10) rfl ((if0 _ _).trans (flt hc2).2.1) (by decide) (by decide) k
    refine Runs.via (T' := T1) (g' := (mkF m 26 #[.val (.ref a1), .val (.int x1), .val (.int x2), .val (.int x3), .val (.int x4), .val (.ref a2), .val (.int r1), .unset, .unset, .unset] [(.int x4)])) (fun t k => ?_) ?_
    · show Steps p.tables e below (T1.setTop (mkF m 24 #[.val (.ref a1), .val (.int x1), .val (.int x2), .val (.int x3), .val (.int x4), .val (.ref a2), .val (.int r1), .unset, .unset, .unset] [])) t
      refine XS.iload X1.here hx rfl (hb hby d7_24) rfl ?_
      exact k
    refine iteE hr (fun hc4 hr => ?_) (fun hc4 hr => ?_)
    · refine Runs.via (T' := T1) (g' := (mkF m 29 #[.val (.ref a1), .val (.int x1), .val (.int x2), .val (.int x3), .val (.int x4), .val (.ref a2), .val (.int r1), .unset, .unset, .unset] [])) (fun t k => ?_) ?_
      · show Steps p.tables e below (T1.setTop (mkF m 26 #[.val (.ref a1), .val (.int x1), .val (.int x2), .val (.int x3), .val (.int x4), .val (.ref a2), .val (.int r1), .unset, .unset, .unset] [(.int x4)])) t
        exact XS.ifNo X1.here hx rfl (hb hby d7_26) rfl ((if0 _ _).trans (teq hc4).2) k
      refine Runs.via (T' := T1) (g' := (mkF m 30 #[.val (.ref a1), .val (.int x1), .val (.int x2), .val (.int x3), .val (.int x4), .val (.ref a2), .val (.int r1), .unset, .unset, .unset] [(.int (0 : Int32))])) (fun t k => ?_) ?_
      · show Steps p.tables e below (T1.setTop (mkF m 29 #[.val (.ref a1), .val (.int x1), .val (.int x2), .val (.int x3), .val (.int x4), .val (.ref a2), .val (.int r1), .unset, .unset, .unset] [])) t
        refine XS.iconst X1.here hx rfl (hb hby d7_29) ?_
        exact k
      obtain rfl := Option.some.inj hr
      exact own_retN X1 hx hlk (t := .boolean) hret (by simp) (hb hby d7_30) (by show (cells + 0) ≤ 0; omega) (by show (slots + 0) ≤ 0; omega) ⟨rfl, N1, e1⟩
    · refine Runs.via (T' := T1) (g' := (mkF m 31 #[.val (.ref a1), .val (.int x1), .val (.int x2), .val (.int x3), .val (.int x4), .val (.ref a2), .val (.int r1), .unset, .unset, .unset] [])) (fun t k => ?_) ?_
      · show Steps p.tables e below (T1.setTop (mkF m 26 #[.val (.ref a1), .val (.int x1), .val (.int x2), .val (.int x3), .val (.int x4), .val (.ref a2), .val (.int r1), .unset, .unset, .unset] [(.int x4)])) t
        exact XS.ifYes X1.here hx rfl (pc0 := 26) (pc' := 31) rfl (hb hby d7_26) rfl ((if0 _ _).trans (feq hc4).2) (by decide) (by decide) k
      refine Runs.via (T' := T1) (g' := (mkF m 35 #[.val (.ref a1), .val (.int x1), .val (.int x2), .val (.int x3), .val (.int x4), .val (.ref a2), .val (.int r1), .unset, .unset, .unset] [(.int r1), (.int x2), (.ref a1)])) (fun t k => ?_) ?_
      · show Steps p.tables e below (T1.setTop (mkF m 31 #[.val (.ref a1), .val (.int x1), .val (.int x2), .val (.int x3), .val (.int x4), .val (.ref a2), .val (.int r1), .unset, .unset, .unset] [])) t
        refine XS.aloadN X1.here hx rfl (hb hby d7_31) rfl rfl ?_
        show Steps p.tables e below (T1.setTop (mkF m 32 #[.val (.ref a1), .val (.int x1), .val (.int x2), .val (.int x3), .val (.int x4), .val (.ref a2), .val (.int r1), .unset, .unset, .unset] [(.ref a1)])) t
        refine XS.iloadN X1.here hx rfl (hb hby d7_32) rfl ?_
        show Steps p.tables e below (T1.setTop (mkF m 33 #[.val (.ref a1), .val (.int x1), .val (.int x2), .val (.int x3), .val (.int x4), .val (.ref a2), .val (.int r1), .unset, .unset, .unset] [(.int x2), (.ref a1)])) t
        refine XS.iload X1.here hx rfl (hb hby d7_33) rfl ?_
        exact k
      refine bindE hr ?_; intro r5 hr5m hr
      obtain ⟨_, _, ⟨T5, L5, k5, n5⟩, -, X5, ⟨Lc5, hQ5, l5, y5, z5⟩, st5⟩ := Jvm.LawKit.callS X1 hx (y := (⟨"com/example/braid/braid/BodyLinesNextNotBlankPinLaw", "lastNL", "([BII)I"⟩ : MethodName)) hown (mvT hZ (hw _ (List.mem_of_getElem? (i := 61) rfl))) (mvT hZ (hw _ (List.mem_of_getElem? (i := 62) rfl))) (mvT hZ (hw _ (List.mem_of_getElem? (i := 4) rfl))) (mvT hZ (hw _ (List.mem_of_getElem? (i := 63) rfl))) (by decide) (backOf (W := 0) (rm13 l Z a0 hw [] x2 r1 a1 q_a1 hE n0 Z1 (by omega) A_a1_0 r5 hr5m) hZ (hw _ (List.mem_of_getElem? (i := 63) rfl)) (hw _ (List.mem_of_getElem? (i := 4) rfl)) (by decide) (by decide)) (g := (mkF m 35 #[.val (.ref a1), .val (.int x1), .val (.int x2), .val (.int x3), .val (.int x4), .val (.ref a2), .val (.int r1), .unset, .unset, .unset] [(.int r1), (.int x2), (.ref a1)])) rfl (by rw [hml]; rfl) (argsL := [(.ref a1), (.int x2), (.int r1)]) (rest := []) (lenOf pd_4 rfl) rfl (by show 2 * 0 + _ ≤ _; exact Nat.le_of_eq rfl) (hb hby d7_35) (fun _ _ => ⟨rfl, e1, (by show (cells + 0) + 0 ≤ 0; omega), (by show (slots + 0) + 0 ≤ 0; omega)⟩)
      dsimp only [Pt.U, Pt.locs, Pt.cells, Pt.slots] at X5 l5 y5 z5 st5 hQ5
      replace y5 := y5.symm; replace z5 := z5.symm; subst l5 y5 z5
      obtain ⟨rfl, N5q, e5⟩ := hQ5
      have N5 := Fr.app N1 N5q
      refine Runs.via (T' := T5) (g' := (mkF m 38 #[.val (.ref a1), .val (.int x1), .val (.int x2), .val (.int x3), .val (.int x4), .val (.ref a2), .val (.int r1), .unset, .unset, .unset] [(.int r5)])) (fun t k => st5 _ k) ?_
      refine Runs.via (T' := T5) (g' := (mkF m 42 #[.val (.ref a1), .val (.int x1), .val (.int x2), .val (.int x3), .val (.int x4), .val (.ref a2), .val (.int r1), .val (.int r5), .unset, .unset] [(.int r5)])) (fun t k => ?_) ?_
      · show Steps p.tables e below (T5.setTop (mkF m 38 #[.val (.ref a1), .val (.int x1), .val (.int x2), .val (.int x3), .val (.int x4), .val (.ref a2), .val (.int r1), .unset, .unset, .unset] [(.int r5)])) t
        refine XS.istore X5.here hx rfl (hb hby d7_38) rfl (l' := #[.val (.ref a1), .val (.int x1), .val (.int x2), .val (.int x3), .val (.int x4), .val (.ref a2), .val (.int r1), .val (.int r5), .unset, .unset]) rfl ?_
        show Steps p.tables e below (T5.setTop (mkF m 40 #[.val (.ref a1), .val (.int x1), .val (.int x2), .val (.int x3), .val (.int x4), .val (.ref a2), .val (.int r1), .val (.int r5), .unset, .unset] [])) t
        refine XS.iload X5.here hx rfl (hb hby d7_40) rfl ?_
        exact k
      refine iteE hr (fun hc6 hr => ?_) (fun hc6 hr => ?_)
      · refine Runs.via (T' := T5) (g' := (mkF m 45 #[.val (.ref a1), .val (.int x1), .val (.int x2), .val (.int x3), .val (.int x4), .val (.ref a2), .val (.int r1), .val (.int r5), .unset, .unset] [])) (fun t k => ?_) ?_
        · show Steps p.tables e below (T5.setTop (mkF m 42 #[.val (.ref a1), .val (.int x1), .val (.int x2), .val (.int x3), .val (.int x4), .val (.ref a2), .val (.int r1), .val (.int r5), .unset, .unset] [(.int r5)])) t
          exact XS.ifNo X5.here hx rfl (hb hby d7_42) rfl ((if0 _ _).trans (tlt hc6).2.1) k
        refine Runs.via (T' := T5) (g' := (mkF m 53 #[.val (.ref a1), .val (.int x1), .val (.int x2), .val (.int x3), .val (.int x4), .val (.ref a2), .val (.int r1), .val (.int r5), .unset, .unset] [(.int x2)])) (fun t k => ?_) ?_
        · show Steps p.tables e below (T5.setTop (mkF m 45 #[.val (.ref a1), .val (.int x1), .val (.int x2), .val (.int x3), .val (.int x4), .val (.ref a2), .val (.int r1), .val (.int r5), .unset, .unset] [])) t
          refine XS.iloadN X5.here hx rfl (hb hby d7_45) rfl ?_
          show Steps p.tables e below (T5.setTop (mkF m 46 #[.val (.ref a1), .val (.int x1), .val (.int x2), .val (.int x3), .val (.int x4), .val (.ref a2), .val (.int r1), .val (.int r5), .unset, .unset] [(.int x2)])) t
          refine XS.goto X5.here hx rfl (pc0 := 46) (pc' := 53) rfl (hb hby d7_46) (by decide) (by decide) ?_
          exact k
        exact b7_53 C X5 e5 N5 (by show ((cells + 0) + 0) ≤ 0; omega) (by show ((slots + 0) + 0) ≤ 0; omega) Z1 (by omega) (by omega) x1 x2 x3 x4 r1 r5 x2 A_a1_0 E_a2_0 F_a2_end_0 F_a2_body_0 F_a2_start_0 F_a2_number_0 hr
      · refine Runs.via (T' := T5) (g' := (mkF m 49 #[.val (.ref a1), .val (.int x1), .val (.int x2), .val (.int x3), .val (.int x4), .val (.ref a2), .val (.int r1), .val (.int r5), .unset, .unset] [])) (fun t k => ?_) ?_
        · show Steps p.tables e below (T5.setTop (mkF m 42 #[.val (.ref a1), .val (.int x1), .val (.int x2), .val (.int x3), .val (.int x4), .val (.ref a2), .val (.int r1), .val (.int r5), .unset, .unset] [(.int r5)])) t
          exact XS.ifYes X5.here hx rfl (pc0 := 42) (pc' := 49) rfl (hb hby d7_42) rfl ((if0 _ _).trans (flt hc6).2.1) (by decide) (by decide) k
        refine Runs.via (T' := T5) (g' := (mkF m 53 #[.val (.ref a1), .val (.int x1), .val (.int x2), .val (.int x3), .val (.int x4), .val (.ref a2), .val (.int r1), .val (.int r5), .unset, .unset] [(.int (r5 + (1 : Int32)))])) (fun t k => ?_) ?_
        · show Steps p.tables e below (T5.setTop (mkF m 49 #[.val (.ref a1), .val (.int x1), .val (.int x2), .val (.int x3), .val (.int x4), .val (.ref a2), .val (.int r1), .val (.int r5), .unset, .unset] [])) t
          refine XS.iload X5.here hx rfl (hb hby d7_49) rfl ?_
          show Steps p.tables e below (T5.setTop (mkF m 51 #[.val (.ref a1), .val (.int x1), .val (.int x2), .val (.int x3), .val (.int x4), .val (.ref a2), .val (.int r1), .val (.int r5), .unset, .unset] [(.int r5)])) t
          refine XS.iconst X5.here hx rfl (hb hby d7_51) ?_
          show Steps p.tables e below (T5.setTop (mkF m 52 #[.val (.ref a1), .val (.int x1), .val (.int x2), .val (.int x3), .val (.int x4), .val (.ref a2), .val (.int r1), .val (.int r5), .unset, .unset] [(.int (1 : Int32)), (.int r5)])) t
          refine XS.iadd X5.here hx rfl (hb hby d7_52) rfl ?_
          exact k
        exact b7_53 C X5 e5 N5 (by show ((cells + 0) + 0) ≤ 0; omega) (by show ((slots + 0) + 0) ≤ 0; omega) Z1 (by omega) (by omega) x1 x2 x3 x4 r1 r5 (r5 + (1 : Int32)) A_a1_0 E_a2_0 F_a2_end_0 F_a2_body_0 F_a2_start_0 F_a2_number_0 hr
def f7 (x1 : Int32) (x2 : Int32) (x3 : Int32) (x4 : Int32) (q_a1 : List Int32) (q_a2_end : Int32) (q_a2_start : Int32) (q_a2_number : Int32) : Option (Int32) := g7_0 x1 x2 x3 x4 q_a1 q_a2_end q_a2_start q_a2_number
theorem pn_7 : plainName "com/example/braid/braid/BodyLinesNextNotBlankPinLaw" = true := by first | (simp [plainName, overriddenIn]; done) | decide +kernel
theorem ef_7 (m : MethodId) (x1 : Int32) (x2 : Int32) (x3 : Int32) (x4 : Int32) (a1 : Addr) (a2 : Addr) : entryFrame m #[(.ref a1), (.int x1), (.int x2), (.int x3), (.int x4), (.ref a2)] 10 = mkF m 0 #[.val (.ref a1), .val (.int x1), .val (.int x2), .val (.int x3), .val (.int x4), .val (.ref a2), .unset, .unset, .unset, .unset] [] := by first | (simp [entryFrame, mkF, argsToLocals, Value.category]; done) | rfl
set_option maxRecDepth 65536 in
set_option maxHeartbeats 4000000 in
theorem rm7 (l : Launch) (Z : State) (a0 : Array Value) (hw : ∀ d ∈ tables_1, d.before a0 Z = true) (ws : List Jvm.Cond) (x1 : Int32) (x2 : Int32) (x3 : Int32) (x4 : Int32) (a1 : Addr) (a2 : Addr) (q_a1 : List Int32) (q_a2_end : Int32) (q_a2_start : Int32) (q_a2_number : Int32) (hE : Heap) (n0 : Nat) (Z0 : n0 ≤ hE.size) (o0 : n0 ≤ a1) (o1 : @LT.lt Nat instLTNat a1 a2) (A_a1_0 : AI Z hE a1 .byte q_a1) (E_a2_0 : Exa Z hE a2 "com/example/braid/braid/BodyLines") (F_a2_end_0 : Fld Z hE a2 "com/example/braid/braid/BodyLines" "end" "I" (.int q_a2_end)) (F_a2_body_0 : Fld Z hE a2 "com/example/braid/braid/BodyLines" "body" "[B" (.ref a1)) (F_a2_start_0 : Fld Z hE a2 "com/example/braid/braid/BodyLines" "start" "I" (.int q_a2_start)) (F_a2_number_0 : Fld Z hE a2 "com/example/braid/braid/BodyLines" "number" "I" (.int q_a2_number)) (r : Int32) (hr : f7 x1 x2 x3 x4 q_a1 q_a2_end q_a2_start q_a2_number = some r) :
    MetFree l (⟨"com/example/braid/braid/BodyLinesNextNotBlankPinLaw", "check", "([BIIIZLcom/example/braid/braid/BodyLines;)Z"⟩ : MethodName) (head1 (Jvm.Cond.code (⟨"com/example/braid/braid/BodyLinesNextNotBlankPinLaw", "check", "([BIIIZLcom/example/braid/braid/BodyLines;)Z"⟩ : MethodName) method_9_code 10 (some .boolean) :: ws) ({ frames := 2, cells := 0, slots := 0, locals := 32 } : Room)) (fun a U => a = #[(.ref a1), (.int x1), (.int x2), (.int x3), (.int x4), (.ref a2)] ∧ Z.Warmed39 U.vm ∧ U.heap = hE) (fun _ _ _ _ _ => True) (fun _ U o U' => ∃ v L, o = .returned v ∧ (P7 Z hE a1 a2 q_a1 q_a2_end q_a2_start q_a2_number n0 r v U'.heap L) ∧ FrameEnd U o U' L ({ frames := 2, cells := 0, slots := 0, locals := 32 } : Room).cells ({ frames := 2, cells := 0, slots := 0, locals := 32 } : Room).slots) := by
  refine MetFree.of_bodySF (plainFor_of_name pn_7) hisR ?_
  intro p e s m args below meth c s₁ Bd hml0 hP hK
  obtain ⟨rfl, hZ, hh⟩ := hP
  have X0 : Stand p l e ({ frames := 2, cells := 0, slots := 0, locals := 32 } : Room) s m #[(.ref a1), (.int x1), (.int x2), (.int x3), (.int x4), (.ref a2)] below meth c s₁ [] 0 0 := Stand.of_body Bd
  have e0 : s₁.heap = hE := by rw [← hh, Bd.state]; rfl
  have C : Ctx p s m meth c Z a0 "com/example/braid/braid/BodyLinesNextNotBlankPinLaw" method_9_code 10 (some .boolean) "check" := ⟨Bd.exec, hZ, hw, Bd.bytes, hml0, findClass_of_methodNamed Bd.named, Bd.returns, BodyLoose.notSynchronized Bd, (name_of_methodNamed Bd.named Bd.method).1⟩
  refine Runs.via (fun t k => castTop (ef_7 m x1 x2 x3 x4 a1 a2) k) (b7_0 C X0 e0 (Fr.nil n0) (by show 0 ≤ 0; omega) (by show 0 ≤ 0; omega) Z0 (by omega) (by omega) x1 x2 x3 x4 A_a1_0 E_a2_0 F_a2_end_0 F_a2_body_0 F_a2_start_0 F_a2_number_0 hr)
theorem pd_6 : parseMethodDescriptor "([BIIIZLcom/example/braid/braid/BodyLines;)Z" = some ⟨[(.array .byte), .int, .int, .int, .boolean, (.object "com/example/braid/braid/BodyLines")], some .boolean⟩ := by decide +kernel
def P0 (n0 : Nat) (r : Int32) (v : Option Value) (h : Heap) (L : List Loc) : Prop := v = some (.int r) ∧ Fr n0 L
def g0_154 (fuel : Nat) (x6 : Int32) (q_n0_0 : List Int32) : Option (Int32) := ((f2 q_n0_0 (0 : Int32) (0 : Int32) (0 : Int32)).bind fun r2 => ((f4 fuel q_n0_0 r2 (0 : Int32) (0 : Int32)).bind fun r3 => ((f7 x6 (0 : Int32) (0 : Int32) r3.1 q_n0_0 r3.2.1 r3.2.2.1 r3.2.2.2).bind fun r4 => (if r4 = (0 : Int32) then some (0 : Int32) else ((f10 q_n0_0 r3.2.1 r3.2.2.1 r3.2.2.2).bind fun r6 => ((f11 q_n0_0 r3.2.1 r3.2.2.1 r3.2.2.2).bind fun r7 => (letO ((r6 + r7) + (1 : Int32)) fun v8 => ((f12 q_n0_0 r3.2.1 r3.2.2.1 r3.2.2.2).bind fun r9 => ((f4 fuel q_n0_0 r3.2.1 r3.2.2.1 r3.2.2.2).bind fun r10 => ((f7 x6 v8 r9 r10.1 q_n0_0 r10.2.1 r10.2.2.1 r10.2.2.2).bind fun r11 => some (r11 &&& 1)))))))))))
set_option maxRecDepth 65536 in
set_option maxHeartbeats 4000000 in
theorem b0_154 {r : Int32} (C : Ctx p s m meth c Z a0 "com/example/braid/braid/BodyLinesNextNotBlankPinLaw" code 13 (some .boolean) "law") (fuel : Nat) (X0 : Stand p l e room_1 s m args below meth c T0 locs cells slots) (e0 : T0.heap = h0) (N0 : Fr n0 locs) (hk : cells ≤ 1) (hn : slots ≤ 5) (Z1 : n0 ≤ h0.size) (n0_0 : Addr) (o0 : n0 ≤ n0_0) (q_n0_0 : List Int32) (x0 : Int32) (x1 : Int32) (x2 : Int32) (x3 : Int32) (x4 : Int32) (x5 : Int32) (x6 : Int32) (A_n0_0_0 : AI Z h0 n0_0 .byte q_n0_0) (hr : g0_154 fuel x6 q_n0_0 = some r) :
    Runs p e below s (P0 n0 r) 2 9 T0 (mkF m 154 #[.val (.int x0), .val (.int x1), .val (.int x2), .val (.int x3), .val (.int x4), .val (.int x5), .val (.int x6), .val (.ref n0_0), .unset, .unset, .unset, .unset, .unset] []) := by
  unfold g0_154 at hr
  have ⟨hx, hZ, hw, hby, hml, hown, hret, hlk, hnm⟩ := C
  obtain ⟨T1, h1, X1, e1, E1, A1, D1, -, st1⟩ := newO X0 hx hZ hown (hw _ (List.mem_of_getElem? (i := 6) rfl)) (hw _ (List.mem_of_getElem? (i := 7) rfl)) (hw _ (List.mem_of_getElem? (i := 8) rfl)) e0 (g := (mkF m 154 #[.val (.int x0), .val (.int x1), .val (.int x2), .val (.int x3), .val (.int x4), .val (.int x5), .val (.int x6), .val (.ref n0_0), .unset, .unset, .unset, .unset, .unset] [])) rfl (hb hby at_154) (by show cells + 1 ≤ 16; omega) (by show slots + 4 ≤ 128; omega)
  obtain ⟨b154, g1⟩ : ∃ z, z = h0.size := ⟨_, rfl⟩
  rw [← g1] at A1 D1 st1
  have i1 := E1.1
  have A_n0_0_1 := A_n0_0_0.ext E1
  have zz1 : n0 ≤ h1.size := Nat.le_trans Z1 i1
  have E_b154_1 := A1
  have F_b154_end_1 : Fld Z h1 b154 "com/example/braid/braid/BodyLines" "end" "I" (.int (0 : Int32)) := D1 (Or.inl (hw _ (List.mem_of_getElem? (i := 16) rfl))) (ty := .int) (by decide)
  have F_b154_body_1 : Fld Z h1 b154 "com/example/braid/braid/BodyLines" "body" "[B" .null := D1 (Or.inr (hw _ (List.mem_of_getElem? (i := 18) rfl))) (ty := (.array .byte)) (by decide)
  have F_b154_start_1 : Fld Z h1 b154 "com/example/braid/braid/BodyLines" "start" "I" (.int (0 : Int32)) := D1 (Or.inl (hw _ (List.mem_of_getElem? (i := 30) rfl))) (ty := .int) (by decide)
  have F_b154_number_1 : Fld Z h1 b154 "com/example/braid/braid/BodyLines" "number" "I" (.int (0 : Int32)) := D1 (Or.inl (hw _ (List.mem_of_getElem? (i := 32) rfl))) (ty := .int) (by decide)
  have pb154 : @LT.lt Nat instLTNat n0_0 b154 := by have : @LT.lt Nat instLTNat _ _ := A_n0_0_0.lt; omega
  have sb154 : n0 ≤ b154 := by omega
  refine Runs.via (T' := T1) (g' := (mkF m 157 #[.val (.int x0), .val (.int x1), .val (.int x2), .val (.int x3), .val (.int x4), .val (.int x5), .val (.int x6), .val (.ref n0_0), .unset, .unset, .unset, .unset, .unset] [(.ref b154)])) (fun t k => st1 _ k) ?_
  refine Runs.via (T' := T1) (g' := (mkF m 160 #[.val (.int x0), .val (.int x1), .val (.int x2), .val (.int x3), .val (.int x4), .val (.int x5), .val (.int x6), .val (.ref n0_0), .unset, .unset, .unset, .unset, .unset] [(.ref n0_0), (.ref b154), (.ref b154)])) (fun t k => ?_) ?_
  · show Steps p.tables e below (T1.setTop (mkF m 157 #[.val (.int x0), .val (.int x1), .val (.int x2), .val (.int x3), .val (.int x4), .val (.int x5), .val (.int x6), .val (.ref n0_0), .unset, .unset, .unset, .unset, .unset] [(.ref b154)])) t
    refine XS.dup X1.here hx rfl (hb hby at_157) rfl rfl ?_
    show Steps p.tables e below (T1.setTop (mkF m 158 #[.val (.int x0), .val (.int x1), .val (.int x2), .val (.int x3), .val (.int x4), .val (.int x5), .val (.int x6), .val (.ref n0_0), .unset, .unset, .unset, .unset, .unset] [(.ref b154), (.ref b154)])) t
    refine XS.aload X1.here hx rfl (hb hby at_158) rfl rfl ?_
    exact k
  refine bindE hr ?_; intro r2 hr2m hr
  obtain ⟨_, _, ⟨T2, L2, k2, n2⟩, -, X2, ⟨Lc2, hQ2, l2, y2, z2⟩, st2⟩ := X1.specialBack hx (y := (⟨"com/example/braid/braid/BodyLines", "<init>", "([B)V"⟩ : MethodName)) rfl hown (mvT hZ (hw _ (List.mem_of_getElem? (i := 9) rfl))) (mvT hZ (hw _ (List.mem_of_getElem? (i := 10) rfl))) (mvT hZ (hw _ (List.mem_of_getElem? (i := 11) rfl))) (by decide) (backOf (W := 1) (rm2 l Z a0 hw [] n0_0 b154 q_n0_0 (0 : Int32) (0 : Int32) (0 : Int32) h1 n0 zz1 (by omega) (by omega) A_n0_0_1 E_b154_1 F_b154_end_1 F_b154_body_1 F_b154_start_1 F_b154_number_1 r2 hr2m) hZ (hw _ (List.mem_of_getElem? (i := 11) rfl)) (hw _ (List.mem_of_getElem? (i := 8) rfl)) (by decide) (by decide)) (g := (mkF m 160 #[.val (.int x0), .val (.int x1), .val (.int x2), .val (.int x3), .val (.int x4), .val (.int x5), .val (.int x6), .val (.ref n0_0), .unset, .unset, .unset, .unset, .unset] [(.ref n0_0), (.ref b154), (.ref b154)])) rfl (by rw [hml]; rfl) (Steps.refl _) (a := b154) (argsL := [(.ref n0_0)]) (rest := [(.ref b154)]) (lenOf pd_1 rfl) rfl (by show 2 * 0 + _ ≤ _; exact Nat.le_of_eq rfl) (hb hby at_160) (fun _ _ => ⟨rfl, e1, (by show (cells + 1) + 0 ≤ 16; omega), (by show (slots + 4) + 0 ≤ 128; omega)⟩)
  dsimp only [Pt.U, Pt.locs, Pt.cells, Pt.slots] at X2 l2 y2 z2 st2 hQ2
  replace y2 := y2.symm; replace z2 := z2.symm; subst l2 y2 z2
  obtain ⟨h2, e2⟩ : ∃ z, T2.heap = z := ⟨_, rfl⟩
  rw [e2] at hQ2
  obtain ⟨rfl, N2q, K2q, E_b154_2, F_b154_end_2, F_b154_body_2, F_b154_start_2, F_b154_number_2⟩ := hQ2
  have N2 := Fr.app N0 N2q
  have A_n0_0_2 := A_n0_0_1.keep K2q (ninS (by omega : @Ne Nat n0_0 b154) nin0)
  have zz2 : n0 ≤ h2.size := Nat.le_trans zz1 K2q.1
  refine Runs.via (T' := T2) (g' := (mkF m 163 #[.val (.int x0), .val (.int x1), .val (.int x2), .val (.int x3), .val (.int x4), .val (.int x5), .val (.int x6), .val (.ref n0_0), .unset, .unset, .unset, .unset, .unset] [(.ref b154)])) (fun t k => st2.trans k) ?_
  refine Runs.via (T' := T2) (g' := (mkF m 167 #[.val (.int x0), .val (.int x1), .val (.int x2), .val (.int x3), .val (.int x4), .val (.int x5), .val (.int x6), .val (.ref n0_0), .val (.ref b154), .unset, .unset, .unset, .unset] [(.ref b154)])) (fun t k => ?_) ?_
  · show Steps p.tables e below (T2.setTop (mkF m 163 #[.val (.int x0), .val (.int x1), .val (.int x2), .val (.int x3), .val (.int x4), .val (.int x5), .val (.int x6), .val (.ref n0_0), .unset, .unset, .unset, .unset, .unset] [(.ref b154)])) t
    refine XS.astore X2.here hx rfl (hb hby at_163) rfl rfl (l' := #[.val (.int x0), .val (.int x1), .val (.int x2), .val (.int x3), .val (.int x4), .val (.int x5), .val (.int x6), .val (.ref n0_0), .val (.ref b154), .unset, .unset, .unset, .unset]) rfl ?_
    show Steps p.tables e below (T2.setTop (mkF m 165 #[.val (.int x0), .val (.int x1), .val (.int x2), .val (.int x3), .val (.int x4), .val (.int x5), .val (.int x6), .val (.ref n0_0), .val (.ref b154), .unset, .unset, .unset, .unset] [])) t
    refine XS.aload X2.here hx rfl (hb hby at_165) rfl rfl ?_
    exact k
  refine bindE hr ?_; intro r3 hr3m hr
  obtain ⟨cq3, kq3, q3a, q3b, q3c⟩ := isOf hZ e2 E_b154_2
  obtain ⟨_, _, ⟨T3, L3, k3, n3⟩, -, X3, ⟨Lc3, hQ3, l3, y3, z3⟩, st3⟩ := X2.virtualBack hx (y := (⟨"com/example/braid/braid/BodyLines", "nextNotBlank", "()Z"⟩ : MethodName)) (z := (⟨"com/example/braid/braid/BodyLines", "nextNotBlank", "()Z"⟩ : MethodName)) hown (mvT hZ (hw _ (List.mem_of_getElem? (i := 19) rfl))) (mvT hZ (hw _ (List.mem_of_getElem? (i := 20) rfl))) (notFace_of_selects (args := #[]) (mvT hZ (hw _ (List.mem_of_getElem? (i := 22) rfl)))) (mvT hZ (hw _ (List.mem_of_getElem? (i := 22) rfl))) (mvT hZ (hw _ (List.mem_of_getElem? (i := 21) rfl))) (by decide) (backOf (W := 0) (rm4 l Z a0 hw [] n0_0 b154 q_n0_0 r2 (0 : Int32) (0 : Int32) h2 n0 zz2 (by omega) (by omega) A_n0_0_2 E_b154_2 F_b154_end_2 F_b154_body_2 F_b154_start_2 F_b154_number_2 fuel r3 hr3m) hZ (hw _ (List.mem_of_getElem? (i := 23) rfl)) (hw _ (List.mem_of_getElem? (i := 8) rfl)) (by decide) (by decide)) q3a q3c (g := (mkF m 167 #[.val (.int x0), .val (.int x1), .val (.int x2), .val (.int x3), .val (.int x4), .val (.int x5), .val (.int x6), .val (.ref n0_0), .val (.ref b154), .unset, .unset, .unset, .unset] [(.ref b154)])) rfl (by rw [hml]; rfl) (Steps.refl _) (argsL := []) (rest := []) (lenOf pd_2 rfl) rfl (by show 2 * 0 + _ ≤ _; exact Nat.le_of_eq rfl) (hb hby at_167) (fun _ _ => ⟨rfl, e2, (by show ((cells + 1) + 0) + 0 ≤ 16; omega), (by show ((slots + 4) + 0) + 0 ≤ 128; omega)⟩)
  dsimp only [Pt.U, Pt.locs, Pt.cells, Pt.slots] at X3 l3 y3 z3 st3 hQ3
  replace y3 := y3.symm; replace z3 := z3.symm; subst l3 y3 z3
  obtain ⟨h3, e3⟩ : ∃ z, T3.heap = z := ⟨_, rfl⟩
  rw [e3] at hQ3
  obtain ⟨rfl, N3q, K3q, E_b154_3, F_b154_end_3, F_b154_body_3, F_b154_start_3, F_b154_number_3⟩ := hQ3
  have N3 := Fr.app N2 N3q
  have A_n0_0_3 := A_n0_0_2.keep K3q (ninS (by omega : @Ne Nat n0_0 b154) nin0)
  have zz3 : n0 ≤ h3.size := Nat.le_trans zz2 K3q.1
  refine Runs.via (T' := T3) (g' := (mkF m 170 #[.val (.int x0), .val (.int x1), .val (.int x2), .val (.int x3), .val (.int x4), .val (.int x5), .val (.int x6), .val (.ref n0_0), .val (.ref b154), .unset, .unset, .unset, .unset] [(.int r3.1)])) (fun t k => st3.trans k) ?_
  refine Runs.via (T' := T3) (g' := (mkF m 182 #[.val (.int x0), .val (.int x1), .val (.int x2), .val (.int x3), .val (.int x4), .val (.int x5), .val (.int x6), .val (.ref n0_0), .val (.ref b154), .val (.int r3.1), .unset, .unset, .unset] [(.ref b154), (.int r3.1), (.int (0 : Int32)), (.int (0 : Int32)), (.int x6), (.ref n0_0)])) (fun t k => ?_) ?_
  · show Steps p.tables e below (T3.setTop (mkF m 170 #[.val (.int x0), .val (.int x1), .val (.int x2), .val (.int x3), .val (.int x4), .val (.int x5), .val (.int x6), .val (.ref n0_0), .val (.ref b154), .unset, .unset, .unset, .unset] [(.int r3.1)])) t
    refine XS.istore X3.here hx rfl (hb hby at_170) rfl (l' := #[.val (.int x0), .val (.int x1), .val (.int x2), .val (.int x3), .val (.int x4), .val (.int x5), .val (.int x6), .val (.ref n0_0), .val (.ref b154), .val (.int r3.1), .unset, .unset, .unset]) rfl ?_
    show Steps p.tables e below (T3.setTop (mkF m 172 #[.val (.int x0), .val (.int x1), .val (.int x2), .val (.int x3), .val (.int x4), .val (.int x5), .val (.int x6), .val (.ref n0_0), .val (.ref b154), .val (.int r3.1), .unset, .unset, .unset] [])) t
    refine XS.aload X3.here hx rfl (hb hby at_172) rfl rfl ?_
    show Steps p.tables e below (T3.setTop (mkF m 174 #[.val (.int x0), .val (.int x1), .val (.int x2), .val (.int x3), .val (.int x4), .val (.int x5), .val (.int x6), .val (.ref n0_0), .val (.ref b154), .val (.int r3.1), .unset, .unset, .unset] [(.ref n0_0)])) t
    refine XS.iload X3.here hx rfl (hb hby at_174) rfl ?_
    show Steps p.tables e below (T3.setTop (mkF m 176 #[.val (.int x0), .val (.int x1), .val (.int x2), .val (.int x3), .val (.int x4), .val (.int x5), .val (.int x6), .val (.ref n0_0), .val (.ref b154), .val (.int r3.1), .unset, .unset, .unset] [(.int x6), (.ref n0_0)])) t
    refine XS.iconst X3.here hx rfl (hb hby at_176) ?_
    show Steps p.tables e below (T3.setTop (mkF m 177 #[.val (.int x0), .val (.int x1), .val (.int x2), .val (.int x3), .val (.int x4), .val (.int x5), .val (.int x6), .val (.ref n0_0), .val (.ref b154), .val (.int r3.1), .unset, .unset, .unset] [(.int (0 : Int32)), (.int x6), (.ref n0_0)])) t
    refine XS.iconst X3.here hx rfl (hb hby at_177) ?_
    show Steps p.tables e below (T3.setTop (mkF m 178 #[.val (.int x0), .val (.int x1), .val (.int x2), .val (.int x3), .val (.int x4), .val (.int x5), .val (.int x6), .val (.ref n0_0), .val (.ref b154), .val (.int r3.1), .unset, .unset, .unset] [(.int (0 : Int32)), (.int (0 : Int32)), (.int x6), (.ref n0_0)])) t
    refine XS.iload X3.here hx rfl (hb hby at_178) rfl ?_
    show Steps p.tables e below (T3.setTop (mkF m 180 #[.val (.int x0), .val (.int x1), .val (.int x2), .val (.int x3), .val (.int x4), .val (.int x5), .val (.int x6), .val (.ref n0_0), .val (.ref b154), .val (.int r3.1), .unset, .unset, .unset] [(.int r3.1), (.int (0 : Int32)), (.int (0 : Int32)), (.int x6), (.ref n0_0)])) t
    refine XS.aload X3.here hx rfl (hb hby at_180) rfl rfl ?_
    exact k
  refine bindE hr ?_; intro r4 hr4m hr
  obtain ⟨_, _, ⟨T4, L4, k4, n4⟩, -, X4, ⟨Lc4, hQ4, l4, y4, z4⟩, st4⟩ := Jvm.LawKit.callS X3 hx (y := (⟨"com/example/braid/braid/BodyLinesNextNotBlankPinLaw", "check", "([BIIIZLcom/example/braid/braid/BodyLines;)Z"⟩ : MethodName)) hown (mvT hZ (hw _ (List.mem_of_getElem? (i := 37) rfl))) (mvT hZ (hw _ (List.mem_of_getElem? (i := 38) rfl))) (mvT hZ (hw _ (List.mem_of_getElem? (i := 4) rfl))) (mvT hZ (hw _ (List.mem_of_getElem? (i := 39) rfl))) (by decide) (backOf (W := 0) (rm7 l Z a0 hw [] x6 (0 : Int32) (0 : Int32) r3.1 n0_0 b154 q_n0_0 r3.2.1 r3.2.2.1 r3.2.2.2 h3 n0 zz3 (by omega) (by omega) A_n0_0_3 E_b154_3 F_b154_end_3 F_b154_body_3 F_b154_start_3 F_b154_number_3 r4 hr4m) hZ (hw _ (List.mem_of_getElem? (i := 39) rfl)) (hw _ (List.mem_of_getElem? (i := 4) rfl)) (by decide) (by decide)) (g := (mkF m 182 #[.val (.int x0), .val (.int x1), .val (.int x2), .val (.int x3), .val (.int x4), .val (.int x5), .val (.int x6), .val (.ref n0_0), .val (.ref b154), .val (.int r3.1), .unset, .unset, .unset] [(.ref b154), (.int r3.1), (.int (0 : Int32)), (.int (0 : Int32)), (.int x6), (.ref n0_0)])) rfl (by rw [hml]; rfl) (argsL := [(.ref n0_0), (.int x6), (.int (0 : Int32)), (.int (0 : Int32)), (.int r3.1), (.ref b154)]) (rest := []) (lenOf pd_6 rfl) rfl (by show 2 * 0 + _ ≤ _; exact Nat.le_of_eq rfl) (hb hby at_182) (fun _ _ => ⟨rfl, e3, (by show (((cells + 1) + 0) + 0) + 0 ≤ 16; omega), (by show (((slots + 4) + 0) + 0) + 0 ≤ 128; omega)⟩)
  dsimp only [Pt.U, Pt.locs, Pt.cells, Pt.slots] at X4 l4 y4 z4 st4 hQ4
  replace y4 := y4.symm; replace z4 := z4.symm; subst l4 y4 z4
  obtain ⟨rfl, N4q, e4⟩ := hQ4
  have N4 := Fr.app N3 N4q
  refine Runs.via (T' := T4) (g' := (mkF m 185 #[.val (.int x0), .val (.int x1), .val (.int x2), .val (.int x3), .val (.int x4), .val (.int x5), .val (.int x6), .val (.ref n0_0), .val (.ref b154), .val (.int r3.1), .unset, .unset, .unset] [(.int r4)])) (fun t k => st4 _ k) ?_
  refine iteE hr (fun hc5 hr => ?_) (fun hc5 hr => ?_)
  · refine Runs.via (T' := T4) (g' := (mkF m 188 #[.val (.int x0), .val (.int x1), .val (.int x2), .val (.int x3), .val (.int x4), .val (.int x5), .val (.int x6), .val (.ref n0_0), .val (.ref b154), .val (.int r3.1), .unset, .unset, .unset] [])) (fun t k => ?_) ?_
    · show Steps p.tables e below (T4.setTop (mkF m 185 #[.val (.int x0), .val (.int x1), .val (.int x2), .val (.int x3), .val (.int x4), .val (.int x5), .val (.int x6), .val (.ref n0_0), .val (.ref b154), .val (.int r3.1), .unset, .unset, .unset] [(.int r4)])) t
      exact XS.ifNo X4.here hx rfl (hb hby at_185) rfl ((if0 _ _).trans (teq hc5).2) k
    refine Runs.via (T' := T4) (g' := (mkF m 189 #[.val (.int x0), .val (.int x1), .val (.int x2), .val (.int x3), .val (.int x4), .val (.int x5), .val (.int x6), .val (.ref n0_0), .val (.ref b154), .val (.int r3.1), .unset, .unset, .unset] [(.int (0 : Int32))])) (fun t k => ?_) ?_
    · show Steps p.tables e below (T4.setTop (mkF m 188 #[.val (.int x0), .val (.int x1), .val (.int x2), .val (.int x3), .val (.int x4), .val (.int x5), .val (.int x6), .val (.ref n0_0), .val (.ref b154), .val (.int r3.1), .unset, .unset, .unset] [])) t
      refine XS.iconst X4.here hx rfl (hb hby at_188) ?_
      exact k
    obtain rfl := Option.some.inj hr
    exact own_retN X4 hx hlk (t := .boolean) hret (by simp) (hb hby at_189) (by show ((((cells + 1) + 0) + 0) + 0) ≤ 2; omega) (by show ((((slots + 4) + 0) + 0) + 0) ≤ 9; omega) ⟨rfl, N4⟩
  · refine Runs.via (T' := T4) (g' := (mkF m 190 #[.val (.int x0), .val (.int x1), .val (.int x2), .val (.int x3), .val (.int x4), .val (.int x5), .val (.int x6), .val (.ref n0_0), .val (.ref b154), .val (.int r3.1), .unset, .unset, .unset] [])) (fun t k => ?_) ?_
    · show Steps p.tables e below (T4.setTop (mkF m 185 #[.val (.int x0), .val (.int x1), .val (.int x2), .val (.int x3), .val (.int x4), .val (.int x5), .val (.int x6), .val (.ref n0_0), .val (.ref b154), .val (.int r3.1), .unset, .unset, .unset] [(.int r4)])) t
      exact XS.ifYes X4.here hx rfl (pc0 := 185) (pc' := 190) rfl (hb hby at_185) rfl ((if0 _ _).trans (feq hc5).2) (by decide) (by decide) k
    refine Runs.via (T' := T4) (g' := (mkF m 192 #[.val (.int x0), .val (.int x1), .val (.int x2), .val (.int x3), .val (.int x4), .val (.int x5), .val (.int x6), .val (.ref n0_0), .val (.ref b154), .val (.int r3.1), .unset, .unset, .unset] [(.ref b154)])) (fun t k => ?_) ?_
    · show Steps p.tables e below (T4.setTop (mkF m 190 #[.val (.int x0), .val (.int x1), .val (.int x2), .val (.int x3), .val (.int x4), .val (.int x5), .val (.int x6), .val (.ref n0_0), .val (.ref b154), .val (.int r3.1), .unset, .unset, .unset] [])) t
      refine XS.aload X4.here hx rfl (hb hby at_190) rfl rfl ?_
      exact k
    refine bindE hr ?_; intro r6 hr6m hr
    obtain ⟨cq6, kq6, q6a, q6b, q6c⟩ := isOf hZ e4 E_b154_3
    obtain ⟨_, _, ⟨T6, L6, k6, n6⟩, -, X6, ⟨Lc6, hQ6, l6, y6, z6⟩, st6⟩ := X4.virtualBack hx (y := (⟨"com/example/braid/braid/BodyLines", "start", "()I"⟩ : MethodName)) (z := (⟨"com/example/braid/braid/BodyLines", "start", "()I"⟩ : MethodName)) hown (mvT hZ (hw _ (List.mem_of_getElem? (i := 46) rfl))) (mvT hZ (hw _ (List.mem_of_getElem? (i := 47) rfl))) (notFace_of_selects (args := #[]) (mvT hZ (hw _ (List.mem_of_getElem? (i := 49) rfl)))) (mvT hZ (hw _ (List.mem_of_getElem? (i := 49) rfl))) (mvT hZ (hw _ (List.mem_of_getElem? (i := 48) rfl))) (by decide) (backOf (W := 0) (rm10 l Z a0 hw [] n0_0 b154 q_n0_0 r3.2.1 r3.2.2.1 r3.2.2.2 h3 n0 zz3 (by omega) (by omega) A_n0_0_3 E_b154_3 F_b154_end_3 F_b154_body_3 F_b154_start_3 F_b154_number_3 r6 hr6m) hZ (hw _ (List.mem_of_getElem? (i := 50) rfl)) (hw _ (List.mem_of_getElem? (i := 8) rfl)) (by decide) (by decide)) q6a q6c (g := (mkF m 192 #[.val (.int x0), .val (.int x1), .val (.int x2), .val (.int x3), .val (.int x4), .val (.int x5), .val (.int x6), .val (.ref n0_0), .val (.ref b154), .val (.int r3.1), .unset, .unset, .unset] [(.ref b154)])) rfl (by rw [hml]; rfl) (Steps.refl _) (argsL := []) (rest := []) (lenOf pd_5 rfl) rfl (by show 2 * 0 + _ ≤ _; exact Nat.le_of_eq rfl) (hb hby at_192) (fun _ _ => ⟨rfl, e4, (by show ((((cells + 1) + 0) + 0) + 0) + 0 ≤ 16; omega), (by show ((((slots + 4) + 0) + 0) + 0) + 0 ≤ 128; omega)⟩)
    dsimp only [Pt.U, Pt.locs, Pt.cells, Pt.slots] at X6 l6 y6 z6 st6 hQ6
    replace y6 := y6.symm; replace z6 := z6.symm; subst l6 y6 z6
    obtain ⟨rfl, N6q, e6⟩ := hQ6
    have N6 := Fr.app N4 N6q
    refine Runs.via (T' := T6) (g' := (mkF m 195 #[.val (.int x0), .val (.int x1), .val (.int x2), .val (.int x3), .val (.int x4), .val (.int x5), .val (.int x6), .val (.ref n0_0), .val (.ref b154), .val (.int r3.1), .unset, .unset, .unset] [(.int r6)])) (fun t k => st6.trans k) ?_
    refine Runs.via (T' := T6) (g' := (mkF m 197 #[.val (.int x0), .val (.int x1), .val (.int x2), .val (.int x3), .val (.int x4), .val (.int x5), .val (.int x6), .val (.ref n0_0), .val (.ref b154), .val (.int r3.1), .unset, .unset, .unset] [(.ref b154), (.int r6)])) (fun t k => ?_) ?_
    · show Steps p.tables e below (T6.setTop (mkF m 195 #[.val (.int x0), .val (.int x1), .val (.int x2), .val (.int x3), .val (.int x4), .val (.int x5), .val (.int x6), .val (.ref n0_0), .val (.ref b154), .val (.int r3.1), .unset, .unset, .unset] [(.int r6)])) t
      refine XS.aload X6.here hx rfl (hb hby at_195) rfl rfl ?_
      exact k
    refine bindE hr ?_; intro r7 hr7m hr
    obtain ⟨cq7, kq7, q7a, q7b, q7c⟩ := isOf hZ e6 E_b154_3
    obtain ⟨_, _, ⟨T7, L7, k7, n7⟩, -, X7, ⟨Lc7, hQ7, l7, y7, z7⟩, st7⟩ := X6.virtualBack hx (y := (⟨"com/example/braid/braid/BodyLines", "length", "()I"⟩ : MethodName)) (z := (⟨"com/example/braid/braid/BodyLines", "length", "()I"⟩ : MethodName)) hown (mvT hZ (hw _ (List.mem_of_getElem? (i := 51) rfl))) (mvT hZ (hw _ (List.mem_of_getElem? (i := 52) rfl))) (notFace_of_selects (args := #[]) (mvT hZ (hw _ (List.mem_of_getElem? (i := 54) rfl)))) (mvT hZ (hw _ (List.mem_of_getElem? (i := 54) rfl))) (mvT hZ (hw _ (List.mem_of_getElem? (i := 53) rfl))) (by decide) (backOf (W := 1) (rm11 l Z a0 hw [] n0_0 b154 q_n0_0 r3.2.1 r3.2.2.1 r3.2.2.2 h3 n0 zz3 (by omega) (by omega) A_n0_0_3 E_b154_3 F_b154_end_3 F_b154_body_3 F_b154_start_3 F_b154_number_3 r7 hr7m) hZ (hw _ (List.mem_of_getElem? (i := 55) rfl)) (hw _ (List.mem_of_getElem? (i := 8) rfl)) (by decide) (by decide)) q7a q7c (g := (mkF m 197 #[.val (.int x0), .val (.int x1), .val (.int x2), .val (.int x3), .val (.int x4), .val (.int x5), .val (.int x6), .val (.ref n0_0), .val (.ref b154), .val (.int r3.1), .unset, .unset, .unset] [(.ref b154), (.int r6)])) rfl (by rw [hml]; rfl) (Steps.refl _) (argsL := []) (rest := [(.int r6)]) (lenOf pd_5 rfl) rfl (by show 2 * 0 + _ ≤ _; exact Nat.le_of_eq rfl) (hb hby at_197) (fun _ _ => ⟨rfl, e6, (by show (((((cells + 1) + 0) + 0) + 0) + 0) + 0 ≤ 16; omega), (by show (((((slots + 4) + 0) + 0) + 0) + 0) + 0 ≤ 128; omega)⟩)
    dsimp only [Pt.U, Pt.locs, Pt.cells, Pt.slots] at X7 l7 y7 z7 st7 hQ7
    replace y7 := y7.symm; replace z7 := z7.symm; subst l7 y7 z7
    obtain ⟨rfl, N7q, e7⟩ := hQ7
    have N7 := Fr.app N6 N7q
    refine Runs.via (T' := T7) (g' := (mkF m 200 #[.val (.int x0), .val (.int x1), .val (.int x2), .val (.int x3), .val (.int x4), .val (.int x5), .val (.int x6), .val (.ref n0_0), .val (.ref b154), .val (.int r3.1), .unset, .unset, .unset] [(.int r7), (.int r6)])) (fun t k => st7.trans k) ?_
    refine Runs.via (T' := T7) (g' := (mkF m 203 #[.val (.int x0), .val (.int x1), .val (.int x2), .val (.int x3), .val (.int x4), .val (.int x5), .val (.int x6), .val (.ref n0_0), .val (.ref b154), .val (.int r3.1), .unset, .unset, .unset] [(.int ((r6 + r7) + (1 : Int32)))])) (fun t k => ?_) ?_
    · show Steps p.tables e below (T7.setTop (mkF m 200 #[.val (.int x0), .val (.int x1), .val (.int x2), .val (.int x3), .val (.int x4), .val (.int x5), .val (.int x6), .val (.ref n0_0), .val (.ref b154), .val (.int r3.1), .unset, .unset, .unset] [(.int r7), (.int r6)])) t
      refine XS.iadd X7.here hx rfl (hb hby at_200) rfl ?_
      show Steps p.tables e below (T7.setTop (mkF m 201 #[.val (.int x0), .val (.int x1), .val (.int x2), .val (.int x3), .val (.int x4), .val (.int x5), .val (.int x6), .val (.ref n0_0), .val (.ref b154), .val (.int r3.1), .unset, .unset, .unset] [(.int (r6 + r7))])) t
      refine XS.iconst X7.here hx rfl (hb hby at_201) ?_
      show Steps p.tables e below (T7.setTop (mkF m 202 #[.val (.int x0), .val (.int x1), .val (.int x2), .val (.int x3), .val (.int x4), .val (.int x5), .val (.int x6), .val (.ref n0_0), .val (.ref b154), .val (.int r3.1), .unset, .unset, .unset] [(.int (1 : Int32)), (.int (r6 + r7))])) t
      refine XS.iadd X7.here hx rfl (hb hby at_202) rfl ?_
      exact k
    refine letE hr ?_; intro v8 hv8 hr
    rw [← hv8]
    refine Runs.via (T' := T7) (g' := (mkF m 207 #[.val (.int x0), .val (.int x1), .val (.int x2), .val (.int x3), .val (.int x4), .val (.int x5), .val (.int x6), .val (.ref n0_0), .val (.ref b154), .val (.int r3.1), .val (.int v8), .unset, .unset] [(.ref b154)])) (fun t k => ?_) ?_
    · show Steps p.tables e below (T7.setTop (mkF m 203 #[.val (.int x0), .val (.int x1), .val (.int x2), .val (.int x3), .val (.int x4), .val (.int x5), .val (.int x6), .val (.ref n0_0), .val (.ref b154), .val (.int r3.1), .unset, .unset, .unset] [(.int v8)])) t
      refine XS.istore X7.here hx rfl (hb hby at_203) rfl (l' := #[.val (.int x0), .val (.int x1), .val (.int x2), .val (.int x3), .val (.int x4), .val (.int x5), .val (.int x6), .val (.ref n0_0), .val (.ref b154), .val (.int r3.1), .val (.int v8), .unset, .unset]) rfl ?_
      show Steps p.tables e below (T7.setTop (mkF m 205 #[.val (.int x0), .val (.int x1), .val (.int x2), .val (.int x3), .val (.int x4), .val (.int x5), .val (.int x6), .val (.ref n0_0), .val (.ref b154), .val (.int r3.1), .val (.int v8), .unset, .unset] [])) t
      refine XS.aload X7.here hx rfl (hb hby at_205) rfl rfl ?_
      exact k
    refine bindE hr ?_; intro r9 hr9m hr
    obtain ⟨cq9, kq9, q9a, q9b, q9c⟩ := isOf hZ e7 E_b154_3
    obtain ⟨_, _, ⟨T9, L9, k9, n9⟩, -, X9, ⟨Lc9, hQ9, l9, y9, z9⟩, st9⟩ := X7.virtualBack hx (y := (⟨"com/example/braid/braid/BodyLines", "number", "()I"⟩ : MethodName)) (z := (⟨"com/example/braid/braid/BodyLines", "number", "()I"⟩ : MethodName)) hown (mvT hZ (hw _ (List.mem_of_getElem? (i := 56) rfl))) (mvT hZ (hw _ (List.mem_of_getElem? (i := 57) rfl))) (notFace_of_selects (args := #[]) (mvT hZ (hw _ (List.mem_of_getElem? (i := 59) rfl)))) (mvT hZ (hw _ (List.mem_of_getElem? (i := 59) rfl))) (mvT hZ (hw _ (List.mem_of_getElem? (i := 58) rfl))) (by decide) (backOf (W := 0) (rm12 l Z a0 hw [] n0_0 b154 q_n0_0 r3.2.1 r3.2.2.1 r3.2.2.2 h3 n0 zz3 (by omega) (by omega) A_n0_0_3 E_b154_3 F_b154_end_3 F_b154_body_3 F_b154_start_3 F_b154_number_3 r9 hr9m) hZ (hw _ (List.mem_of_getElem? (i := 60) rfl)) (hw _ (List.mem_of_getElem? (i := 8) rfl)) (by decide) (by decide)) q9a q9c (g := (mkF m 207 #[.val (.int x0), .val (.int x1), .val (.int x2), .val (.int x3), .val (.int x4), .val (.int x5), .val (.int x6), .val (.ref n0_0), .val (.ref b154), .val (.int r3.1), .val (.int v8), .unset, .unset] [(.ref b154)])) rfl (by rw [hml]; rfl) (Steps.refl _) (argsL := []) (rest := []) (lenOf pd_5 rfl) rfl (by show 2 * 0 + _ ≤ _; exact Nat.le_of_eq rfl) (hb hby at_207) (fun _ _ => ⟨rfl, e7, (by show ((((((cells + 1) + 0) + 0) + 0) + 0) + 0) + 0 ≤ 16; omega), (by show ((((((slots + 4) + 0) + 0) + 0) + 0) + 0) + 0 ≤ 128; omega)⟩)
    dsimp only [Pt.U, Pt.locs, Pt.cells, Pt.slots] at X9 l9 y9 z9 st9 hQ9
    replace y9 := y9.symm; replace z9 := z9.symm; subst l9 y9 z9
    obtain ⟨rfl, N9q, e9⟩ := hQ9
    have N9 := Fr.app N7 N9q
    refine Runs.via (T' := T9) (g' := (mkF m 210 #[.val (.int x0), .val (.int x1), .val (.int x2), .val (.int x3), .val (.int x4), .val (.int x5), .val (.int x6), .val (.ref n0_0), .val (.ref b154), .val (.int r3.1), .val (.int v8), .unset, .unset] [(.int r9)])) (fun t k => st9.trans k) ?_
    refine Runs.via (T' := T9) (g' := (mkF m 214 #[.val (.int x0), .val (.int x1), .val (.int x2), .val (.int x3), .val (.int x4), .val (.int x5), .val (.int x6), .val (.ref n0_0), .val (.ref b154), .val (.int r3.1), .val (.int v8), .val (.int r9), .unset] [(.ref b154)])) (fun t k => ?_) ?_
    · show Steps p.tables e below (T9.setTop (mkF m 210 #[.val (.int x0), .val (.int x1), .val (.int x2), .val (.int x3), .val (.int x4), .val (.int x5), .val (.int x6), .val (.ref n0_0), .val (.ref b154), .val (.int r3.1), .val (.int v8), .unset, .unset] [(.int r9)])) t
      refine XS.istore X9.here hx rfl (hb hby at_210) rfl (l' := #[.val (.int x0), .val (.int x1), .val (.int x2), .val (.int x3), .val (.int x4), .val (.int x5), .val (.int x6), .val (.ref n0_0), .val (.ref b154), .val (.int r3.1), .val (.int v8), .val (.int r9), .unset]) rfl ?_
      show Steps p.tables e below (T9.setTop (mkF m 212 #[.val (.int x0), .val (.int x1), .val (.int x2), .val (.int x3), .val (.int x4), .val (.int x5), .val (.int x6), .val (.ref n0_0), .val (.ref b154), .val (.int r3.1), .val (.int v8), .val (.int r9), .unset] [])) t
      refine XS.aload X9.here hx rfl (hb hby at_212) rfl rfl ?_
      exact k
    refine bindE hr ?_; intro r10 hr10m hr
    obtain ⟨cq10, kq10, q10a, q10b, q10c⟩ := isOf hZ e9 E_b154_3
    obtain ⟨_, _, ⟨T10, L10, k10, n10⟩, -, X10, ⟨Lc10, hQ10, l10, y10, z10⟩, st10⟩ := X9.virtualBack hx (y := (⟨"com/example/braid/braid/BodyLines", "nextNotBlank", "()Z"⟩ : MethodName)) (z := (⟨"com/example/braid/braid/BodyLines", "nextNotBlank", "()Z"⟩ : MethodName)) hown (mvT hZ (hw _ (List.mem_of_getElem? (i := 19) rfl))) (mvT hZ (hw _ (List.mem_of_getElem? (i := 20) rfl))) (notFace_of_selects (args := #[]) (mvT hZ (hw _ (List.mem_of_getElem? (i := 22) rfl)))) (mvT hZ (hw _ (List.mem_of_getElem? (i := 22) rfl))) (mvT hZ (hw _ (List.mem_of_getElem? (i := 21) rfl))) (by decide) (backOf (W := 0) (rm4 l Z a0 hw [] n0_0 b154 q_n0_0 r3.2.1 r3.2.2.1 r3.2.2.2 h3 n0 zz3 (by omega) (by omega) A_n0_0_3 E_b154_3 F_b154_end_3 F_b154_body_3 F_b154_start_3 F_b154_number_3 fuel r10 hr10m) hZ (hw _ (List.mem_of_getElem? (i := 23) rfl)) (hw _ (List.mem_of_getElem? (i := 8) rfl)) (by decide) (by decide)) q10a q10c (g := (mkF m 214 #[.val (.int x0), .val (.int x1), .val (.int x2), .val (.int x3), .val (.int x4), .val (.int x5), .val (.int x6), .val (.ref n0_0), .val (.ref b154), .val (.int r3.1), .val (.int v8), .val (.int r9), .unset] [(.ref b154)])) rfl (by rw [hml]; rfl) (Steps.refl _) (argsL := []) (rest := []) (lenOf pd_2 rfl) rfl (by show 2 * 0 + _ ≤ _; exact Nat.le_of_eq rfl) (hb hby at_214) (fun _ _ => ⟨rfl, e9, (by show (((((((cells + 1) + 0) + 0) + 0) + 0) + 0) + 0) + 0 ≤ 16; omega), (by show (((((((slots + 4) + 0) + 0) + 0) + 0) + 0) + 0) + 0 ≤ 128; omega)⟩)
    dsimp only [Pt.U, Pt.locs, Pt.cells, Pt.slots] at X10 l10 y10 z10 st10 hQ10
    replace y10 := y10.symm; replace z10 := z10.symm; subst l10 y10 z10
    obtain ⟨h10, e10⟩ : ∃ z, T10.heap = z := ⟨_, rfl⟩
    rw [e10] at hQ10
    obtain ⟨rfl, N10q, K10q, E_b154_10, F_b154_end_10, F_b154_body_10, F_b154_start_10, F_b154_number_10⟩ := hQ10
    have N10 := Fr.app N9 N10q
    have A_n0_0_10 := A_n0_0_3.keep K10q (ninS (by omega : @Ne Nat n0_0 b154) nin0)
    have zz10 : n0 ≤ h10.size := Nat.le_trans zz3 K10q.1
    refine Runs.via (T' := T10) (g' := (mkF m 217 #[.val (.int x0), .val (.int x1), .val (.int x2), .val (.int x3), .val (.int x4), .val (.int x5), .val (.int x6), .val (.ref n0_0), .val (.ref b154), .val (.int r3.1), .val (.int v8), .val (.int r9), .unset] [(.int r10.1)])) (fun t k => st10.trans k) ?_
    refine Runs.via (T' := T10) (g' := (mkF m 231 #[.val (.int x0), .val (.int x1), .val (.int x2), .val (.int x3), .val (.int x4), .val (.int x5), .val (.int x6), .val (.ref n0_0), .val (.ref b154), .val (.int r3.1), .val (.int v8), .val (.int r9), .val (.int r10.1)] [(.ref b154), (.int r10.1), (.int r9), (.int v8), (.int x6), (.ref n0_0)])) (fun t k => ?_) ?_
    · show Steps p.tables e below (T10.setTop (mkF m 217 #[.val (.int x0), .val (.int x1), .val (.int x2), .val (.int x3), .val (.int x4), .val (.int x5), .val (.int x6), .val (.ref n0_0), .val (.ref b154), .val (.int r3.1), .val (.int v8), .val (.int r9), .unset] [(.int r10.1)])) t
      refine XS.istore X10.here hx rfl (hb hby at_217) rfl (l' := #[.val (.int x0), .val (.int x1), .val (.int x2), .val (.int x3), .val (.int x4), .val (.int x5), .val (.int x6), .val (.ref n0_0), .val (.ref b154), .val (.int r3.1), .val (.int v8), .val (.int r9), .val (.int r10.1)]) rfl ?_
      show Steps p.tables e below (T10.setTop (mkF m 219 #[.val (.int x0), .val (.int x1), .val (.int x2), .val (.int x3), .val (.int x4), .val (.int x5), .val (.int x6), .val (.ref n0_0), .val (.ref b154), .val (.int r3.1), .val (.int v8), .val (.int r9), .val (.int r10.1)] [])) t
      refine XS.aload X10.here hx rfl (hb hby at_219) rfl rfl ?_
      show Steps p.tables e below (T10.setTop (mkF m 221 #[.val (.int x0), .val (.int x1), .val (.int x2), .val (.int x3), .val (.int x4), .val (.int x5), .val (.int x6), .val (.ref n0_0), .val (.ref b154), .val (.int r3.1), .val (.int v8), .val (.int r9), .val (.int r10.1)] [(.ref n0_0)])) t
      refine XS.iload X10.here hx rfl (hb hby at_221) rfl ?_
      show Steps p.tables e below (T10.setTop (mkF m 223 #[.val (.int x0), .val (.int x1), .val (.int x2), .val (.int x3), .val (.int x4), .val (.int x5), .val (.int x6), .val (.ref n0_0), .val (.ref b154), .val (.int r3.1), .val (.int v8), .val (.int r9), .val (.int r10.1)] [(.int x6), (.ref n0_0)])) t
      refine XS.iload X10.here hx rfl (hb hby at_223) rfl ?_
      show Steps p.tables e below (T10.setTop (mkF m 225 #[.val (.int x0), .val (.int x1), .val (.int x2), .val (.int x3), .val (.int x4), .val (.int x5), .val (.int x6), .val (.ref n0_0), .val (.ref b154), .val (.int r3.1), .val (.int v8), .val (.int r9), .val (.int r10.1)] [(.int v8), (.int x6), (.ref n0_0)])) t
      refine XS.iload X10.here hx rfl (hb hby at_225) rfl ?_
      show Steps p.tables e below (T10.setTop (mkF m 227 #[.val (.int x0), .val (.int x1), .val (.int x2), .val (.int x3), .val (.int x4), .val (.int x5), .val (.int x6), .val (.ref n0_0), .val (.ref b154), .val (.int r3.1), .val (.int v8), .val (.int r9), .val (.int r10.1)] [(.int r9), (.int v8), (.int x6), (.ref n0_0)])) t
      refine XS.iload X10.here hx rfl (hb hby at_227) rfl ?_
      show Steps p.tables e below (T10.setTop (mkF m 229 #[.val (.int x0), .val (.int x1), .val (.int x2), .val (.int x3), .val (.int x4), .val (.int x5), .val (.int x6), .val (.ref n0_0), .val (.ref b154), .val (.int r3.1), .val (.int v8), .val (.int r9), .val (.int r10.1)] [(.int r10.1), (.int r9), (.int v8), (.int x6), (.ref n0_0)])) t
      refine XS.aload X10.here hx rfl (hb hby at_229) rfl rfl ?_
      exact k
    refine bindE hr ?_; intro r11 hr11m hr
    obtain ⟨_, _, ⟨T11, L11, k11, n11⟩, -, X11, ⟨Lc11, hQ11, l11, y11, z11⟩, st11⟩ := Jvm.LawKit.callS X10 hx (y := (⟨"com/example/braid/braid/BodyLinesNextNotBlankPinLaw", "check", "([BIIIZLcom/example/braid/braid/BodyLines;)Z"⟩ : MethodName)) hown (mvT hZ (hw _ (List.mem_of_getElem? (i := 37) rfl))) (mvT hZ (hw _ (List.mem_of_getElem? (i := 38) rfl))) (mvT hZ (hw _ (List.mem_of_getElem? (i := 4) rfl))) (mvT hZ (hw _ (List.mem_of_getElem? (i := 39) rfl))) (by decide) (backOf (W := 0) (rm7 l Z a0 hw [] x6 v8 r9 r10.1 n0_0 b154 q_n0_0 r10.2.1 r10.2.2.1 r10.2.2.2 h10 n0 zz10 (by omega) (by omega) A_n0_0_10 E_b154_10 F_b154_end_10 F_b154_body_10 F_b154_start_10 F_b154_number_10 r11 hr11m) hZ (hw _ (List.mem_of_getElem? (i := 39) rfl)) (hw _ (List.mem_of_getElem? (i := 4) rfl)) (by decide) (by decide)) (g := (mkF m 231 #[.val (.int x0), .val (.int x1), .val (.int x2), .val (.int x3), .val (.int x4), .val (.int x5), .val (.int x6), .val (.ref n0_0), .val (.ref b154), .val (.int r3.1), .val (.int v8), .val (.int r9), .val (.int r10.1)] [(.ref b154), (.int r10.1), (.int r9), (.int v8), (.int x6), (.ref n0_0)])) rfl (by rw [hml]; rfl) (argsL := [(.ref n0_0), (.int x6), (.int v8), (.int r9), (.int r10.1), (.ref b154)]) (rest := []) (lenOf pd_6 rfl) rfl (by show 2 * 0 + _ ≤ _; exact Nat.le_of_eq rfl) (hb hby at_231) (fun _ _ => ⟨rfl, e10, (by show ((((((((cells + 1) + 0) + 0) + 0) + 0) + 0) + 0) + 0) + 0 ≤ 16; omega), (by show ((((((((slots + 4) + 0) + 0) + 0) + 0) + 0) + 0) + 0) + 0 ≤ 128; omega)⟩)
    dsimp only [Pt.U, Pt.locs, Pt.cells, Pt.slots] at X11 l11 y11 z11 st11 hQ11
    replace y11 := y11.symm; replace z11 := z11.symm; subst l11 y11 z11
    obtain ⟨rfl, N11q, e11⟩ := hQ11
    have N11 := Fr.app N10 N11q
    refine Runs.via (T' := T11) (g' := (mkF m 234 #[.val (.int x0), .val (.int x1), .val (.int x2), .val (.int x3), .val (.int x4), .val (.int x5), .val (.int x6), .val (.ref n0_0), .val (.ref b154), .val (.int r3.1), .val (.int v8), .val (.int r9), .val (.int r10.1)] [(.int r11)])) (fun t k => st11 _ k) ?_
    obtain rfl := Option.some.inj hr
    exact own_retN X11 hx hlk (t := .boolean) hret (by simp) (hb hby at_234) (by show (((((((((cells + 1) + 0) + 0) + 0) + 0) + 0) + 0) + 0) + 0) ≤ 2; omega) (by show (((((((((slots + 4) + 0) + 0) + 0) + 0) + 0) + 0) + 0) + 0) ≤ 9; omega) ⟨rfl, N11⟩
def g0_139 (fuel : Nat) (x4 : Int32) (x6 : Int32) (q_n0_0 : List Int32) : Option (Int32) := (if (4 : Int32) < x6 then ((wrO q_n0_0 (4 : Int32) ((f1 x4).toInt8.toInt32)).bind fun v3 => (g0_154 fuel x6 v3)) else (g0_154 fuel x6 q_n0_0))
set_option maxRecDepth 65536 in
set_option maxHeartbeats 4000000 in
theorem b0_139 {r : Int32} (C : Ctx p s m meth c Z a0 "com/example/braid/braid/BodyLinesNextNotBlankPinLaw" code 13 (some .boolean) "law") (fuel : Nat) (X0 : Stand p l e room_1 s m args below meth c T0 locs cells slots) (e0 : T0.heap = h0) (N0 : Fr n0 locs) (hk : cells ≤ 1) (hn : slots ≤ 5) (Z1 : n0 ≤ h0.size) (n0_0 : Addr) (o0 : n0 ≤ n0_0) (q_n0_0 : List Int32) (x0 : Int32) (x1 : Int32) (x2 : Int32) (x3 : Int32) (x4 : Int32) (x5 : Int32) (x6 : Int32) (A_n0_0_0 : AI Z h0 n0_0 .byte q_n0_0) (hr : g0_139 fuel x4 x6 q_n0_0 = some r) :
    Runs p e below s (P0 n0 r) 2 9 T0 (mkF m 139 #[.val (.int x0), .val (.int x1), .val (.int x2), .val (.int x3), .val (.int x4), .val (.int x5), .val (.int x6), .val (.ref n0_0), .unset, .unset, .unset, .unset, .unset] []) := by
  unfold g0_139 at hr
  have ⟨hx, hZ, hw, hby, hml, hown, hret, hlk, hnm⟩ := C
  refine Runs.via (T' := T0) (g' := (mkF m 142 #[.val (.int x0), .val (.int x1), .val (.int x2), .val (.int x3), .val (.int x4), .val (.int x5), .val (.int x6), .val (.ref n0_0), .unset, .unset, .unset, .unset, .unset] [(.int (4 : Int32)), (.int x6)])) (fun t k => ?_) ?_
  · show Steps p.tables e below (T0.setTop (mkF m 139 #[.val (.int x0), .val (.int x1), .val (.int x2), .val (.int x3), .val (.int x4), .val (.int x5), .val (.int x6), .val (.ref n0_0), .unset, .unset, .unset, .unset, .unset] [])) t
    refine XS.iload X0.here hx rfl (hb hby at_139) rfl ?_
    show Steps p.tables e below (T0.setTop (mkF m 141 #[.val (.int x0), .val (.int x1), .val (.int x2), .val (.int x3), .val (.int x4), .val (.int x5), .val (.int x6), .val (.ref n0_0), .unset, .unset, .unset, .unset, .unset] [(.int x6)])) t
    refine XS.iconst X0.here hx rfl (hb hby at_141) ?_
    exact k
  refine iteE hr (fun hc1 hr => ?_) (fun hc1 hr => ?_)
  · refine Runs.via (T' := T0) (g' := (mkF m 145 #[.val (.int x0), .val (.int x1), .val (.int x2), .val (.int x3), .val (.int x4), .val (.int x5), .val (.int x6), .val (.ref n0_0), .unset, .unset, .unset, .unset, .unset] [])) (fun t k => ?_) ?_
    · show Steps p.tables e below (T0.setTop (mkF m 142 #[.val (.int x0), .val (.int x1), .val (.int x2), .val (.int x3), .val (.int x4), .val (.int x5), .val (.int x6), .val (.ref n0_0), .unset, .unset, .unset, .unset, .unset] [(.int (4 : Int32)), (.int x6)])) t
      exact XS.icmpNo X0.here hx rfl (hb hby at_142) rfl (tlt hc1).2.2.2 k
    refine Runs.via (T' := T0) (g' := (mkF m 150 #[.val (.int x0), .val (.int x1), .val (.int x2), .val (.int x3), .val (.int x4), .val (.int x5), .val (.int x6), .val (.ref n0_0), .unset, .unset, .unset, .unset, .unset] [(.int x4), (.int (4 : Int32)), (.ref n0_0)])) (fun t k => ?_) ?_
    · show Steps p.tables e below (T0.setTop (mkF m 145 #[.val (.int x0), .val (.int x1), .val (.int x2), .val (.int x3), .val (.int x4), .val (.int x5), .val (.int x6), .val (.ref n0_0), .unset, .unset, .unset, .unset, .unset] [])) t
      refine XS.aload X0.here hx rfl (hb hby at_145) rfl rfl ?_
      show Steps p.tables e below (T0.setTop (mkF m 147 #[.val (.int x0), .val (.int x1), .val (.int x2), .val (.int x3), .val (.int x4), .val (.int x5), .val (.int x6), .val (.ref n0_0), .unset, .unset, .unset, .unset, .unset] [(.ref n0_0)])) t
      refine XS.iconst X0.here hx rfl (hb hby at_147) ?_
      show Steps p.tables e below (T0.setTop (mkF m 148 #[.val (.int x0), .val (.int x1), .val (.int x2), .val (.int x3), .val (.int x4), .val (.int x5), .val (.int x6), .val (.ref n0_0), .unset, .unset, .unset, .unset, .unset] [(.int (4 : Int32)), (.ref n0_0)])) t
      refine XS.iload X0.here hx rfl (hb hby at_148) rfl ?_
      exact k
    obtain ⟨_, _, ⟨T2, L2, k2, n2⟩, -, X2, ⟨Lc2, hQ2, l2, y2, z2⟩, st2⟩ := Jvm.LawKit.callS X0 hx (y := (⟨"com/example/braid/braid/BodyLinesNextNotBlankPinLaw", "draw", "(I)B"⟩ : MethodName)) hown (mvT hZ (hw _ (List.mem_of_getElem? (i := 2) rfl))) (mvT hZ (hw _ (List.mem_of_getElem? (i := 3) rfl))) (mvT hZ (hw _ (List.mem_of_getElem? (i := 4) rfl))) (mvT hZ (hw _ (List.mem_of_getElem? (i := 5) rfl))) (by decide) (backOf (W := 2) (rm1 l Z a0 hw [] x4 h0 n0) hZ (hw _ (List.mem_of_getElem? (i := 5) rfl)) (hw _ (List.mem_of_getElem? (i := 4) rfl)) (by decide) (by decide)) (g := (mkF m 150 #[.val (.int x0), .val (.int x1), .val (.int x2), .val (.int x3), .val (.int x4), .val (.int x5), .val (.int x6), .val (.ref n0_0), .unset, .unset, .unset, .unset, .unset] [(.int x4), (.int (4 : Int32)), (.ref n0_0)])) rfl (by rw [hml]; rfl) (argsL := [(.int x4)]) (rest := [(.int (4 : Int32)), (.ref n0_0)]) (lenOf pd_0 rfl) rfl (by show 2 * 0 + _ ≤ _; exact Nat.le_of_eq rfl) (hb hby at_150) (fun _ _ => ⟨rfl, e0, (by show cells + 0 ≤ 16; omega), (by show slots + 0 ≤ 128; omega)⟩)
    dsimp only [Pt.U, Pt.locs, Pt.cells, Pt.slots] at X2 l2 y2 z2 st2 hQ2
    replace y2 := y2.symm; replace z2 := z2.symm; subst l2 y2 z2
    obtain ⟨rfl, N2q, e2⟩ := hQ2
    have N2 := Fr.app N0 N2q
    refine Runs.via (T' := T2) (g' := (mkF m 153 #[.val (.int x0), .val (.int x1), .val (.int x2), .val (.int x3), .val (.int x4), .val (.int x5), .val (.int x6), .val (.ref n0_0), .unset, .unset, .unset, .unset, .unset] [(.int (f1 x4)), (.int (4 : Int32)), (.ref n0_0)])) (fun t k => st2 _ k) ?_
    refine bindE hr ?_; intro v3 hv3 hr
    obtain ⟨T3, h3, X3, e3, W3, A3, st3⟩ := soB X2 hx hZ e2 A_n0_0_0 hv3 (g := (mkF m 153 #[.val (.int x0), .val (.int x1), .val (.int x2), .val (.int x3), .val (.int x4), .val (.int x5), .val (.int x6), .val (.ref n0_0), .unset, .unset, .unset, .unset, .unset] [(.int (f1 x4)), (.int (4 : Int32)), (.ref n0_0)])) rfl rfl (hb hby at_153)
    have A_n0_0_3 : AI Z h3 n0_0 .byte v3 := A3
    have N3 := Fr.snoc X3 N2 (by omega : n0 ≤ n0_0)
    have zz3 : n0 ≤ h3.size := Nat.le_trans Z1 (Keep.of_wr W3).1
    refine Runs.via (T' := T3) (g' := (mkF m 154 #[.val (.int x0), .val (.int x1), .val (.int x2), .val (.int x3), .val (.int x4), .val (.int x5), .val (.int x6), .val (.ref n0_0), .unset, .unset, .unset, .unset, .unset] [])) (fun t k => st3 _ k) ?_
    exact b0_154 C fuel X3 e3 N3 (by show (cells + 0) ≤ 1; omega) (by show (slots + 0) ≤ 5; omega) zz3 n0_0 (by omega) v3 x0 x1 x2 x3 x4 x5 x6 A_n0_0_3 hr
  · refine Runs.via (T' := T0) (g' := (mkF m 154 #[.val (.int x0), .val (.int x1), .val (.int x2), .val (.int x3), .val (.int x4), .val (.int x5), .val (.int x6), .val (.ref n0_0), .unset, .unset, .unset, .unset, .unset] [])) (fun t k => ?_) ?_
    · show Steps p.tables e below (T0.setTop (mkF m 142 #[.val (.int x0), .val (.int x1), .val (.int x2), .val (.int x3), .val (.int x4), .val (.int x5), .val (.int x6), .val (.ref n0_0), .unset, .unset, .unset, .unset, .unset] [(.int (4 : Int32)), (.int x6)])) t
      exact XS.icmpYes X0.here hx rfl (pc0 := 142) (pc' := 154) rfl (hb hby at_142) rfl (flt hc1).2.2.2 (by decide) (by decide) k
    exact b0_154 C fuel X0 e0 N0 (by show cells ≤ 1; omega) (by show slots ≤ 5; omega) Z1 n0_0 (by omega) q_n0_0 x0 x1 x2 x3 x4 x5 x6 A_n0_0_0 hr
def g0_125 (fuel : Nat) (x3 : Int32) (x4 : Int32) (x6 : Int32) (q_n0_0 : List Int32) : Option (Int32) := (if (3 : Int32) < x6 then ((wrO q_n0_0 (3 : Int32) ((f1 x3).toInt8.toInt32)).bind fun v3 => (g0_139 fuel x4 x6 v3)) else (g0_139 fuel x4 x6 q_n0_0))
set_option maxRecDepth 65536 in
set_option maxHeartbeats 4000000 in
theorem b0_125 {r : Int32} (C : Ctx p s m meth c Z a0 "com/example/braid/braid/BodyLinesNextNotBlankPinLaw" code 13 (some .boolean) "law") (fuel : Nat) (X0 : Stand p l e room_1 s m args below meth c T0 locs cells slots) (e0 : T0.heap = h0) (N0 : Fr n0 locs) (hk : cells ≤ 1) (hn : slots ≤ 5) (Z1 : n0 ≤ h0.size) (n0_0 : Addr) (o0 : n0 ≤ n0_0) (q_n0_0 : List Int32) (x0 : Int32) (x1 : Int32) (x2 : Int32) (x3 : Int32) (x4 : Int32) (x5 : Int32) (x6 : Int32) (A_n0_0_0 : AI Z h0 n0_0 .byte q_n0_0) (hr : g0_125 fuel x3 x4 x6 q_n0_0 = some r) :
    Runs p e below s (P0 n0 r) 2 9 T0 (mkF m 125 #[.val (.int x0), .val (.int x1), .val (.int x2), .val (.int x3), .val (.int x4), .val (.int x5), .val (.int x6), .val (.ref n0_0), .unset, .unset, .unset, .unset, .unset] []) := by
  unfold g0_125 at hr
  have ⟨hx, hZ, hw, hby, hml, hown, hret, hlk, hnm⟩ := C
  refine Runs.via (T' := T0) (g' := (mkF m 128 #[.val (.int x0), .val (.int x1), .val (.int x2), .val (.int x3), .val (.int x4), .val (.int x5), .val (.int x6), .val (.ref n0_0), .unset, .unset, .unset, .unset, .unset] [(.int (3 : Int32)), (.int x6)])) (fun t k => ?_) ?_
  · show Steps p.tables e below (T0.setTop (mkF m 125 #[.val (.int x0), .val (.int x1), .val (.int x2), .val (.int x3), .val (.int x4), .val (.int x5), .val (.int x6), .val (.ref n0_0), .unset, .unset, .unset, .unset, .unset] [])) t
    refine XS.iload X0.here hx rfl (hb hby at_125) rfl ?_
    show Steps p.tables e below (T0.setTop (mkF m 127 #[.val (.int x0), .val (.int x1), .val (.int x2), .val (.int x3), .val (.int x4), .val (.int x5), .val (.int x6), .val (.ref n0_0), .unset, .unset, .unset, .unset, .unset] [(.int x6)])) t
    refine XS.iconst X0.here hx rfl (hb hby at_127) ?_
    exact k
  refine iteE hr (fun hc1 hr => ?_) (fun hc1 hr => ?_)
  · refine Runs.via (T' := T0) (g' := (mkF m 131 #[.val (.int x0), .val (.int x1), .val (.int x2), .val (.int x3), .val (.int x4), .val (.int x5), .val (.int x6), .val (.ref n0_0), .unset, .unset, .unset, .unset, .unset] [])) (fun t k => ?_) ?_
    · show Steps p.tables e below (T0.setTop (mkF m 128 #[.val (.int x0), .val (.int x1), .val (.int x2), .val (.int x3), .val (.int x4), .val (.int x5), .val (.int x6), .val (.ref n0_0), .unset, .unset, .unset, .unset, .unset] [(.int (3 : Int32)), (.int x6)])) t
      exact XS.icmpNo X0.here hx rfl (hb hby at_128) rfl (tlt hc1).2.2.2 k
    refine Runs.via (T' := T0) (g' := (mkF m 135 #[.val (.int x0), .val (.int x1), .val (.int x2), .val (.int x3), .val (.int x4), .val (.int x5), .val (.int x6), .val (.ref n0_0), .unset, .unset, .unset, .unset, .unset] [(.int x3), (.int (3 : Int32)), (.ref n0_0)])) (fun t k => ?_) ?_
    · show Steps p.tables e below (T0.setTop (mkF m 131 #[.val (.int x0), .val (.int x1), .val (.int x2), .val (.int x3), .val (.int x4), .val (.int x5), .val (.int x6), .val (.ref n0_0), .unset, .unset, .unset, .unset, .unset] [])) t
      refine XS.aload X0.here hx rfl (hb hby at_131) rfl rfl ?_
      show Steps p.tables e below (T0.setTop (mkF m 133 #[.val (.int x0), .val (.int x1), .val (.int x2), .val (.int x3), .val (.int x4), .val (.int x5), .val (.int x6), .val (.ref n0_0), .unset, .unset, .unset, .unset, .unset] [(.ref n0_0)])) t
      refine XS.iconst X0.here hx rfl (hb hby at_133) ?_
      show Steps p.tables e below (T0.setTop (mkF m 134 #[.val (.int x0), .val (.int x1), .val (.int x2), .val (.int x3), .val (.int x4), .val (.int x5), .val (.int x6), .val (.ref n0_0), .unset, .unset, .unset, .unset, .unset] [(.int (3 : Int32)), (.ref n0_0)])) t
      refine XS.iloadN X0.here hx rfl (hb hby at_134) rfl ?_
      exact k
    obtain ⟨_, _, ⟨T2, L2, k2, n2⟩, -, X2, ⟨Lc2, hQ2, l2, y2, z2⟩, st2⟩ := Jvm.LawKit.callS X0 hx (y := (⟨"com/example/braid/braid/BodyLinesNextNotBlankPinLaw", "draw", "(I)B"⟩ : MethodName)) hown (mvT hZ (hw _ (List.mem_of_getElem? (i := 2) rfl))) (mvT hZ (hw _ (List.mem_of_getElem? (i := 3) rfl))) (mvT hZ (hw _ (List.mem_of_getElem? (i := 4) rfl))) (mvT hZ (hw _ (List.mem_of_getElem? (i := 5) rfl))) (by decide) (backOf (W := 2) (rm1 l Z a0 hw [] x3 h0 n0) hZ (hw _ (List.mem_of_getElem? (i := 5) rfl)) (hw _ (List.mem_of_getElem? (i := 4) rfl)) (by decide) (by decide)) (g := (mkF m 135 #[.val (.int x0), .val (.int x1), .val (.int x2), .val (.int x3), .val (.int x4), .val (.int x5), .val (.int x6), .val (.ref n0_0), .unset, .unset, .unset, .unset, .unset] [(.int x3), (.int (3 : Int32)), (.ref n0_0)])) rfl (by rw [hml]; rfl) (argsL := [(.int x3)]) (rest := [(.int (3 : Int32)), (.ref n0_0)]) (lenOf pd_0 rfl) rfl (by show 2 * 0 + _ ≤ _; exact Nat.le_of_eq rfl) (hb hby at_135) (fun _ _ => ⟨rfl, e0, (by show cells + 0 ≤ 16; omega), (by show slots + 0 ≤ 128; omega)⟩)
    dsimp only [Pt.U, Pt.locs, Pt.cells, Pt.slots] at X2 l2 y2 z2 st2 hQ2
    replace y2 := y2.symm; replace z2 := z2.symm; subst l2 y2 z2
    obtain ⟨rfl, N2q, e2⟩ := hQ2
    have N2 := Fr.app N0 N2q
    refine Runs.via (T' := T2) (g' := (mkF m 138 #[.val (.int x0), .val (.int x1), .val (.int x2), .val (.int x3), .val (.int x4), .val (.int x5), .val (.int x6), .val (.ref n0_0), .unset, .unset, .unset, .unset, .unset] [(.int (f1 x3)), (.int (3 : Int32)), (.ref n0_0)])) (fun t k => st2 _ k) ?_
    refine bindE hr ?_; intro v3 hv3 hr
    obtain ⟨T3, h3, X3, e3, W3, A3, st3⟩ := soB X2 hx hZ e2 A_n0_0_0 hv3 (g := (mkF m 138 #[.val (.int x0), .val (.int x1), .val (.int x2), .val (.int x3), .val (.int x4), .val (.int x5), .val (.int x6), .val (.ref n0_0), .unset, .unset, .unset, .unset, .unset] [(.int (f1 x3)), (.int (3 : Int32)), (.ref n0_0)])) rfl rfl (hb hby at_138)
    have A_n0_0_3 : AI Z h3 n0_0 .byte v3 := A3
    have N3 := Fr.snoc X3 N2 (by omega : n0 ≤ n0_0)
    have zz3 : n0 ≤ h3.size := Nat.le_trans Z1 (Keep.of_wr W3).1
    refine Runs.via (T' := T3) (g' := (mkF m 139 #[.val (.int x0), .val (.int x1), .val (.int x2), .val (.int x3), .val (.int x4), .val (.int x5), .val (.int x6), .val (.ref n0_0), .unset, .unset, .unset, .unset, .unset] [])) (fun t k => st3 _ k) ?_
    exact b0_139 C fuel X3 e3 N3 (by show (cells + 0) ≤ 1; omega) (by show (slots + 0) ≤ 5; omega) zz3 n0_0 (by omega) v3 x0 x1 x2 x3 x4 x5 x6 A_n0_0_3 hr
  · refine Runs.via (T' := T0) (g' := (mkF m 139 #[.val (.int x0), .val (.int x1), .val (.int x2), .val (.int x3), .val (.int x4), .val (.int x5), .val (.int x6), .val (.ref n0_0), .unset, .unset, .unset, .unset, .unset] [])) (fun t k => ?_) ?_
    · show Steps p.tables e below (T0.setTop (mkF m 128 #[.val (.int x0), .val (.int x1), .val (.int x2), .val (.int x3), .val (.int x4), .val (.int x5), .val (.int x6), .val (.ref n0_0), .unset, .unset, .unset, .unset, .unset] [(.int (3 : Int32)), (.int x6)])) t
      exact XS.icmpYes X0.here hx rfl (pc0 := 128) (pc' := 139) rfl (hb hby at_128) rfl (flt hc1).2.2.2 (by decide) (by decide) k
    exact b0_139 C fuel X0 e0 N0 (by show cells ≤ 1; omega) (by show slots ≤ 5; omega) Z1 n0_0 (by omega) q_n0_0 x0 x1 x2 x3 x4 x5 x6 A_n0_0_0 hr
def g0_111 (fuel : Nat) (x2 : Int32) (x3 : Int32) (x4 : Int32) (x6 : Int32) (q_n0_0 : List Int32) : Option (Int32) := (if (2 : Int32) < x6 then ((wrO q_n0_0 (2 : Int32) ((f1 x2).toInt8.toInt32)).bind fun v3 => (g0_125 fuel x3 x4 x6 v3)) else (g0_125 fuel x3 x4 x6 q_n0_0))
set_option maxRecDepth 65536 in
set_option maxHeartbeats 4000000 in
theorem b0_111 {r : Int32} (C : Ctx p s m meth c Z a0 "com/example/braid/braid/BodyLinesNextNotBlankPinLaw" code 13 (some .boolean) "law") (fuel : Nat) (X0 : Stand p l e room_1 s m args below meth c T0 locs cells slots) (e0 : T0.heap = h0) (N0 : Fr n0 locs) (hk : cells ≤ 1) (hn : slots ≤ 5) (Z1 : n0 ≤ h0.size) (n0_0 : Addr) (o0 : n0 ≤ n0_0) (q_n0_0 : List Int32) (x0 : Int32) (x1 : Int32) (x2 : Int32) (x3 : Int32) (x4 : Int32) (x5 : Int32) (x6 : Int32) (A_n0_0_0 : AI Z h0 n0_0 .byte q_n0_0) (hr : g0_111 fuel x2 x3 x4 x6 q_n0_0 = some r) :
    Runs p e below s (P0 n0 r) 2 9 T0 (mkF m 111 #[.val (.int x0), .val (.int x1), .val (.int x2), .val (.int x3), .val (.int x4), .val (.int x5), .val (.int x6), .val (.ref n0_0), .unset, .unset, .unset, .unset, .unset] []) := by
  unfold g0_111 at hr
  have ⟨hx, hZ, hw, hby, hml, hown, hret, hlk, hnm⟩ := C
  refine Runs.via (T' := T0) (g' := (mkF m 114 #[.val (.int x0), .val (.int x1), .val (.int x2), .val (.int x3), .val (.int x4), .val (.int x5), .val (.int x6), .val (.ref n0_0), .unset, .unset, .unset, .unset, .unset] [(.int (2 : Int32)), (.int x6)])) (fun t k => ?_) ?_
  · show Steps p.tables e below (T0.setTop (mkF m 111 #[.val (.int x0), .val (.int x1), .val (.int x2), .val (.int x3), .val (.int x4), .val (.int x5), .val (.int x6), .val (.ref n0_0), .unset, .unset, .unset, .unset, .unset] [])) t
    refine XS.iload X0.here hx rfl (hb hby at_111) rfl ?_
    show Steps p.tables e below (T0.setTop (mkF m 113 #[.val (.int x0), .val (.int x1), .val (.int x2), .val (.int x3), .val (.int x4), .val (.int x5), .val (.int x6), .val (.ref n0_0), .unset, .unset, .unset, .unset, .unset] [(.int x6)])) t
    refine XS.iconst X0.here hx rfl (hb hby at_113) ?_
    exact k
  refine iteE hr (fun hc1 hr => ?_) (fun hc1 hr => ?_)
  · refine Runs.via (T' := T0) (g' := (mkF m 117 #[.val (.int x0), .val (.int x1), .val (.int x2), .val (.int x3), .val (.int x4), .val (.int x5), .val (.int x6), .val (.ref n0_0), .unset, .unset, .unset, .unset, .unset] [])) (fun t k => ?_) ?_
    · show Steps p.tables e below (T0.setTop (mkF m 114 #[.val (.int x0), .val (.int x1), .val (.int x2), .val (.int x3), .val (.int x4), .val (.int x5), .val (.int x6), .val (.ref n0_0), .unset, .unset, .unset, .unset, .unset] [(.int (2 : Int32)), (.int x6)])) t
      exact XS.icmpNo X0.here hx rfl (hb hby at_114) rfl (tlt hc1).2.2.2 k
    refine Runs.via (T' := T0) (g' := (mkF m 121 #[.val (.int x0), .val (.int x1), .val (.int x2), .val (.int x3), .val (.int x4), .val (.int x5), .val (.int x6), .val (.ref n0_0), .unset, .unset, .unset, .unset, .unset] [(.int x2), (.int (2 : Int32)), (.ref n0_0)])) (fun t k => ?_) ?_
    · show Steps p.tables e below (T0.setTop (mkF m 117 #[.val (.int x0), .val (.int x1), .val (.int x2), .val (.int x3), .val (.int x4), .val (.int x5), .val (.int x6), .val (.ref n0_0), .unset, .unset, .unset, .unset, .unset] [])) t
      refine XS.aload X0.here hx rfl (hb hby at_117) rfl rfl ?_
      show Steps p.tables e below (T0.setTop (mkF m 119 #[.val (.int x0), .val (.int x1), .val (.int x2), .val (.int x3), .val (.int x4), .val (.int x5), .val (.int x6), .val (.ref n0_0), .unset, .unset, .unset, .unset, .unset] [(.ref n0_0)])) t
      refine XS.iconst X0.here hx rfl (hb hby at_119) ?_
      show Steps p.tables e below (T0.setTop (mkF m 120 #[.val (.int x0), .val (.int x1), .val (.int x2), .val (.int x3), .val (.int x4), .val (.int x5), .val (.int x6), .val (.ref n0_0), .unset, .unset, .unset, .unset, .unset] [(.int (2 : Int32)), (.ref n0_0)])) t
      refine XS.iloadN X0.here hx rfl (hb hby at_120) rfl ?_
      exact k
    obtain ⟨_, _, ⟨T2, L2, k2, n2⟩, -, X2, ⟨Lc2, hQ2, l2, y2, z2⟩, st2⟩ := Jvm.LawKit.callS X0 hx (y := (⟨"com/example/braid/braid/BodyLinesNextNotBlankPinLaw", "draw", "(I)B"⟩ : MethodName)) hown (mvT hZ (hw _ (List.mem_of_getElem? (i := 2) rfl))) (mvT hZ (hw _ (List.mem_of_getElem? (i := 3) rfl))) (mvT hZ (hw _ (List.mem_of_getElem? (i := 4) rfl))) (mvT hZ (hw _ (List.mem_of_getElem? (i := 5) rfl))) (by decide) (backOf (W := 2) (rm1 l Z a0 hw [] x2 h0 n0) hZ (hw _ (List.mem_of_getElem? (i := 5) rfl)) (hw _ (List.mem_of_getElem? (i := 4) rfl)) (by decide) (by decide)) (g := (mkF m 121 #[.val (.int x0), .val (.int x1), .val (.int x2), .val (.int x3), .val (.int x4), .val (.int x5), .val (.int x6), .val (.ref n0_0), .unset, .unset, .unset, .unset, .unset] [(.int x2), (.int (2 : Int32)), (.ref n0_0)])) rfl (by rw [hml]; rfl) (argsL := [(.int x2)]) (rest := [(.int (2 : Int32)), (.ref n0_0)]) (lenOf pd_0 rfl) rfl (by show 2 * 0 + _ ≤ _; exact Nat.le_of_eq rfl) (hb hby at_121) (fun _ _ => ⟨rfl, e0, (by show cells + 0 ≤ 16; omega), (by show slots + 0 ≤ 128; omega)⟩)
    dsimp only [Pt.U, Pt.locs, Pt.cells, Pt.slots] at X2 l2 y2 z2 st2 hQ2
    replace y2 := y2.symm; replace z2 := z2.symm; subst l2 y2 z2
    obtain ⟨rfl, N2q, e2⟩ := hQ2
    have N2 := Fr.app N0 N2q
    refine Runs.via (T' := T2) (g' := (mkF m 124 #[.val (.int x0), .val (.int x1), .val (.int x2), .val (.int x3), .val (.int x4), .val (.int x5), .val (.int x6), .val (.ref n0_0), .unset, .unset, .unset, .unset, .unset] [(.int (f1 x2)), (.int (2 : Int32)), (.ref n0_0)])) (fun t k => st2 _ k) ?_
    refine bindE hr ?_; intro v3 hv3 hr
    obtain ⟨T3, h3, X3, e3, W3, A3, st3⟩ := soB X2 hx hZ e2 A_n0_0_0 hv3 (g := (mkF m 124 #[.val (.int x0), .val (.int x1), .val (.int x2), .val (.int x3), .val (.int x4), .val (.int x5), .val (.int x6), .val (.ref n0_0), .unset, .unset, .unset, .unset, .unset] [(.int (f1 x2)), (.int (2 : Int32)), (.ref n0_0)])) rfl rfl (hb hby at_124)
    have A_n0_0_3 : AI Z h3 n0_0 .byte v3 := A3
    have N3 := Fr.snoc X3 N2 (by omega : n0 ≤ n0_0)
    have zz3 : n0 ≤ h3.size := Nat.le_trans Z1 (Keep.of_wr W3).1
    refine Runs.via (T' := T3) (g' := (mkF m 125 #[.val (.int x0), .val (.int x1), .val (.int x2), .val (.int x3), .val (.int x4), .val (.int x5), .val (.int x6), .val (.ref n0_0), .unset, .unset, .unset, .unset, .unset] [])) (fun t k => st3 _ k) ?_
    exact b0_125 C fuel X3 e3 N3 (by show (cells + 0) ≤ 1; omega) (by show (slots + 0) ≤ 5; omega) zz3 n0_0 (by omega) v3 x0 x1 x2 x3 x4 x5 x6 A_n0_0_3 hr
  · refine Runs.via (T' := T0) (g' := (mkF m 125 #[.val (.int x0), .val (.int x1), .val (.int x2), .val (.int x3), .val (.int x4), .val (.int x5), .val (.int x6), .val (.ref n0_0), .unset, .unset, .unset, .unset, .unset] [])) (fun t k => ?_) ?_
    · show Steps p.tables e below (T0.setTop (mkF m 114 #[.val (.int x0), .val (.int x1), .val (.int x2), .val (.int x3), .val (.int x4), .val (.int x5), .val (.int x6), .val (.ref n0_0), .unset, .unset, .unset, .unset, .unset] [(.int (2 : Int32)), (.int x6)])) t
      exact XS.icmpYes X0.here hx rfl (pc0 := 114) (pc' := 125) rfl (hb hby at_114) rfl (flt hc1).2.2.2 (by decide) (by decide) k
    exact b0_125 C fuel X0 e0 N0 (by show cells ≤ 1; omega) (by show slots ≤ 5; omega) Z1 n0_0 (by omega) q_n0_0 x0 x1 x2 x3 x4 x5 x6 A_n0_0_0 hr
def g0_97 (fuel : Nat) (x1 : Int32) (x2 : Int32) (x3 : Int32) (x4 : Int32) (x6 : Int32) (q_n0_0 : List Int32) : Option (Int32) := (if (1 : Int32) < x6 then ((wrO q_n0_0 (1 : Int32) ((f1 x1).toInt8.toInt32)).bind fun v3 => (g0_111 fuel x2 x3 x4 x6 v3)) else (g0_111 fuel x2 x3 x4 x6 q_n0_0))
set_option maxRecDepth 65536 in
set_option maxHeartbeats 4000000 in
theorem b0_97 {r : Int32} (C : Ctx p s m meth c Z a0 "com/example/braid/braid/BodyLinesNextNotBlankPinLaw" code 13 (some .boolean) "law") (fuel : Nat) (X0 : Stand p l e room_1 s m args below meth c T0 locs cells slots) (e0 : T0.heap = h0) (N0 : Fr n0 locs) (hk : cells ≤ 1) (hn : slots ≤ 5) (Z1 : n0 ≤ h0.size) (n0_0 : Addr) (o0 : n0 ≤ n0_0) (q_n0_0 : List Int32) (x0 : Int32) (x1 : Int32) (x2 : Int32) (x3 : Int32) (x4 : Int32) (x5 : Int32) (x6 : Int32) (A_n0_0_0 : AI Z h0 n0_0 .byte q_n0_0) (hr : g0_97 fuel x1 x2 x3 x4 x6 q_n0_0 = some r) :
    Runs p e below s (P0 n0 r) 2 9 T0 (mkF m 97 #[.val (.int x0), .val (.int x1), .val (.int x2), .val (.int x3), .val (.int x4), .val (.int x5), .val (.int x6), .val (.ref n0_0), .unset, .unset, .unset, .unset, .unset] []) := by
  unfold g0_97 at hr
  have ⟨hx, hZ, hw, hby, hml, hown, hret, hlk, hnm⟩ := C
  refine Runs.via (T' := T0) (g' := (mkF m 100 #[.val (.int x0), .val (.int x1), .val (.int x2), .val (.int x3), .val (.int x4), .val (.int x5), .val (.int x6), .val (.ref n0_0), .unset, .unset, .unset, .unset, .unset] [(.int (1 : Int32)), (.int x6)])) (fun t k => ?_) ?_
  · show Steps p.tables e below (T0.setTop (mkF m 97 #[.val (.int x0), .val (.int x1), .val (.int x2), .val (.int x3), .val (.int x4), .val (.int x5), .val (.int x6), .val (.ref n0_0), .unset, .unset, .unset, .unset, .unset] [])) t
    refine XS.iload X0.here hx rfl (hb hby at_97) rfl ?_
    show Steps p.tables e below (T0.setTop (mkF m 99 #[.val (.int x0), .val (.int x1), .val (.int x2), .val (.int x3), .val (.int x4), .val (.int x5), .val (.int x6), .val (.ref n0_0), .unset, .unset, .unset, .unset, .unset] [(.int x6)])) t
    refine XS.iconst X0.here hx rfl (hb hby at_99) ?_
    exact k
  refine iteE hr (fun hc1 hr => ?_) (fun hc1 hr => ?_)
  · refine Runs.via (T' := T0) (g' := (mkF m 103 #[.val (.int x0), .val (.int x1), .val (.int x2), .val (.int x3), .val (.int x4), .val (.int x5), .val (.int x6), .val (.ref n0_0), .unset, .unset, .unset, .unset, .unset] [])) (fun t k => ?_) ?_
    · show Steps p.tables e below (T0.setTop (mkF m 100 #[.val (.int x0), .val (.int x1), .val (.int x2), .val (.int x3), .val (.int x4), .val (.int x5), .val (.int x6), .val (.ref n0_0), .unset, .unset, .unset, .unset, .unset] [(.int (1 : Int32)), (.int x6)])) t
      exact XS.icmpNo X0.here hx rfl (hb hby at_100) rfl (tlt hc1).2.2.2 k
    refine Runs.via (T' := T0) (g' := (mkF m 107 #[.val (.int x0), .val (.int x1), .val (.int x2), .val (.int x3), .val (.int x4), .val (.int x5), .val (.int x6), .val (.ref n0_0), .unset, .unset, .unset, .unset, .unset] [(.int x1), (.int (1 : Int32)), (.ref n0_0)])) (fun t k => ?_) ?_
    · show Steps p.tables e below (T0.setTop (mkF m 103 #[.val (.int x0), .val (.int x1), .val (.int x2), .val (.int x3), .val (.int x4), .val (.int x5), .val (.int x6), .val (.ref n0_0), .unset, .unset, .unset, .unset, .unset] [])) t
      refine XS.aload X0.here hx rfl (hb hby at_103) rfl rfl ?_
      show Steps p.tables e below (T0.setTop (mkF m 105 #[.val (.int x0), .val (.int x1), .val (.int x2), .val (.int x3), .val (.int x4), .val (.int x5), .val (.int x6), .val (.ref n0_0), .unset, .unset, .unset, .unset, .unset] [(.ref n0_0)])) t
      refine XS.iconst X0.here hx rfl (hb hby at_105) ?_
      show Steps p.tables e below (T0.setTop (mkF m 106 #[.val (.int x0), .val (.int x1), .val (.int x2), .val (.int x3), .val (.int x4), .val (.int x5), .val (.int x6), .val (.ref n0_0), .unset, .unset, .unset, .unset, .unset] [(.int (1 : Int32)), (.ref n0_0)])) t
      refine XS.iloadN X0.here hx rfl (hb hby at_106) rfl ?_
      exact k
    obtain ⟨_, _, ⟨T2, L2, k2, n2⟩, -, X2, ⟨Lc2, hQ2, l2, y2, z2⟩, st2⟩ := Jvm.LawKit.callS X0 hx (y := (⟨"com/example/braid/braid/BodyLinesNextNotBlankPinLaw", "draw", "(I)B"⟩ : MethodName)) hown (mvT hZ (hw _ (List.mem_of_getElem? (i := 2) rfl))) (mvT hZ (hw _ (List.mem_of_getElem? (i := 3) rfl))) (mvT hZ (hw _ (List.mem_of_getElem? (i := 4) rfl))) (mvT hZ (hw _ (List.mem_of_getElem? (i := 5) rfl))) (by decide) (backOf (W := 2) (rm1 l Z a0 hw [] x1 h0 n0) hZ (hw _ (List.mem_of_getElem? (i := 5) rfl)) (hw _ (List.mem_of_getElem? (i := 4) rfl)) (by decide) (by decide)) (g := (mkF m 107 #[.val (.int x0), .val (.int x1), .val (.int x2), .val (.int x3), .val (.int x4), .val (.int x5), .val (.int x6), .val (.ref n0_0), .unset, .unset, .unset, .unset, .unset] [(.int x1), (.int (1 : Int32)), (.ref n0_0)])) rfl (by rw [hml]; rfl) (argsL := [(.int x1)]) (rest := [(.int (1 : Int32)), (.ref n0_0)]) (lenOf pd_0 rfl) rfl (by show 2 * 0 + _ ≤ _; exact Nat.le_of_eq rfl) (hb hby at_107) (fun _ _ => ⟨rfl, e0, (by show cells + 0 ≤ 16; omega), (by show slots + 0 ≤ 128; omega)⟩)
    dsimp only [Pt.U, Pt.locs, Pt.cells, Pt.slots] at X2 l2 y2 z2 st2 hQ2
    replace y2 := y2.symm; replace z2 := z2.symm; subst l2 y2 z2
    obtain ⟨rfl, N2q, e2⟩ := hQ2
    have N2 := Fr.app N0 N2q
    refine Runs.via (T' := T2) (g' := (mkF m 110 #[.val (.int x0), .val (.int x1), .val (.int x2), .val (.int x3), .val (.int x4), .val (.int x5), .val (.int x6), .val (.ref n0_0), .unset, .unset, .unset, .unset, .unset] [(.int (f1 x1)), (.int (1 : Int32)), (.ref n0_0)])) (fun t k => st2 _ k) ?_
    refine bindE hr ?_; intro v3 hv3 hr
    obtain ⟨T3, h3, X3, e3, W3, A3, st3⟩ := soB X2 hx hZ e2 A_n0_0_0 hv3 (g := (mkF m 110 #[.val (.int x0), .val (.int x1), .val (.int x2), .val (.int x3), .val (.int x4), .val (.int x5), .val (.int x6), .val (.ref n0_0), .unset, .unset, .unset, .unset, .unset] [(.int (f1 x1)), (.int (1 : Int32)), (.ref n0_0)])) rfl rfl (hb hby at_110)
    have A_n0_0_3 : AI Z h3 n0_0 .byte v3 := A3
    have N3 := Fr.snoc X3 N2 (by omega : n0 ≤ n0_0)
    have zz3 : n0 ≤ h3.size := Nat.le_trans Z1 (Keep.of_wr W3).1
    refine Runs.via (T' := T3) (g' := (mkF m 111 #[.val (.int x0), .val (.int x1), .val (.int x2), .val (.int x3), .val (.int x4), .val (.int x5), .val (.int x6), .val (.ref n0_0), .unset, .unset, .unset, .unset, .unset] [])) (fun t k => st3 _ k) ?_
    exact b0_111 C fuel X3 e3 N3 (by show (cells + 0) ≤ 1; omega) (by show (slots + 0) ≤ 5; omega) zz3 n0_0 (by omega) v3 x0 x1 x2 x3 x4 x5 x6 A_n0_0_3 hr
  · refine Runs.via (T' := T0) (g' := (mkF m 111 #[.val (.int x0), .val (.int x1), .val (.int x2), .val (.int x3), .val (.int x4), .val (.int x5), .val (.int x6), .val (.ref n0_0), .unset, .unset, .unset, .unset, .unset] [])) (fun t k => ?_) ?_
    · show Steps p.tables e below (T0.setTop (mkF m 100 #[.val (.int x0), .val (.int x1), .val (.int x2), .val (.int x3), .val (.int x4), .val (.int x5), .val (.int x6), .val (.ref n0_0), .unset, .unset, .unset, .unset, .unset] [(.int (1 : Int32)), (.int x6)])) t
      exact XS.icmpYes X0.here hx rfl (pc0 := 100) (pc' := 111) rfl (hb hby at_100) rfl (flt hc1).2.2.2 (by decide) (by decide) k
    exact b0_111 C fuel X0 e0 N0 (by show cells ≤ 1; omega) (by show slots ≤ 5; omega) Z1 n0_0 (by omega) q_n0_0 x0 x1 x2 x3 x4 x5 x6 A_n0_0_0 hr
def g0_84 (fuel : Nat) (x0 : Int32) (x1 : Int32) (x2 : Int32) (x3 : Int32) (x4 : Int32) (x6 : Int32) (q_n0_0 : List Int32) : Option (Int32) := (if (0 : Int32) < x6 then ((wrO q_n0_0 (0 : Int32) ((f1 x0).toInt8.toInt32)).bind fun v3 => (g0_97 fuel x1 x2 x3 x4 x6 v3)) else (g0_97 fuel x1 x2 x3 x4 x6 q_n0_0))
set_option maxRecDepth 65536 in
set_option maxHeartbeats 4000000 in
theorem b0_84 {r : Int32} (C : Ctx p s m meth c Z a0 "com/example/braid/braid/BodyLinesNextNotBlankPinLaw" code 13 (some .boolean) "law") (fuel : Nat) (X0 : Stand p l e room_1 s m args below meth c T0 locs cells slots) (e0 : T0.heap = h0) (N0 : Fr n0 locs) (hk : cells ≤ 1) (hn : slots ≤ 5) (Z1 : n0 ≤ h0.size) (n0_0 : Addr) (o0 : n0 ≤ n0_0) (q_n0_0 : List Int32) (x0 : Int32) (x1 : Int32) (x2 : Int32) (x3 : Int32) (x4 : Int32) (x5 : Int32) (x6 : Int32) (A_n0_0_0 : AI Z h0 n0_0 .byte q_n0_0) (hr : g0_84 fuel x0 x1 x2 x3 x4 x6 q_n0_0 = some r) :
    Runs p e below s (P0 n0 r) 2 9 T0 (mkF m 84 #[.val (.int x0), .val (.int x1), .val (.int x2), .val (.int x3), .val (.int x4), .val (.int x5), .val (.int x6), .val (.ref n0_0), .unset, .unset, .unset, .unset, .unset] []) := by
  unfold g0_84 at hr
  have ⟨hx, hZ, hw, hby, hml, hown, hret, hlk, hnm⟩ := C
  refine Runs.via (T' := T0) (g' := (mkF m 86 #[.val (.int x0), .val (.int x1), .val (.int x2), .val (.int x3), .val (.int x4), .val (.int x5), .val (.int x6), .val (.ref n0_0), .unset, .unset, .unset, .unset, .unset] [(.int x6)])) (fun t k => ?_) ?_
  · show Steps p.tables e below (T0.setTop (mkF m 84 #[.val (.int x0), .val (.int x1), .val (.int x2), .val (.int x3), .val (.int x4), .val (.int x5), .val (.int x6), .val (.ref n0_0), .unset, .unset, .unset, .unset, .unset] [])) t
    refine XS.iload X0.here hx rfl (hb hby at_84) rfl ?_
    exact k
  refine iteE hr (fun hc1 hr => ?_) (fun hc1 hr => ?_)
  · refine Runs.via (T' := T0) (g' := (mkF m 89 #[.val (.int x0), .val (.int x1), .val (.int x2), .val (.int x3), .val (.int x4), .val (.int x5), .val (.int x6), .val (.ref n0_0), .unset, .unset, .unset, .unset, .unset] [])) (fun t k => ?_) ?_
    · show Steps p.tables e below (T0.setTop (mkF m 86 #[.val (.int x0), .val (.int x1), .val (.int x2), .val (.int x3), .val (.int x4), .val (.int x5), .val (.int x6), .val (.ref n0_0), .unset, .unset, .unset, .unset, .unset] [(.int x6)])) t
      exact XS.ifNo X0.here hx rfl (hb hby at_86) rfl ((if0 _ _).trans (tlt hc1).2.2.2) k
    refine Runs.via (T' := T0) (g' := (mkF m 93 #[.val (.int x0), .val (.int x1), .val (.int x2), .val (.int x3), .val (.int x4), .val (.int x5), .val (.int x6), .val (.ref n0_0), .unset, .unset, .unset, .unset, .unset] [(.int x0), (.int (0 : Int32)), (.ref n0_0)])) (fun t k => ?_) ?_
    · show Steps p.tables e below (T0.setTop (mkF m 89 #[.val (.int x0), .val (.int x1), .val (.int x2), .val (.int x3), .val (.int x4), .val (.int x5), .val (.int x6), .val (.ref n0_0), .unset, .unset, .unset, .unset, .unset] [])) t
      refine XS.aload X0.here hx rfl (hb hby at_89) rfl rfl ?_
      show Steps p.tables e below (T0.setTop (mkF m 91 #[.val (.int x0), .val (.int x1), .val (.int x2), .val (.int x3), .val (.int x4), .val (.int x5), .val (.int x6), .val (.ref n0_0), .unset, .unset, .unset, .unset, .unset] [(.ref n0_0)])) t
      refine XS.iconst X0.here hx rfl (hb hby at_91) ?_
      show Steps p.tables e below (T0.setTop (mkF m 92 #[.val (.int x0), .val (.int x1), .val (.int x2), .val (.int x3), .val (.int x4), .val (.int x5), .val (.int x6), .val (.ref n0_0), .unset, .unset, .unset, .unset, .unset] [(.int (0 : Int32)), (.ref n0_0)])) t
      refine XS.iloadN X0.here hx rfl (hb hby at_92) rfl ?_
      exact k
    obtain ⟨_, _, ⟨T2, L2, k2, n2⟩, -, X2, ⟨Lc2, hQ2, l2, y2, z2⟩, st2⟩ := Jvm.LawKit.callS X0 hx (y := (⟨"com/example/braid/braid/BodyLinesNextNotBlankPinLaw", "draw", "(I)B"⟩ : MethodName)) hown (mvT hZ (hw _ (List.mem_of_getElem? (i := 2) rfl))) (mvT hZ (hw _ (List.mem_of_getElem? (i := 3) rfl))) (mvT hZ (hw _ (List.mem_of_getElem? (i := 4) rfl))) (mvT hZ (hw _ (List.mem_of_getElem? (i := 5) rfl))) (by decide) (backOf (W := 2) (rm1 l Z a0 hw [] x0 h0 n0) hZ (hw _ (List.mem_of_getElem? (i := 5) rfl)) (hw _ (List.mem_of_getElem? (i := 4) rfl)) (by decide) (by decide)) (g := (mkF m 93 #[.val (.int x0), .val (.int x1), .val (.int x2), .val (.int x3), .val (.int x4), .val (.int x5), .val (.int x6), .val (.ref n0_0), .unset, .unset, .unset, .unset, .unset] [(.int x0), (.int (0 : Int32)), (.ref n0_0)])) rfl (by rw [hml]; rfl) (argsL := [(.int x0)]) (rest := [(.int (0 : Int32)), (.ref n0_0)]) (lenOf pd_0 rfl) rfl (by show 2 * 0 + _ ≤ _; exact Nat.le_of_eq rfl) (hb hby at_93) (fun _ _ => ⟨rfl, e0, (by show cells + 0 ≤ 16; omega), (by show slots + 0 ≤ 128; omega)⟩)
    dsimp only [Pt.U, Pt.locs, Pt.cells, Pt.slots] at X2 l2 y2 z2 st2 hQ2
    replace y2 := y2.symm; replace z2 := z2.symm; subst l2 y2 z2
    obtain ⟨rfl, N2q, e2⟩ := hQ2
    have N2 := Fr.app N0 N2q
    refine Runs.via (T' := T2) (g' := (mkF m 96 #[.val (.int x0), .val (.int x1), .val (.int x2), .val (.int x3), .val (.int x4), .val (.int x5), .val (.int x6), .val (.ref n0_0), .unset, .unset, .unset, .unset, .unset] [(.int (f1 x0)), (.int (0 : Int32)), (.ref n0_0)])) (fun t k => st2 _ k) ?_
    refine bindE hr ?_; intro v3 hv3 hr
    obtain ⟨T3, h3, X3, e3, W3, A3, st3⟩ := soB X2 hx hZ e2 A_n0_0_0 hv3 (g := (mkF m 96 #[.val (.int x0), .val (.int x1), .val (.int x2), .val (.int x3), .val (.int x4), .val (.int x5), .val (.int x6), .val (.ref n0_0), .unset, .unset, .unset, .unset, .unset] [(.int (f1 x0)), (.int (0 : Int32)), (.ref n0_0)])) rfl rfl (hb hby at_96)
    have A_n0_0_3 : AI Z h3 n0_0 .byte v3 := A3
    have N3 := Fr.snoc X3 N2 (by omega : n0 ≤ n0_0)
    have zz3 : n0 ≤ h3.size := Nat.le_trans Z1 (Keep.of_wr W3).1
    refine Runs.via (T' := T3) (g' := (mkF m 97 #[.val (.int x0), .val (.int x1), .val (.int x2), .val (.int x3), .val (.int x4), .val (.int x5), .val (.int x6), .val (.ref n0_0), .unset, .unset, .unset, .unset, .unset] [])) (fun t k => st3 _ k) ?_
    exact b0_97 C fuel X3 e3 N3 (by show (cells + 0) ≤ 1; omega) (by show (slots + 0) ≤ 5; omega) zz3 n0_0 (by omega) v3 x0 x1 x2 x3 x4 x5 x6 A_n0_0_3 hr
  · refine Runs.via (T' := T0) (g' := (mkF m 97 #[.val (.int x0), .val (.int x1), .val (.int x2), .val (.int x3), .val (.int x4), .val (.int x5), .val (.int x6), .val (.ref n0_0), .unset, .unset, .unset, .unset, .unset] [])) (fun t k => ?_) ?_
    · show Steps p.tables e below (T0.setTop (mkF m 86 #[.val (.int x0), .val (.int x1), .val (.int x2), .val (.int x3), .val (.int x4), .val (.int x5), .val (.int x6), .val (.ref n0_0), .unset, .unset, .unset, .unset, .unset] [(.int x6)])) t
      exact XS.ifYes X0.here hx rfl (pc0 := 86) (pc' := 97) rfl (hb hby at_86) rfl ((if0 _ _).trans (flt hc1).2.2.2) (by decide) (by decide) k
    exact b0_97 C fuel X0 e0 N0 (by show cells ≤ 1; omega) (by show slots ≤ 5; omega) Z1 n0_0 (by omega) q_n0_0 x0 x1 x2 x3 x4 x5 x6 A_n0_0_0 hr
def g0_0 (fuel : Nat) (x0 : Int32) (x1 : Int32) (x2 : Int32) (x3 : Int32) (x4 : Int32) (x5 : Int32) : Option (Int32) := (letO ((x5 &&& (2147483647 : Int32)) - ((x5 &&& (2147483647 : Int32)) / (6 : Int32)) * (6 : Int32)) fun v1 => (if v1 = (0 : Int32) then ((mkO (0 : Int32) 0).bind fun v3 => (g0_84 fuel x0 x1 x2 x3 x4 v1 v3)) else (if v1 = (1 : Int32) then ((mkO (1 : Int32) 1).bind fun v5 => (g0_84 fuel x0 x1 x2 x3 x4 v1 v5)) else (if v1 = (2 : Int32) then ((mkO (2 : Int32) 2).bind fun v7 => (g0_84 fuel x0 x1 x2 x3 x4 v1 v7)) else (if v1 = (3 : Int32) then ((mkO (3 : Int32) 3).bind fun v9 => (g0_84 fuel x0 x1 x2 x3 x4 v1 v9)) else (if v1 = (4 : Int32) then ((mkO (4 : Int32) 4).bind fun v11 => (g0_84 fuel x0 x1 x2 x3 x4 v1 v11)) else ((mkO (5 : Int32) 5).bind fun v12 => (g0_84 fuel x0 x1 x2 x3 x4 v1 v12))))))))
set_option maxRecDepth 65536 in
set_option maxHeartbeats 4000000 in
theorem b0_0 {r : Int32} (C : Ctx p s m meth c Z a0 "com/example/braid/braid/BodyLinesNextNotBlankPinLaw" code 13 (some .boolean) "law") (fuel : Nat) (X0 : Stand p l e room_1 s m args below meth c T0 locs cells slots) (e0 : T0.heap = h0) (N0 : Fr n0 locs) (hk : cells ≤ 0) (hn : slots ≤ 0) (Z1 : n0 ≤ h0.size) (x0 : Int32) (x1 : Int32) (x2 : Int32) (x3 : Int32) (x4 : Int32) (x5 : Int32) (hr : g0_0 fuel x0 x1 x2 x3 x4 x5 = some r) :
    Runs p e below s (P0 n0 r) 2 9 T0 (mkF m 0 #[.val (.int x0), .val (.int x1), .val (.int x2), .val (.int x3), .val (.int x4), .val (.int x5), .unset, .unset, .unset, .unset, .unset, .unset, .unset] []) := by
  unfold g0_0 at hr
  have ⟨hx, hZ, hw, hby, hml, hown, hret, hlk, hnm⟩ := C
  refine Runs.via (T' := T0) (g' := (mkF m 8 #[.val (.int x0), .val (.int x1), .val (.int x2), .val (.int x3), .val (.int x4), .val (.int x5), .unset, .unset, .unset, .unset, .unset, .unset, .unset] [(.int ((x5 &&& (2147483647 : Int32)) - ((x5 &&& (2147483647 : Int32)) / (6 : Int32)) * (6 : Int32)))])) (fun t k => ?_) ?_
  · show Steps p.tables e below (T0.setTop (mkF m 0 #[.val (.int x0), .val (.int x1), .val (.int x2), .val (.int x3), .val (.int x4), .val (.int x5), .unset, .unset, .unset, .unset, .unset, .unset, .unset] [])) t
    refine XS.iload X0.here hx rfl (hb hby at_0) rfl ?_
    show Steps p.tables e below (T0.setTop (mkF m 2 #[.val (.int x0), .val (.int x1), .val (.int x2), .val (.int x3), .val (.int x4), .val (.int x5), .unset, .unset, .unset, .unset, .unset, .unset, .unset] [(.int x5)])) t
    refine X0.ldcInt hx hown (mvT hZ (hw _ (List.mem_of_getElem? (i := 0) rfl))) (g := (mkF m 2 #[.val (.int x0), .val (.int x1), .val (.int x2), .val (.int x3), .val (.int x4), .val (.int x5), .unset, .unset, .unset, .unset, .unset, .unset, .unset] [(.int x5)])) rfl (hb hby at_2) _ ?_
    show Steps p.tables e below (T0.setTop (mkF m 4 #[.val (.int x0), .val (.int x1), .val (.int x2), .val (.int x3), .val (.int x4), .val (.int x5), .unset, .unset, .unset, .unset, .unset, .unset, .unset] [(.int (2147483647 : Int32)), (.int x5)])) t
    refine XS.iand X0.here hx rfl (hb hby at_4) rfl ?_
    show Steps p.tables e below (T0.setTop (mkF m 5 #[.val (.int x0), .val (.int x1), .val (.int x2), .val (.int x3), .val (.int x4), .val (.int x5), .unset, .unset, .unset, .unset, .unset, .unset, .unset] [(.int (x5 &&& (2147483647 : Int32)))])) t
    refine XS.bipush X0.here hx rfl (hb hby at_5) ?_
    show Steps p.tables e below (T0.setTop (mkF m 7 #[.val (.int x0), .val (.int x1), .val (.int x2), .val (.int x3), .val (.int x4), .val (.int x5), .unset, .unset, .unset, .unset, .unset, .unset, .unset] [(.int (6 : Int32)), (.int (x5 &&& (2147483647 : Int32)))])) t
    refine XS.irem X0.here hx rfl (hb hby at_7) rfl (by decide) ?_
    exact k
  refine letE hr ?_; intro v1 hv1 hr
  rw [← hv1]
  refine Runs.via (T' := T0) (g' := (mkF m 12 #[.val (.int x0), .val (.int x1), .val (.int x2), .val (.int x3), .val (.int x4), .val (.int x5), .val (.int v1), .unset, .unset, .unset, .unset, .unset, .unset] [(.int v1)])) (fun t k => ?_) ?_
  · show Steps p.tables e below (T0.setTop (mkF m 8 #[.val (.int x0), .val (.int x1), .val (.int x2), .val (.int x3), .val (.int x4), .val (.int x5), .unset, .unset, .unset, .unset, .unset, .unset, .unset] [(.int v1)])) t
    refine XS.istore X0.here hx rfl (hb hby at_8) rfl (l' := #[.val (.int x0), .val (.int x1), .val (.int x2), .val (.int x3), .val (.int x4), .val (.int x5), .val (.int v1), .unset, .unset, .unset, .unset, .unset, .unset]) rfl ?_
    show Steps p.tables e below (T0.setTop (mkF m 10 #[.val (.int x0), .val (.int x1), .val (.int x2), .val (.int x3), .val (.int x4), .val (.int x5), .val (.int v1), .unset, .unset, .unset, .unset, .unset, .unset] [])) t
    refine XS.iload X0.here hx rfl (hb hby at_10) rfl ?_
    exact k
  refine iteE hr (fun hc2 hr => ?_) (fun hc2 hr => ?_)
  · refine Runs.via (T' := T0) (g' := (mkF m 15 #[.val (.int x0), .val (.int x1), .val (.int x2), .val (.int x3), .val (.int x4), .val (.int x5), .val (.int v1), .unset, .unset, .unset, .unset, .unset, .unset] [])) (fun t k => ?_) ?_
    · show Steps p.tables e below (T0.setTop (mkF m 12 #[.val (.int x0), .val (.int x1), .val (.int x2), .val (.int x3), .val (.int x4), .val (.int x5), .val (.int v1), .unset, .unset, .unset, .unset, .unset, .unset] [(.int v1)])) t
      exact XS.ifNo X0.here hx rfl (hb hby at_12) rfl ((if0 _ _).trans (teq hc2).2) k
    refine Runs.via (T' := T0) (g' := (mkF m 16 #[.val (.int x0), .val (.int x1), .val (.int x2), .val (.int x3), .val (.int x4), .val (.int x5), .val (.int v1), .unset, .unset, .unset, .unset, .unset, .unset] [(.int (0 : Int32))])) (fun t k => ?_) ?_
    · show Steps p.tables e below (T0.setTop (mkF m 15 #[.val (.int x0), .val (.int x1), .val (.int x2), .val (.int x3), .val (.int x4), .val (.int x5), .val (.int v1), .unset, .unset, .unset, .unset, .unset, .unset] [])) t
      refine XS.iconst X0.here hx rfl (hb hby at_15) ?_
      exact k
    refine bindE hr ?_; intro v3 hv3 hr
    obtain ⟨T3, h3, X3, e3, E3, A3, st3⟩ := newI X0 hx hZ (aty := .byte) (ty := .byte) rfl rfl (hw _ (List.mem_of_getElem? (i := 1) rfl)) e0 hv3 (g := (mkF m 16 #[.val (.int x0), .val (.int x1), .val (.int x2), .val (.int x3), .val (.int x4), .val (.int x5), .val (.int v1), .unset, .unset, .unset, .unset, .unset, .unset] [(.int (0 : Int32))])) rfl (hb hby at_16) rfl (by decide) (by show cells + 1 ≤ 16; omega) (by show slots + 0 ≤ 128; omega)
    obtain ⟨b16, g3⟩ : ∃ z, z = h0.size := ⟨_, rfl⟩
    rw [← g3] at A3 st3
    have i3 := E3.1
    have zz3 : n0 ≤ h3.size := Nat.le_trans Z1 i3
    have A_b16_3 := A3
    have sb16 : n0 ≤ b16 := by omega
    refine Runs.via (T' := T3) (g' := (mkF m 18 #[.val (.int x0), .val (.int x1), .val (.int x2), .val (.int x3), .val (.int x4), .val (.int x5), .val (.int v1), .unset, .unset, .unset, .unset, .unset, .unset] [(.ref b16)])) (fun t k => st3 _ k) ?_
    refine Runs.via (T' := T3) (g' := (mkF m 84 #[.val (.int x0), .val (.int x1), .val (.int x2), .val (.int x3), .val (.int x4), .val (.int x5), .val (.int v1), .val (.ref b16), .unset, .unset, .unset, .unset, .unset] [])) (fun t k => ?_) ?_
    · show Steps p.tables e below (T3.setTop (mkF m 18 #[.val (.int x0), .val (.int x1), .val (.int x2), .val (.int x3), .val (.int x4), .val (.int x5), .val (.int v1), .unset, .unset, .unset, .unset, .unset, .unset] [(.ref b16)])) t
      refine XS.astore X3.here hx rfl (hb hby at_18) rfl rfl (l' := #[.val (.int x0), .val (.int x1), .val (.int x2), .val (.int x3), .val (.int x4), .val (.int x5), .val (.int v1), .val (.ref b16), .unset, .unset, .unset, .unset, .unset]) rfl ?_
      show Steps p.tables e below (T3.setTop (mkF m 20 #[.val (.int x0), .val (.int x1), .val (.int x2), .val (.int x3), .val (.int x4), .val (.int x5), .val (.int v1), .val (.ref b16), .unset, .unset, .unset, .unset, .unset] [])) t
      refine XS.goto X3.here hx rfl (pc0 := 20) (pc' := 84) rfl (hb hby at_20) (by decide) (by decide) ?_
      exact k
    exact b0_84 C fuel X3 e3 N0 (by show (cells + 1) ≤ 1; omega) (by show (slots + 0) ≤ 5; omega) zz3 b16 (by omega) v3 x0 x1 x2 x3 x4 x5 v1 A_b16_3 hr
  · refine Runs.via (T' := T0) (g' := (mkF m 23 #[.val (.int x0), .val (.int x1), .val (.int x2), .val (.int x3), .val (.int x4), .val (.int x5), .val (.int v1), .unset, .unset, .unset, .unset, .unset, .unset] [])) (fun t k => ?_) ?_
    · show Steps p.tables e below (T0.setTop (mkF m 12 #[.val (.int x0), .val (.int x1), .val (.int x2), .val (.int x3), .val (.int x4), .val (.int x5), .val (.int v1), .unset, .unset, .unset, .unset, .unset, .unset] [(.int v1)])) t
      exact XS.ifYes X0.here hx rfl (pc0 := 12) (pc' := 23) rfl (hb hby at_12) rfl ((if0 _ _).trans (feq hc2).2) (by decide) (by decide) k
    refine Runs.via (T' := T0) (g' := (mkF m 26 #[.val (.int x0), .val (.int x1), .val (.int x2), .val (.int x3), .val (.int x4), .val (.int x5), .val (.int v1), .unset, .unset, .unset, .unset, .unset, .unset] [(.int (1 : Int32)), (.int v1)])) (fun t k => ?_) ?_
    · show Steps p.tables e below (T0.setTop (mkF m 23 #[.val (.int x0), .val (.int x1), .val (.int x2), .val (.int x3), .val (.int x4), .val (.int x5), .val (.int v1), .unset, .unset, .unset, .unset, .unset, .unset] [])) t
      refine XS.iload X0.here hx rfl (hb hby at_23) rfl ?_
      show Steps p.tables e below (T0.setTop (mkF m 25 #[.val (.int x0), .val (.int x1), .val (.int x2), .val (.int x3), .val (.int x4), .val (.int x5), .val (.int v1), .unset, .unset, .unset, .unset, .unset, .unset] [(.int v1)])) t
      refine XS.iconst X0.here hx rfl (hb hby at_25) ?_
      exact k
    refine iteE hr (fun hc4 hr => ?_) (fun hc4 hr => ?_)
    · refine Runs.via (T' := T0) (g' := (mkF m 29 #[.val (.int x0), .val (.int x1), .val (.int x2), .val (.int x3), .val (.int x4), .val (.int x5), .val (.int v1), .unset, .unset, .unset, .unset, .unset, .unset] [])) (fun t k => ?_) ?_
      · show Steps p.tables e below (T0.setTop (mkF m 26 #[.val (.int x0), .val (.int x1), .val (.int x2), .val (.int x3), .val (.int x4), .val (.int x5), .val (.int v1), .unset, .unset, .unset, .unset, .unset, .unset] [(.int (1 : Int32)), (.int v1)])) t
        exact XS.icmpNo X0.here hx rfl (hb hby at_26) rfl (teq hc4).2 k
      refine Runs.via (T' := T0) (g' := (mkF m 30 #[.val (.int x0), .val (.int x1), .val (.int x2), .val (.int x3), .val (.int x4), .val (.int x5), .val (.int v1), .unset, .unset, .unset, .unset, .unset, .unset] [(.int (1 : Int32))])) (fun t k => ?_) ?_
      · show Steps p.tables e below (T0.setTop (mkF m 29 #[.val (.int x0), .val (.int x1), .val (.int x2), .val (.int x3), .val (.int x4), .val (.int x5), .val (.int v1), .unset, .unset, .unset, .unset, .unset, .unset] [])) t
        refine XS.iconst X0.here hx rfl (hb hby at_29) ?_
        exact k
      refine bindE hr ?_; intro v5 hv5 hr
      obtain ⟨T5, h5, X5, e5, E5, A5, st5⟩ := newI X0 hx hZ (aty := .byte) (ty := .byte) rfl rfl (hw _ (List.mem_of_getElem? (i := 1) rfl)) e0 hv5 (g := (mkF m 30 #[.val (.int x0), .val (.int x1), .val (.int x2), .val (.int x3), .val (.int x4), .val (.int x5), .val (.int v1), .unset, .unset, .unset, .unset, .unset, .unset] [(.int (1 : Int32))])) rfl (hb hby at_30) rfl (by decide) (by show cells + 1 ≤ 16; omega) (by show slots + 1 ≤ 128; omega)
      obtain ⟨b30, g5⟩ : ∃ z, z = h0.size := ⟨_, rfl⟩
      rw [← g5] at A5 st5
      have i5 := E5.1
      have zz5 : n0 ≤ h5.size := Nat.le_trans Z1 i5
      have A_b30_5 := A5
      have sb30 : n0 ≤ b30 := by omega
      refine Runs.via (T' := T5) (g' := (mkF m 32 #[.val (.int x0), .val (.int x1), .val (.int x2), .val (.int x3), .val (.int x4), .val (.int x5), .val (.int v1), .unset, .unset, .unset, .unset, .unset, .unset] [(.ref b30)])) (fun t k => st5 _ k) ?_
      refine Runs.via (T' := T5) (g' := (mkF m 84 #[.val (.int x0), .val (.int x1), .val (.int x2), .val (.int x3), .val (.int x4), .val (.int x5), .val (.int v1), .val (.ref b30), .unset, .unset, .unset, .unset, .unset] [])) (fun t k => ?_) ?_
      · show Steps p.tables e below (T5.setTop (mkF m 32 #[.val (.int x0), .val (.int x1), .val (.int x2), .val (.int x3), .val (.int x4), .val (.int x5), .val (.int v1), .unset, .unset, .unset, .unset, .unset, .unset] [(.ref b30)])) t
        refine XS.astore X5.here hx rfl (hb hby at_32) rfl rfl (l' := #[.val (.int x0), .val (.int x1), .val (.int x2), .val (.int x3), .val (.int x4), .val (.int x5), .val (.int v1), .val (.ref b30), .unset, .unset, .unset, .unset, .unset]) rfl ?_
        show Steps p.tables e below (T5.setTop (mkF m 34 #[.val (.int x0), .val (.int x1), .val (.int x2), .val (.int x3), .val (.int x4), .val (.int x5), .val (.int v1), .val (.ref b30), .unset, .unset, .unset, .unset, .unset] [])) t
        refine XS.goto X5.here hx rfl (pc0 := 34) (pc' := 84) rfl (hb hby at_34) (by decide) (by decide) ?_
        exact k
      exact b0_84 C fuel X5 e5 N0 (by show (cells + 1) ≤ 1; omega) (by show (slots + 1) ≤ 5; omega) zz5 b30 (by omega) v5 x0 x1 x2 x3 x4 x5 v1 A_b30_5 hr
    · refine Runs.via (T' := T0) (g' := (mkF m 37 #[.val (.int x0), .val (.int x1), .val (.int x2), .val (.int x3), .val (.int x4), .val (.int x5), .val (.int v1), .unset, .unset, .unset, .unset, .unset, .unset] [])) (fun t k => ?_) ?_
      · show Steps p.tables e below (T0.setTop (mkF m 26 #[.val (.int x0), .val (.int x1), .val (.int x2), .val (.int x3), .val (.int x4), .val (.int x5), .val (.int v1), .unset, .unset, .unset, .unset, .unset, .unset] [(.int (1 : Int32)), (.int v1)])) t
        exact XS.icmpYes X0.here hx rfl (pc0 := 26) (pc' := 37) rfl (hb hby at_26) rfl (feq hc4).2 (by decide) (by decide) k
      refine Runs.via (T' := T0) (g' := (mkF m 40 #[.val (.int x0), .val (.int x1), .val (.int x2), .val (.int x3), .val (.int x4), .val (.int x5), .val (.int v1), .unset, .unset, .unset, .unset, .unset, .unset] [(.int (2 : Int32)), (.int v1)])) (fun t k => ?_) ?_
      · show Steps p.tables e below (T0.setTop (mkF m 37 #[.val (.int x0), .val (.int x1), .val (.int x2), .val (.int x3), .val (.int x4), .val (.int x5), .val (.int v1), .unset, .unset, .unset, .unset, .unset, .unset] [])) t
        refine XS.iload X0.here hx rfl (hb hby at_37) rfl ?_
        show Steps p.tables e below (T0.setTop (mkF m 39 #[.val (.int x0), .val (.int x1), .val (.int x2), .val (.int x3), .val (.int x4), .val (.int x5), .val (.int v1), .unset, .unset, .unset, .unset, .unset, .unset] [(.int v1)])) t
        refine XS.iconst X0.here hx rfl (hb hby at_39) ?_
        exact k
      refine iteE hr (fun hc6 hr => ?_) (fun hc6 hr => ?_)
      · refine Runs.via (T' := T0) (g' := (mkF m 43 #[.val (.int x0), .val (.int x1), .val (.int x2), .val (.int x3), .val (.int x4), .val (.int x5), .val (.int v1), .unset, .unset, .unset, .unset, .unset, .unset] [])) (fun t k => ?_) ?_
        · show Steps p.tables e below (T0.setTop (mkF m 40 #[.val (.int x0), .val (.int x1), .val (.int x2), .val (.int x3), .val (.int x4), .val (.int x5), .val (.int v1), .unset, .unset, .unset, .unset, .unset, .unset] [(.int (2 : Int32)), (.int v1)])) t
          exact XS.icmpNo X0.here hx rfl (hb hby at_40) rfl (teq hc6).2 k
        refine Runs.via (T' := T0) (g' := (mkF m 44 #[.val (.int x0), .val (.int x1), .val (.int x2), .val (.int x3), .val (.int x4), .val (.int x5), .val (.int v1), .unset, .unset, .unset, .unset, .unset, .unset] [(.int (2 : Int32))])) (fun t k => ?_) ?_
        · show Steps p.tables e below (T0.setTop (mkF m 43 #[.val (.int x0), .val (.int x1), .val (.int x2), .val (.int x3), .val (.int x4), .val (.int x5), .val (.int v1), .unset, .unset, .unset, .unset, .unset, .unset] [])) t
          refine XS.iconst X0.here hx rfl (hb hby at_43) ?_
          exact k
        refine bindE hr ?_; intro v7 hv7 hr
        obtain ⟨T7, h7, X7, e7, E7, A7, st7⟩ := newI X0 hx hZ (aty := .byte) (ty := .byte) rfl rfl (hw _ (List.mem_of_getElem? (i := 1) rfl)) e0 hv7 (g := (mkF m 44 #[.val (.int x0), .val (.int x1), .val (.int x2), .val (.int x3), .val (.int x4), .val (.int x5), .val (.int v1), .unset, .unset, .unset, .unset, .unset, .unset] [(.int (2 : Int32))])) rfl (hb hby at_44) rfl (by decide) (by show cells + 1 ≤ 16; omega) (by show slots + 2 ≤ 128; omega)
        obtain ⟨b44, g7⟩ : ∃ z, z = h0.size := ⟨_, rfl⟩
        rw [← g7] at A7 st7
        have i7 := E7.1
        have zz7 : n0 ≤ h7.size := Nat.le_trans Z1 i7
        have A_b44_7 := A7
        have sb44 : n0 ≤ b44 := by omega
        refine Runs.via (T' := T7) (g' := (mkF m 46 #[.val (.int x0), .val (.int x1), .val (.int x2), .val (.int x3), .val (.int x4), .val (.int x5), .val (.int v1), .unset, .unset, .unset, .unset, .unset, .unset] [(.ref b44)])) (fun t k => st7 _ k) ?_
        refine Runs.via (T' := T7) (g' := (mkF m 84 #[.val (.int x0), .val (.int x1), .val (.int x2), .val (.int x3), .val (.int x4), .val (.int x5), .val (.int v1), .val (.ref b44), .unset, .unset, .unset, .unset, .unset] [])) (fun t k => ?_) ?_
        · show Steps p.tables e below (T7.setTop (mkF m 46 #[.val (.int x0), .val (.int x1), .val (.int x2), .val (.int x3), .val (.int x4), .val (.int x5), .val (.int v1), .unset, .unset, .unset, .unset, .unset, .unset] [(.ref b44)])) t
          refine XS.astore X7.here hx rfl (hb hby at_46) rfl rfl (l' := #[.val (.int x0), .val (.int x1), .val (.int x2), .val (.int x3), .val (.int x4), .val (.int x5), .val (.int v1), .val (.ref b44), .unset, .unset, .unset, .unset, .unset]) rfl ?_
          show Steps p.tables e below (T7.setTop (mkF m 48 #[.val (.int x0), .val (.int x1), .val (.int x2), .val (.int x3), .val (.int x4), .val (.int x5), .val (.int v1), .val (.ref b44), .unset, .unset, .unset, .unset, .unset] [])) t
          refine XS.goto X7.here hx rfl (pc0 := 48) (pc' := 84) rfl (hb hby at_48) (by decide) (by decide) ?_
          exact k
        exact b0_84 C fuel X7 e7 N0 (by show (cells + 1) ≤ 1; omega) (by show (slots + 2) ≤ 5; omega) zz7 b44 (by omega) v7 x0 x1 x2 x3 x4 x5 v1 A_b44_7 hr
      · refine Runs.via (T' := T0) (g' := (mkF m 51 #[.val (.int x0), .val (.int x1), .val (.int x2), .val (.int x3), .val (.int x4), .val (.int x5), .val (.int v1), .unset, .unset, .unset, .unset, .unset, .unset] [])) (fun t k => ?_) ?_
        · show Steps p.tables e below (T0.setTop (mkF m 40 #[.val (.int x0), .val (.int x1), .val (.int x2), .val (.int x3), .val (.int x4), .val (.int x5), .val (.int v1), .unset, .unset, .unset, .unset, .unset, .unset] [(.int (2 : Int32)), (.int v1)])) t
          exact XS.icmpYes X0.here hx rfl (pc0 := 40) (pc' := 51) rfl (hb hby at_40) rfl (feq hc6).2 (by decide) (by decide) k
        refine Runs.via (T' := T0) (g' := (mkF m 54 #[.val (.int x0), .val (.int x1), .val (.int x2), .val (.int x3), .val (.int x4), .val (.int x5), .val (.int v1), .unset, .unset, .unset, .unset, .unset, .unset] [(.int (3 : Int32)), (.int v1)])) (fun t k => ?_) ?_
        · show Steps p.tables e below (T0.setTop (mkF m 51 #[.val (.int x0), .val (.int x1), .val (.int x2), .val (.int x3), .val (.int x4), .val (.int x5), .val (.int v1), .unset, .unset, .unset, .unset, .unset, .unset] [])) t
          refine XS.iload X0.here hx rfl (hb hby at_51) rfl ?_
          show Steps p.tables e below (T0.setTop (mkF m 53 #[.val (.int x0), .val (.int x1), .val (.int x2), .val (.int x3), .val (.int x4), .val (.int x5), .val (.int v1), .unset, .unset, .unset, .unset, .unset, .unset] [(.int v1)])) t
          refine XS.iconst X0.here hx rfl (hb hby at_53) ?_
          exact k
        refine iteE hr (fun hc8 hr => ?_) (fun hc8 hr => ?_)
        · refine Runs.via (T' := T0) (g' := (mkF m 57 #[.val (.int x0), .val (.int x1), .val (.int x2), .val (.int x3), .val (.int x4), .val (.int x5), .val (.int v1), .unset, .unset, .unset, .unset, .unset, .unset] [])) (fun t k => ?_) ?_
          · show Steps p.tables e below (T0.setTop (mkF m 54 #[.val (.int x0), .val (.int x1), .val (.int x2), .val (.int x3), .val (.int x4), .val (.int x5), .val (.int v1), .unset, .unset, .unset, .unset, .unset, .unset] [(.int (3 : Int32)), (.int v1)])) t
            exact XS.icmpNo X0.here hx rfl (hb hby at_54) rfl (teq hc8).2 k
          refine Runs.via (T' := T0) (g' := (mkF m 58 #[.val (.int x0), .val (.int x1), .val (.int x2), .val (.int x3), .val (.int x4), .val (.int x5), .val (.int v1), .unset, .unset, .unset, .unset, .unset, .unset] [(.int (3 : Int32))])) (fun t k => ?_) ?_
          · show Steps p.tables e below (T0.setTop (mkF m 57 #[.val (.int x0), .val (.int x1), .val (.int x2), .val (.int x3), .val (.int x4), .val (.int x5), .val (.int v1), .unset, .unset, .unset, .unset, .unset, .unset] [])) t
            refine XS.iconst X0.here hx rfl (hb hby at_57) ?_
            exact k
          refine bindE hr ?_; intro v9 hv9 hr
          obtain ⟨T9, h9, X9, e9, E9, A9, st9⟩ := newI X0 hx hZ (aty := .byte) (ty := .byte) rfl rfl (hw _ (List.mem_of_getElem? (i := 1) rfl)) e0 hv9 (g := (mkF m 58 #[.val (.int x0), .val (.int x1), .val (.int x2), .val (.int x3), .val (.int x4), .val (.int x5), .val (.int v1), .unset, .unset, .unset, .unset, .unset, .unset] [(.int (3 : Int32))])) rfl (hb hby at_58) rfl (by decide) (by show cells + 1 ≤ 16; omega) (by show slots + 3 ≤ 128; omega)
          obtain ⟨b58, g9⟩ : ∃ z, z = h0.size := ⟨_, rfl⟩
          rw [← g9] at A9 st9
          have i9 := E9.1
          have zz9 : n0 ≤ h9.size := Nat.le_trans Z1 i9
          have A_b58_9 := A9
          have sb58 : n0 ≤ b58 := by omega
          refine Runs.via (T' := T9) (g' := (mkF m 60 #[.val (.int x0), .val (.int x1), .val (.int x2), .val (.int x3), .val (.int x4), .val (.int x5), .val (.int v1), .unset, .unset, .unset, .unset, .unset, .unset] [(.ref b58)])) (fun t k => st9 _ k) ?_
          refine Runs.via (T' := T9) (g' := (mkF m 84 #[.val (.int x0), .val (.int x1), .val (.int x2), .val (.int x3), .val (.int x4), .val (.int x5), .val (.int v1), .val (.ref b58), .unset, .unset, .unset, .unset, .unset] [])) (fun t k => ?_) ?_
          · show Steps p.tables e below (T9.setTop (mkF m 60 #[.val (.int x0), .val (.int x1), .val (.int x2), .val (.int x3), .val (.int x4), .val (.int x5), .val (.int v1), .unset, .unset, .unset, .unset, .unset, .unset] [(.ref b58)])) t
            refine XS.astore X9.here hx rfl (hb hby at_60) rfl rfl (l' := #[.val (.int x0), .val (.int x1), .val (.int x2), .val (.int x3), .val (.int x4), .val (.int x5), .val (.int v1), .val (.ref b58), .unset, .unset, .unset, .unset, .unset]) rfl ?_
            show Steps p.tables e below (T9.setTop (mkF m 62 #[.val (.int x0), .val (.int x1), .val (.int x2), .val (.int x3), .val (.int x4), .val (.int x5), .val (.int v1), .val (.ref b58), .unset, .unset, .unset, .unset, .unset] [])) t
            refine XS.goto X9.here hx rfl (pc0 := 62) (pc' := 84) rfl (hb hby at_62) (by decide) (by decide) ?_
            exact k
          exact b0_84 C fuel X9 e9 N0 (by show (cells + 1) ≤ 1; omega) (by show (slots + 3) ≤ 5; omega) zz9 b58 (by omega) v9 x0 x1 x2 x3 x4 x5 v1 A_b58_9 hr
        · refine Runs.via (T' := T0) (g' := (mkF m 65 #[.val (.int x0), .val (.int x1), .val (.int x2), .val (.int x3), .val (.int x4), .val (.int x5), .val (.int v1), .unset, .unset, .unset, .unset, .unset, .unset] [])) (fun t k => ?_) ?_
          · show Steps p.tables e below (T0.setTop (mkF m 54 #[.val (.int x0), .val (.int x1), .val (.int x2), .val (.int x3), .val (.int x4), .val (.int x5), .val (.int v1), .unset, .unset, .unset, .unset, .unset, .unset] [(.int (3 : Int32)), (.int v1)])) t
            exact XS.icmpYes X0.here hx rfl (pc0 := 54) (pc' := 65) rfl (hb hby at_54) rfl (feq hc8).2 (by decide) (by decide) k
          refine Runs.via (T' := T0) (g' := (mkF m 68 #[.val (.int x0), .val (.int x1), .val (.int x2), .val (.int x3), .val (.int x4), .val (.int x5), .val (.int v1), .unset, .unset, .unset, .unset, .unset, .unset] [(.int (4 : Int32)), (.int v1)])) (fun t k => ?_) ?_
          · show Steps p.tables e below (T0.setTop (mkF m 65 #[.val (.int x0), .val (.int x1), .val (.int x2), .val (.int x3), .val (.int x4), .val (.int x5), .val (.int v1), .unset, .unset, .unset, .unset, .unset, .unset] [])) t
            refine XS.iload X0.here hx rfl (hb hby at_65) rfl ?_
            show Steps p.tables e below (T0.setTop (mkF m 67 #[.val (.int x0), .val (.int x1), .val (.int x2), .val (.int x3), .val (.int x4), .val (.int x5), .val (.int v1), .unset, .unset, .unset, .unset, .unset, .unset] [(.int v1)])) t
            refine XS.iconst X0.here hx rfl (hb hby at_67) ?_
            exact k
          refine iteE hr (fun hc10 hr => ?_) (fun hc10 hr => ?_)
          · refine Runs.via (T' := T0) (g' := (mkF m 71 #[.val (.int x0), .val (.int x1), .val (.int x2), .val (.int x3), .val (.int x4), .val (.int x5), .val (.int v1), .unset, .unset, .unset, .unset, .unset, .unset] [])) (fun t k => ?_) ?_
            · show Steps p.tables e below (T0.setTop (mkF m 68 #[.val (.int x0), .val (.int x1), .val (.int x2), .val (.int x3), .val (.int x4), .val (.int x5), .val (.int v1), .unset, .unset, .unset, .unset, .unset, .unset] [(.int (4 : Int32)), (.int v1)])) t
              exact XS.icmpNo X0.here hx rfl (hb hby at_68) rfl (teq hc10).2 k
            refine Runs.via (T' := T0) (g' := (mkF m 72 #[.val (.int x0), .val (.int x1), .val (.int x2), .val (.int x3), .val (.int x4), .val (.int x5), .val (.int v1), .unset, .unset, .unset, .unset, .unset, .unset] [(.int (4 : Int32))])) (fun t k => ?_) ?_
            · show Steps p.tables e below (T0.setTop (mkF m 71 #[.val (.int x0), .val (.int x1), .val (.int x2), .val (.int x3), .val (.int x4), .val (.int x5), .val (.int v1), .unset, .unset, .unset, .unset, .unset, .unset] [])) t
              refine XS.iconst X0.here hx rfl (hb hby at_71) ?_
              exact k
            refine bindE hr ?_; intro v11 hv11 hr
            obtain ⟨T11, h11, X11, e11, E11, A11, st11⟩ := newI X0 hx hZ (aty := .byte) (ty := .byte) rfl rfl (hw _ (List.mem_of_getElem? (i := 1) rfl)) e0 hv11 (g := (mkF m 72 #[.val (.int x0), .val (.int x1), .val (.int x2), .val (.int x3), .val (.int x4), .val (.int x5), .val (.int v1), .unset, .unset, .unset, .unset, .unset, .unset] [(.int (4 : Int32))])) rfl (hb hby at_72) rfl (by decide) (by show cells + 1 ≤ 16; omega) (by show slots + 4 ≤ 128; omega)
            obtain ⟨b72, g11⟩ : ∃ z, z = h0.size := ⟨_, rfl⟩
            rw [← g11] at A11 st11
            have i11 := E11.1
            have zz11 : n0 ≤ h11.size := Nat.le_trans Z1 i11
            have A_b72_11 := A11
            have sb72 : n0 ≤ b72 := by omega
            refine Runs.via (T' := T11) (g' := (mkF m 74 #[.val (.int x0), .val (.int x1), .val (.int x2), .val (.int x3), .val (.int x4), .val (.int x5), .val (.int v1), .unset, .unset, .unset, .unset, .unset, .unset] [(.ref b72)])) (fun t k => st11 _ k) ?_
            refine Runs.via (T' := T11) (g' := (mkF m 84 #[.val (.int x0), .val (.int x1), .val (.int x2), .val (.int x3), .val (.int x4), .val (.int x5), .val (.int v1), .val (.ref b72), .unset, .unset, .unset, .unset, .unset] [])) (fun t k => ?_) ?_
            · show Steps p.tables e below (T11.setTop (mkF m 74 #[.val (.int x0), .val (.int x1), .val (.int x2), .val (.int x3), .val (.int x4), .val (.int x5), .val (.int v1), .unset, .unset, .unset, .unset, .unset, .unset] [(.ref b72)])) t
              refine XS.astore X11.here hx rfl (hb hby at_74) rfl rfl (l' := #[.val (.int x0), .val (.int x1), .val (.int x2), .val (.int x3), .val (.int x4), .val (.int x5), .val (.int v1), .val (.ref b72), .unset, .unset, .unset, .unset, .unset]) rfl ?_
              show Steps p.tables e below (T11.setTop (mkF m 76 #[.val (.int x0), .val (.int x1), .val (.int x2), .val (.int x3), .val (.int x4), .val (.int x5), .val (.int v1), .val (.ref b72), .unset, .unset, .unset, .unset, .unset] [])) t
              refine XS.goto X11.here hx rfl (pc0 := 76) (pc' := 84) rfl (hb hby at_76) (by decide) (by decide) ?_
              exact k
            exact b0_84 C fuel X11 e11 N0 (by show (cells + 1) ≤ 1; omega) (by show (slots + 4) ≤ 5; omega) zz11 b72 (by omega) v11 x0 x1 x2 x3 x4 x5 v1 A_b72_11 hr
          · refine Runs.via (T' := T0) (g' := (mkF m 79 #[.val (.int x0), .val (.int x1), .val (.int x2), .val (.int x3), .val (.int x4), .val (.int x5), .val (.int v1), .unset, .unset, .unset, .unset, .unset, .unset] [])) (fun t k => ?_) ?_
            · show Steps p.tables e below (T0.setTop (mkF m 68 #[.val (.int x0), .val (.int x1), .val (.int x2), .val (.int x3), .val (.int x4), .val (.int x5), .val (.int v1), .unset, .unset, .unset, .unset, .unset, .unset] [(.int (4 : Int32)), (.int v1)])) t
              exact XS.icmpYes X0.here hx rfl (pc0 := 68) (pc' := 79) rfl (hb hby at_68) rfl (feq hc10).2 (by decide) (by decide) k
            refine Runs.via (T' := T0) (g' := (mkF m 80 #[.val (.int x0), .val (.int x1), .val (.int x2), .val (.int x3), .val (.int x4), .val (.int x5), .val (.int v1), .unset, .unset, .unset, .unset, .unset, .unset] [(.int (5 : Int32))])) (fun t k => ?_) ?_
            · show Steps p.tables e below (T0.setTop (mkF m 79 #[.val (.int x0), .val (.int x1), .val (.int x2), .val (.int x3), .val (.int x4), .val (.int x5), .val (.int v1), .unset, .unset, .unset, .unset, .unset, .unset] [])) t
              refine XS.iconst X0.here hx rfl (hb hby at_79) ?_
              exact k
            refine bindE hr ?_; intro v12 hv12 hr
            obtain ⟨T12, h12, X12, e12, E12, A12, st12⟩ := newI X0 hx hZ (aty := .byte) (ty := .byte) rfl rfl (hw _ (List.mem_of_getElem? (i := 1) rfl)) e0 hv12 (g := (mkF m 80 #[.val (.int x0), .val (.int x1), .val (.int x2), .val (.int x3), .val (.int x4), .val (.int x5), .val (.int v1), .unset, .unset, .unset, .unset, .unset, .unset] [(.int (5 : Int32))])) rfl (hb hby at_80) rfl (by decide) (by show cells + 1 ≤ 16; omega) (by show slots + 5 ≤ 128; omega)
            obtain ⟨b80, g12⟩ : ∃ z, z = h0.size := ⟨_, rfl⟩
            rw [← g12] at A12 st12
            have i12 := E12.1
            have zz12 : n0 ≤ h12.size := Nat.le_trans Z1 i12
            have A_b80_12 := A12
            have sb80 : n0 ≤ b80 := by omega
            refine Runs.via (T' := T12) (g' := (mkF m 82 #[.val (.int x0), .val (.int x1), .val (.int x2), .val (.int x3), .val (.int x4), .val (.int x5), .val (.int v1), .unset, .unset, .unset, .unset, .unset, .unset] [(.ref b80)])) (fun t k => st12 _ k) ?_
            refine Runs.via (T' := T12) (g' := (mkF m 84 #[.val (.int x0), .val (.int x1), .val (.int x2), .val (.int x3), .val (.int x4), .val (.int x5), .val (.int v1), .val (.ref b80), .unset, .unset, .unset, .unset, .unset] [])) (fun t k => ?_) ?_
            · show Steps p.tables e below (T12.setTop (mkF m 82 #[.val (.int x0), .val (.int x1), .val (.int x2), .val (.int x3), .val (.int x4), .val (.int x5), .val (.int v1), .unset, .unset, .unset, .unset, .unset, .unset] [(.ref b80)])) t
              refine XS.astore X12.here hx rfl (hb hby at_82) rfl rfl (l' := #[.val (.int x0), .val (.int x1), .val (.int x2), .val (.int x3), .val (.int x4), .val (.int x5), .val (.int v1), .val (.ref b80), .unset, .unset, .unset, .unset, .unset]) rfl ?_
              exact k
            exact b0_84 C fuel X12 e12 N0 (by show (cells + 1) ≤ 1; omega) (by show (slots + 5) ≤ 5; omega) zz12 b80 (by omega) v12 x0 x1 x2 x3 x4 x5 v1 A_b80_12 hr
def f0 (fuel : Nat) (x0 : Int32) (x1 : Int32) (x2 : Int32) (x3 : Int32) (x4 : Int32) (x5 : Int32) : Option (Int32) := g0_0 fuel x0 x1 x2 x3 x4 x5
theorem pn_0 : plainName "com/example/braid/braid/BodyLinesNextNotBlankPinLaw" = true := by first | (simp [plainName, overriddenIn]; done) | decide +kernel
theorem ef_0 (m : MethodId) (x0 : Int32) (x1 : Int32) (x2 : Int32) (x3 : Int32) (x4 : Int32) (x5 : Int32) : entryFrame m #[(.int x0), (.int x1), (.int x2), (.int x3), (.int x4), (.int x5)] maxLocals = mkF m 0 #[.val (.int x0), .val (.int x1), .val (.int x2), .val (.int x3), .val (.int x4), .val (.int x5), .unset, .unset, .unset, .unset, .unset, .unset, .unset] [] := by first | (simp [entryFrame, mkF, argsToLocals, Value.category, maxLocals]; done) | rfl
set_option maxRecDepth 65536 in
set_option maxHeartbeats 4000000 in
theorem rm0 (l : Launch) (Z : State) (a0 : Array Value) (hw : ∀ d ∈ tables_1, d.before a0 Z = true) (ws : List Jvm.Cond) (x0 : Int32) (x1 : Int32) (x2 : Int32) (x3 : Int32) (x4 : Int32) (x5 : Int32) (hE : Heap) (n0 : Nat) (Z0 : n0 ≤ hE.size) (fuel : Nat) (r : Int32) (hr : f0 fuel x0 x1 x2 x3 x4 x5 = some r) :
    MetFree l x (head1 (Jvm.Cond.code x code maxLocals ret :: ws) room_1) (fun a U => a = #[(.int x0), (.int x1), (.int x2), (.int x3), (.int x4), (.int x5)] ∧ Z.Warmed39 U.vm ∧ U.heap = hE) (fun _ _ _ _ _ => True) (fun _ U o U' => ∃ v L, o = .returned v ∧ (P0 n0 r v U'.heap L) ∧ FrameEnd U o U' L 2 9) := by
  refine MetFree.of_bodySF (plainFor_of_name pn_0) hisR ?_
  intro p e s m args below meth c s₁ Bd hml0 hP hK
  obtain ⟨rfl, hZ, hh⟩ := hP
  have X0 : Stand p l e room_1 s m #[(.int x0), (.int x1), (.int x2), (.int x3), (.int x4), (.int x5)] below meth c s₁ [] 0 0 := Stand.of_body Bd
  have e0 : s₁.heap = hE := by rw [← hh, Bd.state]; rfl
  have C : Ctx p s m meth c Z a0 "com/example/braid/braid/BodyLinesNextNotBlankPinLaw" code 13 (some .boolean) "law" := ⟨Bd.exec, hZ, hw, Bd.bytes, hml0, findClass_of_methodNamed Bd.named, Bd.returns, BodyLoose.notSynchronized Bd, (name_of_methodNamed Bd.named Bd.method).1⟩
  refine Runs.via (fun t k => castTop (ef_0 m x0 x1 x2 x3 x4 x5) k) (b0_0 C fuel X0 e0 (Fr.nil n0) (by show 0 ≤ 0; omega) (by show 0 ≤ 0; omega) Z0 x0 x1 x2 x3 x4 x5 hr)
end Own
theorem bindS {α β : Type} {x : Option α} {k : α → Option β} {r : Option β} {v : α} (h : x = some v) (H : k v = r) : x.bind k = r := by rw [h]; exact H
theorem letS {α β : Type} {x : α} {k : α → β} {r : β} (H : k x = r) : letO x k = r := H
theorem wrS {α β : Type} {n : Nat} {xs : List α} {j : Int32} {v : α} {k : List α → Option β} {r : Option β} (hl : xs.length = n) (h1 : ¬ j < 0) (h2 : j.toNatClampNeg < n) (H : ∀ ys : List α, ys.length = n → k ys = r) : (wrO xs j v).bind k = r := by
  refine bindS (v := xs.set j.toNatClampNeg v) ?_ (H _ (by simp [hl]))
  unfold wrO
  rw [if_neg]
  rintro (q | q)
  · exact h1 q
  · omega
theorem own_irem (u d : Int32) (D : Int) (hd : d.toInt = D) (hD : 0 < D) (h0 : 0 ≤ u.toInt) : (u - (u / d) * d).toInt = u.toInt % D := by
  have hn : d ≠ -1 := fun q => by rw [q] at hd; have : (-1 : Int32).toInt = -1 := by decide
                                  omega
  have e1 := (c_idiv u d D hd hn).1 h0
  have e2 := c_imul (u / d) d
  have e3 := c_isub u ((u / d) * d)
  have r1 := rng32 u
  have r2 := rng32 ((u / d) * d)
  have r3 := rng32 (u - (u / d) * d)
  rw [hd, e1] at e2
  have e4 := Int.emod_add_mul_ediv u.toInt D
  have e5 := Int.emod_nonneg u.toInt (by omega : D ≠ 0)
  have e6 := Int.emod_lt_of_pos u.toInt hD
  have e7 : u.toInt / D * D = D * (u.toInt / D) := Int.mul_comm _ _
  rw [e7] at e2
  have e8 : 0 ≤ D * (u.toInt / D) := Int.mul_nonneg (by omega) (Int.ediv_nonneg h0 (by omega))
  omega
theorem own_pos (x : Int32) : 0 ≤ (x &&& (2147483647 : Int32)).toInt := by rw [c_mask x 2147483647 31 (by decide) (by decide)]; exact Int.emod_nonneg _ (by decide)
/-- a byte counts only by whether it is the newline, blank, or neither -/
def own_cn (v : Int32) : Int32 := if v = 10 then 10 else if v = 32 ∨ v = 9 ∨ v = 13 then 32 else 0
theorem own_cn10 (v : Int32) : (own_cn v = 10) = (v = 10) := by
  unfold own_cn
  by_cases h : v = 10
  · simp [h]
  · by_cases h2 : v = 32 ∨ v = 9 ∨ v = 13
    · simp only [if_neg h, if_pos h2, h]; decide
    · simp only [if_neg h, if_neg h2, h]; decide
theorem own_blank {α : Type} (v : Int32) (G B : α) (h : ¬ v = 10) : (if own_cn v = 32 then G else if own_cn v = 9 then G else if own_cn v = 13 then G else B) = (if v = 32 then G else if v = 9 then G else if v = 13 then G else B) := by
  unfold own_cn
  by_cases h2 : v = 32
  · simp [h2]
  · by_cases h3 : v = 9
    · simp [h3]
    · by_cases h4 : v = 13
      · simp [h4]
      · simp [h, h2, h3, h4]
theorem own_nlc : own_cn 10 = 10 := by decide
theorem own_rd (xs : List Int32) (j : Int32) : rdO (xs.map own_cn) j = (rdO xs j).map own_cn := by
  unfold rdO
  split
  · rfl
  · simp
theorem own_len (xs : List Int32) : lenO (xs.map own_cn) = lenO xs := by unfold lenO; simp
theorem own_h5 (fuel n : Nat) (xs : List Int32) : ∀ e s m : Int32, h5_32 fuel n (xs.map own_cn) e s m = h5_32 fuel n xs e s m := by
  induction n with
  | zero => intro e s m; rfl
  | succ n ih =>
    intro e s m
    show s5_32 (h5_32 fuel n) fuel (xs.map own_cn) e s m = s5_32 (h5_32 fuel n) fuel xs e s m
    unfold s5_32 g5_71
    rw [own_len, own_rd]
    cases rdO xs e with
    | none => rfl
    | some v => simp only [Option.map_some, Option.bind_some, own_cn10, ih, letO]
theorem own_f5 (fuel : Nat) (xs : List Int32) (e s m : Int32) : f5 fuel (xs.map own_cn) e s m = f5 fuel xs e s m := by
  unfold f5 g5_0 g5_32
  simp only [own_len, own_h5, letO]
theorem own_h6 (fuel n : Nat) (xs : List Int32) : ∀ i e s m : Int32, h6_5 fuel n i (xs.map own_cn) e s m = h6_5 fuel n i xs e s m := by
  induction n with
  | zero => intro i e s m; rfl
  | succ n ih =>
    intro i e s m
    show s6_5 (h6_5 fuel n) fuel i (xs.map own_cn) e s m = s6_5 (h6_5 fuel n) fuel i xs e s m
    unfold s6_5 g6_48
    rw [own_rd]
    cases rdO xs i with
    | none => rfl
    | some v =>
      simp only [Option.map_some, Option.bind_some, ih]
      by_cases h : v = 10
      · subst h; rw [own_nlc]
      · rw [own_blank v _ _ h]
theorem own_f6 (fuel : Nat) (xs : List Int32) (e s m : Int32) : f6 fuel (xs.map own_cn) e s m = f6 fuel xs e s m := by
  unfold f6 g6_0 g6_5
  exact own_h6 fuel fuel xs s e s m
theorem own_h4 (fuel n : Nat) (xs : List Int32) : ∀ i e s m : Int32, h4_5 fuel n i (xs.map own_cn) e s m = h4_5 fuel n i xs e s m := by
  induction n with
  | zero => intro i e s m; rfl
  | succ n ih =>
    intro i e s m
    show s4_5 (h4_5 fuel n) fuel i (xs.map own_cn) e s m = s4_5 (h4_5 fuel n) fuel i xs e s m
    unfold s4_5
    simp only [own_f6, own_f5, ih]
theorem own_f4 (fuel : Nat) (xs : List Int32) (e s m : Int32) : f4 fuel (xs.map own_cn) e s m = f4 fuel xs e s m := by
  unfold f4 g4_0 g4_5
  simp only [own_f5, own_h4]
theorem own_f9 (n s i : Int32) (xs : List Int32) : f9 n s i (xs.map own_cn) = f9 n s i xs := by
  unfold f9 g9_0
  rw [own_rd]
  cases rdO xs i with
  | none => rfl
  | some v =>
    simp only [Option.map_some, Option.bind_some, own_cn10]
    by_cases h : v = 10
    · simp only [if_pos h]
    · simp only [if_neg h, own_blank v _ _ h]
theorem own_f14 (a b i : Int32) (xs : List Int32) : f14 a b i (xs.map own_cn) = f14 a b i xs := by
  unfold f14 g14_0
  rw [own_rd]
  cases rdO xs i with
  | none => rfl
  | some v => simp only [Option.map_some, Option.bind_some, own_cn10]
theorem own_f8 (n s : Int32) (xs : List Int32) : f8 n s (xs.map own_cn) = f8 n s xs := by
  unfold f8 g8_0
  simp only [own_f9]
theorem own_f13 (a b : Int32) (xs : List Int32) : f13 a b (xs.map own_cn) = f13 a b xs := by
  unfold f13 g13_0
  simp only [own_f14]
theorem own_f15 (a b : Int32) (xs : List Int32) : f15 a b (xs.map own_cn) = f15 a b xs := by
  unfold f15 g15_0
  simp only [own_f14]
theorem own_f16 (a b : Int32) (xs : List Int32) : f16 a b (xs.map own_cn) = f16 a b xs := by
  unfold f16 g16_0 g16_15 g16_28 g16_41 g16_54
  simp only [own_f14]
theorem own_f7 (n s p q : Int32) (xs : List Int32) (e t m : Int32) : f7 n s p q (xs.map own_cn) e t m = f7 n s p q xs e t m := by
  unfold f7 g7_0 g7_53 g7_72 f10 g10_0 f11 g11_0 f12 g12_0
  simp only [own_f8, own_f13, own_f15, own_f16]
theorem own_154 (fuel : Nat) (n : Int32) (xs : List Int32) : g0_154 fuel n (xs.map own_cn) = g0_154 fuel n xs := by
  unfold g0_154 f2 g2_0 f10 g10_0 f11 g11_0 f12 g12_0
  simp only [own_f4, own_f7]
def own_b : Fin 3 → Int32
  | 0 => 0
  | 1 => 10
  | 2 => 32
theorem own_b_cn (v : Int32) : ∃ a : Fin 3, own_cn v = own_b a := by
  unfold own_cn
  split
  · exact ⟨1, rfl⟩
  · split
    · exact ⟨2, rfl⟩
    · exact ⟨0, rfl⟩
theorem own_fin0 : g0_154 8 0 [] = some 1 := by decide +kernel
theorem own_fin1 : ∀ a : Fin 3, g0_154 8 1 [own_b a] = some 1 := by decide +kernel
theorem own_fin2 : ∀ a b : Fin 3, g0_154 8 2 [own_b a, own_b b] = some 1 := by decide +kernel
theorem own_fin3 : ∀ a b c : Fin 3, g0_154 8 3 [own_b a, own_b b, own_b c] = some 1 := by decide +kernel
theorem own_fin4 : ∀ a b c d : Fin 3, g0_154 8 4 [own_b a, own_b b, own_b c, own_b d] = some 1 := by decide +kernel
theorem own_fin5 : ∀ a b c d e : Fin 3, g0_154 8 5 [own_b a, own_b b, own_b c, own_b d, own_b e] = some 1 := by decide +kernel
theorem own_all0 (xs : List Int32) (hl : xs.length = 0) : g0_154 8 0 xs = some 1 := by
  match xs, hl with
  | [], _ => exact own_fin0
theorem own_all1 (xs : List Int32) (hl : xs.length = 1) : g0_154 8 1 xs = some 1 := by
  rw [← own_154]
  match xs, hl with
  | [a], _ =>
    obtain ⟨a', ha⟩ := own_b_cn a
    simp only [List.map_cons, List.map_nil, ha]; exact own_fin1 _
theorem own_all2 (xs : List Int32) (hl : xs.length = 2) : g0_154 8 2 xs = some 1 := by
  rw [← own_154]
  match xs, hl with
  | [a, b], _ =>
    obtain ⟨a', ha⟩ := own_b_cn a
    obtain ⟨b', hb⟩ := own_b_cn b
    simp only [List.map_cons, List.map_nil, ha, hb]; exact own_fin2 _ _
theorem own_all3 (xs : List Int32) (hl : xs.length = 3) : g0_154 8 3 xs = some 1 := by
  rw [← own_154]
  match xs, hl with
  | [a, b, c], _ =>
    obtain ⟨a', ha⟩ := own_b_cn a
    obtain ⟨b', hb⟩ := own_b_cn b
    obtain ⟨c', hc⟩ := own_b_cn c
    simp only [List.map_cons, List.map_nil, ha, hb, hc]; exact own_fin3 _ _ _
theorem own_all4 (xs : List Int32) (hl : xs.length = 4) : g0_154 8 4 xs = some 1 := by
  rw [← own_154]
  match xs, hl with
  | [a, b, c, d], _ =>
    obtain ⟨a', ha⟩ := own_b_cn a
    obtain ⟨b', hb⟩ := own_b_cn b
    obtain ⟨c', hc⟩ := own_b_cn c
    obtain ⟨d', hd⟩ := own_b_cn d
    simp only [List.map_cons, List.map_nil, ha, hb, hc, hd]; exact own_fin4 _ _ _ _
theorem own_all5 (xs : List Int32) (hl : xs.length = 5) : g0_154 8 5 xs = some 1 := by
  rw [← own_154]
  match xs, hl with
  | [a, b, c, d, e], _ =>
    obtain ⟨a', ha⟩ := own_b_cn a
    obtain ⟨b', hb⟩ := own_b_cn b
    obtain ⟨c', hc⟩ := own_b_cn c
    obtain ⟨d', hd⟩ := own_b_cn d
    obtain ⟨e', he⟩ := own_b_cn e
    simp only [List.map_cons, List.map_nil, ha, hb, hc, hd, he]; exact own_fin5 _ _ _ _ _
theorem own_84 (k : Nat) (n : Int32) (hk : n.toInt = k) (H : ∀ xs : List Int32, xs.length = k → g0_154 8 n xs = some 1) (x0 x1 x2 x3 x4 : Int32) (w : List Int32) (hl : w.length = k) : g0_84 8 x0 x1 x2 x3 x4 n w = some 1 := by
  have z0 : (0 : Int32).toInt = 0 := by decide
  have z1 : (1 : Int32).toInt = 1 := by decide
  have z2 : (2 : Int32).toInt = 2 := by decide
  have z3 : (3 : Int32).toInt = 3 := by decide
  have z4 : (4 : Int32).toInt = 4 := by decide
  have s139 : ∀ ys : List Int32, ys.length = k → g0_139 8 x4 n ys = some 1 := by
    intro ys hy
    unfold g0_139
    split
    · rename_i q
      rw [Int32.lt_iff_toInt_lt] at q
      exact wrS hy (by decide) (by show 4 < k; omega) (fun zs hz => H zs hz)
    · exact H ys hy
  have s125 : ∀ ys : List Int32, ys.length = k → g0_125 8 x3 x4 n ys = some 1 := by
    intro ys hy
    unfold g0_125
    split
    · rename_i q
      rw [Int32.lt_iff_toInt_lt] at q
      exact wrS hy (by decide) (by show 3 < k; omega) (fun zs hz => s139 zs hz)
    · exact s139 ys hy
  have s111 : ∀ ys : List Int32, ys.length = k → g0_111 8 x2 x3 x4 n ys = some 1 := by
    intro ys hy
    unfold g0_111
    split
    · rename_i q
      rw [Int32.lt_iff_toInt_lt] at q
      exact wrS hy (by decide) (by show 2 < k; omega) (fun zs hz => s125 zs hz)
    · exact s125 ys hy
  have s97 : ∀ ys : List Int32, ys.length = k → g0_97 8 x1 x2 x3 x4 n ys = some 1 := by
    intro ys hy
    unfold g0_97
    split
    · rename_i q
      rw [Int32.lt_iff_toInt_lt] at q
      exact wrS hy (by decide) (by show 1 < k; omega) (fun zs hz => s111 zs hz)
    · exact s111 ys hy
  unfold g0_84
  split
  · rename_i q
    rw [Int32.lt_iff_toInt_lt] at q
    exact wrS hl (by decide) (by show 0 < k; omega) (fun zs hz => s97 zs hz)
  · exact s97 w hl
theorem own_law (x0 x1 x2 x3 x4 x5 : Int32) : ∃ fuel, f0 fuel x0 x1 x2 x3 x4 x5 = some 1 := by
  refine ⟨8, ?_⟩
  unfold f0 g0_0
  refine letS ?_
  have h1 := own_irem (x5 &&& (2147483647 : Int32)) 6 6 (by decide) (by decide) (own_pos x5)
  have b1 : 0 ≤ ((x5 &&& (2147483647 : Int32)) - ((x5 &&& (2147483647 : Int32)) / 6) * 6).toInt ∧ ((x5 &&& (2147483647 : Int32)) - ((x5 &&& (2147483647 : Int32)) / 6) * 6).toInt < 6 := by rw [h1]; exact ⟨Int.emod_nonneg _ (by decide), Int.emod_lt_of_pos _ (by decide)⟩
  generalize ((x5 &&& (2147483647 : Int32)) - ((x5 &&& (2147483647 : Int32)) / 6) * 6) = n at b1
  clear h1
  split
  · rename_i q; subst q
    exact bindS (v := List.replicate 0 0) (by decide +kernel) (own_84 0 0 (by decide) own_all0 x0 x1 x2 x3 x4 _ (by simp))
  · split
    · rename_i q; subst q
      exact bindS (v := List.replicate 1 0) (by decide +kernel) (own_84 1 1 (by decide) own_all1 x0 x1 x2 x3 x4 _ (by simp))
    · split
      · rename_i q; subst q
        exact bindS (v := List.replicate 2 0) (by decide +kernel) (own_84 2 2 (by decide) own_all2 x0 x1 x2 x3 x4 _ (by simp))
      · split
        · rename_i q; subst q
          exact bindS (v := List.replicate 3 0) (by decide +kernel) (own_84 3 3 (by decide) own_all3 x0 x1 x2 x3 x4 _ (by simp))
        · split
          · rename_i q; subst q
            exact bindS (v := List.replicate 4 0) (by decide +kernel) (own_84 4 4 (by decide) own_all4 x0 x1 x2 x3 x4 _ (by simp))
          · rename_i q0 q1 q2 q3 q4
            have z0 : (0 : Int32).toInt = 0 := by decide
            have z1 : (1 : Int32).toInt = 1 := by decide
            have z2 : (2 : Int32).toInt = 2 := by decide
            have z3 : (3 : Int32).toInt = 3 := by decide
            have z4 : (4 : Int32).toInt = 4 := by decide
            have z5 : (5 : Int32).toInt = 5 := by decide
            rw [← Int32.toInt_inj] at q0 q1 q2 q3 q4
            obtain rfl : n = 5 := Int32.toInt_inj.mp (by omega)
            exact bindS (v := List.replicate 5 0) (by decide +kernel) (own_84 5 5 (by decide) own_all5 x0 x1 x2 x3 x4 _ (by simp))
set_option maxRecDepth 65536 in
set_option maxHeartbeats 40000000 in
theorem comes_1 {Post : Tables → Env → Array Value → State → Outcome → State → Prop} (hpost : ∀ tb e args s v u, (limb_1_1.after args s (.returned v) u = true ∧ limb_1_2.after args s (.returned v) u = true ∧ True) → FrameEnd s (.returned v) u (Jvm.fieldLocs frame_1_writes args s ++ Jvm.arrayLocs frame_1_arrays args s ++ Jvm.staticLocs frame_1_statics s) 16 128 → Post tb e args s (.returned v) u) :
    ArmFor flags0 classFile x code maxLocals ret World_1 tables_1 room_1 Calls_1 rest_1 Pre_1 Post := by
  intro l hfl _ _ p e ha hc hk s m args below hf hA hF happ hP
  obtain ⟨hcalls, hrest, hpre⟩ := hP
  obtain ⟨-, -, -, hnamed, -, -, -, hat⟩ := (Spec.applies_iff hf).mp happ
  obtain ⟨hg, hn⟩ := and_e (Cond.before_iff.mp (show (Jvm.Cond.and given_1 narrow_1).before args s = true from hpre))
  obtain ⟨g1, g2⟩ := and_e hg
  obtain ⟨g3, g4⟩ := and_e g2
  obtain ⟨g5, g6⟩ := and_e g4
  obtain ⟨g7, g8⟩ := and_e g6
  obtain ⟨g9, g10⟩ := and_e g8
  obtain ⟨g11, g12⟩ := and_e g10
  obtain ⟨w0, w1, w2, w3, w4, w5, rfl⟩ : ∃ w0 w1 w2 w3 w4 w5 : Value, args = #[w0, w1, w2, w3, w4, w5] := by
    have hs : args.size = 6 := by simpa [Cond.value, given_1] using g1
    obtain ⟨L⟩ := args
    match L, hs with
    | [w0, w1, w2, w3, w4, w5], _ => exact ⟨w0, w1, w2, w3, w4, w5, rfl⟩
  have hw := fun d (hd : d ∈ tables_1) => atoms_spec (ws := Jvm.Cond.code x code maxLocals ret :: tables_1) hat d (List.mem_cons_of_mem _ hd)
  obtain ⟨i0, ei0⟩ := is_v g3
  obtain rfl : w0 = (.int i0) := Option.some.inj ei0
  obtain ⟨i1, ei1⟩ := is_v g5
  obtain rfl : w1 = (.int i1) := Option.some.inj ei1
  obtain ⟨i2, ei2⟩ := is_v g7
  obtain rfl : w2 = (.int i2) := Option.some.inj ei2
  obtain ⟨i3, ei3⟩ := is_v g9
  obtain rfl : w3 = (.int i3) := Option.some.inj ei3
  obtain ⟨i4, ei4⟩ := is_v g11
  obtain rfl : w4 = (.int i4) := Option.some.inj ei4
  obtain ⟨i5, ei5⟩ := is_v g12
  obtain rfl : w5 = (.int i5) := Option.some.inj ei5
  obtain ⟨fuel, hone⟩ := own_law i0 i1 i2 i3 i4 i5
  obtain ⟨n, o, h1, h2, h3, _, L, rfl, ⟨rfl, N⟩, hq⟩ := rm0 l s _ hw tables_1 i0 i1 i2 i3 i4 i5 s.heap s.heap.size (Nat.le_refl _) fuel _ hone p e ha hc hk s m _ below hf ((Spec.applies_iff_loose hf).mp happ).1 ⟨rfl, State.Warmed39.refl s, rfl⟩ trivial
  refine ⟨n, _, h1, h2, h3, hpost _ _ _ _ _ _ ⟨Cond.after_iff.mpr rfl, Cond.after_iff.mpr (eq_i res_at (Term.int_eval (1)) rfl), trivial⟩ ⟨hq.1, hq.2.1, (hq.2.2.sift fun y hy => Or.inr (N y hy)).mono (by decide) (by decide)⟩⟩
theorem main_1_1 : Claimed_1_1 := comes_1 fun _ _ _ _ _ _ h hF => ⟨h.1, hF⟩
theorem main_1_2 : Claimed_1_2 := comes_1 fun _ _ _ _ _ _ h hF => ⟨h.2.1, hF⟩
end Jvm.Pilot.@@N@@
namespace Jvm.Pilot.@@N@@
open Jvm Jvm.ClassFile Sem Op Lib Jvm.Free Jvm.Stand Jvm.Pilot.@@N@@.Jvm.D
/-! MADE BY PROGRAM (witnessworld.py) out of the Statement's table words and the real class files: 9 classes; the members and pool entries that the words name. The judged class is class 1, her method 9. -/
namespace start1
open Jvm.ClassFile
def u (s : String) : CpInfo := .utf8 (stringToUtf16 s)
/-- a pool by its gaps: so many unusable entries, then the entry; so many at the end -/
def gap : Nat → List CpInfo → List CpInfo
  | 0, r => r
  | n + 1, r => .unusable :: gap n r
def poolList (es : List (Nat × CpInfo)) (last : Nat) : List CpInfo := es.foldr (fun e r => gap e.1 (e.2 :: r)) (gap last [])
def pool (es : List (Nat × CpInfo)) (last : Nat) : Array CpInfo := ⟨poolList es last⟩
def fileOf (pool : Array CpInfo) (this : Nat) (attrs : Array Attribute := #[]) (ms : Array MethodInfo := #[]) (fl : Nat := 33) (sup : Nat := 0) (ifs : Array Nat := #[]) (fds : Array FieldInfo := #[]) : ClassFile where
  minorVersion := 0
  majorVersion := 65
  constantPool := pool
  accessFlags := fl
  thisClass := this
  superClass := sup
  interfaces := ifs
  fields := fds
  methods := ms
  attributes := attrs
def plain (name : String) (sup : Option ClassId) : Class where
  name := name
  kind := .ordinary
  loader := none
  accessFlags := 33
  super := sup
  interfaces := #[]
  cf := none
  fields := #[]
  methods := #[]
  instanceTypes := #[]
  staticTypes := #[]
  resolved := #[]
  callSites := []
  init := .initialized
  statics := none
  mirror := none

def pool0 : Array CpInfo := pool [(5, u "<init>"), (0, u "()V"), (1, .class_ 10), (1, u "java/lang/Object")] 113

def k0c0 : Code := { maxStack := 0, maxLocals := 1, code := object_method_1_code, exceptionTable := #[], attributes := #[] }
def k0m0 : Method := { name := "<init>", desc := "()V", sig := { parameters := [], returnType := none }, accessFlags := 1, code := some k0c0 }
/-- java/lang/Object -/
def k0 : Class := { plain "java/lang/Object" none with
  accessFlags := 33
  interfaces := #[]
  cf := some (fileOf pool0 8 #[] #[{ accessFlags := 1, nameIndex := 5, descriptorIndex := 6, attributes := #[] }] 33 0 #[] #[])
  fields := #[]
  methods := #[k0m0]
  instanceTypes := #[]
  staticTypes := #[]
  resolved := Array.replicate 124 none
  statics := none }

def pool1 : Array CpInfo := pool [(2, .class_ 4), (1, u "java/lang/Object"), (0, u "<init>"), (0, u "()V"), (0, .methodref 8 9), (0, .class_ 10), (0, .nameAndType 11 12), (0, u "com/example/braid/braid/BodyLinesNextNotBlankPinLaw"), (0, u "cont"), (0, u "([BIII)Z"), (0, .methodref 8 14), (0, .nameAndType 15 12), (0, u "nl"), (0, .methodref 8 17), (0, .nameAndType 18 19), (0, u "firstContent"), (0, u "([BII)I"), (0, .methodref 8 21), (0, .nameAndType 22 19), (0, u "lastNL"), (0, .methodref 8 24), (0, .nameAndType 25 19), (0, u "firstNL"), (0, .methodref 27 28), (0, .class_ 29), (0, .nameAndType 30 31), (0, u "com/example/braid/braid/BodyLines"), (0, u "start"), (0, u "()I"), (0, .methodref 27 33), (0, .nameAndType 34 31), (0, u "length"), (0, .methodref 27 36), (0, .nameAndType 37 31), (0, u "number"), (0, .methodref 8 39), (0, .nameAndType 40 19), (0, u "countNL"), (0, .integer 2147483647), (0, .methodref 8 43), (0, .nameAndType 44 45), (0, u "draw"), (0, u "(I)B"), (0, .methodref 27 47), (0, .nameAndType 5 48), (0, u "([B)V"), (0, .methodref 27 50), (0, .nameAndType 51 52), (0, u "nextNotBlank"), (0, u "()Z"), (0, .methodref 8 54), (0, .nameAndType 55 56), (0, u "check"), (0, u "([BIIIZLcom/example/braid/braid/BodyLines;)Z"), (3, u "law"), (0, u "(IIIIII)Z")] 4

def k1m0 : Method := { name := "<init>", desc := "()V", sig := { parameters := [], returnType := none }, accessFlags := 1, code := none }
def k1c1 : Code := { maxStack := 2, maxLocals := 2, code := method_2_code, exceptionTable := #[], attributes := #[] }
def k1m1 : Method := { name := "draw", desc := "(I)B", sig := { parameters := [.int], returnType := some .byte }, accessFlags := 10, code := some k1c1 }
def k1c2 : Code := { maxStack := 2, maxLocals := 4, code := method_3_code, exceptionTable := #[], attributes := #[] }
def k1m2 : Method := { name := "cont", desc := "([BIII)Z", sig := { parameters := [(.array .byte), .int, .int, .int], returnType := some .boolean }, accessFlags := 10, code := some k1c2 }
def k1c3 : Code := { maxStack := 4, maxLocals := 3, code := method_4_code, exceptionTable := #[], attributes := #[] }
def k1m3 : Method := { name := "firstContent", desc := "([BII)I", sig := { parameters := [(.array .byte), .int, .int], returnType := some .int }, accessFlags := 10, code := some k1c3 }
def k1c4 : Code := { maxStack := 2, maxLocals := 4, code := method_5_code, exceptionTable := #[], attributes := #[] }
def k1m4 : Method := { name := "nl", desc := "([BIII)Z", sig := { parameters := [(.array .byte), .int, .int, .int], returnType := some .boolean }, accessFlags := 10, code := some k1c4 }
def k1c5 : Code := { maxStack := 4, maxLocals := 3, code := method_6_code, exceptionTable := #[], attributes := #[] }
def k1m5 : Method := { name := "lastNL", desc := "([BII)I", sig := { parameters := [(.array .byte), .int, .int], returnType := some .int }, accessFlags := 10, code := some k1c5 }
def k1c6 : Code := { maxStack := 4, maxLocals := 3, code := method_7_code, exceptionTable := #[], attributes := #[] }
def k1m6 : Method := { name := "firstNL", desc := "([BII)I", sig := { parameters := [(.array .byte), .int, .int], returnType := some .int }, accessFlags := 10, code := some k1c6 }
def k1c7 : Code := { maxStack := 4, maxLocals := 4, code := method_8_code, exceptionTable := #[], attributes := #[] }
def k1m7 : Method := { name := "countNL", desc := "([BII)I", sig := { parameters := [(.array .byte), .int, .int], returnType := some .int }, accessFlags := 10, code := some k1c7 }
def k1c8 : Code := { maxStack := 5, maxLocals := 10, code := method_9_code, exceptionTable := #[], attributes := #[] }
def k1m8 : Method := { name := "check", desc := "([BIIIZLcom/example/braid/braid/BodyLines;)Z", sig := { parameters := [(.array .byte), .int, .int, .int, .boolean, (.object "com/example/braid/braid/BodyLines")], returnType := some .boolean }, accessFlags := 10, code := some k1c8 }
def k1c9 : Code := { maxStack := 6, maxLocals := 13, code := code, exceptionTable := #[], attributes := #[] }
def k1m9 : Method := { name := "law", desc := "(IIIIII)Z", sig := { parameters := [.int, .int, .int, .int, .int, .int], returnType := some .boolean }, accessFlags := 9, code := some k1c9 }
/-- com/example/braid/braid/BodyLinesNextNotBlankPinLaw -/
def k1 : Class := { plain "com/example/braid/braid/BodyLinesNextNotBlankPinLaw" (some 0) with
  accessFlags := 49
  interfaces := #[]
  cf := some (fileOf pool1 8 #[] #[{ accessFlags := 1, nameIndex := 5, descriptorIndex := 6, attributes := #[] }, { accessFlags := 10, nameIndex := 44, descriptorIndex := 45, attributes := #[] }, { accessFlags := 10, nameIndex := 11, descriptorIndex := 12, attributes := #[] }, { accessFlags := 10, nameIndex := 18, descriptorIndex := 19, attributes := #[] }, { accessFlags := 10, nameIndex := 15, descriptorIndex := 12, attributes := #[] }, { accessFlags := 10, nameIndex := 22, descriptorIndex := 19, attributes := #[] }, { accessFlags := 10, nameIndex := 25, descriptorIndex := 19, attributes := #[] }, { accessFlags := 10, nameIndex := 40, descriptorIndex := 19, attributes := #[] }, { accessFlags := 10, nameIndex := 55, descriptorIndex := 56, attributes := #[] }, { accessFlags := 9, nameIndex := 60, descriptorIndex := 61, attributes := #[] }] 49 2 #[] #[])
  fields := #[]
  methods := #[k1m0, k1m1, k1m2, k1m3, k1m4, k1m5, k1m6, k1m7, k1m8, k1m9]
  instanceTypes := #[]
  staticTypes := #[]
  resolved := Array.replicate 66 none
  statics := none }

def pool2 : Array CpInfo := pool [(1, .methodref 2 3), (0, .class_ 4), (0, .nameAndType 5 6), (0, u "java/lang/Object"), (0, u "<init>"), (0, u "()V"), (0, .fieldref 8 9), (0, .class_ 10), (0, .nameAndType 11 12), (0, u "com/example/braid/braid/BodyLines"), (0, u "end"), (0, u "I"), (0, .fieldref 8 14), (0, .nameAndType 15 16), (0, u "body"), (0, u "[B"), (0, .fieldref 8 18), (0, .nameAndType 19 12), (0, u "start"), (0, .fieldref 8 21), (0, .nameAndType 22 12), (0, u "number"), (0, .methodref 8 24), (0, .nameAndType 25 26), (0, u "next"), (0, u "()Z"), (0, .methodref 8 28), (0, .nameAndType 29 26), (0, u "isBlank"), (0, u "([B)V"), (3, u "nextNotBlank"), (0, u "()I"), (0, u "length")] 2

def k2c0 : Code := { maxStack := 2, maxLocals := 2, code := prog_2_method_1_code, exceptionTable := #[], attributes := #[] }
def k2m0 : Method := { name := "<init>", desc := "([B)V", sig := { parameters := [(.array .byte)], returnType := none }, accessFlags := 0, code := some k2c0 }
def k2c1 : Code := { maxStack := 3, maxLocals := 1, code := prog_2_method_2_code, exceptionTable := #[], attributes := #[] }
def k2m1 : Method := { name := "next", desc := "()Z", sig := { parameters := [], returnType := some .boolean }, accessFlags := 0, code := some k2c1 }
def k2c2 : Code := { maxStack := 1, maxLocals := 2, code := prog_2_method_3_code, exceptionTable := #[], attributes := #[] }
def k2m2 : Method := { name := "nextNotBlank", desc := "()Z", sig := { parameters := [], returnType := some .boolean }, accessFlags := 0, code := some k2c2 }
def k2c3 : Code := { maxStack := 1, maxLocals := 1, code := prog_2_method_4_code, exceptionTable := #[], attributes := #[] }
def k2m3 : Method := { name := "start", desc := "()I", sig := { parameters := [], returnType := some .int }, accessFlags := 0, code := some k2c3 }
def k2c4 : Code := { maxStack := 2, maxLocals := 1, code := prog_2_method_5_code, exceptionTable := #[], attributes := #[] }
def k2m4 : Method := { name := "length", desc := "()I", sig := { parameters := [], returnType := some .int }, accessFlags := 0, code := some k2c4 }
def k2c5 : Code := { maxStack := 1, maxLocals := 1, code := prog_2_method_6_code, exceptionTable := #[], attributes := #[] }
def k2m5 : Method := { name := "number", desc := "()I", sig := { parameters := [], returnType := some .int }, accessFlags := 0, code := some k2c5 }
def k2c6 : Code := { maxStack := 2, maxLocals := 2, code := prog_2_method_7_code, exceptionTable := #[], attributes := #[] }
def k2m6 : Method := { name := "isBlank", desc := "()Z", sig := { parameters := [], returnType := some .boolean }, accessFlags := 2, code := some k2c6 }
/-- com/example/braid/braid/BodyLines -/
def k2 : Class := { plain "com/example/braid/braid/BodyLines" (some 0) with
  accessFlags := 48
  interfaces := #[]
  cf := some (fileOf pool2 8 #[] #[{ accessFlags := 0, nameIndex := 5, descriptorIndex := 30, attributes := #[] }, { accessFlags := 0, nameIndex := 25, descriptorIndex := 26, attributes := #[] }, { accessFlags := 0, nameIndex := 34, descriptorIndex := 26, attributes := #[] }, { accessFlags := 0, nameIndex := 19, descriptorIndex := 35, attributes := #[] }, { accessFlags := 0, nameIndex := 36, descriptorIndex := 35, attributes := #[] }, { accessFlags := 0, nameIndex := 22, descriptorIndex := 35, attributes := #[] }, { accessFlags := 2, nameIndex := 29, descriptorIndex := 26, attributes := #[] }] 48 2 #[] #[{ accessFlags := 18, nameIndex := 15, descriptorIndex := 16, attributes := #[] }, { accessFlags := 2, nameIndex := 19, descriptorIndex := 12, attributes := #[] }, { accessFlags := 2, nameIndex := 11, descriptorIndex := 12, attributes := #[] }, { accessFlags := 2, nameIndex := 22, descriptorIndex := 12, attributes := #[] }])
  fields := #[{ name := "body", type := (.array .byte), accessFlags := 18, slot := 0, constantValue := 0 }, { name := "start", type := .int, accessFlags := 2, slot := 1, constantValue := 0 }, { name := "end", type := .int, accessFlags := 2, slot := 2, constantValue := 0 }, { name := "number", type := .int, accessFlags := 2, slot := 3, constantValue := 0 }]
  methods := #[k2m0, k2m1, k2m2, k2m3, k2m4, k2m5, k2m6]
  instanceTypes := #[(.array .byte), .int, .int, .int]
  staticTypes := #[]
  resolved := Array.replicate 39 none
  statics := none }

def pool3 : Array CpInfo := pool [(1, u "java/lang/Cloneable"), (0, .class_ 1), (0, u "java/lang/Object"), (0, .class_ 3)] 3

/-- java/lang/Cloneable -/
def k3 : Class := { plain "java/lang/Cloneable" (some 0) with
  accessFlags := 1537
  interfaces := #[]
  cf := some (fileOf pool3 2 #[] #[] 1537 4 #[] #[])
  fields := #[]
  methods := #[]
  instanceTypes := #[]
  staticTypes := #[]
  resolved := Array.replicate 8 none
  statics := none }

def pool4 : Array CpInfo := pool [(1, u "java/io/Serializable"), (0, .class_ 1), (0, u "java/lang/Object"), (0, .class_ 3)] 3

/-- java/io/Serializable -/
def k4 : Class := { plain "java/io/Serializable" (some 0) with
  accessFlags := 1537
  interfaces := #[]
  cf := some (fileOf pool4 2 #[] #[] 1537 4 #[] #[])
  fields := #[]
  methods := #[]
  instanceTypes := #[]
  staticTypes := #[]
  resolved := Array.replicate 8 none
  statics := none }

/-- the primitive byte -/
def k5 : Class := { plain "byte" none with kind := .primitive 'B', accessFlags := 0x411 }
/-- [B -/
def k6 : Class := { plain "[B" (some 0) with kind := .array 5 .byte, interfaces := #[3, 4], accessFlags := 1041 }

/-- the primitive int -/
def k7 : Class := { plain "int" none with kind := .primitive 'I', accessFlags := 0x411 }
/-- [I -/
def k8 : Class := { plain "[I" (some 0) with kind := .array 7 .int, interfaces := #[3, 4], accessFlags := 1041 }

def heap : Heap := #[]
def classes : Array Class := #[k0, k1, k2, k3, k4, k5, k6, k7, k8]
def interned : List (Array UInt16 × Addr) := []
def slotsUsed : Nat := 0
def theMethod : MethodId := ⟨1, 9⟩
def args0 : Array Value := #[.int 1, .int 3, .int 2, .int 5, .int 4, .int 6]
def aboutOver (below : List Frame) : State where
  vm := { classes := classes, interned := interned.toArray }
  heap := heap
  slotsUsed := slotsUsed
  threads := #[{ frames := .invoking theMethod args0 :: below }]
def below0 : List Frame := [.native { method := ⟨0, 0⟩, args := #[] }]
def about1 : State := aboutOver below0
def p0 : Program := .bare "" "" ""
def e0 : Env := launch0.env 0 0 0
theorem w_frames : about1.frames = Frame.invoking theMethod args0 :: below0 := rfl
set_option maxRecDepth 65536 in
theorem w_args : argsFit about1.vm theMethod args0 = true := by decide +kernel
set_option maxRecDepth 65536 in
theorem w_heap : heapFits about1 = true := by decide +kernel
set_option maxRecDepth 65536 in
theorem w_runnable : about1.curStatus? = some .runnable := by decide +kernel
set_option maxRecDepth 65536 in
theorem w_alone : about1.alone = true := by decide +kernel
set_option maxRecDepth 65536 in
theorem w_named : about1.methodNamed? x = some theMethod := by decide +kernel
set_option maxRecDepth 65536 in
theorem w_hears : about1.hears theMethod below0 = true := by decide +kernel
set_option maxRecDepth 65536 in
theorem w_ripe : about1.ripe theMethod args0 below0 = true := by decide +kernel
theorem w_running : about1.status = .running := rfl
set_option maxRecDepth 65536 in
theorem w_room : about1.hasRoom e0.platform room_1 = true :=
  launch0.hasRoom_least _ room_1 (by decide +kernel) (by decide +kernel) (by decide +kernel) (by decide +kernel) (by decide +kernel) (by decide +kernel)
theorem allAtoms_all (ts : List Jvm.Cond) (a : Array Jvm.Value) (st : Jvm.State) : (allAtoms ts).before a st = ts.all (fun c => c.before a st) := by
  induction ts with
  | nil => rfl
  | cons c t ih =>
    show (Jvm.Cond.and c (allAtoms t)).before a st = _
    rw [Jvm.Cond.before_and, ih, List.all_cons]
def words1 : List Jvm.Cond := Jvm.Cond.code x code maxLocals ret :: tables_1
/-- a 'code' word, met by the world's own term for the bytes: nothing is compared byte by byte -/
theorem code_word {y : MethodName} {bytes : ByteArray} {mx : Nat} {rt : Option FieldType} {a : Array Value} {s : State} {m : MethodId} {meth : Method} {c : Code} (h1 : s.methodNamed? y = some m) (h2 : s.vm.method? m = some meth) (h3 : meth.code = some c) (h4 : c.code = bytes)
    (h5 : (c.maxLocals == mx && c.exceptionTable.isEmpty && decide (c.maxStack ≤ mostOperands) && decide (meth.sig.returnType = rt) && !meth.locks && decide (parseMethodDescriptor y.desc = some meth.sig)) = true) : (Jvm.Cond.code y bytes mx rt).before a s = true := by
  simp only [Bool.and_eq_true, beq_iff_eq, Bool.not_eq_true', decide_eq_true_eq] at h5
  obtain ⟨⟨⟨⟨⟨g1, g2⟩, g3⟩, g4⟩, g5⟩, g6⟩ := h5
  simp [Cond.before, Cond.holds, Cond.value, h1, h2, h3, h4, g1, g2, g3, g4, g5, g6]
def isCode : Jvm.Cond → Bool
  | .code _ _ _ _ => true
  | _ => false
theorem all_split {L : List Jvm.Cond} {P : Jvm.Cond → Bool} (h1 : L.all (fun c => isCode c || P c) = true) (h2 : ∀ c ∈ L.filter isCode, P c = true) : L.all P = true := by
  refine List.all_eq_true.mpr fun c hc => ?_
  have h := List.all_eq_true.mp h1 c hc
  rcases Bool.eq_false_or_eq_true (isCode c) with hi | hi
  · exact h2 c (List.mem_filter.mpr ⟨hc, hi⟩)
  · simpa [hi] using h
set_option maxRecDepth 65536 in
theorem w_c0 : (Jvm.Cond.code x code maxLocals ret).before args0 about1 = true := code_word (m := ⟨1, 9⟩) (meth := k1m9) (c := k1c9) (by decide +kernel) rfl rfl rfl (by decide +kernel)
set_option maxRecDepth 65536 in
theorem w_c1 : (Jvm.Cond.code ({ cls := "com/example/braid/braid/BodyLinesNextNotBlankPinLaw", name := "draw", desc := "(I)B" } : Jvm.MethodName) method_2_code (2 : Nat) (Option.some Jvm.ClassFile.FieldType.byte)).before args0 about1 = true := code_word (m := ⟨1, 1⟩) (meth := k1m1) (c := k1c1) (by decide +kernel) rfl rfl rfl (by decide +kernel)
set_option maxRecDepth 65536 in
theorem w_c2 : (Jvm.Cond.code ({ cls := "com/example/braid/braid/BodyLines", name := "<init>", desc := "([B)V" } : Jvm.MethodName) prog_2_method_1_code (2 : Nat) (Option.none : Option Jvm.ClassFile.FieldType)).before args0 about1 = true := code_word (m := ⟨2, 0⟩) (meth := k2m0) (c := k2c0) (by decide +kernel) rfl rfl rfl (by decide +kernel)
set_option maxRecDepth 65536 in
theorem w_c3 : (Jvm.Cond.code ({ cls := "java/lang/Object", name := "<init>", desc := "()V" } : Jvm.MethodName) object_method_1_code (1 : Nat) (Option.none : Option Jvm.ClassFile.FieldType)).before args0 about1 = true := code_word (m := ⟨0, 0⟩) (meth := k0m0) (c := k0c0) (by decide +kernel) rfl rfl rfl (by decide +kernel)
set_option maxRecDepth 65536 in
theorem w_c4 : (Jvm.Cond.code ({ cls := "com/example/braid/braid/BodyLines", name := "nextNotBlank", desc := "()Z" } : Jvm.MethodName) prog_2_method_3_code (2 : Nat) (Option.some Jvm.ClassFile.FieldType.boolean)).before args0 about1 = true := code_word (m := ⟨2, 2⟩) (meth := k2m2) (c := k2c2) (by decide +kernel) rfl rfl rfl (by decide +kernel)
set_option maxRecDepth 65536 in
theorem w_c5 : (Jvm.Cond.code ({ cls := "com/example/braid/braid/BodyLines", name := "next", desc := "()Z" } : Jvm.MethodName) prog_2_method_2_code (1 : Nat) (Option.some Jvm.ClassFile.FieldType.boolean)).before args0 about1 = true := code_word (m := ⟨2, 1⟩) (meth := k2m1) (c := k2c1) (by decide +kernel) rfl rfl rfl (by decide +kernel)
set_option maxRecDepth 65536 in
theorem w_c6 : (Jvm.Cond.code ({ cls := "com/example/braid/braid/BodyLines", name := "isBlank", desc := "()Z" } : Jvm.MethodName) prog_2_method_7_code (2 : Nat) (Option.some Jvm.ClassFile.FieldType.boolean)).before args0 about1 = true := code_word (m := ⟨2, 6⟩) (meth := k2m6) (c := k2c6) (by decide +kernel) rfl rfl rfl (by decide +kernel)
set_option maxRecDepth 65536 in
theorem w_c7 : (Jvm.Cond.code ({ cls := "com/example/braid/braid/BodyLinesNextNotBlankPinLaw", name := "check", desc := "([BIIIZLcom/example/braid/braid/BodyLines;)Z" } : Jvm.MethodName) method_9_code (10 : Nat) (Option.some Jvm.ClassFile.FieldType.boolean)).before args0 about1 = true := code_word (m := ⟨1, 8⟩) (meth := k1m8) (c := k1c8) (by decide +kernel) rfl rfl rfl (by decide +kernel)
set_option maxRecDepth 65536 in
theorem w_c8 : (Jvm.Cond.code ({ cls := "com/example/braid/braid/BodyLinesNextNotBlankPinLaw", name := "firstContent", desc := "([BII)I" } : Jvm.MethodName) method_4_code (3 : Nat) (Option.some Jvm.ClassFile.FieldType.int)).before args0 about1 = true := code_word (m := ⟨1, 3⟩) (meth := k1m3) (c := k1c3) (by decide +kernel) rfl rfl rfl (by decide +kernel)
set_option maxRecDepth 65536 in
theorem w_c9 : (Jvm.Cond.code ({ cls := "com/example/braid/braid/BodyLinesNextNotBlankPinLaw", name := "cont", desc := "([BIII)Z" } : Jvm.MethodName) method_3_code (4 : Nat) (Option.some Jvm.ClassFile.FieldType.boolean)).before args0 about1 = true := code_word (m := ⟨1, 2⟩) (meth := k1m2) (c := k1c2) (by decide +kernel) rfl rfl rfl (by decide +kernel)
set_option maxRecDepth 65536 in
theorem w_c10 : (Jvm.Cond.code ({ cls := "com/example/braid/braid/BodyLines", name := "start", desc := "()I" } : Jvm.MethodName) prog_2_method_4_code (1 : Nat) (Option.some Jvm.ClassFile.FieldType.int)).before args0 about1 = true := code_word (m := ⟨2, 3⟩) (meth := k2m3) (c := k2c3) (by decide +kernel) rfl rfl rfl (by decide +kernel)
set_option maxRecDepth 65536 in
theorem w_c11 : (Jvm.Cond.code ({ cls := "com/example/braid/braid/BodyLines", name := "length", desc := "()I" } : Jvm.MethodName) prog_2_method_5_code (1 : Nat) (Option.some Jvm.ClassFile.FieldType.int)).before args0 about1 = true := code_word (m := ⟨2, 4⟩) (meth := k2m4) (c := k2c4) (by decide +kernel) rfl rfl rfl (by decide +kernel)
set_option maxRecDepth 65536 in
theorem w_c12 : (Jvm.Cond.code ({ cls := "com/example/braid/braid/BodyLines", name := "number", desc := "()I" } : Jvm.MethodName) prog_2_method_6_code (1 : Nat) (Option.some Jvm.ClassFile.FieldType.int)).before args0 about1 = true := code_word (m := ⟨2, 5⟩) (meth := k2m5) (c := k2c5) (by decide +kernel) rfl rfl rfl (by decide +kernel)
set_option maxRecDepth 65536 in
theorem w_c13 : (Jvm.Cond.code ({ cls := "com/example/braid/braid/BodyLinesNextNotBlankPinLaw", name := "lastNL", desc := "([BII)I" } : Jvm.MethodName) method_6_code (3 : Nat) (Option.some Jvm.ClassFile.FieldType.int)).before args0 about1 = true := code_word (m := ⟨1, 5⟩) (meth := k1m5) (c := k1c5) (by decide +kernel) rfl rfl rfl (by decide +kernel)
set_option maxRecDepth 65536 in
theorem w_c14 : (Jvm.Cond.code ({ cls := "com/example/braid/braid/BodyLinesNextNotBlankPinLaw", name := "nl", desc := "([BIII)Z" } : Jvm.MethodName) method_5_code (4 : Nat) (Option.some Jvm.ClassFile.FieldType.boolean)).before args0 about1 = true := code_word (m := ⟨1, 4⟩) (meth := k1m4) (c := k1c4) (by decide +kernel) rfl rfl rfl (by decide +kernel)
set_option maxRecDepth 65536 in
theorem w_c15 : (Jvm.Cond.code ({ cls := "com/example/braid/braid/BodyLinesNextNotBlankPinLaw", name := "firstNL", desc := "([BII)I" } : Jvm.MethodName) method_7_code (3 : Nat) (Option.some Jvm.ClassFile.FieldType.int)).before args0 about1 = true := code_word (m := ⟨1, 6⟩) (meth := k1m6) (c := k1c6) (by decide +kernel) rfl rfl rfl (by decide +kernel)
set_option maxRecDepth 65536 in
theorem w_c16 : (Jvm.Cond.code ({ cls := "com/example/braid/braid/BodyLinesNextNotBlankPinLaw", name := "countNL", desc := "([BII)I" } : Jvm.MethodName) method_8_code (4 : Nat) (Option.some Jvm.ClassFile.FieldType.int)).before args0 about1 = true := code_word (m := ⟨1, 7⟩) (meth := k1m7) (c := k1c7) (by decide +kernel) rfl rfl rfl (by decide +kernel)
def codes1 : List Jvm.Cond := [Jvm.Cond.code x code maxLocals ret, Jvm.Cond.code ({ cls := "com/example/braid/braid/BodyLinesNextNotBlankPinLaw", name := "draw", desc := "(I)B" } : Jvm.MethodName) method_2_code (2 : Nat) (Option.some Jvm.ClassFile.FieldType.byte), Jvm.Cond.code ({ cls := "com/example/braid/braid/BodyLines", name := "<init>", desc := "([B)V" } : Jvm.MethodName) prog_2_method_1_code (2 : Nat) (Option.none : Option Jvm.ClassFile.FieldType), Jvm.Cond.code ({ cls := "java/lang/Object", name := "<init>", desc := "()V" } : Jvm.MethodName) object_method_1_code (1 : Nat) (Option.none : Option Jvm.ClassFile.FieldType), Jvm.Cond.code ({ cls := "com/example/braid/braid/BodyLines", name := "nextNotBlank", desc := "()Z" } : Jvm.MethodName) prog_2_method_3_code (2 : Nat) (Option.some Jvm.ClassFile.FieldType.boolean), Jvm.Cond.code ({ cls := "com/example/braid/braid/BodyLines", name := "next", desc := "()Z" } : Jvm.MethodName) prog_2_method_2_code (1 : Nat) (Option.some Jvm.ClassFile.FieldType.boolean), Jvm.Cond.code ({ cls := "com/example/braid/braid/BodyLines", name := "isBlank", desc := "()Z" } : Jvm.MethodName) prog_2_method_7_code (2 : Nat) (Option.some Jvm.ClassFile.FieldType.boolean), Jvm.Cond.code ({ cls := "com/example/braid/braid/BodyLinesNextNotBlankPinLaw", name := "check", desc := "([BIIIZLcom/example/braid/braid/BodyLines;)Z" } : Jvm.MethodName) method_9_code (10 : Nat) (Option.some Jvm.ClassFile.FieldType.boolean), Jvm.Cond.code ({ cls := "com/example/braid/braid/BodyLinesNextNotBlankPinLaw", name := "firstContent", desc := "([BII)I" } : Jvm.MethodName) method_4_code (3 : Nat) (Option.some Jvm.ClassFile.FieldType.int), Jvm.Cond.code ({ cls := "com/example/braid/braid/BodyLinesNextNotBlankPinLaw", name := "cont", desc := "([BIII)Z" } : Jvm.MethodName) method_3_code (4 : Nat) (Option.some Jvm.ClassFile.FieldType.boolean), Jvm.Cond.code ({ cls := "com/example/braid/braid/BodyLines", name := "start", desc := "()I" } : Jvm.MethodName) prog_2_method_4_code (1 : Nat) (Option.some Jvm.ClassFile.FieldType.int), Jvm.Cond.code ({ cls := "com/example/braid/braid/BodyLines", name := "length", desc := "()I" } : Jvm.MethodName) prog_2_method_5_code (1 : Nat) (Option.some Jvm.ClassFile.FieldType.int), Jvm.Cond.code ({ cls := "com/example/braid/braid/BodyLines", name := "number", desc := "()I" } : Jvm.MethodName) prog_2_method_6_code (1 : Nat) (Option.some Jvm.ClassFile.FieldType.int), Jvm.Cond.code ({ cls := "com/example/braid/braid/BodyLinesNextNotBlankPinLaw", name := "lastNL", desc := "([BII)I" } : Jvm.MethodName) method_6_code (3 : Nat) (Option.some Jvm.ClassFile.FieldType.int), Jvm.Cond.code ({ cls := "com/example/braid/braid/BodyLinesNextNotBlankPinLaw", name := "nl", desc := "([BIII)Z" } : Jvm.MethodName) method_5_code (4 : Nat) (Option.some Jvm.ClassFile.FieldType.boolean), Jvm.Cond.code ({ cls := "com/example/braid/braid/BodyLinesNextNotBlankPinLaw", name := "firstNL", desc := "([BII)I" } : Jvm.MethodName) method_7_code (3 : Nat) (Option.some Jvm.ClassFile.FieldType.int), Jvm.Cond.code ({ cls := "com/example/braid/braid/BodyLinesNextNotBlankPinLaw", name := "countNL", desc := "([BII)I" } : Jvm.MethodName) method_8_code (4 : Nat) (Option.some Jvm.ClassFile.FieldType.int)]
set_option maxRecDepth 65536 in
theorem codes_eq : words1.filter isCode = codes1 := rfl
theorem w_codes : ∀ c ∈ words1.filter isCode, c.before args0 about1 = true := by
  rw [codes_eq]
  intro c hc
  simp only [codes1, List.mem_cons, List.not_mem_nil, or_false] at hc
  rcases hc with rfl | rfl | rfl | rfl | rfl | rfl | rfl | rfl | rfl | rfl | rfl | rfl | rfl | rfl | rfl | rfl | rfl
  · exact w_c0
  · exact w_c1
  · exact w_c2
  · exact w_c3
  · exact w_c4
  · exact w_c5
  · exact w_c6
  · exact w_c7
  · exact w_c8
  · exact w_c9
  · exact w_c10
  · exact w_c11
  · exact w_c12
  · exact w_c13
  · exact w_c14
  · exact w_c15
  · exact w_c16
set_option maxRecDepth 65536 in
theorem w_t1 : (words1.take 24).all (fun c => isCode c || c.before args0 about1) = true := by decide +kernel
set_option maxRecDepth 65536 in
theorem w_t2 : ((words1.drop 24).take 24).all (fun c => isCode c || c.before args0 about1) = true := by decide +kernel
set_option maxRecDepth 65536 in
theorem w_t3 : (((words1.drop 24).drop 24).take 24).all (fun c => isCode c || c.before args0 about1) = true := by decide +kernel
set_option maxRecDepth 65536 in
theorem w_t4 : (((words1.drop 24).drop 24).drop 24).all (fun c => isCode c || c.before args0 about1) = true := by decide +kernel
theorem w_tables : (allAtoms (Jvm.Cond.code x code maxLocals ret :: tables_1)).before args0 about1 = true := by
  rw [allAtoms_all]
  show words1.all (fun c => c.before args0 about1) = true
  refine all_split ?_ w_codes
  rw [← List.take_append_drop 24 words1, List.all_append, w_t1, ← List.take_append_drop 24 (words1.drop 24), List.all_append, w_t2, ← List.take_append_drop 24 ((words1.drop 24).drop 24), List.all_append, w_t3, w_t4]
  rfl
set_option maxRecDepth 65536 in
theorem w_case : (Jvm.Cond.and given_1 narrow_1).before args0 about1 = true := by decide +kernel
theorem w_applies : (headSpec (Jvm.Cond.code x code maxLocals ret :: tables_1) room_1).applies x e0.platform about1 = true :=
  (Spec.applies_iff w_frames).mpr ⟨w_running, w_runnable, w_alone, w_named, w_hears, w_ripe, w_room, w_tables⟩
theorem atStart : AtStart classFile x code maxLocals ret World_1 tables_1 room_1 Calls_1 rest_1 Pre_1 launch0 p0 e0 about1 theMethod args0 below0 :=
  ⟨lists_1, trivial, launch0.admits_env _ _ _, launch0.least_env, fairChoices_fair.cas, fairChoices_fair.clock, w_frames, w_args, w_heap, w_applies, trivial, trivial, w_case⟩
end start1
theorem witness_1 : WitnessClaimed_1 := ⟨start1.p0, start1.e0, start1.about1, start1.theMethod, start1.args0, start1.below0, start1.atStart⟩
end Jvm.Pilot.@@N@@
