import JvmDerived
import JvmDerived.Pilot.@@N@@Statement
import JvmDerived.Pilot.@@N@@Code
set_option linter.unusedVariables false
set_option linter.unusedSimpArgs false
namespace Jvm.RoadKit
open Sem ClassFile Op Lib Jvm.Stand Jvm.Free Jvm.LawKit
section New
variable {p : Program} {l : Launch} {e : Env} {R : Room} {s : State} {m : MethodId} {args : Array Value} {below : List Frame} {meth : Method} {c : Code} {T : State} {locs : List Loc} {cells slots : Nat}
theorem retI (X : Stand p l e R s m args below meth c T locs cells slots) (hx : p.tables.exec = Jvm.exec) {pc : Nat} {Ls : Array Slot} {z : Int32} {rest : List Value} (hret : meth.sig.returnType = some .int) (hd : decode c.code pc = .ok (.ireturn, 1)) {fs : List Frame}
    (hl : ∀ (f : JFrame) (acts : List Action), f.method = m → f.locked = none → f.entered = [] → (doReturn e (T.setTop f) acts (some (.int z))).1 = T.setFrames fs) : Steps p.tables e below (T.setTop (mkF m pc Ls (.int z :: rest))) (T.setFrames fs) := by
  have hm' : T.vm.method? m = some meth := X.method'
  have hn : narrow .int (.int z) = .int z := rfl
  show Steps p.tables e below (T.setTop { method := m, pc := pc, locals := Ls, stack := _ :: rest, locked := none }) _
  jvm_step X.here [X.here.top, hx, hd, hm', hret, hn]
  first | (intro acts; rw [hl _ acts rfl rfl rfl]) | rw [hl _ _ rfl rfl rfl]
  exact Steps.refl _
end New
end Jvm.RoadKit
namespace Jvm.Pilot.@@N@@
open Jvm Jvm.ClassFile Sem Op Lib Jvm.Free Jvm.Stand Jvm.LawKit Jvm.RoadKit Bundle Jvm.Pilot.@@N@@.Jvm.D
def QP (r : Option Value) (h0 : Heap) (n0 : Nat) (v : Option Value) (h : Heap) (L : List Loc) : Prop := v = r ∧ Fr n0 L ∧ h = h0
def Ctx (p : Program) (s : State) (m : MethodId) (meth : Method) (c : Code) (Z : State) (a0 : Array Value) (own : String) (bytes : ByteArray) (ml : Nat) (rt : Option FieldType) (name : String) : Prop :=
  p.tables.exec = Jvm.exec ∧ Z.Warmed39 s.vm ∧ (∀ d ∈ tables_1, d.before a0 Z = true) ∧ c.code = bytes ∧ c.maxLocals = ml ∧ s.vm.findClass own = some m.cls ∧ meth.sig.returnType = rt ∧ meth.locks = false ∧ meth.name = name
/-- from T with the frame g on top the run comes to a return, of which Φ holds -/
def Runs (p : Program) (e : Env) (below : List Frame) (s : State) (Φ : Option Value → Heap → List Loc → Prop) (k n : Nat) (T : State) (g : JFrame) : Prop :=
  ∃ s₂ o, Steps p.tables e below (T.setTop g) s₂ ∧ s₂.status = .running ∧ Ended s₂ below o ∧ ∃ v L, o = .returned v ∧ Φ v s₂.heap L ∧ FrameEnd s o s₂ L k n
section Own
variable {p : Program} {l : Launch} {e : Env} {R : Room} {s : State} {m : MethodId} {args : Array Value} {below : List Frame} {meth : Method} {c : Code} {T T' T0 Z : State} {a0 : Array Value} {locs : List Loc} {cells slots k n n0 : Nat} {h0 : Heap} {g g' : JFrame} {Φ : Option Value → Heap → List Loc → Prop}
theorem Runs.via (h : ∀ t, Steps p.tables e below (T'.setTop g') t → Steps p.tables e below (T.setTop g) t) (r : Runs p e below s Φ k n T' g') : Runs p e below s Φ k n T g := by
  obtain ⟨s₂, o, h1, r⟩ := r
  exact ⟨s₂, o, h _ h1, r⟩
theorem QP.cast {r r' : Option Value} (h : r = r') (H : Runs p e below s (QP r' h0 n0) k n T g) : Runs p e below s (QP r h0 n0) k n T g := by rw [h]; exact H
theorem own_retI (X : Stand p l e R s m args below meth c T locs cells slots) (hx : p.tables.exec = Jvm.exec) (hlk : meth.locks = false) (hret : meth.sig.returnType = some .int) {pc : Nat} {Ls : Array Slot} {z : Int32} {rest : List Value} (hd : decode c.code pc = .ok (.ireturn, 1)) (hk : cells ≤ k) (hn : slots ≤ n) (hΦ : Φ (some (.int z)) T.heap locs) :
    Runs p e below s Φ k n T (mkF m pc Ls (.int z :: rest)) := by
  obtain ⟨fs, hr, hrun, hended, hW, hsame⟩ := X.leave (v := some (.int z)) (fun h => by rw [hret] at h; cases h) hlk
  exact ⟨_, _, retI X hx hret hd hr, hrun, hended, _, _, rfl, hΦ, ⟨_, rfl⟩, hW, hsame.mono hk hn⟩
theorem own_retN (X : Stand p l e R s m args below meth c T locs cells slots) (hx : p.tables.exec = Jvm.exec) (hlk : meth.locks = false) {t : FieldType} (hret : meth.sig.returnType = some t) (ht : t = .boolean ∨ t = .byte ∨ t = .char ∨ t = .short) {pc : Nat} {Ls : Array Slot} {z : Int32} {rest : List Value} (hd : decode c.code pc = .ok (.ireturn, 1)) (hk : cells ≤ k) (hn : slots ≤ n) (hΦ : Φ (some (.int (nar t z))) T.heap locs) :
    Runs p e below s Φ k n T (mkF m pc Ls (.int z :: rest)) := by
  obtain ⟨fs, hr, hrun, hended, hW, hsame⟩ := X.leave (v := some (.int (nar t z))) (fun h => by rw [hret] at h; cases h) hlk
  exact ⟨_, _, retN X hx hret ht hd hr, hrun, hended, _, _, rfl, hΦ, ⟨_, rfl⟩, hW, hsame.mono hk hn⟩
theorem own_retJ (X : Stand p l e R s m args below meth c T locs cells slots) (hx : p.tables.exec = Jvm.exec) (hlk : meth.locks = false) (hret : meth.sig.returnType = some .long) {pc : Nat} {Ls : Array Slot} {z : Int64} (hd : decode c.code pc = .ok (.lreturn, 1)) (hk : cells ≤ k) (hn : slots ≤ n) (hΦ : Φ (some (.long z)) T.heap locs) :
    Runs p e below s Φ k n T (mkF m pc Ls [.long z]) := by
  obtain ⟨fs, hr, hrun, hended, hW, hsame⟩ := X.leave (v := some (.long z)) (fun h => by rw [hret] at h; cases h) hlk
  exact ⟨_, _, X.lreturnOut hx hret hd hr, hrun, hended, _, _, rfl, hΦ, ⟨_, rfl⟩, hW, hsame.mono hk hn⟩
theorem own_privSel {s : State} {args : Array Value} {y : MethodName} {n : Nat} (hwi : (Cond.instantiable y.cls n).before args s = true) (hp : (Cond.privateMethod y).before args s = true) (hinst : (Cond.instanceMethod y).before args s = true) (hy : y.cls ≠ "java/lang/invoke/MethodHandle" ∧ y.cls ≠ "java/lang/invoke/VarHandle") : (Cond.selects y.cls y y).before args s = true := by
  obtain ⟨c, k, h1, h2, h3, h4, -⟩ := Cond.instantiable_spec hwi
  exact selects_self_of_private h1 h2 (by simp only [Bool.or_eq_false_iff] at h4; exact h4.1) (Cond.privateMethod_at hp) hinst hy
theorem own_retV (X : Stand p l e R s m args below meth c T locs cells slots) (hx : p.tables.exec = Jvm.exec) (hlk : meth.locks = false) (hret : meth.sig.returnType = none) {pc : Nat} {Ls : Array Slot} (hd : decode c.code pc = .ok (.return_, 1)) (hk : cells ≤ k) (hn : slots ≤ n) (hΦ : Φ none T.heap locs) :
    Runs p e below s Φ k n T (mkF m pc Ls []) := by
  obtain ⟨fs, hr, hrun, hended, hW, hsame⟩ := X.leave (v := none) (fun _ => rfl) hlk
  exact ⟨_, _, X.returnOut hx hret hd hr, hrun, hended, _, _, rfl, hΦ, ⟨_, rfl⟩, hW, hsame.mono hk hn⟩
theorem own_retR (X : Stand p l e R s m args below meth c T locs cells slots) (hx : p.tables.exec = Jvm.exec) (hlk : meth.locks = false) {t : FieldType} (hret : meth.sig.returnType = some t) (ht : t.isReference = true) {pc : Nat} {Ls : Array Slot} {a : Addr} {rest : List Value} (hd : decode c.code pc = .ok (.areturn, 1)) (hk : cells ≤ k) (hn : slots ≤ n) (hΦ : Φ (some (.ref a)) T.heap locs) :
    Runs p e below s Φ k n T (mkF m pc Ls (.ref a :: rest)) := by
  obtain ⟨fs, hr, hrun, hended, hW, hsame⟩ := X.leave (v := some (.ref a)) (fun h => by rw [hret] at h; cases h) hlk
  exact ⟨_, _, retOut X hx hret (by cases t <;> first | rfl | (cases ht; done)) (Or.inr (Or.inr (Or.inr (Or.inr ⟨rfl, ht, rfl⟩)))) hd hr, hrun, hended, _, _, rfl, hΦ, ⟨_, rfl⟩, hW, hsame.mono hk hn⟩
theorem bindE {α β : Type} {G : Prop} {x : Option α} {k : α → Option β} {r : β} (hr : x.bind k = some r) (H : ∀ v, x = some v → k v = some r → G) : G := by
  cases x with
  | none => exact nomatch hr
  | some v => exact H v rfl hr
def letO {α β : Type} (x : α) (k : α → β) : β := k x
theorem letE {α β : Type} {G : Prop} {x : α} {k : α → Option β} {r : β} (hr : letO x k = some r) (H : ∀ v, v = x → k v = some r → G) : G := H x rfl hr
theorem iteE {β : Type} {G P : Prop} [Decidable P] {a b : Option β} {r : β} (hr : (if P then a else b) = some r) (H1 : P → a = some r → G) (H2 : ¬ P → b = some r → G) : G := by
  by_cases h : P
  · rw [if_pos h] at hr; exact H1 h hr
  · rw [if_neg h] at hr; exact H2 h hr
/-- an array's place, a store, its length, a new array -/
def rdO {α : Type} (xs : List α) (j : Int32) : Option α := if j < 0 then none else xs[j.toNatClampNeg]?
def wrO {α : Type} (xs : List α) (j : Int32) (v : α) : Option (List α) := if j < 0 ∨ xs.length ≤ j.toNatClampNeg then none else some (xs.set j.toNatClampNeg v)
def lenO {α : Type} (xs : List α) : Int32 := xs.length.toInt32
def mkO (n : Int32) (cap : Nat) : Option (List Int32) := if n < 0 ∨ cap < n.toNatClampNeg then none else some (List.replicate n.toNatClampNeg 0)
def mkOJ (n : Int32) (cap : Nat) : Option (List Int64) := if n < 0 ∨ cap < n.toNatClampNeg then none else some (List.replicate n.toNatClampNeg 0)
def AI (Z : State) (h : Heap) (a : Addr) (ty : FieldType) (xs : List Int32) : Prop := ∃ c : Cell, Arr Z h a c ty ∧ c.slots = (xs.map Value.int).toArray
def AJ (Z : State) (h : Heap) (a : Addr) (ty : FieldType) (xs : List Int64) : Prop := ∃ c : Cell, Arr Z h a c ty ∧ c.slots = (xs.map Value.long).toArray
section Arrs
variable {p : Program} {l : Launch} {e : Env} {R : Room} {s : State} {m : MethodId} {args : Array Value} {below : List Frame} {meth : Method} {c : Code} {T Z : State} {a0 : Array Value} {locs : List Loc} {cells slots : Nat} {h h' : Heap} {a b : Addr} {ty : FieldType} {sl : Nat} {v : Value} {ws : List Addr}
theorem AI.lt {xs : List Int32} (F : AI Z h a ty xs) : a < h.size := by obtain ⟨c, A, -⟩ := F; exact A.lt
theorem AI.ext {xs : List Int32} (F : AI Z h a ty xs) (E : Ext h h') : AI Z h' a ty xs := by obtain ⟨c, A, q⟩ := F; exact ⟨c, A.ext E, q⟩
theorem AI.other {xs : List Int32} (F : AI Z h b ty xs) (W : Wr h h' a sl v) (q : b ≠ a) : AI Z h' b ty xs := by obtain ⟨c, A, r⟩ := F; exact ⟨c, A.other W q, r⟩
theorem AI.keep {xs : List Int32} (F : AI Z h a ty xs) (K : Keep h h' ws) (q : a ∉ ws) : AI Z h' a ty xs := by obtain ⟨c, A, r⟩ := F; exact ⟨c, ⟨K.2.1 a c A.1 q, A.2⟩, r⟩
theorem AJ.lt {xs : List Int64} (F : AJ Z h a ty xs) : a < h.size := by obtain ⟨c, A, -⟩ := F; exact A.lt
theorem AJ.ext {xs : List Int64} (F : AJ Z h a ty xs) (E : Ext h h') : AJ Z h' a ty xs := by obtain ⟨c, A, q⟩ := F; exact ⟨c, A.ext E, q⟩
theorem AJ.other {xs : List Int64} (F : AJ Z h b ty xs) (W : Wr h h' a sl v) (q : b ≠ a) : AJ Z h' b ty xs := by obtain ⟨c, A, r⟩ := F; exact ⟨c, A.other W q, r⟩
theorem AJ.keep {xs : List Int64} (F : AJ Z h a ty xs) (K : Keep h h' ws) (q : a ∉ ws) : AJ Z h' a ty xs := by obtain ⟨c, A, r⟩ := F; exact ⟨c, ⟨K.2.1 a c A.1 q, A.2⟩, r⟩
theorem rd_at {α : Type} {f : α → Value} {xs : List α} {j : Int32} {z : α} {cl : Cell} (q : cl.slots = (xs.map f).toArray) (hr : rdO xs j = some z) : ¬ (j < 0 ∨ cl.slots.size ≤ j.toNatClampNeg) ∧ cl.slots[j.toNatClampNeg]? = some (f z) := by
  unfold rdO at hr
  by_cases hj : j < 0
  · rw [if_pos hj] at hr; exact nomatch hr
  · rw [if_neg hj] at hr
    obtain ⟨hi, he⟩ := List.getElem?_eq_some_iff.mp hr
    rw [q]
    refine ⟨?_, by simp [hr]⟩
    rintro (h1 | h1)
    · exact hj h1
    · simp at h1; omega
theorem wr_at2 {α : Type} {f : α → Value} {xs xs' : List α} {j : Int32} {z : α} {cl : Cell} (q : cl.slots = (xs.map f).toArray) (hr : wrO xs j z = some xs') : ¬ (j < 0 ∨ cl.slots.size ≤ j.toNatClampNeg) ∧ (cl.setSlot j.toNatClampNeg (f z)).slots = (xs'.map f).toArray := by
  unfold wrO at hr
  by_cases hj : j < 0 ∨ xs.length ≤ j.toNatClampNeg
  · rw [if_pos hj] at hr; exact nomatch hr
  · rw [if_neg hj] at hr
    obtain rfl := Option.some.inj hr
    refine ⟨by rw [q]; simpa using hj, ?_⟩
    simp only [Cell.setSlot, q]
    simp [List.map_set]
theorem ldI (X : Stand p l e R s m args below meth c T locs cells slots) (hx : p.tables.exec = Jvm.exec) (hZ : Z.Warmed39 s.vm) (eT : T.heap = h) {xs : List Int32} (A : AI Z h a .int xs) {j z : Int32} (hr : rdO xs j = some z) {g : JFrame} (hg : g.method = m) {rest : List Value} (hs : g.stack = .int j :: .ref a :: rest) (hd : decode c.code g.pc = .ok (.iaload, 1)) :
    ∀ target, Steps p.tables e below (T.setTop { g with pc := g.pc + 1, stack := .int z :: rest }) target → Steps p.tables e below (T.setTop g) target := by
  obtain ⟨cl, A, q⟩ := A
  obtain ⟨h1, h2⟩ := rd_at q hr
  exact X.iaload hx (j := j) (v := .int z) (by rw [eT]; exact A.1) (State.isArrayOf_alike hZ.alike A.2.1) A.2.2 h1 h2 hg hs hd
theorem ldB (X : Stand p l e R s m args below meth c T locs cells slots) (hx : p.tables.exec = Jvm.exec) (hZ : Z.Warmed39 s.vm) (eT : T.heap = h) {xs : List Int32} (A : AI Z h a .byte xs) {j z : Int32} (hr : rdO xs j = some z) {g : JFrame} (hg : g.method = m) {rest : List Value} (hs : g.stack = .int j :: .ref a :: rest) (hd : decode c.code g.pc = .ok (.baload, 1)) :
    ∀ target, Steps p.tables e below (T.setTop { g with pc := g.pc + 1, stack := .int z :: rest }) target → Steps p.tables e below (T.setTop g) target := by
  obtain ⟨cl, A, q⟩ := A
  obtain ⟨h1, h2⟩ := rd_at q hr
  exact X.baloadBytes hx (j := j) (v := .int z) (by rw [eT]; exact A.1) (State.isArrayOf_alike hZ.alike A.2.1) A.2.2 h1 h2 hg hs hd
theorem ldJ (X : Stand p l e R s m args below meth c T locs cells slots) (hx : p.tables.exec = Jvm.exec) (hZ : Z.Warmed39 s.vm) (eT : T.heap = h) {xs : List Int64} (A : AJ Z h a .long xs) {j : Int32} {z : Int64} (hr : rdO xs j = some z) {g : JFrame} (hg : g.method = m) {rest : List Value} (hs : g.stack = .int j :: .ref a :: rest) (hd : decode c.code g.pc = .ok (.laload, 1)) :
    ∀ target, Steps p.tables e below (T.setTop { g with pc := g.pc + 1, stack := .long z :: rest }) target → Steps p.tables e below (T.setTop g) target := by
  obtain ⟨cl, A, q⟩ := A
  obtain ⟨h1, h2⟩ := rd_at q hr
  exact X.laload hx (j := j) (v := .long z) (by rw [eT]; exact A.1) (State.isArrayOf_alike hZ.alike A.2.1) A.2.2 h1 h2 hg hs hd
theorem soI (X : Stand p l e R s m args below meth c T locs cells slots) (hx : p.tables.exec = Jvm.exec) (hZ : Z.Warmed39 s.vm) (eT : T.heap = h) {xs xs' : List Int32} (A : AI Z h a .int xs) {j z : Int32} (hr : wrO xs j z = some xs') {g : JFrame} (hg : g.method = m) {rest : List Value} (hs : g.stack = .int z :: .int j :: .ref a :: rest) (hd : decode c.code g.pc = .ok (.iastore, 1)) :
    ∃ T' h', Stand p l e R s m args below meth c T' (locs ++ [⟨a, j.toNatClampNeg⟩]) cells slots ∧ T'.heap = h' ∧ Wr h h' a j.toNatClampNeg (.int z) ∧ AI Z h' a .int xs' ∧ ∀ target, Steps p.tables e below (T'.setTop { g with pc := g.pc + 1, stack := rest }) target → Steps p.tables e below (T.setTop g) target := by
  obtain ⟨cl, A, q⟩ := A
  obtain ⟨h1, h2⟩ := wr_at2 q hr
  obtain ⟨T', h', X', e', W, st⟩ := stI X hx hZ eT A h1 hg hs hd
  exact ⟨T', h', X', e', W, ⟨_, A.same W, h2⟩, st⟩
theorem soB (X : Stand p l e R s m args below meth c T locs cells slots) (hx : p.tables.exec = Jvm.exec) (hZ : Z.Warmed39 s.vm) (eT : T.heap = h) {xs xs' : List Int32} (A : AI Z h a .byte xs) {j z : Int32} (hr : wrO xs j (z.toInt8.toInt32) = some xs') {g : JFrame} (hg : g.method = m) {rest : List Value} (hs : g.stack = .int z :: .int j :: .ref a :: rest) (hd : decode c.code g.pc = .ok (.bastore, 1)) :
    ∃ T' h', Stand p l e R s m args below meth c T' (locs ++ [⟨a, j.toNatClampNeg⟩]) cells slots ∧ T'.heap = h' ∧ Wr h h' a j.toNatClampNeg (.int (z.toInt8.toInt32)) ∧ AI Z h' a .byte xs' ∧ ∀ target, Steps p.tables e below (T'.setTop { g with pc := g.pc + 1, stack := rest }) target → Steps p.tables e below (T.setTop g) target := by
  obtain ⟨cl, A, q⟩ := A
  obtain ⟨h1, h2⟩ := wr_at2 q hr
  obtain ⟨T', h', X', e', W, st⟩ := stB X hx hZ eT A h1 hg hs hd
  exact ⟨T', h', X', e', W, ⟨_, A.same W, h2⟩, st⟩
theorem soJ (X : Stand p l e R s m args below meth c T locs cells slots) (hx : p.tables.exec = Jvm.exec) (hZ : Z.Warmed39 s.vm) (eT : T.heap = h) {xs xs' : List Int64} (A : AJ Z h a .long xs) {j : Int32} {z : Int64} (hr : wrO xs j z = some xs') {g : JFrame} (hg : g.method = m) {rest : List Value} (hs : g.stack = .long z :: .int j :: .ref a :: rest) (hd : decode c.code g.pc = .ok (.lastore, 1)) :
    ∃ T' h', Stand p l e R s m args below meth c T' (locs ++ [⟨a, j.toNatClampNeg⟩]) cells slots ∧ T'.heap = h' ∧ Wr h h' a j.toNatClampNeg (.long z) ∧ AJ Z h' a .long xs' ∧ ∀ target, Steps p.tables e below (T'.setTop { g with pc := g.pc + 1, stack := rest }) target → Steps p.tables e below (T.setTop g) target := by
  obtain ⟨cl, A, q⟩ := A
  obtain ⟨h1, h2⟩ := wr_at2 q hr
  obtain ⟨T', h', X', e', W, st⟩ := stJ X hx hZ eT A h1 hg hs hd
  exact ⟨T', h', X', e', W, ⟨_, A.same W, h2⟩, st⟩
theorem lenAI (X : Stand p l e R s m args below meth c T locs cells slots) (hx : p.tables.exec = Jvm.exec) (hZ : Z.Warmed39 s.vm) (eT : T.heap = h) {xs : List Int32} (A : AI Z h a ty xs) {g : JFrame} (hg : g.method = m) {rest : List Value} (hs : g.stack = .ref a :: rest) (hd : decode c.code g.pc = .ok (.arraylength, 1)) :
    ∀ target, Steps p.tables e below (T.setTop { g with pc := g.pc + 1, stack := .int (lenO xs) :: rest }) target → Steps p.tables e below (T.setTop g) target := by
  obtain ⟨cl, A, q⟩ := A
  have e1 : cl.slots.size.toInt32 = lenO xs := by rw [q]; simp [lenO]
  intro t k
  refine X.arraylength hx (by rw [eT]; exact A.1) (State.isArrayOf_alike hZ.alike A.2.1) hg hs hd _ ?_
  rw [e1]; exact k
theorem lenAJ (X : Stand p l e R s m args below meth c T locs cells slots) (hx : p.tables.exec = Jvm.exec) (hZ : Z.Warmed39 s.vm) (eT : T.heap = h) {xs : List Int64} (A : AJ Z h a ty xs) {g : JFrame} (hg : g.method = m) {rest : List Value} (hs : g.stack = .ref a :: rest) (hd : decode c.code g.pc = .ok (.arraylength, 1)) :
    ∀ target, Steps p.tables e below (T.setTop { g with pc := g.pc + 1, stack := .int (lenO xs) :: rest }) target → Steps p.tables e below (T.setTop g) target := by
  obtain ⟨cl, A, q⟩ := A
  have e1 : cl.slots.size.toInt32 = lenO xs := by rw [q]; simp [lenO]
  intro t k
  refine X.arraylength hx (by rw [eT]; exact A.1) (State.isArrayOf_alike hZ.alike A.2.1) hg hs hd _ ?_
  rw [e1]; exact k
theorem newI (X : Stand p l e R s m args below meth c T locs cells slots) (hx : p.tables.exec = Jvm.exec) (hZ : Z.Warmed39 s.vm) {aty : ArrayType} (ht : newarray.typeOf aty = ty) (hdv : defaultValue ty = .int 0) (w : (Cond.arrayClass ty).before a0 Z = true) (eT : T.heap = h) {n : Int32} {cap : Nat} {xs : List Int32} (hr : mkO n cap = some xs) {g : JFrame} (hg : g.method = m) (hd : decode c.code g.pc = .ok (.newarray aty, 2)) {rest : List Value} (hs : g.stack = .int n :: rest) (hb : cap * 8 ≤ 536870912) (hc : cells + 1 ≤ R.cells) (hl : slots + cap ≤ R.slots) :
    ∃ T' h', Stand p l e R s m args below meth c T' locs (cells + 1) (slots + cap) ∧ T'.heap = h' ∧ Ext h h' ∧ AI Z h' h.size ty xs ∧ ∀ target, Steps p.tables e below (T'.setTop { g with pc := g.pc + 2, stack := .ref h.size :: rest }) target → Steps p.tables e below (T.setTop g) target := by
  subst ht
  unfold mkO at hr
  by_cases hn : n < 0 ∨ cap < n.toNatClampNeg
  · rw [if_pos hn] at hr; exact nomatch hr
  · rw [if_neg hn] at hr
    obtain rfl := Option.some.inj hr
    obtain ⟨T', h', cA, X', e', E, A, st⟩ := newP X hx hZ w eT hg hd hs (fun q => hn (Or.inl q)) (cap := cap) (Nat.le_of_not_lt fun q => hn (Or.inr q)) hb hc hl
    exact ⟨T', h', X', e', E, ⟨_, A, by simp [newA, hdv]⟩, st⟩
theorem newJ (X : Stand p l e R s m args below meth c T locs cells slots) (hx : p.tables.exec = Jvm.exec) (hZ : Z.Warmed39 s.vm) {aty : ArrayType} (ht : newarray.typeOf aty = .long) (w : (Cond.arrayClass .long).before a0 Z = true) (eT : T.heap = h) {n : Int32} {cap : Nat} {xs : List Int64} (hr : mkOJ n cap = some xs) {g : JFrame} (hg : g.method = m) (hd : decode c.code g.pc = .ok (.newarray aty, 2)) {rest : List Value} (hs : g.stack = .int n :: rest) (hb : cap * 8 ≤ 536870912) (hc : cells + 1 ≤ R.cells) (hl : slots + cap ≤ R.slots) :
    ∃ T' h', Stand p l e R s m args below meth c T' locs (cells + 1) (slots + cap) ∧ T'.heap = h' ∧ Ext h h' ∧ AJ Z h' h.size .long xs ∧ ∀ target, Steps p.tables e below (T'.setTop { g with pc := g.pc + 2, stack := .ref h.size :: rest }) target → Steps p.tables e below (T.setTop g) target := by
  unfold mkOJ at hr
  by_cases hn : n < 0 ∨ cap < n.toNatClampNeg
  · rw [if_pos hn] at hr; exact nomatch hr
  · rw [if_neg hn] at hr
    obtain rfl := Option.some.inj hr
    obtain ⟨T', h', cA, X', e', E, A, st⟩ := newP X hx hZ (by rw [ht]; exact w) eT hg hd hs (fun q => hn (Or.inl q)) (cap := cap) (Nat.le_of_not_lt fun q => hn (Or.inr q)) hb hc hl
    rw [ht] at A
    exact ⟨T', h', X', e', E, ⟨_, A, by simp [newA, defaultValue]⟩, st⟩
end Arrs
theorem d1_0 : decode method_2_code 0 = .ok (.iload_n 0, 1) := by decide +kernel
theorem d1_1 : decode method_2_code 1 = .ok (.ifCond .ne 6, 3) := by decide +kernel
theorem d1_4 : decode method_2_code 4 = .ok (.bipush 46, 2) := by decide +kernel
theorem d1_6 : decode method_2_code 6 = .ok (.ireturn, 1) := by decide +kernel
theorem d1_7 : decode method_2_code 7 = .ok (.iload_n 0, 1) := by decide +kernel
theorem d1_8 : decode method_2_code 8 = .ok (.iconst 2, 1) := by decide +kernel
theorem d1_9 : decode method_2_code 9 = .ok (.if_icmp .ne 6, 3) := by decide +kernel
theorem d1_12 : decode method_2_code 12 = .ok (.iload_n 1, 1) := by decide +kernel
theorem d1_13 : decode method_2_code 13 = .ok (.i2b, 1) := by decide +kernel
theorem d1_14 : decode method_2_code 14 = .ok (.ireturn, 1) := by decide +kernel
theorem d1_15 : decode method_2_code 15 = .ok (.bipush 48, 2) := by decide +kernel
theorem d1_17 : decode method_2_code 17 = .ok (.iload_n 1, 1) := by decide +kernel
theorem d1_18 : decode method_2_code 18 = .ok (.sipush 255, 3) := by decide +kernel
theorem d1_21 : decode method_2_code 21 = .ok (.iand, 1) := by decide +kernel
theorem d1_22 : decode method_2_code 22 = .ok (.bipush 10, 2) := by decide +kernel
theorem d1_24 : decode method_2_code 24 = .ok (.irem, 1) := by decide +kernel
theorem d1_25 : decode method_2_code 25 = .ok (.iadd, 1) := by decide +kernel
theorem d1_26 : decode method_2_code 26 = .ok (.i2b, 1) := by decide +kernel
theorem d1_27 : decode method_2_code 27 = .ok (.ireturn, 1) := by decide +kernel
def g1_0 (x0 : Int32) (x1 : Int32) : Int32 := (if x0 = (0 : Int32) then ((46 : Int32).toInt8.toInt32) else (if x0 = (2 : Int32) then ((x1.toInt8.toInt32).toInt8.toInt32) else ((((48 : Int32) + ((x1 &&& (255 : Int32)) - ((x1 &&& (255 : Int32)) / (10 : Int32)) * (10 : Int32))).toInt8.toInt32).toInt8.toInt32)))
set_option maxRecDepth 65536 in
set_option maxHeartbeats 4000000 in
theorem b1_0 (C : Ctx p s m meth c Z a0 "com/example/notewright/notewright/DecimalsScalePinLaw" method_2_code 2 (some .byte) "draw") (X0 : Stand p l e ({ frames := 0, cells := 0, slots := 0, locals := 0 } : Room) s m args below meth c T0 locs cells slots) (e0 : T0.heap = h0) (N0 : Fr n0 locs) (hk : cells ≤ 0) (hn : slots ≤ 0) (x0 : Int32) (x1 : Int32) :
    Runs p e below s (QP (some (.int (g1_0 x0 x1))) h0 n0) 0 0 T0 (mkF m 0 #[.val (.int x0), .val (.int x1)] []) := by
  have ⟨hx, hZ, hw, hby, hml, hown, hret, hlk, hnm⟩ := C
  refine Runs.via (T' := T0) (g' := (mkF m 1 #[.val (.int x0), .val (.int x1)] [(.int x0)])) (fun t k => ?_) ?_
  · show Steps p.tables e below (T0.setTop (mkF m 0 #[.val (.int x0), .val (.int x1)] [])) t
    refine XS.iloadN X0.here hx rfl (hb hby d1_0) rfl ?_
    exact k
  by_cases hc1 : x0 = (0 : Int32)
  · refine Runs.via (T' := T0) (g' := (mkF m 4 #[.val (.int x0), .val (.int x1)] [])) (fun t k => ?_) ?_
    · show Steps p.tables e below (T0.setTop (mkF m 1 #[.val (.int x0), .val (.int x1)] [(.int x0)])) t
      exact XS.ifNo X0.here hx rfl (hb hby d1_1) rfl ((if0 _ _).trans (teq hc1).2) k
    refine Runs.via (T' := T0) (g' := (mkF m 6 #[.val (.int x0), .val (.int x1)] [(.int (46 : Int32))])) (fun t k => ?_) ?_
    · show Steps p.tables e below (T0.setTop (mkF m 4 #[.val (.int x0), .val (.int x1)] [])) t
      refine XS.bipush X0.here hx rfl (hb hby d1_4) ?_
      exact k
    refine QP.cast (congrArg (fun z => some (Value.int z)) (show (g1_0 x0 x1) = ((46 : Int32).toInt8.toInt32) from (if_pos hc1))) ?_
    exact own_retN X0 hx hlk (t := .byte) hret (by simp) (hb hby d1_6) hk hn ⟨rfl, N0, e0⟩
  · refine Runs.via (T' := T0) (g' := (mkF m 7 #[.val (.int x0), .val (.int x1)] [])) (fun t k => ?_) ?_
    · show Steps p.tables e below (T0.setTop (mkF m 1 #[.val (.int x0), .val (.int x1)] [(.int x0)])) t
      exact XS.ifYes X0.here hx rfl (pc0 := 1) (pc' := 7) rfl (hb hby d1_1) rfl ((if0 _ _).trans (feq hc1).2) (by decide) (by decide) k
    refine Runs.via (T' := T0) (g' := (mkF m 9 #[.val (.int x0), .val (.int x1)] [(.int (2 : Int32)), (.int x0)])) (fun t k => ?_) ?_
    · show Steps p.tables e below (T0.setTop (mkF m 7 #[.val (.int x0), .val (.int x1)] [])) t
      refine XS.iloadN X0.here hx rfl (hb hby d1_7) rfl ?_
      show Steps p.tables e below (T0.setTop (mkF m 8 #[.val (.int x0), .val (.int x1)] [(.int x0)])) t
      refine XS.iconst X0.here hx rfl (hb hby d1_8) ?_
      exact k
    by_cases hc2 : x0 = (2 : Int32)
    · refine Runs.via (T' := T0) (g' := (mkF m 12 #[.val (.int x0), .val (.int x1)] [])) (fun t k => ?_) ?_
      · show Steps p.tables e below (T0.setTop (mkF m 9 #[.val (.int x0), .val (.int x1)] [(.int (2 : Int32)), (.int x0)])) t
        exact XS.icmpNo X0.here hx rfl (hb hby d1_9) rfl (teq hc2).2 k
      refine Runs.via (T' := T0) (g' := (mkF m 14 #[.val (.int x0), .val (.int x1)] [(.int (x1.toInt8.toInt32))])) (fun t k => ?_) ?_
      · show Steps p.tables e below (T0.setTop (mkF m 12 #[.val (.int x0), .val (.int x1)] [])) t
        refine XS.iloadN X0.here hx rfl (hb hby d1_12) rfl ?_
        show Steps p.tables e below (T0.setTop (mkF m 13 #[.val (.int x0), .val (.int x1)] [(.int x1)])) t
        refine XS.i2b X0.here hx rfl (hb hby d1_13) rfl ?_
        exact k
      refine QP.cast (congrArg (fun z => some (Value.int z)) (show (g1_0 x0 x1) = ((x1.toInt8.toInt32).toInt8.toInt32) from ((if_neg hc1).trans (if_pos hc2)))) ?_
      exact own_retN X0 hx hlk (t := .byte) hret (by simp) (hb hby d1_14) hk hn ⟨rfl, N0, e0⟩
    · refine Runs.via (T' := T0) (g' := (mkF m 15 #[.val (.int x0), .val (.int x1)] [])) (fun t k => ?_) ?_
      · show Steps p.tables e below (T0.setTop (mkF m 9 #[.val (.int x0), .val (.int x1)] [(.int (2 : Int32)), (.int x0)])) t
        exact XS.icmpYes X0.here hx rfl (pc0 := 9) (pc' := 15) rfl (hb hby d1_9) rfl (feq hc2).2 (by decide) (by decide) k
      refine Runs.via (T' := T0) (g' := (mkF m 27 #[.val (.int x0), .val (.int x1)] [(.int (((48 : Int32) + ((x1 &&& (255 : Int32)) - ((x1 &&& (255 : Int32)) / (10 : Int32)) * (10 : Int32))).toInt8.toInt32))])) (fun t k => ?_) ?_
      · show Steps p.tables e below (T0.setTop (mkF m 15 #[.val (.int x0), .val (.int x1)] [])) t
        refine XS.bipush X0.here hx rfl (hb hby d1_15) ?_
        show Steps p.tables e below (T0.setTop (mkF m 17 #[.val (.int x0), .val (.int x1)] [(.int (48 : Int32))])) t
        refine XS.iloadN X0.here hx rfl (hb hby d1_17) rfl ?_
        show Steps p.tables e below (T0.setTop (mkF m 18 #[.val (.int x0), .val (.int x1)] [(.int x1), (.int (48 : Int32))])) t
        refine XS.sipush X0.here hx rfl (hb hby d1_18) ?_
        show Steps p.tables e below (T0.setTop (mkF m 21 #[.val (.int x0), .val (.int x1)] [(.int (255 : Int32)), (.int x1), (.int (48 : Int32))])) t
        refine XS.iand X0.here hx rfl (hb hby d1_21) rfl ?_
        show Steps p.tables e below (T0.setTop (mkF m 22 #[.val (.int x0), .val (.int x1)] [(.int (x1 &&& (255 : Int32))), (.int (48 : Int32))])) t
        refine XS.bipush X0.here hx rfl (hb hby d1_22) ?_
        show Steps p.tables e below (T0.setTop (mkF m 24 #[.val (.int x0), .val (.int x1)] [(.int (10 : Int32)), (.int (x1 &&& (255 : Int32))), (.int (48 : Int32))])) t
        refine XS.irem X0.here hx rfl (hb hby d1_24) rfl (by decide) ?_
        show Steps p.tables e below (T0.setTop (mkF m 25 #[.val (.int x0), .val (.int x1)] [(.int ((x1 &&& (255 : Int32)) - ((x1 &&& (255 : Int32)) / (10 : Int32)) * (10 : Int32))), (.int (48 : Int32))])) t
        refine XS.iadd X0.here hx rfl (hb hby d1_25) rfl ?_
        show Steps p.tables e below (T0.setTop (mkF m 26 #[.val (.int x0), .val (.int x1)] [(.int ((48 : Int32) + ((x1 &&& (255 : Int32)) - ((x1 &&& (255 : Int32)) / (10 : Int32)) * (10 : Int32))))])) t
        refine XS.i2b X0.here hx rfl (hb hby d1_26) rfl ?_
        exact k
      refine QP.cast (congrArg (fun z => some (Value.int z)) (show (g1_0 x0 x1) = ((((48 : Int32) + ((x1 &&& (255 : Int32)) - ((x1 &&& (255 : Int32)) / (10 : Int32)) * (10 : Int32))).toInt8.toInt32).toInt8.toInt32) from ((if_neg hc1).trans (if_neg hc2)))) ?_
      exact own_retN X0 hx hlk (t := .byte) hret (by simp) (hb hby d1_27) hk hn ⟨rfl, N0, e0⟩
def f1 (x0 : Int32) (x1 : Int32) : Int32 := g1_0 x0 x1
theorem pn_1 : plainName "com/example/notewright/notewright/DecimalsScalePinLaw" = true := by first | (simp [plainName, overriddenIn]; done) | decide +kernel
theorem ef_1 (m : MethodId) (x0 : Int32) (x1 : Int32) : entryFrame m #[(.int x0), (.int x1)] 2 = mkF m 0 #[.val (.int x0), .val (.int x1)] [] := by first | (simp [entryFrame, mkF, argsToLocals, Value.category]; done) | rfl
set_option maxRecDepth 65536 in
set_option maxHeartbeats 4000000 in
theorem rm1 (l : Launch) (Z : State) (a0 : Array Value) (hw : ∀ d ∈ tables_1, d.before a0 Z = true) (ws : List Jvm.Cond) (x0 : Int32) (x1 : Int32) (h0 : Heap) (n0 : Nat) :
    MetFree l (⟨"com/example/notewright/notewright/DecimalsScalePinLaw", "draw", "(II)B"⟩ : MethodName) (head1 (Jvm.Cond.code (⟨"com/example/notewright/notewright/DecimalsScalePinLaw", "draw", "(II)B"⟩ : MethodName) method_2_code 2 (some .byte) :: ws) ({ frames := 0, cells := 0, slots := 0, locals := 0 } : Room)) (fun a U => a = #[(.int x0), (.int x1)] ∧ Z.Warmed39 U.vm ∧ U.heap = h0) (fun _ _ _ _ _ => True) (fun _ U o U' => ∃ v L, o = .returned v ∧ QP (some (.int (f1 x0 x1))) h0 n0 v U'.heap L ∧ FrameEnd U o U' L ({ frames := 0, cells := 0, slots := 0, locals := 0 } : Room).cells ({ frames := 0, cells := 0, slots := 0, locals := 0 } : Room).slots) := by
  refine MetFree.of_bodySF (plainFor_of_name pn_1) hisR ?_
  intro p e s m args below meth c s₁ Bd hml0 hP hK
  obtain ⟨rfl, hZ, hh⟩ := hP
  have X0 : Stand p l e ({ frames := 0, cells := 0, slots := 0, locals := 0 } : Room) s m #[(.int x0), (.int x1)] below meth c s₁ [] 0 0 := Stand.of_body Bd
  have e0 : s₁.heap = h0 := by rw [← hh, Bd.state]; rfl
  have C : Ctx p s m meth c Z a0 "com/example/notewright/notewright/DecimalsScalePinLaw" method_2_code 2 (some .byte) "draw" := ⟨Bd.exec, hZ, hw, Bd.bytes, hml0, findClass_of_methodNamed Bd.named, Bd.returns, BodyLoose.notSynchronized Bd, (name_of_methodNamed Bd.named Bd.method).1⟩
  refine Runs.via (fun t k => castTop (ef_1 m x0 x1) k) (b1_0 C X0 e0 (Fr.nil n0) (Nat.le_refl 0) (Nat.le_refl 0) x0 x1)
theorem pd_0 : parseMethodDescriptor "(II)B" = some ⟨[.int, .int], some .byte⟩ := by decide +kernel
theorem d2_0 : decode method_4_code 0 = .ok (.iload_n 1, 1) := by decide +kernel
theorem d2_1 : decode method_4_code 1 = .ok (.iload_n 2, 1) := by decide +kernel
theorem d2_2 : decode method_4_code 2 = .ok (.if_icmp .lt 20, 3) := by decide +kernel
theorem d2_5 : decode method_4_code 5 = .ok (.iload_n 1, 1) := by decide +kernel
theorem d2_6 : decode method_4_code 6 = .ok (.iload_n 3, 1) := by decide +kernel
theorem d2_7 : decode method_4_code 7 = .ok (.if_icmp .ge 15, 3) := by decide +kernel
theorem d2_10 : decode method_4_code 10 = .ok (.aload_n 0, 1) := by decide +kernel
theorem d2_11 : decode method_4_code 11 = .ok (.iload_n 1, 1) := by decide +kernel
theorem d2_12 : decode method_4_code 12 = .ok (.baload, 1) := by decide +kernel
theorem d2_13 : decode method_4_code 13 = .ok (.bipush 46, 2) := by decide +kernel
theorem d2_15 : decode method_4_code 15 = .ok (.if_icmp .ne 7, 3) := by decide +kernel
theorem d2_18 : decode method_4_code 18 = .ok (.iconst 1, 1) := by decide +kernel
theorem d2_19 : decode method_4_code 19 = .ok (.goto 4, 3) := by decide +kernel
theorem d2_22 : decode method_4_code 22 = .ok (.iconst 0, 1) := by decide +kernel
theorem d2_23 : decode method_4_code 23 = .ok (.ireturn, 1) := by decide +kernel
def P2 (Z : State) (hE : Heap) (a1 : Addr) (q_a1 : List Int32) (n0 : Nat) (r : Int32) (v : Option Value) (h : Heap) (L : List Loc) : Prop := v = some (.int r) ∧ Fr n0 L ∧ h = hE
def g2_0 (x1 : Int32) (x2 : Int32) (x3 : Int32) (q_a1 : List Int32) : Option (Int32) := (if x1 < x2 then some (0 : Int32) else (if x1 < x3 then ((rdO q_a1 x1).bind fun v3 => (if v3 = (46 : Int32) then some (1 : Int32) else some (0 : Int32))) else some (0 : Int32)))
set_option maxRecDepth 65536 in
set_option maxHeartbeats 4000000 in
theorem b2_0 {hE : Heap} {a1 : Addr} {q_a1 : List Int32} {r : Int32} (C : Ctx p s m meth c Z a0 "com/example/notewright/notewright/DecimalsScalePinLaw" method_4_code 4 (some .int) "dotAt") (X0 : Stand p l e ({ frames := 0, cells := 0, slots := 0, locals := 0 } : Room) s m args below meth c T0 locs cells slots) (e0 : T0.heap = hE) (N0 : Fr n0 locs) (hk : cells ≤ 0) (hn : slots ≤ 0) (Z1 : n0 ≤ hE.size) (o0 : n0 ≤ a1) (x1 : Int32) (x2 : Int32) (x3 : Int32) (A_a1_0 : AI Z hE a1 .byte q_a1) (hr : g2_0 x1 x2 x3 q_a1 = some r) :
    Runs p e below s (P2 Z hE a1 q_a1 n0 r) 0 0 T0 (mkF m 0 #[.val (.ref a1), .val (.int x1), .val (.int x2), .val (.int x3)] []) := by
  unfold g2_0 at hr
  have ⟨hx, hZ, hw, hby, hml, hown, hret, hlk, hnm⟩ := C
  refine Runs.via (T' := T0) (g' := (mkF m 2 #[.val (.ref a1), .val (.int x1), .val (.int x2), .val (.int x3)] [(.int x2), (.int x1)])) (fun t k => ?_) ?_
  · show Steps p.tables e below (T0.setTop (mkF m 0 #[.val (.ref a1), .val (.int x1), .val (.int x2), .val (.int x3)] [])) t
    refine XS.iloadN X0.here hx rfl (hb hby d2_0) rfl ?_
    show Steps p.tables e below (T0.setTop (mkF m 1 #[.val (.ref a1), .val (.int x1), .val (.int x2), .val (.int x3)] [(.int x1)])) t
    refine XS.iloadN X0.here hx rfl (hb hby d2_1) rfl ?_
    exact k
  refine iteE hr (fun hc1 hr => ?_) (fun hc1 hr => ?_)
  · refine Runs.via (T' := T0) (g' := (mkF m 22 #[.val (.ref a1), .val (.int x1), .val (.int x2), .val (.int x3)] [])) (fun t k => ?_) ?_
    · show Steps p.tables e below (T0.setTop (mkF m 2 #[.val (.ref a1), .val (.int x1), .val (.int x2), .val (.int x3)] [(.int x2), (.int x1)])) t
      exact XS.icmpYes X0.here hx rfl (pc0 := 2) (pc' := 22) rfl (hb hby d2_2) rfl (tlt hc1).1 (by decide) (by decide) k
    refine Runs.via (T' := T0) (g' := (mkF m 23 #[.val (.ref a1), .val (.int x1), .val (.int x2), .val (.int x3)] [(.int (0 : Int32))])) (fun t k => ?_) ?_
    · show Steps p.tables e below (T0.setTop (mkF m 22 #[.val (.ref a1), .val (.int x1), .val (.int x2), .val (.int x3)] [])) t
      refine XS.iconst X0.here hx rfl (hb hby d2_22) ?_
      exact k
    obtain rfl := Option.some.inj hr
    exact own_retI X0 hx hlk hret (hb hby d2_23) (by show cells ≤ 0; omega) (by show slots ≤ 0; omega) ⟨rfl, N0, e0⟩
  · refine Runs.via (T' := T0) (g' := (mkF m 5 #[.val (.ref a1), .val (.int x1), .val (.int x2), .val (.int x3)] [])) (fun t k => ?_) ?_
    · show Steps p.tables e below (T0.setTop (mkF m 2 #[.val (.ref a1), .val (.int x1), .val (.int x2), .val (.int x3)] [(.int x2), (.int x1)])) t
      exact XS.icmpNo X0.here hx rfl (hb hby d2_2) rfl (flt hc1).1 k
    refine Runs.via (T' := T0) (g' := (mkF m 7 #[.val (.ref a1), .val (.int x1), .val (.int x2), .val (.int x3)] [(.int x3), (.int x1)])) (fun t k => ?_) ?_
    · show Steps p.tables e below (T0.setTop (mkF m 5 #[.val (.ref a1), .val (.int x1), .val (.int x2), .val (.int x3)] [])) t
      refine XS.iloadN X0.here hx rfl (hb hby d2_5) rfl ?_
      show Steps p.tables e below (T0.setTop (mkF m 6 #[.val (.ref a1), .val (.int x1), .val (.int x2), .val (.int x3)] [(.int x1)])) t
      refine XS.iloadN X0.here hx rfl (hb hby d2_6) rfl ?_
      exact k
    refine iteE hr (fun hc2 hr => ?_) (fun hc2 hr => ?_)
    · refine Runs.via (T' := T0) (g' := (mkF m 10 #[.val (.ref a1), .val (.int x1), .val (.int x2), .val (.int x3)] [])) (fun t k => ?_) ?_
      · show Steps p.tables e below (T0.setTop (mkF m 7 #[.val (.ref a1), .val (.int x1), .val (.int x2), .val (.int x3)] [(.int x3), (.int x1)])) t
        exact XS.icmpNo X0.here hx rfl (hb hby d2_7) rfl (tlt hc2).2.1 k
      refine Runs.via (T' := T0) (g' := (mkF m 12 #[.val (.ref a1), .val (.int x1), .val (.int x2), .val (.int x3)] [(.int x1), (.ref a1)])) (fun t k => ?_) ?_
      · show Steps p.tables e below (T0.setTop (mkF m 10 #[.val (.ref a1), .val (.int x1), .val (.int x2), .val (.int x3)] [])) t
        refine XS.aloadN X0.here hx rfl (hb hby d2_10) rfl rfl ?_
        show Steps p.tables e below (T0.setTop (mkF m 11 #[.val (.ref a1), .val (.int x1), .val (.int x2), .val (.int x3)] [(.ref a1)])) t
        refine XS.iloadN X0.here hx rfl (hb hby d2_11) rfl ?_
        exact k
      refine bindE hr ?_; intro v3 hv3 hr
      refine Runs.via (T' := T0) (g' := (mkF m 13 #[.val (.ref a1), .val (.int x1), .val (.int x2), .val (.int x3)] [(.int v3)])) (fun t k => ldB X0 hx hZ e0 A_a1_0 hv3 (g := (mkF m 12 #[.val (.ref a1), .val (.int x1), .val (.int x2), .val (.int x3)] [(.int x1), (.ref a1)])) rfl rfl (hb hby d2_12) _ k) ?_
      refine Runs.via (T' := T0) (g' := (mkF m 15 #[.val (.ref a1), .val (.int x1), .val (.int x2), .val (.int x3)] [(.int (46 : Int32)), (.int v3)])) (fun t k => ?_) ?_
      · show Steps p.tables e below (T0.setTop (mkF m 13 #[.val (.ref a1), .val (.int x1), .val (.int x2), .val (.int x3)] [(.int v3)])) t
        refine XS.bipush X0.here hx rfl (hb hby d2_13) ?_
        exact k
      refine iteE hr (fun hc4 hr => ?_) (fun hc4 hr => ?_)
      · refine Runs.via (T' := T0) (g' := (mkF m 18 #[.val (.ref a1), .val (.int x1), .val (.int x2), .val (.int x3)] [])) (fun t k => ?_) ?_
        · show Steps p.tables e below (T0.setTop (mkF m 15 #[.val (.ref a1), .val (.int x1), .val (.int x2), .val (.int x3)] [(.int (46 : Int32)), (.int v3)])) t
          exact XS.icmpNo X0.here hx rfl (hb hby d2_15) rfl (teq hc4).2 k
        refine Runs.via (T' := T0) (g' := (mkF m 23 #[.val (.ref a1), .val (.int x1), .val (.int x2), .val (.int x3)] [(.int (1 : Int32))])) (fun t k => ?_) ?_
        · show Steps p.tables e below (T0.setTop (mkF m 18 #[.val (.ref a1), .val (.int x1), .val (.int x2), .val (.int x3)] [])) t
          refine XS.iconst X0.here hx rfl (hb hby d2_18) ?_
          show Steps p.tables e below (T0.setTop (mkF m 19 #[.val (.ref a1), .val (.int x1), .val (.int x2), .val (.int x3)] [(.int (1 : Int32))])) t
          refine XS.goto X0.here hx rfl (pc0 := 19) (pc' := 23) rfl (hb hby d2_19) (by decide) (by decide) ?_
          exact k
        obtain rfl := Option.some.inj hr
        exact own_retI X0 hx hlk hret (hb hby d2_23) (by show cells ≤ 0; omega) (by show slots ≤ 0; omega) ⟨rfl, N0, e0⟩
      · refine Runs.via (T' := T0) (g' := (mkF m 22 #[.val (.ref a1), .val (.int x1), .val (.int x2), .val (.int x3)] [])) (fun t k => ?_) ?_
        · show Steps p.tables e below (T0.setTop (mkF m 15 #[.val (.ref a1), .val (.int x1), .val (.int x2), .val (.int x3)] [(.int (46 : Int32)), (.int v3)])) t
          exact XS.icmpYes X0.here hx rfl (pc0 := 15) (pc' := 22) rfl (hb hby d2_15) rfl (feq hc4).2 (by decide) (by decide) k
        refine Runs.via (T' := T0) (g' := (mkF m 23 #[.val (.ref a1), .val (.int x1), .val (.int x2), .val (.int x3)] [(.int (0 : Int32))])) (fun t k => ?_) ?_
        · show Steps p.tables e below (T0.setTop (mkF m 22 #[.val (.ref a1), .val (.int x1), .val (.int x2), .val (.int x3)] [])) t
          refine XS.iconst X0.here hx rfl (hb hby d2_22) ?_
          exact k
        obtain rfl := Option.some.inj hr
        exact own_retI X0 hx hlk hret (hb hby d2_23) (by show cells ≤ 0; omega) (by show slots ≤ 0; omega) ⟨rfl, N0, e0⟩
    · refine Runs.via (T' := T0) (g' := (mkF m 22 #[.val (.ref a1), .val (.int x1), .val (.int x2), .val (.int x3)] [])) (fun t k => ?_) ?_
      · show Steps p.tables e below (T0.setTop (mkF m 7 #[.val (.ref a1), .val (.int x1), .val (.int x2), .val (.int x3)] [(.int x3), (.int x1)])) t
        exact XS.icmpYes X0.here hx rfl (pc0 := 7) (pc' := 22) rfl (hb hby d2_7) rfl (flt hc2).2.1 (by decide) (by decide) k
      refine Runs.via (T' := T0) (g' := (mkF m 23 #[.val (.ref a1), .val (.int x1), .val (.int x2), .val (.int x3)] [(.int (0 : Int32))])) (fun t k => ?_) ?_
      · show Steps p.tables e below (T0.setTop (mkF m 22 #[.val (.ref a1), .val (.int x1), .val (.int x2), .val (.int x3)] [])) t
        refine XS.iconst X0.here hx rfl (hb hby d2_22) ?_
        exact k
      obtain rfl := Option.some.inj hr
      exact own_retI X0 hx hlk hret (hb hby d2_23) (by show cells ≤ 0; omega) (by show slots ≤ 0; omega) ⟨rfl, N0, e0⟩
def f2 (x1 : Int32) (x2 : Int32) (x3 : Int32) (q_a1 : List Int32) : Option (Int32) := g2_0 x1 x2 x3 q_a1
theorem pn_2 : plainName "com/example/notewright/notewright/DecimalsScalePinLaw" = true := by first | (simp [plainName, overriddenIn]; done) | decide +kernel
theorem ef_2 (m : MethodId) (x1 : Int32) (x2 : Int32) (x3 : Int32) (a1 : Addr) : entryFrame m #[(.ref a1), (.int x1), (.int x2), (.int x3)] 4 = mkF m 0 #[.val (.ref a1), .val (.int x1), .val (.int x2), .val (.int x3)] [] := by first | (simp [entryFrame, mkF, argsToLocals, Value.category]; done) | rfl
set_option maxRecDepth 65536 in
set_option maxHeartbeats 4000000 in
theorem rm2 (l : Launch) (Z : State) (a0 : Array Value) (hw : ∀ d ∈ tables_1, d.before a0 Z = true) (ws : List Jvm.Cond) (x1 : Int32) (x2 : Int32) (x3 : Int32) (a1 : Addr) (q_a1 : List Int32) (hE : Heap) (n0 : Nat) (Z0 : n0 ≤ hE.size) (o0 : n0 ≤ a1) (A_a1_0 : AI Z hE a1 .byte q_a1) (r : Int32) (hr : f2 x1 x2 x3 q_a1 = some r) :
    MetFree l (⟨"com/example/notewright/notewright/DecimalsScalePinLaw", "dotAt", "([BIII)I"⟩ : MethodName) (head1 (Jvm.Cond.code (⟨"com/example/notewright/notewright/DecimalsScalePinLaw", "dotAt", "([BIII)I"⟩ : MethodName) method_4_code 4 (some .int) :: ws) ({ frames := 0, cells := 0, slots := 0, locals := 0 } : Room)) (fun a U => a = #[(.ref a1), (.int x1), (.int x2), (.int x3)] ∧ Z.Warmed39 U.vm ∧ U.heap = hE) (fun _ _ _ _ _ => True) (fun _ U o U' => ∃ v L, o = .returned v ∧ (P2 Z hE a1 q_a1 n0 r v U'.heap L) ∧ FrameEnd U o U' L ({ frames := 0, cells := 0, slots := 0, locals := 0 } : Room).cells ({ frames := 0, cells := 0, slots := 0, locals := 0 } : Room).slots) := by
  refine MetFree.of_bodySF (plainFor_of_name pn_2) hisR ?_
  intro p e s m args below meth c s₁ Bd hml0 hP hK
  obtain ⟨rfl, hZ, hh⟩ := hP
  have X0 : Stand p l e ({ frames := 0, cells := 0, slots := 0, locals := 0 } : Room) s m #[(.ref a1), (.int x1), (.int x2), (.int x3)] below meth c s₁ [] 0 0 := Stand.of_body Bd
  have e0 : s₁.heap = hE := by rw [← hh, Bd.state]; rfl
  have C : Ctx p s m meth c Z a0 "com/example/notewright/notewright/DecimalsScalePinLaw" method_4_code 4 (some .int) "dotAt" := ⟨Bd.exec, hZ, hw, Bd.bytes, hml0, findClass_of_methodNamed Bd.named, Bd.returns, BodyLoose.notSynchronized Bd, (name_of_methodNamed Bd.named Bd.method).1⟩
  refine Runs.via (fun t k => castTop (ef_2 m x1 x2 x3 a1) k) (b2_0 C X0 e0 (Fr.nil n0) (by show 0 ≤ 0; omega) (by show 0 ≤ 0; omega) Z0 (by omega) x1 x2 x3 A_a1_0 hr)
theorem pd_1 : parseMethodDescriptor "([BIII)I" = some ⟨[(.array .byte), .int, .int, .int], some .int⟩ := by decide +kernel
theorem d5_0 : decode method_3_code 0 = .ok (.iload_n 0, 1) := by decide +kernel
theorem d5_1 : decode method_3_code 1 = .ok (.bipush 48, 2) := by decide +kernel
theorem d5_3 : decode method_3_code 3 = .ok (.if_icmp .lt 13, 3) := by decide +kernel
theorem d5_6 : decode method_3_code 6 = .ok (.iload_n 0, 1) := by decide +kernel
theorem d5_7 : decode method_3_code 7 = .ok (.bipush 57, 2) := by decide +kernel
theorem d5_9 : decode method_3_code 9 = .ok (.if_icmp .gt 7, 3) := by decide +kernel
theorem d5_12 : decode method_3_code 12 = .ok (.iconst 1, 1) := by decide +kernel
theorem d5_13 : decode method_3_code 13 = .ok (.goto 4, 3) := by decide +kernel
theorem d5_16 : decode method_3_code 16 = .ok (.iconst 0, 1) := by decide +kernel
theorem d5_17 : decode method_3_code 17 = .ok (.ireturn, 1) := by decide +kernel
def g5_0 (x0 : Int32) : Int32 := (if x0 < (48 : Int32) then (0 : Int32) else (if (57 : Int32) < x0 then (0 : Int32) else (1 : Int32)))
set_option maxRecDepth 65536 in
set_option maxHeartbeats 4000000 in
theorem b5_0 (C : Ctx p s m meth c Z a0 "com/example/notewright/notewright/DecimalsScalePinLaw" method_3_code 1 (some .boolean) "digit") (X0 : Stand p l e ({ frames := 0, cells := 0, slots := 0, locals := 0 } : Room) s m args below meth c T0 locs cells slots) (e0 : T0.heap = h0) (N0 : Fr n0 locs) (hk : cells ≤ 0) (hn : slots ≤ 0) (x0 : Int32) :
    Runs p e below s (QP (some (.int (g5_0 x0))) h0 n0) 0 0 T0 (mkF m 0 #[.val (.int x0)] []) := by
  have ⟨hx, hZ, hw, hby, hml, hown, hret, hlk, hnm⟩ := C
  refine Runs.via (T' := T0) (g' := (mkF m 3 #[.val (.int x0)] [(.int (48 : Int32)), (.int x0)])) (fun t k => ?_) ?_
  · show Steps p.tables e below (T0.setTop (mkF m 0 #[.val (.int x0)] [])) t
    refine XS.iloadN X0.here hx rfl (hb hby d5_0) rfl ?_
    show Steps p.tables e below (T0.setTop (mkF m 1 #[.val (.int x0)] [(.int x0)])) t
    refine XS.bipush X0.here hx rfl (hb hby d5_1) ?_
    exact k
  by_cases hc1 : x0 < (48 : Int32)
  · refine Runs.via (T' := T0) (g' := (mkF m 16 #[.val (.int x0)] [])) (fun t k => ?_) ?_
    · show Steps p.tables e below (T0.setTop (mkF m 3 #[.val (.int x0)] [(.int (48 : Int32)), (.int x0)])) t
      exact XS.icmpYes X0.here hx rfl (pc0 := 3) (pc' := 16) rfl (hb hby d5_3) rfl (tlt hc1).1 (by decide) (by decide) k
    refine Runs.via (T' := T0) (g' := (mkF m 17 #[.val (.int x0)] [(.int (0 : Int32))])) (fun t k => ?_) ?_
    · show Steps p.tables e below (T0.setTop (mkF m 16 #[.val (.int x0)] [])) t
      refine XS.iconst X0.here hx rfl (hb hby d5_16) ?_
      exact k
    refine QP.cast (congrArg (fun z => some (Value.int z)) (show (g5_0 x0) = (0 : Int32) from (if_pos hc1))) ?_
    exact own_retN X0 hx hlk (t := .boolean) hret (by simp) (hb hby d5_17) hk hn ⟨rfl, N0, e0⟩
  · refine Runs.via (T' := T0) (g' := (mkF m 6 #[.val (.int x0)] [])) (fun t k => ?_) ?_
    · show Steps p.tables e below (T0.setTop (mkF m 3 #[.val (.int x0)] [(.int (48 : Int32)), (.int x0)])) t
      exact XS.icmpNo X0.here hx rfl (hb hby d5_3) rfl (flt hc1).1 k
    refine Runs.via (T' := T0) (g' := (mkF m 9 #[.val (.int x0)] [(.int (57 : Int32)), (.int x0)])) (fun t k => ?_) ?_
    · show Steps p.tables e below (T0.setTop (mkF m 6 #[.val (.int x0)] [])) t
      refine XS.iloadN X0.here hx rfl (hb hby d5_6) rfl ?_
      show Steps p.tables e below (T0.setTop (mkF m 7 #[.val (.int x0)] [(.int x0)])) t
      refine XS.bipush X0.here hx rfl (hb hby d5_7) ?_
      exact k
    by_cases hc2 : (57 : Int32) < x0
    · refine Runs.via (T' := T0) (g' := (mkF m 16 #[.val (.int x0)] [])) (fun t k => ?_) ?_
      · show Steps p.tables e below (T0.setTop (mkF m 9 #[.val (.int x0)] [(.int (57 : Int32)), (.int x0)])) t
        exact XS.icmpYes X0.here hx rfl (pc0 := 9) (pc' := 16) rfl (hb hby d5_9) rfl (tlt hc2).2.2.1 (by decide) (by decide) k
      refine Runs.via (T' := T0) (g' := (mkF m 17 #[.val (.int x0)] [(.int (0 : Int32))])) (fun t k => ?_) ?_
      · show Steps p.tables e below (T0.setTop (mkF m 16 #[.val (.int x0)] [])) t
        refine XS.iconst X0.here hx rfl (hb hby d5_16) ?_
        exact k
      refine QP.cast (congrArg (fun z => some (Value.int z)) (show (g5_0 x0) = (0 : Int32) from ((if_neg hc1).trans (if_pos hc2)))) ?_
      exact own_retN X0 hx hlk (t := .boolean) hret (by simp) (hb hby d5_17) hk hn ⟨rfl, N0, e0⟩
    · refine Runs.via (T' := T0) (g' := (mkF m 12 #[.val (.int x0)] [])) (fun t k => ?_) ?_
      · show Steps p.tables e below (T0.setTop (mkF m 9 #[.val (.int x0)] [(.int (57 : Int32)), (.int x0)])) t
        exact XS.icmpNo X0.here hx rfl (hb hby d5_9) rfl (flt hc2).2.2.1 k
      refine Runs.via (T' := T0) (g' := (mkF m 17 #[.val (.int x0)] [(.int (1 : Int32))])) (fun t k => ?_) ?_
      · show Steps p.tables e below (T0.setTop (mkF m 12 #[.val (.int x0)] [])) t
        refine XS.iconst X0.here hx rfl (hb hby d5_12) ?_
        show Steps p.tables e below (T0.setTop (mkF m 13 #[.val (.int x0)] [(.int (1 : Int32))])) t
        refine XS.goto X0.here hx rfl (pc0 := 13) (pc' := 17) rfl (hb hby d5_13) (by decide) (by decide) ?_
        exact k
      refine QP.cast (congrArg (fun z => some (Value.int z)) (show (g5_0 x0) = (1 : Int32) from ((if_neg hc1).trans (if_neg hc2)))) ?_
      exact own_retN X0 hx hlk (t := .boolean) hret (by simp) (hb hby d5_17) hk hn ⟨rfl, N0, e0⟩
def f5 (x0 : Int32) : Int32 := g5_0 x0
theorem pn_5 : plainName "com/example/notewright/notewright/DecimalsScalePinLaw" = true := by first | (simp [plainName, overriddenIn]; done) | decide +kernel
theorem ef_5 (m : MethodId) (x0 : Int32) : entryFrame m #[(.int x0)] 1 = mkF m 0 #[.val (.int x0)] [] := by first | (simp [entryFrame, mkF, argsToLocals, Value.category]; done) | rfl
set_option maxRecDepth 65536 in
set_option maxHeartbeats 4000000 in
theorem rm5 (l : Launch) (Z : State) (a0 : Array Value) (hw : ∀ d ∈ tables_1, d.before a0 Z = true) (ws : List Jvm.Cond) (x0 : Int32) (h0 : Heap) (n0 : Nat) :
    MetFree l (⟨"com/example/notewright/notewright/DecimalsScalePinLaw", "digit", "(B)Z"⟩ : MethodName) (head1 (Jvm.Cond.code (⟨"com/example/notewright/notewright/DecimalsScalePinLaw", "digit", "(B)Z"⟩ : MethodName) method_3_code 1 (some .boolean) :: ws) ({ frames := 0, cells := 0, slots := 0, locals := 0 } : Room)) (fun a U => a = #[(.int x0)] ∧ Z.Warmed39 U.vm ∧ U.heap = h0) (fun _ _ _ _ _ => True) (fun _ U o U' => ∃ v L, o = .returned v ∧ QP (some (.int (f5 x0))) h0 n0 v U'.heap L ∧ FrameEnd U o U' L ({ frames := 0, cells := 0, slots := 0, locals := 0 } : Room).cells ({ frames := 0, cells := 0, slots := 0, locals := 0 } : Room).slots) := by
  refine MetFree.of_bodySF (plainFor_of_name pn_5) hisR ?_
  intro p e s m args below meth c s₁ Bd hml0 hP hK
  obtain ⟨rfl, hZ, hh⟩ := hP
  have X0 : Stand p l e ({ frames := 0, cells := 0, slots := 0, locals := 0 } : Room) s m #[(.int x0)] below meth c s₁ [] 0 0 := Stand.of_body Bd
  have e0 : s₁.heap = h0 := by rw [← hh, Bd.state]; rfl
  have C : Ctx p s m meth c Z a0 "com/example/notewright/notewright/DecimalsScalePinLaw" method_3_code 1 (some .boolean) "digit" := ⟨Bd.exec, hZ, hw, Bd.bytes, hml0, findClass_of_methodNamed Bd.named, Bd.returns, BodyLoose.notSynchronized Bd, (name_of_methodNamed Bd.named Bd.method).1⟩
  refine Runs.via (fun t k => castTop (ef_5 m x0) k) (b5_0 C X0 e0 (Fr.nil n0) (Nat.le_refl 0) (Nat.le_refl 0) x0)
theorem pd_2 : parseMethodDescriptor "(B)Z" = some ⟨[.byte], some .boolean⟩ := by decide +kernel
theorem d3_0 : decode method_5_code 0 = .ok (.iload_n 1, 1) := by decide +kernel
theorem d3_1 : decode method_5_code 1 = .ok (.iload_n 2, 1) := by decide +kernel
theorem d3_2 : decode method_5_code 2 = .ok (.if_icmp .lt 29, 3) := by decide +kernel
theorem d3_5 : decode method_5_code 5 = .ok (.iload_n 1, 1) := by decide +kernel
theorem d3_6 : decode method_5_code 6 = .ok (.iload_n 3, 1) := by decide +kernel
theorem d3_7 : decode method_5_code 7 = .ok (.if_icmp .ge 24, 3) := by decide +kernel
theorem d3_10 : decode method_5_code 10 = .ok (.aload_n 0, 1) := by decide +kernel
theorem d3_11 : decode method_5_code 11 = .ok (.iload_n 1, 1) := by decide +kernel
theorem d3_12 : decode method_5_code 12 = .ok (.baload, 1) := by decide +kernel
theorem d3_13 : decode method_5_code 13 = .ok (.bipush 46, 2) := by decide +kernel
theorem d3_15 : decode method_5_code 15 = .ok (.if_icmp .eq 16, 3) := by decide +kernel
theorem d3_18 : decode method_5_code 18 = .ok (.aload_n 0, 1) := by decide +kernel
theorem d3_19 : decode method_5_code 19 = .ok (.iload_n 1, 1) := by decide +kernel
theorem d3_20 : decode method_5_code 20 = .ok (.baload, 1) := by decide +kernel
theorem d3_21 : decode method_5_code 21 = .ok (.invokestatic 7, 3) := by decide +kernel
theorem d3_24 : decode method_5_code 24 = .ok (.ifCond .ne 7, 3) := by decide +kernel
theorem d3_27 : decode method_5_code 27 = .ok (.iconst 1, 1) := by decide +kernel
theorem d3_28 : decode method_5_code 28 = .ok (.goto 4, 3) := by decide +kernel
theorem d3_31 : decode method_5_code 31 = .ok (.iconst 0, 1) := by decide +kernel
theorem d3_32 : decode method_5_code 32 = .ok (.ireturn, 1) := by decide +kernel
def P3 (Z : State) (hE : Heap) (a1 : Addr) (q_a1 : List Int32) (n0 : Nat) (r : Int32) (v : Option Value) (h : Heap) (L : List Loc) : Prop := v = some (.int r) ∧ Fr n0 L ∧ h = hE
def g3_0 (x1 : Int32) (x2 : Int32) (x3 : Int32) (q_a1 : List Int32) : Option (Int32) := (if x1 < x2 then some (0 : Int32) else (if x1 < x3 then ((rdO q_a1 x1).bind fun v3 => (if v3 = (46 : Int32) then some (0 : Int32) else ((rdO q_a1 x1).bind fun v5 => (if (f5 v5) = (0 : Int32) then some (1 : Int32) else some (0 : Int32))))) else some (0 : Int32)))
set_option maxRecDepth 65536 in
set_option maxHeartbeats 4000000 in
theorem b3_0 {hE : Heap} {a1 : Addr} {q_a1 : List Int32} {r : Int32} (C : Ctx p s m meth c Z a0 "com/example/notewright/notewright/DecimalsScalePinLaw" method_5_code 4 (some .int) "otherAt") (X0 : Stand p l e ({ frames := 1, cells := 0, slots := 0, locals := 12 } : Room) s m args below meth c T0 locs cells slots) (e0 : T0.heap = hE) (N0 : Fr n0 locs) (hk : cells ≤ 0) (hn : slots ≤ 0) (Z1 : n0 ≤ hE.size) (o0 : n0 ≤ a1) (x1 : Int32) (x2 : Int32) (x3 : Int32) (A_a1_0 : AI Z hE a1 .byte q_a1) (hr : g3_0 x1 x2 x3 q_a1 = some r) :
    Runs p e below s (P3 Z hE a1 q_a1 n0 r) 0 0 T0 (mkF m 0 #[.val (.ref a1), .val (.int x1), .val (.int x2), .val (.int x3)] []) := by
  unfold g3_0 at hr
  have ⟨hx, hZ, hw, hby, hml, hown, hret, hlk, hnm⟩ := C
  refine Runs.via (T' := T0) (g' := (mkF m 2 #[.val (.ref a1), .val (.int x1), .val (.int x2), .val (.int x3)] [(.int x2), (.int x1)])) (fun t k => ?_) ?_
  · show Steps p.tables e below (T0.setTop (mkF m 0 #[.val (.ref a1), .val (.int x1), .val (.int x2), .val (.int x3)] [])) t
    refine XS.iloadN X0.here hx rfl (hb hby d3_0) rfl ?_
    show Steps p.tables e below (T0.setTop (mkF m 1 #[.val (.ref a1), .val (.int x1), .val (.int x2), .val (.int x3)] [(.int x1)])) t
    refine XS.iloadN X0.here hx rfl (hb hby d3_1) rfl ?_
    exact k
  refine iteE hr (fun hc1 hr => ?_) (fun hc1 hr => ?_)
  · refine Runs.via (T' := T0) (g' := (mkF m 31 #[.val (.ref a1), .val (.int x1), .val (.int x2), .val (.int x3)] [])) (fun t k => ?_) ?_
    · show Steps p.tables e below (T0.setTop (mkF m 2 #[.val (.ref a1), .val (.int x1), .val (.int x2), .val (.int x3)] [(.int x2), (.int x1)])) t
      exact XS.icmpYes X0.here hx rfl (pc0 := 2) (pc' := 31) rfl (hb hby d3_2) rfl (tlt hc1).1 (by decide) (by decide) k
    refine Runs.via (T' := T0) (g' := (mkF m 32 #[.val (.ref a1), .val (.int x1), .val (.int x2), .val (.int x3)] [(.int (0 : Int32))])) (fun t k => ?_) ?_
    · show Steps p.tables e below (T0.setTop (mkF m 31 #[.val (.ref a1), .val (.int x1), .val (.int x2), .val (.int x3)] [])) t
      refine XS.iconst X0.here hx rfl (hb hby d3_31) ?_
      exact k
    obtain rfl := Option.some.inj hr
    exact own_retI X0 hx hlk hret (hb hby d3_32) (by show cells ≤ 0; omega) (by show slots ≤ 0; omega) ⟨rfl, N0, e0⟩
  · refine Runs.via (T' := T0) (g' := (mkF m 5 #[.val (.ref a1), .val (.int x1), .val (.int x2), .val (.int x3)] [])) (fun t k => ?_) ?_
    · show Steps p.tables e below (T0.setTop (mkF m 2 #[.val (.ref a1), .val (.int x1), .val (.int x2), .val (.int x3)] [(.int x2), (.int x1)])) t
      exact XS.icmpNo X0.here hx rfl (hb hby d3_2) rfl (flt hc1).1 k
    refine Runs.via (T' := T0) (g' := (mkF m 7 #[.val (.ref a1), .val (.int x1), .val (.int x2), .val (.int x3)] [(.int x3), (.int x1)])) (fun t k => ?_) ?_
    · show Steps p.tables e below (T0.setTop (mkF m 5 #[.val (.ref a1), .val (.int x1), .val (.int x2), .val (.int x3)] [])) t
      refine XS.iloadN X0.here hx rfl (hb hby d3_5) rfl ?_
      show Steps p.tables e below (T0.setTop (mkF m 6 #[.val (.ref a1), .val (.int x1), .val (.int x2), .val (.int x3)] [(.int x1)])) t
      refine XS.iloadN X0.here hx rfl (hb hby d3_6) rfl ?_
      exact k
    refine iteE hr (fun hc2 hr => ?_) (fun hc2 hr => ?_)
    · refine Runs.via (T' := T0) (g' := (mkF m 10 #[.val (.ref a1), .val (.int x1), .val (.int x2), .val (.int x3)] [])) (fun t k => ?_) ?_
      · show Steps p.tables e below (T0.setTop (mkF m 7 #[.val (.ref a1), .val (.int x1), .val (.int x2), .val (.int x3)] [(.int x3), (.int x1)])) t
        exact XS.icmpNo X0.here hx rfl (hb hby d3_7) rfl (tlt hc2).2.1 k
      refine Runs.via (T' := T0) (g' := (mkF m 12 #[.val (.ref a1), .val (.int x1), .val (.int x2), .val (.int x3)] [(.int x1), (.ref a1)])) (fun t k => ?_) ?_
      · show Steps p.tables e below (T0.setTop (mkF m 10 #[.val (.ref a1), .val (.int x1), .val (.int x2), .val (.int x3)] [])) t
        refine XS.aloadN X0.here hx rfl (hb hby d3_10) rfl rfl ?_
        show Steps p.tables e below (T0.setTop (mkF m 11 #[.val (.ref a1), .val (.int x1), .val (.int x2), .val (.int x3)] [(.ref a1)])) t
        refine XS.iloadN X0.here hx rfl (hb hby d3_11) rfl ?_
        exact k
      refine bindE hr ?_; intro v3 hv3 hr
      refine Runs.via (T' := T0) (g' := (mkF m 13 #[.val (.ref a1), .val (.int x1), .val (.int x2), .val (.int x3)] [(.int v3)])) (fun t k => ldB X0 hx hZ e0 A_a1_0 hv3 (g := (mkF m 12 #[.val (.ref a1), .val (.int x1), .val (.int x2), .val (.int x3)] [(.int x1), (.ref a1)])) rfl rfl (hb hby d3_12) _ k) ?_
      refine Runs.via (T' := T0) (g' := (mkF m 15 #[.val (.ref a1), .val (.int x1), .val (.int x2), .val (.int x3)] [(.int (46 : Int32)), (.int v3)])) (fun t k => ?_) ?_
      · show Steps p.tables e below (T0.setTop (mkF m 13 #[.val (.ref a1), .val (.int x1), .val (.int x2), .val (.int x3)] [(.int v3)])) t
        refine XS.bipush X0.here hx rfl (hb hby d3_13) ?_
        exact k
      refine iteE hr (fun hc4 hr => ?_) (fun hc4 hr => ?_)
      · refine Runs.via (T' := T0) (g' := (mkF m 31 #[.val (.ref a1), .val (.int x1), .val (.int x2), .val (.int x3)] [])) (fun t k => ?_) ?_
        · show Steps p.tables e below (T0.setTop (mkF m 15 #[.val (.ref a1), .val (.int x1), .val (.int x2), .val (.int x3)] [(.int (46 : Int32)), (.int v3)])) t
          exact XS.icmpYes X0.here hx rfl (pc0 := 15) (pc' := 31) rfl (hb hby d3_15) rfl (teq hc4).1 (by decide) (by decide) k
        refine Runs.via (T' := T0) (g' := (mkF m 32 #[.val (.ref a1), .val (.int x1), .val (.int x2), .val (.int x3)] [(.int (0 : Int32))])) (fun t k => ?_) ?_
        · show Steps p.tables e below (T0.setTop (mkF m 31 #[.val (.ref a1), .val (.int x1), .val (.int x2), .val (.int x3)] [])) t
          refine XS.iconst X0.here hx rfl (hb hby d3_31) ?_
          exact k
        obtain rfl := Option.some.inj hr
        exact own_retI X0 hx hlk hret (hb hby d3_32) (by show cells ≤ 0; omega) (by show slots ≤ 0; omega) ⟨rfl, N0, e0⟩
      · refine Runs.via (T' := T0) (g' := (mkF m 18 #[.val (.ref a1), .val (.int x1), .val (.int x2), .val (.int x3)] [])) (fun t k => ?_) ?_
        · show Steps p.tables e below (T0.setTop (mkF m 15 #[.val (.ref a1), .val (.int x1), .val (.int x2), .val (.int x3)] [(.int (46 : Int32)), (.int v3)])) t
          exact XS.icmpNo X0.here hx rfl (hb hby d3_15) rfl (feq hc4).1 k
        refine Runs.via (T' := T0) (g' := (mkF m 20 #[.val (.ref a1), .val (.int x1), .val (.int x2), .val (.int x3)] [(.int x1), (.ref a1)])) (fun t k => ?_) ?_
        · show Steps p.tables e below (T0.setTop (mkF m 18 #[.val (.ref a1), .val (.int x1), .val (.int x2), .val (.int x3)] [])) t
          refine XS.aloadN X0.here hx rfl (hb hby d3_18) rfl rfl ?_
          show Steps p.tables e below (T0.setTop (mkF m 19 #[.val (.ref a1), .val (.int x1), .val (.int x2), .val (.int x3)] [(.ref a1)])) t
          refine XS.iloadN X0.here hx rfl (hb hby d3_19) rfl ?_
          exact k
        refine bindE hr ?_; intro v5 hv5 hr
        refine Runs.via (T' := T0) (g' := (mkF m 21 #[.val (.ref a1), .val (.int x1), .val (.int x2), .val (.int x3)] [(.int v5)])) (fun t k => ldB X0 hx hZ e0 A_a1_0 hv5 (g := (mkF m 20 #[.val (.ref a1), .val (.int x1), .val (.int x2), .val (.int x3)] [(.int x1), (.ref a1)])) rfl rfl (hb hby d3_20) _ k) ?_
        obtain ⟨_, _, ⟨T6, L6, k6, n6⟩, -, X6, ⟨Lc6, hQ6, l6, y6, z6⟩, st6⟩ := Jvm.LawKit.callS X0 hx (y := (⟨"com/example/notewright/notewright/DecimalsScalePinLaw", "digit", "(B)Z"⟩ : MethodName)) hown (mvT hZ (hw _ (List.mem_of_getElem? (i := 16) rfl))) (mvT hZ (hw _ (List.mem_of_getElem? (i := 17) rfl))) (mvT hZ (hw _ (List.mem_of_getElem? (i := 3) rfl))) (mvT hZ (hw _ (List.mem_of_getElem? (i := 18) rfl))) (by decide) (backOf (W := 0) (rm5 l Z a0 hw [] v5 hE n0) hZ (hw _ (List.mem_of_getElem? (i := 18) rfl)) (hw _ (List.mem_of_getElem? (i := 3) rfl)) (by decide) (by decide)) (g := (mkF m 21 #[.val (.ref a1), .val (.int x1), .val (.int x2), .val (.int x3)] [(.int v5)])) rfl (by rw [hml]; rfl) (argsL := [(.int v5)]) (rest := []) (lenOf pd_2 rfl) rfl (by show 2 * 0 + _ ≤ _; exact Nat.le_of_eq rfl) (hb hby d3_21) (fun _ _ => ⟨rfl, e0, (by show cells + 0 ≤ 0; omega), (by show slots + 0 ≤ 0; omega)⟩)
        dsimp only [Pt.U, Pt.locs, Pt.cells, Pt.slots] at X6 l6 y6 z6 st6 hQ6
        replace y6 := y6.symm; replace z6 := z6.symm; subst l6 y6 z6
        obtain ⟨rfl, N6q, e6⟩ := hQ6
        have N6 := Fr.app N0 N6q
        refine Runs.via (T' := T6) (g' := (mkF m 24 #[.val (.ref a1), .val (.int x1), .val (.int x2), .val (.int x3)] [(.int (f5 v5))])) (fun t k => st6 _ k) ?_
        refine iteE hr (fun hc7 hr => ?_) (fun hc7 hr => ?_)
        · refine Runs.via (T' := T6) (g' := (mkF m 27 #[.val (.ref a1), .val (.int x1), .val (.int x2), .val (.int x3)] [])) (fun t k => ?_) ?_
          · show Steps p.tables e below (T6.setTop (mkF m 24 #[.val (.ref a1), .val (.int x1), .val (.int x2), .val (.int x3)] [(.int (f5 v5))])) t
            exact XS.ifNo X6.here hx rfl (hb hby d3_24) rfl ((if0 _ _).trans (teq hc7).2) k
          refine Runs.via (T' := T6) (g' := (mkF m 32 #[.val (.ref a1), .val (.int x1), .val (.int x2), .val (.int x3)] [(.int (1 : Int32))])) (fun t k => ?_) ?_
          · show Steps p.tables e below (T6.setTop (mkF m 27 #[.val (.ref a1), .val (.int x1), .val (.int x2), .val (.int x3)] [])) t
            refine XS.iconst X6.here hx rfl (hb hby d3_27) ?_
            show Steps p.tables e below (T6.setTop (mkF m 28 #[.val (.ref a1), .val (.int x1), .val (.int x2), .val (.int x3)] [(.int (1 : Int32))])) t
            refine XS.goto X6.here hx rfl (pc0 := 28) (pc' := 32) rfl (hb hby d3_28) (by decide) (by decide) ?_
            exact k
          obtain rfl := Option.some.inj hr
          exact own_retI X6 hx hlk hret (hb hby d3_32) (by show (cells + 0) ≤ 0; omega) (by show (slots + 0) ≤ 0; omega) ⟨rfl, N6, e6⟩
        · refine Runs.via (T' := T6) (g' := (mkF m 31 #[.val (.ref a1), .val (.int x1), .val (.int x2), .val (.int x3)] [])) (fun t k => ?_) ?_
          · show Steps p.tables e below (T6.setTop (mkF m 24 #[.val (.ref a1), .val (.int x1), .val (.int x2), .val (.int x3)] [(.int (f5 v5))])) t
            exact XS.ifYes X6.here hx rfl (pc0 := 24) (pc' := 31) rfl (hb hby d3_24) rfl ((if0 _ _).trans (feq hc7).2) (by decide) (by decide) k
          refine Runs.via (T' := T6) (g' := (mkF m 32 #[.val (.ref a1), .val (.int x1), .val (.int x2), .val (.int x3)] [(.int (0 : Int32))])) (fun t k => ?_) ?_
          · show Steps p.tables e below (T6.setTop (mkF m 31 #[.val (.ref a1), .val (.int x1), .val (.int x2), .val (.int x3)] [])) t
            refine XS.iconst X6.here hx rfl (hb hby d3_31) ?_
            exact k
          obtain rfl := Option.some.inj hr
          exact own_retI X6 hx hlk hret (hb hby d3_32) (by show (cells + 0) ≤ 0; omega) (by show (slots + 0) ≤ 0; omega) ⟨rfl, N6, e6⟩
    · refine Runs.via (T' := T0) (g' := (mkF m 31 #[.val (.ref a1), .val (.int x1), .val (.int x2), .val (.int x3)] [])) (fun t k => ?_) ?_
      · show Steps p.tables e below (T0.setTop (mkF m 7 #[.val (.ref a1), .val (.int x1), .val (.int x2), .val (.int x3)] [(.int x3), (.int x1)])) t
        exact XS.icmpYes X0.here hx rfl (pc0 := 7) (pc' := 31) rfl (hb hby d3_7) rfl (flt hc2).2.1 (by decide) (by decide) k
      refine Runs.via (T' := T0) (g' := (mkF m 32 #[.val (.ref a1), .val (.int x1), .val (.int x2), .val (.int x3)] [(.int (0 : Int32))])) (fun t k => ?_) ?_
      · show Steps p.tables e below (T0.setTop (mkF m 31 #[.val (.ref a1), .val (.int x1), .val (.int x2), .val (.int x3)] [])) t
        refine XS.iconst X0.here hx rfl (hb hby d3_31) ?_
        exact k
      obtain rfl := Option.some.inj hr
      exact own_retI X0 hx hlk hret (hb hby d3_32) (by show cells ≤ 0; omega) (by show slots ≤ 0; omega) ⟨rfl, N0, e0⟩
def f3 (x1 : Int32) (x2 : Int32) (x3 : Int32) (q_a1 : List Int32) : Option (Int32) := g3_0 x1 x2 x3 q_a1
theorem pn_3 : plainName "com/example/notewright/notewright/DecimalsScalePinLaw" = true := by first | (simp [plainName, overriddenIn]; done) | decide +kernel
theorem ef_3 (m : MethodId) (x1 : Int32) (x2 : Int32) (x3 : Int32) (a1 : Addr) : entryFrame m #[(.ref a1), (.int x1), (.int x2), (.int x3)] 4 = mkF m 0 #[.val (.ref a1), .val (.int x1), .val (.int x2), .val (.int x3)] [] := by first | (simp [entryFrame, mkF, argsToLocals, Value.category]; done) | rfl
set_option maxRecDepth 65536 in
set_option maxHeartbeats 4000000 in
theorem rm3 (l : Launch) (Z : State) (a0 : Array Value) (hw : ∀ d ∈ tables_1, d.before a0 Z = true) (ws : List Jvm.Cond) (x1 : Int32) (x2 : Int32) (x3 : Int32) (a1 : Addr) (q_a1 : List Int32) (hE : Heap) (n0 : Nat) (Z0 : n0 ≤ hE.size) (o0 : n0 ≤ a1) (A_a1_0 : AI Z hE a1 .byte q_a1) (r : Int32) (hr : f3 x1 x2 x3 q_a1 = some r) :
    MetFree l (⟨"com/example/notewright/notewright/DecimalsScalePinLaw", "otherAt", "([BIII)I"⟩ : MethodName) (head1 (Jvm.Cond.code (⟨"com/example/notewright/notewright/DecimalsScalePinLaw", "otherAt", "([BIII)I"⟩ : MethodName) method_5_code 4 (some .int) :: ws) ({ frames := 1, cells := 0, slots := 0, locals := 12 } : Room)) (fun a U => a = #[(.ref a1), (.int x1), (.int x2), (.int x3)] ∧ Z.Warmed39 U.vm ∧ U.heap = hE) (fun _ _ _ _ _ => True) (fun _ U o U' => ∃ v L, o = .returned v ∧ (P3 Z hE a1 q_a1 n0 r v U'.heap L) ∧ FrameEnd U o U' L ({ frames := 1, cells := 0, slots := 0, locals := 12 } : Room).cells ({ frames := 1, cells := 0, slots := 0, locals := 12 } : Room).slots) := by
  refine MetFree.of_bodySF (plainFor_of_name pn_3) hisR ?_
  intro p e s m args below meth c s₁ Bd hml0 hP hK
  obtain ⟨rfl, hZ, hh⟩ := hP
  have X0 : Stand p l e ({ frames := 1, cells := 0, slots := 0, locals := 12 } : Room) s m #[(.ref a1), (.int x1), (.int x2), (.int x3)] below meth c s₁ [] 0 0 := Stand.of_body Bd
  have e0 : s₁.heap = hE := by rw [← hh, Bd.state]; rfl
  have C : Ctx p s m meth c Z a0 "com/example/notewright/notewright/DecimalsScalePinLaw" method_5_code 4 (some .int) "otherAt" := ⟨Bd.exec, hZ, hw, Bd.bytes, hml0, findClass_of_methodNamed Bd.named, Bd.returns, BodyLoose.notSynchronized Bd, (name_of_methodNamed Bd.named Bd.method).1⟩
  refine Runs.via (fun t k => castTop (ef_3 m x1 x2 x3 a1) k) (b3_0 C X0 e0 (Fr.nil n0) (by show 0 ≤ 0; omega) (by show 0 ≤ 0; omega) Z0 (by omega) x1 x2 x3 A_a1_0 hr)
theorem d4_0 : decode prog_7_method_3_code 0 = .ok (.iconst (-1), 1) := by decide +kernel
theorem d4_1 : decode prog_7_method_3_code 1 = .ok (.istore_n 3, 1) := by decide +kernel
theorem d4_2 : decode prog_7_method_3_code 2 = .ok (.iload_n 2, 1) := by decide +kernel
theorem d4_3 : decode prog_7_method_3_code 3 = .ok (.iload_n 1, 1) := by decide +kernel
theorem d4_4 : decode prog_7_method_3_code 4 = .ok (.if_icmp .le 7, 3) := by decide +kernel
theorem d4_7 : decode prog_7_method_3_code 7 = .ok (.iconst 1, 1) := by decide +kernel
theorem d4_8 : decode prog_7_method_3_code 8 = .ok (.goto 4, 3) := by decide +kernel
theorem d4_11 : decode prog_7_method_3_code 11 = .ok (.iconst 0, 1) := by decide +kernel
theorem d4_12 : decode prog_7_method_3_code 12 = .ok (.istore 4, 2) := by decide +kernel
theorem d4_14 : decode prog_7_method_3_code 14 = .ok (.iload_n 1, 1) := by decide +kernel
theorem d4_15 : decode prog_7_method_3_code 15 = .ok (.istore 5, 2) := by decide +kernel
theorem d4_17 : decode prog_7_method_3_code 17 = .ok (.iload 5, 2) := by decide +kernel
theorem d4_19 : decode prog_7_method_3_code 19 = .ok (.iload_n 2, 1) := by decide +kernel
theorem d4_20 : decode prog_7_method_3_code 20 = .ok (.if_icmp .ge 72, 3) := by decide +kernel
theorem d4_23 : decode prog_7_method_3_code 23 = .ok (.iload 4, 2) := by decide +kernel
theorem d4_25 : decode prog_7_method_3_code 25 = .ok (.ifCond .eq 67, 3) := by decide +kernel
theorem d4_28 : decode prog_7_method_3_code 28 = .ok (.aload_n 0, 1) := by decide +kernel
theorem d4_29 : decode prog_7_method_3_code 29 = .ok (.iload 5, 2) := by decide +kernel
theorem d4_31 : decode prog_7_method_3_code 31 = .ok (.baload, 1) := by decide +kernel
theorem d4_32 : decode prog_7_method_3_code 32 = .ok (.istore 6, 2) := by decide +kernel
theorem d4_34 : decode prog_7_method_3_code 34 = .ok (.iload 6, 2) := by decide +kernel
theorem d4_36 : decode prog_7_method_3_code 36 = .ok (.bipush 46, 2) := by decide +kernel
theorem d4_38 : decode prog_7_method_3_code 38 = .ok (.if_icmp .ne 27, 3) := by decide +kernel
theorem d4_41 : decode prog_7_method_3_code 41 = .ok (.iload_n 3, 1) := by decide +kernel
theorem d4_42 : decode prog_7_method_3_code 42 = .ok (.ifCond .ge 23, 3) := by decide +kernel
theorem d4_45 : decode prog_7_method_3_code 45 = .ok (.iload 5, 2) := by decide +kernel
theorem d4_47 : decode prog_7_method_3_code 47 = .ok (.iload_n 1, 1) := by decide +kernel
theorem d4_48 : decode prog_7_method_3_code 48 = .ok (.if_icmp .le 17, 3) := by decide +kernel
theorem d4_51 : decode prog_7_method_3_code 51 = .ok (.iload 5, 2) := by decide +kernel
theorem d4_53 : decode prog_7_method_3_code 53 = .ok (.iload_n 2, 1) := by decide +kernel
theorem d4_54 : decode prog_7_method_3_code 54 = .ok (.iconst 1, 1) := by decide +kernel
theorem d4_55 : decode prog_7_method_3_code 55 = .ok (.isub, 1) := by decide +kernel
theorem d4_56 : decode prog_7_method_3_code 56 = .ok (.if_icmp .ge 9, 3) := by decide +kernel
theorem d4_59 : decode prog_7_method_3_code 59 = .ok (.iload 5, 2) := by decide +kernel
theorem d4_61 : decode prog_7_method_3_code 61 = .ok (.istore_n 3, 1) := by decide +kernel
theorem d4_62 : decode prog_7_method_3_code 62 = .ok (.goto 24, 3) := by decide +kernel
theorem d4_65 : decode prog_7_method_3_code 65 = .ok (.iload 6, 2) := by decide +kernel
theorem d4_67 : decode prog_7_method_3_code 67 = .ok (.bipush 48, 2) := by decide +kernel
theorem d4_69 : decode prog_7_method_3_code 69 = .ok (.if_icmp .lt 14, 3) := by decide +kernel
theorem d4_72 : decode prog_7_method_3_code 72 = .ok (.iload 6, 2) := by decide +kernel
theorem d4_74 : decode prog_7_method_3_code 74 = .ok (.bipush 57, 2) := by decide +kernel
theorem d4_76 : decode prog_7_method_3_code 76 = .ok (.if_icmp .gt 7, 3) := by decide +kernel
theorem d4_79 : decode prog_7_method_3_code 79 = .ok (.iconst 1, 1) := by decide +kernel
theorem d4_80 : decode prog_7_method_3_code 80 = .ok (.goto 4, 3) := by decide +kernel
theorem d4_83 : decode prog_7_method_3_code 83 = .ok (.iconst 0, 1) := by decide +kernel
theorem d4_84 : decode prog_7_method_3_code 84 = .ok (.istore 4, 2) := by decide +kernel
theorem d4_86 : decode prog_7_method_3_code 86 = .ok (.iinc 5 1, 3) := by decide +kernel
theorem d4_89 : decode prog_7_method_3_code 89 = .ok (.goto (-72), 3) := by decide +kernel
theorem d4_92 : decode prog_7_method_3_code 92 = .ok (.iconst (-1), 1) := by decide +kernel
theorem d4_93 : decode prog_7_method_3_code 93 = .ok (.istore 5, 2) := by decide +kernel
theorem d4_95 : decode prog_7_method_3_code 95 = .ok (.iload 4, 2) := by decide +kernel
theorem d4_97 : decode prog_7_method_3_code 97 = .ok (.ifCond .eq 13, 3) := by decide +kernel
theorem d4_100 : decode prog_7_method_3_code 100 = .ok (.iload_n 3, 1) := by decide +kernel
theorem d4_101 : decode prog_7_method_3_code 101 = .ok (.ifCond .ge 9, 3) := by decide +kernel
theorem d4_104 : decode prog_7_method_3_code 104 = .ok (.iconst 0, 1) := by decide +kernel
theorem d4_105 : decode prog_7_method_3_code 105 = .ok (.istore 5, 2) := by decide +kernel
theorem d4_107 : decode prog_7_method_3_code 107 = .ok (.goto 15, 3) := by decide +kernel
theorem d4_110 : decode prog_7_method_3_code 110 = .ok (.iload 4, 2) := by decide +kernel
theorem d4_112 : decode prog_7_method_3_code 112 = .ok (.ifCond .eq 10, 3) := by decide +kernel
theorem d4_115 : decode prog_7_method_3_code 115 = .ok (.iload_n 2, 1) := by decide +kernel
theorem d4_116 : decode prog_7_method_3_code 116 = .ok (.iconst 1, 1) := by decide +kernel
theorem d4_117 : decode prog_7_method_3_code 117 = .ok (.isub, 1) := by decide +kernel
theorem d4_118 : decode prog_7_method_3_code 118 = .ok (.iload_n 3, 1) := by decide +kernel
theorem d4_119 : decode prog_7_method_3_code 119 = .ok (.isub, 1) := by decide +kernel
theorem d4_120 : decode prog_7_method_3_code 120 = .ok (.istore 5, 2) := by decide +kernel
theorem d4_122 : decode prog_7_method_3_code 122 = .ok (.iload 5, 2) := by decide +kernel
theorem d4_124 : decode prog_7_method_3_code 124 = .ok (.ireturn, 1) := by decide +kernel
def P4 (Z : State) (hE : Heap) (a1 : Addr) (q_a1 : List Int32) (n0 : Nat) (r : Int32) (v : Option Value) (h : Heap) (L : List Loc) : Prop := v = some (.int r) ∧ Fr n0 L ∧ h = hE
def g4_110 (fuel : Nat) (x2 : Int32) (x3 : Int32) (x4 : Int32) (x5 : Int32) (q_a1 : List Int32) : Option (Int32) := (if x4 = (0 : Int32) then some x5 else (letO ((x2 - (1 : Int32)) - x3) fun v2 => some v2))
set_option maxRecDepth 65536 in
set_option maxHeartbeats 4000000 in
theorem b4_110 {hE : Heap} {a1 : Addr} {q_a1 : List Int32} {r : Int32} (C : Ctx p s m meth c Z a0 "com/example/notewright/notewright/Decimals" prog_7_method_3_code 7 (some .int) "scale") (fuel : Nat) (X0 : Stand p l e ({ frames := 0, cells := 0, slots := 0, locals := 0 } : Room) s m args below meth c T0 locs cells slots) (e0 : T0.heap = hE) (N0 : Fr n0 locs) (hk : cells ≤ 0) (hn : slots ≤ 0) (Z1 : n0 ≤ hE.size) (o0 : n0 ≤ a1) (x1 : Int32) (x2 : Int32) (x3 : Int32) (x4 : Int32) (x5 : Int32) (A_a1_0 : AI Z hE a1 .byte q_a1) (hr : g4_110 fuel x2 x3 x4 x5 q_a1 = some r) :
    Runs p e below s (P4 Z hE a1 q_a1 n0 r) 0 0 T0 (mkF m 110 #[.val (.ref a1), .val (.int x1), .val (.int x2), .val (.int x3), .val (.int x4), .val (.int x5), .unset] []) := by
  unfold g4_110 at hr
  have ⟨hx, hZ, hw, hby, hml, hown, hret, hlk, hnm⟩ := C
  refine Runs.via (T' := T0) (g' := (mkF m 112 #[.val (.ref a1), .val (.int x1), .val (.int x2), .val (.int x3), .val (.int x4), .val (.int x5), .unset] [(.int x4)])) (fun t k => ?_) ?_
  · show Steps p.tables e below (T0.setTop (mkF m 110 #[.val (.ref a1), .val (.int x1), .val (.int x2), .val (.int x3), .val (.int x4), .val (.int x5), .unset] [])) t
    refine XS.iload X0.here hx rfl (hb hby d4_110) rfl ?_
    exact k
  refine iteE hr (fun hc1 hr => ?_) (fun hc1 hr => ?_)
  · refine Runs.via (T' := T0) (g' := (mkF m 122 #[.val (.ref a1), .val (.int x1), .val (.int x2), .val (.int x3), .val (.int x4), .val (.int x5), .unset] [])) (fun t k => ?_) ?_
    · show Steps p.tables e below (T0.setTop (mkF m 112 #[.val (.ref a1), .val (.int x1), .val (.int x2), .val (.int x3), .val (.int x4), .val (.int x5), .unset] [(.int x4)])) t
      exact XS.ifYes X0.here hx rfl (pc0 := 112) (pc' := 122) rfl (hb hby d4_112) rfl ((if0 _ _).trans (teq hc1).1) (by decide) (by decide) k
    refine Runs.via (T' := T0) (g' := (mkF m 124 #[.val (.ref a1), .val (.int x1), .val (.int x2), .val (.int x3), .val (.int x4), .val (.int x5), .unset] [(.int x5)])) (fun t k => ?_) ?_
    · show Steps p.tables e below (T0.setTop (mkF m 122 #[.val (.ref a1), .val (.int x1), .val (.int x2), .val (.int x3), .val (.int x4), .val (.int x5), .unset] [])) t
      refine XS.iload X0.here hx rfl (hb hby d4_122) rfl ?_
      exact k
    obtain rfl := Option.some.inj hr
    exact own_retI X0 hx hlk hret (hb hby d4_124) (by show cells ≤ 0; omega) (by show slots ≤ 0; omega) ⟨rfl, N0, e0⟩
  · refine Runs.via (T' := T0) (g' := (mkF m 115 #[.val (.ref a1), .val (.int x1), .val (.int x2), .val (.int x3), .val (.int x4), .val (.int x5), .unset] [])) (fun t k => ?_) ?_
    · show Steps p.tables e below (T0.setTop (mkF m 112 #[.val (.ref a1), .val (.int x1), .val (.int x2), .val (.int x3), .val (.int x4), .val (.int x5), .unset] [(.int x4)])) t
      exact XS.ifNo X0.here hx rfl (hb hby d4_112) rfl ((if0 _ _).trans (feq hc1).1) k
    refine Runs.via (T' := T0) (g' := (mkF m 120 #[.val (.ref a1), .val (.int x1), .val (.int x2), .val (.int x3), .val (.int x4), .val (.int x5), .unset] [(.int ((x2 - (1 : Int32)) - x3))])) (fun t k => ?_) ?_
    · show Steps p.tables e below (T0.setTop (mkF m 115 #[.val (.ref a1), .val (.int x1), .val (.int x2), .val (.int x3), .val (.int x4), .val (.int x5), .unset] [])) t
      refine XS.iloadN X0.here hx rfl (hb hby d4_115) rfl ?_
      show Steps p.tables e below (T0.setTop (mkF m 116 #[.val (.ref a1), .val (.int x1), .val (.int x2), .val (.int x3), .val (.int x4), .val (.int x5), .unset] [(.int x2)])) t
      refine XS.iconst X0.here hx rfl (hb hby d4_116) ?_
      show Steps p.tables e below (T0.setTop (mkF m 117 #[.val (.ref a1), .val (.int x1), .val (.int x2), .val (.int x3), .val (.int x4), .val (.int x5), .unset] [(.int (1 : Int32)), (.int x2)])) t
      refine XS.isub X0.here hx rfl (hb hby d4_117) rfl ?_
      show Steps p.tables e below (T0.setTop (mkF m 118 #[.val (.ref a1), .val (.int x1), .val (.int x2), .val (.int x3), .val (.int x4), .val (.int x5), .unset] [(.int (x2 - (1 : Int32)))])) t
      refine XS.iloadN X0.here hx rfl (hb hby d4_118) rfl ?_
      show Steps p.tables e below (T0.setTop (mkF m 119 #[.val (.ref a1), .val (.int x1), .val (.int x2), .val (.int x3), .val (.int x4), .val (.int x5), .unset] [(.int x3), (.int (x2 - (1 : Int32)))])) t
      refine XS.isub X0.here hx rfl (hb hby d4_119) rfl ?_
      exact k
    refine letE hr ?_; intro v2 hv2 hr
    rw [← hv2]
    refine Runs.via (T' := T0) (g' := (mkF m 124 #[.val (.ref a1), .val (.int x1), .val (.int x2), .val (.int x3), .val (.int x4), .val (.int v2), .unset] [(.int v2)])) (fun t k => ?_) ?_
    · show Steps p.tables e below (T0.setTop (mkF m 120 #[.val (.ref a1), .val (.int x1), .val (.int x2), .val (.int x3), .val (.int x4), .val (.int x5), .unset] [(.int v2)])) t
      refine XS.istore X0.here hx rfl (hb hby d4_120) rfl (l' := #[.val (.ref a1), .val (.int x1), .val (.int x2), .val (.int x3), .val (.int x4), .val (.int v2), .unset]) rfl ?_
      show Steps p.tables e below (T0.setTop (mkF m 122 #[.val (.ref a1), .val (.int x1), .val (.int x2), .val (.int x3), .val (.int x4), .val (.int v2), .unset] [])) t
      refine XS.iload X0.here hx rfl (hb hby d4_122) rfl ?_
      exact k
    obtain rfl := Option.some.inj hr
    exact own_retI X0 hx hlk hret (hb hby d4_124) (by show cells ≤ 0; omega) (by show slots ≤ 0; omega) ⟨rfl, N0, e0⟩
set_option maxRecDepth 65536 in
set_option maxHeartbeats 4000000 in
theorem b4_110w1 {hE : Heap} {a1 : Addr} {q_a1 : List Int32} {r : Int32} (C : Ctx p s m meth c Z a0 "com/example/notewright/notewright/Decimals" prog_7_method_3_code 7 (some .int) "scale") (fuel : Nat) (X0 : Stand p l e ({ frames := 0, cells := 0, slots := 0, locals := 0 } : Room) s m args below meth c T0 locs cells slots) (e0 : T0.heap = hE) (N0 : Fr n0 locs) (hk : cells ≤ 0) (hn : slots ≤ 0) (Z1 : n0 ≤ hE.size) (o0 : n0 ≤ a1) (x1 : Int32) (x2 : Int32) (x3 : Int32) (x4 : Int32) (x5 : Int32) (x6 : Int32) (A_a1_0 : AI Z hE a1 .byte q_a1) (hr : g4_110 fuel x2 x3 x4 x5 q_a1 = some r) :
    Runs p e below s (P4 Z hE a1 q_a1 n0 r) 0 0 T0 (mkF m 110 #[.val (.ref a1), .val (.int x1), .val (.int x2), .val (.int x3), .val (.int x4), .val (.int x5), .val (.int x6)] []) := by
  unfold g4_110 at hr
  have ⟨hx, hZ, hw, hby, hml, hown, hret, hlk, hnm⟩ := C
  refine Runs.via (T' := T0) (g' := (mkF m 112 #[.val (.ref a1), .val (.int x1), .val (.int x2), .val (.int x3), .val (.int x4), .val (.int x5), .val (.int x6)] [(.int x4)])) (fun t k => ?_) ?_
  · show Steps p.tables e below (T0.setTop (mkF m 110 #[.val (.ref a1), .val (.int x1), .val (.int x2), .val (.int x3), .val (.int x4), .val (.int x5), .val (.int x6)] [])) t
    refine XS.iload X0.here hx rfl (hb hby d4_110) rfl ?_
    exact k
  refine iteE hr (fun hc1 hr => ?_) (fun hc1 hr => ?_)
  · refine Runs.via (T' := T0) (g' := (mkF m 122 #[.val (.ref a1), .val (.int x1), .val (.int x2), .val (.int x3), .val (.int x4), .val (.int x5), .val (.int x6)] [])) (fun t k => ?_) ?_
    · show Steps p.tables e below (T0.setTop (mkF m 112 #[.val (.ref a1), .val (.int x1), .val (.int x2), .val (.int x3), .val (.int x4), .val (.int x5), .val (.int x6)] [(.int x4)])) t
      exact XS.ifYes X0.here hx rfl (pc0 := 112) (pc' := 122) rfl (hb hby d4_112) rfl ((if0 _ _).trans (teq hc1).1) (by decide) (by decide) k
    refine Runs.via (T' := T0) (g' := (mkF m 124 #[.val (.ref a1), .val (.int x1), .val (.int x2), .val (.int x3), .val (.int x4), .val (.int x5), .val (.int x6)] [(.int x5)])) (fun t k => ?_) ?_
    · show Steps p.tables e below (T0.setTop (mkF m 122 #[.val (.ref a1), .val (.int x1), .val (.int x2), .val (.int x3), .val (.int x4), .val (.int x5), .val (.int x6)] [])) t
      refine XS.iload X0.here hx rfl (hb hby d4_122) rfl ?_
      exact k
    obtain rfl := Option.some.inj hr
    exact own_retI X0 hx hlk hret (hb hby d4_124) (by show cells ≤ 0; omega) (by show slots ≤ 0; omega) ⟨rfl, N0, e0⟩
  · refine Runs.via (T' := T0) (g' := (mkF m 115 #[.val (.ref a1), .val (.int x1), .val (.int x2), .val (.int x3), .val (.int x4), .val (.int x5), .val (.int x6)] [])) (fun t k => ?_) ?_
    · show Steps p.tables e below (T0.setTop (mkF m 112 #[.val (.ref a1), .val (.int x1), .val (.int x2), .val (.int x3), .val (.int x4), .val (.int x5), .val (.int x6)] [(.int x4)])) t
      exact XS.ifNo X0.here hx rfl (hb hby d4_112) rfl ((if0 _ _).trans (feq hc1).1) k
    refine Runs.via (T' := T0) (g' := (mkF m 120 #[.val (.ref a1), .val (.int x1), .val (.int x2), .val (.int x3), .val (.int x4), .val (.int x5), .val (.int x6)] [(.int ((x2 - (1 : Int32)) - x3))])) (fun t k => ?_) ?_
    · show Steps p.tables e below (T0.setTop (mkF m 115 #[.val (.ref a1), .val (.int x1), .val (.int x2), .val (.int x3), .val (.int x4), .val (.int x5), .val (.int x6)] [])) t
      refine XS.iloadN X0.here hx rfl (hb hby d4_115) rfl ?_
      show Steps p.tables e below (T0.setTop (mkF m 116 #[.val (.ref a1), .val (.int x1), .val (.int x2), .val (.int x3), .val (.int x4), .val (.int x5), .val (.int x6)] [(.int x2)])) t
      refine XS.iconst X0.here hx rfl (hb hby d4_116) ?_
      show Steps p.tables e below (T0.setTop (mkF m 117 #[.val (.ref a1), .val (.int x1), .val (.int x2), .val (.int x3), .val (.int x4), .val (.int x5), .val (.int x6)] [(.int (1 : Int32)), (.int x2)])) t
      refine XS.isub X0.here hx rfl (hb hby d4_117) rfl ?_
      show Steps p.tables e below (T0.setTop (mkF m 118 #[.val (.ref a1), .val (.int x1), .val (.int x2), .val (.int x3), .val (.int x4), .val (.int x5), .val (.int x6)] [(.int (x2 - (1 : Int32)))])) t
      refine XS.iloadN X0.here hx rfl (hb hby d4_118) rfl ?_
      show Steps p.tables e below (T0.setTop (mkF m 119 #[.val (.ref a1), .val (.int x1), .val (.int x2), .val (.int x3), .val (.int x4), .val (.int x5), .val (.int x6)] [(.int x3), (.int (x2 - (1 : Int32)))])) t
      refine XS.isub X0.here hx rfl (hb hby d4_119) rfl ?_
      exact k
    refine letE hr ?_; intro v2 hv2 hr
    rw [← hv2]
    refine Runs.via (T' := T0) (g' := (mkF m 124 #[.val (.ref a1), .val (.int x1), .val (.int x2), .val (.int x3), .val (.int x4), .val (.int v2), .val (.int x6)] [(.int v2)])) (fun t k => ?_) ?_
    · show Steps p.tables e below (T0.setTop (mkF m 120 #[.val (.ref a1), .val (.int x1), .val (.int x2), .val (.int x3), .val (.int x4), .val (.int x5), .val (.int x6)] [(.int v2)])) t
      refine XS.istore X0.here hx rfl (hb hby d4_120) rfl (l' := #[.val (.ref a1), .val (.int x1), .val (.int x2), .val (.int x3), .val (.int x4), .val (.int v2), .val (.int x6)]) rfl ?_
      show Steps p.tables e below (T0.setTop (mkF m 122 #[.val (.ref a1), .val (.int x1), .val (.int x2), .val (.int x3), .val (.int x4), .val (.int v2), .val (.int x6)] [])) t
      refine XS.iload X0.here hx rfl (hb hby d4_122) rfl ?_
      exact k
    obtain rfl := Option.some.inj hr
    exact own_retI X0 hx hlk hret (hb hby d4_124) (by show cells ≤ 0; omega) (by show slots ≤ 0; omega) ⟨rfl, N0, e0⟩
def g4_92 (fuel : Nat) (x2 : Int32) (x3 : Int32) (x4 : Int32) (q_a1 : List Int32) : Option (Int32) := (if x4 = (0 : Int32) then (g4_110 fuel x2 x3 x4 (-1 : Int32) q_a1) else (if x3 < (0 : Int32) then some (0 : Int32) else (g4_110 fuel x2 x3 x4 (-1 : Int32) q_a1)))
set_option maxRecDepth 65536 in
set_option maxHeartbeats 4000000 in
theorem b4_92 {hE : Heap} {a1 : Addr} {q_a1 : List Int32} {r : Int32} (C : Ctx p s m meth c Z a0 "com/example/notewright/notewright/Decimals" prog_7_method_3_code 7 (some .int) "scale") (fuel : Nat) (X0 : Stand p l e ({ frames := 0, cells := 0, slots := 0, locals := 0 } : Room) s m args below meth c T0 locs cells slots) (e0 : T0.heap = hE) (N0 : Fr n0 locs) (hk : cells ≤ 0) (hn : slots ≤ 0) (Z1 : n0 ≤ hE.size) (o0 : n0 ≤ a1) (x1 : Int32) (x2 : Int32) (x3 : Int32) (x4 : Int32) (x5 : Int32) (A_a1_0 : AI Z hE a1 .byte q_a1) (hr : g4_92 fuel x2 x3 x4 q_a1 = some r) :
    Runs p e below s (P4 Z hE a1 q_a1 n0 r) 0 0 T0 (mkF m 92 #[.val (.ref a1), .val (.int x1), .val (.int x2), .val (.int x3), .val (.int x4), .val (.int x5), .unset] []) := by
  unfold g4_92 at hr
  have ⟨hx, hZ, hw, hby, hml, hown, hret, hlk, hnm⟩ := C
  refine Runs.via (T' := T0) (g' := (mkF m 97 #[.val (.ref a1), .val (.int x1), .val (.int x2), .val (.int x3), .val (.int x4), .val (.int (-1 : Int32)), .unset] [(.int x4)])) (fun t k => ?_) ?_
  · show Steps p.tables e below (T0.setTop (mkF m 92 #[.val (.ref a1), .val (.int x1), .val (.int x2), .val (.int x3), .val (.int x4), .val (.int x5), .unset] [])) t
    refine XS.iconst X0.here hx rfl (hb hby d4_92) ?_
    show Steps p.tables e below (T0.setTop (mkF m 93 #[.val (.ref a1), .val (.int x1), .val (.int x2), .val (.int x3), .val (.int x4), .val (.int x5), .unset] [(.int (-1 : Int32))])) t
    refine XS.istore X0.here hx rfl (hb hby d4_93) rfl (l' := #[.val (.ref a1), .val (.int x1), .val (.int x2), .val (.int x3), .val (.int x4), .val (.int (-1 : Int32)), .unset]) rfl ?_
    show Steps p.tables e below (T0.setTop (mkF m 95 #[.val (.ref a1), .val (.int x1), .val (.int x2), .val (.int x3), .val (.int x4), .val (.int (-1 : Int32)), .unset] [])) t
    refine XS.iload X0.here hx rfl (hb hby d4_95) rfl ?_
    exact k
  refine iteE hr (fun hc1 hr => ?_) (fun hc1 hr => ?_)
  · refine Runs.via (T' := T0) (g' := (mkF m 110 #[.val (.ref a1), .val (.int x1), .val (.int x2), .val (.int x3), .val (.int x4), .val (.int (-1 : Int32)), .unset] [])) (fun t k => ?_) ?_
    · show Steps p.tables e below (T0.setTop (mkF m 97 #[.val (.ref a1), .val (.int x1), .val (.int x2), .val (.int x3), .val (.int x4), .val (.int (-1 : Int32)), .unset] [(.int x4)])) t
      exact XS.ifYes X0.here hx rfl (pc0 := 97) (pc' := 110) rfl (hb hby d4_97) rfl ((if0 _ _).trans (teq hc1).1) (by decide) (by decide) k
    exact b4_110 C fuel X0 e0 N0 (by show cells ≤ 0; omega) (by show slots ≤ 0; omega) Z1 (by omega) x1 x2 x3 x4 (-1 : Int32) A_a1_0 hr
  · refine Runs.via (T' := T0) (g' := (mkF m 100 #[.val (.ref a1), .val (.int x1), .val (.int x2), .val (.int x3), .val (.int x4), .val (.int (-1 : Int32)), .unset] [])) (fun t k => ?_) ?_
    · show Steps p.tables e below (T0.setTop (mkF m 97 #[.val (.ref a1), .val (.int x1), .val (.int x2), .val (.int x3), .val (.int x4), .val (.int (-1 : Int32)), .unset] [(.int x4)])) t
      exact XS.ifNo X0.here hx rfl (hb hby d4_97) rfl ((if0 _ _).trans (feq hc1).1) k
    refine Runs.via (T' := T0) (g' := (mkF m 101 #[.val (.ref a1), .val (.int x1), .val (.int x2), .val (.int x3), .val (.int x4), .val (.int (-1 : Int32)), .unset] [(.int x3)])) (fun t k => ?_) ?_
    · show Steps p.tables e below (T0.setTop (mkF m 100 #[.val (.ref a1), .val (.int x1), .val (.int x2), .val (.int x3), .val (.int x4), .val (.int (-1 : Int32)), .unset] [])) t
      refine XS.iloadN X0.here hx rfl (hb hby d4_100) rfl ?_
      exact k
    refine iteE hr (fun hc2 hr => ?_) (fun hc2 hr => ?_)
    · refine Runs.via (T' := T0) (g' := (mkF m 104 #[.val (.ref a1), .val (.int x1), .val (.int x2), .val (.int x3), .val (.int x4), .val (.int (-1 : Int32)), .unset] [])) (fun t k => ?_) ?_
      · show Steps p.tables e below (T0.setTop (mkF m 101 #[.val (.ref a1), .val (.int x1), .val (.int x2), .val (.int x3), .val (.int x4), .val (.int (-1 : Int32)), .unset] [(.int x3)])) t
        exact XS.ifNo X0.here hx rfl (hb hby d4_101) rfl ((if0 _ _).trans (tlt hc2).2.1) k
      refine Runs.via (T' := T0) (g' := (mkF m 124 #[.val (.ref a1), .val (.int x1), .val (.int x2), .val (.int x3), .val (.int x4), .val (.int (0 : Int32)), .unset] [(.int (0 : Int32))])) (fun t k => ?_) ?_
      · show Steps p.tables e below (T0.setTop (mkF m 104 #[.val (.ref a1), .val (.int x1), .val (.int x2), .val (.int x3), .val (.int x4), .val (.int (-1 : Int32)), .unset] [])) t
        refine XS.iconst X0.here hx rfl (hb hby d4_104) ?_
        show Steps p.tables e below (T0.setTop (mkF m 105 #[.val (.ref a1), .val (.int x1), .val (.int x2), .val (.int x3), .val (.int x4), .val (.int (-1 : Int32)), .unset] [(.int (0 : Int32))])) t
        refine XS.istore X0.here hx rfl (hb hby d4_105) rfl (l' := #[.val (.ref a1), .val (.int x1), .val (.int x2), .val (.int x3), .val (.int x4), .val (.int (0 : Int32)), .unset]) rfl ?_
        show Steps p.tables e below (T0.setTop (mkF m 107 #[.val (.ref a1), .val (.int x1), .val (.int x2), .val (.int x3), .val (.int x4), .val (.int (0 : Int32)), .unset] [])) t
        refine XS.goto X0.here hx rfl (pc0 := 107) (pc' := 122) rfl (hb hby d4_107) (by decide) (by decide) ?_
        show Steps p.tables e below (T0.setTop (mkF m 122 #[.val (.ref a1), .val (.int x1), .val (.int x2), .val (.int x3), .val (.int x4), .val (.int (0 : Int32)), .unset] [])) t
        refine XS.iload X0.here hx rfl (hb hby d4_122) rfl ?_
        exact k
      obtain rfl := Option.some.inj hr
      exact own_retI X0 hx hlk hret (hb hby d4_124) (by show cells ≤ 0; omega) (by show slots ≤ 0; omega) ⟨rfl, N0, e0⟩
    · refine Runs.via (T' := T0) (g' := (mkF m 110 #[.val (.ref a1), .val (.int x1), .val (.int x2), .val (.int x3), .val (.int x4), .val (.int (-1 : Int32)), .unset] [])) (fun t k => ?_) ?_
      · show Steps p.tables e below (T0.setTop (mkF m 101 #[.val (.ref a1), .val (.int x1), .val (.int x2), .val (.int x3), .val (.int x4), .val (.int (-1 : Int32)), .unset] [(.int x3)])) t
        exact XS.ifYes X0.here hx rfl (pc0 := 101) (pc' := 110) rfl (hb hby d4_101) rfl ((if0 _ _).trans (flt hc2).2.1) (by decide) (by decide) k
      exact b4_110 C fuel X0 e0 N0 (by show cells ≤ 0; omega) (by show slots ≤ 0; omega) Z1 (by omega) x1 x2 x3 x4 (-1 : Int32) A_a1_0 hr
set_option maxRecDepth 65536 in
set_option maxHeartbeats 4000000 in
theorem b4_92w1 {hE : Heap} {a1 : Addr} {q_a1 : List Int32} {r : Int32} (C : Ctx p s m meth c Z a0 "com/example/notewright/notewright/Decimals" prog_7_method_3_code 7 (some .int) "scale") (fuel : Nat) (X0 : Stand p l e ({ frames := 0, cells := 0, slots := 0, locals := 0 } : Room) s m args below meth c T0 locs cells slots) (e0 : T0.heap = hE) (N0 : Fr n0 locs) (hk : cells ≤ 0) (hn : slots ≤ 0) (Z1 : n0 ≤ hE.size) (o0 : n0 ≤ a1) (x1 : Int32) (x2 : Int32) (x3 : Int32) (x4 : Int32) (x5 : Int32) (x6 : Int32) (A_a1_0 : AI Z hE a1 .byte q_a1) (hr : g4_92 fuel x2 x3 x4 q_a1 = some r) :
    Runs p e below s (P4 Z hE a1 q_a1 n0 r) 0 0 T0 (mkF m 92 #[.val (.ref a1), .val (.int x1), .val (.int x2), .val (.int x3), .val (.int x4), .val (.int x5), .val (.int x6)] []) := by
  unfold g4_92 at hr
  have ⟨hx, hZ, hw, hby, hml, hown, hret, hlk, hnm⟩ := C
  refine Runs.via (T' := T0) (g' := (mkF m 97 #[.val (.ref a1), .val (.int x1), .val (.int x2), .val (.int x3), .val (.int x4), .val (.int (-1 : Int32)), .val (.int x6)] [(.int x4)])) (fun t k => ?_) ?_
  · show Steps p.tables e below (T0.setTop (mkF m 92 #[.val (.ref a1), .val (.int x1), .val (.int x2), .val (.int x3), .val (.int x4), .val (.int x5), .val (.int x6)] [])) t
    refine XS.iconst X0.here hx rfl (hb hby d4_92) ?_
    show Steps p.tables e below (T0.setTop (mkF m 93 #[.val (.ref a1), .val (.int x1), .val (.int x2), .val (.int x3), .val (.int x4), .val (.int x5), .val (.int x6)] [(.int (-1 : Int32))])) t
    refine XS.istore X0.here hx rfl (hb hby d4_93) rfl (l' := #[.val (.ref a1), .val (.int x1), .val (.int x2), .val (.int x3), .val (.int x4), .val (.int (-1 : Int32)), .val (.int x6)]) rfl ?_
    show Steps p.tables e below (T0.setTop (mkF m 95 #[.val (.ref a1), .val (.int x1), .val (.int x2), .val (.int x3), .val (.int x4), .val (.int (-1 : Int32)), .val (.int x6)] [])) t
    refine XS.iload X0.here hx rfl (hb hby d4_95) rfl ?_
    exact k
  refine iteE hr (fun hc1 hr => ?_) (fun hc1 hr => ?_)
  · refine Runs.via (T' := T0) (g' := (mkF m 110 #[.val (.ref a1), .val (.int x1), .val (.int x2), .val (.int x3), .val (.int x4), .val (.int (-1 : Int32)), .val (.int x6)] [])) (fun t k => ?_) ?_
    · show Steps p.tables e below (T0.setTop (mkF m 97 #[.val (.ref a1), .val (.int x1), .val (.int x2), .val (.int x3), .val (.int x4), .val (.int (-1 : Int32)), .val (.int x6)] [(.int x4)])) t
      exact XS.ifYes X0.here hx rfl (pc0 := 97) (pc' := 110) rfl (hb hby d4_97) rfl ((if0 _ _).trans (teq hc1).1) (by decide) (by decide) k
    exact b4_110w1 C fuel X0 e0 N0 (by show cells ≤ 0; omega) (by show slots ≤ 0; omega) Z1 (by omega) x1 x2 x3 x4 (-1 : Int32) x6 A_a1_0 hr
  · refine Runs.via (T' := T0) (g' := (mkF m 100 #[.val (.ref a1), .val (.int x1), .val (.int x2), .val (.int x3), .val (.int x4), .val (.int (-1 : Int32)), .val (.int x6)] [])) (fun t k => ?_) ?_
    · show Steps p.tables e below (T0.setTop (mkF m 97 #[.val (.ref a1), .val (.int x1), .val (.int x2), .val (.int x3), .val (.int x4), .val (.int (-1 : Int32)), .val (.int x6)] [(.int x4)])) t
      exact XS.ifNo X0.here hx rfl (hb hby d4_97) rfl ((if0 _ _).trans (feq hc1).1) k
    refine Runs.via (T' := T0) (g' := (mkF m 101 #[.val (.ref a1), .val (.int x1), .val (.int x2), .val (.int x3), .val (.int x4), .val (.int (-1 : Int32)), .val (.int x6)] [(.int x3)])) (fun t k => ?_) ?_
    · show Steps p.tables e below (T0.setTop (mkF m 100 #[.val (.ref a1), .val (.int x1), .val (.int x2), .val (.int x3), .val (.int x4), .val (.int (-1 : Int32)), .val (.int x6)] [])) t
      refine XS.iloadN X0.here hx rfl (hb hby d4_100) rfl ?_
      exact k
    refine iteE hr (fun hc2 hr => ?_) (fun hc2 hr => ?_)
    · refine Runs.via (T' := T0) (g' := (mkF m 104 #[.val (.ref a1), .val (.int x1), .val (.int x2), .val (.int x3), .val (.int x4), .val (.int (-1 : Int32)), .val (.int x6)] [])) (fun t k => ?_) ?_
      · show Steps p.tables e below (T0.setTop (mkF m 101 #[.val (.ref a1), .val (.int x1), .val (.int x2), .val (.int x3), .val (.int x4), .val (.int (-1 : Int32)), .val (.int x6)] [(.int x3)])) t
        exact XS.ifNo X0.here hx rfl (hb hby d4_101) rfl ((if0 _ _).trans (tlt hc2).2.1) k
      refine Runs.via (T' := T0) (g' := (mkF m 124 #[.val (.ref a1), .val (.int x1), .val (.int x2), .val (.int x3), .val (.int x4), .val (.int (0 : Int32)), .val (.int x6)] [(.int (0 : Int32))])) (fun t k => ?_) ?_
      · show Steps p.tables e below (T0.setTop (mkF m 104 #[.val (.ref a1), .val (.int x1), .val (.int x2), .val (.int x3), .val (.int x4), .val (.int (-1 : Int32)), .val (.int x6)] [])) t
        refine XS.iconst X0.here hx rfl (hb hby d4_104) ?_
        show Steps p.tables e below (T0.setTop (mkF m 105 #[.val (.ref a1), .val (.int x1), .val (.int x2), .val (.int x3), .val (.int x4), .val (.int (-1 : Int32)), .val (.int x6)] [(.int (0 : Int32))])) t
        refine XS.istore X0.here hx rfl (hb hby d4_105) rfl (l' := #[.val (.ref a1), .val (.int x1), .val (.int x2), .val (.int x3), .val (.int x4), .val (.int (0 : Int32)), .val (.int x6)]) rfl ?_
        show Steps p.tables e below (T0.setTop (mkF m 107 #[.val (.ref a1), .val (.int x1), .val (.int x2), .val (.int x3), .val (.int x4), .val (.int (0 : Int32)), .val (.int x6)] [])) t
        refine XS.goto X0.here hx rfl (pc0 := 107) (pc' := 122) rfl (hb hby d4_107) (by decide) (by decide) ?_
        show Steps p.tables e below (T0.setTop (mkF m 122 #[.val (.ref a1), .val (.int x1), .val (.int x2), .val (.int x3), .val (.int x4), .val (.int (0 : Int32)), .val (.int x6)] [])) t
        refine XS.iload X0.here hx rfl (hb hby d4_122) rfl ?_
        exact k
      obtain rfl := Option.some.inj hr
      exact own_retI X0 hx hlk hret (hb hby d4_124) (by show cells ≤ 0; omega) (by show slots ≤ 0; omega) ⟨rfl, N0, e0⟩
    · refine Runs.via (T' := T0) (g' := (mkF m 110 #[.val (.ref a1), .val (.int x1), .val (.int x2), .val (.int x3), .val (.int x4), .val (.int (-1 : Int32)), .val (.int x6)] [])) (fun t k => ?_) ?_
      · show Steps p.tables e below (T0.setTop (mkF m 101 #[.val (.ref a1), .val (.int x1), .val (.int x2), .val (.int x3), .val (.int x4), .val (.int (-1 : Int32)), .val (.int x6)] [(.int x3)])) t
        exact XS.ifYes X0.here hx rfl (pc0 := 101) (pc' := 110) rfl (hb hby d4_101) rfl ((if0 _ _).trans (flt hc2).2.1) (by decide) (by decide) k
      exact b4_110w1 C fuel X0 e0 N0 (by show cells ≤ 0; omega) (by show slots ≤ 0; omega) Z1 (by omega) x1 x2 x3 x4 (-1 : Int32) x6 A_a1_0 hr
def g4_86 (K17 : Int32 → Int32 → Int32 → Int32 → Int32 → List Int32 → Option (Int32)) (fuel : Nat) (x1 : Int32) (x2 : Int32) (x3 : Int32) (x4 : Int32) (x5 : Int32) (q_a1 : List Int32) : Option (Int32) := (K17 x1 x2 x3 x4 (x5 + (1 : Int32)) q_a1)
set_option maxRecDepth 65536 in
set_option maxHeartbeats 4000000 in
theorem b4_86 {hE : Heap} {a1 : Addr} {q_a1 : List Int32} {r : Int32} (C : Ctx p s m meth c Z a0 "com/example/notewright/notewright/Decimals" prog_7_method_3_code 7 (some .int) "scale") (fuel : Nat) (K17 : Int32 → Int32 → Int32 → Int32 → Int32 → List Int32 → Option (Int32)) (hK17 : ∀ {T0 : State} {locs : List Loc} {cells slots : Nat} (X0 : Stand p l e ({ frames := 0, cells := 0, slots := 0, locals := 0 } : Room) s m args below meth c T0 locs cells slots) (e0 : T0.heap = hE) (N0 : Fr n0 locs) (hk : cells ≤ 0) (hn : slots ≤ 0) (Z1 : n0 ≤ hE.size) (o0 : n0 ≤ a1) (x1 : Int32) (x2 : Int32) (x3 : Int32) (x4 : Int32) (x5 : Int32) (x6 : Int32) (A_a1_0 : AI Z hE a1 .byte q_a1), K17 x1 x2 x3 x4 x5 q_a1 = some r → Runs p e below s (P4 Z hE a1 q_a1 n0 r) 0 0 T0 (mkF m 17 #[.val (.ref a1), .val (.int x1), .val (.int x2), .val (.int x3), .val (.int x4), .val (.int x5), .val (.int x6)] [])) (X0 : Stand p l e ({ frames := 0, cells := 0, slots := 0, locals := 0 } : Room) s m args below meth c T0 locs cells slots) (e0 : T0.heap = hE) (N0 : Fr n0 locs) (hk : cells ≤ 0) (hn : slots ≤ 0) (Z1 : n0 ≤ hE.size) (o0 : n0 ≤ a1) (x1 : Int32) (x2 : Int32) (x3 : Int32) (x4 : Int32) (x5 : Int32) (x6 : Int32) (A_a1_0 : AI Z hE a1 .byte q_a1) (hr : g4_86 K17 fuel x1 x2 x3 x4 x5 q_a1 = some r) :
    Runs p e below s (P4 Z hE a1 q_a1 n0 r) 0 0 T0 (mkF m 86 #[.val (.ref a1), .val (.int x1), .val (.int x2), .val (.int x3), .val (.int x4), .val (.int x5), .val (.int x6)] []) := by
  unfold g4_86 at hr
  have ⟨hx, hZ, hw, hby, hml, hown, hret, hlk, hnm⟩ := C
  refine Runs.via (T' := T0) (g' := (mkF m 17 #[.val (.ref a1), .val (.int x1), .val (.int x2), .val (.int x3), .val (.int x4), .val (.int (x5 + (1 : Int32))), .val (.int x6)] [])) (fun t k => ?_) ?_
  · show Steps p.tables e below (T0.setTop (mkF m 86 #[.val (.ref a1), .val (.int x1), .val (.int x2), .val (.int x3), .val (.int x4), .val (.int x5), .val (.int x6)] [])) t
    refine XS.iinc X0.here hx rfl (hb hby d4_86) rfl (l' := #[.val (.ref a1), .val (.int x1), .val (.int x2), .val (.int x3), .val (.int x4), .val (.int (x5 + (1 : Int32))), .val (.int x6)]) rfl ?_
    show Steps p.tables e below (T0.setTop (mkF m 89 #[.val (.ref a1), .val (.int x1), .val (.int x2), .val (.int x3), .val (.int x4), .val (.int (x5 + (1 : Int32))), .val (.int x6)] [])) t
    refine XS.goto X0.here hx rfl (pc0 := 89) (pc' := 17) rfl (hb hby d4_89) (by decide) (by decide) ?_
    exact k
  exact hK17 X0 e0 N0 (by show cells ≤ 0; omega) (by show slots ≤ 0; omega) Z1 (by omega) x1 x2 x3 x4 (x5 + (1 : Int32)) x6 A_a1_0 hr
def g4_84 (K17 : Int32 → Int32 → Int32 → Int32 → Int32 → List Int32 → Option (Int32)) (fuel : Nat) (x1 : Int32) (x2 : Int32) (x3 : Int32) (x5 : Int32) (u0 : Int32) (q_a1 : List Int32) : Option (Int32) := (g4_86 K17 fuel x1 x2 x3 u0 x5 q_a1)
set_option maxRecDepth 65536 in
set_option maxHeartbeats 4000000 in
theorem b4_84 {hE : Heap} {a1 : Addr} {q_a1 : List Int32} {r : Int32} (C : Ctx p s m meth c Z a0 "com/example/notewright/notewright/Decimals" prog_7_method_3_code 7 (some .int) "scale") (fuel : Nat) (K17 : Int32 → Int32 → Int32 → Int32 → Int32 → List Int32 → Option (Int32)) (hK17 : ∀ {T0 : State} {locs : List Loc} {cells slots : Nat} (X0 : Stand p l e ({ frames := 0, cells := 0, slots := 0, locals := 0 } : Room) s m args below meth c T0 locs cells slots) (e0 : T0.heap = hE) (N0 : Fr n0 locs) (hk : cells ≤ 0) (hn : slots ≤ 0) (Z1 : n0 ≤ hE.size) (o0 : n0 ≤ a1) (x1 : Int32) (x2 : Int32) (x3 : Int32) (x4 : Int32) (x5 : Int32) (x6 : Int32) (A_a1_0 : AI Z hE a1 .byte q_a1), K17 x1 x2 x3 x4 x5 q_a1 = some r → Runs p e below s (P4 Z hE a1 q_a1 n0 r) 0 0 T0 (mkF m 17 #[.val (.ref a1), .val (.int x1), .val (.int x2), .val (.int x3), .val (.int x4), .val (.int x5), .val (.int x6)] [])) (X0 : Stand p l e ({ frames := 0, cells := 0, slots := 0, locals := 0 } : Room) s m args below meth c T0 locs cells slots) (e0 : T0.heap = hE) (N0 : Fr n0 locs) (hk : cells ≤ 0) (hn : slots ≤ 0) (Z1 : n0 ≤ hE.size) (o0 : n0 ≤ a1) (x1 : Int32) (x2 : Int32) (x3 : Int32) (x4 : Int32) (x5 : Int32) (x6 : Int32) (u0 : Int32) (A_a1_0 : AI Z hE a1 .byte q_a1) (hr : g4_84 K17 fuel x1 x2 x3 x5 u0 q_a1 = some r) :
    Runs p e below s (P4 Z hE a1 q_a1 n0 r) 0 0 T0 (mkF m 84 #[.val (.ref a1), .val (.int x1), .val (.int x2), .val (.int x3), .val (.int x4), .val (.int x5), .val (.int x6)] [(.int u0)]) := by
  unfold g4_84 at hr
  have ⟨hx, hZ, hw, hby, hml, hown, hret, hlk, hnm⟩ := C
  refine Runs.via (T' := T0) (g' := (mkF m 86 #[.val (.ref a1), .val (.int x1), .val (.int x2), .val (.int x3), .val (.int u0), .val (.int x5), .val (.int x6)] [])) (fun t k => ?_) ?_
  · show Steps p.tables e below (T0.setTop (mkF m 84 #[.val (.ref a1), .val (.int x1), .val (.int x2), .val (.int x3), .val (.int x4), .val (.int x5), .val (.int x6)] [(.int u0)])) t
    refine XS.istore X0.here hx rfl (hb hby d4_84) rfl (l' := #[.val (.ref a1), .val (.int x1), .val (.int x2), .val (.int x3), .val (.int u0), .val (.int x5), .val (.int x6)]) rfl ?_
    exact k
  exact b4_86 C fuel K17 hK17 X0 e0 N0 (by show cells ≤ 0; omega) (by show slots ≤ 0; omega) Z1 (by omega) x1 x2 x3 u0 x5 x6 A_a1_0 hr
def g4_83 (K17 : Int32 → Int32 → Int32 → Int32 → Int32 → List Int32 → Option (Int32)) (fuel : Nat) (x1 : Int32) (x2 : Int32) (x3 : Int32) (x5 : Int32) (q_a1 : List Int32) : Option (Int32) := (g4_84 K17 fuel x1 x2 x3 x5 (0 : Int32) q_a1)
set_option maxRecDepth 65536 in
set_option maxHeartbeats 4000000 in
theorem b4_83 {hE : Heap} {a1 : Addr} {q_a1 : List Int32} {r : Int32} (C : Ctx p s m meth c Z a0 "com/example/notewright/notewright/Decimals" prog_7_method_3_code 7 (some .int) "scale") (fuel : Nat) (K17 : Int32 → Int32 → Int32 → Int32 → Int32 → List Int32 → Option (Int32)) (hK17 : ∀ {T0 : State} {locs : List Loc} {cells slots : Nat} (X0 : Stand p l e ({ frames := 0, cells := 0, slots := 0, locals := 0 } : Room) s m args below meth c T0 locs cells slots) (e0 : T0.heap = hE) (N0 : Fr n0 locs) (hk : cells ≤ 0) (hn : slots ≤ 0) (Z1 : n0 ≤ hE.size) (o0 : n0 ≤ a1) (x1 : Int32) (x2 : Int32) (x3 : Int32) (x4 : Int32) (x5 : Int32) (x6 : Int32) (A_a1_0 : AI Z hE a1 .byte q_a1), K17 x1 x2 x3 x4 x5 q_a1 = some r → Runs p e below s (P4 Z hE a1 q_a1 n0 r) 0 0 T0 (mkF m 17 #[.val (.ref a1), .val (.int x1), .val (.int x2), .val (.int x3), .val (.int x4), .val (.int x5), .val (.int x6)] [])) (X0 : Stand p l e ({ frames := 0, cells := 0, slots := 0, locals := 0 } : Room) s m args below meth c T0 locs cells slots) (e0 : T0.heap = hE) (N0 : Fr n0 locs) (hk : cells ≤ 0) (hn : slots ≤ 0) (Z1 : n0 ≤ hE.size) (o0 : n0 ≤ a1) (x1 : Int32) (x2 : Int32) (x3 : Int32) (x4 : Int32) (x5 : Int32) (x6 : Int32) (A_a1_0 : AI Z hE a1 .byte q_a1) (hr : g4_83 K17 fuel x1 x2 x3 x5 q_a1 = some r) :
    Runs p e below s (P4 Z hE a1 q_a1 n0 r) 0 0 T0 (mkF m 83 #[.val (.ref a1), .val (.int x1), .val (.int x2), .val (.int x3), .val (.int x4), .val (.int x5), .val (.int x6)] []) := by
  unfold g4_83 at hr
  have ⟨hx, hZ, hw, hby, hml, hown, hret, hlk, hnm⟩ := C
  refine Runs.via (T' := T0) (g' := (mkF m 84 #[.val (.ref a1), .val (.int x1), .val (.int x2), .val (.int x3), .val (.int x4), .val (.int x5), .val (.int x6)] [(.int (0 : Int32))])) (fun t k => ?_) ?_
  · show Steps p.tables e below (T0.setTop (mkF m 83 #[.val (.ref a1), .val (.int x1), .val (.int x2), .val (.int x3), .val (.int x4), .val (.int x5), .val (.int x6)] [])) t
    refine XS.iconst X0.here hx rfl (hb hby d4_83) ?_
    exact k
  exact b4_84 C fuel K17 hK17 X0 e0 N0 (by show cells ≤ 0; omega) (by show slots ≤ 0; omega) Z1 (by omega) x1 x2 x3 x4 x5 x6 (0 : Int32) A_a1_0 hr
def g4_65 (K17 : Int32 → Int32 → Int32 → Int32 → Int32 → List Int32 → Option (Int32)) (fuel : Nat) (x1 : Int32) (x2 : Int32) (x3 : Int32) (x5 : Int32) (x6 : Int32) (q_a1 : List Int32) : Option (Int32) := (if x6 < (48 : Int32) then (g4_83 K17 fuel x1 x2 x3 x5 q_a1) else (if (57 : Int32) < x6 then (g4_83 K17 fuel x1 x2 x3 x5 q_a1) else (g4_84 K17 fuel x1 x2 x3 x5 (1 : Int32) q_a1)))
set_option maxRecDepth 65536 in
set_option maxHeartbeats 4000000 in
theorem b4_65 {hE : Heap} {a1 : Addr} {q_a1 : List Int32} {r : Int32} (C : Ctx p s m meth c Z a0 "com/example/notewright/notewright/Decimals" prog_7_method_3_code 7 (some .int) "scale") (fuel : Nat) (K17 : Int32 → Int32 → Int32 → Int32 → Int32 → List Int32 → Option (Int32)) (hK17 : ∀ {T0 : State} {locs : List Loc} {cells slots : Nat} (X0 : Stand p l e ({ frames := 0, cells := 0, slots := 0, locals := 0 } : Room) s m args below meth c T0 locs cells slots) (e0 : T0.heap = hE) (N0 : Fr n0 locs) (hk : cells ≤ 0) (hn : slots ≤ 0) (Z1 : n0 ≤ hE.size) (o0 : n0 ≤ a1) (x1 : Int32) (x2 : Int32) (x3 : Int32) (x4 : Int32) (x5 : Int32) (x6 : Int32) (A_a1_0 : AI Z hE a1 .byte q_a1), K17 x1 x2 x3 x4 x5 q_a1 = some r → Runs p e below s (P4 Z hE a1 q_a1 n0 r) 0 0 T0 (mkF m 17 #[.val (.ref a1), .val (.int x1), .val (.int x2), .val (.int x3), .val (.int x4), .val (.int x5), .val (.int x6)] [])) (X0 : Stand p l e ({ frames := 0, cells := 0, slots := 0, locals := 0 } : Room) s m args below meth c T0 locs cells slots) (e0 : T0.heap = hE) (N0 : Fr n0 locs) (hk : cells ≤ 0) (hn : slots ≤ 0) (Z1 : n0 ≤ hE.size) (o0 : n0 ≤ a1) (x1 : Int32) (x2 : Int32) (x3 : Int32) (x4 : Int32) (x5 : Int32) (x6 : Int32) (A_a1_0 : AI Z hE a1 .byte q_a1) (hr : g4_65 K17 fuel x1 x2 x3 x5 x6 q_a1 = some r) :
    Runs p e below s (P4 Z hE a1 q_a1 n0 r) 0 0 T0 (mkF m 65 #[.val (.ref a1), .val (.int x1), .val (.int x2), .val (.int x3), .val (.int x4), .val (.int x5), .val (.int x6)] []) := by
  unfold g4_65 at hr
  have ⟨hx, hZ, hw, hby, hml, hown, hret, hlk, hnm⟩ := C
  refine Runs.via (T' := T0) (g' := (mkF m 69 #[.val (.ref a1), .val (.int x1), .val (.int x2), .val (.int x3), .val (.int x4), .val (.int x5), .val (.int x6)] [(.int (48 : Int32)), (.int x6)])) (fun t k => ?_) ?_
  · show Steps p.tables e below (T0.setTop (mkF m 65 #[.val (.ref a1), .val (.int x1), .val (.int x2), .val (.int x3), .val (.int x4), .val (.int x5), .val (.int x6)] [])) t
    refine XS.iload X0.here hx rfl (hb hby d4_65) rfl ?_
    show Steps p.tables e below (T0.setTop (mkF m 67 #[.val (.ref a1), .val (.int x1), .val (.int x2), .val (.int x3), .val (.int x4), .val (.int x5), .val (.int x6)] [(.int x6)])) t
    refine XS.bipush X0.here hx rfl (hb hby d4_67) ?_
    exact k
  refine iteE hr (fun hc1 hr => ?_) (fun hc1 hr => ?_)
  · refine Runs.via (T' := T0) (g' := (mkF m 83 #[.val (.ref a1), .val (.int x1), .val (.int x2), .val (.int x3), .val (.int x4), .val (.int x5), .val (.int x6)] [])) (fun t k => ?_) ?_
    · show Steps p.tables e below (T0.setTop (mkF m 69 #[.val (.ref a1), .val (.int x1), .val (.int x2), .val (.int x3), .val (.int x4), .val (.int x5), .val (.int x6)] [(.int (48 : Int32)), (.int x6)])) t
      exact XS.icmpYes X0.here hx rfl (pc0 := 69) (pc' := 83) rfl (hb hby d4_69) rfl (tlt hc1).1 (by decide) (by decide) k
    exact b4_83 C fuel K17 hK17 X0 e0 N0 (by show cells ≤ 0; omega) (by show slots ≤ 0; omega) Z1 (by omega) x1 x2 x3 x4 x5 x6 A_a1_0 hr
  · refine Runs.via (T' := T0) (g' := (mkF m 72 #[.val (.ref a1), .val (.int x1), .val (.int x2), .val (.int x3), .val (.int x4), .val (.int x5), .val (.int x6)] [])) (fun t k => ?_) ?_
    · show Steps p.tables e below (T0.setTop (mkF m 69 #[.val (.ref a1), .val (.int x1), .val (.int x2), .val (.int x3), .val (.int x4), .val (.int x5), .val (.int x6)] [(.int (48 : Int32)), (.int x6)])) t
      exact XS.icmpNo X0.here hx rfl (hb hby d4_69) rfl (flt hc1).1 k
    refine Runs.via (T' := T0) (g' := (mkF m 76 #[.val (.ref a1), .val (.int x1), .val (.int x2), .val (.int x3), .val (.int x4), .val (.int x5), .val (.int x6)] [(.int (57 : Int32)), (.int x6)])) (fun t k => ?_) ?_
    · show Steps p.tables e below (T0.setTop (mkF m 72 #[.val (.ref a1), .val (.int x1), .val (.int x2), .val (.int x3), .val (.int x4), .val (.int x5), .val (.int x6)] [])) t
      refine XS.iload X0.here hx rfl (hb hby d4_72) rfl ?_
      show Steps p.tables e below (T0.setTop (mkF m 74 #[.val (.ref a1), .val (.int x1), .val (.int x2), .val (.int x3), .val (.int x4), .val (.int x5), .val (.int x6)] [(.int x6)])) t
      refine XS.bipush X0.here hx rfl (hb hby d4_74) ?_
      exact k
    refine iteE hr (fun hc2 hr => ?_) (fun hc2 hr => ?_)
    · refine Runs.via (T' := T0) (g' := (mkF m 83 #[.val (.ref a1), .val (.int x1), .val (.int x2), .val (.int x3), .val (.int x4), .val (.int x5), .val (.int x6)] [])) (fun t k => ?_) ?_
      · show Steps p.tables e below (T0.setTop (mkF m 76 #[.val (.ref a1), .val (.int x1), .val (.int x2), .val (.int x3), .val (.int x4), .val (.int x5), .val (.int x6)] [(.int (57 : Int32)), (.int x6)])) t
        exact XS.icmpYes X0.here hx rfl (pc0 := 76) (pc' := 83) rfl (hb hby d4_76) rfl (tlt hc2).2.2.1 (by decide) (by decide) k
      exact b4_83 C fuel K17 hK17 X0 e0 N0 (by show cells ≤ 0; omega) (by show slots ≤ 0; omega) Z1 (by omega) x1 x2 x3 x4 x5 x6 A_a1_0 hr
    · refine Runs.via (T' := T0) (g' := (mkF m 79 #[.val (.ref a1), .val (.int x1), .val (.int x2), .val (.int x3), .val (.int x4), .val (.int x5), .val (.int x6)] [])) (fun t k => ?_) ?_
      · show Steps p.tables e below (T0.setTop (mkF m 76 #[.val (.ref a1), .val (.int x1), .val (.int x2), .val (.int x3), .val (.int x4), .val (.int x5), .val (.int x6)] [(.int (57 : Int32)), (.int x6)])) t
        exact XS.icmpNo X0.here hx rfl (hb hby d4_76) rfl (flt hc2).2.2.1 k
      refine Runs.via (T' := T0) (g' := (mkF m 84 #[.val (.ref a1), .val (.int x1), .val (.int x2), .val (.int x3), .val (.int x4), .val (.int x5), .val (.int x6)] [(.int (1 : Int32))])) (fun t k => ?_) ?_
      · show Steps p.tables e below (T0.setTop (mkF m 79 #[.val (.ref a1), .val (.int x1), .val (.int x2), .val (.int x3), .val (.int x4), .val (.int x5), .val (.int x6)] [])) t
        refine XS.iconst X0.here hx rfl (hb hby d4_79) ?_
        show Steps p.tables e below (T0.setTop (mkF m 80 #[.val (.ref a1), .val (.int x1), .val (.int x2), .val (.int x3), .val (.int x4), .val (.int x5), .val (.int x6)] [(.int (1 : Int32))])) t
        refine XS.goto X0.here hx rfl (pc0 := 80) (pc' := 84) rfl (hb hby d4_80) (by decide) (by decide) ?_
        exact k
      exact b4_84 C fuel K17 hK17 X0 e0 N0 (by show cells ≤ 0; omega) (by show slots ≤ 0; omega) Z1 (by omega) x1 x2 x3 x4 x5 x6 (1 : Int32) A_a1_0 hr
def s4_17 (K17 : Int32 → Int32 → Int32 → Int32 → Int32 → List Int32 → Option (Int32)) (fuel : Nat) (x1 : Int32) (x2 : Int32) (x3 : Int32) (x4 : Int32) (x5 : Int32) (q_a1 : List Int32) : Option (Int32) := (if x5 < x2 then (if x4 = (0 : Int32) then (g4_92 fuel x2 x3 x4 q_a1) else ((rdO q_a1 x5).bind fun v3 => (if v3 = (46 : Int32) then (if x3 < (0 : Int32) then (if x1 < x5 then (if x5 < (x2 - (1 : Int32)) then (g4_86 K17 fuel x1 x2 x5 x4 x5 q_a1) else (g4_65 K17 fuel x1 x2 x3 x5 v3 q_a1)) else (g4_65 K17 fuel x1 x2 x3 x5 v3 q_a1)) else (g4_65 K17 fuel x1 x2 x3 x5 v3 q_a1)) else (g4_65 K17 fuel x1 x2 x3 x5 v3 q_a1)))) else (g4_92 fuel x2 x3 x4 q_a1))
def h4_17 (fuel : Nat) : Nat → Int32 → Int32 → Int32 → Int32 → Int32 → List Int32 → Option (Int32)
  | 0 => fun _ _ _ _ _ _ => none
  | n + 1 => fun x1 x2 x3 x4 x5 q_a1 => s4_17 (h4_17 fuel n) fuel x1 x2 x3 x4 x5 q_a1
def g4_17 (fuel : Nat) (x1 : Int32) (x2 : Int32) (x3 : Int32) (x4 : Int32) (x5 : Int32) (q_a1 : List Int32) : Option (Int32) := h4_17 fuel fuel x1 x2 x3 x4 x5 q_a1
set_option maxRecDepth 65536 in
set_option maxHeartbeats 4000000 in
theorem t4_17w1 {hE : Heap} {a1 : Addr} {q_a1 : List Int32} (fuel : Nat) {r : Int32} (C : Ctx p s m meth c Z a0 "com/example/notewright/notewright/Decimals" prog_7_method_3_code 7 (some .int) "scale") (K17 : Int32 → Int32 → Int32 → Int32 → Int32 → List Int32 → Option (Int32)) (hK17 : ∀ {T0 : State} {locs : List Loc} {cells slots : Nat} (X0 : Stand p l e ({ frames := 0, cells := 0, slots := 0, locals := 0 } : Room) s m args below meth c T0 locs cells slots) (e0 : T0.heap = hE) (N0 : Fr n0 locs) (hk : cells ≤ 0) (hn : slots ≤ 0) (Z1 : n0 ≤ hE.size) (o0 : n0 ≤ a1) (x1 : Int32) (x2 : Int32) (x3 : Int32) (x4 : Int32) (x5 : Int32) (x6 : Int32) (A_a1_0 : AI Z hE a1 .byte q_a1), K17 x1 x2 x3 x4 x5 q_a1 = some r → Runs p e below s (P4 Z hE a1 q_a1 n0 r) 0 0 T0 (mkF m 17 #[.val (.ref a1), .val (.int x1), .val (.int x2), .val (.int x3), .val (.int x4), .val (.int x5), .val (.int x6)] [])) (X0 : Stand p l e ({ frames := 0, cells := 0, slots := 0, locals := 0 } : Room) s m args below meth c T0 locs cells slots) (e0 : T0.heap = hE) (N0 : Fr n0 locs) (hk : cells ≤ 0) (hn : slots ≤ 0) (Z1 : n0 ≤ hE.size) (o0 : n0 ≤ a1) (x1 : Int32) (x2 : Int32) (x3 : Int32) (x4 : Int32) (x5 : Int32) (x6 : Int32) (A_a1_0 : AI Z hE a1 .byte q_a1) (hr : s4_17 K17 fuel x1 x2 x3 x4 x5 q_a1 = some r) :
    Runs p e below s (P4 Z hE a1 q_a1 n0 r) 0 0 T0 (mkF m 17 #[.val (.ref a1), .val (.int x1), .val (.int x2), .val (.int x3), .val (.int x4), .val (.int x5), .val (.int x6)] []) := by
  unfold s4_17 at hr
  have ⟨hx, hZ, hw, hby, hml, hown, hret, hlk, hnm⟩ := C
  refine Runs.via (T' := T0) (g' := (mkF m 20 #[.val (.ref a1), .val (.int x1), .val (.int x2), .val (.int x3), .val (.int x4), .val (.int x5), .val (.int x6)] [(.int x2), (.int x5)])) (fun t k => ?_) ?_
  · show Steps p.tables e below (T0.setTop (mkF m 17 #[.val (.ref a1), .val (.int x1), .val (.int x2), .val (.int x3), .val (.int x4), .val (.int x5), .val (.int x6)] [])) t
    refine XS.iload X0.here hx rfl (hb hby d4_17) rfl ?_
    show Steps p.tables e below (T0.setTop (mkF m 19 #[.val (.ref a1), .val (.int x1), .val (.int x2), .val (.int x3), .val (.int x4), .val (.int x5), .val (.int x6)] [(.int x5)])) t
    refine XS.iloadN X0.here hx rfl (hb hby d4_19) rfl ?_
    exact k
  refine iteE hr (fun hc1 hr => ?_) (fun hc1 hr => ?_)
  · refine Runs.via (T' := T0) (g' := (mkF m 23 #[.val (.ref a1), .val (.int x1), .val (.int x2), .val (.int x3), .val (.int x4), .val (.int x5), .val (.int x6)] [])) (fun t k => ?_) ?_
    · show Steps p.tables e below (T0.setTop (mkF m 20 #[.val (.ref a1), .val (.int x1), .val (.int x2), .val (.int x3), .val (.int x4), .val (.int x5), .val (.int x6)] [(.int x2), (.int x5)])) t
      exact XS.icmpNo X0.here hx rfl (hb hby d4_20) rfl (tlt hc1).2.1 k
    refine Runs.via (T' := T0) (g' := (mkF m 25 #[.val (.ref a1), .val (.int x1), .val (.int x2), .val (.int x3), .val (.int x4), .val (.int x5), .val (.int x6)] [(.int x4)])) (fun t k => ?_) ?_
    · show Steps p.tables e below (T0.setTop (mkF m 23 #[.val (.ref a1), .val (.int x1), .val (.int x2), .val (.int x3), .val (.int x4), .val (.int x5), .val (.int x6)] [])) t
      refine XS.iload X0.here hx rfl (hb hby d4_23) rfl ?_
      exact k
    refine iteE hr (fun hc2 hr => ?_) (fun hc2 hr => ?_)
    · refine Runs.via (T' := T0) (g' := (mkF m 92 #[.val (.ref a1), .val (.int x1), .val (.int x2), .val (.int x3), .val (.int x4), .val (.int x5), .val (.int x6)] [])) (fun t k => ?_) ?_
      · show Steps p.tables e below (T0.setTop (mkF m 25 #[.val (.ref a1), .val (.int x1), .val (.int x2), .val (.int x3), .val (.int x4), .val (.int x5), .val (.int x6)] [(.int x4)])) t
        exact XS.ifYes X0.here hx rfl (pc0 := 25) (pc' := 92) rfl (hb hby d4_25) rfl ((if0 _ _).trans (teq hc2).1) (by decide) (by decide) k
      exact b4_92w1 C fuel X0 e0 N0 (by show cells ≤ 0; omega) (by show slots ≤ 0; omega) Z1 (by omega) x1 x2 x3 x4 x5 x6 A_a1_0 hr
    · refine Runs.via (T' := T0) (g' := (mkF m 28 #[.val (.ref a1), .val (.int x1), .val (.int x2), .val (.int x3), .val (.int x4), .val (.int x5), .val (.int x6)] [])) (fun t k => ?_) ?_
      · show Steps p.tables e below (T0.setTop (mkF m 25 #[.val (.ref a1), .val (.int x1), .val (.int x2), .val (.int x3), .val (.int x4), .val (.int x5), .val (.int x6)] [(.int x4)])) t
        exact XS.ifNo X0.here hx rfl (hb hby d4_25) rfl ((if0 _ _).trans (feq hc2).1) k
      refine Runs.via (T' := T0) (g' := (mkF m 31 #[.val (.ref a1), .val (.int x1), .val (.int x2), .val (.int x3), .val (.int x4), .val (.int x5), .val (.int x6)] [(.int x5), (.ref a1)])) (fun t k => ?_) ?_
      · show Steps p.tables e below (T0.setTop (mkF m 28 #[.val (.ref a1), .val (.int x1), .val (.int x2), .val (.int x3), .val (.int x4), .val (.int x5), .val (.int x6)] [])) t
        refine XS.aloadN X0.here hx rfl (hb hby d4_28) rfl rfl ?_
        show Steps p.tables e below (T0.setTop (mkF m 29 #[.val (.ref a1), .val (.int x1), .val (.int x2), .val (.int x3), .val (.int x4), .val (.int x5), .val (.int x6)] [(.ref a1)])) t
        refine XS.iload X0.here hx rfl (hb hby d4_29) rfl ?_
        exact k
      refine bindE hr ?_; intro v3 hv3 hr
      refine Runs.via (T' := T0) (g' := (mkF m 32 #[.val (.ref a1), .val (.int x1), .val (.int x2), .val (.int x3), .val (.int x4), .val (.int x5), .val (.int x6)] [(.int v3)])) (fun t k => ldB X0 hx hZ e0 A_a1_0 hv3 (g := (mkF m 31 #[.val (.ref a1), .val (.int x1), .val (.int x2), .val (.int x3), .val (.int x4), .val (.int x5), .val (.int x6)] [(.int x5), (.ref a1)])) rfl rfl (hb hby d4_31) _ k) ?_
      refine Runs.via (T' := T0) (g' := (mkF m 38 #[.val (.ref a1), .val (.int x1), .val (.int x2), .val (.int x3), .val (.int x4), .val (.int x5), .val (.int v3)] [(.int (46 : Int32)), (.int v3)])) (fun t k => ?_) ?_
      · show Steps p.tables e below (T0.setTop (mkF m 32 #[.val (.ref a1), .val (.int x1), .val (.int x2), .val (.int x3), .val (.int x4), .val (.int x5), .val (.int x6)] [(.int v3)])) t
        refine XS.istore X0.here hx rfl (hb hby d4_32) rfl (l' := #[.val (.ref a1), .val (.int x1), .val (.int x2), .val (.int x3), .val (.int x4), .val (.int x5), .val (.int v3)]) rfl ?_
        show Steps p.tables e below (T0.setTop (mkF m 34 #[.val (.ref a1), .val (.int x1), .val (.int x2), .val (.int x3), .val (.int x4), .val (.int x5), .val (.int v3)] [])) t
        refine XS.iload X0.here hx rfl (hb hby d4_34) rfl ?_
        show Steps p.tables e below (T0.setTop (mkF m 36 #[.val (.ref a1), .val (.int x1), .val (.int x2), .val (.int x3), .val (.int x4), .val (.int x5), .val (.int v3)] [(.int v3)])) t
        refine XS.bipush X0.here hx rfl (hb hby d4_36) ?_
        exact k
      refine iteE hr (fun hc4 hr => ?_) (fun hc4 hr => ?_)
      · refine Runs.via (T' := T0) (g' := (mkF m 41 #[.val (.ref a1), .val (.int x1), .val (.int x2), .val (.int x3), .val (.int x4), .val (.int x5), .val (.int v3)] [])) (fun t k => ?_) ?_
        · show Steps p.tables e below (T0.setTop (mkF m 38 #[.val (.ref a1), .val (.int x1), .val (.int x2), .val (.int x3), .val (.int x4), .val (.int x5), .val (.int v3)] [(.int (46 : Int32)), (.int v3)])) t
          exact XS.icmpNo X0.here hx rfl (hb hby d4_38) rfl (teq hc4).2 k
        refine Runs.via (T' := T0) (g' := (mkF m 42 #[.val (.ref a1), .val (.int x1), .val (.int x2), .val (.int x3), .val (.int x4), .val (.int x5), .val (.int v3)] [(.int x3)])) (fun t k => ?_) ?_
        · show Steps p.tables e below (T0.setTop (mkF m 41 #[.val (.ref a1), .val (.int x1), .val (.int x2), .val (.int x3), .val (.int x4), .val (.int x5), .val (.int v3)] [])) t
          refine XS.iloadN X0.here hx rfl (hb hby d4_41) rfl ?_
          exact k
        refine iteE hr (fun hc5 hr => ?_) (fun hc5 hr => ?_)
        · refine Runs.via (T' := T0) (g' := (mkF m 45 #[.val (.ref a1), .val (.int x1), .val (.int x2), .val (.int x3), .val (.int x4), .val (.int x5), .val (.int v3)] [])) (fun t k => ?_) ?_
          · show Steps p.tables e below (T0.setTop (mkF m 42 #[.val (.ref a1), .val (.int x1), .val (.int x2), .val (.int x3), .val (.int x4), .val (.int x5), .val (.int v3)] [(.int x3)])) t
            exact XS.ifNo X0.here hx rfl (hb hby d4_42) rfl ((if0 _ _).trans (tlt hc5).2.1) k
          refine Runs.via (T' := T0) (g' := (mkF m 48 #[.val (.ref a1), .val (.int x1), .val (.int x2), .val (.int x3), .val (.int x4), .val (.int x5), .val (.int v3)] [(.int x1), (.int x5)])) (fun t k => ?_) ?_
          · show Steps p.tables e below (T0.setTop (mkF m 45 #[.val (.ref a1), .val (.int x1), .val (.int x2), .val (.int x3), .val (.int x4), .val (.int x5), .val (.int v3)] [])) t
            refine XS.iload X0.here hx rfl (hb hby d4_45) rfl ?_
            show Steps p.tables e below (T0.setTop (mkF m 47 #[.val (.ref a1), .val (.int x1), .val (.int x2), .val (.int x3), .val (.int x4), .val (.int x5), .val (.int v3)] [(.int x5)])) t
            refine XS.iloadN X0.here hx rfl (hb hby d4_47) rfl ?_
            exact k
          refine iteE hr (fun hc6 hr => ?_) (fun hc6 hr => ?_)
          · refine Runs.via (T' := T0) (g' := (mkF m 51 #[.val (.ref a1), .val (.int x1), .val (.int x2), .val (.int x3), .val (.int x4), .val (.int x5), .val (.int v3)] [])) (fun t k => ?_) ?_
            · show Steps p.tables e below (T0.setTop (mkF m 48 #[.val (.ref a1), .val (.int x1), .val (.int x2), .val (.int x3), .val (.int x4), .val (.int x5), .val (.int v3)] [(.int x1), (.int x5)])) t
              exact XS.icmpNo X0.here hx rfl (hb hby d4_48) rfl (tlt hc6).2.2.2 k
            refine Runs.via (T' := T0) (g' := (mkF m 56 #[.val (.ref a1), .val (.int x1), .val (.int x2), .val (.int x3), .val (.int x4), .val (.int x5), .val (.int v3)] [(.int (x2 - (1 : Int32))), (.int x5)])) (fun t k => ?_) ?_
            · show Steps p.tables e below (T0.setTop (mkF m 51 #[.val (.ref a1), .val (.int x1), .val (.int x2), .val (.int x3), .val (.int x4), .val (.int x5), .val (.int v3)] [])) t
              refine XS.iload X0.here hx rfl (hb hby d4_51) rfl ?_
              show Steps p.tables e below (T0.setTop (mkF m 53 #[.val (.ref a1), .val (.int x1), .val (.int x2), .val (.int x3), .val (.int x4), .val (.int x5), .val (.int v3)] [(.int x5)])) t
              refine XS.iloadN X0.here hx rfl (hb hby d4_53) rfl ?_
              show Steps p.tables e below (T0.setTop (mkF m 54 #[.val (.ref a1), .val (.int x1), .val (.int x2), .val (.int x3), .val (.int x4), .val (.int x5), .val (.int v3)] [(.int x2), (.int x5)])) t
              refine XS.iconst X0.here hx rfl (hb hby d4_54) ?_
              show Steps p.tables e below (T0.setTop (mkF m 55 #[.val (.ref a1), .val (.int x1), .val (.int x2), .val (.int x3), .val (.int x4), .val (.int x5), .val (.int v3)] [(.int (1 : Int32)), (.int x2), (.int x5)])) t
              refine XS.isub X0.here hx rfl (hb hby d4_55) rfl ?_
              exact k
            refine iteE hr (fun hc7 hr => ?_) (fun hc7 hr => ?_)
            · refine Runs.via (T' := T0) (g' := (mkF m 59 #[.val (.ref a1), .val (.int x1), .val (.int x2), .val (.int x3), .val (.int x4), .val (.int x5), .val (.int v3)] [])) (fun t k => ?_) ?_
              · show Steps p.tables e below (T0.setTop (mkF m 56 #[.val (.ref a1), .val (.int x1), .val (.int x2), .val (.int x3), .val (.int x4), .val (.int x5), .val (.int v3)] [(.int (x2 - (1 : Int32))), (.int x5)])) t
                exact XS.icmpNo X0.here hx rfl (hb hby d4_56) rfl (tlt hc7).2.1 k
              refine Runs.via (T' := T0) (g' := (mkF m 86 #[.val (.ref a1), .val (.int x1), .val (.int x2), .val (.int x5), .val (.int x4), .val (.int x5), .val (.int v3)] [])) (fun t k => ?_) ?_
              · show Steps p.tables e below (T0.setTop (mkF m 59 #[.val (.ref a1), .val (.int x1), .val (.int x2), .val (.int x3), .val (.int x4), .val (.int x5), .val (.int v3)] [])) t
                refine XS.iload X0.here hx rfl (hb hby d4_59) rfl ?_
                show Steps p.tables e below (T0.setTop (mkF m 61 #[.val (.ref a1), .val (.int x1), .val (.int x2), .val (.int x3), .val (.int x4), .val (.int x5), .val (.int v3)] [(.int x5)])) t
                refine XS.istoreN X0.here hx rfl (hb hby d4_61) rfl (l' := #[.val (.ref a1), .val (.int x1), .val (.int x2), .val (.int x5), .val (.int x4), .val (.int x5), .val (.int v3)]) rfl ?_
                show Steps p.tables e below (T0.setTop (mkF m 62 #[.val (.ref a1), .val (.int x1), .val (.int x2), .val (.int x5), .val (.int x4), .val (.int x5), .val (.int v3)] [])) t
                refine XS.goto X0.here hx rfl (pc0 := 62) (pc' := 86) rfl (hb hby d4_62) (by decide) (by decide) ?_
                exact k
              exact b4_86 C fuel K17 hK17 X0 e0 N0 (by show cells ≤ 0; omega) (by show slots ≤ 0; omega) Z1 (by omega) x1 x2 x5 x4 x5 v3 A_a1_0 hr
            · refine Runs.via (T' := T0) (g' := (mkF m 65 #[.val (.ref a1), .val (.int x1), .val (.int x2), .val (.int x3), .val (.int x4), .val (.int x5), .val (.int v3)] [])) (fun t k => ?_) ?_
              · show Steps p.tables e below (T0.setTop (mkF m 56 #[.val (.ref a1), .val (.int x1), .val (.int x2), .val (.int x3), .val (.int x4), .val (.int x5), .val (.int v3)] [(.int (x2 - (1 : Int32))), (.int x5)])) t
                exact XS.icmpYes X0.here hx rfl (pc0 := 56) (pc' := 65) rfl (hb hby d4_56) rfl (flt hc7).2.1 (by decide) (by decide) k
              exact b4_65 C fuel K17 hK17 X0 e0 N0 (by show cells ≤ 0; omega) (by show slots ≤ 0; omega) Z1 (by omega) x1 x2 x3 x4 x5 v3 A_a1_0 hr
          · refine Runs.via (T' := T0) (g' := (mkF m 65 #[.val (.ref a1), .val (.int x1), .val (.int x2), .val (.int x3), .val (.int x4), .val (.int x5), .val (.int v3)] [])) (fun t k => ?_) ?_
            · show Steps p.tables e below (T0.setTop (mkF m 48 #[.val (.ref a1), .val (.int x1), .val (.int x2), .val (.int x3), .val (.int x4), .val (.int x5), .val (.int v3)] [(.int x1), (.int x5)])) t
              exact XS.icmpYes X0.here hx rfl (pc0 := 48) (pc' := 65) rfl (hb hby d4_48) rfl (flt hc6).2.2.2 (by decide) (by decide) k
            exact b4_65 C fuel K17 hK17 X0 e0 N0 (by show cells ≤ 0; omega) (by show slots ≤ 0; omega) Z1 (by omega) x1 x2 x3 x4 x5 v3 A_a1_0 hr
        · refine Runs.via (T' := T0) (g' := (mkF m 65 #[.val (.ref a1), .val (.int x1), .val (.int x2), .val (.int x3), .val (.int x4), .val (.int x5), .val (.int v3)] [])) (fun t k => ?_) ?_
          · show Steps p.tables e below (T0.setTop (mkF m 42 #[.val (.ref a1), .val (.int x1), .val (.int x2), .val (.int x3), .val (.int x4), .val (.int x5), .val (.int v3)] [(.int x3)])) t
            exact XS.ifYes X0.here hx rfl (pc0 := 42) (pc' := 65) rfl (hb hby d4_42) rfl ((if0 _ _).trans (flt hc5).2.1) (by decide) (by decide) k
          exact b4_65 C fuel K17 hK17 X0 e0 N0 (by show cells ≤ 0; omega) (by show slots ≤ 0; omega) Z1 (by omega) x1 x2 x3 x4 x5 v3 A_a1_0 hr
      · refine Runs.via (T' := T0) (g' := (mkF m 65 #[.val (.ref a1), .val (.int x1), .val (.int x2), .val (.int x3), .val (.int x4), .val (.int x5), .val (.int v3)] [])) (fun t k => ?_) ?_
        · show Steps p.tables e below (T0.setTop (mkF m 38 #[.val (.ref a1), .val (.int x1), .val (.int x2), .val (.int x3), .val (.int x4), .val (.int x5), .val (.int v3)] [(.int (46 : Int32)), (.int v3)])) t
          exact XS.icmpYes X0.here hx rfl (pc0 := 38) (pc' := 65) rfl (hb hby d4_38) rfl (feq hc4).2 (by decide) (by decide) k
        exact b4_65 C fuel K17 hK17 X0 e0 N0 (by show cells ≤ 0; omega) (by show slots ≤ 0; omega) Z1 (by omega) x1 x2 x3 x4 x5 v3 A_a1_0 hr
  · refine Runs.via (T' := T0) (g' := (mkF m 92 #[.val (.ref a1), .val (.int x1), .val (.int x2), .val (.int x3), .val (.int x4), .val (.int x5), .val (.int x6)] [])) (fun t k => ?_) ?_
    · show Steps p.tables e below (T0.setTop (mkF m 20 #[.val (.ref a1), .val (.int x1), .val (.int x2), .val (.int x3), .val (.int x4), .val (.int x5), .val (.int x6)] [(.int x2), (.int x5)])) t
      exact XS.icmpYes X0.here hx rfl (pc0 := 20) (pc' := 92) rfl (hb hby d4_20) rfl (flt hc1).2.1 (by decide) (by decide) k
    exact b4_92w1 C fuel X0 e0 N0 (by show cells ≤ 0; omega) (by show slots ≤ 0; omega) Z1 (by omega) x1 x2 x3 x4 x5 x6 A_a1_0 hr
set_option maxRecDepth 65536 in
set_option maxHeartbeats 4000000 in
theorem u4_17w1 {hE : Heap} {a1 : Addr} {q_a1 : List Int32} (fuel : Nat) {r : Int32} (C : Ctx p s m meth c Z a0 "com/example/notewright/notewright/Decimals" prog_7_method_3_code 7 (some .int) "scale") : ∀ n : Nat, ∀ {T0 : State} {locs : List Loc} {cells slots : Nat} (X0 : Stand p l e ({ frames := 0, cells := 0, slots := 0, locals := 0 } : Room) s m args below meth c T0 locs cells slots) (e0 : T0.heap = hE) (N0 : Fr n0 locs) (hk : cells ≤ 0) (hn : slots ≤ 0) (Z1 : n0 ≤ hE.size) (o0 : n0 ≤ a1) (x1 : Int32) (x2 : Int32) (x3 : Int32) (x4 : Int32) (x5 : Int32) (x6 : Int32) (A_a1_0 : AI Z hE a1 .byte q_a1), h4_17 fuel n x1 x2 x3 x4 x5 q_a1 = some r → Runs p e below s (P4 Z hE a1 q_a1 n0 r) 0 0 T0 (mkF m 17 #[.val (.ref a1), .val (.int x1), .val (.int x2), .val (.int x3), .val (.int x4), .val (.int x5), .val (.int x6)] []) := by
  intro n
  induction n with
  | zero => intros; rename_i hr; exact absurd hr (by simp [h4_17])
  | succ n ih =>
    intro T0 locs cells slots X0 e0 N0 hk hn Z1 o0 x1 x2 x3 x4 x5 x6 A_a1_0 hr
    exact t4_17w1 fuel C _ ih X0 e0 N0 hk hn Z1 o0 x1 x2 x3 x4 x5 x6 A_a1_0 hr
set_option maxRecDepth 65536 in
set_option maxHeartbeats 4000000 in
theorem b4_17w1 {hE : Heap} {a1 : Addr} {q_a1 : List Int32} {r : Int32} (C : Ctx p s m meth c Z a0 "com/example/notewright/notewright/Decimals" prog_7_method_3_code 7 (some .int) "scale") (fuel : Nat) (X0 : Stand p l e ({ frames := 0, cells := 0, slots := 0, locals := 0 } : Room) s m args below meth c T0 locs cells slots) (e0 : T0.heap = hE) (N0 : Fr n0 locs) (hk : cells ≤ 0) (hn : slots ≤ 0) (Z1 : n0 ≤ hE.size) (o0 : n0 ≤ a1) (x1 : Int32) (x2 : Int32) (x3 : Int32) (x4 : Int32) (x5 : Int32) (x6 : Int32) (A_a1_0 : AI Z hE a1 .byte q_a1) (hr : g4_17 fuel x1 x2 x3 x4 x5 q_a1 = some r) :
    Runs p e below s (P4 Z hE a1 q_a1 n0 r) 0 0 T0 (mkF m 17 #[.val (.ref a1), .val (.int x1), .val (.int x2), .val (.int x3), .val (.int x4), .val (.int x5), .val (.int x6)] []) := u4_17w1 fuel C fuel X0 e0 N0 hk hn Z1 o0 x1 x2 x3 x4 x5 x6 A_a1_0 hr
set_option maxRecDepth 65536 in
set_option maxHeartbeats 4000000 in
theorem t4_17 {hE : Heap} {a1 : Addr} {q_a1 : List Int32} (fuel : Nat) {r : Int32} (C : Ctx p s m meth c Z a0 "com/example/notewright/notewright/Decimals" prog_7_method_3_code 7 (some .int) "scale") (K17 : Int32 → Int32 → Int32 → Int32 → Int32 → List Int32 → Option (Int32)) (hK17 : ∀ {T0 : State} {locs : List Loc} {cells slots : Nat} (X0 : Stand p l e ({ frames := 0, cells := 0, slots := 0, locals := 0 } : Room) s m args below meth c T0 locs cells slots) (e0 : T0.heap = hE) (N0 : Fr n0 locs) (hk : cells ≤ 0) (hn : slots ≤ 0) (Z1 : n0 ≤ hE.size) (o0 : n0 ≤ a1) (x1 : Int32) (x2 : Int32) (x3 : Int32) (x4 : Int32) (x5 : Int32) (x6 : Int32) (A_a1_0 : AI Z hE a1 .byte q_a1), K17 x1 x2 x3 x4 x5 q_a1 = some r → Runs p e below s (P4 Z hE a1 q_a1 n0 r) 0 0 T0 (mkF m 17 #[.val (.ref a1), .val (.int x1), .val (.int x2), .val (.int x3), .val (.int x4), .val (.int x5), .val (.int x6)] [])) (X0 : Stand p l e ({ frames := 0, cells := 0, slots := 0, locals := 0 } : Room) s m args below meth c T0 locs cells slots) (e0 : T0.heap = hE) (N0 : Fr n0 locs) (hk : cells ≤ 0) (hn : slots ≤ 0) (Z1 : n0 ≤ hE.size) (o0 : n0 ≤ a1) (x1 : Int32) (x2 : Int32) (x3 : Int32) (x4 : Int32) (x5 : Int32) (A_a1_0 : AI Z hE a1 .byte q_a1) (hr : s4_17 K17 fuel x1 x2 x3 x4 x5 q_a1 = some r) :
    Runs p e below s (P4 Z hE a1 q_a1 n0 r) 0 0 T0 (mkF m 17 #[.val (.ref a1), .val (.int x1), .val (.int x2), .val (.int x3), .val (.int x4), .val (.int x5), .unset] []) := by
  unfold s4_17 at hr
  have ⟨hx, hZ, hw, hby, hml, hown, hret, hlk, hnm⟩ := C
  refine Runs.via (T' := T0) (g' := (mkF m 20 #[.val (.ref a1), .val (.int x1), .val (.int x2), .val (.int x3), .val (.int x4), .val (.int x5), .unset] [(.int x2), (.int x5)])) (fun t k => ?_) ?_
  · show Steps p.tables e below (T0.setTop (mkF m 17 #[.val (.ref a1), .val (.int x1), .val (.int x2), .val (.int x3), .val (.int x4), .val (.int x5), .unset] [])) t
    refine XS.iload X0.here hx rfl (hb hby d4_17) rfl ?_
    show Steps p.tables e below (T0.setTop (mkF m 19 #[.val (.ref a1), .val (.int x1), .val (.int x2), .val (.int x3), .val (.int x4), .val (.int x5), .unset] [(.int x5)])) t
    refine XS.iloadN X0.here hx rfl (hb hby d4_19) rfl ?_
    exact k
  refine iteE hr (fun hc1 hr => ?_) (fun hc1 hr => ?_)
  · refine Runs.via (T' := T0) (g' := (mkF m 23 #[.val (.ref a1), .val (.int x1), .val (.int x2), .val (.int x3), .val (.int x4), .val (.int x5), .unset] [])) (fun t k => ?_) ?_
    · show Steps p.tables e below (T0.setTop (mkF m 20 #[.val (.ref a1), .val (.int x1), .val (.int x2), .val (.int x3), .val (.int x4), .val (.int x5), .unset] [(.int x2), (.int x5)])) t
      exact XS.icmpNo X0.here hx rfl (hb hby d4_20) rfl (tlt hc1).2.1 k
    refine Runs.via (T' := T0) (g' := (mkF m 25 #[.val (.ref a1), .val (.int x1), .val (.int x2), .val (.int x3), .val (.int x4), .val (.int x5), .unset] [(.int x4)])) (fun t k => ?_) ?_
    · show Steps p.tables e below (T0.setTop (mkF m 23 #[.val (.ref a1), .val (.int x1), .val (.int x2), .val (.int x3), .val (.int x4), .val (.int x5), .unset] [])) t
      refine XS.iload X0.here hx rfl (hb hby d4_23) rfl ?_
      exact k
    refine iteE hr (fun hc2 hr => ?_) (fun hc2 hr => ?_)
    · refine Runs.via (T' := T0) (g' := (mkF m 92 #[.val (.ref a1), .val (.int x1), .val (.int x2), .val (.int x3), .val (.int x4), .val (.int x5), .unset] [])) (fun t k => ?_) ?_
      · show Steps p.tables e below (T0.setTop (mkF m 25 #[.val (.ref a1), .val (.int x1), .val (.int x2), .val (.int x3), .val (.int x4), .val (.int x5), .unset] [(.int x4)])) t
        exact XS.ifYes X0.here hx rfl (pc0 := 25) (pc' := 92) rfl (hb hby d4_25) rfl ((if0 _ _).trans (teq hc2).1) (by decide) (by decide) k
      exact b4_92 C fuel X0 e0 N0 (by show cells ≤ 0; omega) (by show slots ≤ 0; omega) Z1 (by omega) x1 x2 x3 x4 x5 A_a1_0 hr
    · refine Runs.via (T' := T0) (g' := (mkF m 28 #[.val (.ref a1), .val (.int x1), .val (.int x2), .val (.int x3), .val (.int x4), .val (.int x5), .unset] [])) (fun t k => ?_) ?_
      · show Steps p.tables e below (T0.setTop (mkF m 25 #[.val (.ref a1), .val (.int x1), .val (.int x2), .val (.int x3), .val (.int x4), .val (.int x5), .unset] [(.int x4)])) t
        exact XS.ifNo X0.here hx rfl (hb hby d4_25) rfl ((if0 _ _).trans (feq hc2).1) k
      refine Runs.via (T' := T0) (g' := (mkF m 31 #[.val (.ref a1), .val (.int x1), .val (.int x2), .val (.int x3), .val (.int x4), .val (.int x5), .unset] [(.int x5), (.ref a1)])) (fun t k => ?_) ?_
      · show Steps p.tables e below (T0.setTop (mkF m 28 #[.val (.ref a1), .val (.int x1), .val (.int x2), .val (.int x3), .val (.int x4), .val (.int x5), .unset] [])) t
        refine XS.aloadN X0.here hx rfl (hb hby d4_28) rfl rfl ?_
        show Steps p.tables e below (T0.setTop (mkF m 29 #[.val (.ref a1), .val (.int x1), .val (.int x2), .val (.int x3), .val (.int x4), .val (.int x5), .unset] [(.ref a1)])) t
        refine XS.iload X0.here hx rfl (hb hby d4_29) rfl ?_
        exact k
      refine bindE hr ?_; intro v3 hv3 hr
      refine Runs.via (T' := T0) (g' := (mkF m 32 #[.val (.ref a1), .val (.int x1), .val (.int x2), .val (.int x3), .val (.int x4), .val (.int x5), .unset] [(.int v3)])) (fun t k => ldB X0 hx hZ e0 A_a1_0 hv3 (g := (mkF m 31 #[.val (.ref a1), .val (.int x1), .val (.int x2), .val (.int x3), .val (.int x4), .val (.int x5), .unset] [(.int x5), (.ref a1)])) rfl rfl (hb hby d4_31) _ k) ?_
      refine Runs.via (T' := T0) (g' := (mkF m 38 #[.val (.ref a1), .val (.int x1), .val (.int x2), .val (.int x3), .val (.int x4), .val (.int x5), .val (.int v3)] [(.int (46 : Int32)), (.int v3)])) (fun t k => ?_) ?_
      · show Steps p.tables e below (T0.setTop (mkF m 32 #[.val (.ref a1), .val (.int x1), .val (.int x2), .val (.int x3), .val (.int x4), .val (.int x5), .unset] [(.int v3)])) t
        refine XS.istore X0.here hx rfl (hb hby d4_32) rfl (l' := #[.val (.ref a1), .val (.int x1), .val (.int x2), .val (.int x3), .val (.int x4), .val (.int x5), .val (.int v3)]) rfl ?_
        show Steps p.tables e below (T0.setTop (mkF m 34 #[.val (.ref a1), .val (.int x1), .val (.int x2), .val (.int x3), .val (.int x4), .val (.int x5), .val (.int v3)] [])) t
        refine XS.iload X0.here hx rfl (hb hby d4_34) rfl ?_
        show Steps p.tables e below (T0.setTop (mkF m 36 #[.val (.ref a1), .val (.int x1), .val (.int x2), .val (.int x3), .val (.int x4), .val (.int x5), .val (.int v3)] [(.int v3)])) t
        refine XS.bipush X0.here hx rfl (hb hby d4_36) ?_
        exact k
      refine iteE hr (fun hc4 hr => ?_) (fun hc4 hr => ?_)
      · refine Runs.via (T' := T0) (g' := (mkF m 41 #[.val (.ref a1), .val (.int x1), .val (.int x2), .val (.int x3), .val (.int x4), .val (.int x5), .val (.int v3)] [])) (fun t k => ?_) ?_
        · show Steps p.tables e below (T0.setTop (mkF m 38 #[.val (.ref a1), .val (.int x1), .val (.int x2), .val (.int x3), .val (.int x4), .val (.int x5), .val (.int v3)] [(.int (46 : Int32)), (.int v3)])) t
          exact XS.icmpNo X0.here hx rfl (hb hby d4_38) rfl (teq hc4).2 k
        refine Runs.via (T' := T0) (g' := (mkF m 42 #[.val (.ref a1), .val (.int x1), .val (.int x2), .val (.int x3), .val (.int x4), .val (.int x5), .val (.int v3)] [(.int x3)])) (fun t k => ?_) ?_
        · show Steps p.tables e below (T0.setTop (mkF m 41 #[.val (.ref a1), .val (.int x1), .val (.int x2), .val (.int x3), .val (.int x4), .val (.int x5), .val (.int v3)] [])) t
          refine XS.iloadN X0.here hx rfl (hb hby d4_41) rfl ?_
          exact k
        refine iteE hr (fun hc5 hr => ?_) (fun hc5 hr => ?_)
        · refine Runs.via (T' := T0) (g' := (mkF m 45 #[.val (.ref a1), .val (.int x1), .val (.int x2), .val (.int x3), .val (.int x4), .val (.int x5), .val (.int v3)] [])) (fun t k => ?_) ?_
          · show Steps p.tables e below (T0.setTop (mkF m 42 #[.val (.ref a1), .val (.int x1), .val (.int x2), .val (.int x3), .val (.int x4), .val (.int x5), .val (.int v3)] [(.int x3)])) t
            exact XS.ifNo X0.here hx rfl (hb hby d4_42) rfl ((if0 _ _).trans (tlt hc5).2.1) k
          refine Runs.via (T' := T0) (g' := (mkF m 48 #[.val (.ref a1), .val (.int x1), .val (.int x2), .val (.int x3), .val (.int x4), .val (.int x5), .val (.int v3)] [(.int x1), (.int x5)])) (fun t k => ?_) ?_
          · show Steps p.tables e below (T0.setTop (mkF m 45 #[.val (.ref a1), .val (.int x1), .val (.int x2), .val (.int x3), .val (.int x4), .val (.int x5), .val (.int v3)] [])) t
            refine XS.iload X0.here hx rfl (hb hby d4_45) rfl ?_
            show Steps p.tables e below (T0.setTop (mkF m 47 #[.val (.ref a1), .val (.int x1), .val (.int x2), .val (.int x3), .val (.int x4), .val (.int x5), .val (.int v3)] [(.int x5)])) t
            refine XS.iloadN X0.here hx rfl (hb hby d4_47) rfl ?_
            exact k
          refine iteE hr (fun hc6 hr => ?_) (fun hc6 hr => ?_)
          · refine Runs.via (T' := T0) (g' := (mkF m 51 #[.val (.ref a1), .val (.int x1), .val (.int x2), .val (.int x3), .val (.int x4), .val (.int x5), .val (.int v3)] [])) (fun t k => ?_) ?_
            · show Steps p.tables e below (T0.setTop (mkF m 48 #[.val (.ref a1), .val (.int x1), .val (.int x2), .val (.int x3), .val (.int x4), .val (.int x5), .val (.int v3)] [(.int x1), (.int x5)])) t
              exact XS.icmpNo X0.here hx rfl (hb hby d4_48) rfl (tlt hc6).2.2.2 k
            refine Runs.via (T' := T0) (g' := (mkF m 56 #[.val (.ref a1), .val (.int x1), .val (.int x2), .val (.int x3), .val (.int x4), .val (.int x5), .val (.int v3)] [(.int (x2 - (1 : Int32))), (.int x5)])) (fun t k => ?_) ?_
            · show Steps p.tables e below (T0.setTop (mkF m 51 #[.val (.ref a1), .val (.int x1), .val (.int x2), .val (.int x3), .val (.int x4), .val (.int x5), .val (.int v3)] [])) t
              refine XS.iload X0.here hx rfl (hb hby d4_51) rfl ?_
              show Steps p.tables e below (T0.setTop (mkF m 53 #[.val (.ref a1), .val (.int x1), .val (.int x2), .val (.int x3), .val (.int x4), .val (.int x5), .val (.int v3)] [(.int x5)])) t
              refine XS.iloadN X0.here hx rfl (hb hby d4_53) rfl ?_
              show Steps p.tables e below (T0.setTop (mkF m 54 #[.val (.ref a1), .val (.int x1), .val (.int x2), .val (.int x3), .val (.int x4), .val (.int x5), .val (.int v3)] [(.int x2), (.int x5)])) t
              refine XS.iconst X0.here hx rfl (hb hby d4_54) ?_
              show Steps p.tables e below (T0.setTop (mkF m 55 #[.val (.ref a1), .val (.int x1), .val (.int x2), .val (.int x3), .val (.int x4), .val (.int x5), .val (.int v3)] [(.int (1 : Int32)), (.int x2), (.int x5)])) t
              refine XS.isub X0.here hx rfl (hb hby d4_55) rfl ?_
              exact k
            refine iteE hr (fun hc7 hr => ?_) (fun hc7 hr => ?_)
            · refine Runs.via (T' := T0) (g' := (mkF m 59 #[.val (.ref a1), .val (.int x1), .val (.int x2), .val (.int x3), .val (.int x4), .val (.int x5), .val (.int v3)] [])) (fun t k => ?_) ?_
              · show Steps p.tables e below (T0.setTop (mkF m 56 #[.val (.ref a1), .val (.int x1), .val (.int x2), .val (.int x3), .val (.int x4), .val (.int x5), .val (.int v3)] [(.int (x2 - (1 : Int32))), (.int x5)])) t
                exact XS.icmpNo X0.here hx rfl (hb hby d4_56) rfl (tlt hc7).2.1 k
              refine Runs.via (T' := T0) (g' := (mkF m 86 #[.val (.ref a1), .val (.int x1), .val (.int x2), .val (.int x5), .val (.int x4), .val (.int x5), .val (.int v3)] [])) (fun t k => ?_) ?_
              · show Steps p.tables e below (T0.setTop (mkF m 59 #[.val (.ref a1), .val (.int x1), .val (.int x2), .val (.int x3), .val (.int x4), .val (.int x5), .val (.int v3)] [])) t
                refine XS.iload X0.here hx rfl (hb hby d4_59) rfl ?_
                show Steps p.tables e below (T0.setTop (mkF m 61 #[.val (.ref a1), .val (.int x1), .val (.int x2), .val (.int x3), .val (.int x4), .val (.int x5), .val (.int v3)] [(.int x5)])) t
                refine XS.istoreN X0.here hx rfl (hb hby d4_61) rfl (l' := #[.val (.ref a1), .val (.int x1), .val (.int x2), .val (.int x5), .val (.int x4), .val (.int x5), .val (.int v3)]) rfl ?_
                show Steps p.tables e below (T0.setTop (mkF m 62 #[.val (.ref a1), .val (.int x1), .val (.int x2), .val (.int x5), .val (.int x4), .val (.int x5), .val (.int v3)] [])) t
                refine XS.goto X0.here hx rfl (pc0 := 62) (pc' := 86) rfl (hb hby d4_62) (by decide) (by decide) ?_
                exact k
              exact b4_86 C fuel K17 hK17 X0 e0 N0 (by show cells ≤ 0; omega) (by show slots ≤ 0; omega) Z1 (by omega) x1 x2 x5 x4 x5 v3 A_a1_0 hr
            · refine Runs.via (T' := T0) (g' := (mkF m 65 #[.val (.ref a1), .val (.int x1), .val (.int x2), .val (.int x3), .val (.int x4), .val (.int x5), .val (.int v3)] [])) (fun t k => ?_) ?_
              · show Steps p.tables e below (T0.setTop (mkF m 56 #[.val (.ref a1), .val (.int x1), .val (.int x2), .val (.int x3), .val (.int x4), .val (.int x5), .val (.int v3)] [(.int (x2 - (1 : Int32))), (.int x5)])) t
                exact XS.icmpYes X0.here hx rfl (pc0 := 56) (pc' := 65) rfl (hb hby d4_56) rfl (flt hc7).2.1 (by decide) (by decide) k
              exact b4_65 C fuel K17 hK17 X0 e0 N0 (by show cells ≤ 0; omega) (by show slots ≤ 0; omega) Z1 (by omega) x1 x2 x3 x4 x5 v3 A_a1_0 hr
          · refine Runs.via (T' := T0) (g' := (mkF m 65 #[.val (.ref a1), .val (.int x1), .val (.int x2), .val (.int x3), .val (.int x4), .val (.int x5), .val (.int v3)] [])) (fun t k => ?_) ?_
            · show Steps p.tables e below (T0.setTop (mkF m 48 #[.val (.ref a1), .val (.int x1), .val (.int x2), .val (.int x3), .val (.int x4), .val (.int x5), .val (.int v3)] [(.int x1), (.int x5)])) t
              exact XS.icmpYes X0.here hx rfl (pc0 := 48) (pc' := 65) rfl (hb hby d4_48) rfl (flt hc6).2.2.2 (by decide) (by decide) k
            exact b4_65 C fuel K17 hK17 X0 e0 N0 (by show cells ≤ 0; omega) (by show slots ≤ 0; omega) Z1 (by omega) x1 x2 x3 x4 x5 v3 A_a1_0 hr
        · refine Runs.via (T' := T0) (g' := (mkF m 65 #[.val (.ref a1), .val (.int x1), .val (.int x2), .val (.int x3), .val (.int x4), .val (.int x5), .val (.int v3)] [])) (fun t k => ?_) ?_
          · show Steps p.tables e below (T0.setTop (mkF m 42 #[.val (.ref a1), .val (.int x1), .val (.int x2), .val (.int x3), .val (.int x4), .val (.int x5), .val (.int v3)] [(.int x3)])) t
            exact XS.ifYes X0.here hx rfl (pc0 := 42) (pc' := 65) rfl (hb hby d4_42) rfl ((if0 _ _).trans (flt hc5).2.1) (by decide) (by decide) k
          exact b4_65 C fuel K17 hK17 X0 e0 N0 (by show cells ≤ 0; omega) (by show slots ≤ 0; omega) Z1 (by omega) x1 x2 x3 x4 x5 v3 A_a1_0 hr
      · refine Runs.via (T' := T0) (g' := (mkF m 65 #[.val (.ref a1), .val (.int x1), .val (.int x2), .val (.int x3), .val (.int x4), .val (.int x5), .val (.int v3)] [])) (fun t k => ?_) ?_
        · show Steps p.tables e below (T0.setTop (mkF m 38 #[.val (.ref a1), .val (.int x1), .val (.int x2), .val (.int x3), .val (.int x4), .val (.int x5), .val (.int v3)] [(.int (46 : Int32)), (.int v3)])) t
          exact XS.icmpYes X0.here hx rfl (pc0 := 38) (pc' := 65) rfl (hb hby d4_38) rfl (feq hc4).2 (by decide) (by decide) k
        exact b4_65 C fuel K17 hK17 X0 e0 N0 (by show cells ≤ 0; omega) (by show slots ≤ 0; omega) Z1 (by omega) x1 x2 x3 x4 x5 v3 A_a1_0 hr
  · refine Runs.via (T' := T0) (g' := (mkF m 92 #[.val (.ref a1), .val (.int x1), .val (.int x2), .val (.int x3), .val (.int x4), .val (.int x5), .unset] [])) (fun t k => ?_) ?_
    · show Steps p.tables e below (T0.setTop (mkF m 20 #[.val (.ref a1), .val (.int x1), .val (.int x2), .val (.int x3), .val (.int x4), .val (.int x5), .unset] [(.int x2), (.int x5)])) t
      exact XS.icmpYes X0.here hx rfl (pc0 := 20) (pc' := 92) rfl (hb hby d4_20) rfl (flt hc1).2.1 (by decide) (by decide) k
    exact b4_92 C fuel X0 e0 N0 (by show cells ≤ 0; omega) (by show slots ≤ 0; omega) Z1 (by omega) x1 x2 x3 x4 x5 A_a1_0 hr
set_option maxRecDepth 65536 in
set_option maxHeartbeats 4000000 in
theorem b4_17 {hE : Heap} {a1 : Addr} {q_a1 : List Int32} {r : Int32} (C : Ctx p s m meth c Z a0 "com/example/notewright/notewright/Decimals" prog_7_method_3_code 7 (some .int) "scale") (fuel : Nat) (X0 : Stand p l e ({ frames := 0, cells := 0, slots := 0, locals := 0 } : Room) s m args below meth c T0 locs cells slots) (e0 : T0.heap = hE) (N0 : Fr n0 locs) (hk : cells ≤ 0) (hn : slots ≤ 0) (Z1 : n0 ≤ hE.size) (o0 : n0 ≤ a1) (x1 : Int32) (x2 : Int32) (x3 : Int32) (x4 : Int32) (x5 : Int32) (A_a1_0 : AI Z hE a1 .byte q_a1) (hr : g4_17 fuel x1 x2 x3 x4 x5 q_a1 = some r) :
    Runs p e below s (P4 Z hE a1 q_a1 n0 r) 0 0 T0 (mkF m 17 #[.val (.ref a1), .val (.int x1), .val (.int x2), .val (.int x3), .val (.int x4), .val (.int x5), .unset] []) := by
  cases hf : fuel with
  | zero => rw [hf] at hr; exact absurd hr (by simp [g4_17, h4_17])
  | succ n =>
    have hr2 : s4_17 (h4_17 fuel n) fuel x1 x2 x3 x4 x5 q_a1 = some r := by
      have := hr
      unfold g4_17 at this
      rw [hf] at this ⊢
      exact this
    exact t4_17 fuel C _ (u4_17w1 fuel C n) X0 e0 N0 hk hn Z1 o0 x1 x2 x3 x4 x5 A_a1_0 hr2
def g4_12 (fuel : Nat) (x1 : Int32) (x2 : Int32) (x3 : Int32) (u0 : Int32) (q_a1 : List Int32) : Option (Int32) := (g4_17 fuel x1 x2 x3 u0 x1 q_a1)
set_option maxRecDepth 65536 in
set_option maxHeartbeats 4000000 in
theorem b4_12 {hE : Heap} {a1 : Addr} {q_a1 : List Int32} {r : Int32} (C : Ctx p s m meth c Z a0 "com/example/notewright/notewright/Decimals" prog_7_method_3_code 7 (some .int) "scale") (fuel : Nat) (X0 : Stand p l e ({ frames := 0, cells := 0, slots := 0, locals := 0 } : Room) s m args below meth c T0 locs cells slots) (e0 : T0.heap = hE) (N0 : Fr n0 locs) (hk : cells ≤ 0) (hn : slots ≤ 0) (Z1 : n0 ≤ hE.size) (o0 : n0 ≤ a1) (x1 : Int32) (x2 : Int32) (x3 : Int32) (u0 : Int32) (A_a1_0 : AI Z hE a1 .byte q_a1) (hr : g4_12 fuel x1 x2 x3 u0 q_a1 = some r) :
    Runs p e below s (P4 Z hE a1 q_a1 n0 r) 0 0 T0 (mkF m 12 #[.val (.ref a1), .val (.int x1), .val (.int x2), .val (.int x3), .unset, .unset, .unset] [(.int u0)]) := by
  unfold g4_12 at hr
  have ⟨hx, hZ, hw, hby, hml, hown, hret, hlk, hnm⟩ := C
  refine Runs.via (T' := T0) (g' := (mkF m 17 #[.val (.ref a1), .val (.int x1), .val (.int x2), .val (.int x3), .val (.int u0), .val (.int x1), .unset] [])) (fun t k => ?_) ?_
  · show Steps p.tables e below (T0.setTop (mkF m 12 #[.val (.ref a1), .val (.int x1), .val (.int x2), .val (.int x3), .unset, .unset, .unset] [(.int u0)])) t
    refine XS.istore X0.here hx rfl (hb hby d4_12) rfl (l' := #[.val (.ref a1), .val (.int x1), .val (.int x2), .val (.int x3), .val (.int u0), .unset, .unset]) rfl ?_
    show Steps p.tables e below (T0.setTop (mkF m 14 #[.val (.ref a1), .val (.int x1), .val (.int x2), .val (.int x3), .val (.int u0), .unset, .unset] [])) t
    refine XS.iloadN X0.here hx rfl (hb hby d4_14) rfl ?_
    show Steps p.tables e below (T0.setTop (mkF m 15 #[.val (.ref a1), .val (.int x1), .val (.int x2), .val (.int x3), .val (.int u0), .unset, .unset] [(.int x1)])) t
    refine XS.istore X0.here hx rfl (hb hby d4_15) rfl (l' := #[.val (.ref a1), .val (.int x1), .val (.int x2), .val (.int x3), .val (.int u0), .val (.int x1), .unset]) rfl ?_
    exact k
  exact b4_17 C fuel X0 e0 N0 (by show cells ≤ 0; omega) (by show slots ≤ 0; omega) Z1 (by omega) x1 x2 x3 u0 x1 A_a1_0 hr
def g4_0 (fuel : Nat) (x1 : Int32) (x2 : Int32) (q_a1 : List Int32) : Option (Int32) := (if x1 < x2 then (g4_12 fuel x1 x2 (-1 : Int32) (1 : Int32) q_a1) else (g4_12 fuel x1 x2 (-1 : Int32) (0 : Int32) q_a1))
set_option maxRecDepth 65536 in
set_option maxHeartbeats 4000000 in
theorem b4_0 {hE : Heap} {a1 : Addr} {q_a1 : List Int32} {r : Int32} (C : Ctx p s m meth c Z a0 "com/example/notewright/notewright/Decimals" prog_7_method_3_code 7 (some .int) "scale") (fuel : Nat) (X0 : Stand p l e ({ frames := 0, cells := 0, slots := 0, locals := 0 } : Room) s m args below meth c T0 locs cells slots) (e0 : T0.heap = hE) (N0 : Fr n0 locs) (hk : cells ≤ 0) (hn : slots ≤ 0) (Z1 : n0 ≤ hE.size) (o0 : n0 ≤ a1) (x1 : Int32) (x2 : Int32) (A_a1_0 : AI Z hE a1 .byte q_a1) (hr : g4_0 fuel x1 x2 q_a1 = some r) :
    Runs p e below s (P4 Z hE a1 q_a1 n0 r) 0 0 T0 (mkF m 0 #[.val (.ref a1), .val (.int x1), .val (.int x2), .unset, .unset, .unset, .unset] []) := by
  unfold g4_0 at hr
  have ⟨hx, hZ, hw, hby, hml, hown, hret, hlk, hnm⟩ := C
  refine Runs.via (T' := T0) (g' := (mkF m 4 #[.val (.ref a1), .val (.int x1), .val (.int x2), .val (.int (-1 : Int32)), .unset, .unset, .unset] [(.int x1), (.int x2)])) (fun t k => ?_) ?_
  · show Steps p.tables e below (T0.setTop (mkF m 0 #[.val (.ref a1), .val (.int x1), .val (.int x2), .unset, .unset, .unset, .unset] [])) t
    refine XS.iconst X0.here hx rfl (hb hby d4_0) ?_
    show Steps p.tables e below (T0.setTop (mkF m 1 #[.val (.ref a1), .val (.int x1), .val (.int x2), .unset, .unset, .unset, .unset] [(.int (-1 : Int32))])) t
    refine XS.istoreN X0.here hx rfl (hb hby d4_1) rfl (l' := #[.val (.ref a1), .val (.int x1), .val (.int x2), .val (.int (-1 : Int32)), .unset, .unset, .unset]) rfl ?_
    show Steps p.tables e below (T0.setTop (mkF m 2 #[.val (.ref a1), .val (.int x1), .val (.int x2), .val (.int (-1 : Int32)), .unset, .unset, .unset] [])) t
    refine XS.iloadN X0.here hx rfl (hb hby d4_2) rfl ?_
    show Steps p.tables e below (T0.setTop (mkF m 3 #[.val (.ref a1), .val (.int x1), .val (.int x2), .val (.int (-1 : Int32)), .unset, .unset, .unset] [(.int x2)])) t
    refine XS.iloadN X0.here hx rfl (hb hby d4_3) rfl ?_
    exact k
  refine iteE hr (fun hc1 hr => ?_) (fun hc1 hr => ?_)
  · refine Runs.via (T' := T0) (g' := (mkF m 7 #[.val (.ref a1), .val (.int x1), .val (.int x2), .val (.int (-1 : Int32)), .unset, .unset, .unset] [])) (fun t k => ?_) ?_
    · show Steps p.tables e below (T0.setTop (mkF m 4 #[.val (.ref a1), .val (.int x1), .val (.int x2), .val (.int (-1 : Int32)), .unset, .unset, .unset] [(.int x1), (.int x2)])) t
      exact XS.icmpNo X0.here hx rfl (hb hby d4_4) rfl (tlt hc1).2.2.2 k
    refine Runs.via (T' := T0) (g' := (mkF m 12 #[.val (.ref a1), .val (.int x1), .val (.int x2), .val (.int (-1 : Int32)), .unset, .unset, .unset] [(.int (1 : Int32))])) (fun t k => ?_) ?_
    · show Steps p.tables e below (T0.setTop (mkF m 7 #[.val (.ref a1), .val (.int x1), .val (.int x2), .val (.int (-1 : Int32)), .unset, .unset, .unset] [])) t
      refine XS.iconst X0.here hx rfl (hb hby d4_7) ?_
      show Steps p.tables e below (T0.setTop (mkF m 8 #[.val (.ref a1), .val (.int x1), .val (.int x2), .val (.int (-1 : Int32)), .unset, .unset, .unset] [(.int (1 : Int32))])) t
      refine XS.goto X0.here hx rfl (pc0 := 8) (pc' := 12) rfl (hb hby d4_8) (by decide) (by decide) ?_
      exact k
    exact b4_12 C fuel X0 e0 N0 (by show cells ≤ 0; omega) (by show slots ≤ 0; omega) Z1 (by omega) x1 x2 (-1 : Int32) (1 : Int32) A_a1_0 hr
  · refine Runs.via (T' := T0) (g' := (mkF m 11 #[.val (.ref a1), .val (.int x1), .val (.int x2), .val (.int (-1 : Int32)), .unset, .unset, .unset] [])) (fun t k => ?_) ?_
    · show Steps p.tables e below (T0.setTop (mkF m 4 #[.val (.ref a1), .val (.int x1), .val (.int x2), .val (.int (-1 : Int32)), .unset, .unset, .unset] [(.int x1), (.int x2)])) t
      exact XS.icmpYes X0.here hx rfl (pc0 := 4) (pc' := 11) rfl (hb hby d4_4) rfl (flt hc1).2.2.2 (by decide) (by decide) k
    refine Runs.via (T' := T0) (g' := (mkF m 12 #[.val (.ref a1), .val (.int x1), .val (.int x2), .val (.int (-1 : Int32)), .unset, .unset, .unset] [(.int (0 : Int32))])) (fun t k => ?_) ?_
    · show Steps p.tables e below (T0.setTop (mkF m 11 #[.val (.ref a1), .val (.int x1), .val (.int x2), .val (.int (-1 : Int32)), .unset, .unset, .unset] [])) t
      refine XS.iconst X0.here hx rfl (hb hby d4_11) ?_
      exact k
    exact b4_12 C fuel X0 e0 N0 (by show cells ≤ 0; omega) (by show slots ≤ 0; omega) Z1 (by omega) x1 x2 (-1 : Int32) (0 : Int32) A_a1_0 hr
def f4 (fuel : Nat) (x1 : Int32) (x2 : Int32) (q_a1 : List Int32) : Option (Int32) := g4_0 fuel x1 x2 q_a1
theorem pn_4 : plainName "com/example/notewright/notewright/Decimals" = true := by first | (simp [plainName, overriddenIn]; done) | decide +kernel
theorem ef_4 (m : MethodId) (x1 : Int32) (x2 : Int32) (a1 : Addr) : entryFrame m #[(.ref a1), (.int x1), (.int x2)] 7 = mkF m 0 #[.val (.ref a1), .val (.int x1), .val (.int x2), .unset, .unset, .unset, .unset] [] := by first | (simp [entryFrame, mkF, argsToLocals, Value.category]; done) | rfl
set_option maxRecDepth 65536 in
set_option maxHeartbeats 4000000 in
theorem rm4 (l : Launch) (Z : State) (a0 : Array Value) (hw : ∀ d ∈ tables_1, d.before a0 Z = true) (ws : List Jvm.Cond) (x1 : Int32) (x2 : Int32) (a1 : Addr) (q_a1 : List Int32) (hE : Heap) (n0 : Nat) (Z0 : n0 ≤ hE.size) (o0 : n0 ≤ a1) (A_a1_0 : AI Z hE a1 .byte q_a1) (fuel : Nat) (r : Int32) (hr : f4 fuel x1 x2 q_a1 = some r) :
    MetFree l (⟨"com/example/notewright/notewright/Decimals", "scale", "([BII)I"⟩ : MethodName) (head1 (Jvm.Cond.code (⟨"com/example/notewright/notewright/Decimals", "scale", "([BII)I"⟩ : MethodName) prog_7_method_3_code 7 (some .int) :: ws) ({ frames := 0, cells := 0, slots := 0, locals := 0 } : Room)) (fun a U => a = #[(.ref a1), (.int x1), (.int x2)] ∧ Z.Warmed39 U.vm ∧ U.heap = hE) (fun _ _ _ _ _ => True) (fun _ U o U' => ∃ v L, o = .returned v ∧ (P4 Z hE a1 q_a1 n0 r v U'.heap L) ∧ FrameEnd U o U' L ({ frames := 0, cells := 0, slots := 0, locals := 0 } : Room).cells ({ frames := 0, cells := 0, slots := 0, locals := 0 } : Room).slots) := by
  refine MetFree.of_bodySF (plainFor_of_name pn_4) hisR ?_
  intro p e s m args below meth c s₁ Bd hml0 hP hK
  obtain ⟨rfl, hZ, hh⟩ := hP
  have X0 : Stand p l e ({ frames := 0, cells := 0, slots := 0, locals := 0 } : Room) s m #[(.ref a1), (.int x1), (.int x2)] below meth c s₁ [] 0 0 := Stand.of_body Bd
  have e0 : s₁.heap = hE := by rw [← hh, Bd.state]; rfl
  have C : Ctx p s m meth c Z a0 "com/example/notewright/notewright/Decimals" prog_7_method_3_code 7 (some .int) "scale" := ⟨Bd.exec, hZ, hw, Bd.bytes, hml0, findClass_of_methodNamed Bd.named, Bd.returns, BodyLoose.notSynchronized Bd, (name_of_methodNamed Bd.named Bd.method).1⟩
  refine Runs.via (fun t k => castTop (ef_4 m x1 x2 a1) k) (b4_0 C fuel X0 e0 (Fr.nil n0) (by show 0 ≤ 0; omega) (by show 0 ≤ 0; omega) Z0 (by omega) x1 x2 A_a1_0 hr)
theorem pd_3 : parseMethodDescriptor "([BII)I" = some ⟨[(.array .byte), .int, .int], some .int⟩ := by decide +kernel
def P0 (n0 : Nat) (r : Int32) (v : Option Value) (h : Heap) (L : List Loc) : Prop := v = some (.int r) ∧ Fr n0 L
def g0_385 (fuel : Nat) (x5 : Int32) (x6 : Int32) (x16 : Int32) (q_n0_0 : List Int32) : Option (Int32) := ((f4 fuel x5 x6 q_n0_0).bind fun r1 => (if r1 = x16 then some (1 : Int32) else some (0 : Int32)))
set_option maxRecDepth 65536 in
set_option maxHeartbeats 4000000 in
theorem b0_385 {r : Int32} (C : Ctx p s m meth c Z a0 "com/example/notewright/notewright/DecimalsScalePinLaw" code 17 (some .boolean) "law") (fuel : Nat) (X0 : Stand p l e room_1 s m args below meth c T0 locs cells slots) (e0 : T0.heap = h0) (N0 : Fr n0 locs) (hk : cells ≤ 1) (hn : slots ≤ 6) (Z1 : n0 ≤ h0.size) (n0_0 : Addr) (o0 : n0 ≤ n0_0) (q_n0_0 : List Int32) (x0 : Int32) (x1 : Int32) (x2 : Int32) (x3 : Int32) (x5 : Int32) (x6 : Int32) (x7 : Int32) (x8 : Int32) (x9 : Int32) (x10 : Int32) (x11 : Int32) (x12 : Int32) (x13 : Int32) (x14 : Int32) (x15 : Int32) (x16 : Int32) (A_n0_0_0 : AI Z h0 n0_0 .byte q_n0_0) (hr : g0_385 fuel x5 x6 x16 q_n0_0 = some r) :
    Runs p e below s (P0 n0 r) 1 6 T0 (mkF m 385 #[.val (.int x0), .val (.int x1), .val (.int x2), .val (.int x3), .val (.ref n0_0), .val (.int x5), .val (.int x6), .val (.int x7), .val (.int x8), .val (.int x9), .val (.int x10), .val (.int x11), .val (.int x12), .val (.int x13), .val (.int x14), .val (.int x15), .val (.int x16)] []) := by
  unfold g0_385 at hr
  have ⟨hx, hZ, hw, hby, hml, hown, hret, hlk, hnm⟩ := C
  refine Runs.via (T' := T0) (g' := (mkF m 391 #[.val (.int x0), .val (.int x1), .val (.int x2), .val (.int x3), .val (.ref n0_0), .val (.int x5), .val (.int x6), .val (.int x7), .val (.int x8), .val (.int x9), .val (.int x10), .val (.int x11), .val (.int x12), .val (.int x13), .val (.int x14), .val (.int x15), .val (.int x16)] [(.int x6), (.int x5), (.ref n0_0)])) (fun t k => ?_) ?_
  · show Steps p.tables e below (T0.setTop (mkF m 385 #[.val (.int x0), .val (.int x1), .val (.int x2), .val (.int x3), .val (.ref n0_0), .val (.int x5), .val (.int x6), .val (.int x7), .val (.int x8), .val (.int x9), .val (.int x10), .val (.int x11), .val (.int x12), .val (.int x13), .val (.int x14), .val (.int x15), .val (.int x16)] [])) t
    refine XS.aload X0.here hx rfl (hb hby at_385) rfl rfl ?_
    show Steps p.tables e below (T0.setTop (mkF m 387 #[.val (.int x0), .val (.int x1), .val (.int x2), .val (.int x3), .val (.ref n0_0), .val (.int x5), .val (.int x6), .val (.int x7), .val (.int x8), .val (.int x9), .val (.int x10), .val (.int x11), .val (.int x12), .val (.int x13), .val (.int x14), .val (.int x15), .val (.int x16)] [(.ref n0_0)])) t
    refine XS.iload X0.here hx rfl (hb hby at_387) rfl ?_
    show Steps p.tables e below (T0.setTop (mkF m 389 #[.val (.int x0), .val (.int x1), .val (.int x2), .val (.int x3), .val (.ref n0_0), .val (.int x5), .val (.int x6), .val (.int x7), .val (.int x8), .val (.int x9), .val (.int x10), .val (.int x11), .val (.int x12), .val (.int x13), .val (.int x14), .val (.int x15), .val (.int x16)] [(.int x5), (.ref n0_0)])) t
    refine XS.iload X0.here hx rfl (hb hby at_389) rfl ?_
    exact k
  refine bindE hr ?_; intro r1 hr1m hr
  obtain ⟨_, _, ⟨T1, L1, k1, n1⟩, -, X1, ⟨Lc1, hQ1, l1, y1, z1⟩, st1⟩ := Jvm.LawKit.callS X0 hx (y := (⟨"com/example/notewright/notewright/Decimals", "scale", "([BII)I"⟩ : MethodName)) hown (mvT hZ (hw _ (List.mem_of_getElem? (i := 12) rfl))) (mvT hZ (hw _ (List.mem_of_getElem? (i := 13) rfl))) (mvT hZ (hw _ (List.mem_of_getElem? (i := 14) rfl))) (mvT hZ (hw _ (List.mem_of_getElem? (i := 15) rfl))) (by decide) (backOf (W := 0) (rm4 l Z a0 hw [] x5 x6 n0_0 q_n0_0 h0 n0 Z1 (by omega) A_n0_0_0 fuel r1 hr1m) hZ (hw _ (List.mem_of_getElem? (i := 15) rfl)) (hw _ (List.mem_of_getElem? (i := 14) rfl)) (by decide) (by decide)) (g := (mkF m 391 #[.val (.int x0), .val (.int x1), .val (.int x2), .val (.int x3), .val (.ref n0_0), .val (.int x5), .val (.int x6), .val (.int x7), .val (.int x8), .val (.int x9), .val (.int x10), .val (.int x11), .val (.int x12), .val (.int x13), .val (.int x14), .val (.int x15), .val (.int x16)] [(.int x6), (.int x5), (.ref n0_0)])) rfl (by rw [hml]; rfl) (argsL := [(.ref n0_0), (.int x5), (.int x6)]) (rest := []) (lenOf pd_3 rfl) rfl (by show 2 * 0 + _ ≤ _; exact Nat.le_of_eq rfl) (hb hby at_391) (fun _ _ => ⟨rfl, e0, (by show cells + 0 ≤ 16; omega), (by show slots + 0 ≤ 128; omega)⟩)
  dsimp only [Pt.U, Pt.locs, Pt.cells, Pt.slots] at X1 l1 y1 z1 st1 hQ1
  replace y1 := y1.symm; replace z1 := z1.symm; subst l1 y1 z1
  obtain ⟨rfl, N1q, e1⟩ := hQ1
  have N1 := Fr.app N0 N1q
  refine Runs.via (T' := T1) (g' := (mkF m 394 #[.val (.int x0), .val (.int x1), .val (.int x2), .val (.int x3), .val (.ref n0_0), .val (.int x5), .val (.int x6), .val (.int x7), .val (.int x8), .val (.int x9), .val (.int x10), .val (.int x11), .val (.int x12), .val (.int x13), .val (.int x14), .val (.int x15), .val (.int x16)] [(.int r1)])) (fun t k => st1 _ k) ?_
  refine Runs.via (T' := T1) (g' := (mkF m 396 #[.val (.int x0), .val (.int x1), .val (.int x2), .val (.int x3), .val (.ref n0_0), .val (.int x5), .val (.int x6), .val (.int x7), .val (.int x8), .val (.int x9), .val (.int x10), .val (.int x11), .val (.int x12), .val (.int x13), .val (.int x14), .val (.int x15), .val (.int x16)] [(.int x16), (.int r1)])) (fun t k => ?_) ?_
  · show Steps p.tables e below (T1.setTop (mkF m 394 #[.val (.int x0), .val (.int x1), .val (.int x2), .val (.int x3), .val (.ref n0_0), .val (.int x5), .val (.int x6), .val (.int x7), .val (.int x8), .val (.int x9), .val (.int x10), .val (.int x11), .val (.int x12), .val (.int x13), .val (.int x14), .val (.int x15), .val (.int x16)] [(.int r1)])) t
    refine XS.iload X1.here hx rfl (hb hby at_394) rfl ?_
    exact k
  refine iteE hr (fun hc2 hr => ?_) (fun hc2 hr => ?_)
  · refine Runs.via (T' := T1) (g' := (mkF m 399 #[.val (.int x0), .val (.int x1), .val (.int x2), .val (.int x3), .val (.ref n0_0), .val (.int x5), .val (.int x6), .val (.int x7), .val (.int x8), .val (.int x9), .val (.int x10), .val (.int x11), .val (.int x12), .val (.int x13), .val (.int x14), .val (.int x15), .val (.int x16)] [])) (fun t k => ?_) ?_
    · show Steps p.tables e below (T1.setTop (mkF m 396 #[.val (.int x0), .val (.int x1), .val (.int x2), .val (.int x3), .val (.ref n0_0), .val (.int x5), .val (.int x6), .val (.int x7), .val (.int x8), .val (.int x9), .val (.int x10), .val (.int x11), .val (.int x12), .val (.int x13), .val (.int x14), .val (.int x15), .val (.int x16)] [(.int x16), (.int r1)])) t
      exact XS.icmpNo X1.here hx rfl (hb hby at_396) rfl (teq hc2).2 k
    refine Runs.via (T' := T1) (g' := (mkF m 404 #[.val (.int x0), .val (.int x1), .val (.int x2), .val (.int x3), .val (.ref n0_0), .val (.int x5), .val (.int x6), .val (.int x7), .val (.int x8), .val (.int x9), .val (.int x10), .val (.int x11), .val (.int x12), .val (.int x13), .val (.int x14), .val (.int x15), .val (.int x16)] [(.int (1 : Int32))])) (fun t k => ?_) ?_
    · show Steps p.tables e below (T1.setTop (mkF m 399 #[.val (.int x0), .val (.int x1), .val (.int x2), .val (.int x3), .val (.ref n0_0), .val (.int x5), .val (.int x6), .val (.int x7), .val (.int x8), .val (.int x9), .val (.int x10), .val (.int x11), .val (.int x12), .val (.int x13), .val (.int x14), .val (.int x15), .val (.int x16)] [])) t
      refine XS.iconst X1.here hx rfl (hb hby at_399) ?_
      show Steps p.tables e below (T1.setTop (mkF m 400 #[.val (.int x0), .val (.int x1), .val (.int x2), .val (.int x3), .val (.ref n0_0), .val (.int x5), .val (.int x6), .val (.int x7), .val (.int x8), .val (.int x9), .val (.int x10), .val (.int x11), .val (.int x12), .val (.int x13), .val (.int x14), .val (.int x15), .val (.int x16)] [(.int (1 : Int32))])) t
      refine XS.goto X1.here hx rfl (pc0 := 400) (pc' := 404) rfl (hb hby at_400) (by decide) (by decide) ?_
      exact k
    obtain rfl := Option.some.inj hr
    exact own_retN X1 hx hlk (t := .boolean) hret (by simp) (hb hby at_404) (by show (cells + 0) ≤ 1; omega) (by show (slots + 0) ≤ 6; omega) ⟨rfl, N1⟩
  · refine Runs.via (T' := T1) (g' := (mkF m 403 #[.val (.int x0), .val (.int x1), .val (.int x2), .val (.int x3), .val (.ref n0_0), .val (.int x5), .val (.int x6), .val (.int x7), .val (.int x8), .val (.int x9), .val (.int x10), .val (.int x11), .val (.int x12), .val (.int x13), .val (.int x14), .val (.int x15), .val (.int x16)] [])) (fun t k => ?_) ?_
    · show Steps p.tables e below (T1.setTop (mkF m 396 #[.val (.int x0), .val (.int x1), .val (.int x2), .val (.int x3), .val (.ref n0_0), .val (.int x5), .val (.int x6), .val (.int x7), .val (.int x8), .val (.int x9), .val (.int x10), .val (.int x11), .val (.int x12), .val (.int x13), .val (.int x14), .val (.int x15), .val (.int x16)] [(.int x16), (.int r1)])) t
      exact XS.icmpYes X1.here hx rfl (pc0 := 396) (pc' := 403) rfl (hb hby at_396) rfl (feq hc2).2 (by decide) (by decide) k
    refine Runs.via (T' := T1) (g' := (mkF m 404 #[.val (.int x0), .val (.int x1), .val (.int x2), .val (.int x3), .val (.ref n0_0), .val (.int x5), .val (.int x6), .val (.int x7), .val (.int x8), .val (.int x9), .val (.int x10), .val (.int x11), .val (.int x12), .val (.int x13), .val (.int x14), .val (.int x15), .val (.int x16)] [(.int (0 : Int32))])) (fun t k => ?_) ?_
    · show Steps p.tables e below (T1.setTop (mkF m 403 #[.val (.int x0), .val (.int x1), .val (.int x2), .val (.int x3), .val (.ref n0_0), .val (.int x5), .val (.int x6), .val (.int x7), .val (.int x8), .val (.int x9), .val (.int x10), .val (.int x11), .val (.int x12), .val (.int x13), .val (.int x14), .val (.int x15), .val (.int x16)] [])) t
      refine XS.iconst X1.here hx rfl (hb hby at_403) ?_
      exact k
    obtain rfl := Option.some.inj hr
    exact own_retN X1 hx hlk (t := .boolean) hret (by simp) (hb hby at_404) (by show (cells + 0) ≤ 1; omega) (by show (slots + 0) ≤ 6; omega) ⟨rfl, N1⟩
def g0_364 (fuel : Nat) (x5 : Int32) (x6 : Int32) (x13 : Int32) (x14 : Int32) (q_n0_0 : List Int32) : Option (Int32) := (if x13 = (1 : Int32) then (letO ((x6 - (1 : Int32)) - x14) fun v2 => (g0_385 fuel x5 x6 v2 q_n0_0)) else (g0_385 fuel x5 x6 (0 : Int32) q_n0_0))
set_option maxRecDepth 65536 in
set_option maxHeartbeats 4000000 in
theorem b0_364 {r : Int32} (C : Ctx p s m meth c Z a0 "com/example/notewright/notewright/DecimalsScalePinLaw" code 17 (some .boolean) "law") (fuel : Nat) (X0 : Stand p l e room_1 s m args below meth c T0 locs cells slots) (e0 : T0.heap = h0) (N0 : Fr n0 locs) (hk : cells ≤ 1) (hn : slots ≤ 6) (Z1 : n0 ≤ h0.size) (n0_0 : Addr) (o0 : n0 ≤ n0_0) (q_n0_0 : List Int32) (x0 : Int32) (x1 : Int32) (x2 : Int32) (x3 : Int32) (x5 : Int32) (x6 : Int32) (x7 : Int32) (x8 : Int32) (x9 : Int32) (x10 : Int32) (x11 : Int32) (x12 : Int32) (x13 : Int32) (x14 : Int32) (x15 : Int32) (A_n0_0_0 : AI Z h0 n0_0 .byte q_n0_0) (hr : g0_364 fuel x5 x6 x13 x14 q_n0_0 = some r) :
    Runs p e below s (P0 n0 r) 1 6 T0 (mkF m 364 #[.val (.int x0), .val (.int x1), .val (.int x2), .val (.int x3), .val (.ref n0_0), .val (.int x5), .val (.int x6), .val (.int x7), .val (.int x8), .val (.int x9), .val (.int x10), .val (.int x11), .val (.int x12), .val (.int x13), .val (.int x14), .val (.int x15), .unset] []) := by
  unfold g0_364 at hr
  have ⟨hx, hZ, hw, hby, hml, hown, hret, hlk, hnm⟩ := C
  refine Runs.via (T' := T0) (g' := (mkF m 367 #[.val (.int x0), .val (.int x1), .val (.int x2), .val (.int x3), .val (.ref n0_0), .val (.int x5), .val (.int x6), .val (.int x7), .val (.int x8), .val (.int x9), .val (.int x10), .val (.int x11), .val (.int x12), .val (.int x13), .val (.int x14), .val (.int x15), .unset] [(.int (1 : Int32)), (.int x13)])) (fun t k => ?_) ?_
  · show Steps p.tables e below (T0.setTop (mkF m 364 #[.val (.int x0), .val (.int x1), .val (.int x2), .val (.int x3), .val (.ref n0_0), .val (.int x5), .val (.int x6), .val (.int x7), .val (.int x8), .val (.int x9), .val (.int x10), .val (.int x11), .val (.int x12), .val (.int x13), .val (.int x14), .val (.int x15), .unset] [])) t
    refine XS.iload X0.here hx rfl (hb hby at_364) rfl ?_
    show Steps p.tables e below (T0.setTop (mkF m 366 #[.val (.int x0), .val (.int x1), .val (.int x2), .val (.int x3), .val (.ref n0_0), .val (.int x5), .val (.int x6), .val (.int x7), .val (.int x8), .val (.int x9), .val (.int x10), .val (.int x11), .val (.int x12), .val (.int x13), .val (.int x14), .val (.int x15), .unset] [(.int x13)])) t
    refine XS.iconst X0.here hx rfl (hb hby at_366) ?_
    exact k
  refine iteE hr (fun hc1 hr => ?_) (fun hc1 hr => ?_)
  · refine Runs.via (T' := T0) (g' := (mkF m 370 #[.val (.int x0), .val (.int x1), .val (.int x2), .val (.int x3), .val (.ref n0_0), .val (.int x5), .val (.int x6), .val (.int x7), .val (.int x8), .val (.int x9), .val (.int x10), .val (.int x11), .val (.int x12), .val (.int x13), .val (.int x14), .val (.int x15), .unset] [])) (fun t k => ?_) ?_
    · show Steps p.tables e below (T0.setTop (mkF m 367 #[.val (.int x0), .val (.int x1), .val (.int x2), .val (.int x3), .val (.ref n0_0), .val (.int x5), .val (.int x6), .val (.int x7), .val (.int x8), .val (.int x9), .val (.int x10), .val (.int x11), .val (.int x12), .val (.int x13), .val (.int x14), .val (.int x15), .unset] [(.int (1 : Int32)), (.int x13)])) t
      exact XS.icmpNo X0.here hx rfl (hb hby at_367) rfl (teq hc1).2 k
    refine Runs.via (T' := T0) (g' := (mkF m 377 #[.val (.int x0), .val (.int x1), .val (.int x2), .val (.int x3), .val (.ref n0_0), .val (.int x5), .val (.int x6), .val (.int x7), .val (.int x8), .val (.int x9), .val (.int x10), .val (.int x11), .val (.int x12), .val (.int x13), .val (.int x14), .val (.int x15), .unset] [(.int ((x6 - (1 : Int32)) - x14))])) (fun t k => ?_) ?_
    · show Steps p.tables e below (T0.setTop (mkF m 370 #[.val (.int x0), .val (.int x1), .val (.int x2), .val (.int x3), .val (.ref n0_0), .val (.int x5), .val (.int x6), .val (.int x7), .val (.int x8), .val (.int x9), .val (.int x10), .val (.int x11), .val (.int x12), .val (.int x13), .val (.int x14), .val (.int x15), .unset] [])) t
      refine XS.iload X0.here hx rfl (hb hby at_370) rfl ?_
      show Steps p.tables e below (T0.setTop (mkF m 372 #[.val (.int x0), .val (.int x1), .val (.int x2), .val (.int x3), .val (.ref n0_0), .val (.int x5), .val (.int x6), .val (.int x7), .val (.int x8), .val (.int x9), .val (.int x10), .val (.int x11), .val (.int x12), .val (.int x13), .val (.int x14), .val (.int x15), .unset] [(.int x6)])) t
      refine XS.iconst X0.here hx rfl (hb hby at_372) ?_
      show Steps p.tables e below (T0.setTop (mkF m 373 #[.val (.int x0), .val (.int x1), .val (.int x2), .val (.int x3), .val (.ref n0_0), .val (.int x5), .val (.int x6), .val (.int x7), .val (.int x8), .val (.int x9), .val (.int x10), .val (.int x11), .val (.int x12), .val (.int x13), .val (.int x14), .val (.int x15), .unset] [(.int (1 : Int32)), (.int x6)])) t
      refine XS.isub X0.here hx rfl (hb hby at_373) rfl ?_
      show Steps p.tables e below (T0.setTop (mkF m 374 #[.val (.int x0), .val (.int x1), .val (.int x2), .val (.int x3), .val (.ref n0_0), .val (.int x5), .val (.int x6), .val (.int x7), .val (.int x8), .val (.int x9), .val (.int x10), .val (.int x11), .val (.int x12), .val (.int x13), .val (.int x14), .val (.int x15), .unset] [(.int (x6 - (1 : Int32)))])) t
      refine XS.iload X0.here hx rfl (hb hby at_374) rfl ?_
      show Steps p.tables e below (T0.setTop (mkF m 376 #[.val (.int x0), .val (.int x1), .val (.int x2), .val (.int x3), .val (.ref n0_0), .val (.int x5), .val (.int x6), .val (.int x7), .val (.int x8), .val (.int x9), .val (.int x10), .val (.int x11), .val (.int x12), .val (.int x13), .val (.int x14), .val (.int x15), .unset] [(.int x14), (.int (x6 - (1 : Int32)))])) t
      refine XS.isub X0.here hx rfl (hb hby at_376) rfl ?_
      exact k
    refine letE hr ?_; intro v2 hv2 hr
    rw [← hv2]
    refine Runs.via (T' := T0) (g' := (mkF m 385 #[.val (.int x0), .val (.int x1), .val (.int x2), .val (.int x3), .val (.ref n0_0), .val (.int x5), .val (.int x6), .val (.int x7), .val (.int x8), .val (.int x9), .val (.int x10), .val (.int x11), .val (.int x12), .val (.int x13), .val (.int x14), .val (.int x15), .val (.int v2)] [])) (fun t k => ?_) ?_
    · show Steps p.tables e below (T0.setTop (mkF m 377 #[.val (.int x0), .val (.int x1), .val (.int x2), .val (.int x3), .val (.ref n0_0), .val (.int x5), .val (.int x6), .val (.int x7), .val (.int x8), .val (.int x9), .val (.int x10), .val (.int x11), .val (.int x12), .val (.int x13), .val (.int x14), .val (.int x15), .unset] [(.int v2)])) t
      refine XS.istore X0.here hx rfl (hb hby at_377) rfl (l' := #[.val (.int x0), .val (.int x1), .val (.int x2), .val (.int x3), .val (.ref n0_0), .val (.int x5), .val (.int x6), .val (.int x7), .val (.int x8), .val (.int x9), .val (.int x10), .val (.int x11), .val (.int x12), .val (.int x13), .val (.int x14), .val (.int x15), .val (.int v2)]) rfl ?_
      show Steps p.tables e below (T0.setTop (mkF m 379 #[.val (.int x0), .val (.int x1), .val (.int x2), .val (.int x3), .val (.ref n0_0), .val (.int x5), .val (.int x6), .val (.int x7), .val (.int x8), .val (.int x9), .val (.int x10), .val (.int x11), .val (.int x12), .val (.int x13), .val (.int x14), .val (.int x15), .val (.int v2)] [])) t
      refine XS.goto X0.here hx rfl (pc0 := 379) (pc' := 385) rfl (hb hby at_379) (by decide) (by decide) ?_
      exact k
    exact b0_385 C fuel X0 e0 N0 (by show cells ≤ 1; omega) (by show slots ≤ 6; omega) Z1 n0_0 (by omega) q_n0_0 x0 x1 x2 x3 x5 x6 x7 x8 x9 x10 x11 x12 x13 x14 x15 v2 A_n0_0_0 hr
  · refine Runs.via (T' := T0) (g' := (mkF m 382 #[.val (.int x0), .val (.int x1), .val (.int x2), .val (.int x3), .val (.ref n0_0), .val (.int x5), .val (.int x6), .val (.int x7), .val (.int x8), .val (.int x9), .val (.int x10), .val (.int x11), .val (.int x12), .val (.int x13), .val (.int x14), .val (.int x15), .unset] [])) (fun t k => ?_) ?_
    · show Steps p.tables e below (T0.setTop (mkF m 367 #[.val (.int x0), .val (.int x1), .val (.int x2), .val (.int x3), .val (.ref n0_0), .val (.int x5), .val (.int x6), .val (.int x7), .val (.int x8), .val (.int x9), .val (.int x10), .val (.int x11), .val (.int x12), .val (.int x13), .val (.int x14), .val (.int x15), .unset] [(.int (1 : Int32)), (.int x13)])) t
      exact XS.icmpYes X0.here hx rfl (pc0 := 367) (pc' := 382) rfl (hb hby at_367) rfl (feq hc1).2 (by decide) (by decide) k
    refine Runs.via (T' := T0) (g' := (mkF m 385 #[.val (.int x0), .val (.int x1), .val (.int x2), .val (.int x3), .val (.ref n0_0), .val (.int x5), .val (.int x6), .val (.int x7), .val (.int x8), .val (.int x9), .val (.int x10), .val (.int x11), .val (.int x12), .val (.int x13), .val (.int x14), .val (.int x15), .val (.int (0 : Int32))] [])) (fun t k => ?_) ?_
    · show Steps p.tables e below (T0.setTop (mkF m 382 #[.val (.int x0), .val (.int x1), .val (.int x2), .val (.int x3), .val (.ref n0_0), .val (.int x5), .val (.int x6), .val (.int x7), .val (.int x8), .val (.int x9), .val (.int x10), .val (.int x11), .val (.int x12), .val (.int x13), .val (.int x14), .val (.int x15), .unset] [])) t
      refine XS.iconst X0.here hx rfl (hb hby at_382) ?_
      show Steps p.tables e below (T0.setTop (mkF m 383 #[.val (.int x0), .val (.int x1), .val (.int x2), .val (.int x3), .val (.ref n0_0), .val (.int x5), .val (.int x6), .val (.int x7), .val (.int x8), .val (.int x9), .val (.int x10), .val (.int x11), .val (.int x12), .val (.int x13), .val (.int x14), .val (.int x15), .unset] [(.int (0 : Int32))])) t
      refine XS.istore X0.here hx rfl (hb hby at_383) rfl (l' := #[.val (.int x0), .val (.int x1), .val (.int x2), .val (.int x3), .val (.ref n0_0), .val (.int x5), .val (.int x6), .val (.int x7), .val (.int x8), .val (.int x9), .val (.int x10), .val (.int x11), .val (.int x12), .val (.int x13), .val (.int x14), .val (.int x15), .val (.int (0 : Int32))]) rfl ?_
      exact k
    exact b0_385 C fuel X0 e0 N0 (by show cells ≤ 1; omega) (by show slots ≤ 6; omega) Z1 n0_0 (by omega) q_n0_0 x0 x1 x2 x3 x5 x6 x7 x8 x9 x10 x11 x12 x13 x14 x15 (0 : Int32) A_n0_0_0 hr
def g0_358 (fuel : Nat) (x5 : Int32) (x6 : Int32) (q_n0_0 : List Int32) : Option (Int32) := (g0_385 fuel x5 x6 (-1 : Int32) q_n0_0)
set_option maxRecDepth 65536 in
set_option maxHeartbeats 4000000 in
theorem b0_358 {r : Int32} (C : Ctx p s m meth c Z a0 "com/example/notewright/notewright/DecimalsScalePinLaw" code 17 (some .boolean) "law") (fuel : Nat) (X0 : Stand p l e room_1 s m args below meth c T0 locs cells slots) (e0 : T0.heap = h0) (N0 : Fr n0 locs) (hk : cells ≤ 1) (hn : slots ≤ 6) (Z1 : n0 ≤ h0.size) (n0_0 : Addr) (o0 : n0 ≤ n0_0) (q_n0_0 : List Int32) (x0 : Int32) (x1 : Int32) (x2 : Int32) (x3 : Int32) (x5 : Int32) (x6 : Int32) (x7 : Int32) (x8 : Int32) (x9 : Int32) (x10 : Int32) (x11 : Int32) (x12 : Int32) (x13 : Int32) (x14 : Int32) (x15 : Int32) (A_n0_0_0 : AI Z h0 n0_0 .byte q_n0_0) (hr : g0_358 fuel x5 x6 q_n0_0 = some r) :
    Runs p e below s (P0 n0 r) 1 6 T0 (mkF m 358 #[.val (.int x0), .val (.int x1), .val (.int x2), .val (.int x3), .val (.ref n0_0), .val (.int x5), .val (.int x6), .val (.int x7), .val (.int x8), .val (.int x9), .val (.int x10), .val (.int x11), .val (.int x12), .val (.int x13), .val (.int x14), .val (.int x15), .unset] []) := by
  unfold g0_358 at hr
  have ⟨hx, hZ, hw, hby, hml, hown, hret, hlk, hnm⟩ := C
  refine Runs.via (T' := T0) (g' := (mkF m 385 #[.val (.int x0), .val (.int x1), .val (.int x2), .val (.int x3), .val (.ref n0_0), .val (.int x5), .val (.int x6), .val (.int x7), .val (.int x8), .val (.int x9), .val (.int x10), .val (.int x11), .val (.int x12), .val (.int x13), .val (.int x14), .val (.int x15), .val (.int (-1 : Int32))] [])) (fun t k => ?_) ?_
  · show Steps p.tables e below (T0.setTop (mkF m 358 #[.val (.int x0), .val (.int x1), .val (.int x2), .val (.int x3), .val (.ref n0_0), .val (.int x5), .val (.int x6), .val (.int x7), .val (.int x8), .val (.int x9), .val (.int x10), .val (.int x11), .val (.int x12), .val (.int x13), .val (.int x14), .val (.int x15), .unset] [])) t
    refine XS.iconst X0.here hx rfl (hb hby at_358) ?_
    show Steps p.tables e below (T0.setTop (mkF m 359 #[.val (.int x0), .val (.int x1), .val (.int x2), .val (.int x3), .val (.ref n0_0), .val (.int x5), .val (.int x6), .val (.int x7), .val (.int x8), .val (.int x9), .val (.int x10), .val (.int x11), .val (.int x12), .val (.int x13), .val (.int x14), .val (.int x15), .unset] [(.int (-1 : Int32))])) t
    refine XS.istore X0.here hx rfl (hb hby at_359) rfl (l' := #[.val (.int x0), .val (.int x1), .val (.int x2), .val (.int x3), .val (.ref n0_0), .val (.int x5), .val (.int x6), .val (.int x7), .val (.int x8), .val (.int x9), .val (.int x10), .val (.int x11), .val (.int x12), .val (.int x13), .val (.int x14), .val (.int x15), .val (.int (-1 : Int32))]) rfl ?_
    show Steps p.tables e below (T0.setTop (mkF m 361 #[.val (.int x0), .val (.int x1), .val (.int x2), .val (.int x3), .val (.ref n0_0), .val (.int x5), .val (.int x6), .val (.int x7), .val (.int x8), .val (.int x9), .val (.int x10), .val (.int x11), .val (.int x12), .val (.int x13), .val (.int x14), .val (.int x15), .val (.int (-1 : Int32))] [])) t
    refine XS.goto X0.here hx rfl (pc0 := 361) (pc' := 385) rfl (hb hby at_361) (by decide) (by decide) ?_
    exact k
  exact b0_385 C fuel X0 e0 N0 (by show cells ≤ 1; omega) (by show slots ≤ 6; omega) Z1 n0_0 (by omega) q_n0_0 x0 x1 x2 x3 x5 x6 x7 x8 x9 x10 x11 x12 x13 x14 x15 (-1 : Int32) A_n0_0_0 hr
def g0_324 (fuel : Nat) (x5 : Int32) (x6 : Int32) (q_n0_0 : List Int32) : Option (Int32) := (g0_385 fuel x5 x6 (-1 : Int32) q_n0_0)
set_option maxRecDepth 65536 in
set_option maxHeartbeats 4000000 in
theorem b0_324 {r : Int32} (C : Ctx p s m meth c Z a0 "com/example/notewright/notewright/DecimalsScalePinLaw" code 17 (some .boolean) "law") (fuel : Nat) (X0 : Stand p l e room_1 s m args below meth c T0 locs cells slots) (e0 : T0.heap = h0) (N0 : Fr n0 locs) (hk : cells ≤ 1) (hn : slots ≤ 6) (Z1 : n0 ≤ h0.size) (n0_0 : Addr) (o0 : n0 ≤ n0_0) (q_n0_0 : List Int32) (x0 : Int32) (x1 : Int32) (x2 : Int32) (x3 : Int32) (x5 : Int32) (x6 : Int32) (x7 : Int32) (x8 : Int32) (x9 : Int32) (x10 : Int32) (x11 : Int32) (x12 : Int32) (x13 : Int32) (x14 : Int32) (x15 : Int32) (A_n0_0_0 : AI Z h0 n0_0 .byte q_n0_0) (hr : g0_324 fuel x5 x6 q_n0_0 = some r) :
    Runs p e below s (P0 n0 r) 1 6 T0 (mkF m 324 #[.val (.int x0), .val (.int x1), .val (.int x2), .val (.int x3), .val (.ref n0_0), .val (.int x5), .val (.int x6), .val (.int x7), .val (.int x8), .val (.int x9), .val (.int x10), .val (.int x11), .val (.int x12), .val (.int x13), .val (.int x14), .val (.int x15), .unset] []) := by
  unfold g0_324 at hr
  have ⟨hx, hZ, hw, hby, hml, hown, hret, hlk, hnm⟩ := C
  refine Runs.via (T' := T0) (g' := (mkF m 385 #[.val (.int x0), .val (.int x1), .val (.int x2), .val (.int x3), .val (.ref n0_0), .val (.int x5), .val (.int x6), .val (.int x7), .val (.int x8), .val (.int x9), .val (.int x10), .val (.int x11), .val (.int x12), .val (.int x13), .val (.int x14), .val (.int x15), .val (.int (-1 : Int32))] [])) (fun t k => ?_) ?_
  · show Steps p.tables e below (T0.setTop (mkF m 324 #[.val (.int x0), .val (.int x1), .val (.int x2), .val (.int x3), .val (.ref n0_0), .val (.int x5), .val (.int x6), .val (.int x7), .val (.int x8), .val (.int x9), .val (.int x10), .val (.int x11), .val (.int x12), .val (.int x13), .val (.int x14), .val (.int x15), .unset] [])) t
    refine XS.iconst X0.here hx rfl (hb hby at_324) ?_
    show Steps p.tables e below (T0.setTop (mkF m 325 #[.val (.int x0), .val (.int x1), .val (.int x2), .val (.int x3), .val (.ref n0_0), .val (.int x5), .val (.int x6), .val (.int x7), .val (.int x8), .val (.int x9), .val (.int x10), .val (.int x11), .val (.int x12), .val (.int x13), .val (.int x14), .val (.int x15), .unset] [(.int (-1 : Int32))])) t
    refine XS.istore X0.here hx rfl (hb hby at_325) rfl (l' := #[.val (.int x0), .val (.int x1), .val (.int x2), .val (.int x3), .val (.ref n0_0), .val (.int x5), .val (.int x6), .val (.int x7), .val (.int x8), .val (.int x9), .val (.int x10), .val (.int x11), .val (.int x12), .val (.int x13), .val (.int x14), .val (.int x15), .val (.int (-1 : Int32))]) rfl ?_
    show Steps p.tables e below (T0.setTop (mkF m 327 #[.val (.int x0), .val (.int x1), .val (.int x2), .val (.int x3), .val (.ref n0_0), .val (.int x5), .val (.int x6), .val (.int x7), .val (.int x8), .val (.int x9), .val (.int x10), .val (.int x11), .val (.int x12), .val (.int x13), .val (.int x14), .val (.int x15), .val (.int (-1 : Int32))] [])) t
    refine XS.goto X0.here hx rfl (pc0 := 327) (pc' := 385) rfl (hb hby at_327) (by decide) (by decide) ?_
    exact k
  exact b0_385 C fuel X0 e0 N0 (by show cells ≤ 1; omega) (by show slots ≤ 6; omega) Z1 n0_0 (by omega) q_n0_0 x0 x1 x2 x3 x5 x6 x7 x8 x9 x10 x11 x12 x13 x14 x15 (-1 : Int32) A_n0_0_0 hr
def g0_118 (fuel : Nat) (x5 : Int32) (x6 : Int32) (q_n0_0 : List Int32) : Option (Int32) := ((f2 (0 : Int32) x5 x6 q_n0_0).bind fun r1 => ((f2 (1 : Int32) x5 x6 q_n0_0).bind fun r2 => ((f2 (2 : Int32) x5 x6 q_n0_0).bind fun r3 => ((f2 (3 : Int32) x5 x6 q_n0_0).bind fun r4 => ((f2 (4 : Int32) x5 x6 q_n0_0).bind fun r5 => ((f2 (5 : Int32) x5 x6 q_n0_0).bind fun r6 => (letO (((((r1 + r2) + r3) + r4) + r5) + r6) fun v7 => (letO ((((r2 + ((2 : Int32) * r3)) + ((3 : Int32) * r4)) + ((4 : Int32) * r5)) + ((5 : Int32) * r6)) fun v8 => ((f3 (0 : Int32) x5 x6 q_n0_0).bind fun r9 => ((f3 (1 : Int32) x5 x6 q_n0_0).bind fun r10 => ((f3 (2 : Int32) x5 x6 q_n0_0).bind fun r11 => ((f3 (3 : Int32) x5 x6 q_n0_0).bind fun r12 => ((f3 (4 : Int32) x5 x6 q_n0_0).bind fun r13 => ((f3 (5 : Int32) x5 x6 q_n0_0).bind fun r14 => (letO (((((r9 + r10) + r11) + r12) + r13) + r14) fun v15 => (if x5 < x6 then (if (0 : Int32) < v15 then (g0_324 fuel x5 x6 q_n0_0) else (if (1 : Int32) < v7 then (g0_324 fuel x5 x6 q_n0_0) else (if v7 = (1 : Int32) then ((rdO q_n0_0 x5).bind fun v20 => (if v20 = (46 : Int32) then (g0_358 fuel x5 x6 q_n0_0) else ((rdO q_n0_0 (x6 - (1 : Int32))).bind fun v22 => (if v22 = (46 : Int32) then (g0_358 fuel x5 x6 q_n0_0) else (g0_364 fuel x5 x6 v7 v8 q_n0_0))))) else (g0_364 fuel x5 x6 v7 v8 q_n0_0)))) else (g0_385 fuel x5 x6 (-1 : Int32) q_n0_0)))))))))))))))))
set_option maxRecDepth 65536 in
set_option maxHeartbeats 4000000 in
theorem b0_118 {r : Int32} (C : Ctx p s m meth c Z a0 "com/example/notewright/notewright/DecimalsScalePinLaw" code 17 (some .boolean) "law") (fuel : Nat) (X0 : Stand p l e room_1 s m args below meth c T0 locs cells slots) (e0 : T0.heap = h0) (N0 : Fr n0 locs) (hk : cells ≤ 1) (hn : slots ≤ 6) (Z1 : n0 ≤ h0.size) (n0_0 : Addr) (o0 : n0 ≤ n0_0) (q_n0_0 : List Int32) (x0 : Int32) (x1 : Int32) (x2 : Int32) (x3 : Int32) (x5 : Int32) (x6 : Int32) (A_n0_0_0 : AI Z h0 n0_0 .byte q_n0_0) (hr : g0_118 fuel x5 x6 q_n0_0 = some r) :
    Runs p e below s (P0 n0 r) 1 6 T0 (mkF m 118 #[.val (.int x0), .val (.int x1), .val (.int x2), .val (.int x3), .val (.ref n0_0), .val (.int x5), .val (.int x6), .unset, .unset, .unset, .unset, .unset, .unset, .unset, .unset, .unset, .unset] []) := by
  unfold g0_118 at hr
  have ⟨hx, hZ, hw, hby, hml, hown, hret, hlk, hnm⟩ := C
  refine Runs.via (T' := T0) (g' := (mkF m 125 #[.val (.int x0), .val (.int x1), .val (.int x2), .val (.int x3), .val (.ref n0_0), .val (.int x5), .val (.int x6), .unset, .unset, .unset, .unset, .unset, .unset, .unset, .unset, .unset, .unset] [(.int x6), (.int x5), (.int (0 : Int32)), (.ref n0_0)])) (fun t k => ?_) ?_
  · show Steps p.tables e below (T0.setTop (mkF m 118 #[.val (.int x0), .val (.int x1), .val (.int x2), .val (.int x3), .val (.ref n0_0), .val (.int x5), .val (.int x6), .unset, .unset, .unset, .unset, .unset, .unset, .unset, .unset, .unset, .unset] [])) t
    refine XS.aload X0.here hx rfl (hb hby at_118) rfl rfl ?_
    show Steps p.tables e below (T0.setTop (mkF m 120 #[.val (.int x0), .val (.int x1), .val (.int x2), .val (.int x3), .val (.ref n0_0), .val (.int x5), .val (.int x6), .unset, .unset, .unset, .unset, .unset, .unset, .unset, .unset, .unset, .unset] [(.ref n0_0)])) t
    refine XS.iconst X0.here hx rfl (hb hby at_120) ?_
    show Steps p.tables e below (T0.setTop (mkF m 121 #[.val (.int x0), .val (.int x1), .val (.int x2), .val (.int x3), .val (.ref n0_0), .val (.int x5), .val (.int x6), .unset, .unset, .unset, .unset, .unset, .unset, .unset, .unset, .unset, .unset] [(.int (0 : Int32)), (.ref n0_0)])) t
    refine XS.iload X0.here hx rfl (hb hby at_121) rfl ?_
    show Steps p.tables e below (T0.setTop (mkF m 123 #[.val (.int x0), .val (.int x1), .val (.int x2), .val (.int x3), .val (.ref n0_0), .val (.int x5), .val (.int x6), .unset, .unset, .unset, .unset, .unset, .unset, .unset, .unset, .unset, .unset] [(.int x5), (.int (0 : Int32)), (.ref n0_0)])) t
    refine XS.iload X0.here hx rfl (hb hby at_123) rfl ?_
    exact k
  refine bindE hr ?_; intro r1 hr1m hr
  obtain ⟨_, _, ⟨T1, L1, k1, n1⟩, -, X1, ⟨Lc1, hQ1, l1, y1, z1⟩, st1⟩ := Jvm.LawKit.callS X0 hx (y := (⟨"com/example/notewright/notewright/DecimalsScalePinLaw", "dotAt", "([BIII)I"⟩ : MethodName)) hown (mvT hZ (hw _ (List.mem_of_getElem? (i := 6) rfl))) (mvT hZ (hw _ (List.mem_of_getElem? (i := 7) rfl))) (mvT hZ (hw _ (List.mem_of_getElem? (i := 3) rfl))) (mvT hZ (hw _ (List.mem_of_getElem? (i := 8) rfl))) (by decide) (backOf (W := 0) (rm2 l Z a0 hw [] (0 : Int32) x5 x6 n0_0 q_n0_0 h0 n0 Z1 (by omega) A_n0_0_0 r1 hr1m) hZ (hw _ (List.mem_of_getElem? (i := 8) rfl)) (hw _ (List.mem_of_getElem? (i := 3) rfl)) (by decide) (by decide)) (g := (mkF m 125 #[.val (.int x0), .val (.int x1), .val (.int x2), .val (.int x3), .val (.ref n0_0), .val (.int x5), .val (.int x6), .unset, .unset, .unset, .unset, .unset, .unset, .unset, .unset, .unset, .unset] [(.int x6), (.int x5), (.int (0 : Int32)), (.ref n0_0)])) rfl (by rw [hml]; rfl) (argsL := [(.ref n0_0), (.int (0 : Int32)), (.int x5), (.int x6)]) (rest := []) (lenOf pd_1 rfl) rfl (by show 2 * 0 + _ ≤ _; exact Nat.le_of_eq rfl) (hb hby at_125) (fun _ _ => ⟨rfl, e0, (by show cells + 0 ≤ 16; omega), (by show slots + 0 ≤ 128; omega)⟩)
  dsimp only [Pt.U, Pt.locs, Pt.cells, Pt.slots] at X1 l1 y1 z1 st1 hQ1
  replace y1 := y1.symm; replace z1 := z1.symm; subst l1 y1 z1
  obtain ⟨rfl, N1q, e1⟩ := hQ1
  have N1 := Fr.app N0 N1q
  refine Runs.via (T' := T1) (g' := (mkF m 128 #[.val (.int x0), .val (.int x1), .val (.int x2), .val (.int x3), .val (.ref n0_0), .val (.int x5), .val (.int x6), .unset, .unset, .unset, .unset, .unset, .unset, .unset, .unset, .unset, .unset] [(.int r1)])) (fun t k => st1 _ k) ?_
  refine Runs.via (T' := T1) (g' := (mkF m 137 #[.val (.int x0), .val (.int x1), .val (.int x2), .val (.int x3), .val (.ref n0_0), .val (.int x5), .val (.int x6), .val (.int r1), .unset, .unset, .unset, .unset, .unset, .unset, .unset, .unset, .unset] [(.int x6), (.int x5), (.int (1 : Int32)), (.ref n0_0)])) (fun t k => ?_) ?_
  · show Steps p.tables e below (T1.setTop (mkF m 128 #[.val (.int x0), .val (.int x1), .val (.int x2), .val (.int x3), .val (.ref n0_0), .val (.int x5), .val (.int x6), .unset, .unset, .unset, .unset, .unset, .unset, .unset, .unset, .unset, .unset] [(.int r1)])) t
    refine XS.istore X1.here hx rfl (hb hby at_128) rfl (l' := #[.val (.int x0), .val (.int x1), .val (.int x2), .val (.int x3), .val (.ref n0_0), .val (.int x5), .val (.int x6), .val (.int r1), .unset, .unset, .unset, .unset, .unset, .unset, .unset, .unset, .unset]) rfl ?_
    show Steps p.tables e below (T1.setTop (mkF m 130 #[.val (.int x0), .val (.int x1), .val (.int x2), .val (.int x3), .val (.ref n0_0), .val (.int x5), .val (.int x6), .val (.int r1), .unset, .unset, .unset, .unset, .unset, .unset, .unset, .unset, .unset] [])) t
    refine XS.aload X1.here hx rfl (hb hby at_130) rfl rfl ?_
    show Steps p.tables e below (T1.setTop (mkF m 132 #[.val (.int x0), .val (.int x1), .val (.int x2), .val (.int x3), .val (.ref n0_0), .val (.int x5), .val (.int x6), .val (.int r1), .unset, .unset, .unset, .unset, .unset, .unset, .unset, .unset, .unset] [(.ref n0_0)])) t
    refine XS.iconst X1.here hx rfl (hb hby at_132) ?_
    show Steps p.tables e below (T1.setTop (mkF m 133 #[.val (.int x0), .val (.int x1), .val (.int x2), .val (.int x3), .val (.ref n0_0), .val (.int x5), .val (.int x6), .val (.int r1), .unset, .unset, .unset, .unset, .unset, .unset, .unset, .unset, .unset] [(.int (1 : Int32)), (.ref n0_0)])) t
    refine XS.iload X1.here hx rfl (hb hby at_133) rfl ?_
    show Steps p.tables e below (T1.setTop (mkF m 135 #[.val (.int x0), .val (.int x1), .val (.int x2), .val (.int x3), .val (.ref n0_0), .val (.int x5), .val (.int x6), .val (.int r1), .unset, .unset, .unset, .unset, .unset, .unset, .unset, .unset, .unset] [(.int x5), (.int (1 : Int32)), (.ref n0_0)])) t
    refine XS.iload X1.here hx rfl (hb hby at_135) rfl ?_
    exact k
  refine bindE hr ?_; intro r2 hr2m hr
  obtain ⟨_, _, ⟨T2, L2, k2, n2⟩, -, X2, ⟨Lc2, hQ2, l2, y2, z2⟩, st2⟩ := Jvm.LawKit.callS X1 hx (y := (⟨"com/example/notewright/notewright/DecimalsScalePinLaw", "dotAt", "([BIII)I"⟩ : MethodName)) hown (mvT hZ (hw _ (List.mem_of_getElem? (i := 6) rfl))) (mvT hZ (hw _ (List.mem_of_getElem? (i := 7) rfl))) (mvT hZ (hw _ (List.mem_of_getElem? (i := 3) rfl))) (mvT hZ (hw _ (List.mem_of_getElem? (i := 8) rfl))) (by decide) (backOf (W := 0) (rm2 l Z a0 hw [] (1 : Int32) x5 x6 n0_0 q_n0_0 h0 n0 Z1 (by omega) A_n0_0_0 r2 hr2m) hZ (hw _ (List.mem_of_getElem? (i := 8) rfl)) (hw _ (List.mem_of_getElem? (i := 3) rfl)) (by decide) (by decide)) (g := (mkF m 137 #[.val (.int x0), .val (.int x1), .val (.int x2), .val (.int x3), .val (.ref n0_0), .val (.int x5), .val (.int x6), .val (.int r1), .unset, .unset, .unset, .unset, .unset, .unset, .unset, .unset, .unset] [(.int x6), (.int x5), (.int (1 : Int32)), (.ref n0_0)])) rfl (by rw [hml]; rfl) (argsL := [(.ref n0_0), (.int (1 : Int32)), (.int x5), (.int x6)]) (rest := []) (lenOf pd_1 rfl) rfl (by show 2 * 0 + _ ≤ _; exact Nat.le_of_eq rfl) (hb hby at_137) (fun _ _ => ⟨rfl, e1, (by show (cells + 0) + 0 ≤ 16; omega), (by show (slots + 0) + 0 ≤ 128; omega)⟩)
  dsimp only [Pt.U, Pt.locs, Pt.cells, Pt.slots] at X2 l2 y2 z2 st2 hQ2
  replace y2 := y2.symm; replace z2 := z2.symm; subst l2 y2 z2
  obtain ⟨rfl, N2q, e2⟩ := hQ2
  have N2 := Fr.app N1 N2q
  refine Runs.via (T' := T2) (g' := (mkF m 140 #[.val (.int x0), .val (.int x1), .val (.int x2), .val (.int x3), .val (.ref n0_0), .val (.int x5), .val (.int x6), .val (.int r1), .unset, .unset, .unset, .unset, .unset, .unset, .unset, .unset, .unset] [(.int r2)])) (fun t k => st2 _ k) ?_
  refine Runs.via (T' := T2) (g' := (mkF m 149 #[.val (.int x0), .val (.int x1), .val (.int x2), .val (.int x3), .val (.ref n0_0), .val (.int x5), .val (.int x6), .val (.int r1), .val (.int r2), .unset, .unset, .unset, .unset, .unset, .unset, .unset, .unset] [(.int x6), (.int x5), (.int (2 : Int32)), (.ref n0_0)])) (fun t k => ?_) ?_
  · show Steps p.tables e below (T2.setTop (mkF m 140 #[.val (.int x0), .val (.int x1), .val (.int x2), .val (.int x3), .val (.ref n0_0), .val (.int x5), .val (.int x6), .val (.int r1), .unset, .unset, .unset, .unset, .unset, .unset, .unset, .unset, .unset] [(.int r2)])) t
    refine XS.istore X2.here hx rfl (hb hby at_140) rfl (l' := #[.val (.int x0), .val (.int x1), .val (.int x2), .val (.int x3), .val (.ref n0_0), .val (.int x5), .val (.int x6), .val (.int r1), .val (.int r2), .unset, .unset, .unset, .unset, .unset, .unset, .unset, .unset]) rfl ?_
    show Steps p.tables e below (T2.setTop (mkF m 142 #[.val (.int x0), .val (.int x1), .val (.int x2), .val (.int x3), .val (.ref n0_0), .val (.int x5), .val (.int x6), .val (.int r1), .val (.int r2), .unset, .unset, .unset, .unset, .unset, .unset, .unset, .unset] [])) t
    refine XS.aload X2.here hx rfl (hb hby at_142) rfl rfl ?_
    show Steps p.tables e below (T2.setTop (mkF m 144 #[.val (.int x0), .val (.int x1), .val (.int x2), .val (.int x3), .val (.ref n0_0), .val (.int x5), .val (.int x6), .val (.int r1), .val (.int r2), .unset, .unset, .unset, .unset, .unset, .unset, .unset, .unset] [(.ref n0_0)])) t
    refine XS.iconst X2.here hx rfl (hb hby at_144) ?_
    show Steps p.tables e below (T2.setTop (mkF m 145 #[.val (.int x0), .val (.int x1), .val (.int x2), .val (.int x3), .val (.ref n0_0), .val (.int x5), .val (.int x6), .val (.int r1), .val (.int r2), .unset, .unset, .unset, .unset, .unset, .unset, .unset, .unset] [(.int (2 : Int32)), (.ref n0_0)])) t
    refine XS.iload X2.here hx rfl (hb hby at_145) rfl ?_
    show Steps p.tables e below (T2.setTop (mkF m 147 #[.val (.int x0), .val (.int x1), .val (.int x2), .val (.int x3), .val (.ref n0_0), .val (.int x5), .val (.int x6), .val (.int r1), .val (.int r2), .unset, .unset, .unset, .unset, .unset, .unset, .unset, .unset] [(.int x5), (.int (2 : Int32)), (.ref n0_0)])) t
    refine XS.iload X2.here hx rfl (hb hby at_147) rfl ?_
    exact k
  refine bindE hr ?_; intro r3 hr3m hr
  obtain ⟨_, _, ⟨T3, L3, k3, n3⟩, -, X3, ⟨Lc3, hQ3, l3, y3, z3⟩, st3⟩ := Jvm.LawKit.callS X2 hx (y := (⟨"com/example/notewright/notewright/DecimalsScalePinLaw", "dotAt", "([BIII)I"⟩ : MethodName)) hown (mvT hZ (hw _ (List.mem_of_getElem? (i := 6) rfl))) (mvT hZ (hw _ (List.mem_of_getElem? (i := 7) rfl))) (mvT hZ (hw _ (List.mem_of_getElem? (i := 3) rfl))) (mvT hZ (hw _ (List.mem_of_getElem? (i := 8) rfl))) (by decide) (backOf (W := 0) (rm2 l Z a0 hw [] (2 : Int32) x5 x6 n0_0 q_n0_0 h0 n0 Z1 (by omega) A_n0_0_0 r3 hr3m) hZ (hw _ (List.mem_of_getElem? (i := 8) rfl)) (hw _ (List.mem_of_getElem? (i := 3) rfl)) (by decide) (by decide)) (g := (mkF m 149 #[.val (.int x0), .val (.int x1), .val (.int x2), .val (.int x3), .val (.ref n0_0), .val (.int x5), .val (.int x6), .val (.int r1), .val (.int r2), .unset, .unset, .unset, .unset, .unset, .unset, .unset, .unset] [(.int x6), (.int x5), (.int (2 : Int32)), (.ref n0_0)])) rfl (by rw [hml]; rfl) (argsL := [(.ref n0_0), (.int (2 : Int32)), (.int x5), (.int x6)]) (rest := []) (lenOf pd_1 rfl) rfl (by show 2 * 0 + _ ≤ _; exact Nat.le_of_eq rfl) (hb hby at_149) (fun _ _ => ⟨rfl, e2, (by show ((cells + 0) + 0) + 0 ≤ 16; omega), (by show ((slots + 0) + 0) + 0 ≤ 128; omega)⟩)
  dsimp only [Pt.U, Pt.locs, Pt.cells, Pt.slots] at X3 l3 y3 z3 st3 hQ3
  replace y3 := y3.symm; replace z3 := z3.symm; subst l3 y3 z3
  obtain ⟨rfl, N3q, e3⟩ := hQ3
  have N3 := Fr.app N2 N3q
  refine Runs.via (T' := T3) (g' := (mkF m 152 #[.val (.int x0), .val (.int x1), .val (.int x2), .val (.int x3), .val (.ref n0_0), .val (.int x5), .val (.int x6), .val (.int r1), .val (.int r2), .unset, .unset, .unset, .unset, .unset, .unset, .unset, .unset] [(.int r3)])) (fun t k => st3 _ k) ?_
  refine Runs.via (T' := T3) (g' := (mkF m 161 #[.val (.int x0), .val (.int x1), .val (.int x2), .val (.int x3), .val (.ref n0_0), .val (.int x5), .val (.int x6), .val (.int r1), .val (.int r2), .val (.int r3), .unset, .unset, .unset, .unset, .unset, .unset, .unset] [(.int x6), (.int x5), (.int (3 : Int32)), (.ref n0_0)])) (fun t k => ?_) ?_
  · show Steps p.tables e below (T3.setTop (mkF m 152 #[.val (.int x0), .val (.int x1), .val (.int x2), .val (.int x3), .val (.ref n0_0), .val (.int x5), .val (.int x6), .val (.int r1), .val (.int r2), .unset, .unset, .unset, .unset, .unset, .unset, .unset, .unset] [(.int r3)])) t
    refine XS.istore X3.here hx rfl (hb hby at_152) rfl (l' := #[.val (.int x0), .val (.int x1), .val (.int x2), .val (.int x3), .val (.ref n0_0), .val (.int x5), .val (.int x6), .val (.int r1), .val (.int r2), .val (.int r3), .unset, .unset, .unset, .unset, .unset, .unset, .unset]) rfl ?_
    show Steps p.tables e below (T3.setTop (mkF m 154 #[.val (.int x0), .val (.int x1), .val (.int x2), .val (.int x3), .val (.ref n0_0), .val (.int x5), .val (.int x6), .val (.int r1), .val (.int r2), .val (.int r3), .unset, .unset, .unset, .unset, .unset, .unset, .unset] [])) t
    refine XS.aload X3.here hx rfl (hb hby at_154) rfl rfl ?_
    show Steps p.tables e below (T3.setTop (mkF m 156 #[.val (.int x0), .val (.int x1), .val (.int x2), .val (.int x3), .val (.ref n0_0), .val (.int x5), .val (.int x6), .val (.int r1), .val (.int r2), .val (.int r3), .unset, .unset, .unset, .unset, .unset, .unset, .unset] [(.ref n0_0)])) t
    refine XS.iconst X3.here hx rfl (hb hby at_156) ?_
    show Steps p.tables e below (T3.setTop (mkF m 157 #[.val (.int x0), .val (.int x1), .val (.int x2), .val (.int x3), .val (.ref n0_0), .val (.int x5), .val (.int x6), .val (.int r1), .val (.int r2), .val (.int r3), .unset, .unset, .unset, .unset, .unset, .unset, .unset] [(.int (3 : Int32)), (.ref n0_0)])) t
    refine XS.iload X3.here hx rfl (hb hby at_157) rfl ?_
    show Steps p.tables e below (T3.setTop (mkF m 159 #[.val (.int x0), .val (.int x1), .val (.int x2), .val (.int x3), .val (.ref n0_0), .val (.int x5), .val (.int x6), .val (.int r1), .val (.int r2), .val (.int r3), .unset, .unset, .unset, .unset, .unset, .unset, .unset] [(.int x5), (.int (3 : Int32)), (.ref n0_0)])) t
    refine XS.iload X3.here hx rfl (hb hby at_159) rfl ?_
    exact k
  refine bindE hr ?_; intro r4 hr4m hr
  obtain ⟨_, _, ⟨T4, L4, k4, n4⟩, -, X4, ⟨Lc4, hQ4, l4, y4, z4⟩, st4⟩ := Jvm.LawKit.callS X3 hx (y := (⟨"com/example/notewright/notewright/DecimalsScalePinLaw", "dotAt", "([BIII)I"⟩ : MethodName)) hown (mvT hZ (hw _ (List.mem_of_getElem? (i := 6) rfl))) (mvT hZ (hw _ (List.mem_of_getElem? (i := 7) rfl))) (mvT hZ (hw _ (List.mem_of_getElem? (i := 3) rfl))) (mvT hZ (hw _ (List.mem_of_getElem? (i := 8) rfl))) (by decide) (backOf (W := 0) (rm2 l Z a0 hw [] (3 : Int32) x5 x6 n0_0 q_n0_0 h0 n0 Z1 (by omega) A_n0_0_0 r4 hr4m) hZ (hw _ (List.mem_of_getElem? (i := 8) rfl)) (hw _ (List.mem_of_getElem? (i := 3) rfl)) (by decide) (by decide)) (g := (mkF m 161 #[.val (.int x0), .val (.int x1), .val (.int x2), .val (.int x3), .val (.ref n0_0), .val (.int x5), .val (.int x6), .val (.int r1), .val (.int r2), .val (.int r3), .unset, .unset, .unset, .unset, .unset, .unset, .unset] [(.int x6), (.int x5), (.int (3 : Int32)), (.ref n0_0)])) rfl (by rw [hml]; rfl) (argsL := [(.ref n0_0), (.int (3 : Int32)), (.int x5), (.int x6)]) (rest := []) (lenOf pd_1 rfl) rfl (by show 2 * 0 + _ ≤ _; exact Nat.le_of_eq rfl) (hb hby at_161) (fun _ _ => ⟨rfl, e3, (by show (((cells + 0) + 0) + 0) + 0 ≤ 16; omega), (by show (((slots + 0) + 0) + 0) + 0 ≤ 128; omega)⟩)
  dsimp only [Pt.U, Pt.locs, Pt.cells, Pt.slots] at X4 l4 y4 z4 st4 hQ4
  replace y4 := y4.symm; replace z4 := z4.symm; subst l4 y4 z4
  obtain ⟨rfl, N4q, e4⟩ := hQ4
  have N4 := Fr.app N3 N4q
  refine Runs.via (T' := T4) (g' := (mkF m 164 #[.val (.int x0), .val (.int x1), .val (.int x2), .val (.int x3), .val (.ref n0_0), .val (.int x5), .val (.int x6), .val (.int r1), .val (.int r2), .val (.int r3), .unset, .unset, .unset, .unset, .unset, .unset, .unset] [(.int r4)])) (fun t k => st4 _ k) ?_
  refine Runs.via (T' := T4) (g' := (mkF m 173 #[.val (.int x0), .val (.int x1), .val (.int x2), .val (.int x3), .val (.ref n0_0), .val (.int x5), .val (.int x6), .val (.int r1), .val (.int r2), .val (.int r3), .val (.int r4), .unset, .unset, .unset, .unset, .unset, .unset] [(.int x6), (.int x5), (.int (4 : Int32)), (.ref n0_0)])) (fun t k => ?_) ?_
  · show Steps p.tables e below (T4.setTop (mkF m 164 #[.val (.int x0), .val (.int x1), .val (.int x2), .val (.int x3), .val (.ref n0_0), .val (.int x5), .val (.int x6), .val (.int r1), .val (.int r2), .val (.int r3), .unset, .unset, .unset, .unset, .unset, .unset, .unset] [(.int r4)])) t
    refine XS.istore X4.here hx rfl (hb hby at_164) rfl (l' := #[.val (.int x0), .val (.int x1), .val (.int x2), .val (.int x3), .val (.ref n0_0), .val (.int x5), .val (.int x6), .val (.int r1), .val (.int r2), .val (.int r3), .val (.int r4), .unset, .unset, .unset, .unset, .unset, .unset]) rfl ?_
    show Steps p.tables e below (T4.setTop (mkF m 166 #[.val (.int x0), .val (.int x1), .val (.int x2), .val (.int x3), .val (.ref n0_0), .val (.int x5), .val (.int x6), .val (.int r1), .val (.int r2), .val (.int r3), .val (.int r4), .unset, .unset, .unset, .unset, .unset, .unset] [])) t
    refine XS.aload X4.here hx rfl (hb hby at_166) rfl rfl ?_
    show Steps p.tables e below (T4.setTop (mkF m 168 #[.val (.int x0), .val (.int x1), .val (.int x2), .val (.int x3), .val (.ref n0_0), .val (.int x5), .val (.int x6), .val (.int r1), .val (.int r2), .val (.int r3), .val (.int r4), .unset, .unset, .unset, .unset, .unset, .unset] [(.ref n0_0)])) t
    refine XS.iconst X4.here hx rfl (hb hby at_168) ?_
    show Steps p.tables e below (T4.setTop (mkF m 169 #[.val (.int x0), .val (.int x1), .val (.int x2), .val (.int x3), .val (.ref n0_0), .val (.int x5), .val (.int x6), .val (.int r1), .val (.int r2), .val (.int r3), .val (.int r4), .unset, .unset, .unset, .unset, .unset, .unset] [(.int (4 : Int32)), (.ref n0_0)])) t
    refine XS.iload X4.here hx rfl (hb hby at_169) rfl ?_
    show Steps p.tables e below (T4.setTop (mkF m 171 #[.val (.int x0), .val (.int x1), .val (.int x2), .val (.int x3), .val (.ref n0_0), .val (.int x5), .val (.int x6), .val (.int r1), .val (.int r2), .val (.int r3), .val (.int r4), .unset, .unset, .unset, .unset, .unset, .unset] [(.int x5), (.int (4 : Int32)), (.ref n0_0)])) t
    refine XS.iload X4.here hx rfl (hb hby at_171) rfl ?_
    exact k
  refine bindE hr ?_; intro r5 hr5m hr
  obtain ⟨_, _, ⟨T5, L5, k5, n5⟩, -, X5, ⟨Lc5, hQ5, l5, y5, z5⟩, st5⟩ := Jvm.LawKit.callS X4 hx (y := (⟨"com/example/notewright/notewright/DecimalsScalePinLaw", "dotAt", "([BIII)I"⟩ : MethodName)) hown (mvT hZ (hw _ (List.mem_of_getElem? (i := 6) rfl))) (mvT hZ (hw _ (List.mem_of_getElem? (i := 7) rfl))) (mvT hZ (hw _ (List.mem_of_getElem? (i := 3) rfl))) (mvT hZ (hw _ (List.mem_of_getElem? (i := 8) rfl))) (by decide) (backOf (W := 0) (rm2 l Z a0 hw [] (4 : Int32) x5 x6 n0_0 q_n0_0 h0 n0 Z1 (by omega) A_n0_0_0 r5 hr5m) hZ (hw _ (List.mem_of_getElem? (i := 8) rfl)) (hw _ (List.mem_of_getElem? (i := 3) rfl)) (by decide) (by decide)) (g := (mkF m 173 #[.val (.int x0), .val (.int x1), .val (.int x2), .val (.int x3), .val (.ref n0_0), .val (.int x5), .val (.int x6), .val (.int r1), .val (.int r2), .val (.int r3), .val (.int r4), .unset, .unset, .unset, .unset, .unset, .unset] [(.int x6), (.int x5), (.int (4 : Int32)), (.ref n0_0)])) rfl (by rw [hml]; rfl) (argsL := [(.ref n0_0), (.int (4 : Int32)), (.int x5), (.int x6)]) (rest := []) (lenOf pd_1 rfl) rfl (by show 2 * 0 + _ ≤ _; exact Nat.le_of_eq rfl) (hb hby at_173) (fun _ _ => ⟨rfl, e4, (by show ((((cells + 0) + 0) + 0) + 0) + 0 ≤ 16; omega), (by show ((((slots + 0) + 0) + 0) + 0) + 0 ≤ 128; omega)⟩)
  dsimp only [Pt.U, Pt.locs, Pt.cells, Pt.slots] at X5 l5 y5 z5 st5 hQ5
  replace y5 := y5.symm; replace z5 := z5.symm; subst l5 y5 z5
  obtain ⟨rfl, N5q, e5⟩ := hQ5
  have N5 := Fr.app N4 N5q
  refine Runs.via (T' := T5) (g' := (mkF m 176 #[.val (.int x0), .val (.int x1), .val (.int x2), .val (.int x3), .val (.ref n0_0), .val (.int x5), .val (.int x6), .val (.int r1), .val (.int r2), .val (.int r3), .val (.int r4), .unset, .unset, .unset, .unset, .unset, .unset] [(.int r5)])) (fun t k => st5 _ k) ?_
  refine Runs.via (T' := T5) (g' := (mkF m 185 #[.val (.int x0), .val (.int x1), .val (.int x2), .val (.int x3), .val (.ref n0_0), .val (.int x5), .val (.int x6), .val (.int r1), .val (.int r2), .val (.int r3), .val (.int r4), .val (.int r5), .unset, .unset, .unset, .unset, .unset] [(.int x6), (.int x5), (.int (5 : Int32)), (.ref n0_0)])) (fun t k => ?_) ?_
  · show Steps p.tables e below (T5.setTop (mkF m 176 #[.val (.int x0), .val (.int x1), .val (.int x2), .val (.int x3), .val (.ref n0_0), .val (.int x5), .val (.int x6), .val (.int r1), .val (.int r2), .val (.int r3), .val (.int r4), .unset, .unset, .unset, .unset, .unset, .unset] [(.int r5)])) t
    refine XS.istore X5.here hx rfl (hb hby at_176) rfl (l' := #[.val (.int x0), .val (.int x1), .val (.int x2), .val (.int x3), .val (.ref n0_0), .val (.int x5), .val (.int x6), .val (.int r1), .val (.int r2), .val (.int r3), .val (.int r4), .val (.int r5), .unset, .unset, .unset, .unset, .unset]) rfl ?_
    show Steps p.tables e below (T5.setTop (mkF m 178 #[.val (.int x0), .val (.int x1), .val (.int x2), .val (.int x3), .val (.ref n0_0), .val (.int x5), .val (.int x6), .val (.int r1), .val (.int r2), .val (.int r3), .val (.int r4), .val (.int r5), .unset, .unset, .unset, .unset, .unset] [])) t
    refine XS.aload X5.here hx rfl (hb hby at_178) rfl rfl ?_
    show Steps p.tables e below (T5.setTop (mkF m 180 #[.val (.int x0), .val (.int x1), .val (.int x2), .val (.int x3), .val (.ref n0_0), .val (.int x5), .val (.int x6), .val (.int r1), .val (.int r2), .val (.int r3), .val (.int r4), .val (.int r5), .unset, .unset, .unset, .unset, .unset] [(.ref n0_0)])) t
    refine XS.iconst X5.here hx rfl (hb hby at_180) ?_
    show Steps p.tables e below (T5.setTop (mkF m 181 #[.val (.int x0), .val (.int x1), .val (.int x2), .val (.int x3), .val (.ref n0_0), .val (.int x5), .val (.int x6), .val (.int r1), .val (.int r2), .val (.int r3), .val (.int r4), .val (.int r5), .unset, .unset, .unset, .unset, .unset] [(.int (5 : Int32)), (.ref n0_0)])) t
    refine XS.iload X5.here hx rfl (hb hby at_181) rfl ?_
    show Steps p.tables e below (T5.setTop (mkF m 183 #[.val (.int x0), .val (.int x1), .val (.int x2), .val (.int x3), .val (.ref n0_0), .val (.int x5), .val (.int x6), .val (.int r1), .val (.int r2), .val (.int r3), .val (.int r4), .val (.int r5), .unset, .unset, .unset, .unset, .unset] [(.int x5), (.int (5 : Int32)), (.ref n0_0)])) t
    refine XS.iload X5.here hx rfl (hb hby at_183) rfl ?_
    exact k
  refine bindE hr ?_; intro r6 hr6m hr
  obtain ⟨_, _, ⟨T6, L6, k6, n6⟩, -, X6, ⟨Lc6, hQ6, l6, y6, z6⟩, st6⟩ := Jvm.LawKit.callS X5 hx (y := (⟨"com/example/notewright/notewright/DecimalsScalePinLaw", "dotAt", "([BIII)I"⟩ : MethodName)) hown (mvT hZ (hw _ (List.mem_of_getElem? (i := 6) rfl))) (mvT hZ (hw _ (List.mem_of_getElem? (i := 7) rfl))) (mvT hZ (hw _ (List.mem_of_getElem? (i := 3) rfl))) (mvT hZ (hw _ (List.mem_of_getElem? (i := 8) rfl))) (by decide) (backOf (W := 0) (rm2 l Z a0 hw [] (5 : Int32) x5 x6 n0_0 q_n0_0 h0 n0 Z1 (by omega) A_n0_0_0 r6 hr6m) hZ (hw _ (List.mem_of_getElem? (i := 8) rfl)) (hw _ (List.mem_of_getElem? (i := 3) rfl)) (by decide) (by decide)) (g := (mkF m 185 #[.val (.int x0), .val (.int x1), .val (.int x2), .val (.int x3), .val (.ref n0_0), .val (.int x5), .val (.int x6), .val (.int r1), .val (.int r2), .val (.int r3), .val (.int r4), .val (.int r5), .unset, .unset, .unset, .unset, .unset] [(.int x6), (.int x5), (.int (5 : Int32)), (.ref n0_0)])) rfl (by rw [hml]; rfl) (argsL := [(.ref n0_0), (.int (5 : Int32)), (.int x5), (.int x6)]) (rest := []) (lenOf pd_1 rfl) rfl (by show 2 * 0 + _ ≤ _; exact Nat.le_of_eq rfl) (hb hby at_185) (fun _ _ => ⟨rfl, e5, (by show (((((cells + 0) + 0) + 0) + 0) + 0) + 0 ≤ 16; omega), (by show (((((slots + 0) + 0) + 0) + 0) + 0) + 0 ≤ 128; omega)⟩)
  dsimp only [Pt.U, Pt.locs, Pt.cells, Pt.slots] at X6 l6 y6 z6 st6 hQ6
  replace y6 := y6.symm; replace z6 := z6.symm; subst l6 y6 z6
  obtain ⟨rfl, N6q, e6⟩ := hQ6
  have N6 := Fr.app N5 N6q
  refine Runs.via (T' := T6) (g' := (mkF m 188 #[.val (.int x0), .val (.int x1), .val (.int x2), .val (.int x3), .val (.ref n0_0), .val (.int x5), .val (.int x6), .val (.int r1), .val (.int r2), .val (.int r3), .val (.int r4), .val (.int r5), .unset, .unset, .unset, .unset, .unset] [(.int r6)])) (fun t k => st6 _ k) ?_
  refine Runs.via (T' := T6) (g' := (mkF m 207 #[.val (.int x0), .val (.int x1), .val (.int x2), .val (.int x3), .val (.ref n0_0), .val (.int x5), .val (.int x6), .val (.int r1), .val (.int r2), .val (.int r3), .val (.int r4), .val (.int r5), .val (.int r6), .unset, .unset, .unset, .unset] [(.int (((((r1 + r2) + r3) + r4) + r5) + r6))])) (fun t k => ?_) ?_
  · show Steps p.tables e below (T6.setTop (mkF m 188 #[.val (.int x0), .val (.int x1), .val (.int x2), .val (.int x3), .val (.ref n0_0), .val (.int x5), .val (.int x6), .val (.int r1), .val (.int r2), .val (.int r3), .val (.int r4), .val (.int r5), .unset, .unset, .unset, .unset, .unset] [(.int r6)])) t
    refine XS.istore X6.here hx rfl (hb hby at_188) rfl (l' := #[.val (.int x0), .val (.int x1), .val (.int x2), .val (.int x3), .val (.ref n0_0), .val (.int x5), .val (.int x6), .val (.int r1), .val (.int r2), .val (.int r3), .val (.int r4), .val (.int r5), .val (.int r6), .unset, .unset, .unset, .unset]) rfl ?_
    show Steps p.tables e below (T6.setTop (mkF m 190 #[.val (.int x0), .val (.int x1), .val (.int x2), .val (.int x3), .val (.ref n0_0), .val (.int x5), .val (.int x6), .val (.int r1), .val (.int r2), .val (.int r3), .val (.int r4), .val (.int r5), .val (.int r6), .unset, .unset, .unset, .unset] [])) t
    refine XS.iload X6.here hx rfl (hb hby at_190) rfl ?_
    show Steps p.tables e below (T6.setTop (mkF m 192 #[.val (.int x0), .val (.int x1), .val (.int x2), .val (.int x3), .val (.ref n0_0), .val (.int x5), .val (.int x6), .val (.int r1), .val (.int r2), .val (.int r3), .val (.int r4), .val (.int r5), .val (.int r6), .unset, .unset, .unset, .unset] [(.int r1)])) t
    refine XS.iload X6.here hx rfl (hb hby at_192) rfl ?_
    show Steps p.tables e below (T6.setTop (mkF m 194 #[.val (.int x0), .val (.int x1), .val (.int x2), .val (.int x3), .val (.ref n0_0), .val (.int x5), .val (.int x6), .val (.int r1), .val (.int r2), .val (.int r3), .val (.int r4), .val (.int r5), .val (.int r6), .unset, .unset, .unset, .unset] [(.int r2), (.int r1)])) t
    refine XS.iadd X6.here hx rfl (hb hby at_194) rfl ?_
    show Steps p.tables e below (T6.setTop (mkF m 195 #[.val (.int x0), .val (.int x1), .val (.int x2), .val (.int x3), .val (.ref n0_0), .val (.int x5), .val (.int x6), .val (.int r1), .val (.int r2), .val (.int r3), .val (.int r4), .val (.int r5), .val (.int r6), .unset, .unset, .unset, .unset] [(.int (r1 + r2))])) t
    refine XS.iload X6.here hx rfl (hb hby at_195) rfl ?_
    show Steps p.tables e below (T6.setTop (mkF m 197 #[.val (.int x0), .val (.int x1), .val (.int x2), .val (.int x3), .val (.ref n0_0), .val (.int x5), .val (.int x6), .val (.int r1), .val (.int r2), .val (.int r3), .val (.int r4), .val (.int r5), .val (.int r6), .unset, .unset, .unset, .unset] [(.int r3), (.int (r1 + r2))])) t
    refine XS.iadd X6.here hx rfl (hb hby at_197) rfl ?_
    show Steps p.tables e below (T6.setTop (mkF m 198 #[.val (.int x0), .val (.int x1), .val (.int x2), .val (.int x3), .val (.ref n0_0), .val (.int x5), .val (.int x6), .val (.int r1), .val (.int r2), .val (.int r3), .val (.int r4), .val (.int r5), .val (.int r6), .unset, .unset, .unset, .unset] [(.int ((r1 + r2) + r3))])) t
    refine XS.iload X6.here hx rfl (hb hby at_198) rfl ?_
    show Steps p.tables e below (T6.setTop (mkF m 200 #[.val (.int x0), .val (.int x1), .val (.int x2), .val (.int x3), .val (.ref n0_0), .val (.int x5), .val (.int x6), .val (.int r1), .val (.int r2), .val (.int r3), .val (.int r4), .val (.int r5), .val (.int r6), .unset, .unset, .unset, .unset] [(.int r4), (.int ((r1 + r2) + r3))])) t
    refine XS.iadd X6.here hx rfl (hb hby at_200) rfl ?_
    show Steps p.tables e below (T6.setTop (mkF m 201 #[.val (.int x0), .val (.int x1), .val (.int x2), .val (.int x3), .val (.ref n0_0), .val (.int x5), .val (.int x6), .val (.int r1), .val (.int r2), .val (.int r3), .val (.int r4), .val (.int r5), .val (.int r6), .unset, .unset, .unset, .unset] [(.int (((r1 + r2) + r3) + r4))])) t
    refine XS.iload X6.here hx rfl (hb hby at_201) rfl ?_
    show Steps p.tables e below (T6.setTop (mkF m 203 #[.val (.int x0), .val (.int x1), .val (.int x2), .val (.int x3), .val (.ref n0_0), .val (.int x5), .val (.int x6), .val (.int r1), .val (.int r2), .val (.int r3), .val (.int r4), .val (.int r5), .val (.int r6), .unset, .unset, .unset, .unset] [(.int r5), (.int (((r1 + r2) + r3) + r4))])) t
    refine XS.iadd X6.here hx rfl (hb hby at_203) rfl ?_
    show Steps p.tables e below (T6.setTop (mkF m 204 #[.val (.int x0), .val (.int x1), .val (.int x2), .val (.int x3), .val (.ref n0_0), .val (.int x5), .val (.int x6), .val (.int r1), .val (.int r2), .val (.int r3), .val (.int r4), .val (.int r5), .val (.int r6), .unset, .unset, .unset, .unset] [(.int ((((r1 + r2) + r3) + r4) + r5))])) t
    refine XS.iload X6.here hx rfl (hb hby at_204) rfl ?_
    show Steps p.tables e below (T6.setTop (mkF m 206 #[.val (.int x0), .val (.int x1), .val (.int x2), .val (.int x3), .val (.ref n0_0), .val (.int x5), .val (.int x6), .val (.int r1), .val (.int r2), .val (.int r3), .val (.int r4), .val (.int r5), .val (.int r6), .unset, .unset, .unset, .unset] [(.int r6), (.int ((((r1 + r2) + r3) + r4) + r5))])) t
    refine XS.iadd X6.here hx rfl (hb hby at_206) rfl ?_
    exact k
  refine letE hr ?_; intro v7 hv7 hr
  rw [← hv7]
  refine Runs.via (T' := T6) (g' := (mkF m 231 #[.val (.int x0), .val (.int x1), .val (.int x2), .val (.int x3), .val (.ref n0_0), .val (.int x5), .val (.int x6), .val (.int r1), .val (.int r2), .val (.int r3), .val (.int r4), .val (.int r5), .val (.int r6), .val (.int v7), .unset, .unset, .unset] [(.int ((((r2 + ((2 : Int32) * r3)) + ((3 : Int32) * r4)) + ((4 : Int32) * r5)) + ((5 : Int32) * r6)))])) (fun t k => ?_) ?_
  · show Steps p.tables e below (T6.setTop (mkF m 207 #[.val (.int x0), .val (.int x1), .val (.int x2), .val (.int x3), .val (.ref n0_0), .val (.int x5), .val (.int x6), .val (.int r1), .val (.int r2), .val (.int r3), .val (.int r4), .val (.int r5), .val (.int r6), .unset, .unset, .unset, .unset] [(.int v7)])) t
    refine XS.istore X6.here hx rfl (hb hby at_207) rfl (l' := #[.val (.int x0), .val (.int x1), .val (.int x2), .val (.int x3), .val (.ref n0_0), .val (.int x5), .val (.int x6), .val (.int r1), .val (.int r2), .val (.int r3), .val (.int r4), .val (.int r5), .val (.int r6), .val (.int v7), .unset, .unset, .unset]) rfl ?_
    show Steps p.tables e below (T6.setTop (mkF m 209 #[.val (.int x0), .val (.int x1), .val (.int x2), .val (.int x3), .val (.ref n0_0), .val (.int x5), .val (.int x6), .val (.int r1), .val (.int r2), .val (.int r3), .val (.int r4), .val (.int r5), .val (.int r6), .val (.int v7), .unset, .unset, .unset] [])) t
    refine XS.iload X6.here hx rfl (hb hby at_209) rfl ?_
    show Steps p.tables e below (T6.setTop (mkF m 211 #[.val (.int x0), .val (.int x1), .val (.int x2), .val (.int x3), .val (.ref n0_0), .val (.int x5), .val (.int x6), .val (.int r1), .val (.int r2), .val (.int r3), .val (.int r4), .val (.int r5), .val (.int r6), .val (.int v7), .unset, .unset, .unset] [(.int r2)])) t
    refine XS.iconst X6.here hx rfl (hb hby at_211) ?_
    show Steps p.tables e below (T6.setTop (mkF m 212 #[.val (.int x0), .val (.int x1), .val (.int x2), .val (.int x3), .val (.ref n0_0), .val (.int x5), .val (.int x6), .val (.int r1), .val (.int r2), .val (.int r3), .val (.int r4), .val (.int r5), .val (.int r6), .val (.int v7), .unset, .unset, .unset] [(.int (2 : Int32)), (.int r2)])) t
    refine XS.iload X6.here hx rfl (hb hby at_212) rfl ?_
    show Steps p.tables e below (T6.setTop (mkF m 214 #[.val (.int x0), .val (.int x1), .val (.int x2), .val (.int x3), .val (.ref n0_0), .val (.int x5), .val (.int x6), .val (.int r1), .val (.int r2), .val (.int r3), .val (.int r4), .val (.int r5), .val (.int r6), .val (.int v7), .unset, .unset, .unset] [(.int r3), (.int (2 : Int32)), (.int r2)])) t
    refine XS.imul X6.here hx rfl (hb hby at_214) rfl ?_
    show Steps p.tables e below (T6.setTop (mkF m 215 #[.val (.int x0), .val (.int x1), .val (.int x2), .val (.int x3), .val (.ref n0_0), .val (.int x5), .val (.int x6), .val (.int r1), .val (.int r2), .val (.int r3), .val (.int r4), .val (.int r5), .val (.int r6), .val (.int v7), .unset, .unset, .unset] [(.int ((2 : Int32) * r3)), (.int r2)])) t
    refine XS.iadd X6.here hx rfl (hb hby at_215) rfl ?_
    show Steps p.tables e below (T6.setTop (mkF m 216 #[.val (.int x0), .val (.int x1), .val (.int x2), .val (.int x3), .val (.ref n0_0), .val (.int x5), .val (.int x6), .val (.int r1), .val (.int r2), .val (.int r3), .val (.int r4), .val (.int r5), .val (.int r6), .val (.int v7), .unset, .unset, .unset] [(.int (r2 + ((2 : Int32) * r3)))])) t
    refine XS.iconst X6.here hx rfl (hb hby at_216) ?_
    show Steps p.tables e below (T6.setTop (mkF m 217 #[.val (.int x0), .val (.int x1), .val (.int x2), .val (.int x3), .val (.ref n0_0), .val (.int x5), .val (.int x6), .val (.int r1), .val (.int r2), .val (.int r3), .val (.int r4), .val (.int r5), .val (.int r6), .val (.int v7), .unset, .unset, .unset] [(.int (3 : Int32)), (.int (r2 + ((2 : Int32) * r3)))])) t
    refine XS.iload X6.here hx rfl (hb hby at_217) rfl ?_
    show Steps p.tables e below (T6.setTop (mkF m 219 #[.val (.int x0), .val (.int x1), .val (.int x2), .val (.int x3), .val (.ref n0_0), .val (.int x5), .val (.int x6), .val (.int r1), .val (.int r2), .val (.int r3), .val (.int r4), .val (.int r5), .val (.int r6), .val (.int v7), .unset, .unset, .unset] [(.int r4), (.int (3 : Int32)), (.int (r2 + ((2 : Int32) * r3)))])) t
    refine XS.imul X6.here hx rfl (hb hby at_219) rfl ?_
    show Steps p.tables e below (T6.setTop (mkF m 220 #[.val (.int x0), .val (.int x1), .val (.int x2), .val (.int x3), .val (.ref n0_0), .val (.int x5), .val (.int x6), .val (.int r1), .val (.int r2), .val (.int r3), .val (.int r4), .val (.int r5), .val (.int r6), .val (.int v7), .unset, .unset, .unset] [(.int ((3 : Int32) * r4)), (.int (r2 + ((2 : Int32) * r3)))])) t
    refine XS.iadd X6.here hx rfl (hb hby at_220) rfl ?_
    show Steps p.tables e below (T6.setTop (mkF m 221 #[.val (.int x0), .val (.int x1), .val (.int x2), .val (.int x3), .val (.ref n0_0), .val (.int x5), .val (.int x6), .val (.int r1), .val (.int r2), .val (.int r3), .val (.int r4), .val (.int r5), .val (.int r6), .val (.int v7), .unset, .unset, .unset] [(.int ((r2 + ((2 : Int32) * r3)) + ((3 : Int32) * r4)))])) t
    refine XS.iconst X6.here hx rfl (hb hby at_221) ?_
    show Steps p.tables e below (T6.setTop (mkF m 222 #[.val (.int x0), .val (.int x1), .val (.int x2), .val (.int x3), .val (.ref n0_0), .val (.int x5), .val (.int x6), .val (.int r1), .val (.int r2), .val (.int r3), .val (.int r4), .val (.int r5), .val (.int r6), .val (.int v7), .unset, .unset, .unset] [(.int (4 : Int32)), (.int ((r2 + ((2 : Int32) * r3)) + ((3 : Int32) * r4)))])) t
    refine XS.iload X6.here hx rfl (hb hby at_222) rfl ?_
    show Steps p.tables e below (T6.setTop (mkF m 224 #[.val (.int x0), .val (.int x1), .val (.int x2), .val (.int x3), .val (.ref n0_0), .val (.int x5), .val (.int x6), .val (.int r1), .val (.int r2), .val (.int r3), .val (.int r4), .val (.int r5), .val (.int r6), .val (.int v7), .unset, .unset, .unset] [(.int r5), (.int (4 : Int32)), (.int ((r2 + ((2 : Int32) * r3)) + ((3 : Int32) * r4)))])) t
    refine XS.imul X6.here hx rfl (hb hby at_224) rfl ?_
    show Steps p.tables e below (T6.setTop (mkF m 225 #[.val (.int x0), .val (.int x1), .val (.int x2), .val (.int x3), .val (.ref n0_0), .val (.int x5), .val (.int x6), .val (.int r1), .val (.int r2), .val (.int r3), .val (.int r4), .val (.int r5), .val (.int r6), .val (.int v7), .unset, .unset, .unset] [(.int ((4 : Int32) * r5)), (.int ((r2 + ((2 : Int32) * r3)) + ((3 : Int32) * r4)))])) t
    refine XS.iadd X6.here hx rfl (hb hby at_225) rfl ?_
    show Steps p.tables e below (T6.setTop (mkF m 226 #[.val (.int x0), .val (.int x1), .val (.int x2), .val (.int x3), .val (.ref n0_0), .val (.int x5), .val (.int x6), .val (.int r1), .val (.int r2), .val (.int r3), .val (.int r4), .val (.int r5), .val (.int r6), .val (.int v7), .unset, .unset, .unset] [(.int (((r2 + ((2 : Int32) * r3)) + ((3 : Int32) * r4)) + ((4 : Int32) * r5)))])) t
    refine XS.iconst X6.here hx rfl (hb hby at_226) ?_
    show Steps p.tables e below (T6.setTop (mkF m 227 #[.val (.int x0), .val (.int x1), .val (.int x2), .val (.int x3), .val (.ref n0_0), .val (.int x5), .val (.int x6), .val (.int r1), .val (.int r2), .val (.int r3), .val (.int r4), .val (.int r5), .val (.int r6), .val (.int v7), .unset, .unset, .unset] [(.int (5 : Int32)), (.int (((r2 + ((2 : Int32) * r3)) + ((3 : Int32) * r4)) + ((4 : Int32) * r5)))])) t
    refine XS.iload X6.here hx rfl (hb hby at_227) rfl ?_
    show Steps p.tables e below (T6.setTop (mkF m 229 #[.val (.int x0), .val (.int x1), .val (.int x2), .val (.int x3), .val (.ref n0_0), .val (.int x5), .val (.int x6), .val (.int r1), .val (.int r2), .val (.int r3), .val (.int r4), .val (.int r5), .val (.int r6), .val (.int v7), .unset, .unset, .unset] [(.int r6), (.int (5 : Int32)), (.int (((r2 + ((2 : Int32) * r3)) + ((3 : Int32) * r4)) + ((4 : Int32) * r5)))])) t
    refine XS.imul X6.here hx rfl (hb hby at_229) rfl ?_
    show Steps p.tables e below (T6.setTop (mkF m 230 #[.val (.int x0), .val (.int x1), .val (.int x2), .val (.int x3), .val (.ref n0_0), .val (.int x5), .val (.int x6), .val (.int r1), .val (.int r2), .val (.int r3), .val (.int r4), .val (.int r5), .val (.int r6), .val (.int v7), .unset, .unset, .unset] [(.int ((5 : Int32) * r6)), (.int (((r2 + ((2 : Int32) * r3)) + ((3 : Int32) * r4)) + ((4 : Int32) * r5)))])) t
    refine XS.iadd X6.here hx rfl (hb hby at_230) rfl ?_
    exact k
  refine letE hr ?_; intro v8 hv8 hr
  rw [← hv8]
  refine Runs.via (T' := T6) (g' := (mkF m 240 #[.val (.int x0), .val (.int x1), .val (.int x2), .val (.int x3), .val (.ref n0_0), .val (.int x5), .val (.int x6), .val (.int r1), .val (.int r2), .val (.int r3), .val (.int r4), .val (.int r5), .val (.int r6), .val (.int v7), .val (.int v8), .unset, .unset] [(.int x6), (.int x5), (.int (0 : Int32)), (.ref n0_0)])) (fun t k => ?_) ?_
  · show Steps p.tables e below (T6.setTop (mkF m 231 #[.val (.int x0), .val (.int x1), .val (.int x2), .val (.int x3), .val (.ref n0_0), .val (.int x5), .val (.int x6), .val (.int r1), .val (.int r2), .val (.int r3), .val (.int r4), .val (.int r5), .val (.int r6), .val (.int v7), .unset, .unset, .unset] [(.int v8)])) t
    refine XS.istore X6.here hx rfl (hb hby at_231) rfl (l' := #[.val (.int x0), .val (.int x1), .val (.int x2), .val (.int x3), .val (.ref n0_0), .val (.int x5), .val (.int x6), .val (.int r1), .val (.int r2), .val (.int r3), .val (.int r4), .val (.int r5), .val (.int r6), .val (.int v7), .val (.int v8), .unset, .unset]) rfl ?_
    show Steps p.tables e below (T6.setTop (mkF m 233 #[.val (.int x0), .val (.int x1), .val (.int x2), .val (.int x3), .val (.ref n0_0), .val (.int x5), .val (.int x6), .val (.int r1), .val (.int r2), .val (.int r3), .val (.int r4), .val (.int r5), .val (.int r6), .val (.int v7), .val (.int v8), .unset, .unset] [])) t
    refine XS.aload X6.here hx rfl (hb hby at_233) rfl rfl ?_
    show Steps p.tables e below (T6.setTop (mkF m 235 #[.val (.int x0), .val (.int x1), .val (.int x2), .val (.int x3), .val (.ref n0_0), .val (.int x5), .val (.int x6), .val (.int r1), .val (.int r2), .val (.int r3), .val (.int r4), .val (.int r5), .val (.int r6), .val (.int v7), .val (.int v8), .unset, .unset] [(.ref n0_0)])) t
    refine XS.iconst X6.here hx rfl (hb hby at_235) ?_
    show Steps p.tables e below (T6.setTop (mkF m 236 #[.val (.int x0), .val (.int x1), .val (.int x2), .val (.int x3), .val (.ref n0_0), .val (.int x5), .val (.int x6), .val (.int r1), .val (.int r2), .val (.int r3), .val (.int r4), .val (.int r5), .val (.int r6), .val (.int v7), .val (.int v8), .unset, .unset] [(.int (0 : Int32)), (.ref n0_0)])) t
    refine XS.iload X6.here hx rfl (hb hby at_236) rfl ?_
    show Steps p.tables e below (T6.setTop (mkF m 238 #[.val (.int x0), .val (.int x1), .val (.int x2), .val (.int x3), .val (.ref n0_0), .val (.int x5), .val (.int x6), .val (.int r1), .val (.int r2), .val (.int r3), .val (.int r4), .val (.int r5), .val (.int r6), .val (.int v7), .val (.int v8), .unset, .unset] [(.int x5), (.int (0 : Int32)), (.ref n0_0)])) t
    refine XS.iload X6.here hx rfl (hb hby at_238) rfl ?_
    exact k
  refine bindE hr ?_; intro r9 hr9m hr
  obtain ⟨_, _, ⟨T9, L9, k9, n9⟩, -, X9, ⟨Lc9, hQ9, l9, y9, z9⟩, st9⟩ := Jvm.LawKit.callS X6 hx (y := (⟨"com/example/notewright/notewright/DecimalsScalePinLaw", "otherAt", "([BIII)I"⟩ : MethodName)) hown (mvT hZ (hw _ (List.mem_of_getElem? (i := 9) rfl))) (mvT hZ (hw _ (List.mem_of_getElem? (i := 10) rfl))) (mvT hZ (hw _ (List.mem_of_getElem? (i := 3) rfl))) (mvT hZ (hw _ (List.mem_of_getElem? (i := 11) rfl))) (by decide) (backOf (W := 0) (rm3 l Z a0 hw [] (0 : Int32) x5 x6 n0_0 q_n0_0 h0 n0 Z1 (by omega) A_n0_0_0 r9 hr9m) hZ (hw _ (List.mem_of_getElem? (i := 11) rfl)) (hw _ (List.mem_of_getElem? (i := 3) rfl)) (by decide) (by decide)) (g := (mkF m 240 #[.val (.int x0), .val (.int x1), .val (.int x2), .val (.int x3), .val (.ref n0_0), .val (.int x5), .val (.int x6), .val (.int r1), .val (.int r2), .val (.int r3), .val (.int r4), .val (.int r5), .val (.int r6), .val (.int v7), .val (.int v8), .unset, .unset] [(.int x6), (.int x5), (.int (0 : Int32)), (.ref n0_0)])) rfl (by rw [hml]; rfl) (argsL := [(.ref n0_0), (.int (0 : Int32)), (.int x5), (.int x6)]) (rest := []) (lenOf pd_1 rfl) rfl (by show 2 * 0 + _ ≤ _; exact Nat.le_of_eq rfl) (hb hby at_240) (fun _ _ => ⟨rfl, e6, (by show ((((((cells + 0) + 0) + 0) + 0) + 0) + 0) + 0 ≤ 16; omega), (by show ((((((slots + 0) + 0) + 0) + 0) + 0) + 0) + 0 ≤ 128; omega)⟩)
  dsimp only [Pt.U, Pt.locs, Pt.cells, Pt.slots] at X9 l9 y9 z9 st9 hQ9
  replace y9 := y9.symm; replace z9 := z9.symm; subst l9 y9 z9
  obtain ⟨rfl, N9q, e9⟩ := hQ9
  have N9 := Fr.app N6 N9q
  refine Runs.via (T' := T9) (g' := (mkF m 243 #[.val (.int x0), .val (.int x1), .val (.int x2), .val (.int x3), .val (.ref n0_0), .val (.int x5), .val (.int x6), .val (.int r1), .val (.int r2), .val (.int r3), .val (.int r4), .val (.int r5), .val (.int r6), .val (.int v7), .val (.int v8), .unset, .unset] [(.int r9)])) (fun t k => st9 _ k) ?_
  refine Runs.via (T' := T9) (g' := (mkF m 250 #[.val (.int x0), .val (.int x1), .val (.int x2), .val (.int x3), .val (.ref n0_0), .val (.int x5), .val (.int x6), .val (.int r1), .val (.int r2), .val (.int r3), .val (.int r4), .val (.int r5), .val (.int r6), .val (.int v7), .val (.int v8), .unset, .unset] [(.int x6), (.int x5), (.int (1 : Int32)), (.ref n0_0), (.int r9)])) (fun t k => ?_) ?_
  · show Steps p.tables e below (T9.setTop (mkF m 243 #[.val (.int x0), .val (.int x1), .val (.int x2), .val (.int x3), .val (.ref n0_0), .val (.int x5), .val (.int x6), .val (.int r1), .val (.int r2), .val (.int r3), .val (.int r4), .val (.int r5), .val (.int r6), .val (.int v7), .val (.int v8), .unset, .unset] [(.int r9)])) t
    refine XS.aload X9.here hx rfl (hb hby at_243) rfl rfl ?_
    show Steps p.tables e below (T9.setTop (mkF m 245 #[.val (.int x0), .val (.int x1), .val (.int x2), .val (.int x3), .val (.ref n0_0), .val (.int x5), .val (.int x6), .val (.int r1), .val (.int r2), .val (.int r3), .val (.int r4), .val (.int r5), .val (.int r6), .val (.int v7), .val (.int v8), .unset, .unset] [(.ref n0_0), (.int r9)])) t
    refine XS.iconst X9.here hx rfl (hb hby at_245) ?_
    show Steps p.tables e below (T9.setTop (mkF m 246 #[.val (.int x0), .val (.int x1), .val (.int x2), .val (.int x3), .val (.ref n0_0), .val (.int x5), .val (.int x6), .val (.int r1), .val (.int r2), .val (.int r3), .val (.int r4), .val (.int r5), .val (.int r6), .val (.int v7), .val (.int v8), .unset, .unset] [(.int (1 : Int32)), (.ref n0_0), (.int r9)])) t
    refine XS.iload X9.here hx rfl (hb hby at_246) rfl ?_
    show Steps p.tables e below (T9.setTop (mkF m 248 #[.val (.int x0), .val (.int x1), .val (.int x2), .val (.int x3), .val (.ref n0_0), .val (.int x5), .val (.int x6), .val (.int r1), .val (.int r2), .val (.int r3), .val (.int r4), .val (.int r5), .val (.int r6), .val (.int v7), .val (.int v8), .unset, .unset] [(.int x5), (.int (1 : Int32)), (.ref n0_0), (.int r9)])) t
    refine XS.iload X9.here hx rfl (hb hby at_248) rfl ?_
    exact k
  refine bindE hr ?_; intro r10 hr10m hr
  obtain ⟨_, _, ⟨T10, L10, k10, n10⟩, -, X10, ⟨Lc10, hQ10, l10, y10, z10⟩, st10⟩ := Jvm.LawKit.callS X9 hx (y := (⟨"com/example/notewright/notewright/DecimalsScalePinLaw", "otherAt", "([BIII)I"⟩ : MethodName)) hown (mvT hZ (hw _ (List.mem_of_getElem? (i := 9) rfl))) (mvT hZ (hw _ (List.mem_of_getElem? (i := 10) rfl))) (mvT hZ (hw _ (List.mem_of_getElem? (i := 3) rfl))) (mvT hZ (hw _ (List.mem_of_getElem? (i := 11) rfl))) (by decide) (backOf (W := 1) (rm3 l Z a0 hw [] (1 : Int32) x5 x6 n0_0 q_n0_0 h0 n0 Z1 (by omega) A_n0_0_0 r10 hr10m) hZ (hw _ (List.mem_of_getElem? (i := 11) rfl)) (hw _ (List.mem_of_getElem? (i := 3) rfl)) (by decide) (by decide)) (g := (mkF m 250 #[.val (.int x0), .val (.int x1), .val (.int x2), .val (.int x3), .val (.ref n0_0), .val (.int x5), .val (.int x6), .val (.int r1), .val (.int r2), .val (.int r3), .val (.int r4), .val (.int r5), .val (.int r6), .val (.int v7), .val (.int v8), .unset, .unset] [(.int x6), (.int x5), (.int (1 : Int32)), (.ref n0_0), (.int r9)])) rfl (by rw [hml]; rfl) (argsL := [(.ref n0_0), (.int (1 : Int32)), (.int x5), (.int x6)]) (rest := [(.int r9)]) (lenOf pd_1 rfl) rfl (by show 2 * 0 + _ ≤ _; exact Nat.le_of_eq rfl) (hb hby at_250) (fun _ _ => ⟨rfl, e9, (by show (((((((cells + 0) + 0) + 0) + 0) + 0) + 0) + 0) + 0 ≤ 16; omega), (by show (((((((slots + 0) + 0) + 0) + 0) + 0) + 0) + 0) + 0 ≤ 128; omega)⟩)
  dsimp only [Pt.U, Pt.locs, Pt.cells, Pt.slots] at X10 l10 y10 z10 st10 hQ10
  replace y10 := y10.symm; replace z10 := z10.symm; subst l10 y10 z10
  obtain ⟨rfl, N10q, e10⟩ := hQ10
  have N10 := Fr.app N9 N10q
  refine Runs.via (T' := T10) (g' := (mkF m 253 #[.val (.int x0), .val (.int x1), .val (.int x2), .val (.int x3), .val (.ref n0_0), .val (.int x5), .val (.int x6), .val (.int r1), .val (.int r2), .val (.int r3), .val (.int r4), .val (.int r5), .val (.int r6), .val (.int v7), .val (.int v8), .unset, .unset] [(.int r10), (.int r9)])) (fun t k => st10 _ k) ?_
  refine Runs.via (T' := T10) (g' := (mkF m 261 #[.val (.int x0), .val (.int x1), .val (.int x2), .val (.int x3), .val (.ref n0_0), .val (.int x5), .val (.int x6), .val (.int r1), .val (.int r2), .val (.int r3), .val (.int r4), .val (.int r5), .val (.int r6), .val (.int v7), .val (.int v8), .unset, .unset] [(.int x6), (.int x5), (.int (2 : Int32)), (.ref n0_0), (.int (r9 + r10))])) (fun t k => ?_) ?_
  · show Steps p.tables e below (T10.setTop (mkF m 253 #[.val (.int x0), .val (.int x1), .val (.int x2), .val (.int x3), .val (.ref n0_0), .val (.int x5), .val (.int x6), .val (.int r1), .val (.int r2), .val (.int r3), .val (.int r4), .val (.int r5), .val (.int r6), .val (.int v7), .val (.int v8), .unset, .unset] [(.int r10), (.int r9)])) t
    refine XS.iadd X10.here hx rfl (hb hby at_253) rfl ?_
    show Steps p.tables e below (T10.setTop (mkF m 254 #[.val (.int x0), .val (.int x1), .val (.int x2), .val (.int x3), .val (.ref n0_0), .val (.int x5), .val (.int x6), .val (.int r1), .val (.int r2), .val (.int r3), .val (.int r4), .val (.int r5), .val (.int r6), .val (.int v7), .val (.int v8), .unset, .unset] [(.int (r9 + r10))])) t
    refine XS.aload X10.here hx rfl (hb hby at_254) rfl rfl ?_
    show Steps p.tables e below (T10.setTop (mkF m 256 #[.val (.int x0), .val (.int x1), .val (.int x2), .val (.int x3), .val (.ref n0_0), .val (.int x5), .val (.int x6), .val (.int r1), .val (.int r2), .val (.int r3), .val (.int r4), .val (.int r5), .val (.int r6), .val (.int v7), .val (.int v8), .unset, .unset] [(.ref n0_0), (.int (r9 + r10))])) t
    refine XS.iconst X10.here hx rfl (hb hby at_256) ?_
    show Steps p.tables e below (T10.setTop (mkF m 257 #[.val (.int x0), .val (.int x1), .val (.int x2), .val (.int x3), .val (.ref n0_0), .val (.int x5), .val (.int x6), .val (.int r1), .val (.int r2), .val (.int r3), .val (.int r4), .val (.int r5), .val (.int r6), .val (.int v7), .val (.int v8), .unset, .unset] [(.int (2 : Int32)), (.ref n0_0), (.int (r9 + r10))])) t
    refine XS.iload X10.here hx rfl (hb hby at_257) rfl ?_
    show Steps p.tables e below (T10.setTop (mkF m 259 #[.val (.int x0), .val (.int x1), .val (.int x2), .val (.int x3), .val (.ref n0_0), .val (.int x5), .val (.int x6), .val (.int r1), .val (.int r2), .val (.int r3), .val (.int r4), .val (.int r5), .val (.int r6), .val (.int v7), .val (.int v8), .unset, .unset] [(.int x5), (.int (2 : Int32)), (.ref n0_0), (.int (r9 + r10))])) t
    refine XS.iload X10.here hx rfl (hb hby at_259) rfl ?_
    exact k
  refine bindE hr ?_; intro r11 hr11m hr
  obtain ⟨_, _, ⟨T11, L11, k11, n11⟩, -, X11, ⟨Lc11, hQ11, l11, y11, z11⟩, st11⟩ := Jvm.LawKit.callS X10 hx (y := (⟨"com/example/notewright/notewright/DecimalsScalePinLaw", "otherAt", "([BIII)I"⟩ : MethodName)) hown (mvT hZ (hw _ (List.mem_of_getElem? (i := 9) rfl))) (mvT hZ (hw _ (List.mem_of_getElem? (i := 10) rfl))) (mvT hZ (hw _ (List.mem_of_getElem? (i := 3) rfl))) (mvT hZ (hw _ (List.mem_of_getElem? (i := 11) rfl))) (by decide) (backOf (W := 1) (rm3 l Z a0 hw [] (2 : Int32) x5 x6 n0_0 q_n0_0 h0 n0 Z1 (by omega) A_n0_0_0 r11 hr11m) hZ (hw _ (List.mem_of_getElem? (i := 11) rfl)) (hw _ (List.mem_of_getElem? (i := 3) rfl)) (by decide) (by decide)) (g := (mkF m 261 #[.val (.int x0), .val (.int x1), .val (.int x2), .val (.int x3), .val (.ref n0_0), .val (.int x5), .val (.int x6), .val (.int r1), .val (.int r2), .val (.int r3), .val (.int r4), .val (.int r5), .val (.int r6), .val (.int v7), .val (.int v8), .unset, .unset] [(.int x6), (.int x5), (.int (2 : Int32)), (.ref n0_0), (.int (r9 + r10))])) rfl (by rw [hml]; rfl) (argsL := [(.ref n0_0), (.int (2 : Int32)), (.int x5), (.int x6)]) (rest := [(.int (r9 + r10))]) (lenOf pd_1 rfl) rfl (by show 2 * 0 + _ ≤ _; exact Nat.le_of_eq rfl) (hb hby at_261) (fun _ _ => ⟨rfl, e10, (by show ((((((((cells + 0) + 0) + 0) + 0) + 0) + 0) + 0) + 0) + 0 ≤ 16; omega), (by show ((((((((slots + 0) + 0) + 0) + 0) + 0) + 0) + 0) + 0) + 0 ≤ 128; omega)⟩)
  dsimp only [Pt.U, Pt.locs, Pt.cells, Pt.slots] at X11 l11 y11 z11 st11 hQ11
  replace y11 := y11.symm; replace z11 := z11.symm; subst l11 y11 z11
  obtain ⟨rfl, N11q, e11⟩ := hQ11
  have N11 := Fr.app N10 N11q
  refine Runs.via (T' := T11) (g' := (mkF m 264 #[.val (.int x0), .val (.int x1), .val (.int x2), .val (.int x3), .val (.ref n0_0), .val (.int x5), .val (.int x6), .val (.int r1), .val (.int r2), .val (.int r3), .val (.int r4), .val (.int r5), .val (.int r6), .val (.int v7), .val (.int v8), .unset, .unset] [(.int r11), (.int (r9 + r10))])) (fun t k => st11 _ k) ?_
  refine Runs.via (T' := T11) (g' := (mkF m 272 #[.val (.int x0), .val (.int x1), .val (.int x2), .val (.int x3), .val (.ref n0_0), .val (.int x5), .val (.int x6), .val (.int r1), .val (.int r2), .val (.int r3), .val (.int r4), .val (.int r5), .val (.int r6), .val (.int v7), .val (.int v8), .unset, .unset] [(.int x6), (.int x5), (.int (3 : Int32)), (.ref n0_0), (.int ((r9 + r10) + r11))])) (fun t k => ?_) ?_
  · show Steps p.tables e below (T11.setTop (mkF m 264 #[.val (.int x0), .val (.int x1), .val (.int x2), .val (.int x3), .val (.ref n0_0), .val (.int x5), .val (.int x6), .val (.int r1), .val (.int r2), .val (.int r3), .val (.int r4), .val (.int r5), .val (.int r6), .val (.int v7), .val (.int v8), .unset, .unset] [(.int r11), (.int (r9 + r10))])) t
    refine XS.iadd X11.here hx rfl (hb hby at_264) rfl ?_
    show Steps p.tables e below (T11.setTop (mkF m 265 #[.val (.int x0), .val (.int x1), .val (.int x2), .val (.int x3), .val (.ref n0_0), .val (.int x5), .val (.int x6), .val (.int r1), .val (.int r2), .val (.int r3), .val (.int r4), .val (.int r5), .val (.int r6), .val (.int v7), .val (.int v8), .unset, .unset] [(.int ((r9 + r10) + r11))])) t
    refine XS.aload X11.here hx rfl (hb hby at_265) rfl rfl ?_
    show Steps p.tables e below (T11.setTop (mkF m 267 #[.val (.int x0), .val (.int x1), .val (.int x2), .val (.int x3), .val (.ref n0_0), .val (.int x5), .val (.int x6), .val (.int r1), .val (.int r2), .val (.int r3), .val (.int r4), .val (.int r5), .val (.int r6), .val (.int v7), .val (.int v8), .unset, .unset] [(.ref n0_0), (.int ((r9 + r10) + r11))])) t
    refine XS.iconst X11.here hx rfl (hb hby at_267) ?_
    show Steps p.tables e below (T11.setTop (mkF m 268 #[.val (.int x0), .val (.int x1), .val (.int x2), .val (.int x3), .val (.ref n0_0), .val (.int x5), .val (.int x6), .val (.int r1), .val (.int r2), .val (.int r3), .val (.int r4), .val (.int r5), .val (.int r6), .val (.int v7), .val (.int v8), .unset, .unset] [(.int (3 : Int32)), (.ref n0_0), (.int ((r9 + r10) + r11))])) t
    refine XS.iload X11.here hx rfl (hb hby at_268) rfl ?_
    show Steps p.tables e below (T11.setTop (mkF m 270 #[.val (.int x0), .val (.int x1), .val (.int x2), .val (.int x3), .val (.ref n0_0), .val (.int x5), .val (.int x6), .val (.int r1), .val (.int r2), .val (.int r3), .val (.int r4), .val (.int r5), .val (.int r6), .val (.int v7), .val (.int v8), .unset, .unset] [(.int x5), (.int (3 : Int32)), (.ref n0_0), (.int ((r9 + r10) + r11))])) t
    refine XS.iload X11.here hx rfl (hb hby at_270) rfl ?_
    exact k
  refine bindE hr ?_; intro r12 hr12m hr
  obtain ⟨_, _, ⟨T12, L12, k12, n12⟩, -, X12, ⟨Lc12, hQ12, l12, y12, z12⟩, st12⟩ := Jvm.LawKit.callS X11 hx (y := (⟨"com/example/notewright/notewright/DecimalsScalePinLaw", "otherAt", "([BIII)I"⟩ : MethodName)) hown (mvT hZ (hw _ (List.mem_of_getElem? (i := 9) rfl))) (mvT hZ (hw _ (List.mem_of_getElem? (i := 10) rfl))) (mvT hZ (hw _ (List.mem_of_getElem? (i := 3) rfl))) (mvT hZ (hw _ (List.mem_of_getElem? (i := 11) rfl))) (by decide) (backOf (W := 1) (rm3 l Z a0 hw [] (3 : Int32) x5 x6 n0_0 q_n0_0 h0 n0 Z1 (by omega) A_n0_0_0 r12 hr12m) hZ (hw _ (List.mem_of_getElem? (i := 11) rfl)) (hw _ (List.mem_of_getElem? (i := 3) rfl)) (by decide) (by decide)) (g := (mkF m 272 #[.val (.int x0), .val (.int x1), .val (.int x2), .val (.int x3), .val (.ref n0_0), .val (.int x5), .val (.int x6), .val (.int r1), .val (.int r2), .val (.int r3), .val (.int r4), .val (.int r5), .val (.int r6), .val (.int v7), .val (.int v8), .unset, .unset] [(.int x6), (.int x5), (.int (3 : Int32)), (.ref n0_0), (.int ((r9 + r10) + r11))])) rfl (by rw [hml]; rfl) (argsL := [(.ref n0_0), (.int (3 : Int32)), (.int x5), (.int x6)]) (rest := [(.int ((r9 + r10) + r11))]) (lenOf pd_1 rfl) rfl (by show 2 * 0 + _ ≤ _; exact Nat.le_of_eq rfl) (hb hby at_272) (fun _ _ => ⟨rfl, e11, (by show (((((((((cells + 0) + 0) + 0) + 0) + 0) + 0) + 0) + 0) + 0) + 0 ≤ 16; omega), (by show (((((((((slots + 0) + 0) + 0) + 0) + 0) + 0) + 0) + 0) + 0) + 0 ≤ 128; omega)⟩)
  dsimp only [Pt.U, Pt.locs, Pt.cells, Pt.slots] at X12 l12 y12 z12 st12 hQ12
  replace y12 := y12.symm; replace z12 := z12.symm; subst l12 y12 z12
  obtain ⟨rfl, N12q, e12⟩ := hQ12
  have N12 := Fr.app N11 N12q
  refine Runs.via (T' := T12) (g' := (mkF m 275 #[.val (.int x0), .val (.int x1), .val (.int x2), .val (.int x3), .val (.ref n0_0), .val (.int x5), .val (.int x6), .val (.int r1), .val (.int r2), .val (.int r3), .val (.int r4), .val (.int r5), .val (.int r6), .val (.int v7), .val (.int v8), .unset, .unset] [(.int r12), (.int ((r9 + r10) + r11))])) (fun t k => st12 _ k) ?_
  refine Runs.via (T' := T12) (g' := (mkF m 283 #[.val (.int x0), .val (.int x1), .val (.int x2), .val (.int x3), .val (.ref n0_0), .val (.int x5), .val (.int x6), .val (.int r1), .val (.int r2), .val (.int r3), .val (.int r4), .val (.int r5), .val (.int r6), .val (.int v7), .val (.int v8), .unset, .unset] [(.int x6), (.int x5), (.int (4 : Int32)), (.ref n0_0), (.int (((r9 + r10) + r11) + r12))])) (fun t k => ?_) ?_
  · show Steps p.tables e below (T12.setTop (mkF m 275 #[.val (.int x0), .val (.int x1), .val (.int x2), .val (.int x3), .val (.ref n0_0), .val (.int x5), .val (.int x6), .val (.int r1), .val (.int r2), .val (.int r3), .val (.int r4), .val (.int r5), .val (.int r6), .val (.int v7), .val (.int v8), .unset, .unset] [(.int r12), (.int ((r9 + r10) + r11))])) t
    refine XS.iadd X12.here hx rfl (hb hby at_275) rfl ?_
    show Steps p.tables e below (T12.setTop (mkF m 276 #[.val (.int x0), .val (.int x1), .val (.int x2), .val (.int x3), .val (.ref n0_0), .val (.int x5), .val (.int x6), .val (.int r1), .val (.int r2), .val (.int r3), .val (.int r4), .val (.int r5), .val (.int r6), .val (.int v7), .val (.int v8), .unset, .unset] [(.int (((r9 + r10) + r11) + r12))])) t
    refine XS.aload X12.here hx rfl (hb hby at_276) rfl rfl ?_
    show Steps p.tables e below (T12.setTop (mkF m 278 #[.val (.int x0), .val (.int x1), .val (.int x2), .val (.int x3), .val (.ref n0_0), .val (.int x5), .val (.int x6), .val (.int r1), .val (.int r2), .val (.int r3), .val (.int r4), .val (.int r5), .val (.int r6), .val (.int v7), .val (.int v8), .unset, .unset] [(.ref n0_0), (.int (((r9 + r10) + r11) + r12))])) t
    refine XS.iconst X12.here hx rfl (hb hby at_278) ?_
    show Steps p.tables e below (T12.setTop (mkF m 279 #[.val (.int x0), .val (.int x1), .val (.int x2), .val (.int x3), .val (.ref n0_0), .val (.int x5), .val (.int x6), .val (.int r1), .val (.int r2), .val (.int r3), .val (.int r4), .val (.int r5), .val (.int r6), .val (.int v7), .val (.int v8), .unset, .unset] [(.int (4 : Int32)), (.ref n0_0), (.int (((r9 + r10) + r11) + r12))])) t
    refine XS.iload X12.here hx rfl (hb hby at_279) rfl ?_
    show Steps p.tables e below (T12.setTop (mkF m 281 #[.val (.int x0), .val (.int x1), .val (.int x2), .val (.int x3), .val (.ref n0_0), .val (.int x5), .val (.int x6), .val (.int r1), .val (.int r2), .val (.int r3), .val (.int r4), .val (.int r5), .val (.int r6), .val (.int v7), .val (.int v8), .unset, .unset] [(.int x5), (.int (4 : Int32)), (.ref n0_0), (.int (((r9 + r10) + r11) + r12))])) t
    refine XS.iload X12.here hx rfl (hb hby at_281) rfl ?_
    exact k
  refine bindE hr ?_; intro r13 hr13m hr
  obtain ⟨_, _, ⟨T13, L13, k13, n13⟩, -, X13, ⟨Lc13, hQ13, l13, y13, z13⟩, st13⟩ := Jvm.LawKit.callS X12 hx (y := (⟨"com/example/notewright/notewright/DecimalsScalePinLaw", "otherAt", "([BIII)I"⟩ : MethodName)) hown (mvT hZ (hw _ (List.mem_of_getElem? (i := 9) rfl))) (mvT hZ (hw _ (List.mem_of_getElem? (i := 10) rfl))) (mvT hZ (hw _ (List.mem_of_getElem? (i := 3) rfl))) (mvT hZ (hw _ (List.mem_of_getElem? (i := 11) rfl))) (by decide) (backOf (W := 1) (rm3 l Z a0 hw [] (4 : Int32) x5 x6 n0_0 q_n0_0 h0 n0 Z1 (by omega) A_n0_0_0 r13 hr13m) hZ (hw _ (List.mem_of_getElem? (i := 11) rfl)) (hw _ (List.mem_of_getElem? (i := 3) rfl)) (by decide) (by decide)) (g := (mkF m 283 #[.val (.int x0), .val (.int x1), .val (.int x2), .val (.int x3), .val (.ref n0_0), .val (.int x5), .val (.int x6), .val (.int r1), .val (.int r2), .val (.int r3), .val (.int r4), .val (.int r5), .val (.int r6), .val (.int v7), .val (.int v8), .unset, .unset] [(.int x6), (.int x5), (.int (4 : Int32)), (.ref n0_0), (.int (((r9 + r10) + r11) + r12))])) rfl (by rw [hml]; rfl) (argsL := [(.ref n0_0), (.int (4 : Int32)), (.int x5), (.int x6)]) (rest := [(.int (((r9 + r10) + r11) + r12))]) (lenOf pd_1 rfl) rfl (by show 2 * 0 + _ ≤ _; exact Nat.le_of_eq rfl) (hb hby at_283) (fun _ _ => ⟨rfl, e12, (by show ((((((((((cells + 0) + 0) + 0) + 0) + 0) + 0) + 0) + 0) + 0) + 0) + 0 ≤ 16; omega), (by show ((((((((((slots + 0) + 0) + 0) + 0) + 0) + 0) + 0) + 0) + 0) + 0) + 0 ≤ 128; omega)⟩)
  dsimp only [Pt.U, Pt.locs, Pt.cells, Pt.slots] at X13 l13 y13 z13 st13 hQ13
  replace y13 := y13.symm; replace z13 := z13.symm; subst l13 y13 z13
  obtain ⟨rfl, N13q, e13⟩ := hQ13
  have N13 := Fr.app N12 N13q
  refine Runs.via (T' := T13) (g' := (mkF m 286 #[.val (.int x0), .val (.int x1), .val (.int x2), .val (.int x3), .val (.ref n0_0), .val (.int x5), .val (.int x6), .val (.int r1), .val (.int r2), .val (.int r3), .val (.int r4), .val (.int r5), .val (.int r6), .val (.int v7), .val (.int v8), .unset, .unset] [(.int r13), (.int (((r9 + r10) + r11) + r12))])) (fun t k => st13 _ k) ?_
  refine Runs.via (T' := T13) (g' := (mkF m 294 #[.val (.int x0), .val (.int x1), .val (.int x2), .val (.int x3), .val (.ref n0_0), .val (.int x5), .val (.int x6), .val (.int r1), .val (.int r2), .val (.int r3), .val (.int r4), .val (.int r5), .val (.int r6), .val (.int v7), .val (.int v8), .unset, .unset] [(.int x6), (.int x5), (.int (5 : Int32)), (.ref n0_0), (.int ((((r9 + r10) + r11) + r12) + r13))])) (fun t k => ?_) ?_
  · show Steps p.tables e below (T13.setTop (mkF m 286 #[.val (.int x0), .val (.int x1), .val (.int x2), .val (.int x3), .val (.ref n0_0), .val (.int x5), .val (.int x6), .val (.int r1), .val (.int r2), .val (.int r3), .val (.int r4), .val (.int r5), .val (.int r6), .val (.int v7), .val (.int v8), .unset, .unset] [(.int r13), (.int (((r9 + r10) + r11) + r12))])) t
    refine XS.iadd X13.here hx rfl (hb hby at_286) rfl ?_
    show Steps p.tables e below (T13.setTop (mkF m 287 #[.val (.int x0), .val (.int x1), .val (.int x2), .val (.int x3), .val (.ref n0_0), .val (.int x5), .val (.int x6), .val (.int r1), .val (.int r2), .val (.int r3), .val (.int r4), .val (.int r5), .val (.int r6), .val (.int v7), .val (.int v8), .unset, .unset] [(.int ((((r9 + r10) + r11) + r12) + r13))])) t
    refine XS.aload X13.here hx rfl (hb hby at_287) rfl rfl ?_
    show Steps p.tables e below (T13.setTop (mkF m 289 #[.val (.int x0), .val (.int x1), .val (.int x2), .val (.int x3), .val (.ref n0_0), .val (.int x5), .val (.int x6), .val (.int r1), .val (.int r2), .val (.int r3), .val (.int r4), .val (.int r5), .val (.int r6), .val (.int v7), .val (.int v8), .unset, .unset] [(.ref n0_0), (.int ((((r9 + r10) + r11) + r12) + r13))])) t
    refine XS.iconst X13.here hx rfl (hb hby at_289) ?_
    show Steps p.tables e below (T13.setTop (mkF m 290 #[.val (.int x0), .val (.int x1), .val (.int x2), .val (.int x3), .val (.ref n0_0), .val (.int x5), .val (.int x6), .val (.int r1), .val (.int r2), .val (.int r3), .val (.int r4), .val (.int r5), .val (.int r6), .val (.int v7), .val (.int v8), .unset, .unset] [(.int (5 : Int32)), (.ref n0_0), (.int ((((r9 + r10) + r11) + r12) + r13))])) t
    refine XS.iload X13.here hx rfl (hb hby at_290) rfl ?_
    show Steps p.tables e below (T13.setTop (mkF m 292 #[.val (.int x0), .val (.int x1), .val (.int x2), .val (.int x3), .val (.ref n0_0), .val (.int x5), .val (.int x6), .val (.int r1), .val (.int r2), .val (.int r3), .val (.int r4), .val (.int r5), .val (.int r6), .val (.int v7), .val (.int v8), .unset, .unset] [(.int x5), (.int (5 : Int32)), (.ref n0_0), (.int ((((r9 + r10) + r11) + r12) + r13))])) t
    refine XS.iload X13.here hx rfl (hb hby at_292) rfl ?_
    exact k
  refine bindE hr ?_; intro r14 hr14m hr
  obtain ⟨_, _, ⟨T14, L14, k14, n14⟩, -, X14, ⟨Lc14, hQ14, l14, y14, z14⟩, st14⟩ := Jvm.LawKit.callS X13 hx (y := (⟨"com/example/notewright/notewright/DecimalsScalePinLaw", "otherAt", "([BIII)I"⟩ : MethodName)) hown (mvT hZ (hw _ (List.mem_of_getElem? (i := 9) rfl))) (mvT hZ (hw _ (List.mem_of_getElem? (i := 10) rfl))) (mvT hZ (hw _ (List.mem_of_getElem? (i := 3) rfl))) (mvT hZ (hw _ (List.mem_of_getElem? (i := 11) rfl))) (by decide) (backOf (W := 1) (rm3 l Z a0 hw [] (5 : Int32) x5 x6 n0_0 q_n0_0 h0 n0 Z1 (by omega) A_n0_0_0 r14 hr14m) hZ (hw _ (List.mem_of_getElem? (i := 11) rfl)) (hw _ (List.mem_of_getElem? (i := 3) rfl)) (by decide) (by decide)) (g := (mkF m 294 #[.val (.int x0), .val (.int x1), .val (.int x2), .val (.int x3), .val (.ref n0_0), .val (.int x5), .val (.int x6), .val (.int r1), .val (.int r2), .val (.int r3), .val (.int r4), .val (.int r5), .val (.int r6), .val (.int v7), .val (.int v8), .unset, .unset] [(.int x6), (.int x5), (.int (5 : Int32)), (.ref n0_0), (.int ((((r9 + r10) + r11) + r12) + r13))])) rfl (by rw [hml]; rfl) (argsL := [(.ref n0_0), (.int (5 : Int32)), (.int x5), (.int x6)]) (rest := [(.int ((((r9 + r10) + r11) + r12) + r13))]) (lenOf pd_1 rfl) rfl (by show 2 * 0 + _ ≤ _; exact Nat.le_of_eq rfl) (hb hby at_294) (fun _ _ => ⟨rfl, e13, (by show (((((((((((cells + 0) + 0) + 0) + 0) + 0) + 0) + 0) + 0) + 0) + 0) + 0) + 0 ≤ 16; omega), (by show (((((((((((slots + 0) + 0) + 0) + 0) + 0) + 0) + 0) + 0) + 0) + 0) + 0) + 0 ≤ 128; omega)⟩)
  dsimp only [Pt.U, Pt.locs, Pt.cells, Pt.slots] at X14 l14 y14 z14 st14 hQ14
  replace y14 := y14.symm; replace z14 := z14.symm; subst l14 y14 z14
  obtain ⟨rfl, N14q, e14⟩ := hQ14
  have N14 := Fr.app N13 N14q
  refine Runs.via (T' := T14) (g' := (mkF m 297 #[.val (.int x0), .val (.int x1), .val (.int x2), .val (.int x3), .val (.ref n0_0), .val (.int x5), .val (.int x6), .val (.int r1), .val (.int r2), .val (.int r3), .val (.int r4), .val (.int r5), .val (.int r6), .val (.int v7), .val (.int v8), .unset, .unset] [(.int r14), (.int ((((r9 + r10) + r11) + r12) + r13))])) (fun t k => st14 _ k) ?_
  refine Runs.via (T' := T14) (g' := (mkF m 298 #[.val (.int x0), .val (.int x1), .val (.int x2), .val (.int x3), .val (.ref n0_0), .val (.int x5), .val (.int x6), .val (.int r1), .val (.int r2), .val (.int r3), .val (.int r4), .val (.int r5), .val (.int r6), .val (.int v7), .val (.int v8), .unset, .unset] [(.int (((((r9 + r10) + r11) + r12) + r13) + r14))])) (fun t k => ?_) ?_
  · show Steps p.tables e below (T14.setTop (mkF m 297 #[.val (.int x0), .val (.int x1), .val (.int x2), .val (.int x3), .val (.ref n0_0), .val (.int x5), .val (.int x6), .val (.int r1), .val (.int r2), .val (.int r3), .val (.int r4), .val (.int r5), .val (.int r6), .val (.int v7), .val (.int v8), .unset, .unset] [(.int r14), (.int ((((r9 + r10) + r11) + r12) + r13))])) t
    refine XS.iadd X14.here hx rfl (hb hby at_297) rfl ?_
    exact k
  refine letE hr ?_; intro v15 hv15 hr
  rw [← hv15]
  refine Runs.via (T' := T14) (g' := (mkF m 304 #[.val (.int x0), .val (.int x1), .val (.int x2), .val (.int x3), .val (.ref n0_0), .val (.int x5), .val (.int x6), .val (.int r1), .val (.int r2), .val (.int r3), .val (.int r4), .val (.int r5), .val (.int r6), .val (.int v7), .val (.int v8), .val (.int v15), .unset] [(.int x5), (.int x6)])) (fun t k => ?_) ?_
  · show Steps p.tables e below (T14.setTop (mkF m 298 #[.val (.int x0), .val (.int x1), .val (.int x2), .val (.int x3), .val (.ref n0_0), .val (.int x5), .val (.int x6), .val (.int r1), .val (.int r2), .val (.int r3), .val (.int r4), .val (.int r5), .val (.int r6), .val (.int v7), .val (.int v8), .unset, .unset] [(.int v15)])) t
    refine XS.istore X14.here hx rfl (hb hby at_298) rfl (l' := #[.val (.int x0), .val (.int x1), .val (.int x2), .val (.int x3), .val (.ref n0_0), .val (.int x5), .val (.int x6), .val (.int r1), .val (.int r2), .val (.int r3), .val (.int r4), .val (.int r5), .val (.int r6), .val (.int v7), .val (.int v8), .val (.int v15), .unset]) rfl ?_
    show Steps p.tables e below (T14.setTop (mkF m 300 #[.val (.int x0), .val (.int x1), .val (.int x2), .val (.int x3), .val (.ref n0_0), .val (.int x5), .val (.int x6), .val (.int r1), .val (.int r2), .val (.int r3), .val (.int r4), .val (.int r5), .val (.int r6), .val (.int v7), .val (.int v8), .val (.int v15), .unset] [])) t
    refine XS.iload X14.here hx rfl (hb hby at_300) rfl ?_
    show Steps p.tables e below (T14.setTop (mkF m 302 #[.val (.int x0), .val (.int x1), .val (.int x2), .val (.int x3), .val (.ref n0_0), .val (.int x5), .val (.int x6), .val (.int r1), .val (.int r2), .val (.int r3), .val (.int r4), .val (.int r5), .val (.int r6), .val (.int v7), .val (.int v8), .val (.int v15), .unset] [(.int x6)])) t
    refine XS.iload X14.here hx rfl (hb hby at_302) rfl ?_
    exact k
  refine iteE hr (fun hc16 hr => ?_) (fun hc16 hr => ?_)
  · refine Runs.via (T' := T14) (g' := (mkF m 313 #[.val (.int x0), .val (.int x1), .val (.int x2), .val (.int x3), .val (.ref n0_0), .val (.int x5), .val (.int x6), .val (.int r1), .val (.int r2), .val (.int r3), .val (.int r4), .val (.int r5), .val (.int r6), .val (.int v7), .val (.int v8), .val (.int v15), .unset] [])) (fun t k => ?_) ?_
    · show Steps p.tables e below (T14.setTop (mkF m 304 #[.val (.int x0), .val (.int x1), .val (.int x2), .val (.int x3), .val (.ref n0_0), .val (.int x5), .val (.int x6), .val (.int r1), .val (.int r2), .val (.int r3), .val (.int r4), .val (.int r5), .val (.int r6), .val (.int v7), .val (.int v8), .val (.int v15), .unset] [(.int x5), (.int x6)])) t
      exact XS.icmpYes X14.here hx rfl (pc0 := 304) (pc' := 313) rfl (hb hby at_304) rfl (tlt hc16).2.2.1 (by decide) (by decide) k
    refine Runs.via (T' := T14) (g' := (mkF m 315 #[.val (.int x0), .val (.int x1), .val (.int x2), .val (.int x3), .val (.ref n0_0), .val (.int x5), .val (.int x6), .val (.int r1), .val (.int r2), .val (.int r3), .val (.int r4), .val (.int r5), .val (.int r6), .val (.int v7), .val (.int v8), .val (.int v15), .unset] [(.int v15)])) (fun t k => ?_) ?_
    · show Steps p.tables e below (T14.setTop (mkF m 313 #[.val (.int x0), .val (.int x1), .val (.int x2), .val (.int x3), .val (.ref n0_0), .val (.int x5), .val (.int x6), .val (.int r1), .val (.int r2), .val (.int r3), .val (.int r4), .val (.int r5), .val (.int r6), .val (.int v7), .val (.int v8), .val (.int v15), .unset] [])) t
      refine XS.iload X14.here hx rfl (hb hby at_313) rfl ?_
      exact k
    refine iteE hr (fun hc17 hr => ?_) (fun hc17 hr => ?_)
    · refine Runs.via (T' := T14) (g' := (mkF m 324 #[.val (.int x0), .val (.int x1), .val (.int x2), .val (.int x3), .val (.ref n0_0), .val (.int x5), .val (.int x6), .val (.int r1), .val (.int r2), .val (.int r3), .val (.int r4), .val (.int r5), .val (.int r6), .val (.int v7), .val (.int v8), .val (.int v15), .unset] [])) (fun t k => ?_) ?_
      · show Steps p.tables e below (T14.setTop (mkF m 315 #[.val (.int x0), .val (.int x1), .val (.int x2), .val (.int x3), .val (.ref n0_0), .val (.int x5), .val (.int x6), .val (.int r1), .val (.int r2), .val (.int r3), .val (.int r4), .val (.int r5), .val (.int r6), .val (.int v7), .val (.int v8), .val (.int v15), .unset] [(.int v15)])) t
        exact XS.ifYes X14.here hx rfl (pc0 := 315) (pc' := 324) rfl (hb hby at_315) rfl ((if0 _ _).trans (tlt hc17).2.2.1) (by decide) (by decide) k
      exact b0_324 C fuel X14 e14 N14 (by show ((((((((((((cells + 0) + 0) + 0) + 0) + 0) + 0) + 0) + 0) + 0) + 0) + 0) + 0) ≤ 1; omega) (by show ((((((((((((slots + 0) + 0) + 0) + 0) + 0) + 0) + 0) + 0) + 0) + 0) + 0) + 0) ≤ 6; omega) Z1 n0_0 (by omega) q_n0_0 x0 x1 x2 x3 x5 x6 r1 r2 r3 r4 r5 r6 v7 v8 v15 A_n0_0_0 hr
    · refine Runs.via (T' := T14) (g' := (mkF m 318 #[.val (.int x0), .val (.int x1), .val (.int x2), .val (.int x3), .val (.ref n0_0), .val (.int x5), .val (.int x6), .val (.int r1), .val (.int r2), .val (.int r3), .val (.int r4), .val (.int r5), .val (.int r6), .val (.int v7), .val (.int v8), .val (.int v15), .unset] [])) (fun t k => ?_) ?_
      · show Steps p.tables e below (T14.setTop (mkF m 315 #[.val (.int x0), .val (.int x1), .val (.int x2), .val (.int x3), .val (.ref n0_0), .val (.int x5), .val (.int x6), .val (.int r1), .val (.int r2), .val (.int r3), .val (.int r4), .val (.int r5), .val (.int r6), .val (.int v7), .val (.int v8), .val (.int v15), .unset] [(.int v15)])) t
        exact XS.ifNo X14.here hx rfl (hb hby at_315) rfl ((if0 _ _).trans (flt hc17).2.2.1) k
      refine Runs.via (T' := T14) (g' := (mkF m 321 #[.val (.int x0), .val (.int x1), .val (.int x2), .val (.int x3), .val (.ref n0_0), .val (.int x5), .val (.int x6), .val (.int r1), .val (.int r2), .val (.int r3), .val (.int r4), .val (.int r5), .val (.int r6), .val (.int v7), .val (.int v8), .val (.int v15), .unset] [(.int (1 : Int32)), (.int v7)])) (fun t k => ?_) ?_
      · show Steps p.tables e below (T14.setTop (mkF m 318 #[.val (.int x0), .val (.int x1), .val (.int x2), .val (.int x3), .val (.ref n0_0), .val (.int x5), .val (.int x6), .val (.int r1), .val (.int r2), .val (.int r3), .val (.int r4), .val (.int r5), .val (.int r6), .val (.int v7), .val (.int v8), .val (.int v15), .unset] [])) t
        refine XS.iload X14.here hx rfl (hb hby at_318) rfl ?_
        show Steps p.tables e below (T14.setTop (mkF m 320 #[.val (.int x0), .val (.int x1), .val (.int x2), .val (.int x3), .val (.ref n0_0), .val (.int x5), .val (.int x6), .val (.int r1), .val (.int r2), .val (.int r3), .val (.int r4), .val (.int r5), .val (.int r6), .val (.int v7), .val (.int v8), .val (.int v15), .unset] [(.int v7)])) t
        refine XS.iconst X14.here hx rfl (hb hby at_320) ?_
        exact k
      refine iteE hr (fun hc18 hr => ?_) (fun hc18 hr => ?_)
      · refine Runs.via (T' := T14) (g' := (mkF m 324 #[.val (.int x0), .val (.int x1), .val (.int x2), .val (.int x3), .val (.ref n0_0), .val (.int x5), .val (.int x6), .val (.int r1), .val (.int r2), .val (.int r3), .val (.int r4), .val (.int r5), .val (.int r6), .val (.int v7), .val (.int v8), .val (.int v15), .unset] [])) (fun t k => ?_) ?_
        · show Steps p.tables e below (T14.setTop (mkF m 321 #[.val (.int x0), .val (.int x1), .val (.int x2), .val (.int x3), .val (.ref n0_0), .val (.int x5), .val (.int x6), .val (.int r1), .val (.int r2), .val (.int r3), .val (.int r4), .val (.int r5), .val (.int r6), .val (.int v7), .val (.int v8), .val (.int v15), .unset] [(.int (1 : Int32)), (.int v7)])) t
          exact XS.icmpNo X14.here hx rfl (hb hby at_321) rfl (tlt hc18).2.2.2 k
        exact b0_324 C fuel X14 e14 N14 (by show ((((((((((((cells + 0) + 0) + 0) + 0) + 0) + 0) + 0) + 0) + 0) + 0) + 0) + 0) ≤ 1; omega) (by show ((((((((((((slots + 0) + 0) + 0) + 0) + 0) + 0) + 0) + 0) + 0) + 0) + 0) + 0) ≤ 6; omega) Z1 n0_0 (by omega) q_n0_0 x0 x1 x2 x3 x5 x6 r1 r2 r3 r4 r5 r6 v7 v8 v15 A_n0_0_0 hr
      · refine Runs.via (T' := T14) (g' := (mkF m 330 #[.val (.int x0), .val (.int x1), .val (.int x2), .val (.int x3), .val (.ref n0_0), .val (.int x5), .val (.int x6), .val (.int r1), .val (.int r2), .val (.int r3), .val (.int r4), .val (.int r5), .val (.int r6), .val (.int v7), .val (.int v8), .val (.int v15), .unset] [])) (fun t k => ?_) ?_
        · show Steps p.tables e below (T14.setTop (mkF m 321 #[.val (.int x0), .val (.int x1), .val (.int x2), .val (.int x3), .val (.ref n0_0), .val (.int x5), .val (.int x6), .val (.int r1), .val (.int r2), .val (.int r3), .val (.int r4), .val (.int r5), .val (.int r6), .val (.int v7), .val (.int v8), .val (.int v15), .unset] [(.int (1 : Int32)), (.int v7)])) t
          exact XS.icmpYes X14.here hx rfl (pc0 := 321) (pc' := 330) rfl (hb hby at_321) rfl (flt hc18).2.2.2 (by decide) (by decide) k
        refine Runs.via (T' := T14) (g' := (mkF m 333 #[.val (.int x0), .val (.int x1), .val (.int x2), .val (.int x3), .val (.ref n0_0), .val (.int x5), .val (.int x6), .val (.int r1), .val (.int r2), .val (.int r3), .val (.int r4), .val (.int r5), .val (.int r6), .val (.int v7), .val (.int v8), .val (.int v15), .unset] [(.int (1 : Int32)), (.int v7)])) (fun t k => ?_) ?_
        · show Steps p.tables e below (T14.setTop (mkF m 330 #[.val (.int x0), .val (.int x1), .val (.int x2), .val (.int x3), .val (.ref n0_0), .val (.int x5), .val (.int x6), .val (.int r1), .val (.int r2), .val (.int r3), .val (.int r4), .val (.int r5), .val (.int r6), .val (.int v7), .val (.int v8), .val (.int v15), .unset] [])) t
          refine XS.iload X14.here hx rfl (hb hby at_330) rfl ?_
          show Steps p.tables e below (T14.setTop (mkF m 332 #[.val (.int x0), .val (.int x1), .val (.int x2), .val (.int x3), .val (.ref n0_0), .val (.int x5), .val (.int x6), .val (.int r1), .val (.int r2), .val (.int r3), .val (.int r4), .val (.int r5), .val (.int r6), .val (.int v7), .val (.int v8), .val (.int v15), .unset] [(.int v7)])) t
          refine XS.iconst X14.here hx rfl (hb hby at_332) ?_
          exact k
        refine iteE hr (fun hc19 hr => ?_) (fun hc19 hr => ?_)
        · refine Runs.via (T' := T14) (g' := (mkF m 336 #[.val (.int x0), .val (.int x1), .val (.int x2), .val (.int x3), .val (.ref n0_0), .val (.int x5), .val (.int x6), .val (.int r1), .val (.int r2), .val (.int r3), .val (.int r4), .val (.int r5), .val (.int r6), .val (.int v7), .val (.int v8), .val (.int v15), .unset] [])) (fun t k => ?_) ?_
          · show Steps p.tables e below (T14.setTop (mkF m 333 #[.val (.int x0), .val (.int x1), .val (.int x2), .val (.int x3), .val (.ref n0_0), .val (.int x5), .val (.int x6), .val (.int r1), .val (.int r2), .val (.int r3), .val (.int r4), .val (.int r5), .val (.int r6), .val (.int v7), .val (.int v8), .val (.int v15), .unset] [(.int (1 : Int32)), (.int v7)])) t
            exact XS.icmpNo X14.here hx rfl (hb hby at_333) rfl (teq hc19).2 k
          refine Runs.via (T' := T14) (g' := (mkF m 340 #[.val (.int x0), .val (.int x1), .val (.int x2), .val (.int x3), .val (.ref n0_0), .val (.int x5), .val (.int x6), .val (.int r1), .val (.int r2), .val (.int r3), .val (.int r4), .val (.int r5), .val (.int r6), .val (.int v7), .val (.int v8), .val (.int v15), .unset] [(.int x5), (.ref n0_0)])) (fun t k => ?_) ?_
          · show Steps p.tables e below (T14.setTop (mkF m 336 #[.val (.int x0), .val (.int x1), .val (.int x2), .val (.int x3), .val (.ref n0_0), .val (.int x5), .val (.int x6), .val (.int r1), .val (.int r2), .val (.int r3), .val (.int r4), .val (.int r5), .val (.int r6), .val (.int v7), .val (.int v8), .val (.int v15), .unset] [])) t
            refine XS.aload X14.here hx rfl (hb hby at_336) rfl rfl ?_
            show Steps p.tables e below (T14.setTop (mkF m 338 #[.val (.int x0), .val (.int x1), .val (.int x2), .val (.int x3), .val (.ref n0_0), .val (.int x5), .val (.int x6), .val (.int r1), .val (.int r2), .val (.int r3), .val (.int r4), .val (.int r5), .val (.int r6), .val (.int v7), .val (.int v8), .val (.int v15), .unset] [(.ref n0_0)])) t
            refine XS.iload X14.here hx rfl (hb hby at_338) rfl ?_
            exact k
          refine bindE hr ?_; intro v20 hv20 hr
          refine Runs.via (T' := T14) (g' := (mkF m 341 #[.val (.int x0), .val (.int x1), .val (.int x2), .val (.int x3), .val (.ref n0_0), .val (.int x5), .val (.int x6), .val (.int r1), .val (.int r2), .val (.int r3), .val (.int r4), .val (.int r5), .val (.int r6), .val (.int v7), .val (.int v8), .val (.int v15), .unset] [(.int v20)])) (fun t k => ldB X14 hx hZ e14 A_n0_0_0 hv20 (g := (mkF m 340 #[.val (.int x0), .val (.int x1), .val (.int x2), .val (.int x3), .val (.ref n0_0), .val (.int x5), .val (.int x6), .val (.int r1), .val (.int r2), .val (.int r3), .val (.int r4), .val (.int r5), .val (.int r6), .val (.int v7), .val (.int v8), .val (.int v15), .unset] [(.int x5), (.ref n0_0)])) rfl rfl (hb hby at_340) _ k) ?_
          refine Runs.via (T' := T14) (g' := (mkF m 343 #[.val (.int x0), .val (.int x1), .val (.int x2), .val (.int x3), .val (.ref n0_0), .val (.int x5), .val (.int x6), .val (.int r1), .val (.int r2), .val (.int r3), .val (.int r4), .val (.int r5), .val (.int r6), .val (.int v7), .val (.int v8), .val (.int v15), .unset] [(.int (46 : Int32)), (.int v20)])) (fun t k => ?_) ?_
          · show Steps p.tables e below (T14.setTop (mkF m 341 #[.val (.int x0), .val (.int x1), .val (.int x2), .val (.int x3), .val (.ref n0_0), .val (.int x5), .val (.int x6), .val (.int r1), .val (.int r2), .val (.int r3), .val (.int r4), .val (.int r5), .val (.int r6), .val (.int v7), .val (.int v8), .val (.int v15), .unset] [(.int v20)])) t
            refine XS.bipush X14.here hx rfl (hb hby at_341) ?_
            exact k
          refine iteE hr (fun hc21 hr => ?_) (fun hc21 hr => ?_)
          · refine Runs.via (T' := T14) (g' := (mkF m 358 #[.val (.int x0), .val (.int x1), .val (.int x2), .val (.int x3), .val (.ref n0_0), .val (.int x5), .val (.int x6), .val (.int r1), .val (.int r2), .val (.int r3), .val (.int r4), .val (.int r5), .val (.int r6), .val (.int v7), .val (.int v8), .val (.int v15), .unset] [])) (fun t k => ?_) ?_
            · show Steps p.tables e below (T14.setTop (mkF m 343 #[.val (.int x0), .val (.int x1), .val (.int x2), .val (.int x3), .val (.ref n0_0), .val (.int x5), .val (.int x6), .val (.int r1), .val (.int r2), .val (.int r3), .val (.int r4), .val (.int r5), .val (.int r6), .val (.int v7), .val (.int v8), .val (.int v15), .unset] [(.int (46 : Int32)), (.int v20)])) t
              exact XS.icmpYes X14.here hx rfl (pc0 := 343) (pc' := 358) rfl (hb hby at_343) rfl (teq hc21).1 (by decide) (by decide) k
            exact b0_358 C fuel X14 e14 N14 (by show ((((((((((((cells + 0) + 0) + 0) + 0) + 0) + 0) + 0) + 0) + 0) + 0) + 0) + 0) ≤ 1; omega) (by show ((((((((((((slots + 0) + 0) + 0) + 0) + 0) + 0) + 0) + 0) + 0) + 0) + 0) + 0) ≤ 6; omega) Z1 n0_0 (by omega) q_n0_0 x0 x1 x2 x3 x5 x6 r1 r2 r3 r4 r5 r6 v7 v8 v15 A_n0_0_0 hr
          · refine Runs.via (T' := T14) (g' := (mkF m 346 #[.val (.int x0), .val (.int x1), .val (.int x2), .val (.int x3), .val (.ref n0_0), .val (.int x5), .val (.int x6), .val (.int r1), .val (.int r2), .val (.int r3), .val (.int r4), .val (.int r5), .val (.int r6), .val (.int v7), .val (.int v8), .val (.int v15), .unset] [])) (fun t k => ?_) ?_
            · show Steps p.tables e below (T14.setTop (mkF m 343 #[.val (.int x0), .val (.int x1), .val (.int x2), .val (.int x3), .val (.ref n0_0), .val (.int x5), .val (.int x6), .val (.int r1), .val (.int r2), .val (.int r3), .val (.int r4), .val (.int r5), .val (.int r6), .val (.int v7), .val (.int v8), .val (.int v15), .unset] [(.int (46 : Int32)), (.int v20)])) t
              exact XS.icmpNo X14.here hx rfl (hb hby at_343) rfl (feq hc21).1 k
            refine Runs.via (T' := T14) (g' := (mkF m 352 #[.val (.int x0), .val (.int x1), .val (.int x2), .val (.int x3), .val (.ref n0_0), .val (.int x5), .val (.int x6), .val (.int r1), .val (.int r2), .val (.int r3), .val (.int r4), .val (.int r5), .val (.int r6), .val (.int v7), .val (.int v8), .val (.int v15), .unset] [(.int (x6 - (1 : Int32))), (.ref n0_0)])) (fun t k => ?_) ?_
            · show Steps p.tables e below (T14.setTop (mkF m 346 #[.val (.int x0), .val (.int x1), .val (.int x2), .val (.int x3), .val (.ref n0_0), .val (.int x5), .val (.int x6), .val (.int r1), .val (.int r2), .val (.int r3), .val (.int r4), .val (.int r5), .val (.int r6), .val (.int v7), .val (.int v8), .val (.int v15), .unset] [])) t
              refine XS.aload X14.here hx rfl (hb hby at_346) rfl rfl ?_
              show Steps p.tables e below (T14.setTop (mkF m 348 #[.val (.int x0), .val (.int x1), .val (.int x2), .val (.int x3), .val (.ref n0_0), .val (.int x5), .val (.int x6), .val (.int r1), .val (.int r2), .val (.int r3), .val (.int r4), .val (.int r5), .val (.int r6), .val (.int v7), .val (.int v8), .val (.int v15), .unset] [(.ref n0_0)])) t
              refine XS.iload X14.here hx rfl (hb hby at_348) rfl ?_
              show Steps p.tables e below (T14.setTop (mkF m 350 #[.val (.int x0), .val (.int x1), .val (.int x2), .val (.int x3), .val (.ref n0_0), .val (.int x5), .val (.int x6), .val (.int r1), .val (.int r2), .val (.int r3), .val (.int r4), .val (.int r5), .val (.int r6), .val (.int v7), .val (.int v8), .val (.int v15), .unset] [(.int x6), (.ref n0_0)])) t
              refine XS.iconst X14.here hx rfl (hb hby at_350) ?_
              show Steps p.tables e below (T14.setTop (mkF m 351 #[.val (.int x0), .val (.int x1), .val (.int x2), .val (.int x3), .val (.ref n0_0), .val (.int x5), .val (.int x6), .val (.int r1), .val (.int r2), .val (.int r3), .val (.int r4), .val (.int r5), .val (.int r6), .val (.int v7), .val (.int v8), .val (.int v15), .unset] [(.int (1 : Int32)), (.int x6), (.ref n0_0)])) t
              refine XS.isub X14.here hx rfl (hb hby at_351) rfl ?_
              exact k
            refine bindE hr ?_; intro v22 hv22 hr
            refine Runs.via (T' := T14) (g' := (mkF m 353 #[.val (.int x0), .val (.int x1), .val (.int x2), .val (.int x3), .val (.ref n0_0), .val (.int x5), .val (.int x6), .val (.int r1), .val (.int r2), .val (.int r3), .val (.int r4), .val (.int r5), .val (.int r6), .val (.int v7), .val (.int v8), .val (.int v15), .unset] [(.int v22)])) (fun t k => ldB X14 hx hZ e14 A_n0_0_0 hv22 (g := (mkF m 352 #[.val (.int x0), .val (.int x1), .val (.int x2), .val (.int x3), .val (.ref n0_0), .val (.int x5), .val (.int x6), .val (.int r1), .val (.int r2), .val (.int r3), .val (.int r4), .val (.int r5), .val (.int r6), .val (.int v7), .val (.int v8), .val (.int v15), .unset] [(.int (x6 - (1 : Int32))), (.ref n0_0)])) rfl rfl (hb hby at_352) _ k) ?_
            refine Runs.via (T' := T14) (g' := (mkF m 355 #[.val (.int x0), .val (.int x1), .val (.int x2), .val (.int x3), .val (.ref n0_0), .val (.int x5), .val (.int x6), .val (.int r1), .val (.int r2), .val (.int r3), .val (.int r4), .val (.int r5), .val (.int r6), .val (.int v7), .val (.int v8), .val (.int v15), .unset] [(.int (46 : Int32)), (.int v22)])) (fun t k => ?_) ?_
            · show Steps p.tables e below (T14.setTop (mkF m 353 #[.val (.int x0), .val (.int x1), .val (.int x2), .val (.int x3), .val (.ref n0_0), .val (.int x5), .val (.int x6), .val (.int r1), .val (.int r2), .val (.int r3), .val (.int r4), .val (.int r5), .val (.int r6), .val (.int v7), .val (.int v8), .val (.int v15), .unset] [(.int v22)])) t
              refine XS.bipush X14.here hx rfl (hb hby at_353) ?_
              exact k
            refine iteE hr (fun hc23 hr => ?_) (fun hc23 hr => ?_)
            · refine Runs.via (T' := T14) (g' := (mkF m 358 #[.val (.int x0), .val (.int x1), .val (.int x2), .val (.int x3), .val (.ref n0_0), .val (.int x5), .val (.int x6), .val (.int r1), .val (.int r2), .val (.int r3), .val (.int r4), .val (.int r5), .val (.int r6), .val (.int v7), .val (.int v8), .val (.int v15), .unset] [])) (fun t k => ?_) ?_
              · show Steps p.tables e below (T14.setTop (mkF m 355 #[.val (.int x0), .val (.int x1), .val (.int x2), .val (.int x3), .val (.ref n0_0), .val (.int x5), .val (.int x6), .val (.int r1), .val (.int r2), .val (.int r3), .val (.int r4), .val (.int r5), .val (.int r6), .val (.int v7), .val (.int v8), .val (.int v15), .unset] [(.int (46 : Int32)), (.int v22)])) t
                exact XS.icmpNo X14.here hx rfl (hb hby at_355) rfl (teq hc23).2 k
              exact b0_358 C fuel X14 e14 N14 (by show ((((((((((((cells + 0) + 0) + 0) + 0) + 0) + 0) + 0) + 0) + 0) + 0) + 0) + 0) ≤ 1; omega) (by show ((((((((((((slots + 0) + 0) + 0) + 0) + 0) + 0) + 0) + 0) + 0) + 0) + 0) + 0) ≤ 6; omega) Z1 n0_0 (by omega) q_n0_0 x0 x1 x2 x3 x5 x6 r1 r2 r3 r4 r5 r6 v7 v8 v15 A_n0_0_0 hr
            · refine Runs.via (T' := T14) (g' := (mkF m 364 #[.val (.int x0), .val (.int x1), .val (.int x2), .val (.int x3), .val (.ref n0_0), .val (.int x5), .val (.int x6), .val (.int r1), .val (.int r2), .val (.int r3), .val (.int r4), .val (.int r5), .val (.int r6), .val (.int v7), .val (.int v8), .val (.int v15), .unset] [])) (fun t k => ?_) ?_
              · show Steps p.tables e below (T14.setTop (mkF m 355 #[.val (.int x0), .val (.int x1), .val (.int x2), .val (.int x3), .val (.ref n0_0), .val (.int x5), .val (.int x6), .val (.int r1), .val (.int r2), .val (.int r3), .val (.int r4), .val (.int r5), .val (.int r6), .val (.int v7), .val (.int v8), .val (.int v15), .unset] [(.int (46 : Int32)), (.int v22)])) t
                exact XS.icmpYes X14.here hx rfl (pc0 := 355) (pc' := 364) rfl (hb hby at_355) rfl (feq hc23).2 (by decide) (by decide) k
              exact b0_364 C fuel X14 e14 N14 (by show ((((((((((((cells + 0) + 0) + 0) + 0) + 0) + 0) + 0) + 0) + 0) + 0) + 0) + 0) ≤ 1; omega) (by show ((((((((((((slots + 0) + 0) + 0) + 0) + 0) + 0) + 0) + 0) + 0) + 0) + 0) + 0) ≤ 6; omega) Z1 n0_0 (by omega) q_n0_0 x0 x1 x2 x3 x5 x6 r1 r2 r3 r4 r5 r6 v7 v8 v15 A_n0_0_0 hr
        · refine Runs.via (T' := T14) (g' := (mkF m 364 #[.val (.int x0), .val (.int x1), .val (.int x2), .val (.int x3), .val (.ref n0_0), .val (.int x5), .val (.int x6), .val (.int r1), .val (.int r2), .val (.int r3), .val (.int r4), .val (.int r5), .val (.int r6), .val (.int v7), .val (.int v8), .val (.int v15), .unset] [])) (fun t k => ?_) ?_
          · show Steps p.tables e below (T14.setTop (mkF m 333 #[.val (.int x0), .val (.int x1), .val (.int x2), .val (.int x3), .val (.ref n0_0), .val (.int x5), .val (.int x6), .val (.int r1), .val (.int r2), .val (.int r3), .val (.int r4), .val (.int r5), .val (.int r6), .val (.int v7), .val (.int v8), .val (.int v15), .unset] [(.int (1 : Int32)), (.int v7)])) t
            exact XS.icmpYes X14.here hx rfl (pc0 := 333) (pc' := 364) rfl (hb hby at_333) rfl (feq hc19).2 (by decide) (by decide) k
          exact b0_364 C fuel X14 e14 N14 (by show ((((((((((((cells + 0) + 0) + 0) + 0) + 0) + 0) + 0) + 0) + 0) + 0) + 0) + 0) ≤ 1; omega) (by show ((((((((((((slots + 0) + 0) + 0) + 0) + 0) + 0) + 0) + 0) + 0) + 0) + 0) + 0) ≤ 6; omega) Z1 n0_0 (by omega) q_n0_0 x0 x1 x2 x3 x5 x6 r1 r2 r3 r4 r5 r6 v7 v8 v15 A_n0_0_0 hr
  · refine Runs.via (T' := T14) (g' := (mkF m 307 #[.val (.int x0), .val (.int x1), .val (.int x2), .val (.int x3), .val (.ref n0_0), .val (.int x5), .val (.int x6), .val (.int r1), .val (.int r2), .val (.int r3), .val (.int r4), .val (.int r5), .val (.int r6), .val (.int v7), .val (.int v8), .val (.int v15), .unset] [])) (fun t k => ?_) ?_
    · show Steps p.tables e below (T14.setTop (mkF m 304 #[.val (.int x0), .val (.int x1), .val (.int x2), .val (.int x3), .val (.ref n0_0), .val (.int x5), .val (.int x6), .val (.int r1), .val (.int r2), .val (.int r3), .val (.int r4), .val (.int r5), .val (.int r6), .val (.int v7), .val (.int v8), .val (.int v15), .unset] [(.int x5), (.int x6)])) t
      exact XS.icmpNo X14.here hx rfl (hb hby at_304) rfl (flt hc16).2.2.1 k
    refine Runs.via (T' := T14) (g' := (mkF m 385 #[.val (.int x0), .val (.int x1), .val (.int x2), .val (.int x3), .val (.ref n0_0), .val (.int x5), .val (.int x6), .val (.int r1), .val (.int r2), .val (.int r3), .val (.int r4), .val (.int r5), .val (.int r6), .val (.int v7), .val (.int v8), .val (.int v15), .val (.int (-1 : Int32))] [])) (fun t k => ?_) ?_
    · show Steps p.tables e below (T14.setTop (mkF m 307 #[.val (.int x0), .val (.int x1), .val (.int x2), .val (.int x3), .val (.ref n0_0), .val (.int x5), .val (.int x6), .val (.int r1), .val (.int r2), .val (.int r3), .val (.int r4), .val (.int r5), .val (.int r6), .val (.int v7), .val (.int v8), .val (.int v15), .unset] [])) t
      refine XS.iconst X14.here hx rfl (hb hby at_307) ?_
      show Steps p.tables e below (T14.setTop (mkF m 308 #[.val (.int x0), .val (.int x1), .val (.int x2), .val (.int x3), .val (.ref n0_0), .val (.int x5), .val (.int x6), .val (.int r1), .val (.int r2), .val (.int r3), .val (.int r4), .val (.int r5), .val (.int r6), .val (.int v7), .val (.int v8), .val (.int v15), .unset] [(.int (-1 : Int32))])) t
      refine XS.istore X14.here hx rfl (hb hby at_308) rfl (l' := #[.val (.int x0), .val (.int x1), .val (.int x2), .val (.int x3), .val (.ref n0_0), .val (.int x5), .val (.int x6), .val (.int r1), .val (.int r2), .val (.int r3), .val (.int r4), .val (.int r5), .val (.int r6), .val (.int v7), .val (.int v8), .val (.int v15), .val (.int (-1 : Int32))]) rfl ?_
      show Steps p.tables e below (T14.setTop (mkF m 310 #[.val (.int x0), .val (.int x1), .val (.int x2), .val (.int x3), .val (.ref n0_0), .val (.int x5), .val (.int x6), .val (.int r1), .val (.int r2), .val (.int r3), .val (.int r4), .val (.int r5), .val (.int r6), .val (.int v7), .val (.int v8), .val (.int v15), .val (.int (-1 : Int32))] [])) t
      refine XS.goto X14.here hx rfl (pc0 := 310) (pc' := 385) rfl (hb hby at_310) (by decide) (by decide) ?_
      exact k
    exact b0_385 C fuel X14 e14 N14 (by show ((((((((((((cells + 0) + 0) + 0) + 0) + 0) + 0) + 0) + 0) + 0) + 0) + 0) + 0) ≤ 1; omega) (by show ((((((((((((slots + 0) + 0) + 0) + 0) + 0) + 0) + 0) + 0) + 0) + 0) + 0) + 0) ≤ 6; omega) Z1 n0_0 (by omega) q_n0_0 x0 x1 x2 x3 x5 x6 r1 r2 r3 r4 r5 r6 v7 v8 v15 (-1 : Int32) A_n0_0_0 hr
def g0_0 (fuel : Nat) (x0 : Int32) (x1 : Int32) (x2 : Int32) (x3 : Int32) : Option (Int32) := ((mkO (6 : Int32) 6).bind fun v1 => ((wrO v1 (0 : Int32) ((f1 (x3 &&& (3 : Int32)) x0).toInt8.toInt32)).bind fun v3 => ((wrO v3 (1 : Int32) ((f1 (((x3.toUInt32 >>> ((2 : Int32) &&& 31).toUInt32).toInt32) &&& (3 : Int32)) ((x0.toUInt32 >>> ((8 : Int32) &&& 31).toUInt32).toInt32)).toInt8.toInt32)).bind fun v5 => ((wrO v5 (2 : Int32) ((f1 (((x3.toUInt32 >>> ((4 : Int32) &&& 31).toUInt32).toInt32) &&& (3 : Int32)) ((x0.toUInt32 >>> ((16 : Int32) &&& 31).toUInt32).toInt32)).toInt8.toInt32)).bind fun v7 => ((wrO v7 (3 : Int32) ((f1 (((x3.toUInt32 >>> ((6 : Int32) &&& 31).toUInt32).toInt32) &&& (3 : Int32)) ((x0.toUInt32 >>> ((24 : Int32) &&& 31).toUInt32).toInt32)).toInt8.toInt32)).bind fun v9 => ((wrO v9 (4 : Int32) ((f1 (((x3.toUInt32 >>> ((8 : Int32) &&& 31).toUInt32).toInt32) &&& (3 : Int32)) x1).toInt8.toInt32)).bind fun v11 => ((wrO v11 (5 : Int32) ((f1 (((x3.toUInt32 >>> ((10 : Int32) &&& 31).toUInt32).toInt32) &&& (3 : Int32)) ((x1.toUInt32 >>> ((8 : Int32) &&& 31).toUInt32).toInt32)).toInt8.toInt32)).bind fun v13 => (letO ((x2 &&& (2147483647 : Int32)) - ((x2 &&& (2147483647 : Int32)) / (7 : Int32)) * (7 : Int32)) fun v14 => (letO ((((x2.toUInt32 >>> ((8 : Int32) &&& 31).toUInt32).toInt32) &&& (2147483647 : Int32)) - ((((x2.toUInt32 >>> ((8 : Int32) &&& 31).toUInt32).toInt32) &&& (2147483647 : Int32)) / (7 : Int32)) * (7 : Int32)) fun v15 => (g0_118 fuel v14 v15 v13))))))))))
set_option maxRecDepth 65536 in
set_option maxHeartbeats 4000000 in
theorem b0_0 {r : Int32} (C : Ctx p s m meth c Z a0 "com/example/notewright/notewright/DecimalsScalePinLaw" code 17 (some .boolean) "law") (fuel : Nat) (X0 : Stand p l e room_1 s m args below meth c T0 locs cells slots) (e0 : T0.heap = h0) (N0 : Fr n0 locs) (hk : cells ≤ 0) (hn : slots ≤ 0) (Z1 : n0 ≤ h0.size) (x0 : Int32) (x1 : Int32) (x2 : Int32) (x3 : Int32) (hr : g0_0 fuel x0 x1 x2 x3 = some r) :
    Runs p e below s (P0 n0 r) 1 6 T0 (mkF m 0 #[.val (.int x0), .val (.int x1), .val (.int x2), .val (.int x3), .unset, .unset, .unset, .unset, .unset, .unset, .unset, .unset, .unset, .unset, .unset, .unset, .unset] []) := by
  unfold g0_0 at hr
  have ⟨hx, hZ, hw, hby, hml, hown, hret, hlk, hnm⟩ := C
  refine Runs.via (T' := T0) (g' := (mkF m 2 #[.val (.int x0), .val (.int x1), .val (.int x2), .val (.int x3), .unset, .unset, .unset, .unset, .unset, .unset, .unset, .unset, .unset, .unset, .unset, .unset, .unset] [(.int (6 : Int32))])) (fun t k => ?_) ?_
  · show Steps p.tables e below (T0.setTop (mkF m 0 #[.val (.int x0), .val (.int x1), .val (.int x2), .val (.int x3), .unset, .unset, .unset, .unset, .unset, .unset, .unset, .unset, .unset, .unset, .unset, .unset, .unset] [])) t
    refine XS.bipush X0.here hx rfl (hb hby at_0) ?_
    exact k
  refine bindE hr ?_; intro v1 hv1 hr
  obtain ⟨T1, h1, X1, e1, E1, A1, st1⟩ := newI X0 hx hZ (aty := .byte) (ty := .byte) rfl rfl (hw _ (List.mem_of_getElem? (i := 0) rfl)) e0 hv1 (g := (mkF m 2 #[.val (.int x0), .val (.int x1), .val (.int x2), .val (.int x3), .unset, .unset, .unset, .unset, .unset, .unset, .unset, .unset, .unset, .unset, .unset, .unset, .unset] [(.int (6 : Int32))])) rfl (hb hby at_2) rfl (by decide) (by show cells + 1 ≤ 16; omega) (by show slots + 6 ≤ 128; omega)
  obtain ⟨b2, g1⟩ : ∃ z, z = h0.size := ⟨_, rfl⟩
  rw [← g1] at A1 st1
  have i1 := E1.1
  have zz1 : n0 ≤ h1.size := Nat.le_trans Z1 i1
  have A_b2_1 := A1
  have sb2 : n0 ≤ b2 := by omega
  refine Runs.via (T' := T1) (g' := (mkF m 4 #[.val (.int x0), .val (.int x1), .val (.int x2), .val (.int x3), .unset, .unset, .unset, .unset, .unset, .unset, .unset, .unset, .unset, .unset, .unset, .unset, .unset] [(.ref b2)])) (fun t k => st1 _ k) ?_
  refine Runs.via (T' := T1) (g' := (mkF m 13 #[.val (.int x0), .val (.int x1), .val (.int x2), .val (.int x3), .val (.ref b2), .unset, .unset, .unset, .unset, .unset, .unset, .unset, .unset, .unset, .unset, .unset, .unset] [(.int x0), (.int (x3 &&& (3 : Int32))), (.int (0 : Int32)), (.ref b2)])) (fun t k => ?_) ?_
  · show Steps p.tables e below (T1.setTop (mkF m 4 #[.val (.int x0), .val (.int x1), .val (.int x2), .val (.int x3), .unset, .unset, .unset, .unset, .unset, .unset, .unset, .unset, .unset, .unset, .unset, .unset, .unset] [(.ref b2)])) t
    refine XS.astore X1.here hx rfl (hb hby at_4) rfl rfl (l' := #[.val (.int x0), .val (.int x1), .val (.int x2), .val (.int x3), .val (.ref b2), .unset, .unset, .unset, .unset, .unset, .unset, .unset, .unset, .unset, .unset, .unset, .unset]) rfl ?_
    show Steps p.tables e below (T1.setTop (mkF m 6 #[.val (.int x0), .val (.int x1), .val (.int x2), .val (.int x3), .val (.ref b2), .unset, .unset, .unset, .unset, .unset, .unset, .unset, .unset, .unset, .unset, .unset, .unset] [])) t
    refine XS.aload X1.here hx rfl (hb hby at_6) rfl rfl ?_
    show Steps p.tables e below (T1.setTop (mkF m 8 #[.val (.int x0), .val (.int x1), .val (.int x2), .val (.int x3), .val (.ref b2), .unset, .unset, .unset, .unset, .unset, .unset, .unset, .unset, .unset, .unset, .unset, .unset] [(.ref b2)])) t
    refine XS.iconst X1.here hx rfl (hb hby at_8) ?_
    show Steps p.tables e below (T1.setTop (mkF m 9 #[.val (.int x0), .val (.int x1), .val (.int x2), .val (.int x3), .val (.ref b2), .unset, .unset, .unset, .unset, .unset, .unset, .unset, .unset, .unset, .unset, .unset, .unset] [(.int (0 : Int32)), (.ref b2)])) t
    refine XS.iloadN X1.here hx rfl (hb hby at_9) rfl ?_
    show Steps p.tables e below (T1.setTop (mkF m 10 #[.val (.int x0), .val (.int x1), .val (.int x2), .val (.int x3), .val (.ref b2), .unset, .unset, .unset, .unset, .unset, .unset, .unset, .unset, .unset, .unset, .unset, .unset] [(.int x3), (.int (0 : Int32)), (.ref b2)])) t
    refine XS.iconst X1.here hx rfl (hb hby at_10) ?_
    show Steps p.tables e below (T1.setTop (mkF m 11 #[.val (.int x0), .val (.int x1), .val (.int x2), .val (.int x3), .val (.ref b2), .unset, .unset, .unset, .unset, .unset, .unset, .unset, .unset, .unset, .unset, .unset, .unset] [(.int (3 : Int32)), (.int x3), (.int (0 : Int32)), (.ref b2)])) t
    refine XS.iand X1.here hx rfl (hb hby at_11) rfl ?_
    show Steps p.tables e below (T1.setTop (mkF m 12 #[.val (.int x0), .val (.int x1), .val (.int x2), .val (.int x3), .val (.ref b2), .unset, .unset, .unset, .unset, .unset, .unset, .unset, .unset, .unset, .unset, .unset, .unset] [(.int (x3 &&& (3 : Int32))), (.int (0 : Int32)), (.ref b2)])) t
    refine XS.iloadN X1.here hx rfl (hb hby at_12) rfl ?_
    exact k
  obtain ⟨_, _, ⟨T2, L2, k2, n2⟩, -, X2, ⟨Lc2, hQ2, l2, y2, z2⟩, st2⟩ := Jvm.LawKit.callS X1 hx (y := (⟨"com/example/notewright/notewright/DecimalsScalePinLaw", "draw", "(II)B"⟩ : MethodName)) hown (mvT hZ (hw _ (List.mem_of_getElem? (i := 1) rfl))) (mvT hZ (hw _ (List.mem_of_getElem? (i := 2) rfl))) (mvT hZ (hw _ (List.mem_of_getElem? (i := 3) rfl))) (mvT hZ (hw _ (List.mem_of_getElem? (i := 4) rfl))) (by decide) (backOf (W := 2) (rm1 l Z a0 hw [] (x3 &&& (3 : Int32)) x0 h1 n0) hZ (hw _ (List.mem_of_getElem? (i := 4) rfl)) (hw _ (List.mem_of_getElem? (i := 3) rfl)) (by decide) (by decide)) (g := (mkF m 13 #[.val (.int x0), .val (.int x1), .val (.int x2), .val (.int x3), .val (.ref b2), .unset, .unset, .unset, .unset, .unset, .unset, .unset, .unset, .unset, .unset, .unset, .unset] [(.int x0), (.int (x3 &&& (3 : Int32))), (.int (0 : Int32)), (.ref b2)])) rfl (by rw [hml]; rfl) (argsL := [(.int (x3 &&& (3 : Int32))), (.int x0)]) (rest := [(.int (0 : Int32)), (.ref b2)]) (lenOf pd_0 rfl) rfl (by show 2 * 0 + _ ≤ _; exact Nat.le_of_eq rfl) (hb hby at_13) (fun _ _ => ⟨rfl, e1, (by show (cells + 1) + 0 ≤ 16; omega), (by show (slots + 6) + 0 ≤ 128; omega)⟩)
  dsimp only [Pt.U, Pt.locs, Pt.cells, Pt.slots] at X2 l2 y2 z2 st2 hQ2
  replace y2 := y2.symm; replace z2 := z2.symm; subst l2 y2 z2
  obtain ⟨rfl, N2q, e2⟩ := hQ2
  have N2 := Fr.app N0 N2q
  refine Runs.via (T' := T2) (g' := (mkF m 16 #[.val (.int x0), .val (.int x1), .val (.int x2), .val (.int x3), .val (.ref b2), .unset, .unset, .unset, .unset, .unset, .unset, .unset, .unset, .unset, .unset, .unset, .unset] [(.int (f1 (x3 &&& (3 : Int32)) x0)), (.int (0 : Int32)), (.ref b2)])) (fun t k => st2 _ k) ?_
  refine bindE hr ?_; intro v3 hv3 hr
  obtain ⟨T3, h3, X3, e3, W3, A3, st3⟩ := soB X2 hx hZ e2 A_b2_1 hv3 (g := (mkF m 16 #[.val (.int x0), .val (.int x1), .val (.int x2), .val (.int x3), .val (.ref b2), .unset, .unset, .unset, .unset, .unset, .unset, .unset, .unset, .unset, .unset, .unset, .unset] [(.int (f1 (x3 &&& (3 : Int32)) x0)), (.int (0 : Int32)), (.ref b2)])) rfl rfl (hb hby at_16)
  have A_b2_3 : AI Z h3 b2 .byte v3 := A3
  have N3 := Fr.snoc X3 N2 (by omega : n0 ≤ b2)
  have zz3 : n0 ≤ h3.size := Nat.le_trans zz1 (Keep.of_wr W3).1
  refine Runs.via (T' := T3) (g' := (mkF m 17 #[.val (.int x0), .val (.int x1), .val (.int x2), .val (.int x3), .val (.ref b2), .unset, .unset, .unset, .unset, .unset, .unset, .unset, .unset, .unset, .unset, .unset, .unset] [])) (fun t k => st3 _ k) ?_
  refine Runs.via (T' := T3) (g' := (mkF m 29 #[.val (.int x0), .val (.int x1), .val (.int x2), .val (.int x3), .val (.ref b2), .unset, .unset, .unset, .unset, .unset, .unset, .unset, .unset, .unset, .unset, .unset, .unset] [(.int ((x0.toUInt32 >>> ((8 : Int32) &&& 31).toUInt32).toInt32)), (.int (((x3.toUInt32 >>> ((2 : Int32) &&& 31).toUInt32).toInt32) &&& (3 : Int32))), (.int (1 : Int32)), (.ref b2)])) (fun t k => ?_) ?_
  · show Steps p.tables e below (T3.setTop (mkF m 17 #[.val (.int x0), .val (.int x1), .val (.int x2), .val (.int x3), .val (.ref b2), .unset, .unset, .unset, .unset, .unset, .unset, .unset, .unset, .unset, .unset, .unset, .unset] [])) t
    refine XS.aload X3.here hx rfl (hb hby at_17) rfl rfl ?_
    show Steps p.tables e below (T3.setTop (mkF m 19 #[.val (.int x0), .val (.int x1), .val (.int x2), .val (.int x3), .val (.ref b2), .unset, .unset, .unset, .unset, .unset, .unset, .unset, .unset, .unset, .unset, .unset, .unset] [(.ref b2)])) t
    refine XS.iconst X3.here hx rfl (hb hby at_19) ?_
    show Steps p.tables e below (T3.setTop (mkF m 20 #[.val (.int x0), .val (.int x1), .val (.int x2), .val (.int x3), .val (.ref b2), .unset, .unset, .unset, .unset, .unset, .unset, .unset, .unset, .unset, .unset, .unset, .unset] [(.int (1 : Int32)), (.ref b2)])) t
    refine XS.iloadN X3.here hx rfl (hb hby at_20) rfl ?_
    show Steps p.tables e below (T3.setTop (mkF m 21 #[.val (.int x0), .val (.int x1), .val (.int x2), .val (.int x3), .val (.ref b2), .unset, .unset, .unset, .unset, .unset, .unset, .unset, .unset, .unset, .unset, .unset, .unset] [(.int x3), (.int (1 : Int32)), (.ref b2)])) t
    refine XS.iconst X3.here hx rfl (hb hby at_21) ?_
    show Steps p.tables e below (T3.setTop (mkF m 22 #[.val (.int x0), .val (.int x1), .val (.int x2), .val (.int x3), .val (.ref b2), .unset, .unset, .unset, .unset, .unset, .unset, .unset, .unset, .unset, .unset, .unset, .unset] [(.int (2 : Int32)), (.int x3), (.int (1 : Int32)), (.ref b2)])) t
    refine XS.iushr X3.here hx rfl (hb hby at_22) rfl ?_
    show Steps p.tables e below (T3.setTop (mkF m 23 #[.val (.int x0), .val (.int x1), .val (.int x2), .val (.int x3), .val (.ref b2), .unset, .unset, .unset, .unset, .unset, .unset, .unset, .unset, .unset, .unset, .unset, .unset] [(.int ((x3.toUInt32 >>> ((2 : Int32) &&& 31).toUInt32).toInt32)), (.int (1 : Int32)), (.ref b2)])) t
    refine XS.iconst X3.here hx rfl (hb hby at_23) ?_
    show Steps p.tables e below (T3.setTop (mkF m 24 #[.val (.int x0), .val (.int x1), .val (.int x2), .val (.int x3), .val (.ref b2), .unset, .unset, .unset, .unset, .unset, .unset, .unset, .unset, .unset, .unset, .unset, .unset] [(.int (3 : Int32)), (.int ((x3.toUInt32 >>> ((2 : Int32) &&& 31).toUInt32).toInt32)), (.int (1 : Int32)), (.ref b2)])) t
    refine XS.iand X3.here hx rfl (hb hby at_24) rfl ?_
    show Steps p.tables e below (T3.setTop (mkF m 25 #[.val (.int x0), .val (.int x1), .val (.int x2), .val (.int x3), .val (.ref b2), .unset, .unset, .unset, .unset, .unset, .unset, .unset, .unset, .unset, .unset, .unset, .unset] [(.int (((x3.toUInt32 >>> ((2 : Int32) &&& 31).toUInt32).toInt32) &&& (3 : Int32))), (.int (1 : Int32)), (.ref b2)])) t
    refine XS.iloadN X3.here hx rfl (hb hby at_25) rfl ?_
    show Steps p.tables e below (T3.setTop (mkF m 26 #[.val (.int x0), .val (.int x1), .val (.int x2), .val (.int x3), .val (.ref b2), .unset, .unset, .unset, .unset, .unset, .unset, .unset, .unset, .unset, .unset, .unset, .unset] [(.int x0), (.int (((x3.toUInt32 >>> ((2 : Int32) &&& 31).toUInt32).toInt32) &&& (3 : Int32))), (.int (1 : Int32)), (.ref b2)])) t
    refine XS.bipush X3.here hx rfl (hb hby at_26) ?_
    show Steps p.tables e below (T3.setTop (mkF m 28 #[.val (.int x0), .val (.int x1), .val (.int x2), .val (.int x3), .val (.ref b2), .unset, .unset, .unset, .unset, .unset, .unset, .unset, .unset, .unset, .unset, .unset, .unset] [(.int (8 : Int32)), (.int x0), (.int (((x3.toUInt32 >>> ((2 : Int32) &&& 31).toUInt32).toInt32) &&& (3 : Int32))), (.int (1 : Int32)), (.ref b2)])) t
    refine XS.iushr X3.here hx rfl (hb hby at_28) rfl ?_
    exact k
  obtain ⟨_, _, ⟨T4, L4, k4, n4⟩, -, X4, ⟨Lc4, hQ4, l4, y4, z4⟩, st4⟩ := Jvm.LawKit.callS X3 hx (y := (⟨"com/example/notewright/notewright/DecimalsScalePinLaw", "draw", "(II)B"⟩ : MethodName)) hown (mvT hZ (hw _ (List.mem_of_getElem? (i := 1) rfl))) (mvT hZ (hw _ (List.mem_of_getElem? (i := 2) rfl))) (mvT hZ (hw _ (List.mem_of_getElem? (i := 3) rfl))) (mvT hZ (hw _ (List.mem_of_getElem? (i := 4) rfl))) (by decide) (backOf (W := 2) (rm1 l Z a0 hw [] (((x3.toUInt32 >>> ((2 : Int32) &&& 31).toUInt32).toInt32) &&& (3 : Int32)) ((x0.toUInt32 >>> ((8 : Int32) &&& 31).toUInt32).toInt32) h3 n0) hZ (hw _ (List.mem_of_getElem? (i := 4) rfl)) (hw _ (List.mem_of_getElem? (i := 3) rfl)) (by decide) (by decide)) (g := (mkF m 29 #[.val (.int x0), .val (.int x1), .val (.int x2), .val (.int x3), .val (.ref b2), .unset, .unset, .unset, .unset, .unset, .unset, .unset, .unset, .unset, .unset, .unset, .unset] [(.int ((x0.toUInt32 >>> ((8 : Int32) &&& 31).toUInt32).toInt32)), (.int (((x3.toUInt32 >>> ((2 : Int32) &&& 31).toUInt32).toInt32) &&& (3 : Int32))), (.int (1 : Int32)), (.ref b2)])) rfl (by rw [hml]; rfl) (argsL := [(.int (((x3.toUInt32 >>> ((2 : Int32) &&& 31).toUInt32).toInt32) &&& (3 : Int32))), (.int ((x0.toUInt32 >>> ((8 : Int32) &&& 31).toUInt32).toInt32))]) (rest := [(.int (1 : Int32)), (.ref b2)]) (lenOf pd_0 rfl) rfl (by show 2 * 0 + _ ≤ _; exact Nat.le_of_eq rfl) (hb hby at_29) (fun _ _ => ⟨rfl, e3, (by show ((cells + 1) + 0) + 0 ≤ 16; omega), (by show ((slots + 6) + 0) + 0 ≤ 128; omega)⟩)
  dsimp only [Pt.U, Pt.locs, Pt.cells, Pt.slots] at X4 l4 y4 z4 st4 hQ4
  replace y4 := y4.symm; replace z4 := z4.symm; subst l4 y4 z4
  obtain ⟨rfl, N4q, e4⟩ := hQ4
  have N4 := Fr.app N3 N4q
  refine Runs.via (T' := T4) (g' := (mkF m 32 #[.val (.int x0), .val (.int x1), .val (.int x2), .val (.int x3), .val (.ref b2), .unset, .unset, .unset, .unset, .unset, .unset, .unset, .unset, .unset, .unset, .unset, .unset] [(.int (f1 (((x3.toUInt32 >>> ((2 : Int32) &&& 31).toUInt32).toInt32) &&& (3 : Int32)) ((x0.toUInt32 >>> ((8 : Int32) &&& 31).toUInt32).toInt32))), (.int (1 : Int32)), (.ref b2)])) (fun t k => st4 _ k) ?_
  refine bindE hr ?_; intro v5 hv5 hr
  obtain ⟨T5, h5, X5, e5, W5, A5, st5⟩ := soB X4 hx hZ e4 A_b2_3 hv5 (g := (mkF m 32 #[.val (.int x0), .val (.int x1), .val (.int x2), .val (.int x3), .val (.ref b2), .unset, .unset, .unset, .unset, .unset, .unset, .unset, .unset, .unset, .unset, .unset, .unset] [(.int (f1 (((x3.toUInt32 >>> ((2 : Int32) &&& 31).toUInt32).toInt32) &&& (3 : Int32)) ((x0.toUInt32 >>> ((8 : Int32) &&& 31).toUInt32).toInt32))), (.int (1 : Int32)), (.ref b2)])) rfl rfl (hb hby at_32)
  have A_b2_5 : AI Z h5 b2 .byte v5 := A5
  have N5 := Fr.snoc X5 N4 (by omega : n0 ≤ b2)
  have zz5 : n0 ≤ h5.size := Nat.le_trans zz3 (Keep.of_wr W5).1
  refine Runs.via (T' := T5) (g' := (mkF m 33 #[.val (.int x0), .val (.int x1), .val (.int x2), .val (.int x3), .val (.ref b2), .unset, .unset, .unset, .unset, .unset, .unset, .unset, .unset, .unset, .unset, .unset, .unset] [])) (fun t k => st5 _ k) ?_
  refine Runs.via (T' := T5) (g' := (mkF m 45 #[.val (.int x0), .val (.int x1), .val (.int x2), .val (.int x3), .val (.ref b2), .unset, .unset, .unset, .unset, .unset, .unset, .unset, .unset, .unset, .unset, .unset, .unset] [(.int ((x0.toUInt32 >>> ((16 : Int32) &&& 31).toUInt32).toInt32)), (.int (((x3.toUInt32 >>> ((4 : Int32) &&& 31).toUInt32).toInt32) &&& (3 : Int32))), (.int (2 : Int32)), (.ref b2)])) (fun t k => ?_) ?_
  · show Steps p.tables e below (T5.setTop (mkF m 33 #[.val (.int x0), .val (.int x1), .val (.int x2), .val (.int x3), .val (.ref b2), .unset, .unset, .unset, .unset, .unset, .unset, .unset, .unset, .unset, .unset, .unset, .unset] [])) t
    refine XS.aload X5.here hx rfl (hb hby at_33) rfl rfl ?_
    show Steps p.tables e below (T5.setTop (mkF m 35 #[.val (.int x0), .val (.int x1), .val (.int x2), .val (.int x3), .val (.ref b2), .unset, .unset, .unset, .unset, .unset, .unset, .unset, .unset, .unset, .unset, .unset, .unset] [(.ref b2)])) t
    refine XS.iconst X5.here hx rfl (hb hby at_35) ?_
    show Steps p.tables e below (T5.setTop (mkF m 36 #[.val (.int x0), .val (.int x1), .val (.int x2), .val (.int x3), .val (.ref b2), .unset, .unset, .unset, .unset, .unset, .unset, .unset, .unset, .unset, .unset, .unset, .unset] [(.int (2 : Int32)), (.ref b2)])) t
    refine XS.iloadN X5.here hx rfl (hb hby at_36) rfl ?_
    show Steps p.tables e below (T5.setTop (mkF m 37 #[.val (.int x0), .val (.int x1), .val (.int x2), .val (.int x3), .val (.ref b2), .unset, .unset, .unset, .unset, .unset, .unset, .unset, .unset, .unset, .unset, .unset, .unset] [(.int x3), (.int (2 : Int32)), (.ref b2)])) t
    refine XS.iconst X5.here hx rfl (hb hby at_37) ?_
    show Steps p.tables e below (T5.setTop (mkF m 38 #[.val (.int x0), .val (.int x1), .val (.int x2), .val (.int x3), .val (.ref b2), .unset, .unset, .unset, .unset, .unset, .unset, .unset, .unset, .unset, .unset, .unset, .unset] [(.int (4 : Int32)), (.int x3), (.int (2 : Int32)), (.ref b2)])) t
    refine XS.iushr X5.here hx rfl (hb hby at_38) rfl ?_
    show Steps p.tables e below (T5.setTop (mkF m 39 #[.val (.int x0), .val (.int x1), .val (.int x2), .val (.int x3), .val (.ref b2), .unset, .unset, .unset, .unset, .unset, .unset, .unset, .unset, .unset, .unset, .unset, .unset] [(.int ((x3.toUInt32 >>> ((4 : Int32) &&& 31).toUInt32).toInt32)), (.int (2 : Int32)), (.ref b2)])) t
    refine XS.iconst X5.here hx rfl (hb hby at_39) ?_
    show Steps p.tables e below (T5.setTop (mkF m 40 #[.val (.int x0), .val (.int x1), .val (.int x2), .val (.int x3), .val (.ref b2), .unset, .unset, .unset, .unset, .unset, .unset, .unset, .unset, .unset, .unset, .unset, .unset] [(.int (3 : Int32)), (.int ((x3.toUInt32 >>> ((4 : Int32) &&& 31).toUInt32).toInt32)), (.int (2 : Int32)), (.ref b2)])) t
    refine XS.iand X5.here hx rfl (hb hby at_40) rfl ?_
    show Steps p.tables e below (T5.setTop (mkF m 41 #[.val (.int x0), .val (.int x1), .val (.int x2), .val (.int x3), .val (.ref b2), .unset, .unset, .unset, .unset, .unset, .unset, .unset, .unset, .unset, .unset, .unset, .unset] [(.int (((x3.toUInt32 >>> ((4 : Int32) &&& 31).toUInt32).toInt32) &&& (3 : Int32))), (.int (2 : Int32)), (.ref b2)])) t
    refine XS.iloadN X5.here hx rfl (hb hby at_41) rfl ?_
    show Steps p.tables e below (T5.setTop (mkF m 42 #[.val (.int x0), .val (.int x1), .val (.int x2), .val (.int x3), .val (.ref b2), .unset, .unset, .unset, .unset, .unset, .unset, .unset, .unset, .unset, .unset, .unset, .unset] [(.int x0), (.int (((x3.toUInt32 >>> ((4 : Int32) &&& 31).toUInt32).toInt32) &&& (3 : Int32))), (.int (2 : Int32)), (.ref b2)])) t
    refine XS.bipush X5.here hx rfl (hb hby at_42) ?_
    show Steps p.tables e below (T5.setTop (mkF m 44 #[.val (.int x0), .val (.int x1), .val (.int x2), .val (.int x3), .val (.ref b2), .unset, .unset, .unset, .unset, .unset, .unset, .unset, .unset, .unset, .unset, .unset, .unset] [(.int (16 : Int32)), (.int x0), (.int (((x3.toUInt32 >>> ((4 : Int32) &&& 31).toUInt32).toInt32) &&& (3 : Int32))), (.int (2 : Int32)), (.ref b2)])) t
    refine XS.iushr X5.here hx rfl (hb hby at_44) rfl ?_
    exact k
  obtain ⟨_, _, ⟨T6, L6, k6, n6⟩, -, X6, ⟨Lc6, hQ6, l6, y6, z6⟩, st6⟩ := Jvm.LawKit.callS X5 hx (y := (⟨"com/example/notewright/notewright/DecimalsScalePinLaw", "draw", "(II)B"⟩ : MethodName)) hown (mvT hZ (hw _ (List.mem_of_getElem? (i := 1) rfl))) (mvT hZ (hw _ (List.mem_of_getElem? (i := 2) rfl))) (mvT hZ (hw _ (List.mem_of_getElem? (i := 3) rfl))) (mvT hZ (hw _ (List.mem_of_getElem? (i := 4) rfl))) (by decide) (backOf (W := 2) (rm1 l Z a0 hw [] (((x3.toUInt32 >>> ((4 : Int32) &&& 31).toUInt32).toInt32) &&& (3 : Int32)) ((x0.toUInt32 >>> ((16 : Int32) &&& 31).toUInt32).toInt32) h5 n0) hZ (hw _ (List.mem_of_getElem? (i := 4) rfl)) (hw _ (List.mem_of_getElem? (i := 3) rfl)) (by decide) (by decide)) (g := (mkF m 45 #[.val (.int x0), .val (.int x1), .val (.int x2), .val (.int x3), .val (.ref b2), .unset, .unset, .unset, .unset, .unset, .unset, .unset, .unset, .unset, .unset, .unset, .unset] [(.int ((x0.toUInt32 >>> ((16 : Int32) &&& 31).toUInt32).toInt32)), (.int (((x3.toUInt32 >>> ((4 : Int32) &&& 31).toUInt32).toInt32) &&& (3 : Int32))), (.int (2 : Int32)), (.ref b2)])) rfl (by rw [hml]; rfl) (argsL := [(.int (((x3.toUInt32 >>> ((4 : Int32) &&& 31).toUInt32).toInt32) &&& (3 : Int32))), (.int ((x0.toUInt32 >>> ((16 : Int32) &&& 31).toUInt32).toInt32))]) (rest := [(.int (2 : Int32)), (.ref b2)]) (lenOf pd_0 rfl) rfl (by show 2 * 0 + _ ≤ _; exact Nat.le_of_eq rfl) (hb hby at_45) (fun _ _ => ⟨rfl, e5, (by show (((cells + 1) + 0) + 0) + 0 ≤ 16; omega), (by show (((slots + 6) + 0) + 0) + 0 ≤ 128; omega)⟩)
  dsimp only [Pt.U, Pt.locs, Pt.cells, Pt.slots] at X6 l6 y6 z6 st6 hQ6
  replace y6 := y6.symm; replace z6 := z6.symm; subst l6 y6 z6
  obtain ⟨rfl, N6q, e6⟩ := hQ6
  have N6 := Fr.app N5 N6q
  refine Runs.via (T' := T6) (g' := (mkF m 48 #[.val (.int x0), .val (.int x1), .val (.int x2), .val (.int x3), .val (.ref b2), .unset, .unset, .unset, .unset, .unset, .unset, .unset, .unset, .unset, .unset, .unset, .unset] [(.int (f1 (((x3.toUInt32 >>> ((4 : Int32) &&& 31).toUInt32).toInt32) &&& (3 : Int32)) ((x0.toUInt32 >>> ((16 : Int32) &&& 31).toUInt32).toInt32))), (.int (2 : Int32)), (.ref b2)])) (fun t k => st6 _ k) ?_
  refine bindE hr ?_; intro v7 hv7 hr
  obtain ⟨T7, h7, X7, e7, W7, A7, st7⟩ := soB X6 hx hZ e6 A_b2_5 hv7 (g := (mkF m 48 #[.val (.int x0), .val (.int x1), .val (.int x2), .val (.int x3), .val (.ref b2), .unset, .unset, .unset, .unset, .unset, .unset, .unset, .unset, .unset, .unset, .unset, .unset] [(.int (f1 (((x3.toUInt32 >>> ((4 : Int32) &&& 31).toUInt32).toInt32) &&& (3 : Int32)) ((x0.toUInt32 >>> ((16 : Int32) &&& 31).toUInt32).toInt32))), (.int (2 : Int32)), (.ref b2)])) rfl rfl (hb hby at_48)
  have A_b2_7 : AI Z h7 b2 .byte v7 := A7
  have N7 := Fr.snoc X7 N6 (by omega : n0 ≤ b2)
  have zz7 : n0 ≤ h7.size := Nat.le_trans zz5 (Keep.of_wr W7).1
  refine Runs.via (T' := T7) (g' := (mkF m 49 #[.val (.int x0), .val (.int x1), .val (.int x2), .val (.int x3), .val (.ref b2), .unset, .unset, .unset, .unset, .unset, .unset, .unset, .unset, .unset, .unset, .unset, .unset] [])) (fun t k => st7 _ k) ?_
  refine Runs.via (T' := T7) (g' := (mkF m 62 #[.val (.int x0), .val (.int x1), .val (.int x2), .val (.int x3), .val (.ref b2), .unset, .unset, .unset, .unset, .unset, .unset, .unset, .unset, .unset, .unset, .unset, .unset] [(.int ((x0.toUInt32 >>> ((24 : Int32) &&& 31).toUInt32).toInt32)), (.int (((x3.toUInt32 >>> ((6 : Int32) &&& 31).toUInt32).toInt32) &&& (3 : Int32))), (.int (3 : Int32)), (.ref b2)])) (fun t k => ?_) ?_
  · show Steps p.tables e below (T7.setTop (mkF m 49 #[.val (.int x0), .val (.int x1), .val (.int x2), .val (.int x3), .val (.ref b2), .unset, .unset, .unset, .unset, .unset, .unset, .unset, .unset, .unset, .unset, .unset, .unset] [])) t
    refine XS.aload X7.here hx rfl (hb hby at_49) rfl rfl ?_
    show Steps p.tables e below (T7.setTop (mkF m 51 #[.val (.int x0), .val (.int x1), .val (.int x2), .val (.int x3), .val (.ref b2), .unset, .unset, .unset, .unset, .unset, .unset, .unset, .unset, .unset, .unset, .unset, .unset] [(.ref b2)])) t
    refine XS.iconst X7.here hx rfl (hb hby at_51) ?_
    show Steps p.tables e below (T7.setTop (mkF m 52 #[.val (.int x0), .val (.int x1), .val (.int x2), .val (.int x3), .val (.ref b2), .unset, .unset, .unset, .unset, .unset, .unset, .unset, .unset, .unset, .unset, .unset, .unset] [(.int (3 : Int32)), (.ref b2)])) t
    refine XS.iloadN X7.here hx rfl (hb hby at_52) rfl ?_
    show Steps p.tables e below (T7.setTop (mkF m 53 #[.val (.int x0), .val (.int x1), .val (.int x2), .val (.int x3), .val (.ref b2), .unset, .unset, .unset, .unset, .unset, .unset, .unset, .unset, .unset, .unset, .unset, .unset] [(.int x3), (.int (3 : Int32)), (.ref b2)])) t
    refine XS.bipush X7.here hx rfl (hb hby at_53) ?_
    show Steps p.tables e below (T7.setTop (mkF m 55 #[.val (.int x0), .val (.int x1), .val (.int x2), .val (.int x3), .val (.ref b2), .unset, .unset, .unset, .unset, .unset, .unset, .unset, .unset, .unset, .unset, .unset, .unset] [(.int (6 : Int32)), (.int x3), (.int (3 : Int32)), (.ref b2)])) t
    refine XS.iushr X7.here hx rfl (hb hby at_55) rfl ?_
    show Steps p.tables e below (T7.setTop (mkF m 56 #[.val (.int x0), .val (.int x1), .val (.int x2), .val (.int x3), .val (.ref b2), .unset, .unset, .unset, .unset, .unset, .unset, .unset, .unset, .unset, .unset, .unset, .unset] [(.int ((x3.toUInt32 >>> ((6 : Int32) &&& 31).toUInt32).toInt32)), (.int (3 : Int32)), (.ref b2)])) t
    refine XS.iconst X7.here hx rfl (hb hby at_56) ?_
    show Steps p.tables e below (T7.setTop (mkF m 57 #[.val (.int x0), .val (.int x1), .val (.int x2), .val (.int x3), .val (.ref b2), .unset, .unset, .unset, .unset, .unset, .unset, .unset, .unset, .unset, .unset, .unset, .unset] [(.int (3 : Int32)), (.int ((x3.toUInt32 >>> ((6 : Int32) &&& 31).toUInt32).toInt32)), (.int (3 : Int32)), (.ref b2)])) t
    refine XS.iand X7.here hx rfl (hb hby at_57) rfl ?_
    show Steps p.tables e below (T7.setTop (mkF m 58 #[.val (.int x0), .val (.int x1), .val (.int x2), .val (.int x3), .val (.ref b2), .unset, .unset, .unset, .unset, .unset, .unset, .unset, .unset, .unset, .unset, .unset, .unset] [(.int (((x3.toUInt32 >>> ((6 : Int32) &&& 31).toUInt32).toInt32) &&& (3 : Int32))), (.int (3 : Int32)), (.ref b2)])) t
    refine XS.iloadN X7.here hx rfl (hb hby at_58) rfl ?_
    show Steps p.tables e below (T7.setTop (mkF m 59 #[.val (.int x0), .val (.int x1), .val (.int x2), .val (.int x3), .val (.ref b2), .unset, .unset, .unset, .unset, .unset, .unset, .unset, .unset, .unset, .unset, .unset, .unset] [(.int x0), (.int (((x3.toUInt32 >>> ((6 : Int32) &&& 31).toUInt32).toInt32) &&& (3 : Int32))), (.int (3 : Int32)), (.ref b2)])) t
    refine XS.bipush X7.here hx rfl (hb hby at_59) ?_
    show Steps p.tables e below (T7.setTop (mkF m 61 #[.val (.int x0), .val (.int x1), .val (.int x2), .val (.int x3), .val (.ref b2), .unset, .unset, .unset, .unset, .unset, .unset, .unset, .unset, .unset, .unset, .unset, .unset] [(.int (24 : Int32)), (.int x0), (.int (((x3.toUInt32 >>> ((6 : Int32) &&& 31).toUInt32).toInt32) &&& (3 : Int32))), (.int (3 : Int32)), (.ref b2)])) t
    refine XS.iushr X7.here hx rfl (hb hby at_61) rfl ?_
    exact k
  obtain ⟨_, _, ⟨T8, L8, k8, n8⟩, -, X8, ⟨Lc8, hQ8, l8, y8, z8⟩, st8⟩ := Jvm.LawKit.callS X7 hx (y := (⟨"com/example/notewright/notewright/DecimalsScalePinLaw", "draw", "(II)B"⟩ : MethodName)) hown (mvT hZ (hw _ (List.mem_of_getElem? (i := 1) rfl))) (mvT hZ (hw _ (List.mem_of_getElem? (i := 2) rfl))) (mvT hZ (hw _ (List.mem_of_getElem? (i := 3) rfl))) (mvT hZ (hw _ (List.mem_of_getElem? (i := 4) rfl))) (by decide) (backOf (W := 2) (rm1 l Z a0 hw [] (((x3.toUInt32 >>> ((6 : Int32) &&& 31).toUInt32).toInt32) &&& (3 : Int32)) ((x0.toUInt32 >>> ((24 : Int32) &&& 31).toUInt32).toInt32) h7 n0) hZ (hw _ (List.mem_of_getElem? (i := 4) rfl)) (hw _ (List.mem_of_getElem? (i := 3) rfl)) (by decide) (by decide)) (g := (mkF m 62 #[.val (.int x0), .val (.int x1), .val (.int x2), .val (.int x3), .val (.ref b2), .unset, .unset, .unset, .unset, .unset, .unset, .unset, .unset, .unset, .unset, .unset, .unset] [(.int ((x0.toUInt32 >>> ((24 : Int32) &&& 31).toUInt32).toInt32)), (.int (((x3.toUInt32 >>> ((6 : Int32) &&& 31).toUInt32).toInt32) &&& (3 : Int32))), (.int (3 : Int32)), (.ref b2)])) rfl (by rw [hml]; rfl) (argsL := [(.int (((x3.toUInt32 >>> ((6 : Int32) &&& 31).toUInt32).toInt32) &&& (3 : Int32))), (.int ((x0.toUInt32 >>> ((24 : Int32) &&& 31).toUInt32).toInt32))]) (rest := [(.int (3 : Int32)), (.ref b2)]) (lenOf pd_0 rfl) rfl (by show 2 * 0 + _ ≤ _; exact Nat.le_of_eq rfl) (hb hby at_62) (fun _ _ => ⟨rfl, e7, (by show ((((cells + 1) + 0) + 0) + 0) + 0 ≤ 16; omega), (by show ((((slots + 6) + 0) + 0) + 0) + 0 ≤ 128; omega)⟩)
  dsimp only [Pt.U, Pt.locs, Pt.cells, Pt.slots] at X8 l8 y8 z8 st8 hQ8
  replace y8 := y8.symm; replace z8 := z8.symm; subst l8 y8 z8
  obtain ⟨rfl, N8q, e8⟩ := hQ8
  have N8 := Fr.app N7 N8q
  refine Runs.via (T' := T8) (g' := (mkF m 65 #[.val (.int x0), .val (.int x1), .val (.int x2), .val (.int x3), .val (.ref b2), .unset, .unset, .unset, .unset, .unset, .unset, .unset, .unset, .unset, .unset, .unset, .unset] [(.int (f1 (((x3.toUInt32 >>> ((6 : Int32) &&& 31).toUInt32).toInt32) &&& (3 : Int32)) ((x0.toUInt32 >>> ((24 : Int32) &&& 31).toUInt32).toInt32))), (.int (3 : Int32)), (.ref b2)])) (fun t k => st8 _ k) ?_
  refine bindE hr ?_; intro v9 hv9 hr
  obtain ⟨T9, h9, X9, e9, W9, A9, st9⟩ := soB X8 hx hZ e8 A_b2_7 hv9 (g := (mkF m 65 #[.val (.int x0), .val (.int x1), .val (.int x2), .val (.int x3), .val (.ref b2), .unset, .unset, .unset, .unset, .unset, .unset, .unset, .unset, .unset, .unset, .unset, .unset] [(.int (f1 (((x3.toUInt32 >>> ((6 : Int32) &&& 31).toUInt32).toInt32) &&& (3 : Int32)) ((x0.toUInt32 >>> ((24 : Int32) &&& 31).toUInt32).toInt32))), (.int (3 : Int32)), (.ref b2)])) rfl rfl (hb hby at_65)
  have A_b2_9 : AI Z h9 b2 .byte v9 := A9
  have N9 := Fr.snoc X9 N8 (by omega : n0 ≤ b2)
  have zz9 : n0 ≤ h9.size := Nat.le_trans zz7 (Keep.of_wr W9).1
  refine Runs.via (T' := T9) (g' := (mkF m 66 #[.val (.int x0), .val (.int x1), .val (.int x2), .val (.int x3), .val (.ref b2), .unset, .unset, .unset, .unset, .unset, .unset, .unset, .unset, .unset, .unset, .unset, .unset] [])) (fun t k => st9 _ k) ?_
  refine Runs.via (T' := T9) (g' := (mkF m 76 #[.val (.int x0), .val (.int x1), .val (.int x2), .val (.int x3), .val (.ref b2), .unset, .unset, .unset, .unset, .unset, .unset, .unset, .unset, .unset, .unset, .unset, .unset] [(.int x1), (.int (((x3.toUInt32 >>> ((8 : Int32) &&& 31).toUInt32).toInt32) &&& (3 : Int32))), (.int (4 : Int32)), (.ref b2)])) (fun t k => ?_) ?_
  · show Steps p.tables e below (T9.setTop (mkF m 66 #[.val (.int x0), .val (.int x1), .val (.int x2), .val (.int x3), .val (.ref b2), .unset, .unset, .unset, .unset, .unset, .unset, .unset, .unset, .unset, .unset, .unset, .unset] [])) t
    refine XS.aload X9.here hx rfl (hb hby at_66) rfl rfl ?_
    show Steps p.tables e below (T9.setTop (mkF m 68 #[.val (.int x0), .val (.int x1), .val (.int x2), .val (.int x3), .val (.ref b2), .unset, .unset, .unset, .unset, .unset, .unset, .unset, .unset, .unset, .unset, .unset, .unset] [(.ref b2)])) t
    refine XS.iconst X9.here hx rfl (hb hby at_68) ?_
    show Steps p.tables e below (T9.setTop (mkF m 69 #[.val (.int x0), .val (.int x1), .val (.int x2), .val (.int x3), .val (.ref b2), .unset, .unset, .unset, .unset, .unset, .unset, .unset, .unset, .unset, .unset, .unset, .unset] [(.int (4 : Int32)), (.ref b2)])) t
    refine XS.iloadN X9.here hx rfl (hb hby at_69) rfl ?_
    show Steps p.tables e below (T9.setTop (mkF m 70 #[.val (.int x0), .val (.int x1), .val (.int x2), .val (.int x3), .val (.ref b2), .unset, .unset, .unset, .unset, .unset, .unset, .unset, .unset, .unset, .unset, .unset, .unset] [(.int x3), (.int (4 : Int32)), (.ref b2)])) t
    refine XS.bipush X9.here hx rfl (hb hby at_70) ?_
    show Steps p.tables e below (T9.setTop (mkF m 72 #[.val (.int x0), .val (.int x1), .val (.int x2), .val (.int x3), .val (.ref b2), .unset, .unset, .unset, .unset, .unset, .unset, .unset, .unset, .unset, .unset, .unset, .unset] [(.int (8 : Int32)), (.int x3), (.int (4 : Int32)), (.ref b2)])) t
    refine XS.iushr X9.here hx rfl (hb hby at_72) rfl ?_
    show Steps p.tables e below (T9.setTop (mkF m 73 #[.val (.int x0), .val (.int x1), .val (.int x2), .val (.int x3), .val (.ref b2), .unset, .unset, .unset, .unset, .unset, .unset, .unset, .unset, .unset, .unset, .unset, .unset] [(.int ((x3.toUInt32 >>> ((8 : Int32) &&& 31).toUInt32).toInt32)), (.int (4 : Int32)), (.ref b2)])) t
    refine XS.iconst X9.here hx rfl (hb hby at_73) ?_
    show Steps p.tables e below (T9.setTop (mkF m 74 #[.val (.int x0), .val (.int x1), .val (.int x2), .val (.int x3), .val (.ref b2), .unset, .unset, .unset, .unset, .unset, .unset, .unset, .unset, .unset, .unset, .unset, .unset] [(.int (3 : Int32)), (.int ((x3.toUInt32 >>> ((8 : Int32) &&& 31).toUInt32).toInt32)), (.int (4 : Int32)), (.ref b2)])) t
    refine XS.iand X9.here hx rfl (hb hby at_74) rfl ?_
    show Steps p.tables e below (T9.setTop (mkF m 75 #[.val (.int x0), .val (.int x1), .val (.int x2), .val (.int x3), .val (.ref b2), .unset, .unset, .unset, .unset, .unset, .unset, .unset, .unset, .unset, .unset, .unset, .unset] [(.int (((x3.toUInt32 >>> ((8 : Int32) &&& 31).toUInt32).toInt32) &&& (3 : Int32))), (.int (4 : Int32)), (.ref b2)])) t
    refine XS.iloadN X9.here hx rfl (hb hby at_75) rfl ?_
    exact k
  obtain ⟨_, _, ⟨T10, L10, k10, n10⟩, -, X10, ⟨Lc10, hQ10, l10, y10, z10⟩, st10⟩ := Jvm.LawKit.callS X9 hx (y := (⟨"com/example/notewright/notewright/DecimalsScalePinLaw", "draw", "(II)B"⟩ : MethodName)) hown (mvT hZ (hw _ (List.mem_of_getElem? (i := 1) rfl))) (mvT hZ (hw _ (List.mem_of_getElem? (i := 2) rfl))) (mvT hZ (hw _ (List.mem_of_getElem? (i := 3) rfl))) (mvT hZ (hw _ (List.mem_of_getElem? (i := 4) rfl))) (by decide) (backOf (W := 2) (rm1 l Z a0 hw [] (((x3.toUInt32 >>> ((8 : Int32) &&& 31).toUInt32).toInt32) &&& (3 : Int32)) x1 h9 n0) hZ (hw _ (List.mem_of_getElem? (i := 4) rfl)) (hw _ (List.mem_of_getElem? (i := 3) rfl)) (by decide) (by decide)) (g := (mkF m 76 #[.val (.int x0), .val (.int x1), .val (.int x2), .val (.int x3), .val (.ref b2), .unset, .unset, .unset, .unset, .unset, .unset, .unset, .unset, .unset, .unset, .unset, .unset] [(.int x1), (.int (((x3.toUInt32 >>> ((8 : Int32) &&& 31).toUInt32).toInt32) &&& (3 : Int32))), (.int (4 : Int32)), (.ref b2)])) rfl (by rw [hml]; rfl) (argsL := [(.int (((x3.toUInt32 >>> ((8 : Int32) &&& 31).toUInt32).toInt32) &&& (3 : Int32))), (.int x1)]) (rest := [(.int (4 : Int32)), (.ref b2)]) (lenOf pd_0 rfl) rfl (by show 2 * 0 + _ ≤ _; exact Nat.le_of_eq rfl) (hb hby at_76) (fun _ _ => ⟨rfl, e9, (by show (((((cells + 1) + 0) + 0) + 0) + 0) + 0 ≤ 16; omega), (by show (((((slots + 6) + 0) + 0) + 0) + 0) + 0 ≤ 128; omega)⟩)
  dsimp only [Pt.U, Pt.locs, Pt.cells, Pt.slots] at X10 l10 y10 z10 st10 hQ10
  replace y10 := y10.symm; replace z10 := z10.symm; subst l10 y10 z10
  obtain ⟨rfl, N10q, e10⟩ := hQ10
  have N10 := Fr.app N9 N10q
  refine Runs.via (T' := T10) (g' := (mkF m 79 #[.val (.int x0), .val (.int x1), .val (.int x2), .val (.int x3), .val (.ref b2), .unset, .unset, .unset, .unset, .unset, .unset, .unset, .unset, .unset, .unset, .unset, .unset] [(.int (f1 (((x3.toUInt32 >>> ((8 : Int32) &&& 31).toUInt32).toInt32) &&& (3 : Int32)) x1)), (.int (4 : Int32)), (.ref b2)])) (fun t k => st10 _ k) ?_
  refine bindE hr ?_; intro v11 hv11 hr
  obtain ⟨T11, h11, X11, e11, W11, A11, st11⟩ := soB X10 hx hZ e10 A_b2_9 hv11 (g := (mkF m 79 #[.val (.int x0), .val (.int x1), .val (.int x2), .val (.int x3), .val (.ref b2), .unset, .unset, .unset, .unset, .unset, .unset, .unset, .unset, .unset, .unset, .unset, .unset] [(.int (f1 (((x3.toUInt32 >>> ((8 : Int32) &&& 31).toUInt32).toInt32) &&& (3 : Int32)) x1)), (.int (4 : Int32)), (.ref b2)])) rfl rfl (hb hby at_79)
  have A_b2_11 : AI Z h11 b2 .byte v11 := A11
  have N11 := Fr.snoc X11 N10 (by omega : n0 ≤ b2)
  have zz11 : n0 ≤ h11.size := Nat.le_trans zz9 (Keep.of_wr W11).1
  refine Runs.via (T' := T11) (g' := (mkF m 80 #[.val (.int x0), .val (.int x1), .val (.int x2), .val (.int x3), .val (.ref b2), .unset, .unset, .unset, .unset, .unset, .unset, .unset, .unset, .unset, .unset, .unset, .unset] [])) (fun t k => st11 _ k) ?_
  refine Runs.via (T' := T11) (g' := (mkF m 93 #[.val (.int x0), .val (.int x1), .val (.int x2), .val (.int x3), .val (.ref b2), .unset, .unset, .unset, .unset, .unset, .unset, .unset, .unset, .unset, .unset, .unset, .unset] [(.int ((x1.toUInt32 >>> ((8 : Int32) &&& 31).toUInt32).toInt32)), (.int (((x3.toUInt32 >>> ((10 : Int32) &&& 31).toUInt32).toInt32) &&& (3 : Int32))), (.int (5 : Int32)), (.ref b2)])) (fun t k => ?_) ?_
  · show Steps p.tables e below (T11.setTop (mkF m 80 #[.val (.int x0), .val (.int x1), .val (.int x2), .val (.int x3), .val (.ref b2), .unset, .unset, .unset, .unset, .unset, .unset, .unset, .unset, .unset, .unset, .unset, .unset] [])) t
    refine XS.aload X11.here hx rfl (hb hby at_80) rfl rfl ?_
    show Steps p.tables e below (T11.setTop (mkF m 82 #[.val (.int x0), .val (.int x1), .val (.int x2), .val (.int x3), .val (.ref b2), .unset, .unset, .unset, .unset, .unset, .unset, .unset, .unset, .unset, .unset, .unset, .unset] [(.ref b2)])) t
    refine XS.iconst X11.here hx rfl (hb hby at_82) ?_
    show Steps p.tables e below (T11.setTop (mkF m 83 #[.val (.int x0), .val (.int x1), .val (.int x2), .val (.int x3), .val (.ref b2), .unset, .unset, .unset, .unset, .unset, .unset, .unset, .unset, .unset, .unset, .unset, .unset] [(.int (5 : Int32)), (.ref b2)])) t
    refine XS.iloadN X11.here hx rfl (hb hby at_83) rfl ?_
    show Steps p.tables e below (T11.setTop (mkF m 84 #[.val (.int x0), .val (.int x1), .val (.int x2), .val (.int x3), .val (.ref b2), .unset, .unset, .unset, .unset, .unset, .unset, .unset, .unset, .unset, .unset, .unset, .unset] [(.int x3), (.int (5 : Int32)), (.ref b2)])) t
    refine XS.bipush X11.here hx rfl (hb hby at_84) ?_
    show Steps p.tables e below (T11.setTop (mkF m 86 #[.val (.int x0), .val (.int x1), .val (.int x2), .val (.int x3), .val (.ref b2), .unset, .unset, .unset, .unset, .unset, .unset, .unset, .unset, .unset, .unset, .unset, .unset] [(.int (10 : Int32)), (.int x3), (.int (5 : Int32)), (.ref b2)])) t
    refine XS.iushr X11.here hx rfl (hb hby at_86) rfl ?_
    show Steps p.tables e below (T11.setTop (mkF m 87 #[.val (.int x0), .val (.int x1), .val (.int x2), .val (.int x3), .val (.ref b2), .unset, .unset, .unset, .unset, .unset, .unset, .unset, .unset, .unset, .unset, .unset, .unset] [(.int ((x3.toUInt32 >>> ((10 : Int32) &&& 31).toUInt32).toInt32)), (.int (5 : Int32)), (.ref b2)])) t
    refine XS.iconst X11.here hx rfl (hb hby at_87) ?_
    show Steps p.tables e below (T11.setTop (mkF m 88 #[.val (.int x0), .val (.int x1), .val (.int x2), .val (.int x3), .val (.ref b2), .unset, .unset, .unset, .unset, .unset, .unset, .unset, .unset, .unset, .unset, .unset, .unset] [(.int (3 : Int32)), (.int ((x3.toUInt32 >>> ((10 : Int32) &&& 31).toUInt32).toInt32)), (.int (5 : Int32)), (.ref b2)])) t
    refine XS.iand X11.here hx rfl (hb hby at_88) rfl ?_
    show Steps p.tables e below (T11.setTop (mkF m 89 #[.val (.int x0), .val (.int x1), .val (.int x2), .val (.int x3), .val (.ref b2), .unset, .unset, .unset, .unset, .unset, .unset, .unset, .unset, .unset, .unset, .unset, .unset] [(.int (((x3.toUInt32 >>> ((10 : Int32) &&& 31).toUInt32).toInt32) &&& (3 : Int32))), (.int (5 : Int32)), (.ref b2)])) t
    refine XS.iloadN X11.here hx rfl (hb hby at_89) rfl ?_
    show Steps p.tables e below (T11.setTop (mkF m 90 #[.val (.int x0), .val (.int x1), .val (.int x2), .val (.int x3), .val (.ref b2), .unset, .unset, .unset, .unset, .unset, .unset, .unset, .unset, .unset, .unset, .unset, .unset] [(.int x1), (.int (((x3.toUInt32 >>> ((10 : Int32) &&& 31).toUInt32).toInt32) &&& (3 : Int32))), (.int (5 : Int32)), (.ref b2)])) t
    refine XS.bipush X11.here hx rfl (hb hby at_90) ?_
    show Steps p.tables e below (T11.setTop (mkF m 92 #[.val (.int x0), .val (.int x1), .val (.int x2), .val (.int x3), .val (.ref b2), .unset, .unset, .unset, .unset, .unset, .unset, .unset, .unset, .unset, .unset, .unset, .unset] [(.int (8 : Int32)), (.int x1), (.int (((x3.toUInt32 >>> ((10 : Int32) &&& 31).toUInt32).toInt32) &&& (3 : Int32))), (.int (5 : Int32)), (.ref b2)])) t
    refine XS.iushr X11.here hx rfl (hb hby at_92) rfl ?_
    exact k
  obtain ⟨_, _, ⟨T12, L12, k12, n12⟩, -, X12, ⟨Lc12, hQ12, l12, y12, z12⟩, st12⟩ := Jvm.LawKit.callS X11 hx (y := (⟨"com/example/notewright/notewright/DecimalsScalePinLaw", "draw", "(II)B"⟩ : MethodName)) hown (mvT hZ (hw _ (List.mem_of_getElem? (i := 1) rfl))) (mvT hZ (hw _ (List.mem_of_getElem? (i := 2) rfl))) (mvT hZ (hw _ (List.mem_of_getElem? (i := 3) rfl))) (mvT hZ (hw _ (List.mem_of_getElem? (i := 4) rfl))) (by decide) (backOf (W := 2) (rm1 l Z a0 hw [] (((x3.toUInt32 >>> ((10 : Int32) &&& 31).toUInt32).toInt32) &&& (3 : Int32)) ((x1.toUInt32 >>> ((8 : Int32) &&& 31).toUInt32).toInt32) h11 n0) hZ (hw _ (List.mem_of_getElem? (i := 4) rfl)) (hw _ (List.mem_of_getElem? (i := 3) rfl)) (by decide) (by decide)) (g := (mkF m 93 #[.val (.int x0), .val (.int x1), .val (.int x2), .val (.int x3), .val (.ref b2), .unset, .unset, .unset, .unset, .unset, .unset, .unset, .unset, .unset, .unset, .unset, .unset] [(.int ((x1.toUInt32 >>> ((8 : Int32) &&& 31).toUInt32).toInt32)), (.int (((x3.toUInt32 >>> ((10 : Int32) &&& 31).toUInt32).toInt32) &&& (3 : Int32))), (.int (5 : Int32)), (.ref b2)])) rfl (by rw [hml]; rfl) (argsL := [(.int (((x3.toUInt32 >>> ((10 : Int32) &&& 31).toUInt32).toInt32) &&& (3 : Int32))), (.int ((x1.toUInt32 >>> ((8 : Int32) &&& 31).toUInt32).toInt32))]) (rest := [(.int (5 : Int32)), (.ref b2)]) (lenOf pd_0 rfl) rfl (by show 2 * 0 + _ ≤ _; exact Nat.le_of_eq rfl) (hb hby at_93) (fun _ _ => ⟨rfl, e11, (by show ((((((cells + 1) + 0) + 0) + 0) + 0) + 0) + 0 ≤ 16; omega), (by show ((((((slots + 6) + 0) + 0) + 0) + 0) + 0) + 0 ≤ 128; omega)⟩)
  dsimp only [Pt.U, Pt.locs, Pt.cells, Pt.slots] at X12 l12 y12 z12 st12 hQ12
  replace y12 := y12.symm; replace z12 := z12.symm; subst l12 y12 z12
  obtain ⟨rfl, N12q, e12⟩ := hQ12
  have N12 := Fr.app N11 N12q
  refine Runs.via (T' := T12) (g' := (mkF m 96 #[.val (.int x0), .val (.int x1), .val (.int x2), .val (.int x3), .val (.ref b2), .unset, .unset, .unset, .unset, .unset, .unset, .unset, .unset, .unset, .unset, .unset, .unset] [(.int (f1 (((x3.toUInt32 >>> ((10 : Int32) &&& 31).toUInt32).toInt32) &&& (3 : Int32)) ((x1.toUInt32 >>> ((8 : Int32) &&& 31).toUInt32).toInt32))), (.int (5 : Int32)), (.ref b2)])) (fun t k => st12 _ k) ?_
  refine bindE hr ?_; intro v13 hv13 hr
  obtain ⟨T13, h13, X13, e13, W13, A13, st13⟩ := soB X12 hx hZ e12 A_b2_11 hv13 (g := (mkF m 96 #[.val (.int x0), .val (.int x1), .val (.int x2), .val (.int x3), .val (.ref b2), .unset, .unset, .unset, .unset, .unset, .unset, .unset, .unset, .unset, .unset, .unset, .unset] [(.int (f1 (((x3.toUInt32 >>> ((10 : Int32) &&& 31).toUInt32).toInt32) &&& (3 : Int32)) ((x1.toUInt32 >>> ((8 : Int32) &&& 31).toUInt32).toInt32))), (.int (5 : Int32)), (.ref b2)])) rfl rfl (hb hby at_96)
  have A_b2_13 : AI Z h13 b2 .byte v13 := A13
  have N13 := Fr.snoc X13 N12 (by omega : n0 ≤ b2)
  have zz13 : n0 ≤ h13.size := Nat.le_trans zz11 (Keep.of_wr W13).1
  refine Runs.via (T' := T13) (g' := (mkF m 97 #[.val (.int x0), .val (.int x1), .val (.int x2), .val (.int x3), .val (.ref b2), .unset, .unset, .unset, .unset, .unset, .unset, .unset, .unset, .unset, .unset, .unset, .unset] [])) (fun t k => st13 _ k) ?_
  refine Runs.via (T' := T13) (g' := (mkF m 104 #[.val (.int x0), .val (.int x1), .val (.int x2), .val (.int x3), .val (.ref b2), .unset, .unset, .unset, .unset, .unset, .unset, .unset, .unset, .unset, .unset, .unset, .unset] [(.int ((x2 &&& (2147483647 : Int32)) - ((x2 &&& (2147483647 : Int32)) / (7 : Int32)) * (7 : Int32)))])) (fun t k => ?_) ?_
  · show Steps p.tables e below (T13.setTop (mkF m 97 #[.val (.int x0), .val (.int x1), .val (.int x2), .val (.int x3), .val (.ref b2), .unset, .unset, .unset, .unset, .unset, .unset, .unset, .unset, .unset, .unset, .unset, .unset] [])) t
    refine XS.iloadN X13.here hx rfl (hb hby at_97) rfl ?_
    show Steps p.tables e below (T13.setTop (mkF m 98 #[.val (.int x0), .val (.int x1), .val (.int x2), .val (.int x3), .val (.ref b2), .unset, .unset, .unset, .unset, .unset, .unset, .unset, .unset, .unset, .unset, .unset, .unset] [(.int x2)])) t
    refine X13.ldcInt hx hown (mvT hZ (hw _ (List.mem_of_getElem? (i := 5) rfl))) (g := (mkF m 98 #[.val (.int x0), .val (.int x1), .val (.int x2), .val (.int x3), .val (.ref b2), .unset, .unset, .unset, .unset, .unset, .unset, .unset, .unset, .unset, .unset, .unset, .unset] [(.int x2)])) rfl (hb hby at_98) _ ?_
    show Steps p.tables e below (T13.setTop (mkF m 100 #[.val (.int x0), .val (.int x1), .val (.int x2), .val (.int x3), .val (.ref b2), .unset, .unset, .unset, .unset, .unset, .unset, .unset, .unset, .unset, .unset, .unset, .unset] [(.int (2147483647 : Int32)), (.int x2)])) t
    refine XS.iand X13.here hx rfl (hb hby at_100) rfl ?_
    show Steps p.tables e below (T13.setTop (mkF m 101 #[.val (.int x0), .val (.int x1), .val (.int x2), .val (.int x3), .val (.ref b2), .unset, .unset, .unset, .unset, .unset, .unset, .unset, .unset, .unset, .unset, .unset, .unset] [(.int (x2 &&& (2147483647 : Int32)))])) t
    refine XS.bipush X13.here hx rfl (hb hby at_101) ?_
    show Steps p.tables e below (T13.setTop (mkF m 103 #[.val (.int x0), .val (.int x1), .val (.int x2), .val (.int x3), .val (.ref b2), .unset, .unset, .unset, .unset, .unset, .unset, .unset, .unset, .unset, .unset, .unset, .unset] [(.int (7 : Int32)), (.int (x2 &&& (2147483647 : Int32)))])) t
    refine XS.irem X13.here hx rfl (hb hby at_103) rfl (by decide) ?_
    exact k
  refine letE hr ?_; intro v14 hv14 hr
  rw [← hv14]
  refine Runs.via (T' := T13) (g' := (mkF m 116 #[.val (.int x0), .val (.int x1), .val (.int x2), .val (.int x3), .val (.ref b2), .val (.int v14), .unset, .unset, .unset, .unset, .unset, .unset, .unset, .unset, .unset, .unset, .unset] [(.int ((((x2.toUInt32 >>> ((8 : Int32) &&& 31).toUInt32).toInt32) &&& (2147483647 : Int32)) - ((((x2.toUInt32 >>> ((8 : Int32) &&& 31).toUInt32).toInt32) &&& (2147483647 : Int32)) / (7 : Int32)) * (7 : Int32)))])) (fun t k => ?_) ?_
  · show Steps p.tables e below (T13.setTop (mkF m 104 #[.val (.int x0), .val (.int x1), .val (.int x2), .val (.int x3), .val (.ref b2), .unset, .unset, .unset, .unset, .unset, .unset, .unset, .unset, .unset, .unset, .unset, .unset] [(.int v14)])) t
    refine XS.istore X13.here hx rfl (hb hby at_104) rfl (l' := #[.val (.int x0), .val (.int x1), .val (.int x2), .val (.int x3), .val (.ref b2), .val (.int v14), .unset, .unset, .unset, .unset, .unset, .unset, .unset, .unset, .unset, .unset, .unset]) rfl ?_
    show Steps p.tables e below (T13.setTop (mkF m 106 #[.val (.int x0), .val (.int x1), .val (.int x2), .val (.int x3), .val (.ref b2), .val (.int v14), .unset, .unset, .unset, .unset, .unset, .unset, .unset, .unset, .unset, .unset, .unset] [])) t
    refine XS.iloadN X13.here hx rfl (hb hby at_106) rfl ?_
    show Steps p.tables e below (T13.setTop (mkF m 107 #[.val (.int x0), .val (.int x1), .val (.int x2), .val (.int x3), .val (.ref b2), .val (.int v14), .unset, .unset, .unset, .unset, .unset, .unset, .unset, .unset, .unset, .unset, .unset] [(.int x2)])) t
    refine XS.bipush X13.here hx rfl (hb hby at_107) ?_
    show Steps p.tables e below (T13.setTop (mkF m 109 #[.val (.int x0), .val (.int x1), .val (.int x2), .val (.int x3), .val (.ref b2), .val (.int v14), .unset, .unset, .unset, .unset, .unset, .unset, .unset, .unset, .unset, .unset, .unset] [(.int (8 : Int32)), (.int x2)])) t
    refine XS.iushr X13.here hx rfl (hb hby at_109) rfl ?_
    show Steps p.tables e below (T13.setTop (mkF m 110 #[.val (.int x0), .val (.int x1), .val (.int x2), .val (.int x3), .val (.ref b2), .val (.int v14), .unset, .unset, .unset, .unset, .unset, .unset, .unset, .unset, .unset, .unset, .unset] [(.int ((x2.toUInt32 >>> ((8 : Int32) &&& 31).toUInt32).toInt32))])) t
    refine X13.ldcInt hx hown (mvT hZ (hw _ (List.mem_of_getElem? (i := 5) rfl))) (g := (mkF m 110 #[.val (.int x0), .val (.int x1), .val (.int x2), .val (.int x3), .val (.ref b2), .val (.int v14), .unset, .unset, .unset, .unset, .unset, .unset, .unset, .unset, .unset, .unset, .unset] [(.int ((x2.toUInt32 >>> ((8 : Int32) &&& 31).toUInt32).toInt32))])) rfl (hb hby at_110) _ ?_
    show Steps p.tables e below (T13.setTop (mkF m 112 #[.val (.int x0), .val (.int x1), .val (.int x2), .val (.int x3), .val (.ref b2), .val (.int v14), .unset, .unset, .unset, .unset, .unset, .unset, .unset, .unset, .unset, .unset, .unset] [(.int (2147483647 : Int32)), (.int ((x2.toUInt32 >>> ((8 : Int32) &&& 31).toUInt32).toInt32))])) t
    refine XS.iand X13.here hx rfl (hb hby at_112) rfl ?_
    show Steps p.tables e below (T13.setTop (mkF m 113 #[.val (.int x0), .val (.int x1), .val (.int x2), .val (.int x3), .val (.ref b2), .val (.int v14), .unset, .unset, .unset, .unset, .unset, .unset, .unset, .unset, .unset, .unset, .unset] [(.int (((x2.toUInt32 >>> ((8 : Int32) &&& 31).toUInt32).toInt32) &&& (2147483647 : Int32)))])) t
    refine XS.bipush X13.here hx rfl (hb hby at_113) ?_
    show Steps p.tables e below (T13.setTop (mkF m 115 #[.val (.int x0), .val (.int x1), .val (.int x2), .val (.int x3), .val (.ref b2), .val (.int v14), .unset, .unset, .unset, .unset, .unset, .unset, .unset, .unset, .unset, .unset, .unset] [(.int (7 : Int32)), (.int (((x2.toUInt32 >>> ((8 : Int32) &&& 31).toUInt32).toInt32) &&& (2147483647 : Int32)))])) t
    refine XS.irem X13.here hx rfl (hb hby at_115) rfl (by decide) ?_
    exact k
  refine letE hr ?_; intro v15 hv15 hr
  rw [← hv15]
  refine Runs.via (T' := T13) (g' := (mkF m 118 #[.val (.int x0), .val (.int x1), .val (.int x2), .val (.int x3), .val (.ref b2), .val (.int v14), .val (.int v15), .unset, .unset, .unset, .unset, .unset, .unset, .unset, .unset, .unset, .unset] [])) (fun t k => ?_) ?_
  · show Steps p.tables e below (T13.setTop (mkF m 116 #[.val (.int x0), .val (.int x1), .val (.int x2), .val (.int x3), .val (.ref b2), .val (.int v14), .unset, .unset, .unset, .unset, .unset, .unset, .unset, .unset, .unset, .unset, .unset] [(.int v15)])) t
    refine XS.istore X13.here hx rfl (hb hby at_116) rfl (l' := #[.val (.int x0), .val (.int x1), .val (.int x2), .val (.int x3), .val (.ref b2), .val (.int v14), .val (.int v15), .unset, .unset, .unset, .unset, .unset, .unset, .unset, .unset, .unset, .unset]) rfl ?_
    exact k
  exact b0_118 C fuel X13 e13 N13 (by show (((((((cells + 1) + 0) + 0) + 0) + 0) + 0) + 0) ≤ 1; omega) (by show (((((((slots + 6) + 0) + 0) + 0) + 0) + 0) + 0) ≤ 6; omega) zz13 b2 (by omega) v13 x0 x1 x2 x3 v14 v15 A_b2_13 hr
def f0 (fuel : Nat) (x0 : Int32) (x1 : Int32) (x2 : Int32) (x3 : Int32) : Option (Int32) := g0_0 fuel x0 x1 x2 x3
theorem pn_0 : plainName "com/example/notewright/notewright/DecimalsScalePinLaw" = true := by first | (simp [plainName, overriddenIn]; done) | decide +kernel
theorem ef_0 (m : MethodId) (x0 : Int32) (x1 : Int32) (x2 : Int32) (x3 : Int32) : entryFrame m #[(.int x0), (.int x1), (.int x2), (.int x3)] maxLocals = mkF m 0 #[.val (.int x0), .val (.int x1), .val (.int x2), .val (.int x3), .unset, .unset, .unset, .unset, .unset, .unset, .unset, .unset, .unset, .unset, .unset, .unset, .unset] [] := by first | (simp [entryFrame, mkF, argsToLocals, Value.category, maxLocals]; done) | rfl
set_option maxRecDepth 65536 in
set_option maxHeartbeats 4000000 in
theorem rm0 (l : Launch) (Z : State) (a0 : Array Value) (hw : ∀ d ∈ tables_1, d.before a0 Z = true) (ws : List Jvm.Cond) (x0 : Int32) (x1 : Int32) (x2 : Int32) (x3 : Int32) (hE : Heap) (n0 : Nat) (Z0 : n0 ≤ hE.size) (fuel : Nat) (r : Int32) (hr : f0 fuel x0 x1 x2 x3 = some r) :
    MetFree l x (head1 (Jvm.Cond.code x code maxLocals ret :: ws) room_1) (fun a U => a = #[(.int x0), (.int x1), (.int x2), (.int x3)] ∧ Z.Warmed39 U.vm ∧ U.heap = hE) (fun _ _ _ _ _ => True) (fun _ U o U' => ∃ v L, o = .returned v ∧ (P0 n0 r v U'.heap L) ∧ FrameEnd U o U' L 1 6) := by
  refine MetFree.of_bodySF (plainFor_of_name pn_0) hisR ?_
  intro p e s m args below meth c s₁ Bd hml0 hP hK
  obtain ⟨rfl, hZ, hh⟩ := hP
  have X0 : Stand p l e room_1 s m #[(.int x0), (.int x1), (.int x2), (.int x3)] below meth c s₁ [] 0 0 := Stand.of_body Bd
  have e0 : s₁.heap = hE := by rw [← hh, Bd.state]; rfl
  have C : Ctx p s m meth c Z a0 "com/example/notewright/notewright/DecimalsScalePinLaw" code 17 (some .boolean) "law" := ⟨Bd.exec, hZ, hw, Bd.bytes, hml0, findClass_of_methodNamed Bd.named, Bd.returns, BodyLoose.notSynchronized Bd, (name_of_methodNamed Bd.named Bd.method).1⟩
  refine Runs.via (fun t k => castTop (ef_0 m x0 x1 x2 x3) k) (b0_0 C fuel X0 e0 (Fr.nil n0) (by show 0 ≤ 0; omega) (by show 0 ≤ 0; omega) Z0 x0 x1 x2 x3 hr)
end Own
theorem bindS {α β : Type} {x : Option α} {k : α → Option β} {r : Option β} {v : α} (h : x = some v) (H : k v = r) : x.bind k = r := by rw [h]; exact H
theorem letS {α β : Type} {x : α} {k : α → β} {r : β} (H : k x = r) : letO x k = r := H
theorem wrS {α β : Type} {n : Nat} {xs : List α} {j : Int32} {v : α} {k : List α → Option β} {r : Option β} (hl : xs.length = n) (h1 : ¬ j < 0) (h2 : j.toNatClampNeg < n) (H : ∀ ys : List α, ys.length = n → k ys = r) : (wrO xs j v).bind k = r := by
  refine bindS (v := xs.set j.toNatClampNeg v) ?_ (H _ (by simp [hl]))
  unfold wrO
  rw [if_neg]
  rintro (q | q)
  · exact h1 q
  · omega
theorem own_irem (u d : Int32) (D : Int) (hd : d.toInt = D) (hD : 0 < D) (h0 : 0 ≤ u.toInt) : (u - (u / d) * d).toInt = u.toInt % D := by
  have hn : d ≠ -1 := fun q => by rw [q] at hd; have : (-1 : Int32).toInt = -1 := by decide
                                  omega
  have e1 := (c_idiv u d D hd hn).1 h0
  have e2 := c_imul (u / d) d
  have e3 := c_isub u ((u / d) * d)
  have r1 := rng32 u
  have r2 := rng32 ((u / d) * d)
  have r3 := rng32 (u - (u / d) * d)
  rw [hd, e1] at e2
  have e4 := Int.emod_add_mul_ediv u.toInt D
  have e5 := Int.emod_nonneg u.toInt (by omega : D ≠ 0)
  have e6 := Int.emod_lt_of_pos u.toInt hD
  have e7 : u.toInt / D * D = D * (u.toInt / D) := Int.mul_comm _ _
  rw [e7] at e2
  have e8 : 0 ≤ D * (u.toInt / D) := Int.mul_nonneg (by omega) (Int.ediv_nonneg h0 (by omega))
  omega
theorem own_pos (x : Int32) : 0 ≤ (x &&& (2147483647 : Int32)).toInt := by rw [c_mask x 2147483647 31 (by decide) (by decide)]; exact Int.emod_nonneg _ (by decide)
/-- a byte counts only by whether it is the point, a digit, or neither -/
def own_cn (v : Int32) : Int32 := if v = 46 then 46 else if v < 48 then 0 else if (57 : Int32) < v then 0 else 48
theorem own_cn46 (v : Int32) : (own_cn v = 46) = (v = 46) := by
  unfold own_cn
  by_cases h : v = 46
  · simp [h]
  · by_cases h2 : v < 48
    · simp [h, h2]
    · by_cases h3 : (57 : Int32) < v
      · simp [h, h2, h3]
      · simp [h, h2, h3]
theorem own_cnd (v : Int32) (h : ¬ v = 46) : f5 (own_cn v) = f5 v := by
  unfold f5 g5_0 own_cn
  by_cases h2 : v < 48
  · simp only [if_neg h, if_pos h2]; decide
  · by_cases h3 : (57 : Int32) < v
    · simp only [if_neg h, if_neg h2, if_pos h3]; decide
    · simp only [if_neg h, if_neg h2, if_neg h3]; decide
theorem own_rd (xs : List Int32) (j : Int32) : rdO (xs.map own_cn) j = (rdO xs j).map own_cn := by
  unfold rdO
  split
  · rfl
  · simp
theorem own_f2 (i s e : Int32) (xs : List Int32) : f2 i s e (xs.map own_cn) = f2 i s e xs := by
  unfold f2 g2_0
  rw [own_rd]
  cases rdO xs i with
  | none => rfl
  | some v => simp only [Option.map_some, Option.bind_some, own_cn46]
theorem own_f3 (i s e : Int32) (xs : List Int32) : f3 i s e (xs.map own_cn) = f3 i s e xs := by
  unfold f3 g3_0
  rw [own_rd]
  cases rdO xs i with
  | none => rfl
  | some v =>
    simp only [Option.map_some, Option.bind_some, own_cn46]
    by_cases h : v = 46
    · simp only [if_pos h]
    · simp only [if_neg h, own_cnd v h]
theorem own_65 (K : Int32 → Int32 → Int32 → Int32 → Int32 → List Int32 → Option Int32) (fuel : Nat) (s e p i v : Int32) (xs : List Int32) : g4_65 K fuel s e p i v xs = if f5 v = 0 then K s e p 0 (i + 1) xs else K s e p 1 (i + 1) xs := by
  unfold g4_65 g4_83 g4_84 g4_86 f5 g5_0
  by_cases h2 : v < 48
  · simp [h2]
  · by_cases h3 : (57 : Int32) < v
    · simp [h2, h3]
    · simp [h2, h3]
theorem own_f5_46 : f5 46 = 0 := by decide
theorem own_cn_46 : own_cn 46 = 46 := by decide
theorem own_h4 (fuel n : Nat) (xs : List Int32) : ∀ s e p q i : Int32, h4_17 fuel n s e p q i (xs.map own_cn) = h4_17 fuel n s e p q i xs := by
  induction n with
  | zero => intro s e p q i; rfl
  | succ n ih =>
    intro s e p q i
    show s4_17 (h4_17 fuel n) fuel s e p q i (xs.map own_cn) = s4_17 (h4_17 fuel n) fuel s e p q i xs
    unfold s4_17
    have e92 : g4_92 fuel e p q (xs.map own_cn) = g4_92 fuel e p q xs := rfl
    rw [own_rd, e92]
    cases rdO xs i with
    | none => rfl
    | some v =>
      simp only [Option.map_some, Option.bind_some, own_cn46, own_65]
      unfold g4_86
      simp only [ih]
      by_cases h : v = 46
      · subst h
        simp only [own_cn_46]
      · simp only [if_neg h, own_cnd v h]
theorem own_f4 (fuel : Nat) (s e : Int32) (xs : List Int32) : f4 fuel s e (xs.map own_cn) = f4 fuel s e xs := by
  unfold f4 g4_0 g4_12 g4_17
  simp only [own_h4]
theorem own_118 (fuel : Nat) (s e : Int32) (xs : List Int32) : g0_118 fuel s e (xs.map own_cn) = g0_118 fuel s e xs := by
  unfold g0_118 g0_324 g0_358 g0_364 g0_385
  simp only [own_f2, own_f3, own_f4, own_rd]
  cases rdO xs s with
  | none => simp only [Option.map_none, Option.bind_none]
  | some v =>
    cases rdO xs (e - 1) with
    | none => simp only [Option.map_some, Option.map_none, Option.bind_some, Option.bind_none, own_cn46]
    | some w => simp only [Option.map_some, Option.bind_some, own_cn46]
def own_b : Fin 3 → Int32
  | 0 => 0
  | 1 => 46
  | 2 => 48
theorem own_b_cn (v : Int32) : ∃ a : Fin 3, own_cn v = own_b a := by
  unfold own_cn
  split
  · exact ⟨1, rfl⟩
  · split
    · exact ⟨0, rfl⟩
    · split
      · exact ⟨0, rfl⟩
      · exact ⟨2, rfl⟩
theorem own_fin_0_0 : ∀ a b c d e f : Fin 3, g0_118 8 0 0 [own_b a, own_b b, own_b c, own_b d, own_b e, own_b f] = some 1 := by decide +kernel
theorem own_fin_0_1 : ∀ a b c d e f : Fin 3, g0_118 8 0 1 [own_b a, own_b b, own_b c, own_b d, own_b e, own_b f] = some 1 := by decide +kernel
theorem own_fin_0_2 : ∀ a b c d e f : Fin 3, g0_118 8 0 2 [own_b a, own_b b, own_b c, own_b d, own_b e, own_b f] = some 1 := by decide +kernel
theorem own_fin_0_3 : ∀ a b c d e f : Fin 3, g0_118 8 0 3 [own_b a, own_b b, own_b c, own_b d, own_b e, own_b f] = some 1 := by decide +kernel
theorem own_fin_0_4 : ∀ a b c d e f : Fin 3, g0_118 8 0 4 [own_b a, own_b b, own_b c, own_b d, own_b e, own_b f] = some 1 := by decide +kernel
theorem own_fin_0_5 : ∀ a b c d e f : Fin 3, g0_118 8 0 5 [own_b a, own_b b, own_b c, own_b d, own_b e, own_b f] = some 1 := by decide +kernel
theorem own_fin_0_6 : ∀ a b c d e f : Fin 3, g0_118 8 0 6 [own_b a, own_b b, own_b c, own_b d, own_b e, own_b f] = some 1 := by decide +kernel
theorem own_fin_1_0 : ∀ a b c d e f : Fin 3, g0_118 8 1 0 [own_b a, own_b b, own_b c, own_b d, own_b e, own_b f] = some 1 := by decide +kernel
theorem own_fin_1_1 : ∀ a b c d e f : Fin 3, g0_118 8 1 1 [own_b a, own_b b, own_b c, own_b d, own_b e, own_b f] = some 1 := by decide +kernel
theorem own_fin_1_2 : ∀ a b c d e f : Fin 3, g0_118 8 1 2 [own_b a, own_b b, own_b c, own_b d, own_b e, own_b f] = some 1 := by decide +kernel
theorem own_fin_1_3 : ∀ a b c d e f : Fin 3, g0_118 8 1 3 [own_b a, own_b b, own_b c, own_b d, own_b e, own_b f] = some 1 := by decide +kernel
theorem own_fin_1_4 : ∀ a b c d e f : Fin 3, g0_118 8 1 4 [own_b a, own_b b, own_b c, own_b d, own_b e, own_b f] = some 1 := by decide +kernel
theorem own_fin_1_5 : ∀ a b c d e f : Fin 3, g0_118 8 1 5 [own_b a, own_b b, own_b c, own_b d, own_b e, own_b f] = some 1 := by decide +kernel
theorem own_fin_1_6 : ∀ a b c d e f : Fin 3, g0_118 8 1 6 [own_b a, own_b b, own_b c, own_b d, own_b e, own_b f] = some 1 := by decide +kernel
theorem own_fin_2_0 : ∀ a b c d e f : Fin 3, g0_118 8 2 0 [own_b a, own_b b, own_b c, own_b d, own_b e, own_b f] = some 1 := by decide +kernel
theorem own_fin_2_1 : ∀ a b c d e f : Fin 3, g0_118 8 2 1 [own_b a, own_b b, own_b c, own_b d, own_b e, own_b f] = some 1 := by decide +kernel
theorem own_fin_2_2 : ∀ a b c d e f : Fin 3, g0_118 8 2 2 [own_b a, own_b b, own_b c, own_b d, own_b e, own_b f] = some 1 := by decide +kernel
theorem own_fin_2_3 : ∀ a b c d e f : Fin 3, g0_118 8 2 3 [own_b a, own_b b, own_b c, own_b d, own_b e, own_b f] = some 1 := by decide +kernel
theorem own_fin_2_4 : ∀ a b c d e f : Fin 3, g0_118 8 2 4 [own_b a, own_b b, own_b c, own_b d, own_b e, own_b f] = some 1 := by decide +kernel
theorem own_fin_2_5 : ∀ a b c d e f : Fin 3, g0_118 8 2 5 [own_b a, own_b b, own_b c, own_b d, own_b e, own_b f] = some 1 := by decide +kernel
theorem own_fin_2_6 : ∀ a b c d e f : Fin 3, g0_118 8 2 6 [own_b a, own_b b, own_b c, own_b d, own_b e, own_b f] = some 1 := by decide +kernel
theorem own_fin_3_0 : ∀ a b c d e f : Fin 3, g0_118 8 3 0 [own_b a, own_b b, own_b c, own_b d, own_b e, own_b f] = some 1 := by decide +kernel
theorem own_fin_3_1 : ∀ a b c d e f : Fin 3, g0_118 8 3 1 [own_b a, own_b b, own_b c, own_b d, own_b e, own_b f] = some 1 := by decide +kernel
theorem own_fin_3_2 : ∀ a b c d e f : Fin 3, g0_118 8 3 2 [own_b a, own_b b, own_b c, own_b d, own_b e, own_b f] = some 1 := by decide +kernel
theorem own_fin_3_3 : ∀ a b c d e f : Fin 3, g0_118 8 3 3 [own_b a, own_b b, own_b c, own_b d, own_b e, own_b f] = some 1 := by decide +kernel
theorem own_fin_3_4 : ∀ a b c d e f : Fin 3, g0_118 8 3 4 [own_b a, own_b b, own_b c, own_b d, own_b e, own_b f] = some 1 := by decide +kernel
theorem own_fin_3_5 : ∀ a b c d e f : Fin 3, g0_118 8 3 5 [own_b a, own_b b, own_b c, own_b d, own_b e, own_b f] = some 1 := by decide +kernel
theorem own_fin_3_6 : ∀ a b c d e f : Fin 3, g0_118 8 3 6 [own_b a, own_b b, own_b c, own_b d, own_b e, own_b f] = some 1 := by decide +kernel
theorem own_fin_4_0 : ∀ a b c d e f : Fin 3, g0_118 8 4 0 [own_b a, own_b b, own_b c, own_b d, own_b e, own_b f] = some 1 := by decide +kernel
theorem own_fin_4_1 : ∀ a b c d e f : Fin 3, g0_118 8 4 1 [own_b a, own_b b, own_b c, own_b d, own_b e, own_b f] = some 1 := by decide +kernel
theorem own_fin_4_2 : ∀ a b c d e f : Fin 3, g0_118 8 4 2 [own_b a, own_b b, own_b c, own_b d, own_b e, own_b f] = some 1 := by decide +kernel
theorem own_fin_4_3 : ∀ a b c d e f : Fin 3, g0_118 8 4 3 [own_b a, own_b b, own_b c, own_b d, own_b e, own_b f] = some 1 := by decide +kernel
theorem own_fin_4_4 : ∀ a b c d e f : Fin 3, g0_118 8 4 4 [own_b a, own_b b, own_b c, own_b d, own_b e, own_b f] = some 1 := by decide +kernel
theorem own_fin_4_5 : ∀ a b c d e f : Fin 3, g0_118 8 4 5 [own_b a, own_b b, own_b c, own_b d, own_b e, own_b f] = some 1 := by decide +kernel
theorem own_fin_4_6 : ∀ a b c d e f : Fin 3, g0_118 8 4 6 [own_b a, own_b b, own_b c, own_b d, own_b e, own_b f] = some 1 := by decide +kernel
theorem own_fin_5_0 : ∀ a b c d e f : Fin 3, g0_118 8 5 0 [own_b a, own_b b, own_b c, own_b d, own_b e, own_b f] = some 1 := by decide +kernel
theorem own_fin_5_1 : ∀ a b c d e f : Fin 3, g0_118 8 5 1 [own_b a, own_b b, own_b c, own_b d, own_b e, own_b f] = some 1 := by decide +kernel
theorem own_fin_5_2 : ∀ a b c d e f : Fin 3, g0_118 8 5 2 [own_b a, own_b b, own_b c, own_b d, own_b e, own_b f] = some 1 := by decide +kernel
theorem own_fin_5_3 : ∀ a b c d e f : Fin 3, g0_118 8 5 3 [own_b a, own_b b, own_b c, own_b d, own_b e, own_b f] = some 1 := by decide +kernel
theorem own_fin_5_4 : ∀ a b c d e f : Fin 3, g0_118 8 5 4 [own_b a, own_b b, own_b c, own_b d, own_b e, own_b f] = some 1 := by decide +kernel
theorem own_fin_5_5 : ∀ a b c d e f : Fin 3, g0_118 8 5 5 [own_b a, own_b b, own_b c, own_b d, own_b e, own_b f] = some 1 := by decide +kernel
theorem own_fin_5_6 : ∀ a b c d e f : Fin 3, g0_118 8 5 6 [own_b a, own_b b, own_b c, own_b d, own_b e, own_b f] = some 1 := by decide +kernel
theorem own_fin_6_0 : ∀ a b c d e f : Fin 3, g0_118 8 6 0 [own_b a, own_b b, own_b c, own_b d, own_b e, own_b f] = some 1 := by decide +kernel
theorem own_fin_6_1 : ∀ a b c d e f : Fin 3, g0_118 8 6 1 [own_b a, own_b b, own_b c, own_b d, own_b e, own_b f] = some 1 := by decide +kernel
theorem own_fin_6_2 : ∀ a b c d e f : Fin 3, g0_118 8 6 2 [own_b a, own_b b, own_b c, own_b d, own_b e, own_b f] = some 1 := by decide +kernel
theorem own_fin_6_3 : ∀ a b c d e f : Fin 3, g0_118 8 6 3 [own_b a, own_b b, own_b c, own_b d, own_b e, own_b f] = some 1 := by decide +kernel
theorem own_fin_6_4 : ∀ a b c d e f : Fin 3, g0_118 8 6 4 [own_b a, own_b b, own_b c, own_b d, own_b e, own_b f] = some 1 := by decide +kernel
theorem own_fin_6_5 : ∀ a b c d e f : Fin 3, g0_118 8 6 5 [own_b a, own_b b, own_b c, own_b d, own_b e, own_b f] = some 1 := by decide +kernel
theorem own_fin_6_6 : ∀ a b c d e f : Fin 3, g0_118 8 6 6 [own_b a, own_b b, own_b c, own_b d, own_b e, own_b f] = some 1 := by decide +kernel
theorem own_fin (s e : Int32) (hs : 0 ≤ s.toInt ∧ s.toInt < 7) (he : 0 ≤ e.toInt ∧ e.toInt < 7) (a b c d g f : Fin 3) : g0_118 8 s e [own_b a, own_b b, own_b c, own_b d, own_b g, own_b f] = some 1 := by
  have cs : s = 0 ∨ s = 1 ∨ s = 2 ∨ s = 3 ∨ s = 4 ∨ s = 5 ∨ s = 6 := by
    simp only [← Int32.toInt_inj, show (0 : Int32).toInt = 0 from by decide, show (1 : Int32).toInt = 1 from by decide, show (2 : Int32).toInt = 2 from by decide, show (3 : Int32).toInt = 3 from by decide, show (4 : Int32).toInt = 4 from by decide, show (5 : Int32).toInt = 5 from by decide, show (6 : Int32).toInt = 6 from by decide]; omega
  have ce : e = 0 ∨ e = 1 ∨ e = 2 ∨ e = 3 ∨ e = 4 ∨ e = 5 ∨ e = 6 := by
    simp only [← Int32.toInt_inj, show (0 : Int32).toInt = 0 from by decide, show (1 : Int32).toInt = 1 from by decide, show (2 : Int32).toInt = 2 from by decide, show (3 : Int32).toInt = 3 from by decide, show (4 : Int32).toInt = 4 from by decide, show (5 : Int32).toInt = 5 from by decide, show (6 : Int32).toInt = 6 from by decide]; omega
  rcases cs with rfl | rfl | rfl | rfl | rfl | rfl | rfl
  · rcases ce with rfl | rfl | rfl | rfl | rfl | rfl | rfl
    · exact own_fin_0_0 a b c d g f
    · exact own_fin_0_1 a b c d g f
    · exact own_fin_0_2 a b c d g f
    · exact own_fin_0_3 a b c d g f
    · exact own_fin_0_4 a b c d g f
    · exact own_fin_0_5 a b c d g f
    · exact own_fin_0_6 a b c d g f
  · rcases ce with rfl | rfl | rfl | rfl | rfl | rfl | rfl
    · exact own_fin_1_0 a b c d g f
    · exact own_fin_1_1 a b c d g f
    · exact own_fin_1_2 a b c d g f
    · exact own_fin_1_3 a b c d g f
    · exact own_fin_1_4 a b c d g f
    · exact own_fin_1_5 a b c d g f
    · exact own_fin_1_6 a b c d g f
  · rcases ce with rfl | rfl | rfl | rfl | rfl | rfl | rfl
    · exact own_fin_2_0 a b c d g f
    · exact own_fin_2_1 a b c d g f
    · exact own_fin_2_2 a b c d g f
    · exact own_fin_2_3 a b c d g f
    · exact own_fin_2_4 a b c d g f
    · exact own_fin_2_5 a b c d g f
    · exact own_fin_2_6 a b c d g f
  · rcases ce with rfl | rfl | rfl | rfl | rfl | rfl | rfl
    · exact own_fin_3_0 a b c d g f
    · exact own_fin_3_1 a b c d g f
    · exact own_fin_3_2 a b c d g f
    · exact own_fin_3_3 a b c d g f
    · exact own_fin_3_4 a b c d g f
    · exact own_fin_3_5 a b c d g f
    · exact own_fin_3_6 a b c d g f
  · rcases ce with rfl | rfl | rfl | rfl | rfl | rfl | rfl
    · exact own_fin_4_0 a b c d g f
    · exact own_fin_4_1 a b c d g f
    · exact own_fin_4_2 a b c d g f
    · exact own_fin_4_3 a b c d g f
    · exact own_fin_4_4 a b c d g f
    · exact own_fin_4_5 a b c d g f
    · exact own_fin_4_6 a b c d g f
  · rcases ce with rfl | rfl | rfl | rfl | rfl | rfl | rfl
    · exact own_fin_5_0 a b c d g f
    · exact own_fin_5_1 a b c d g f
    · exact own_fin_5_2 a b c d g f
    · exact own_fin_5_3 a b c d g f
    · exact own_fin_5_4 a b c d g f
    · exact own_fin_5_5 a b c d g f
    · exact own_fin_5_6 a b c d g f
  · rcases ce with rfl | rfl | rfl | rfl | rfl | rfl | rfl
    · exact own_fin_6_0 a b c d g f
    · exact own_fin_6_1 a b c d g f
    · exact own_fin_6_2 a b c d g f
    · exact own_fin_6_3 a b c d g f
    · exact own_fin_6_4 a b c d g f
    · exact own_fin_6_5 a b c d g f
    · exact own_fin_6_6 a b c d g f
theorem own_all (s e : Int32) (hs : 0 ≤ s.toInt ∧ s.toInt < 7) (he : 0 ≤ e.toInt ∧ e.toInt < 7) (xs : List Int32) (hl : xs.length = 6) : g0_118 8 s e xs = some 1 := by
  rw [← own_118]
  match xs, hl with
  | [a, b, c, d, g, f], _ =>
    obtain ⟨a', ha⟩ := own_b_cn a
    obtain ⟨b', hb⟩ := own_b_cn b
    obtain ⟨c', hc⟩ := own_b_cn c
    obtain ⟨d', hd⟩ := own_b_cn d
    obtain ⟨g', hg⟩ := own_b_cn g
    obtain ⟨f', hf⟩ := own_b_cn f
    simp only [List.map_cons, List.map_nil, ha, hb, hc, hd, hg, hf]
    exact own_fin s e hs he a' b' c' d' g' f'
theorem own_law (x0 x1 x2 x3 : Int32) : ∃ fuel, f0 fuel x0 x1 x2 x3 = some 1 := by
  refine ⟨8, ?_⟩
  unfold f0 g0_0
  refine bindS (v := List.replicate 6 0) (by decide +kernel) ?_
  refine wrS (n := 6) (by simp) (by decide) (by decide) (fun v3 l3 => ?_)
  refine wrS l3 (by decide) (by decide) (fun v5 l5 => ?_)
  refine wrS l5 (by decide) (by decide) (fun v7 l7 => ?_)
  refine wrS l7 (by decide) (by decide) (fun v9 l9 => ?_)
  refine wrS l9 (by decide) (by decide) (fun v11 l11 => ?_)
  refine wrS l11 (by decide) (by decide) (fun v13 l13 => ?_)
  refine letS (letS ?_)
  have h1 := own_irem (x2 &&& (2147483647 : Int32)) 7 7 (by decide) (by decide) (own_pos x2)
  have h2 := own_irem (((x2.toUInt32 >>> ((8 : Int32) &&& 31).toUInt32).toInt32) &&& (2147483647 : Int32)) 7 7 (by decide) (by decide) (own_pos _)
  exact own_all _ _ (by rw [h1]; exact ⟨Int.emod_nonneg _ (by decide), Int.emod_lt_of_pos _ (by decide)⟩) (by rw [h2]; exact ⟨Int.emod_nonneg _ (by decide), Int.emod_lt_of_pos _ (by decide)⟩) v13 l13
set_option maxRecDepth 65536 in
set_option maxHeartbeats 40000000 in
theorem comes_1 {Post : Tables → Env → Array Value → State → Outcome → State → Prop} (hpost : ∀ tb e args s v u, (limb_1_1.after args s (.returned v) u = true ∧ limb_1_2.after args s (.returned v) u = true ∧ True) → FrameEnd s (.returned v) u (Jvm.fieldLocs frame_1_writes args s ++ Jvm.arrayLocs frame_1_arrays args s ++ Jvm.staticLocs frame_1_statics s) 16 128 → Post tb e args s (.returned v) u) :
    ArmFor flags0 classFile x code maxLocals ret World_1 tables_1 room_1 Calls_1 rest_1 Pre_1 Post := by
  intro l hfl _ _ p e ha hc hk s m args below hf hA hF happ hP
  obtain ⟨hcalls, hrest, hpre⟩ := hP
  obtain ⟨-, -, -, hnamed, -, -, -, hat⟩ := (Spec.applies_iff hf).mp happ
  obtain ⟨hg, hn⟩ := and_e (Cond.before_iff.mp (show (Jvm.Cond.and given_1 narrow_1).before args s = true from hpre))
  obtain ⟨g1, g2⟩ := and_e hg
  obtain ⟨g3, g4⟩ := and_e g2
  obtain ⟨g5, g6⟩ := and_e g4
  obtain ⟨g7, g8⟩ := and_e g6
  obtain ⟨w0, w1, w2, w3, rfl⟩ : ∃ w0 w1 w2 w3 : Value, args = #[w0, w1, w2, w3] := by
    have hs : args.size = 4 := by simpa [Cond.value, given_1] using g1
    obtain ⟨L⟩ := args
    match L, hs with
    | [w0, w1, w2, w3], _ => exact ⟨w0, w1, w2, w3, rfl⟩
  have hw := fun d (hd : d ∈ tables_1) => atoms_spec (ws := Jvm.Cond.code x code maxLocals ret :: tables_1) hat d (List.mem_cons_of_mem _ hd)
  obtain ⟨i0, ei0⟩ := is_v g3
  obtain rfl : w0 = (.int i0) := Option.some.inj ei0
  obtain ⟨i1, ei1⟩ := is_v g5
  obtain rfl : w1 = (.int i1) := Option.some.inj ei1
  obtain ⟨i2, ei2⟩ := is_v g7
  obtain rfl : w2 = (.int i2) := Option.some.inj ei2
  obtain ⟨i3, ei3⟩ := is_v g8
  obtain rfl : w3 = (.int i3) := Option.some.inj ei3
  obtain ⟨fuel, hone⟩ := own_law i0 i1 i2 i3
  obtain ⟨n, o, h1, h2, h3, _, L, rfl, ⟨rfl, N⟩, hq⟩ := rm0 l s _ hw tables_1 i0 i1 i2 i3 s.heap s.heap.size (Nat.le_refl _) fuel _ hone p e ha hc hk s m _ below hf ((Spec.applies_iff_loose hf).mp happ).1 ⟨rfl, State.Warmed39.refl s, rfl⟩ trivial
  refine ⟨n, _, h1, h2, h3, hpost _ _ _ _ _ _ ⟨Cond.after_iff.mpr rfl, Cond.after_iff.mpr (eq_i res_at (Term.int_eval (1)) rfl), trivial⟩ ⟨hq.1, hq.2.1, (hq.2.2.sift fun y hy => Or.inr (N y hy)).mono (by decide) (by decide)⟩⟩
theorem main_1_1 : Claimed_1_1 := comes_1 fun _ _ _ _ _ _ h hF => ⟨h.1, hF⟩
theorem main_1_2 : Claimed_1_2 := comes_1 fun _ _ _ _ _ _ h hF => ⟨h.2.1, hF⟩
end Jvm.Pilot.@@N@@
namespace Jvm.Pilot.@@N@@
open Jvm Jvm.ClassFile Sem Op Lib Jvm.Free Jvm.Stand Jvm.Pilot.@@N@@.Jvm.D
/-! MADE BY PROGRAM (witnessworld.py) out of the Statement's table words and the real class files: 9 classes; the members and pool entries that the words name. The judged class is class 1, her method 5. -/
namespace start1
open Jvm.ClassFile
def u (s : String) : CpInfo := .utf8 (stringToUtf16 s)
/-- a pool by its gaps: so many unusable entries, then the entry; so many at the end -/
def gap : Nat → List CpInfo → List CpInfo
  | 0, r => r
  | n + 1, r => .unusable :: gap n r
def poolList (es : List (Nat × CpInfo)) (last : Nat) : List CpInfo := es.foldr (fun e r => gap e.1 (e.2 :: r)) (gap last [])
def pool (es : List (Nat × CpInfo)) (last : Nat) : Array CpInfo := ⟨poolList es last⟩
def fileOf (pool : Array CpInfo) (this : Nat) (attrs : Array Attribute := #[]) (ms : Array MethodInfo := #[]) (fl : Nat := 33) (sup : Nat := 0) (ifs : Array Nat := #[]) (fds : Array FieldInfo := #[]) : ClassFile where
  minorVersion := 0
  majorVersion := 65
  constantPool := pool
  accessFlags := fl
  thisClass := this
  superClass := sup
  interfaces := ifs
  fields := fds
  methods := ms
  attributes := attrs
def plain (name : String) (sup : Option ClassId) : Class where
  name := name
  kind := .ordinary
  loader := none
  accessFlags := 33
  super := sup
  interfaces := #[]
  cf := none
  fields := #[]
  methods := #[]
  instanceTypes := #[]
  staticTypes := #[]
  resolved := #[]
  callSites := []
  init := .initialized
  statics := none
  mirror := none

def pool0 : Array CpInfo := pool [(5, u "<init>"), (0, u "()V"), (1, .class_ 10), (1, u "java/lang/Object")] 113

def k0m0 : Method := { name := "<init>", desc := "()V", sig := { parameters := [], returnType := none }, accessFlags := 1, code := none }
/-- java/lang/Object -/
def k0 : Class := { plain "java/lang/Object" none with
  accessFlags := 33
  interfaces := #[]
  cf := some (fileOf pool0 8 #[] #[{ accessFlags := 1, nameIndex := 5, descriptorIndex := 6, attributes := #[] }] 33 0 #[] #[])
  fields := #[]
  methods := #[k0m0]
  instanceTypes := #[]
  staticTypes := #[]
  resolved := Array.replicate 124 none
  statics := none }

def pool1 : Array CpInfo := pool [(2, .class_ 4), (1, u "java/lang/Object"), (0, u "<init>"), (0, u "()V"), (0, .methodref 8 9), (0, .class_ 10), (0, .nameAndType 11 12), (0, u "com/example/notewright/notewright/DecimalsScalePinLaw"), (0, u "digit"), (0, u "(B)Z"), (0, .methodref 8 14), (0, .nameAndType 15 16), (0, u "draw"), (0, u "(II)B"), (0, .integer 2147483647), (0, .methodref 8 19), (0, .nameAndType 20 21), (0, u "dotAt"), (0, u "([BIII)I"), (0, .methodref 8 23), (0, .nameAndType 24 21), (0, u "otherAt"), (0, .methodref 26 27), (0, .class_ 28), (0, .nameAndType 29 30), (0, u "com/example/notewright/notewright/Decimals"), (0, u "scale"), (0, u "([BII)I"), (3, u "law"), (0, u "(IIII)Z")] 4

def k1m0 : Method := { name := "<init>", desc := "()V", sig := { parameters := [], returnType := none }, accessFlags := 1, code := none }
def k1c1 : Code := { maxStack := 3, maxLocals := 2, code := method_2_code, exceptionTable := #[], attributes := #[] }
def k1m1 : Method := { name := "draw", desc := "(II)B", sig := { parameters := [.int, .int], returnType := some .byte }, accessFlags := 10, code := some k1c1 }
def k1c2 : Code := { maxStack := 2, maxLocals := 1, code := method_3_code, exceptionTable := #[], attributes := #[] }
def k1m2 : Method := { name := "digit", desc := "(B)Z", sig := { parameters := [.byte], returnType := some .boolean }, accessFlags := 10, code := some k1c2 }
def k1c3 : Code := { maxStack := 2, maxLocals := 4, code := method_4_code, exceptionTable := #[], attributes := #[] }
def k1m3 : Method := { name := "dotAt", desc := "([BIII)I", sig := { parameters := [(.array .byte), .int, .int, .int], returnType := some .int }, accessFlags := 10, code := some k1c3 }
def k1c4 : Code := { maxStack := 2, maxLocals := 4, code := method_5_code, exceptionTable := #[], attributes := #[] }
def k1m4 : Method := { name := "otherAt", desc := "([BIII)I", sig := { parameters := [(.array .byte), .int, .int, .int], returnType := some .int }, accessFlags := 10, code := some k1c4 }
def k1c5 : Code := { maxStack := 5, maxLocals := 17, code := code, exceptionTable := #[], attributes := #[] }
def k1m5 : Method := { name := "law", desc := "(IIII)Z", sig := { parameters := [.int, .int, .int, .int], returnType := some .boolean }, accessFlags := 9, code := some k1c5 }
/-- com/example/notewright/notewright/DecimalsScalePinLaw -/
def k1 : Class := { plain "com/example/notewright/notewright/DecimalsScalePinLaw" (some 0) with
  accessFlags := 49
  interfaces := #[]
  cf := some (fileOf pool1 8 #[] #[{ accessFlags := 1, nameIndex := 5, descriptorIndex := 6, attributes := #[] }, { accessFlags := 10, nameIndex := 15, descriptorIndex := 16, attributes := #[] }, { accessFlags := 10, nameIndex := 11, descriptorIndex := 12, attributes := #[] }, { accessFlags := 10, nameIndex := 20, descriptorIndex := 21, attributes := #[] }, { accessFlags := 10, nameIndex := 24, descriptorIndex := 21, attributes := #[] }, { accessFlags := 9, nameIndex := 34, descriptorIndex := 35, attributes := #[] }] 49 2 #[] #[])
  fields := #[]
  methods := #[k1m0, k1m1, k1m2, k1m3, k1m4, k1m5]
  instanceTypes := #[]
  staticTypes := #[]
  resolved := Array.replicate 40 none
  statics := none }

def pool2 : Array CpInfo := pool [(2, .class_ 4), (1, u "java/lang/Object"), (0, u "<init>"), (0, u "()V"), (13, .class_ 22), (1, u "com/example/notewright/notewright/Decimals"), (0, u "scale"), (0, u "([BII)I"), (62, u "FORM"), (0, u "Ljava/lang/String;"), (3, u "LONG_DIGITS"), (0, u "I"), (1, u "NOT_PLAIN")] 16

def k2m0 : Method := { name := "<init>", desc := "()V", sig := { parameters := [], returnType := none }, accessFlags := 2, code := none }
def k2c1 : Code := { maxStack := 3, maxLocals := 7, code := prog_7_method_3_code, exceptionTable := #[], attributes := #[] }
def k2m1 : Method := { name := "scale", desc := "([BII)I", sig := { parameters := [(.array .byte), .int, .int], returnType := some .int }, accessFlags := 8, code := some k2c1 }
/-- com/example/notewright/notewright/Decimals -/
def k2 : Class := { plain "com/example/notewright/notewright/Decimals" (some 0) with
  accessFlags := 33
  interfaces := #[]
  cf := some (fileOf pool2 20 #[] #[{ accessFlags := 2, nameIndex := 5, descriptorIndex := 6, attributes := #[] }, { accessFlags := 8, nameIndex := 23, descriptorIndex := 24, attributes := #[] }] 33 2 #[] #[{ accessFlags := 24, nameIndex := 87, descriptorIndex := 88, attributes := #[] }, { accessFlags := 24, nameIndex := 92, descriptorIndex := 93, attributes := #[] }, { accessFlags := 24, nameIndex := 95, descriptorIndex := 93, attributes := #[] }])
  fields := #[{ name := "FORM", type := (.object "java/lang/String"), accessFlags := 24, slot := 0, constantValue := 0 }, { name := "LONG_DIGITS", type := .int, accessFlags := 24, slot := 1, constantValue := 0 }, { name := "NOT_PLAIN", type := .int, accessFlags := 24, slot := 2, constantValue := 0 }]
  methods := #[k2m0, k2m1]
  instanceTypes := #[]
  staticTypes := #[(.object "java/lang/String"), .int, .int]
  resolved := Array.replicate 112 none
  statics := none }

def pool3 : Array CpInfo := pool [(1, u "java/lang/Cloneable"), (0, .class_ 1), (0, u "java/lang/Object"), (0, .class_ 3)] 3

/-- java/lang/Cloneable -/
def k3 : Class := { plain "java/lang/Cloneable" (some 0) with
  accessFlags := 1537
  interfaces := #[]
  cf := some (fileOf pool3 2 #[] #[] 1537 4 #[] #[])
  fields := #[]
  methods := #[]
  instanceTypes := #[]
  staticTypes := #[]
  resolved := Array.replicate 8 none
  statics := none }

def pool4 : Array CpInfo := pool [(1, u "java/io/Serializable"), (0, .class_ 1), (0, u "java/lang/Object"), (0, .class_ 3)] 3

/-- java/io/Serializable -/
def k4 : Class := { plain "java/io/Serializable" (some 0) with
  accessFlags := 1537
  interfaces := #[]
  cf := some (fileOf pool4 2 #[] #[] 1537 4 #[] #[])
  fields := #[]
  methods := #[]
  instanceTypes := #[]
  staticTypes := #[]
  resolved := Array.replicate 8 none
  statics := none }

/-- the primitive byte -/
def k5 : Class := { plain "byte" none with kind := .primitive 'B', accessFlags := 0x411 }
/-- [B -/
def k6 : Class := { plain "[B" (some 0) with kind := .array 5 .byte, interfaces := #[3, 4], accessFlags := 1041 }

/-- the primitive int -/
def k7 : Class := { plain "int" none with kind := .primitive 'I', accessFlags := 0x411 }
/-- [I -/
def k8 : Class := { plain "[I" (some 0) with kind := .array 7 .int, interfaces := #[3, 4], accessFlags := 1041 }

def heap : Heap := #[]
def classes : Array Class := #[k0, k1, k2, k3, k4, k5, k6, k7, k8]
def interned : List (Array UInt16 × Addr) := []
def slotsUsed : Nat := 0
def theMethod : MethodId := ⟨1, 5⟩
def args0 : Array Value := #[.int 1, .int 3, .int 2, .int 5]
def aboutOver (below : List Frame) : State where
  vm := { classes := classes, interned := interned.toArray }
  heap := heap
  slotsUsed := slotsUsed
  threads := #[{ frames := .invoking theMethod args0 :: below }]
def below0 : List Frame := [.native { method := ⟨0, 0⟩, args := #[] }]
def about1 : State := aboutOver below0
def p0 : Program := .bare "" "" ""
def e0 : Env := launch0.env 0 0 0
theorem w_frames : about1.frames = Frame.invoking theMethod args0 :: below0 := rfl
set_option maxRecDepth 65536 in
theorem w_args : argsFit about1.vm theMethod args0 = true := by decide +kernel
set_option maxRecDepth 65536 in
theorem w_heap : heapFits about1 = true := by decide +kernel
set_option maxRecDepth 65536 in
theorem w_runnable : about1.curStatus? = some .runnable := by decide +kernel
set_option maxRecDepth 65536 in
theorem w_alone : about1.alone = true := by decide +kernel
set_option maxRecDepth 65536 in
theorem w_named : about1.methodNamed? x = some theMethod := by decide +kernel
set_option maxRecDepth 65536 in
theorem w_hears : about1.hears theMethod below0 = true := by decide +kernel
set_option maxRecDepth 65536 in
theorem w_ripe : about1.ripe theMethod args0 below0 = true := by decide +kernel
theorem w_running : about1.status = .running := rfl
set_option maxRecDepth 65536 in
theorem w_room : about1.hasRoom e0.platform room_1 = true :=
  launch0.hasRoom_least _ room_1 (by decide +kernel) (by decide +kernel) (by decide +kernel) (by decide +kernel) (by decide +kernel) (by decide +kernel)
theorem allAtoms_all (ts : List Jvm.Cond) (a : Array Jvm.Value) (st : Jvm.State) : (allAtoms ts).before a st = ts.all (fun c => c.before a st) := by
  induction ts with
  | nil => rfl
  | cons c t ih =>
    show (Jvm.Cond.and c (allAtoms t)).before a st = _
    rw [Jvm.Cond.before_and, ih, List.all_cons]
def words1 : List Jvm.Cond := Jvm.Cond.code x code maxLocals ret :: tables_1
/-- a 'code' word, met by the world's own term for the bytes: nothing is compared byte by byte -/
theorem code_word {y : MethodName} {bytes : ByteArray} {mx : Nat} {rt : Option FieldType} {a : Array Value} {s : State} {m : MethodId} {meth : Method} {c : Code} (h1 : s.methodNamed? y = some m) (h2 : s.vm.method? m = some meth) (h3 : meth.code = some c) (h4 : c.code = bytes)
    (h5 : (c.maxLocals == mx && c.exceptionTable.isEmpty && decide (c.maxStack ≤ mostOperands) && decide (meth.sig.returnType = rt) && !meth.locks && decide (parseMethodDescriptor y.desc = some meth.sig)) = true) : (Jvm.Cond.code y bytes mx rt).before a s = true := by
  simp only [Bool.and_eq_true, beq_iff_eq, Bool.not_eq_true', decide_eq_true_eq] at h5
  obtain ⟨⟨⟨⟨⟨g1, g2⟩, g3⟩, g4⟩, g5⟩, g6⟩ := h5
  simp [Cond.before, Cond.holds, Cond.value, h1, h2, h3, h4, g1, g2, g3, g4, g5, g6]
def isCode : Jvm.Cond → Bool
  | .code _ _ _ _ => true
  | _ => false
theorem all_split {L : List Jvm.Cond} {P : Jvm.Cond → Bool} (h1 : L.all (fun c => isCode c || P c) = true) (h2 : ∀ c ∈ L.filter isCode, P c = true) : L.all P = true := by
  refine List.all_eq_true.mpr fun c hc => ?_
  have h := List.all_eq_true.mp h1 c hc
  rcases Bool.eq_false_or_eq_true (isCode c) with hi | hi
  · exact h2 c (List.mem_filter.mpr ⟨hc, hi⟩)
  · simpa [hi] using h
set_option maxRecDepth 65536 in
theorem w_c0 : (Jvm.Cond.code x code maxLocals ret).before args0 about1 = true := code_word (m := ⟨1, 5⟩) (meth := k1m5) (c := k1c5) (by decide +kernel) rfl rfl rfl (by decide +kernel)
set_option maxRecDepth 65536 in
theorem w_c1 : (Jvm.Cond.code ({ cls := "com/example/notewright/notewright/DecimalsScalePinLaw", name := "draw", desc := "(II)B" } : Jvm.MethodName) method_2_code (2 : Nat) (Option.some Jvm.ClassFile.FieldType.byte)).before args0 about1 = true := code_word (m := ⟨1, 1⟩) (meth := k1m1) (c := k1c1) (by decide +kernel) rfl rfl rfl (by decide +kernel)
set_option maxRecDepth 65536 in
theorem w_c2 : (Jvm.Cond.code ({ cls := "com/example/notewright/notewright/DecimalsScalePinLaw", name := "dotAt", desc := "([BIII)I" } : Jvm.MethodName) method_4_code (4 : Nat) (Option.some Jvm.ClassFile.FieldType.int)).before args0 about1 = true := code_word (m := ⟨1, 3⟩) (meth := k1m3) (c := k1c3) (by decide +kernel) rfl rfl rfl (by decide +kernel)
set_option maxRecDepth 65536 in
theorem w_c3 : (Jvm.Cond.code ({ cls := "com/example/notewright/notewright/DecimalsScalePinLaw", name := "otherAt", desc := "([BIII)I" } : Jvm.MethodName) method_5_code (4 : Nat) (Option.some Jvm.ClassFile.FieldType.int)).before args0 about1 = true := code_word (m := ⟨1, 4⟩) (meth := k1m4) (c := k1c4) (by decide +kernel) rfl rfl rfl (by decide +kernel)
set_option maxRecDepth 65536 in
theorem w_c4 : (Jvm.Cond.code ({ cls := "com/example/notewright/notewright/Decimals", name := "scale", desc := "([BII)I" } : Jvm.MethodName) prog_7_method_3_code (7 : Nat) (Option.some Jvm.ClassFile.FieldType.int)).before args0 about1 = true := code_word (m := ⟨2, 1⟩) (meth := k2m1) (c := k2c1) (by decide +kernel) rfl rfl rfl (by decide +kernel)
set_option maxRecDepth 65536 in
theorem w_c5 : (Jvm.Cond.code ({ cls := "com/example/notewright/notewright/DecimalsScalePinLaw", name := "digit", desc := "(B)Z" } : Jvm.MethodName) method_3_code (1 : Nat) (Option.some Jvm.ClassFile.FieldType.boolean)).before args0 about1 = true := code_word (m := ⟨1, 2⟩) (meth := k1m2) (c := k1c2) (by decide +kernel) rfl rfl rfl (by decide +kernel)
def codes1 : List Jvm.Cond := [Jvm.Cond.code x code maxLocals ret, Jvm.Cond.code ({ cls := "com/example/notewright/notewright/DecimalsScalePinLaw", name := "draw", desc := "(II)B" } : Jvm.MethodName) method_2_code (2 : Nat) (Option.some Jvm.ClassFile.FieldType.byte), Jvm.Cond.code ({ cls := "com/example/notewright/notewright/DecimalsScalePinLaw", name := "dotAt", desc := "([BIII)I" } : Jvm.MethodName) method_4_code (4 : Nat) (Option.some Jvm.ClassFile.FieldType.int), Jvm.Cond.code ({ cls := "com/example/notewright/notewright/DecimalsScalePinLaw", name := "otherAt", desc := "([BIII)I" } : Jvm.MethodName) method_5_code (4 : Nat) (Option.some Jvm.ClassFile.FieldType.int), Jvm.Cond.code ({ cls := "com/example/notewright/notewright/Decimals", name := "scale", desc := "([BII)I" } : Jvm.MethodName) prog_7_method_3_code (7 : Nat) (Option.some Jvm.ClassFile.FieldType.int), Jvm.Cond.code ({ cls := "com/example/notewright/notewright/DecimalsScalePinLaw", name := "digit", desc := "(B)Z" } : Jvm.MethodName) method_3_code (1 : Nat) (Option.some Jvm.ClassFile.FieldType.boolean)]
set_option maxRecDepth 65536 in
theorem codes_eq : words1.filter isCode = codes1 := rfl
theorem w_codes : ∀ c ∈ words1.filter isCode, c.before args0 about1 = true := by
  rw [codes_eq]
  intro c hc
  simp only [codes1, List.mem_cons, List.not_mem_nil, or_false] at hc
  rcases hc with rfl | rfl | rfl | rfl | rfl | rfl
  · exact w_c0
  · exact w_c1
  · exact w_c2
  · exact w_c3
  · exact w_c4
  · exact w_c5
set_option maxRecDepth 65536 in
theorem w_t1 : words1.all (fun c => isCode c || c.before args0 about1) = true := by decide +kernel
theorem w_tables : (allAtoms (Jvm.Cond.code x code maxLocals ret :: tables_1)).before args0 about1 = true := by
  rw [allAtoms_all]
  show words1.all (fun c => c.before args0 about1) = true
  refine all_split ?_ w_codes
  rw [w_t1]
set_option maxRecDepth 65536 in
theorem w_case : (Jvm.Cond.and given_1 narrow_1).before args0 about1 = true := by decide +kernel
theorem w_applies : (headSpec (Jvm.Cond.code x code maxLocals ret :: tables_1) room_1).applies x e0.platform about1 = true :=
  (Spec.applies_iff w_frames).mpr ⟨w_running, w_runnable, w_alone, w_named, w_hears, w_ripe, w_room, w_tables⟩
theorem atStart : AtStart classFile x code maxLocals ret World_1 tables_1 room_1 Calls_1 rest_1 Pre_1 launch0 p0 e0 about1 theMethod args0 below0 :=
  ⟨lists_1, trivial, launch0.admits_env _ _ _, launch0.least_env, fairChoices_fair.cas, fairChoices_fair.clock, w_frames, w_args, w_heap, w_applies, trivial, trivial, w_case⟩
end start1
theorem witness_1 : WitnessClaimed_1 := ⟨start1.p0, start1.e0, start1.about1, start1.theMethod, start1.args0, start1.below0, start1.atStart⟩
end Jvm.Pilot.@@N@@
