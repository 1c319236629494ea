import JvmDerived
import JvmDerived.Pilot.@@N@@Statement
import JvmDerived.Pilot.@@N@@Code
set_option linter.unusedVariables false
set_option linter.unusedSimpArgs false
namespace Jvm.RoadKit
open Sem ClassFile Op Lib Jvm.Stand Jvm.Free Jvm.LawKit
section New
variable {p : Program} {l : Launch} {e : Env} {R : Room} {s : State} {m : MethodId} {args : Array Value} {below : List Frame} {meth : Method} {c : Code} {T : State} {locs : List Loc} {cells slots : Nat}
theorem retI (X : Stand p l e R s m args below meth c T locs cells slots) (hx : p.tables.exec = Jvm.exec) {pc : Nat} {Ls : Array Slot} {z : Int32} {rest : List Value} (hret : meth.sig.returnType = some .int) (hd : decode c.code pc = .ok (.ireturn, 1)) {fs : List Frame}
    (hl : ∀ (f : JFrame) (acts : List Action), f.method = m → f.locked = none → f.entered = [] → (doReturn e (T.setTop f) acts (some (.int z))).1 = T.setFrames fs) : Steps p.tables e below (T.setTop (mkF m pc Ls (.int z :: rest))) (T.setFrames fs) := by
  have hm' : T.vm.method? m = some meth := X.method'
  have hn : narrow .int (.int z) = .int z := rfl
  show Steps p.tables e below (T.setTop { method := m, pc := pc, locals := Ls, stack := _ :: rest, locked := none }) _
  jvm_step X.here [X.here.top, hx, hd, hm', hret, hn]
  first | (intro acts; rw [hl _ acts rfl rfl rfl]) | rw [hl _ _ rfl rfl rfl]
  exact Steps.refl _
end New
end Jvm.RoadKit
namespace Jvm.Pilot.@@N@@
open Jvm Jvm.ClassFile Sem Op Lib Jvm.Free Jvm.Stand Jvm.LawKit Jvm.RoadKit Bundle Jvm.Pilot.@@N@@.Jvm.D
def QP (r : Option Value) (h0 : Heap) (n0 : Nat) (v : Option Value) (h : Heap) (L : List Loc) : Prop := v = r ∧ Fr n0 L ∧ h = h0
def Ctx (p : Program) (s : State) (m : MethodId) (meth : Method) (c : Code) (Z : State) (a0 : Array Value) (own : String) (bytes : ByteArray) (ml : Nat) (rt : Option FieldType) (name : String) : Prop :=
  p.tables.exec = Jvm.exec ∧ Z.Warmed39 s.vm ∧ (∀ d ∈ tables_1, d.before a0 Z = true) ∧ c.code = bytes ∧ c.maxLocals = ml ∧ s.vm.findClass own = some m.cls ∧ meth.sig.returnType = rt ∧ meth.locks = false ∧ meth.name = name
/-- from T with the frame g on top the run comes to a return, of which Φ holds -/
def Runs (p : Program) (e : Env) (below : List Frame) (s : State) (Φ : Option Value → Heap → List Loc → Prop) (k n : Nat) (T : State) (g : JFrame) : Prop :=
  ∃ s₂ o, Steps p.tables e below (T.setTop g) s₂ ∧ s₂.status = .running ∧ Ended s₂ below o ∧ ∃ v L, o = .returned v ∧ Φ v s₂.heap L ∧ FrameEnd s o s₂ L k n
section Own
variable {p : Program} {l : Launch} {e : Env} {R : Room} {s : State} {m : MethodId} {args : Array Value} {below : List Frame} {meth : Method} {c : Code} {T T' T0 Z : State} {a0 : Array Value} {locs : List Loc} {cells slots k n n0 : Nat} {h0 : Heap} {g g' : JFrame} {Φ : Option Value → Heap → List Loc → Prop}
theorem Runs.via (h : ∀ t, Steps p.tables e below (T'.setTop g') t → Steps p.tables e below (T.setTop g) t) (r : Runs p e below s Φ k n T' g') : Runs p e below s Φ k n T g := by
  obtain ⟨s₂, o, h1, r⟩ := r
  exact ⟨s₂, o, h _ h1, r⟩
theorem QP.cast {r r' : Option Value} (h : r = r') (H : Runs p e below s (QP r' h0 n0) k n T g) : Runs p e below s (QP r h0 n0) k n T g := by rw [h]; exact H
theorem own_retI (X : Stand p l e R s m args below meth c T locs cells slots) (hx : p.tables.exec = Jvm.exec) (hlk : meth.locks = false) (hret : meth.sig.returnType = some .int) {pc : Nat} {Ls : Array Slot} {z : Int32} {rest : List Value} (hd : decode c.code pc = .ok (.ireturn, 1)) (hk : cells ≤ k) (hn : slots ≤ n) (hΦ : Φ (some (.int z)) T.heap locs) :
    Runs p e below s Φ k n T (mkF m pc Ls (.int z :: rest)) := by
  obtain ⟨fs, hr, hrun, hended, hW, hsame⟩ := X.leave (v := some (.int z)) (fun h => by rw [hret] at h; cases h) hlk
  exact ⟨_, _, retI X hx hret hd hr, hrun, hended, _, _, rfl, hΦ, ⟨_, rfl⟩, hW, hsame.mono hk hn⟩
theorem own_retN (X : Stand p l e R s m args below meth c T locs cells slots) (hx : p.tables.exec = Jvm.exec) (hlk : meth.locks = false) {t : FieldType} (hret : meth.sig.returnType = some t) (ht : t = .boolean ∨ t = .byte ∨ t = .char ∨ t = .short) {pc : Nat} {Ls : Array Slot} {z : Int32} {rest : List Value} (hd : decode c.code pc = .ok (.ireturn, 1)) (hk : cells ≤ k) (hn : slots ≤ n) (hΦ : Φ (some (.int (nar t z))) T.heap locs) :
    Runs p e below s Φ k n T (mkF m pc Ls (.int z :: rest)) := by
  obtain ⟨fs, hr, hrun, hended, hW, hsame⟩ := X.leave (v := some (.int (nar t z))) (fun h => by rw [hret] at h; cases h) hlk
  exact ⟨_, _, retN X hx hret ht hd hr, hrun, hended, _, _, rfl, hΦ, ⟨_, rfl⟩, hW, hsame.mono hk hn⟩
theorem own_retJ (X : Stand p l e R s m args below meth c T locs cells slots) (hx : p.tables.exec = Jvm.exec) (hlk : meth.locks = false) (hret : meth.sig.returnType = some .long) {pc : Nat} {Ls : Array Slot} {z : Int64} (hd : decode c.code pc = .ok (.lreturn, 1)) (hk : cells ≤ k) (hn : slots ≤ n) (hΦ : Φ (some (.long z)) T.heap locs) :
    Runs p e below s Φ k n T (mkF m pc Ls [.long z]) := by
  obtain ⟨fs, hr, hrun, hended, hW, hsame⟩ := X.leave (v := some (.long z)) (fun h => by rw [hret] at h; cases h) hlk
  exact ⟨_, _, X.lreturnOut hx hret hd hr, hrun, hended, _, _, rfl, hΦ, ⟨_, rfl⟩, hW, hsame.mono hk hn⟩
theorem own_privSel {s : State} {args : Array Value} {y : MethodName} {n : Nat} (hwi : (Cond.instantiable y.cls n).before args s = true) (hp : (Cond.privateMethod y).before args s = true) (hinst : (Cond.instanceMethod y).before args s = true) (hy : y.cls ≠ "java/lang/invoke/MethodHandle" ∧ y.cls ≠ "java/lang/invoke/VarHandle") : (Cond.selects y.cls y y).before args s = true := by
  obtain ⟨c, k, h1, h2, h3, h4, -⟩ := Cond.instantiable_spec hwi
  exact selects_self_of_private h1 h2 (by simp only [Bool.or_eq_false_iff] at h4; exact h4.1) (Cond.privateMethod_at hp) hinst hy
theorem own_retV (X : Stand p l e R s m args below meth c T locs cells slots) (hx : p.tables.exec = Jvm.exec) (hlk : meth.locks = false) (hret : meth.sig.returnType = none) {pc : Nat} {Ls : Array Slot} (hd : decode c.code pc = .ok (.return_, 1)) (hk : cells ≤ k) (hn : slots ≤ n) (hΦ : Φ none T.heap locs) :
    Runs p e below s Φ k n T (mkF m pc Ls []) := by
  obtain ⟨fs, hr, hrun, hended, hW, hsame⟩ := X.leave (v := none) (fun _ => rfl) hlk
  exact ⟨_, _, X.returnOut hx hret hd hr, hrun, hended, _, _, rfl, hΦ, ⟨_, rfl⟩, hW, hsame.mono hk hn⟩
theorem own_retR (X : Stand p l e R s m args below meth c T locs cells slots) (hx : p.tables.exec = Jvm.exec) (hlk : meth.locks = false) {t : FieldType} (hret : meth.sig.returnType = some t) (ht : t.isReference = true) {pc : Nat} {Ls : Array Slot} {a : Addr} {rest : List Value} (hd : decode c.code pc = .ok (.areturn, 1)) (hk : cells ≤ k) (hn : slots ≤ n) (hΦ : Φ (some (.ref a)) T.heap locs) :
    Runs p e below s Φ k n T (mkF m pc Ls (.ref a :: rest)) := by
  obtain ⟨fs, hr, hrun, hended, hW, hsame⟩ := X.leave (v := some (.ref a)) (fun h => by rw [hret] at h; cases h) hlk
  exact ⟨_, _, retOut X hx hret (by cases t <;> first | rfl | (cases ht; done)) (Or.inr (Or.inr (Or.inr (Or.inr ⟨rfl, ht, rfl⟩)))) hd hr, hrun, hended, _, _, rfl, hΦ, ⟨_, rfl⟩, hW, hsame.mono hk hn⟩
theorem bindE {α β : Type} {G : Prop} {x : Option α} {k : α → Option β} {r : β} (hr : x.bind k = some r) (H : ∀ v, x = some v → k v = some r → G) : G := by
  cases x with
  | none => exact nomatch hr
  | some v => exact H v rfl hr
def letO {α β : Type} (x : α) (k : α → β) : β := k x
theorem letE {α β : Type} {G : Prop} {x : α} {k : α → Option β} {r : β} (hr : letO x k = some r) (H : ∀ v, v = x → k v = some r → G) : G := H x rfl hr
theorem iteE {β : Type} {G P : Prop} [Decidable P] {a b : Option β} {r : β} (hr : (if P then a else b) = some r) (H1 : P → a = some r → G) (H2 : ¬ P → b = some r → G) : G := by
  by_cases h : P
  · rw [if_pos h] at hr; exact H1 h hr
  · rw [if_neg h] at hr; exact H2 h hr
/-- an array's place, a store, its length, a new array -/
def rdO {α : Type} (xs : List α) (j : Int32) : Option α := if j < 0 then none else xs[j.toNatClampNeg]?
def wrO {α : Type} (xs : List α) (j : Int32) (v : α) : Option (List α) := if j < 0 ∨ xs.length ≤ j.toNatClampNeg then none else some (xs.set j.toNatClampNeg v)
def lenO {α : Type} (xs : List α) : Int32 := xs.length.toInt32
def mkO (n : Int32) (cap : Nat) : Option (List Int32) := if n < 0 ∨ cap < n.toNatClampNeg then none else some (List.replicate n.toNatClampNeg 0)
def mkOJ (n : Int32) (cap : Nat) : Option (List Int64) := if n < 0 ∨ cap < n.toNatClampNeg then none else some (List.replicate n.toNatClampNeg 0)
def AI (Z : State) (h : Heap) (a : Addr) (ty : FieldType) (xs : List Int32) : Prop := ∃ c : Cell, Arr Z h a c ty ∧ c.slots = (xs.map Value.int).toArray
def AJ (Z : State) (h : Heap) (a : Addr) (ty : FieldType) (xs : List Int64) : Prop := ∃ c : Cell, Arr Z h a c ty ∧ c.slots = (xs.map Value.long).toArray
section Arrs
variable {p : Program} {l : Launch} {e : Env} {R : Room} {s : State} {m : MethodId} {args : Array Value} {below : List Frame} {meth : Method} {c : Code} {T Z : State} {a0 : Array Value} {locs : List Loc} {cells slots : Nat} {h h' : Heap} {a b : Addr} {ty : FieldType} {sl : Nat} {v : Value} {ws : List Addr}
theorem AI.lt {xs : List Int32} (F : AI Z h a ty xs) : a < h.size := by obtain ⟨c, A, -⟩ := F; exact A.lt
theorem AI.ext {xs : List Int32} (F : AI Z h a ty xs) (E : Ext h h') : AI Z h' a ty xs := by obtain ⟨c, A, q⟩ := F; exact ⟨c, A.ext E, q⟩
theorem AI.other {xs : List Int32} (F : AI Z h b ty xs) (W : Wr h h' a sl v) (q : b ≠ a) : AI Z h' b ty xs := by obtain ⟨c, A, r⟩ := F; exact ⟨c, A.other W q, r⟩
theorem AI.keep {xs : List Int32} (F : AI Z h a ty xs) (K : Keep h h' ws) (q : a ∉ ws) : AI Z h' a ty xs := by obtain ⟨c, A, r⟩ := F; exact ⟨c, ⟨K.2.1 a c A.1 q, A.2⟩, r⟩
theorem AJ.lt {xs : List Int64} (F : AJ Z h a ty xs) : a < h.size := by obtain ⟨c, A, -⟩ := F; exact A.lt
theorem AJ.ext {xs : List Int64} (F : AJ Z h a ty xs) (E : Ext h h') : AJ Z h' a ty xs := by obtain ⟨c, A, q⟩ := F; exact ⟨c, A.ext E, q⟩
theorem AJ.other {xs : List Int64} (F : AJ Z h b ty xs) (W : Wr h h' a sl v) (q : b ≠ a) : AJ Z h' b ty xs := by obtain ⟨c, A, r⟩ := F; exact ⟨c, A.other W q, r⟩
theorem AJ.keep {xs : List Int64} (F : AJ Z h a ty xs) (K : Keep h h' ws) (q : a ∉ ws) : AJ Z h' a ty xs := by obtain ⟨c, A, r⟩ := F; exact ⟨c, ⟨K.2.1 a c A.1 q, A.2⟩, r⟩
theorem rd_at {α : Type} {f : α → Value} {xs : List α} {j : Int32} {z : α} {cl : Cell} (q : cl.slots = (xs.map f).toArray) (hr : rdO xs j = some z) : ¬ (j < 0 ∨ cl.slots.size ≤ j.toNatClampNeg) ∧ cl.slots[j.toNatClampNeg]? = some (f z) := by
  unfold rdO at hr
  by_cases hj : j < 0
  · rw [if_pos hj] at hr; exact nomatch hr
  · rw [if_neg hj] at hr
    obtain ⟨hi, he⟩ := List.getElem?_eq_some_iff.mp hr
    rw [q]
    refine ⟨?_, by simp [hr]⟩
    rintro (h1 | h1)
    · exact hj h1
    · simp at h1; omega
theorem wr_at2 {α : Type} {f : α → Value} {xs xs' : List α} {j : Int32} {z : α} {cl : Cell} (q : cl.slots = (xs.map f).toArray) (hr : wrO xs j z = some xs') : ¬ (j < 0 ∨ cl.slots.size ≤ j.toNatClampNeg) ∧ (cl.setSlot j.toNatClampNeg (f z)).slots = (xs'.map f).toArray := by
  unfold wrO at hr
  by_cases hj : j < 0 ∨ xs.length ≤ j.toNatClampNeg
  · rw [if_pos hj] at hr; exact nomatch hr
  · rw [if_neg hj] at hr
    obtain rfl := Option.some.inj hr
    refine ⟨by rw [q]; simpa using hj, ?_⟩
    simp only [Cell.setSlot, q]
    simp [List.map_set]
theorem ldI (X : Stand p l e R s m args below meth c T locs cells slots) (hx : p.tables.exec = Jvm.exec) (hZ : Z.Warmed39 s.vm) (eT : T.heap = h) {xs : List Int32} (A : AI Z h a .int xs) {j z : Int32} (hr : rdO xs j = some z) {g : JFrame} (hg : g.method = m) {rest : List Value} (hs : g.stack = .int j :: .ref a :: rest) (hd : decode c.code g.pc = .ok (.iaload, 1)) :
    ∀ target, Steps p.tables e below (T.setTop { g with pc := g.pc + 1, stack := .int z :: rest }) target → Steps p.tables e below (T.setTop g) target := by
  obtain ⟨cl, A, q⟩ := A
  obtain ⟨h1, h2⟩ := rd_at q hr
  exact X.iaload hx (j := j) (v := .int z) (by rw [eT]; exact A.1) (State.isArrayOf_alike hZ.alike A.2.1) A.2.2 h1 h2 hg hs hd
theorem ldB (X : Stand p l e R s m args below meth c T locs cells slots) (hx : p.tables.exec = Jvm.exec) (hZ : Z.Warmed39 s.vm) (eT : T.heap = h) {xs : List Int32} (A : AI Z h a .byte xs) {j z : Int32} (hr : rdO xs j = some z) {g : JFrame} (hg : g.method = m) {rest : List Value} (hs : g.stack = .int j :: .ref a :: rest) (hd : decode c.code g.pc = .ok (.baload, 1)) :
    ∀ target, Steps p.tables e below (T.setTop { g with pc := g.pc + 1, stack := .int z :: rest }) target → Steps p.tables e below (T.setTop g) target := by
  obtain ⟨cl, A, q⟩ := A
  obtain ⟨h1, h2⟩ := rd_at q hr
  exact X.baloadBytes hx (j := j) (v := .int z) (by rw [eT]; exact A.1) (State.isArrayOf_alike hZ.alike A.2.1) A.2.2 h1 h2 hg hs hd
theorem ldJ (X : Stand p l e R s m args below meth c T locs cells slots) (hx : p.tables.exec = Jvm.exec) (hZ : Z.Warmed39 s.vm) (eT : T.heap = h) {xs : List Int64} (A : AJ Z h a .long xs) {j : Int32} {z : Int64} (hr : rdO xs j = some z) {g : JFrame} (hg : g.method = m) {rest : List Value} (hs : g.stack = .int j :: .ref a :: rest) (hd : decode c.code g.pc = .ok (.laload, 1)) :
    ∀ target, Steps p.tables e below (T.setTop { g with pc := g.pc + 1, stack := .long z :: rest }) target → Steps p.tables e below (T.setTop g) target := by
  obtain ⟨cl, A, q⟩ := A
  obtain ⟨h1, h2⟩ := rd_at q hr
  exact X.laload hx (j := j) (v := .long z) (by rw [eT]; exact A.1) (State.isArrayOf_alike hZ.alike A.2.1) A.2.2 h1 h2 hg hs hd
theorem soI (X : Stand p l e R s m args below meth c T locs cells slots) (hx : p.tables.exec = Jvm.exec) (hZ : Z.Warmed39 s.vm) (eT : T.heap = h) {xs xs' : List Int32} (A : AI Z h a .int xs) {j z : Int32} (hr : wrO xs j z = some xs') {g : JFrame} (hg : g.method = m) {rest : List Value} (hs : g.stack = .int z :: .int j :: .ref a :: rest) (hd : decode c.code g.pc = .ok (.iastore, 1)) :
    ∃ T' h', Stand p l e R s m args below meth c T' (locs ++ [⟨a, j.toNatClampNeg⟩]) cells slots ∧ T'.heap = h' ∧ Wr h h' a j.toNatClampNeg (.int z) ∧ AI Z h' a .int xs' ∧ ∀ target, Steps p.tables e below (T'.setTop { g with pc := g.pc + 1, stack := rest }) target → Steps p.tables e below (T.setTop g) target := by
  obtain ⟨cl, A, q⟩ := A
  obtain ⟨h1, h2⟩ := wr_at2 q hr
  obtain ⟨T', h', X', e', W, st⟩ := stI X hx hZ eT A h1 hg hs hd
  exact ⟨T', h', X', e', W, ⟨_, A.same W, h2⟩, st⟩
theorem soB (X : Stand p l e R s m args below meth c T locs cells slots) (hx : p.tables.exec = Jvm.exec) (hZ : Z.Warmed39 s.vm) (eT : T.heap = h) {xs xs' : List Int32} (A : AI Z h a .byte xs) {j z : Int32} (hr : wrO xs j (z.toInt8.toInt32) = some xs') {g : JFrame} (hg : g.method = m) {rest : List Value} (hs : g.stack = .int z :: .int j :: .ref a :: rest) (hd : decode c.code g.pc = .ok (.bastore, 1)) :
    ∃ T' h', Stand p l e R s m args below meth c T' (locs ++ [⟨a, j.toNatClampNeg⟩]) cells slots ∧ T'.heap = h' ∧ Wr h h' a j.toNatClampNeg (.int (z.toInt8.toInt32)) ∧ AI Z h' a .byte xs' ∧ ∀ target, Steps p.tables e below (T'.setTop { g with pc := g.pc + 1, stack := rest }) target → Steps p.tables e below (T.setTop g) target := by
  obtain ⟨cl, A, q⟩ := A
  obtain ⟨h1, h2⟩ := wr_at2 q hr
  obtain ⟨T', h', X', e', W, st⟩ := stB X hx hZ eT A h1 hg hs hd
  exact ⟨T', h', X', e', W, ⟨_, A.same W, h2⟩, st⟩
theorem soJ (X : Stand p l e R s m args below meth c T locs cells slots) (hx : p.tables.exec = Jvm.exec) (hZ : Z.Warmed39 s.vm) (eT : T.heap = h) {xs xs' : List Int64} (A : AJ Z h a .long xs) {j : Int32} {z : Int64} (hr : wrO xs j z = some xs') {g : JFrame} (hg : g.method = m) {rest : List Value} (hs : g.stack = .long z :: .int j :: .ref a :: rest) (hd : decode c.code g.pc = .ok (.lastore, 1)) :
    ∃ T' h', Stand p l e R s m args below meth c T' (locs ++ [⟨a, j.toNatClampNeg⟩]) cells slots ∧ T'.heap = h' ∧ Wr h h' a j.toNatClampNeg (.long z) ∧ AJ Z h' a .long xs' ∧ ∀ target, Steps p.tables e below (T'.setTop { g with pc := g.pc + 1, stack := rest }) target → Steps p.tables e below (T.setTop g) target := by
  obtain ⟨cl, A, q⟩ := A
  obtain ⟨h1, h2⟩ := wr_at2 q hr
  obtain ⟨T', h', X', e', W, st⟩ := stJ X hx hZ eT A h1 hg hs hd
  exact ⟨T', h', X', e', W, ⟨_, A.same W, h2⟩, st⟩
theorem lenAI (X : Stand p l e R s m args below meth c T locs cells slots) (hx : p.tables.exec = Jvm.exec) (hZ : Z.Warmed39 s.vm) (eT : T.heap = h) {xs : List Int32} (A : AI Z h a ty xs) {g : JFrame} (hg : g.method = m) {rest : List Value} (hs : g.stack = .ref a :: rest) (hd : decode c.code g.pc = .ok (.arraylength, 1)) :
    ∀ target, Steps p.tables e below (T.setTop { g with pc := g.pc + 1, stack := .int (lenO xs) :: rest }) target → Steps p.tables e below (T.setTop g) target := by
  obtain ⟨cl, A, q⟩ := A
  have e1 : cl.slots.size.toInt32 = lenO xs := by rw [q]; simp [lenO]
  intro t k
  refine X.arraylength hx (by rw [eT]; exact A.1) (State.isArrayOf_alike hZ.alike A.2.1) hg hs hd _ ?_
  rw [e1]; exact k
theorem lenAJ (X : Stand p l e R s m args below meth c T locs cells slots) (hx : p.tables.exec = Jvm.exec) (hZ : Z.Warmed39 s.vm) (eT : T.heap = h) {xs : List Int64} (A : AJ Z h a ty xs) {g : JFrame} (hg : g.method = m) {rest : List Value} (hs : g.stack = .ref a :: rest) (hd : decode c.code g.pc = .ok (.arraylength, 1)) :
    ∀ target, Steps p.tables e below (T.setTop { g with pc := g.pc + 1, stack := .int (lenO xs) :: rest }) target → Steps p.tables e below (T.setTop g) target := by
  obtain ⟨cl, A, q⟩ := A
  have e1 : cl.slots.size.toInt32 = lenO xs := by rw [q]; simp [lenO]
  intro t k
  refine X.arraylength hx (by rw [eT]; exact A.1) (State.isArrayOf_alike hZ.alike A.2.1) hg hs hd _ ?_
  rw [e1]; exact k
theorem newI (X : Stand p l e R s m args below meth c T locs cells slots) (hx : p.tables.exec = Jvm.exec) (hZ : Z.Warmed39 s.vm) {aty : ArrayType} (ht : newarray.typeOf aty = ty) (hdv : defaultValue ty = .int 0) (w : (Cond.arrayClass ty).before a0 Z = true) (eT : T.heap = h) {n : Int32} {cap : Nat} {xs : List Int32} (hr : mkO n cap = some xs) {g : JFrame} (hg : g.method = m) (hd : decode c.code g.pc = .ok (.newarray aty, 2)) {rest : List Value} (hs : g.stack = .int n :: rest) (hb : cap * 8 ≤ 536870912) (hc : cells + 1 ≤ R.cells) (hl : slots + cap ≤ R.slots) :
    ∃ T' h', Stand p l e R s m args below meth c T' locs (cells + 1) (slots + cap) ∧ T'.heap = h' ∧ Ext h h' ∧ AI Z h' h.size ty xs ∧ ∀ target, Steps p.tables e below (T'.setTop { g with pc := g.pc + 2, stack := .ref h.size :: rest }) target → Steps p.tables e below (T.setTop g) target := by
  subst ht
  unfold mkO at hr
  by_cases hn : n < 0 ∨ cap < n.toNatClampNeg
  · rw [if_pos hn] at hr; exact nomatch hr
  · rw [if_neg hn] at hr
    obtain rfl := Option.some.inj hr
    obtain ⟨T', h', cA, X', e', E, A, st⟩ := newP X hx hZ w eT hg hd hs (fun q => hn (Or.inl q)) (cap := cap) (Nat.le_of_not_lt fun q => hn (Or.inr q)) hb hc hl
    exact ⟨T', h', X', e', E, ⟨_, A, by simp [newA, hdv]⟩, st⟩
theorem newJ (X : Stand p l e R s m args below meth c T locs cells slots) (hx : p.tables.exec = Jvm.exec) (hZ : Z.Warmed39 s.vm) {aty : ArrayType} (ht : newarray.typeOf aty = .long) (w : (Cond.arrayClass .long).before a0 Z = true) (eT : T.heap = h) {n : Int32} {cap : Nat} {xs : List Int64} (hr : mkOJ n cap = some xs) {g : JFrame} (hg : g.method = m) (hd : decode c.code g.pc = .ok (.newarray aty, 2)) {rest : List Value} (hs : g.stack = .int n :: rest) (hb : cap * 8 ≤ 536870912) (hc : cells + 1 ≤ R.cells) (hl : slots + cap ≤ R.slots) :
    ∃ T' h', Stand p l e R s m args below meth c T' locs (cells + 1) (slots + cap) ∧ T'.heap = h' ∧ Ext h h' ∧ AJ Z h' h.size .long xs ∧ ∀ target, Steps p.tables e below (T'.setTop { g with pc := g.pc + 2, stack := .ref h.size :: rest }) target → Steps p.tables e below (T.setTop g) target := by
  unfold mkOJ at hr
  by_cases hn : n < 0 ∨ cap < n.toNatClampNeg
  · rw [if_pos hn] at hr; exact nomatch hr
  · rw [if_neg hn] at hr
    obtain rfl := Option.some.inj hr
    obtain ⟨T', h', cA, X', e', E, A, st⟩ := newP X hx hZ (by rw [ht]; exact w) eT hg hd hs (fun q => hn (Or.inl q)) (cap := cap) (Nat.le_of_not_lt fun q => hn (Or.inr q)) hb hc hl
    rw [ht] at A
    exact ⟨T', h', X', e', E, ⟨_, A, by simp [newA, defaultValue]⟩, st⟩
end Arrs
theorem d1_0 : decode method_4_code 0 = .ok (.lconst 1, 1) := by decide +kernel
theorem d1_1 : decode method_4_code 1 = .ok (.lstore_n 1, 1) := by decide +kernel
theorem d1_2 : decode method_4_code 2 = .ok (.iload_n 0, 1) := by decide +kernel
theorem d1_3 : decode method_4_code 3 = .ok (.iconst 1, 1) := by decide +kernel
theorem d1_4 : decode method_4_code 4 = .ok (.iand, 1) := by decide +kernel
theorem d1_5 : decode method_4_code 5 = .ok (.ifCond .eq 9, 3) := by decide +kernel
theorem d1_8 : decode method_4_code 8 = .ok (.lload_n 1, 1) := by decide +kernel
theorem d1_9 : decode method_4_code 9 = .ok (.ldc2_w 29, 3) := by decide +kernel
theorem d1_12 : decode method_4_code 12 = .ok (.lmul, 1) := by decide +kernel
theorem d1_13 : decode method_4_code 13 = .ok (.lstore_n 1, 1) := by decide +kernel
theorem d1_14 : decode method_4_code 14 = .ok (.iload_n 0, 1) := by decide +kernel
theorem d1_15 : decode method_4_code 15 = .ok (.iconst 2, 1) := by decide +kernel
theorem d1_16 : decode method_4_code 16 = .ok (.iand, 1) := by decide +kernel
theorem d1_17 : decode method_4_code 17 = .ok (.ifCond .eq 9, 3) := by decide +kernel
theorem d1_20 : decode method_4_code 20 = .ok (.lload_n 1, 1) := by decide +kernel
theorem d1_21 : decode method_4_code 21 = .ok (.ldc2_w 31, 3) := by decide +kernel
theorem d1_24 : decode method_4_code 24 = .ok (.lmul, 1) := by decide +kernel
theorem d1_25 : decode method_4_code 25 = .ok (.lstore_n 1, 1) := by decide +kernel
theorem d1_26 : decode method_4_code 26 = .ok (.iload_n 0, 1) := by decide +kernel
theorem d1_27 : decode method_4_code 27 = .ok (.iconst 4, 1) := by decide +kernel
theorem d1_28 : decode method_4_code 28 = .ok (.iand, 1) := by decide +kernel
theorem d1_29 : decode method_4_code 29 = .ok (.ifCond .eq 9, 3) := by decide +kernel
theorem d1_32 : decode method_4_code 32 = .ok (.lload_n 1, 1) := by decide +kernel
theorem d1_33 : decode method_4_code 33 = .ok (.ldc2_w 33, 3) := by decide +kernel
theorem d1_36 : decode method_4_code 36 = .ok (.lmul, 1) := by decide +kernel
theorem d1_37 : decode method_4_code 37 = .ok (.lstore_n 1, 1) := by decide +kernel
theorem d1_38 : decode method_4_code 38 = .ok (.iload_n 0, 1) := by decide +kernel
theorem d1_39 : decode method_4_code 39 = .ok (.bipush 8, 2) := by decide +kernel
theorem d1_41 : decode method_4_code 41 = .ok (.iand, 1) := by decide +kernel
theorem d1_42 : decode method_4_code 42 = .ok (.ifCond .eq 9, 3) := by decide +kernel
theorem d1_45 : decode method_4_code 45 = .ok (.lload_n 1, 1) := by decide +kernel
theorem d1_46 : decode method_4_code 46 = .ok (.ldc2_w 35, 3) := by decide +kernel
theorem d1_49 : decode method_4_code 49 = .ok (.lmul, 1) := by decide +kernel
theorem d1_50 : decode method_4_code 50 = .ok (.lstore_n 1, 1) := by decide +kernel
theorem d1_51 : decode method_4_code 51 = .ok (.iload_n 0, 1) := by decide +kernel
theorem d1_52 : decode method_4_code 52 = .ok (.bipush 16, 2) := by decide +kernel
theorem d1_54 : decode method_4_code 54 = .ok (.iand, 1) := by decide +kernel
theorem d1_55 : decode method_4_code 55 = .ok (.ifCond .eq 9, 3) := by decide +kernel
theorem d1_58 : decode method_4_code 58 = .ok (.lload_n 1, 1) := by decide +kernel
theorem d1_59 : decode method_4_code 59 = .ok (.ldc2_w 37, 3) := by decide +kernel
theorem d1_62 : decode method_4_code 62 = .ok (.lmul, 1) := by decide +kernel
theorem d1_63 : decode method_4_code 63 = .ok (.lstore_n 1, 1) := by decide +kernel
theorem d1_64 : decode method_4_code 64 = .ok (.lload_n 1, 1) := by decide +kernel
theorem d1_65 : decode method_4_code 65 = .ok (.lreturn, 1) := by decide +kernel
def g1_51 (x0 : Int32) (y1 : Int64) : Int64 := (if (x0 &&& (16 : Int32)) = (0 : Int32) then y1 else (y1 * (10000000000000000 : Int64)))
set_option maxRecDepth 65536 in
set_option maxHeartbeats 4000000 in
theorem b1_51 (C : Ctx p s m meth c Z a0 "com/example/notewright/notewright/DecimalsUnscaledPinLaw" method_4_code 3 (some .long) "pow10") (X0 : Stand p l e ({ frames := 0, cells := 0, slots := 0, locals := 0 } : Room) s m args below meth c T0 locs cells slots) (e0 : T0.heap = h0) (N0 : Fr n0 locs) (hk : cells ≤ 0) (hn : slots ≤ 0) (x0 : Int32) (y1 : Int64) :
    Runs p e below s (QP (some (.long (g1_51 x0 y1))) h0 n0) 0 0 T0 (mkF m 51 #[.val (.int x0), .val (.long y1), .second] []) := by
  have ⟨hx, hZ, hw, hby, hml, hown, hret, hlk, hnm⟩ := C
  refine Runs.via (T' := T0) (g' := (mkF m 55 #[.val (.int x0), .val (.long y1), .second] [(.int (x0 &&& (16 : Int32)))])) (fun t k => ?_) ?_
  · show Steps p.tables e below (T0.setTop (mkF m 51 #[.val (.int x0), .val (.long y1), .second] [])) t
    refine XS.iloadN X0.here hx rfl (hb hby d1_51) rfl ?_
    show Steps p.tables e below (T0.setTop (mkF m 52 #[.val (.int x0), .val (.long y1), .second] [(.int x0)])) t
    refine XS.bipush X0.here hx rfl (hb hby d1_52) ?_
    show Steps p.tables e below (T0.setTop (mkF m 54 #[.val (.int x0), .val (.long y1), .second] [(.int (16 : Int32)), (.int x0)])) t
    refine XS.iand X0.here hx rfl (hb hby d1_54) rfl ?_
    exact k
  by_cases hc1 : (x0 &&& (16 : Int32)) = (0 : Int32)
  · refine Runs.via (T' := T0) (g' := (mkF m 64 #[.val (.int x0), .val (.long y1), .second] [])) (fun t k => ?_) ?_
    · show Steps p.tables e below (T0.setTop (mkF m 55 #[.val (.int x0), .val (.long y1), .second] [(.int (x0 &&& (16 : Int32)))])) t
      exact XS.ifYes X0.here hx rfl (pc0 := 55) (pc' := 64) rfl (hb hby d1_55) rfl ((if0 _ _).trans (teq hc1).1) (by decide) (by decide) k
    refine Runs.via (T' := T0) (g' := (mkF m 65 #[.val (.int x0), .val (.long y1), .second] [(.long y1)])) (fun t k => ?_) ?_
    · show Steps p.tables e below (T0.setTop (mkF m 64 #[.val (.int x0), .val (.long y1), .second] [])) t
      refine XS.lloadN X0.here hx rfl (hb hby d1_64) rfl ?_
      exact k
    refine QP.cast (congrArg (fun z => some (Value.long z)) (show (g1_51 x0 y1) = y1 from (if_pos hc1))) ?_
    exact own_retJ X0 hx hlk hret (hb hby d1_65) hk hn ⟨rfl, N0, e0⟩
  · refine Runs.via (T' := T0) (g' := (mkF m 58 #[.val (.int x0), .val (.long y1), .second] [])) (fun t k => ?_) ?_
    · show Steps p.tables e below (T0.setTop (mkF m 55 #[.val (.int x0), .val (.long y1), .second] [(.int (x0 &&& (16 : Int32)))])) t
      exact XS.ifNo X0.here hx rfl (hb hby d1_55) rfl ((if0 _ _).trans (feq hc1).1) k
    refine Runs.via (T' := T0) (g' := (mkF m 65 #[.val (.int x0), .val (.long (y1 * (10000000000000000 : Int64))), .second] [(.long (y1 * (10000000000000000 : Int64)))])) (fun t k => ?_) ?_
    · show Steps p.tables e below (T0.setTop (mkF m 58 #[.val (.int x0), .val (.long y1), .second] [])) t
      refine XS.lloadN X0.here hx rfl (hb hby d1_58) rfl ?_
      show Steps p.tables e below (T0.setTop (mkF m 59 #[.val (.int x0), .val (.long y1), .second] [(.long y1)])) t
      refine X0.ldc2Long hx hown (mvT hZ (hw _ (List.mem_of_getElem? (i := 19) rfl))) (g := (mkF m 59 #[.val (.int x0), .val (.long y1), .second] [(.long y1)])) rfl (hb hby d1_59) _ ?_
      show Steps p.tables e below (T0.setTop (mkF m 62 #[.val (.int x0), .val (.long y1), .second] [(.long (10000000000000000 : Int64)), (.long y1)])) t
      refine XS.lmul X0.here hx rfl (hb hby d1_62) rfl ?_
      show Steps p.tables e below (T0.setTop (mkF m 63 #[.val (.int x0), .val (.long y1), .second] [(.long (y1 * (10000000000000000 : Int64)))])) t
      refine XS.lstoreN X0.here hx rfl (hb hby d1_63) rfl (l' := #[.val (.int x0), .val (.long (y1 * (10000000000000000 : Int64))), .second]) rfl ?_
      show Steps p.tables e below (T0.setTop (mkF m 64 #[.val (.int x0), .val (.long (y1 * (10000000000000000 : Int64))), .second] [])) t
      refine XS.lloadN X0.here hx rfl (hb hby d1_64) rfl ?_
      exact k
    refine QP.cast (congrArg (fun z => some (Value.long z)) (show (g1_51 x0 y1) = (y1 * (10000000000000000 : Int64)) from (if_neg hc1))) ?_
    exact own_retJ X0 hx hlk hret (hb hby d1_65) hk hn ⟨rfl, N0, e0⟩
def g1_38 (x0 : Int32) (y1 : Int64) : Int64 := (if (x0 &&& (8 : Int32)) = (0 : Int32) then (g1_51 x0 y1) else (g1_51 x0 (y1 * (100000000 : Int64))))
set_option maxRecDepth 65536 in
set_option maxHeartbeats 4000000 in
theorem b1_38 (C : Ctx p s m meth c Z a0 "com/example/notewright/notewright/DecimalsUnscaledPinLaw" method_4_code 3 (some .long) "pow10") (X0 : Stand p l e ({ frames := 0, cells := 0, slots := 0, locals := 0 } : Room) s m args below meth c T0 locs cells slots) (e0 : T0.heap = h0) (N0 : Fr n0 locs) (hk : cells ≤ 0) (hn : slots ≤ 0) (x0 : Int32) (y1 : Int64) :
    Runs p e below s (QP (some (.long (g1_38 x0 y1))) h0 n0) 0 0 T0 (mkF m 38 #[.val (.int x0), .val (.long y1), .second] []) := by
  have ⟨hx, hZ, hw, hby, hml, hown, hret, hlk, hnm⟩ := C
  refine Runs.via (T' := T0) (g' := (mkF m 42 #[.val (.int x0), .val (.long y1), .second] [(.int (x0 &&& (8 : Int32)))])) (fun t k => ?_) ?_
  · show Steps p.tables e below (T0.setTop (mkF m 38 #[.val (.int x0), .val (.long y1), .second] [])) t
    refine XS.iloadN X0.here hx rfl (hb hby d1_38) rfl ?_
    show Steps p.tables e below (T0.setTop (mkF m 39 #[.val (.int x0), .val (.long y1), .second] [(.int x0)])) t
    refine XS.bipush X0.here hx rfl (hb hby d1_39) ?_
    show Steps p.tables e below (T0.setTop (mkF m 41 #[.val (.int x0), .val (.long y1), .second] [(.int (8 : Int32)), (.int x0)])) t
    refine XS.iand X0.here hx rfl (hb hby d1_41) rfl ?_
    exact k
  by_cases hc1 : (x0 &&& (8 : Int32)) = (0 : Int32)
  · refine Runs.via (T' := T0) (g' := (mkF m 51 #[.val (.int x0), .val (.long y1), .second] [])) (fun t k => ?_) ?_
    · show Steps p.tables e below (T0.setTop (mkF m 42 #[.val (.int x0), .val (.long y1), .second] [(.int (x0 &&& (8 : Int32)))])) t
      exact XS.ifYes X0.here hx rfl (pc0 := 42) (pc' := 51) rfl (hb hby d1_42) rfl ((if0 _ _).trans (teq hc1).1) (by decide) (by decide) k
    refine QP.cast (congrArg (fun z => some (Value.long z)) (show (g1_38 x0 y1) = (g1_51 x0 y1) from (if_pos hc1))) ?_
    exact b1_51 C X0 e0 N0 hk hn x0 y1
  · refine Runs.via (T' := T0) (g' := (mkF m 45 #[.val (.int x0), .val (.long y1), .second] [])) (fun t k => ?_) ?_
    · show Steps p.tables e below (T0.setTop (mkF m 42 #[.val (.int x0), .val (.long y1), .second] [(.int (x0 &&& (8 : Int32)))])) t
      exact XS.ifNo X0.here hx rfl (hb hby d1_42) rfl ((if0 _ _).trans (feq hc1).1) k
    refine Runs.via (T' := T0) (g' := (mkF m 51 #[.val (.int x0), .val (.long (y1 * (100000000 : Int64))), .second] [])) (fun t k => ?_) ?_
    · show Steps p.tables e below (T0.setTop (mkF m 45 #[.val (.int x0), .val (.long y1), .second] [])) t
      refine XS.lloadN X0.here hx rfl (hb hby d1_45) rfl ?_
      show Steps p.tables e below (T0.setTop (mkF m 46 #[.val (.int x0), .val (.long y1), .second] [(.long y1)])) t
      refine X0.ldc2Long hx hown (mvT hZ (hw _ (List.mem_of_getElem? (i := 17) rfl))) (g := (mkF m 46 #[.val (.int x0), .val (.long y1), .second] [(.long y1)])) rfl (hb hby d1_46) _ ?_
      show Steps p.tables e below (T0.setTop (mkF m 49 #[.val (.int x0), .val (.long y1), .second] [(.long (100000000 : Int64)), (.long y1)])) t
      refine XS.lmul X0.here hx rfl (hb hby d1_49) rfl ?_
      show Steps p.tables e below (T0.setTop (mkF m 50 #[.val (.int x0), .val (.long y1), .second] [(.long (y1 * (100000000 : Int64)))])) t
      refine XS.lstoreN X0.here hx rfl (hb hby d1_50) rfl (l' := #[.val (.int x0), .val (.long (y1 * (100000000 : Int64))), .second]) rfl ?_
      exact k
    refine QP.cast (congrArg (fun z => some (Value.long z)) (show (g1_38 x0 y1) = (g1_51 x0 (y1 * (100000000 : Int64))) from (if_neg hc1))) ?_
    exact b1_51 C X0 e0 N0 hk hn x0 (y1 * (100000000 : Int64))
def g1_26 (x0 : Int32) (y1 : Int64) : Int64 := (if (x0 &&& (4 : Int32)) = (0 : Int32) then (g1_38 x0 y1) else (g1_38 x0 (y1 * (10000 : Int64))))
set_option maxRecDepth 65536 in
set_option maxHeartbeats 4000000 in
theorem b1_26 (C : Ctx p s m meth c Z a0 "com/example/notewright/notewright/DecimalsUnscaledPinLaw" method_4_code 3 (some .long) "pow10") (X0 : Stand p l e ({ frames := 0, cells := 0, slots := 0, locals := 0 } : Room) s m args below meth c T0 locs cells slots) (e0 : T0.heap = h0) (N0 : Fr n0 locs) (hk : cells ≤ 0) (hn : slots ≤ 0) (x0 : Int32) (y1 : Int64) :
    Runs p e below s (QP (some (.long (g1_26 x0 y1))) h0 n0) 0 0 T0 (mkF m 26 #[.val (.int x0), .val (.long y1), .second] []) := by
  have ⟨hx, hZ, hw, hby, hml, hown, hret, hlk, hnm⟩ := C
  refine Runs.via (T' := T0) (g' := (mkF m 29 #[.val (.int x0), .val (.long y1), .second] [(.int (x0 &&& (4 : Int32)))])) (fun t k => ?_) ?_
  · show Steps p.tables e below (T0.setTop (mkF m 26 #[.val (.int x0), .val (.long y1), .second] [])) t
    refine XS.iloadN X0.here hx rfl (hb hby d1_26) rfl ?_
    show Steps p.tables e below (T0.setTop (mkF m 27 #[.val (.int x0), .val (.long y1), .second] [(.int x0)])) t
    refine XS.iconst X0.here hx rfl (hb hby d1_27) ?_
    show Steps p.tables e below (T0.setTop (mkF m 28 #[.val (.int x0), .val (.long y1), .second] [(.int (4 : Int32)), (.int x0)])) t
    refine XS.iand X0.here hx rfl (hb hby d1_28) rfl ?_
    exact k
  by_cases hc1 : (x0 &&& (4 : Int32)) = (0 : Int32)
  · refine Runs.via (T' := T0) (g' := (mkF m 38 #[.val (.int x0), .val (.long y1), .second] [])) (fun t k => ?_) ?_
    · show Steps p.tables e below (T0.setTop (mkF m 29 #[.val (.int x0), .val (.long y1), .second] [(.int (x0 &&& (4 : Int32)))])) t
      exact XS.ifYes X0.here hx rfl (pc0 := 29) (pc' := 38) rfl (hb hby d1_29) rfl ((if0 _ _).trans (teq hc1).1) (by decide) (by decide) k
    refine QP.cast (congrArg (fun z => some (Value.long z)) (show (g1_26 x0 y1) = (g1_38 x0 y1) from (if_pos hc1))) ?_
    exact b1_38 C X0 e0 N0 hk hn x0 y1
  · refine Runs.via (T' := T0) (g' := (mkF m 32 #[.val (.int x0), .val (.long y1), .second] [])) (fun t k => ?_) ?_
    · show Steps p.tables e below (T0.setTop (mkF m 29 #[.val (.int x0), .val (.long y1), .second] [(.int (x0 &&& (4 : Int32)))])) t
      exact XS.ifNo X0.here hx rfl (hb hby d1_29) rfl ((if0 _ _).trans (feq hc1).1) k
    refine Runs.via (T' := T0) (g' := (mkF m 38 #[.val (.int x0), .val (.long (y1 * (10000 : Int64))), .second] [])) (fun t k => ?_) ?_
    · show Steps p.tables e below (T0.setTop (mkF m 32 #[.val (.int x0), .val (.long y1), .second] [])) t
      refine XS.lloadN X0.here hx rfl (hb hby d1_32) rfl ?_
      show Steps p.tables e below (T0.setTop (mkF m 33 #[.val (.int x0), .val (.long y1), .second] [(.long y1)])) t
      refine X0.ldc2Long hx hown (mvT hZ (hw _ (List.mem_of_getElem? (i := 18) rfl))) (g := (mkF m 33 #[.val (.int x0), .val (.long y1), .second] [(.long y1)])) rfl (hb hby d1_33) _ ?_
      show Steps p.tables e below (T0.setTop (mkF m 36 #[.val (.int x0), .val (.long y1), .second] [(.long (10000 : Int64)), (.long y1)])) t
      refine XS.lmul X0.here hx rfl (hb hby d1_36) rfl ?_
      show Steps p.tables e below (T0.setTop (mkF m 37 #[.val (.int x0), .val (.long y1), .second] [(.long (y1 * (10000 : Int64)))])) t
      refine XS.lstoreN X0.here hx rfl (hb hby d1_37) rfl (l' := #[.val (.int x0), .val (.long (y1 * (10000 : Int64))), .second]) rfl ?_
      exact k
    refine QP.cast (congrArg (fun z => some (Value.long z)) (show (g1_26 x0 y1) = (g1_38 x0 (y1 * (10000 : Int64))) from (if_neg hc1))) ?_
    exact b1_38 C X0 e0 N0 hk hn x0 (y1 * (10000 : Int64))
def g1_14 (x0 : Int32) (y1 : Int64) : Int64 := (if (x0 &&& (2 : Int32)) = (0 : Int32) then (g1_26 x0 y1) else (g1_26 x0 (y1 * (100 : Int64))))
set_option maxRecDepth 65536 in
set_option maxHeartbeats 4000000 in
theorem b1_14 (C : Ctx p s m meth c Z a0 "com/example/notewright/notewright/DecimalsUnscaledPinLaw" method_4_code 3 (some .long) "pow10") (X0 : Stand p l e ({ frames := 0, cells := 0, slots := 0, locals := 0 } : Room) s m args below meth c T0 locs cells slots) (e0 : T0.heap = h0) (N0 : Fr n0 locs) (hk : cells ≤ 0) (hn : slots ≤ 0) (x0 : Int32) (y1 : Int64) :
    Runs p e below s (QP (some (.long (g1_14 x0 y1))) h0 n0) 0 0 T0 (mkF m 14 #[.val (.int x0), .val (.long y1), .second] []) := by
  have ⟨hx, hZ, hw, hby, hml, hown, hret, hlk, hnm⟩ := C
  refine Runs.via (T' := T0) (g' := (mkF m 17 #[.val (.int x0), .val (.long y1), .second] [(.int (x0 &&& (2 : Int32)))])) (fun t k => ?_) ?_
  · show Steps p.tables e below (T0.setTop (mkF m 14 #[.val (.int x0), .val (.long y1), .second] [])) t
    refine XS.iloadN X0.here hx rfl (hb hby d1_14) rfl ?_
    show Steps p.tables e below (T0.setTop (mkF m 15 #[.val (.int x0), .val (.long y1), .second] [(.int x0)])) t
    refine XS.iconst X0.here hx rfl (hb hby d1_15) ?_
    show Steps p.tables e below (T0.setTop (mkF m 16 #[.val (.int x0), .val (.long y1), .second] [(.int (2 : Int32)), (.int x0)])) t
    refine XS.iand X0.here hx rfl (hb hby d1_16) rfl ?_
    exact k
  by_cases hc1 : (x0 &&& (2 : Int32)) = (0 : Int32)
  · refine Runs.via (T' := T0) (g' := (mkF m 26 #[.val (.int x0), .val (.long y1), .second] [])) (fun t k => ?_) ?_
    · show Steps p.tables e below (T0.setTop (mkF m 17 #[.val (.int x0), .val (.long y1), .second] [(.int (x0 &&& (2 : Int32)))])) t
      exact XS.ifYes X0.here hx rfl (pc0 := 17) (pc' := 26) rfl (hb hby d1_17) rfl ((if0 _ _).trans (teq hc1).1) (by decide) (by decide) k
    refine QP.cast (congrArg (fun z => some (Value.long z)) (show (g1_14 x0 y1) = (g1_26 x0 y1) from (if_pos hc1))) ?_
    exact b1_26 C X0 e0 N0 hk hn x0 y1
  · refine Runs.via (T' := T0) (g' := (mkF m 20 #[.val (.int x0), .val (.long y1), .second] [])) (fun t k => ?_) ?_
    · show Steps p.tables e below (T0.setTop (mkF m 17 #[.val (.int x0), .val (.long y1), .second] [(.int (x0 &&& (2 : Int32)))])) t
      exact XS.ifNo X0.here hx rfl (hb hby d1_17) rfl ((if0 _ _).trans (feq hc1).1) k
    refine Runs.via (T' := T0) (g' := (mkF m 26 #[.val (.int x0), .val (.long (y1 * (100 : Int64))), .second] [])) (fun t k => ?_) ?_
    · show Steps p.tables e below (T0.setTop (mkF m 20 #[.val (.int x0), .val (.long y1), .second] [])) t
      refine XS.lloadN X0.here hx rfl (hb hby d1_20) rfl ?_
      show Steps p.tables e below (T0.setTop (mkF m 21 #[.val (.int x0), .val (.long y1), .second] [(.long y1)])) t
      refine X0.ldc2Long hx hown (mvT hZ (hw _ (List.mem_of_getElem? (i := 7) rfl))) (g := (mkF m 21 #[.val (.int x0), .val (.long y1), .second] [(.long y1)])) rfl (hb hby d1_21) _ ?_
      show Steps p.tables e below (T0.setTop (mkF m 24 #[.val (.int x0), .val (.long y1), .second] [(.long (100 : Int64)), (.long y1)])) t
      refine XS.lmul X0.here hx rfl (hb hby d1_24) rfl ?_
      show Steps p.tables e below (T0.setTop (mkF m 25 #[.val (.int x0), .val (.long y1), .second] [(.long (y1 * (100 : Int64)))])) t
      refine XS.lstoreN X0.here hx rfl (hb hby d1_25) rfl (l' := #[.val (.int x0), .val (.long (y1 * (100 : Int64))), .second]) rfl ?_
      exact k
    refine QP.cast (congrArg (fun z => some (Value.long z)) (show (g1_14 x0 y1) = (g1_26 x0 (y1 * (100 : Int64))) from (if_neg hc1))) ?_
    exact b1_26 C X0 e0 N0 hk hn x0 (y1 * (100 : Int64))
def g1_0 (x0 : Int32) : Int64 := (if (x0 &&& (1 : Int32)) = (0 : Int32) then (g1_14 x0 (1 : Int64)) else (g1_14 x0 ((1 : Int64) * (10 : Int64))))
set_option maxRecDepth 65536 in
set_option maxHeartbeats 4000000 in
theorem b1_0 (C : Ctx p s m meth c Z a0 "com/example/notewright/notewright/DecimalsUnscaledPinLaw" method_4_code 3 (some .long) "pow10") (X0 : Stand p l e ({ frames := 0, cells := 0, slots := 0, locals := 0 } : Room) s m args below meth c T0 locs cells slots) (e0 : T0.heap = h0) (N0 : Fr n0 locs) (hk : cells ≤ 0) (hn : slots ≤ 0) (x0 : Int32) :
    Runs p e below s (QP (some (.long (g1_0 x0))) h0 n0) 0 0 T0 (mkF m 0 #[.val (.int x0), .unset, .unset] []) := by
  have ⟨hx, hZ, hw, hby, hml, hown, hret, hlk, hnm⟩ := C
  refine Runs.via (T' := T0) (g' := (mkF m 5 #[.val (.int x0), .val (.long (1 : Int64)), .second] [(.int (x0 &&& (1 : Int32)))])) (fun t k => ?_) ?_
  · show Steps p.tables e below (T0.setTop (mkF m 0 #[.val (.int x0), .unset, .unset] [])) t
    refine XS.lconst X0.here hx rfl (hb hby d1_0) ?_
    show Steps p.tables e below (T0.setTop (mkF m 1 #[.val (.int x0), .unset, .unset] [(.long (1 : Int64))])) t
    refine XS.lstoreN X0.here hx rfl (hb hby d1_1) rfl (l' := #[.val (.int x0), .val (.long (1 : Int64)), .second]) rfl ?_
    show Steps p.tables e below (T0.setTop (mkF m 2 #[.val (.int x0), .val (.long (1 : Int64)), .second] [])) t
    refine XS.iloadN X0.here hx rfl (hb hby d1_2) rfl ?_
    show Steps p.tables e below (T0.setTop (mkF m 3 #[.val (.int x0), .val (.long (1 : Int64)), .second] [(.int x0)])) t
    refine XS.iconst X0.here hx rfl (hb hby d1_3) ?_
    show Steps p.tables e below (T0.setTop (mkF m 4 #[.val (.int x0), .val (.long (1 : Int64)), .second] [(.int (1 : Int32)), (.int x0)])) t
    refine XS.iand X0.here hx rfl (hb hby d1_4) rfl ?_
    exact k
  by_cases hc1 : (x0 &&& (1 : Int32)) = (0 : Int32)
  · refine Runs.via (T' := T0) (g' := (mkF m 14 #[.val (.int x0), .val (.long (1 : Int64)), .second] [])) (fun t k => ?_) ?_
    · show Steps p.tables e below (T0.setTop (mkF m 5 #[.val (.int x0), .val (.long (1 : Int64)), .second] [(.int (x0 &&& (1 : Int32)))])) t
      exact XS.ifYes X0.here hx rfl (pc0 := 5) (pc' := 14) rfl (hb hby d1_5) rfl ((if0 _ _).trans (teq hc1).1) (by decide) (by decide) k
    refine QP.cast (congrArg (fun z => some (Value.long z)) (show (g1_0 x0) = (g1_14 x0 (1 : Int64)) from (if_pos hc1))) ?_
    exact b1_14 C X0 e0 N0 hk hn x0 (1 : Int64)
  · refine Runs.via (T' := T0) (g' := (mkF m 8 #[.val (.int x0), .val (.long (1 : Int64)), .second] [])) (fun t k => ?_) ?_
    · show Steps p.tables e below (T0.setTop (mkF m 5 #[.val (.int x0), .val (.long (1 : Int64)), .second] [(.int (x0 &&& (1 : Int32)))])) t
      exact XS.ifNo X0.here hx rfl (hb hby d1_5) rfl ((if0 _ _).trans (feq hc1).1) k
    refine Runs.via (T' := T0) (g' := (mkF m 14 #[.val (.int x0), .val (.long ((1 : Int64) * (10 : Int64))), .second] [])) (fun t k => ?_) ?_
    · show Steps p.tables e below (T0.setTop (mkF m 8 #[.val (.int x0), .val (.long (1 : Int64)), .second] [])) t
      refine XS.lloadN X0.here hx rfl (hb hby d1_8) rfl ?_
      show Steps p.tables e below (T0.setTop (mkF m 9 #[.val (.int x0), .val (.long (1 : Int64)), .second] [(.long (1 : Int64))])) t
      refine X0.ldc2Long hx hown (mvT hZ (hw _ (List.mem_of_getElem? (i := 6) rfl))) (g := (mkF m 9 #[.val (.int x0), .val (.long (1 : Int64)), .second] [(.long (1 : Int64))])) rfl (hb hby d1_9) _ ?_
      show Steps p.tables e below (T0.setTop (mkF m 12 #[.val (.int x0), .val (.long (1 : Int64)), .second] [(.long (10 : Int64)), (.long (1 : Int64))])) t
      refine XS.lmul X0.here hx rfl (hb hby d1_12) rfl ?_
      show Steps p.tables e below (T0.setTop (mkF m 13 #[.val (.int x0), .val (.long (1 : Int64)), .second] [(.long ((1 : Int64) * (10 : Int64)))])) t
      refine XS.lstoreN X0.here hx rfl (hb hby d1_13) rfl (l' := #[.val (.int x0), .val (.long ((1 : Int64) * (10 : Int64))), .second]) rfl ?_
      exact k
    refine QP.cast (congrArg (fun z => some (Value.long z)) (show (g1_0 x0) = (g1_14 x0 ((1 : Int64) * (10 : Int64))) from (if_neg hc1))) ?_
    exact b1_14 C X0 e0 N0 hk hn x0 ((1 : Int64) * (10 : Int64))
def f1 (x0 : Int32) : Int64 := g1_0 x0
theorem pn_1 : plainName "com/example/notewright/notewright/DecimalsUnscaledPinLaw" = true := by first | (simp [plainName, overriddenIn]; done) | decide +kernel
theorem ef_1 (m : MethodId) (x0 : Int32) : entryFrame m #[(.int x0)] 3 = mkF m 0 #[.val (.int x0), .unset, .unset] [] := by first | (simp [entryFrame, mkF, argsToLocals, Value.category]; done) | rfl
set_option maxRecDepth 65536 in
set_option maxHeartbeats 4000000 in
theorem rm1 (l : Launch) (Z : State) (a0 : Array Value) (hw : ∀ d ∈ tables_1, d.before a0 Z = true) (ws : List Jvm.Cond) (x0 : Int32) (h0 : Heap) (n0 : Nat) :
    MetFree l (⟨"com/example/notewright/notewright/DecimalsUnscaledPinLaw", "pow10", "(I)J"⟩ : MethodName) (head1 (Jvm.Cond.code (⟨"com/example/notewright/notewright/DecimalsUnscaledPinLaw", "pow10", "(I)J"⟩ : MethodName) method_4_code 3 (some .long) :: ws) ({ frames := 0, cells := 0, slots := 0, locals := 0 } : Room)) (fun a U => a = #[(.int x0)] ∧ Z.Warmed39 U.vm ∧ U.heap = h0) (fun _ _ _ _ _ => True) (fun _ U o U' => ∃ v L, o = .returned v ∧ QP (some (.long (f1 x0))) h0 n0 v U'.heap L ∧ FrameEnd U o U' L ({ frames := 0, cells := 0, slots := 0, locals := 0 } : Room).cells ({ frames := 0, cells := 0, slots := 0, locals := 0 } : Room).slots) := by
  refine MetFree.of_bodySF (plainFor_of_name pn_1) hisR ?_
  intro p e s m args below meth c s₁ Bd hml0 hP hK
  obtain ⟨rfl, hZ, hh⟩ := hP
  have X0 : Stand p l e ({ frames := 0, cells := 0, slots := 0, locals := 0 } : Room) s m #[(.int x0)] below meth c s₁ [] 0 0 := Stand.of_body Bd
  have e0 : s₁.heap = h0 := by rw [← hh, Bd.state]; rfl
  have C : Ctx p s m meth c Z a0 "com/example/notewright/notewright/DecimalsUnscaledPinLaw" method_4_code 3 (some .long) "pow10" := ⟨Bd.exec, hZ, hw, Bd.bytes, hml0, findClass_of_methodNamed Bd.named, Bd.returns, BodyLoose.notSynchronized Bd, (name_of_methodNamed Bd.named Bd.method).1⟩
  refine Runs.via (fun t k => castTop (ef_1 m x0) k) (b1_0 C X0 e0 (Fr.nil n0) (Nat.le_refl 0) (Nat.le_refl 0) x0)
theorem pd_0 : parseMethodDescriptor "(I)J" = some ⟨[.int], some .long⟩ := by decide +kernel
theorem d2_0 : decode method_3_code 0 = .ok (.iload 7, 2) := by decide +kernel
theorem d2_2 : decode method_3_code 2 = .ok (.iload_n 2, 1) := by decide +kernel
theorem d2_3 : decode method_3_code 3 = .ok (.if_icmp .ge 55, 3) := by decide +kernel
theorem d2_6 : decode method_3_code 6 = .ok (.iload_n 1, 1) := by decide +kernel
theorem d2_7 : decode method_3_code 7 = .ok (.iload 7, 2) := by decide +kernel
theorem d2_9 : decode method_3_code 9 = .ok (.iadd, 1) := by decide +kernel
theorem d2_10 : decode method_3_code 10 = .ok (.iload_n 3, 1) := by decide +kernel
theorem d2_11 : decode method_3_code 11 = .ok (.ifCond .eq 14, 3) := by decide +kernel
theorem d2_14 : decode method_3_code 14 = .ok (.iload 7, 2) := by decide +kernel
theorem d2_16 : decode method_3_code 16 = .ok (.iload 4, 2) := by decide +kernel
theorem d2_18 : decode method_3_code 18 = .ok (.if_icmp .lt 7, 3) := by decide +kernel
theorem d2_21 : decode method_3_code 21 = .ok (.iconst 1, 1) := by decide +kernel
theorem d2_22 : decode method_3_code 22 = .ok (.goto 4, 3) := by decide +kernel
theorem d2_25 : decode method_3_code 25 = .ok (.iconst 0, 1) := by decide +kernel
theorem d2_26 : decode method_3_code 26 = .ok (.iadd, 1) := by decide +kernel
theorem d2_27 : decode method_3_code 27 = .ok (.istore 8, 2) := by decide +kernel
theorem d2_29 : decode method_3_code 29 = .ok (.lload 5, 2) := by decide +kernel
theorem d2_31 : decode method_3_code 31 = .ok (.iload_n 2, 1) := by decide +kernel
theorem d2_32 : decode method_3_code 32 = .ok (.iconst 1, 1) := by decide +kernel
theorem d2_33 : decode method_3_code 33 = .ok (.isub, 1) := by decide +kernel
theorem d2_34 : decode method_3_code 34 = .ok (.iload 7, 2) := by decide +kernel
theorem d2_36 : decode method_3_code 36 = .ok (.isub, 1) := by decide +kernel
theorem d2_37 : decode method_3_code 37 = .ok (.invokestatic 13, 3) := by decide +kernel
theorem d2_40 : decode method_3_code 40 = .ok (.ldiv, 1) := by decide +kernel
theorem d2_41 : decode method_3_code 41 = .ok (.ldc2_w 29, 3) := by decide +kernel
theorem d2_44 : decode method_3_code 44 = .ok (.lrem, 1) := by decide +kernel
theorem d2_45 : decode method_3_code 45 = .ok (.lstore 9, 2) := by decide +kernel
theorem d2_47 : decode method_3_code 47 = .ok (.aload_n 0, 1) := by decide +kernel
theorem d2_48 : decode method_3_code 48 = .ok (.iload 8, 2) := by decide +kernel
theorem d2_50 : decode method_3_code 50 = .ok (.bipush 48, 2) := by decide +kernel
theorem d2_52 : decode method_3_code 52 = .ok (.lload 9, 2) := by decide +kernel
theorem d2_54 : decode method_3_code 54 = .ok (.l2i, 1) := by decide +kernel
theorem d2_55 : decode method_3_code 55 = .ok (.iadd, 1) := by decide +kernel
theorem d2_56 : decode method_3_code 56 = .ok (.i2b, 1) := by decide +kernel
theorem d2_57 : decode method_3_code 57 = .ok (.bastore, 1) := by decide +kernel
theorem d2_58 : decode method_3_code 58 = .ok (.return_, 1) := by decide +kernel
def P2 (Z : State) (hE : Heap) (a1 : Addr) (q_a1 : List Int32) (n0 : Nat) (r : List Int32) (v : Option Value) (h : Heap) (L : List Loc) : Prop := v = none ∧ Fr n0 L ∧ Keep hE h [a1] ∧ AI Z h a1 .byte r
def g2_26 (x2 : Int32) (y5 : Int64) (x7 : Int32) (u0 : Int32) (u1 : Int32) (q_a1 : List Int32) : Option (List Int32) := (letO (u1 + u0) fun v1 => (if (f1 ((x2 - (1 : Int32)) - x7)) = (0 : Int64) then none else (letO ((y5 / (f1 ((x2 - (1 : Int32)) - x7))) - ((y5 / (f1 ((x2 - (1 : Int32)) - x7))) / (10 : Int64)) * (10 : Int64)) fun v4 => ((wrO q_a1 v1 ((((48 : Int32) + (Int64.toInt32 v4)).toInt8.toInt32).toInt8.toInt32)).bind fun v5 => some v5))))
set_option maxRecDepth 65536 in
set_option maxHeartbeats 4000000 in
theorem b2_26 {hE : Heap} {a1 : Addr} {q_a1₀ : List Int32} {r : List Int32} (C : Ctx p s m meth c Z a0 "com/example/notewright/notewright/DecimalsUnscaledPinLaw" method_3_code 11 none "put") (X0 : Stand p l e ({ frames := 1, cells := 0, slots := 0, locals := 16 } : Room) s m args below meth c T0 locs cells slots) (e0 : T0.heap = h0) (N0 : Fr n0 locs) (hk : cells ≤ 0) (hn : slots ≤ 0) (Z1 : n0 ≤ h0.size) (KE : Keep hE h0 [a1]) (o0 : n0 ≤ a1) (q_a1 : List Int32) (x1 : Int32) (x2 : Int32) (x3 : Int32) (x4 : Int32) (y5 : Int64) (x7 : Int32) (u0 : Int32) (u1 : Int32) (A_a1_0 : AI Z h0 a1 .byte q_a1) (hr : g2_26 x2 y5 x7 u0 u1 q_a1 = some r) :
    Runs p e below s (P2 Z hE a1 q_a1₀ n0 r) 0 0 T0 (mkF m 26 #[.val (.ref a1), .val (.int x1), .val (.int x2), .val (.int x3), .val (.int x4), .val (.long y5), .second, .val (.int x7), .unset, .unset, .unset] [(.int u0), (.int u1)]) := by
  unfold g2_26 at hr
  have ⟨hx, hZ, hw, hby, hml, hown, hret, hlk, hnm⟩ := C
  refine Runs.via (T' := T0) (g' := (mkF m 27 #[.val (.ref a1), .val (.int x1), .val (.int x2), .val (.int x3), .val (.int x4), .val (.long y5), .second, .val (.int x7), .unset, .unset, .unset] [(.int (u1 + u0))])) (fun t k => ?_) ?_
  · show Steps p.tables e below (T0.setTop (mkF m 26 #[.val (.ref a1), .val (.int x1), .val (.int x2), .val (.int x3), .val (.int x4), .val (.long y5), .second, .val (.int x7), .unset, .unset, .unset] [(.int u0), (.int u1)])) t
    refine XS.iadd X0.here hx rfl (hb hby d2_26) rfl ?_
    exact k
  refine letE hr ?_; intro v1 hv1 hr
  rw [← hv1]
  refine Runs.via (T' := T0) (g' := (mkF m 37 #[.val (.ref a1), .val (.int x1), .val (.int x2), .val (.int x3), .val (.int x4), .val (.long y5), .second, .val (.int x7), .val (.int v1), .unset, .unset] [(.int ((x2 - (1 : Int32)) - x7)), (.long y5)])) (fun t k => ?_) ?_
  · show Steps p.tables e below (T0.setTop (mkF m 27 #[.val (.ref a1), .val (.int x1), .val (.int x2), .val (.int x3), .val (.int x4), .val (.long y5), .second, .val (.int x7), .unset, .unset, .unset] [(.int v1)])) t
    refine XS.istore X0.here hx rfl (hb hby d2_27) rfl (l' := #[.val (.ref a1), .val (.int x1), .val (.int x2), .val (.int x3), .val (.int x4), .val (.long y5), .second, .val (.int x7), .val (.int v1), .unset, .unset]) rfl ?_
    show Steps p.tables e below (T0.setTop (mkF m 29 #[.val (.ref a1), .val (.int x1), .val (.int x2), .val (.int x3), .val (.int x4), .val (.long y5), .second, .val (.int x7), .val (.int v1), .unset, .unset] [])) t
    refine XS.lload X0.here hx rfl (hb hby d2_29) rfl ?_
    show Steps p.tables e below (T0.setTop (mkF m 31 #[.val (.ref a1), .val (.int x1), .val (.int x2), .val (.int x3), .val (.int x4), .val (.long y5), .second, .val (.int x7), .val (.int v1), .unset, .unset] [(.long y5)])) t
    refine XS.iloadN X0.here hx rfl (hb hby d2_31) rfl ?_
    show Steps p.tables e below (T0.setTop (mkF m 32 #[.val (.ref a1), .val (.int x1), .val (.int x2), .val (.int x3), .val (.int x4), .val (.long y5), .second, .val (.int x7), .val (.int v1), .unset, .unset] [(.int x2), (.long y5)])) t
    refine XS.iconst X0.here hx rfl (hb hby d2_32) ?_
    show Steps p.tables e below (T0.setTop (mkF m 33 #[.val (.ref a1), .val (.int x1), .val (.int x2), .val (.int x3), .val (.int x4), .val (.long y5), .second, .val (.int x7), .val (.int v1), .unset, .unset] [(.int (1 : Int32)), (.int x2), (.long y5)])) t
    refine XS.isub X0.here hx rfl (hb hby d2_33) rfl ?_
    show Steps p.tables e below (T0.setTop (mkF m 34 #[.val (.ref a1), .val (.int x1), .val (.int x2), .val (.int x3), .val (.int x4), .val (.long y5), .second, .val (.int x7), .val (.int v1), .unset, .unset] [(.int (x2 - (1 : Int32))), (.long y5)])) t
    refine XS.iload X0.here hx rfl (hb hby d2_34) rfl ?_
    show Steps p.tables e below (T0.setTop (mkF m 36 #[.val (.ref a1), .val (.int x1), .val (.int x2), .val (.int x3), .val (.int x4), .val (.long y5), .second, .val (.int x7), .val (.int v1), .unset, .unset] [(.int x7), (.int (x2 - (1 : Int32))), (.long y5)])) t
    refine XS.isub X0.here hx rfl (hb hby d2_36) rfl ?_
    exact k
  obtain ⟨_, _, ⟨T2, L2, k2, n2⟩, -, X2, ⟨Lc2, hQ2, l2, y2, z2⟩, st2⟩ := Jvm.LawKit.callS X0 hx (y := (⟨"com/example/notewright/notewright/DecimalsUnscaledPinLaw", "pow10", "(I)J"⟩ : MethodName)) hown (mvT hZ (hw _ (List.mem_of_getElem? (i := 2) rfl))) (mvT hZ (hw _ (List.mem_of_getElem? (i := 3) rfl))) (mvT hZ (hw _ (List.mem_of_getElem? (i := 4) rfl))) (mvT hZ (hw _ (List.mem_of_getElem? (i := 5) rfl))) (by decide) (backOf (W := 2) (rm1 l Z a0 hw [] ((x2 - (1 : Int32)) - x7) h0 n0) hZ (hw _ (List.mem_of_getElem? (i := 5) rfl)) (hw _ (List.mem_of_getElem? (i := 4) rfl)) (by decide) (by decide)) (g := (mkF m 37 #[.val (.ref a1), .val (.int x1), .val (.int x2), .val (.int x3), .val (.int x4), .val (.long y5), .second, .val (.int x7), .val (.int v1), .unset, .unset] [(.int ((x2 - (1 : Int32)) - x7)), (.long y5)])) rfl (by rw [hml]; rfl) (argsL := [(.int ((x2 - (1 : Int32)) - x7))]) (rest := [(.long y5)]) (lenOf pd_0 rfl) rfl (by show 2 * 0 + _ ≤ _; exact Nat.le_of_eq rfl) (hb hby d2_37) (fun _ _ => ⟨rfl, e0, (by show cells + 0 ≤ 0; omega), (by show slots + 0 ≤ 0; omega)⟩)
  dsimp only [Pt.U, Pt.locs, Pt.cells, Pt.slots] at X2 l2 y2 z2 st2 hQ2
  replace y2 := y2.symm; replace z2 := z2.symm; subst l2 y2 z2
  obtain ⟨rfl, N2q, e2⟩ := hQ2
  have N2 := Fr.app N0 N2q
  refine Runs.via (T' := T2) (g' := (mkF m 40 #[.val (.ref a1), .val (.int x1), .val (.int x2), .val (.int x3), .val (.int x4), .val (.long y5), .second, .val (.int x7), .val (.int v1), .unset, .unset] [(.long (f1 ((x2 - (1 : Int32)) - x7))), (.long y5)])) (fun t k => st2 _ k) ?_
  refine iteE hr (fun hz3 hr => nomatch hr) (fun hz3 hr => ?_)
  refine Runs.via (T' := T2) (g' := (mkF m 45 #[.val (.ref a1), .val (.int x1), .val (.int x2), .val (.int x3), .val (.int x4), .val (.long y5), .second, .val (.int x7), .val (.int v1), .unset, .unset] [(.long ((y5 / (f1 ((x2 - (1 : Int32)) - x7))) - ((y5 / (f1 ((x2 - (1 : Int32)) - x7))) / (10 : Int64)) * (10 : Int64)))])) (fun t k => ?_) ?_
  · show Steps p.tables e below (T2.setTop (mkF m 40 #[.val (.ref a1), .val (.int x1), .val (.int x2), .val (.int x3), .val (.int x4), .val (.long y5), .second, .val (.int x7), .val (.int v1), .unset, .unset] [(.long (f1 ((x2 - (1 : Int32)) - x7))), (.long y5)])) t
    refine XS.ldiv X2.here hx rfl (hb hby d2_40) rfl hz3 ?_
    show Steps p.tables e below (T2.setTop (mkF m 41 #[.val (.ref a1), .val (.int x1), .val (.int x2), .val (.int x3), .val (.int x4), .val (.long y5), .second, .val (.int x7), .val (.int v1), .unset, .unset] [(.long (y5 / (f1 ((x2 - (1 : Int32)) - x7))))])) t
    refine X2.ldc2Long hx hown (mvT hZ (hw _ (List.mem_of_getElem? (i := 6) rfl))) (g := (mkF m 41 #[.val (.ref a1), .val (.int x1), .val (.int x2), .val (.int x3), .val (.int x4), .val (.long y5), .second, .val (.int x7), .val (.int v1), .unset, .unset] [(.long (y5 / (f1 ((x2 - (1 : Int32)) - x7))))])) rfl (hb hby d2_41) _ ?_
    show Steps p.tables e below (T2.setTop (mkF m 44 #[.val (.ref a1), .val (.int x1), .val (.int x2), .val (.int x3), .val (.int x4), .val (.long y5), .second, .val (.int x7), .val (.int v1), .unset, .unset] [(.long (10 : Int64)), (.long (y5 / (f1 ((x2 - (1 : Int32)) - x7))))])) t
    refine XS.lrem X2.here hx rfl (hb hby d2_44) rfl (by decide) ?_
    exact k
  refine letE hr ?_; intro v4 hv4 hr
  rw [← hv4]
  refine Runs.via (T' := T2) (g' := (mkF m 57 #[.val (.ref a1), .val (.int x1), .val (.int x2), .val (.int x3), .val (.int x4), .val (.long y5), .second, .val (.int x7), .val (.int v1), .val (.long v4), .second] [(.int (((48 : Int32) + (Int64.toInt32 v4)).toInt8.toInt32)), (.int v1), (.ref a1)])) (fun t k => ?_) ?_
  · show Steps p.tables e below (T2.setTop (mkF m 45 #[.val (.ref a1), .val (.int x1), .val (.int x2), .val (.int x3), .val (.int x4), .val (.long y5), .second, .val (.int x7), .val (.int v1), .unset, .unset] [(.long v4)])) t
    refine XS.lstore X2.here hx rfl (hb hby d2_45) rfl (l' := #[.val (.ref a1), .val (.int x1), .val (.int x2), .val (.int x3), .val (.int x4), .val (.long y5), .second, .val (.int x7), .val (.int v1), .val (.long v4), .second]) rfl ?_
    show Steps p.tables e below (T2.setTop (mkF m 47 #[.val (.ref a1), .val (.int x1), .val (.int x2), .val (.int x3), .val (.int x4), .val (.long y5), .second, .val (.int x7), .val (.int v1), .val (.long v4), .second] [])) t
    refine XS.aloadN X2.here hx rfl (hb hby d2_47) rfl rfl ?_
    show Steps p.tables e below (T2.setTop (mkF m 48 #[.val (.ref a1), .val (.int x1), .val (.int x2), .val (.int x3), .val (.int x4), .val (.long y5), .second, .val (.int x7), .val (.int v1), .val (.long v4), .second] [(.ref a1)])) t
    refine XS.iload X2.here hx rfl (hb hby d2_48) rfl ?_
    show Steps p.tables e below (T2.setTop (mkF m 50 #[.val (.ref a1), .val (.int x1), .val (.int x2), .val (.int x3), .val (.int x4), .val (.long y5), .second, .val (.int x7), .val (.int v1), .val (.long v4), .second] [(.int v1), (.ref a1)])) t
    refine XS.bipush X2.here hx rfl (hb hby d2_50) ?_
    show Steps p.tables e below (T2.setTop (mkF m 52 #[.val (.ref a1), .val (.int x1), .val (.int x2), .val (.int x3), .val (.int x4), .val (.long y5), .second, .val (.int x7), .val (.int v1), .val (.long v4), .second] [(.int (48 : Int32)), (.int v1), (.ref a1)])) t
    refine XS.lload X2.here hx rfl (hb hby d2_52) rfl ?_
    show Steps p.tables e below (T2.setTop (mkF m 54 #[.val (.ref a1), .val (.int x1), .val (.int x2), .val (.int x3), .val (.int x4), .val (.long y5), .second, .val (.int x7), .val (.int v1), .val (.long v4), .second] [(.long v4), (.int (48 : Int32)), (.int v1), (.ref a1)])) t
    refine XS.l2i X2.here hx rfl (hb hby d2_54) rfl ?_
    show Steps p.tables e below (T2.setTop (mkF m 55 #[.val (.ref a1), .val (.int x1), .val (.int x2), .val (.int x3), .val (.int x4), .val (.long y5), .second, .val (.int x7), .val (.int v1), .val (.long v4), .second] [(.int (Int64.toInt32 v4)), (.int (48 : Int32)), (.int v1), (.ref a1)])) t
    refine XS.iadd X2.here hx rfl (hb hby d2_55) rfl ?_
    show Steps p.tables e below (T2.setTop (mkF m 56 #[.val (.ref a1), .val (.int x1), .val (.int x2), .val (.int x3), .val (.int x4), .val (.long y5), .second, .val (.int x7), .val (.int v1), .val (.long v4), .second] [(.int ((48 : Int32) + (Int64.toInt32 v4))), (.int v1), (.ref a1)])) t
    refine XS.i2b X2.here hx rfl (hb hby d2_56) rfl ?_
    exact k
  refine bindE hr ?_; intro v5 hv5 hr
  obtain ⟨T5, h5, X5, e5, W5, A5, st5⟩ := soB X2 hx hZ e2 A_a1_0 hv5 (g := (mkF m 57 #[.val (.ref a1), .val (.int x1), .val (.int x2), .val (.int x3), .val (.int x4), .val (.long y5), .second, .val (.int x7), .val (.int v1), .val (.long v4), .second] [(.int (((48 : Int32) + (Int64.toInt32 v4)).toInt8.toInt32)), (.int v1), (.ref a1)])) rfl rfl (hb hby d2_57)
  have A_a1_5 : AI Z h5 a1 .byte v5 := A5
  have N5 := Fr.snoc X5 N2 (by omega : n0 ≤ a1)
  have zz5 : n0 ≤ h5.size := Nat.le_trans Z1 (Keep.of_wr W5).1
  have K5 := KE.wr W5 (Or.inl (List.mem_of_getElem? (i := 0) rfl))
  refine Runs.via (T' := T5) (g' := (mkF m 58 #[.val (.ref a1), .val (.int x1), .val (.int x2), .val (.int x3), .val (.int x4), .val (.long y5), .second, .val (.int x7), .val (.int v1), .val (.long v4), .second] [])) (fun t k => st5 _ k) ?_
  obtain rfl := Option.some.inj hr
  exact own_retV X5 hx hlk hret (hb hby d2_58) (by show (cells + 0) ≤ 0; omega) (by show (slots + 0) ≤ 0; omega) ⟨rfl, N5, (by rw [e5]; exact K5), (by rw [e5]; exact A_a1_5)⟩
def g2_25 (x2 : Int32) (y5 : Int64) (x7 : Int32) (u0 : Int32) (q_a1 : List Int32) : Option (List Int32) := (g2_26 x2 y5 x7 (0 : Int32) u0 q_a1)
set_option maxRecDepth 65536 in
set_option maxHeartbeats 4000000 in
theorem b2_25 {hE : Heap} {a1 : Addr} {q_a1₀ : List Int32} {r : List Int32} (C : Ctx p s m meth c Z a0 "com/example/notewright/notewright/DecimalsUnscaledPinLaw" method_3_code 11 none "put") (X0 : Stand p l e ({ frames := 1, cells := 0, slots := 0, locals := 16 } : Room) s m args below meth c T0 locs cells slots) (e0 : T0.heap = h0) (N0 : Fr n0 locs) (hk : cells ≤ 0) (hn : slots ≤ 0) (Z1 : n0 ≤ h0.size) (KE : Keep hE h0 [a1]) (o0 : n0 ≤ a1) (q_a1 : List Int32) (x1 : Int32) (x2 : Int32) (x3 : Int32) (x4 : Int32) (y5 : Int64) (x7 : Int32) (u0 : Int32) (A_a1_0 : AI Z h0 a1 .byte q_a1) (hr : g2_25 x2 y5 x7 u0 q_a1 = some r) :
    Runs p e below s (P2 Z hE a1 q_a1₀ n0 r) 0 0 T0 (mkF m 25 #[.val (.ref a1), .val (.int x1), .val (.int x2), .val (.int x3), .val (.int x4), .val (.long y5), .second, .val (.int x7), .unset, .unset, .unset] [(.int u0)]) := by
  unfold g2_25 at hr
  have ⟨hx, hZ, hw, hby, hml, hown, hret, hlk, hnm⟩ := C
  refine Runs.via (T' := T0) (g' := (mkF m 26 #[.val (.ref a1), .val (.int x1), .val (.int x2), .val (.int x3), .val (.int x4), .val (.long y5), .second, .val (.int x7), .unset, .unset, .unset] [(.int (0 : Int32)), (.int u0)])) (fun t k => ?_) ?_
  · show Steps p.tables e below (T0.setTop (mkF m 25 #[.val (.ref a1), .val (.int x1), .val (.int x2), .val (.int x3), .val (.int x4), .val (.long y5), .second, .val (.int x7), .unset, .unset, .unset] [(.int u0)])) t
    refine XS.iconst X0.here hx rfl (hb hby d2_25) ?_
    exact k
  exact b2_26 C X0 e0 N0 (by show cells ≤ 0; omega) (by show slots ≤ 0; omega) Z1 KE (by omega) q_a1 x1 x2 x3 x4 y5 x7 (0 : Int32) u0 A_a1_0 hr
def g2_0 (x1 : Int32) (x2 : Int32) (x3 : Int32) (x4 : Int32) (y5 : Int64) (x7 : Int32) (q_a1 : List Int32) : Option (List Int32) := (if x7 < x2 then (if x3 = (0 : Int32) then (g2_25 x2 y5 x7 (x1 + x7) q_a1) else (if x7 < x4 then (g2_25 x2 y5 x7 (x1 + x7) q_a1) else (g2_26 x2 y5 x7 (1 : Int32) (x1 + x7) q_a1))) else some q_a1)
set_option maxRecDepth 65536 in
set_option maxHeartbeats 4000000 in
theorem b2_0 {hE : Heap} {a1 : Addr} {q_a1₀ : List Int32} {r : List Int32} (C : Ctx p s m meth c Z a0 "com/example/notewright/notewright/DecimalsUnscaledPinLaw" method_3_code 11 none "put") (X0 : Stand p l e ({ frames := 1, cells := 0, slots := 0, locals := 16 } : Room) s m args below meth c T0 locs cells slots) (e0 : T0.heap = h0) (N0 : Fr n0 locs) (hk : cells ≤ 0) (hn : slots ≤ 0) (Z1 : n0 ≤ h0.size) (KE : Keep hE h0 [a1]) (o0 : n0 ≤ a1) (q_a1 : List Int32) (x1 : Int32) (x2 : Int32) (x3 : Int32) (x4 : Int32) (y5 : Int64) (x7 : Int32) (A_a1_0 : AI Z h0 a1 .byte q_a1) (hr : g2_0 x1 x2 x3 x4 y5 x7 q_a1 = some r) :
    Runs p e below s (P2 Z hE a1 q_a1₀ n0 r) 0 0 T0 (mkF m 0 #[.val (.ref a1), .val (.int x1), .val (.int x2), .val (.int x3), .val (.int x4), .val (.long y5), .second, .val (.int x7), .unset, .unset, .unset] []) := by
  unfold g2_0 at hr
  have ⟨hx, hZ, hw, hby, hml, hown, hret, hlk, hnm⟩ := C
  refine Runs.via (T' := T0) (g' := (mkF m 3 #[.val (.ref a1), .val (.int x1), .val (.int x2), .val (.int x3), .val (.int x4), .val (.long y5), .second, .val (.int x7), .unset, .unset, .unset] [(.int x2), (.int x7)])) (fun t k => ?_) ?_
  · show Steps p.tables e below (T0.setTop (mkF m 0 #[.val (.ref a1), .val (.int x1), .val (.int x2), .val (.int x3), .val (.int x4), .val (.long y5), .second, .val (.int x7), .unset, .unset, .unset] [])) t
    refine XS.iload X0.here hx rfl (hb hby d2_0) rfl ?_
    show Steps p.tables e below (T0.setTop (mkF m 2 #[.val (.ref a1), .val (.int x1), .val (.int x2), .val (.int x3), .val (.int x4), .val (.long y5), .second, .val (.int x7), .unset, .unset, .unset] [(.int x7)])) t
    refine XS.iloadN X0.here hx rfl (hb hby d2_2) rfl ?_
    exact k
  refine iteE hr (fun hc1 hr => ?_) (fun hc1 hr => ?_)
  · refine Runs.via (T' := T0) (g' := (mkF m 6 #[.val (.ref a1), .val (.int x1), .val (.int x2), .val (.int x3), .val (.int x4), .val (.long y5), .second, .val (.int x7), .unset, .unset, .unset] [])) (fun t k => ?_) ?_
    · show Steps p.tables e below (T0.setTop (mkF m 3 #[.val (.ref a1), .val (.int x1), .val (.int x2), .val (.int x3), .val (.int x4), .val (.long y5), .second, .val (.int x7), .unset, .unset, .unset] [(.int x2), (.int x7)])) t
      exact XS.icmpNo X0.here hx rfl (hb hby d2_3) rfl (tlt hc1).2.1 k
    refine Runs.via (T' := T0) (g' := (mkF m 11 #[.val (.ref a1), .val (.int x1), .val (.int x2), .val (.int x3), .val (.int x4), .val (.long y5), .second, .val (.int x7), .unset, .unset, .unset] [(.int x3), (.int (x1 + x7))])) (fun t k => ?_) ?_
    · show Steps p.tables e below (T0.setTop (mkF m 6 #[.val (.ref a1), .val (.int x1), .val (.int x2), .val (.int x3), .val (.int x4), .val (.long y5), .second, .val (.int x7), .unset, .unset, .unset] [])) t
      refine XS.iloadN X0.here hx rfl (hb hby d2_6) rfl ?_
      show Steps p.tables e below (T0.setTop (mkF m 7 #[.val (.ref a1), .val (.int x1), .val (.int x2), .val (.int x3), .val (.int x4), .val (.long y5), .second, .val (.int x7), .unset, .unset, .unset] [(.int x1)])) t
      refine XS.iload X0.here hx rfl (hb hby d2_7) rfl ?_
      show Steps p.tables e below (T0.setTop (mkF m 9 #[.val (.ref a1), .val (.int x1), .val (.int x2), .val (.int x3), .val (.int x4), .val (.long y5), .second, .val (.int x7), .unset, .unset, .unset] [(.int x7), (.int x1)])) t
      refine XS.iadd X0.here hx rfl (hb hby d2_9) rfl ?_
      show Steps p.tables e below (T0.setTop (mkF m 10 #[.val (.ref a1), .val (.int x1), .val (.int x2), .val (.int x3), .val (.int x4), .val (.long y5), .second, .val (.int x7), .unset, .unset, .unset] [(.int (x1 + x7))])) t
      refine XS.iloadN X0.here hx rfl (hb hby d2_10) rfl ?_
      exact k
    refine iteE hr (fun hc2 hr => ?_) (fun hc2 hr => ?_)
    · refine Runs.via (T' := T0) (g' := (mkF m 25 #[.val (.ref a1), .val (.int x1), .val (.int x2), .val (.int x3), .val (.int x4), .val (.long y5), .second, .val (.int x7), .unset, .unset, .unset] [(.int (x1 + x7))])) (fun t k => ?_) ?_
      · show Steps p.tables e below (T0.setTop (mkF m 11 #[.val (.ref a1), .val (.int x1), .val (.int x2), .val (.int x3), .val (.int x4), .val (.long y5), .second, .val (.int x7), .unset, .unset, .unset] [(.int x3), (.int (x1 + x7))])) t
        exact XS.ifYes X0.here hx rfl (pc0 := 11) (pc' := 25) rfl (hb hby d2_11) rfl ((if0 _ _).trans (teq hc2).1) (by decide) (by decide) k
      exact b2_25 C X0 e0 N0 (by show cells ≤ 0; omega) (by show slots ≤ 0; omega) Z1 KE (by omega) q_a1 x1 x2 x3 x4 y5 x7 (x1 + x7) A_a1_0 hr
    · refine Runs.via (T' := T0) (g' := (mkF m 14 #[.val (.ref a1), .val (.int x1), .val (.int x2), .val (.int x3), .val (.int x4), .val (.long y5), .second, .val (.int x7), .unset, .unset, .unset] [(.int (x1 + x7))])) (fun t k => ?_) ?_
      · show Steps p.tables e below (T0.setTop (mkF m 11 #[.val (.ref a1), .val (.int x1), .val (.int x2), .val (.int x3), .val (.int x4), .val (.long y5), .second, .val (.int x7), .unset, .unset, .unset] [(.int x3), (.int (x1 + x7))])) t
        exact XS.ifNo X0.here hx rfl (hb hby d2_11) rfl ((if0 _ _).trans (feq hc2).1) k
      refine Runs.via (T' := T0) (g' := (mkF m 18 #[.val (.ref a1), .val (.int x1), .val (.int x2), .val (.int x3), .val (.int x4), .val (.long y5), .second, .val (.int x7), .unset, .unset, .unset] [(.int x4), (.int x7), (.int (x1 + x7))])) (fun t k => ?_) ?_
      · show Steps p.tables e below (T0.setTop (mkF m 14 #[.val (.ref a1), .val (.int x1), .val (.int x2), .val (.int x3), .val (.int x4), .val (.long y5), .second, .val (.int x7), .unset, .unset, .unset] [(.int (x1 + x7))])) t
        refine XS.iload X0.here hx rfl (hb hby d2_14) rfl ?_
        show Steps p.tables e below (T0.setTop (mkF m 16 #[.val (.ref a1), .val (.int x1), .val (.int x2), .val (.int x3), .val (.int x4), .val (.long y5), .second, .val (.int x7), .unset, .unset, .unset] [(.int x7), (.int (x1 + x7))])) t
        refine XS.iload X0.here hx rfl (hb hby d2_16) rfl ?_
        exact k
      refine iteE hr (fun hc3 hr => ?_) (fun hc3 hr => ?_)
      · refine Runs.via (T' := T0) (g' := (mkF m 25 #[.val (.ref a1), .val (.int x1), .val (.int x2), .val (.int x3), .val (.int x4), .val (.long y5), .second, .val (.int x7), .unset, .unset, .unset] [(.int (x1 + x7))])) (fun t k => ?_) ?_
        · show Steps p.tables e below (T0.setTop (mkF m 18 #[.val (.ref a1), .val (.int x1), .val (.int x2), .val (.int x3), .val (.int x4), .val (.long y5), .second, .val (.int x7), .unset, .unset, .unset] [(.int x4), (.int x7), (.int (x1 + x7))])) t
          exact XS.icmpYes X0.here hx rfl (pc0 := 18) (pc' := 25) rfl (hb hby d2_18) rfl (tlt hc3).1 (by decide) (by decide) k
        exact b2_25 C X0 e0 N0 (by show cells ≤ 0; omega) (by show slots ≤ 0; omega) Z1 KE (by omega) q_a1 x1 x2 x3 x4 y5 x7 (x1 + x7) A_a1_0 hr
      · refine Runs.via (T' := T0) (g' := (mkF m 21 #[.val (.ref a1), .val (.int x1), .val (.int x2), .val (.int x3), .val (.int x4), .val (.long y5), .second, .val (.int x7), .unset, .unset, .unset] [(.int (x1 + x7))])) (fun t k => ?_) ?_
        · show Steps p.tables e below (T0.setTop (mkF m 18 #[.val (.ref a1), .val (.int x1), .val (.int x2), .val (.int x3), .val (.int x4), .val (.long y5), .second, .val (.int x7), .unset, .unset, .unset] [(.int x4), (.int x7), (.int (x1 + x7))])) t
          exact XS.icmpNo X0.here hx rfl (hb hby d2_18) rfl (flt hc3).1 k
        refine Runs.via (T' := T0) (g' := (mkF m 26 #[.val (.ref a1), .val (.int x1), .val (.int x2), .val (.int x3), .val (.int x4), .val (.long y5), .second, .val (.int x7), .unset, .unset, .unset] [(.int (1 : Int32)), (.int (x1 + x7))])) (fun t k => ?_) ?_
        · show Steps p.tables e below (T0.setTop (mkF m 21 #[.val (.ref a1), .val (.int x1), .val (.int x2), .val (.int x3), .val (.int x4), .val (.long y5), .second, .val (.int x7), .unset, .unset, .unset] [(.int (x1 + x7))])) t
          refine XS.iconst X0.here hx rfl (hb hby d2_21) ?_
          show Steps p.tables e below (T0.setTop (mkF m 22 #[.val (.ref a1), .val (.int x1), .val (.int x2), .val (.int x3), .val (.int x4), .val (.long y5), .second, .val (.int x7), .unset, .unset, .unset] [(.int (1 : Int32)), (.int (x1 + x7))])) t
          refine XS.goto X0.here hx rfl (pc0 := 22) (pc' := 26) rfl (hb hby d2_22) (by decide) (by decide) ?_
          exact k
        exact b2_26 C X0 e0 N0 (by show cells ≤ 0; omega) (by show slots ≤ 0; omega) Z1 KE (by omega) q_a1 x1 x2 x3 x4 y5 x7 (1 : Int32) (x1 + x7) A_a1_0 hr
  · refine Runs.via (T' := T0) (g' := (mkF m 58 #[.val (.ref a1), .val (.int x1), .val (.int x2), .val (.int x3), .val (.int x4), .val (.long y5), .second, .val (.int x7), .unset, .unset, .unset] [])) (fun t k => ?_) ?_
    · show Steps p.tables e below (T0.setTop (mkF m 3 #[.val (.ref a1), .val (.int x1), .val (.int x2), .val (.int x3), .val (.int x4), .val (.long y5), .second, .val (.int x7), .unset, .unset, .unset] [(.int x2), (.int x7)])) t
      exact XS.icmpYes X0.here hx rfl (pc0 := 3) (pc' := 58) rfl (hb hby d2_3) rfl (flt hc1).2.1 (by decide) (by decide) k
    obtain rfl := Option.some.inj hr
    exact own_retV X0 hx hlk hret (hb hby d2_58) (by show cells ≤ 0; omega) (by show slots ≤ 0; omega) ⟨rfl, N0, (by rw [e0]; exact KE), (by rw [e0]; exact A_a1_0)⟩
def f2 (x1 : Int32) (x2 : Int32) (x3 : Int32) (x4 : Int32) (y5 : Int64) (x7 : Int32) (q_a1 : List Int32) : Option (List Int32) := g2_0 x1 x2 x3 x4 y5 x7 q_a1
theorem pn_2 : plainName "com/example/notewright/notewright/DecimalsUnscaledPinLaw" = true := by first | (simp [plainName, overriddenIn]; done) | decide +kernel
theorem ef_2 (m : MethodId) (x1 : Int32) (x2 : Int32) (x3 : Int32) (x4 : Int32) (y5 : Int64) (x7 : Int32) (a1 : Addr) : entryFrame m #[(.ref a1), (.int x1), (.int x2), (.int x3), (.int x4), (.long y5), (.int x7)] 11 = mkF m 0 #[.val (.ref a1), .val (.int x1), .val (.int x2), .val (.int x3), .val (.int x4), .val (.long y5), .second, .val (.int x7), .unset, .unset, .unset] [] := by first | (simp [entryFrame, mkF, argsToLocals, Value.category]; done) | rfl
set_option maxRecDepth 65536 in
set_option maxHeartbeats 4000000 in
theorem rm2 (l : Launch) (Z : State) (a0 : Array Value) (hw : ∀ d ∈ tables_1, d.before a0 Z = true) (ws : List Jvm.Cond) (x1 : Int32) (x2 : Int32) (x3 : Int32) (x4 : Int32) (y5 : Int64) (x7 : Int32) (a1 : Addr) (q_a1 : List Int32) (hE : Heap) (n0 : Nat) (Z0 : n0 ≤ hE.size) (o0 : n0 ≤ a1) (A_a1_0 : AI Z hE a1 .byte q_a1) (r : List Int32) (hr : f2 x1 x2 x3 x4 y5 x7 q_a1 = some r) :
    MetFree l (⟨"com/example/notewright/notewright/DecimalsUnscaledPinLaw", "put", "([BIIZIJI)V"⟩ : MethodName) (head1 (Jvm.Cond.code (⟨"com/example/notewright/notewright/DecimalsUnscaledPinLaw", "put", "([BIIZIJI)V"⟩ : MethodName) method_3_code 11 none :: ws) ({ frames := 1, cells := 0, slots := 0, locals := 16 } : Room)) (fun a U => a = #[(.ref a1), (.int x1), (.int x2), (.int x3), (.int x4), (.long y5), (.int x7)] ∧ Z.Warmed39 U.vm ∧ U.heap = hE) (fun _ _ _ _ _ => True) (fun _ U o U' => ∃ v L, o = .returned v ∧ (P2 Z hE a1 q_a1 n0 r v U'.heap L) ∧ FrameEnd U o U' L ({ frames := 1, cells := 0, slots := 0, locals := 16 } : Room).cells ({ frames := 1, cells := 0, slots := 0, locals := 16 } : Room).slots) := by
  refine MetFree.of_bodySF (plainFor_of_name pn_2) hisR ?_
  intro p e s m args below meth c s₁ Bd hml0 hP hK
  obtain ⟨rfl, hZ, hh⟩ := hP
  have X0 : Stand p l e ({ frames := 1, cells := 0, slots := 0, locals := 16 } : Room) s m #[(.ref a1), (.int x1), (.int x2), (.int x3), (.int x4), (.long y5), (.int x7)] below meth c s₁ [] 0 0 := Stand.of_body Bd
  have e0 : s₁.heap = hE := by rw [← hh, Bd.state]; rfl
  have C : Ctx p s m meth c Z a0 "com/example/notewright/notewright/DecimalsUnscaledPinLaw" method_3_code 11 none "put" := ⟨Bd.exec, hZ, hw, Bd.bytes, hml0, findClass_of_methodNamed Bd.named, Bd.returns, BodyLoose.notSynchronized Bd, (name_of_methodNamed Bd.named Bd.method).1⟩
  refine Runs.via (fun t k => castTop (ef_2 m x1 x2 x3 x4 y5 x7 a1) k) (b2_0 C X0 e0 (Fr.nil n0) (by show 0 ≤ 0; omega) (by show 0 ≤ 0; omega) Z0 (Keep.refl hE [a1]) (by omega) q_a1 x1 x2 x3 x4 y5 x7 A_a1_0 hr)
theorem pd_1 : parseMethodDescriptor "([BIIZIJI)V" = some ⟨[(.array .byte), .int, .int, .boolean, .int, .long, .int], none⟩ := by decide +kernel
theorem d3_0 : decode prog_7_method_5_code 0 = .ok (.lconst 0, 1) := by decide +kernel
theorem d3_1 : decode prog_7_method_5_code 1 = .ok (.lstore_n 3, 1) := by decide +kernel
theorem d3_2 : decode prog_7_method_5_code 2 = .ok (.iload_n 1, 1) := by decide +kernel
theorem d3_3 : decode prog_7_method_5_code 3 = .ok (.istore 5, 2) := by decide +kernel
theorem d3_5 : decode prog_7_method_5_code 5 = .ok (.iload 5, 2) := by decide +kernel
theorem d3_7 : decode prog_7_method_5_code 7 = .ok (.iload_n 2, 1) := by decide +kernel
theorem d3_8 : decode prog_7_method_5_code 8 = .ok (.if_icmp .ge 35, 3) := by decide +kernel
theorem d3_11 : decode prog_7_method_5_code 11 = .ok (.aload_n 0, 1) := by decide +kernel
theorem d3_12 : decode prog_7_method_5_code 12 = .ok (.iload 5, 2) := by decide +kernel
theorem d3_14 : decode prog_7_method_5_code 14 = .ok (.baload, 1) := by decide +kernel
theorem d3_15 : decode prog_7_method_5_code 15 = .ok (.istore 6, 2) := by decide +kernel
theorem d3_17 : decode prog_7_method_5_code 17 = .ok (.iload 6, 2) := by decide +kernel
theorem d3_19 : decode prog_7_method_5_code 19 = .ok (.bipush 46, 2) := by decide +kernel
theorem d3_21 : decode prog_7_method_5_code 21 = .ok (.if_icmp .eq 16, 3) := by decide +kernel
theorem d3_24 : decode prog_7_method_5_code 24 = .ok (.lload_n 3, 1) := by decide +kernel
theorem d3_25 : decode prog_7_method_5_code 25 = .ok (.ldc2_w 52, 3) := by decide +kernel
theorem d3_28 : decode prog_7_method_5_code 28 = .ok (.lmul, 1) := by decide +kernel
theorem d3_29 : decode prog_7_method_5_code 29 = .ok (.iload 6, 2) := by decide +kernel
theorem d3_31 : decode prog_7_method_5_code 31 = .ok (.bipush 48, 2) := by decide +kernel
theorem d3_33 : decode prog_7_method_5_code 33 = .ok (.isub, 1) := by decide +kernel
theorem d3_34 : decode prog_7_method_5_code 34 = .ok (.i2l, 1) := by decide +kernel
theorem d3_35 : decode prog_7_method_5_code 35 = .ok (.ladd, 1) := by decide +kernel
theorem d3_36 : decode prog_7_method_5_code 36 = .ok (.lstore_n 3, 1) := by decide +kernel
theorem d3_37 : decode prog_7_method_5_code 37 = .ok (.iinc 5 1, 3) := by decide +kernel
theorem d3_40 : decode prog_7_method_5_code 40 = .ok (.goto (-35), 3) := by decide +kernel
theorem d3_43 : decode prog_7_method_5_code 43 = .ok (.lload_n 3, 1) := by decide +kernel
theorem d3_44 : decode prog_7_method_5_code 44 = .ok (.lreturn, 1) := by decide +kernel
def P3 (Z : State) (hE : Heap) (a1 : Addr) (q_a1 : List Int32) (n0 : Nat) (r : Int64) (v : Option Value) (h : Heap) (L : List Loc) : Prop := v = some (.long r) ∧ Fr n0 L ∧ h = hE
def g3_37 (K5 : Int32 → Int64 → Int32 → List Int32 → Option (Int64)) (fuel : Nat) (x2 : Int32) (y3 : Int64) (x5 : Int32) (q_a1 : List Int32) : Option (Int64) := (K5 x2 y3 (x5 + (1 : Int32)) q_a1)
set_option maxRecDepth 65536 in
set_option maxHeartbeats 4000000 in
theorem b3_37 {hE : Heap} {a1 : Addr} {q_a1 : List Int32} {r : Int64} (C : Ctx p s m meth c Z a0 "com/example/notewright/notewright/Decimals" prog_7_method_5_code 7 (some .long) "unscaled") (fuel : Nat) (K5 : Int32 → Int64 → Int32 → List Int32 → Option (Int64)) (hK5 : ∀ {T0 : State} {locs : List Loc} {cells slots : Nat} (X0 : Stand p l e ({ frames := 0, cells := 0, slots := 0, locals := 0 } : Room) s m args below meth c T0 locs cells slots) (e0 : T0.heap = hE) (N0 : Fr n0 locs) (hk : cells ≤ 0) (hn : slots ≤ 0) (Z1 : n0 ≤ hE.size) (o0 : n0 ≤ a1) (x1 : Int32) (x2 : Int32) (y3 : Int64) (x5 : Int32) (x6 : Int32) (A_a1_0 : AI Z hE a1 .byte q_a1), K5 x2 y3 x5 q_a1 = some r → Runs p e below s (P3 Z hE a1 q_a1 n0 r) 0 0 T0 (mkF m 5 #[.val (.ref a1), .val (.int x1), .val (.int x2), .val (.long y3), .second, .val (.int x5), .val (.int x6)] [])) (X0 : Stand p l e ({ frames := 0, cells := 0, slots := 0, locals := 0 } : Room) s m args below meth c T0 locs cells slots) (e0 : T0.heap = hE) (N0 : Fr n0 locs) (hk : cells ≤ 0) (hn : slots ≤ 0) (Z1 : n0 ≤ hE.size) (o0 : n0 ≤ a1) (x1 : Int32) (x2 : Int32) (y3 : Int64) (x5 : Int32) (x6 : Int32) (A_a1_0 : AI Z hE a1 .byte q_a1) (hr : g3_37 K5 fuel x2 y3 x5 q_a1 = some r) :
    Runs p e below s (P3 Z hE a1 q_a1 n0 r) 0 0 T0 (mkF m 37 #[.val (.ref a1), .val (.int x1), .val (.int x2), .val (.long y3), .second, .val (.int x5), .val (.int x6)] []) := by
  unfold g3_37 at hr
  have ⟨hx, hZ, hw, hby, hml, hown, hret, hlk, hnm⟩ := C
  refine Runs.via (T' := T0) (g' := (mkF m 5 #[.val (.ref a1), .val (.int x1), .val (.int x2), .val (.long y3), .second, .val (.int (x5 + (1 : Int32))), .val (.int x6)] [])) (fun t k => ?_) ?_
  · show Steps p.tables e below (T0.setTop (mkF m 37 #[.val (.ref a1), .val (.int x1), .val (.int x2), .val (.long y3), .second, .val (.int x5), .val (.int x6)] [])) t
    refine XS.iinc X0.here hx rfl (hb hby d3_37) rfl (l' := #[.val (.ref a1), .val (.int x1), .val (.int x2), .val (.long y3), .second, .val (.int (x5 + (1 : Int32))), .val (.int x6)]) rfl ?_
    show Steps p.tables e below (T0.setTop (mkF m 40 #[.val (.ref a1), .val (.int x1), .val (.int x2), .val (.long y3), .second, .val (.int (x5 + (1 : Int32))), .val (.int x6)] [])) t
    refine XS.goto X0.here hx rfl (pc0 := 40) (pc' := 5) rfl (hb hby d3_40) (by decide) (by decide) ?_
    exact k
  exact hK5 X0 e0 N0 (by show cells ≤ 0; omega) (by show slots ≤ 0; omega) Z1 (by omega) x1 x2 y3 (x5 + (1 : Int32)) x6 A_a1_0 hr
def s3_5 (K5 : Int32 → Int64 → Int32 → List Int32 → Option (Int64)) (fuel : Nat) (x2 : Int32) (y3 : Int64) (x5 : Int32) (q_a1 : List Int32) : Option (Int64) := (if x5 < x2 then ((rdO q_a1 x5).bind fun v2 => (if v2 = (46 : Int32) then (g3_37 K5 fuel x2 y3 x5 q_a1) else (letO ((y3 * (10 : Int64)) + (Int32.toInt64 (v2 - (48 : Int32)))) fun v4 => (g3_37 K5 fuel x2 v4 x5 q_a1)))) else some y3)
def h3_5 (fuel : Nat) : Nat → Int32 → Int64 → Int32 → List Int32 → Option (Int64)
  | 0 => fun _ _ _ _ => none
  | n + 1 => fun x2 y3 x5 q_a1 => s3_5 (h3_5 fuel n) fuel x2 y3 x5 q_a1
def g3_5 (fuel : Nat) (x2 : Int32) (y3 : Int64) (x5 : Int32) (q_a1 : List Int32) : Option (Int64) := h3_5 fuel fuel x2 y3 x5 q_a1
set_option maxRecDepth 65536 in
set_option maxHeartbeats 4000000 in
theorem t3_5w1 {hE : Heap} {a1 : Addr} {q_a1 : List Int32} (fuel : Nat) {r : Int64} (C : Ctx p s m meth c Z a0 "com/example/notewright/notewright/Decimals" prog_7_method_5_code 7 (some .long) "unscaled") (K5 : Int32 → Int64 → Int32 → List Int32 → Option (Int64)) (hK5 : ∀ {T0 : State} {locs : List Loc} {cells slots : Nat} (X0 : Stand p l e ({ frames := 0, cells := 0, slots := 0, locals := 0 } : Room) s m args below meth c T0 locs cells slots) (e0 : T0.heap = hE) (N0 : Fr n0 locs) (hk : cells ≤ 0) (hn : slots ≤ 0) (Z1 : n0 ≤ hE.size) (o0 : n0 ≤ a1) (x1 : Int32) (x2 : Int32) (y3 : Int64) (x5 : Int32) (x6 : Int32) (A_a1_0 : AI Z hE a1 .byte q_a1), K5 x2 y3 x5 q_a1 = some r → Runs p e below s (P3 Z hE a1 q_a1 n0 r) 0 0 T0 (mkF m 5 #[.val (.ref a1), .val (.int x1), .val (.int x2), .val (.long y3), .second, .val (.int x5), .val (.int x6)] [])) (X0 : Stand p l e ({ frames := 0, cells := 0, slots := 0, locals := 0 } : Room) s m args below meth c T0 locs cells slots) (e0 : T0.heap = hE) (N0 : Fr n0 locs) (hk : cells ≤ 0) (hn : slots ≤ 0) (Z1 : n0 ≤ hE.size) (o0 : n0 ≤ a1) (x1 : Int32) (x2 : Int32) (y3 : Int64) (x5 : Int32) (x6 : Int32) (A_a1_0 : AI Z hE a1 .byte q_a1) (hr : s3_5 K5 fuel x2 y3 x5 q_a1 = some r) :
    Runs p e below s (P3 Z hE a1 q_a1 n0 r) 0 0 T0 (mkF m 5 #[.val (.ref a1), .val (.int x1), .val (.int x2), .val (.long y3), .second, .val (.int x5), .val (.int x6)] []) := by
  unfold s3_5 at hr
  have ⟨hx, hZ, hw, hby, hml, hown, hret, hlk, hnm⟩ := C
  refine Runs.via (T' := T0) (g' := (mkF m 8 #[.val (.ref a1), .val (.int x1), .val (.int x2), .val (.long y3), .second, .val (.int x5), .val (.int x6)] [(.int x2), (.int x5)])) (fun t k => ?_) ?_
  · show Steps p.tables e below (T0.setTop (mkF m 5 #[.val (.ref a1), .val (.int x1), .val (.int x2), .val (.long y3), .second, .val (.int x5), .val (.int x6)] [])) t
    refine XS.iload X0.here hx rfl (hb hby d3_5) rfl ?_
    show Steps p.tables e below (T0.setTop (mkF m 7 #[.val (.ref a1), .val (.int x1), .val (.int x2), .val (.long y3), .second, .val (.int x5), .val (.int x6)] [(.int x5)])) t
    refine XS.iloadN X0.here hx rfl (hb hby d3_7) rfl ?_
    exact k
  refine iteE hr (fun hc1 hr => ?_) (fun hc1 hr => ?_)
  · refine Runs.via (T' := T0) (g' := (mkF m 11 #[.val (.ref a1), .val (.int x1), .val (.int x2), .val (.long y3), .second, .val (.int x5), .val (.int x6)] [])) (fun t k => ?_) ?_
    · show Steps p.tables e below (T0.setTop (mkF m 8 #[.val (.ref a1), .val (.int x1), .val (.int x2), .val (.long y3), .second, .val (.int x5), .val (.int x6)] [(.int x2), (.int x5)])) t
      exact XS.icmpNo X0.here hx rfl (hb hby d3_8) rfl (tlt hc1).2.1 k
    refine Runs.via (T' := T0) (g' := (mkF m 14 #[.val (.ref a1), .val (.int x1), .val (.int x2), .val (.long y3), .second, .val (.int x5), .val (.int x6)] [(.int x5), (.ref a1)])) (fun t k => ?_) ?_
    · show Steps p.tables e below (T0.setTop (mkF m 11 #[.val (.ref a1), .val (.int x1), .val (.int x2), .val (.long y3), .second, .val (.int x5), .val (.int x6)] [])) t
      refine XS.aloadN X0.here hx rfl (hb hby d3_11) rfl rfl ?_
      show Steps p.tables e below (T0.setTop (mkF m 12 #[.val (.ref a1), .val (.int x1), .val (.int x2), .val (.long y3), .second, .val (.int x5), .val (.int x6)] [(.ref a1)])) t
      refine XS.iload X0.here hx rfl (hb hby d3_12) rfl ?_
      exact k
    refine bindE hr ?_; intro v2 hv2 hr
    refine Runs.via (T' := T0) (g' := (mkF m 15 #[.val (.ref a1), .val (.int x1), .val (.int x2), .val (.long y3), .second, .val (.int x5), .val (.int x6)] [(.int v2)])) (fun t k => ldB X0 hx hZ e0 A_a1_0 hv2 (g := (mkF m 14 #[.val (.ref a1), .val (.int x1), .val (.int x2), .val (.long y3), .second, .val (.int x5), .val (.int x6)] [(.int x5), (.ref a1)])) rfl rfl (hb hby d3_14) _ k) ?_
    refine Runs.via (T' := T0) (g' := (mkF m 21 #[.val (.ref a1), .val (.int x1), .val (.int x2), .val (.long y3), .second, .val (.int x5), .val (.int v2)] [(.int (46 : Int32)), (.int v2)])) (fun t k => ?_) ?_
    · show Steps p.tables e below (T0.setTop (mkF m 15 #[.val (.ref a1), .val (.int x1), .val (.int x2), .val (.long y3), .second, .val (.int x5), .val (.int x6)] [(.int v2)])) t
      refine XS.istore X0.here hx rfl (hb hby d3_15) rfl (l' := #[.val (.ref a1), .val (.int x1), .val (.int x2), .val (.long y3), .second, .val (.int x5), .val (.int v2)]) rfl ?_
      show Steps p.tables e below (T0.setTop (mkF m 17 #[.val (.ref a1), .val (.int x1), .val (.int x2), .val (.long y3), .second, .val (.int x5), .val (.int v2)] [])) t
      refine XS.iload X0.here hx rfl (hb hby d3_17) rfl ?_
      show Steps p.tables e below (T0.setTop (mkF m 19 #[.val (.ref a1), .val (.int x1), .val (.int x2), .val (.long y3), .second, .val (.int x5), .val (.int v2)] [(.int v2)])) t
      refine XS.bipush X0.here hx rfl (hb hby d3_19) ?_
      exact k
    refine iteE hr (fun hc3 hr => ?_) (fun hc3 hr => ?_)
    · refine Runs.via (T' := T0) (g' := (mkF m 37 #[.val (.ref a1), .val (.int x1), .val (.int x2), .val (.long y3), .second, .val (.int x5), .val (.int v2)] [])) (fun t k => ?_) ?_
      · show Steps p.tables e below (T0.setTop (mkF m 21 #[.val (.ref a1), .val (.int x1), .val (.int x2), .val (.long y3), .second, .val (.int x5), .val (.int v2)] [(.int (46 : Int32)), (.int v2)])) t
        exact XS.icmpYes X0.here hx rfl (pc0 := 21) (pc' := 37) rfl (hb hby d3_21) rfl (teq hc3).1 (by decide) (by decide) k
      exact b3_37 C fuel K5 hK5 X0 e0 N0 (by show cells ≤ 0; omega) (by show slots ≤ 0; omega) Z1 (by omega) x1 x2 y3 x5 v2 A_a1_0 hr
    · refine Runs.via (T' := T0) (g' := (mkF m 24 #[.val (.ref a1), .val (.int x1), .val (.int x2), .val (.long y3), .second, .val (.int x5), .val (.int v2)] [])) (fun t k => ?_) ?_
      · show Steps p.tables e below (T0.setTop (mkF m 21 #[.val (.ref a1), .val (.int x1), .val (.int x2), .val (.long y3), .second, .val (.int x5), .val (.int v2)] [(.int (46 : Int32)), (.int v2)])) t
        exact XS.icmpNo X0.here hx rfl (hb hby d3_21) rfl (feq hc3).1 k
      refine Runs.via (T' := T0) (g' := (mkF m 36 #[.val (.ref a1), .val (.int x1), .val (.int x2), .val (.long y3), .second, .val (.int x5), .val (.int v2)] [(.long ((y3 * (10 : Int64)) + (Int32.toInt64 (v2 - (48 : Int32)))))])) (fun t k => ?_) ?_
      · show Steps p.tables e below (T0.setTop (mkF m 24 #[.val (.ref a1), .val (.int x1), .val (.int x2), .val (.long y3), .second, .val (.int x5), .val (.int v2)] [])) t
        refine XS.lloadN X0.here hx rfl (hb hby d3_24) rfl ?_
        show Steps p.tables e below (T0.setTop (mkF m 25 #[.val (.ref a1), .val (.int x1), .val (.int x2), .val (.long y3), .second, .val (.int x5), .val (.int v2)] [(.long y3)])) t
        refine X0.ldc2Long hx hown (mvT hZ (hw _ (List.mem_of_getElem? (i := 16) rfl))) (g := (mkF m 25 #[.val (.ref a1), .val (.int x1), .val (.int x2), .val (.long y3), .second, .val (.int x5), .val (.int v2)] [(.long y3)])) rfl (hb hby d3_25) _ ?_
        show Steps p.tables e below (T0.setTop (mkF m 28 #[.val (.ref a1), .val (.int x1), .val (.int x2), .val (.long y3), .second, .val (.int x5), .val (.int v2)] [(.long (10 : Int64)), (.long y3)])) t
        refine XS.lmul X0.here hx rfl (hb hby d3_28) rfl ?_
        show Steps p.tables e below (T0.setTop (mkF m 29 #[.val (.ref a1), .val (.int x1), .val (.int x2), .val (.long y3), .second, .val (.int x5), .val (.int v2)] [(.long (y3 * (10 : Int64)))])) t
        refine XS.iload X0.here hx rfl (hb hby d3_29) rfl ?_
        show Steps p.tables e below (T0.setTop (mkF m 31 #[.val (.ref a1), .val (.int x1), .val (.int x2), .val (.long y3), .second, .val (.int x5), .val (.int v2)] [(.int v2), (.long (y3 * (10 : Int64)))])) t
        refine XS.bipush X0.here hx rfl (hb hby d3_31) ?_
        show Steps p.tables e below (T0.setTop (mkF m 33 #[.val (.ref a1), .val (.int x1), .val (.int x2), .val (.long y3), .second, .val (.int x5), .val (.int v2)] [(.int (48 : Int32)), (.int v2), (.long (y3 * (10 : Int64)))])) t
        refine XS.isub X0.here hx rfl (hb hby d3_33) rfl ?_
        show Steps p.tables e below (T0.setTop (mkF m 34 #[.val (.ref a1), .val (.int x1), .val (.int x2), .val (.long y3), .second, .val (.int x5), .val (.int v2)] [(.int (v2 - (48 : Int32))), (.long (y3 * (10 : Int64)))])) t
        refine XS.i2l X0.here hx rfl (hb hby d3_34) rfl ?_
        show Steps p.tables e below (T0.setTop (mkF m 35 #[.val (.ref a1), .val (.int x1), .val (.int x2), .val (.long y3), .second, .val (.int x5), .val (.int v2)] [(.long (Int32.toInt64 (v2 - (48 : Int32)))), (.long (y3 * (10 : Int64)))])) t
        refine XS.ladd X0.here hx rfl (hb hby d3_35) rfl ?_
        exact k
      refine letE hr ?_; intro v4 hv4 hr
      rw [← hv4]
      refine Runs.via (T' := T0) (g' := (mkF m 37 #[.val (.ref a1), .val (.int x1), .val (.int x2), .val (.long v4), .second, .val (.int x5), .val (.int v2)] [])) (fun t k => ?_) ?_
      · show Steps p.tables e below (T0.setTop (mkF m 36 #[.val (.ref a1), .val (.int x1), .val (.int x2), .val (.long y3), .second, .val (.int x5), .val (.int v2)] [(.long v4)])) t
        refine XS.lstoreN X0.here hx rfl (hb hby d3_36) rfl (l' := #[.val (.ref a1), .val (.int x1), .val (.int x2), .val (.long v4), .second, .val (.int x5), .val (.int v2)]) rfl ?_
        exact k
      exact b3_37 C fuel K5 hK5 X0 e0 N0 (by show cells ≤ 0; omega) (by show slots ≤ 0; omega) Z1 (by omega) x1 x2 v4 x5 v2 A_a1_0 hr
  · refine Runs.via (T' := T0) (g' := (mkF m 43 #[.val (.ref a1), .val (.int x1), .val (.int x2), .val (.long y3), .second, .val (.int x5), .val (.int x6)] [])) (fun t k => ?_) ?_
    · show Steps p.tables e below (T0.setTop (mkF m 8 #[.val (.ref a1), .val (.int x1), .val (.int x2), .val (.long y3), .second, .val (.int x5), .val (.int x6)] [(.int x2), (.int x5)])) t
      exact XS.icmpYes X0.here hx rfl (pc0 := 8) (pc' := 43) rfl (hb hby d3_8) rfl (flt hc1).2.1 (by decide) (by decide) k
    refine Runs.via (T' := T0) (g' := (mkF m 44 #[.val (.ref a1), .val (.int x1), .val (.int x2), .val (.long y3), .second, .val (.int x5), .val (.int x6)] [(.long y3)])) (fun t k => ?_) ?_
    · show Steps p.tables e below (T0.setTop (mkF m 43 #[.val (.ref a1), .val (.int x1), .val (.int x2), .val (.long y3), .second, .val (.int x5), .val (.int x6)] [])) t
      refine XS.lloadN X0.here hx rfl (hb hby d3_43) rfl ?_
      exact k
    obtain rfl := Option.some.inj hr
    exact own_retJ X0 hx hlk hret (hb hby d3_44) (by show cells ≤ 0; omega) (by show slots ≤ 0; omega) ⟨rfl, N0, e0⟩
set_option maxRecDepth 65536 in
set_option maxHeartbeats 4000000 in
theorem u3_5w1 {hE : Heap} {a1 : Addr} {q_a1 : List Int32} (fuel : Nat) {r : Int64} (C : Ctx p s m meth c Z a0 "com/example/notewright/notewright/Decimals" prog_7_method_5_code 7 (some .long) "unscaled") : ∀ n : Nat, ∀ {T0 : State} {locs : List Loc} {cells slots : Nat} (X0 : Stand p l e ({ frames := 0, cells := 0, slots := 0, locals := 0 } : Room) s m args below meth c T0 locs cells slots) (e0 : T0.heap = hE) (N0 : Fr n0 locs) (hk : cells ≤ 0) (hn : slots ≤ 0) (Z1 : n0 ≤ hE.size) (o0 : n0 ≤ a1) (x1 : Int32) (x2 : Int32) (y3 : Int64) (x5 : Int32) (x6 : Int32) (A_a1_0 : AI Z hE a1 .byte q_a1), h3_5 fuel n x2 y3 x5 q_a1 = some r → Runs p e below s (P3 Z hE a1 q_a1 n0 r) 0 0 T0 (mkF m 5 #[.val (.ref a1), .val (.int x1), .val (.int x2), .val (.long y3), .second, .val (.int x5), .val (.int x6)] []) := by
  intro n
  induction n with
  | zero => intros; rename_i hr; exact absurd hr (by simp [h3_5])
  | succ n ih =>
    intro T0 locs cells slots X0 e0 N0 hk hn Z1 o0 x1 x2 y3 x5 x6 A_a1_0 hr
    exact t3_5w1 fuel C _ ih X0 e0 N0 hk hn Z1 o0 x1 x2 y3 x5 x6 A_a1_0 hr
set_option maxRecDepth 65536 in
set_option maxHeartbeats 4000000 in
theorem b3_5w1 {hE : Heap} {a1 : Addr} {q_a1 : List Int32} {r : Int64} (C : Ctx p s m meth c Z a0 "com/example/notewright/notewright/Decimals" prog_7_method_5_code 7 (some .long) "unscaled") (fuel : Nat) (X0 : Stand p l e ({ frames := 0, cells := 0, slots := 0, locals := 0 } : Room) s m args below meth c T0 locs cells slots) (e0 : T0.heap = hE) (N0 : Fr n0 locs) (hk : cells ≤ 0) (hn : slots ≤ 0) (Z1 : n0 ≤ hE.size) (o0 : n0 ≤ a1) (x1 : Int32) (x2 : Int32) (y3 : Int64) (x5 : Int32) (x6 : Int32) (A_a1_0 : AI Z hE a1 .byte q_a1) (hr : g3_5 fuel x2 y3 x5 q_a1 = some r) :
    Runs p e below s (P3 Z hE a1 q_a1 n0 r) 0 0 T0 (mkF m 5 #[.val (.ref a1), .val (.int x1), .val (.int x2), .val (.long y3), .second, .val (.int x5), .val (.int x6)] []) := u3_5w1 fuel C fuel X0 e0 N0 hk hn Z1 o0 x1 x2 y3 x5 x6 A_a1_0 hr
set_option maxRecDepth 65536 in
set_option maxHeartbeats 4000000 in
theorem t3_5 {hE : Heap} {a1 : Addr} {q_a1 : List Int32} (fuel : Nat) {r : Int64} (C : Ctx p s m meth c Z a0 "com/example/notewright/notewright/Decimals" prog_7_method_5_code 7 (some .long) "unscaled") (K5 : Int32 → Int64 → Int32 → List Int32 → Option (Int64)) (hK5 : ∀ {T0 : State} {locs : List Loc} {cells slots : Nat} (X0 : Stand p l e ({ frames := 0, cells := 0, slots := 0, locals := 0 } : Room) s m args below meth c T0 locs cells slots) (e0 : T0.heap = hE) (N0 : Fr n0 locs) (hk : cells ≤ 0) (hn : slots ≤ 0) (Z1 : n0 ≤ hE.size) (o0 : n0 ≤ a1) (x1 : Int32) (x2 : Int32) (y3 : Int64) (x5 : Int32) (x6 : Int32) (A_a1_0 : AI Z hE a1 .byte q_a1), K5 x2 y3 x5 q_a1 = some r → Runs p e below s (P3 Z hE a1 q_a1 n0 r) 0 0 T0 (mkF m 5 #[.val (.ref a1), .val (.int x1), .val (.int x2), .val (.long y3), .second, .val (.int x5), .val (.int x6)] [])) (X0 : Stand p l e ({ frames := 0, cells := 0, slots := 0, locals := 0 } : Room) s m args below meth c T0 locs cells slots) (e0 : T0.heap = hE) (N0 : Fr n0 locs) (hk : cells ≤ 0) (hn : slots ≤ 0) (Z1 : n0 ≤ hE.size) (o0 : n0 ≤ a1) (x1 : Int32) (x2 : Int32) (y3 : Int64) (x5 : Int32) (A_a1_0 : AI Z hE a1 .byte q_a1) (hr : s3_5 K5 fuel x2 y3 x5 q_a1 = some r) :
    Runs p e below s (P3 Z hE a1 q_a1 n0 r) 0 0 T0 (mkF m 5 #[.val (.ref a1), .val (.int x1), .val (.int x2), .val (.long y3), .second, .val (.int x5), .unset] []) := by
  unfold s3_5 at hr
  have ⟨hx, hZ, hw, hby, hml, hown, hret, hlk, hnm⟩ := C
  refine Runs.via (T' := T0) (g' := (mkF m 8 #[.val (.ref a1), .val (.int x1), .val (.int x2), .val (.long y3), .second, .val (.int x5), .unset] [(.int x2), (.int x5)])) (fun t k => ?_) ?_
  · show Steps p.tables e below (T0.setTop (mkF m 5 #[.val (.ref a1), .val (.int x1), .val (.int x2), .val (.long y3), .second, .val (.int x5), .unset] [])) t
    refine XS.iload X0.here hx rfl (hb hby d3_5) rfl ?_
    show Steps p.tables e below (T0.setTop (mkF m 7 #[.val (.ref a1), .val (.int x1), .val (.int x2), .val (.long y3), .second, .val (.int x5), .unset] [(.int x5)])) t
    refine XS.iloadN X0.here hx rfl (hb hby d3_7) rfl ?_
    exact k
  refine iteE hr (fun hc1 hr => ?_) (fun hc1 hr => ?_)
  · refine Runs.via (T' := T0) (g' := (mkF m 11 #[.val (.ref a1), .val (.int x1), .val (.int x2), .val (.long y3), .second, .val (.int x5), .unset] [])) (fun t k => ?_) ?_
    · show Steps p.tables e below (T0.setTop (mkF m 8 #[.val (.ref a1), .val (.int x1), .val (.int x2), .val (.long y3), .second, .val (.int x5), .unset] [(.int x2), (.int x5)])) t
      exact XS.icmpNo X0.here hx rfl (hb hby d3_8) rfl (tlt hc1).2.1 k
    refine Runs.via (T' := T0) (g' := (mkF m 14 #[.val (.ref a1), .val (.int x1), .val (.int x2), .val (.long y3), .second, .val (.int x5), .unset] [(.int x5), (.ref a1)])) (fun t k => ?_) ?_
    · show Steps p.tables e below (T0.setTop (mkF m 11 #[.val (.ref a1), .val (.int x1), .val (.int x2), .val (.long y3), .second, .val (.int x5), .unset] [])) t
      refine XS.aloadN X0.here hx rfl (hb hby d3_11) rfl rfl ?_
      show Steps p.tables e below (T0.setTop (mkF m 12 #[.val (.ref a1), .val (.int x1), .val (.int x2), .val (.long y3), .second, .val (.int x5), .unset] [(.ref a1)])) t
      refine XS.iload X0.here hx rfl (hb hby d3_12) rfl ?_
      exact k
    refine bindE hr ?_; intro v2 hv2 hr
    refine Runs.via (T' := T0) (g' := (mkF m 15 #[.val (.ref a1), .val (.int x1), .val (.int x2), .val (.long y3), .second, .val (.int x5), .unset] [(.int v2)])) (fun t k => ldB X0 hx hZ e0 A_a1_0 hv2 (g := (mkF m 14 #[.val (.ref a1), .val (.int x1), .val (.int x2), .val (.long y3), .second, .val (.int x5), .unset] [(.int x5), (.ref a1)])) rfl rfl (hb hby d3_14) _ k) ?_
    refine Runs.via (T' := T0) (g' := (mkF m 21 #[.val (.ref a1), .val (.int x1), .val (.int x2), .val (.long y3), .second, .val (.int x5), .val (.int v2)] [(.int (46 : Int32)), (.int v2)])) (fun t k => ?_) ?_
    · show Steps p.tables e below (T0.setTop (mkF m 15 #[.val (.ref a1), .val (.int x1), .val (.int x2), .val (.long y3), .second, .val (.int x5), .unset] [(.int v2)])) t
      refine XS.istore X0.here hx rfl (hb hby d3_15) rfl (l' := #[.val (.ref a1), .val (.int x1), .val (.int x2), .val (.long y3), .second, .val (.int x5), .val (.int v2)]) rfl ?_
      show Steps p.tables e below (T0.setTop (mkF m 17 #[.val (.ref a1), .val (.int x1), .val (.int x2), .val (.long y3), .second, .val (.int x5), .val (.int v2)] [])) t
      refine XS.iload X0.here hx rfl (hb hby d3_17) rfl ?_
      show Steps p.tables e below (T0.setTop (mkF m 19 #[.val (.ref a1), .val (.int x1), .val (.int x2), .val (.long y3), .second, .val (.int x5), .val (.int v2)] [(.int v2)])) t
      refine XS.bipush X0.here hx rfl (hb hby d3_19) ?_
      exact k
    refine iteE hr (fun hc3 hr => ?_) (fun hc3 hr => ?_)
    · refine Runs.via (T' := T0) (g' := (mkF m 37 #[.val (.ref a1), .val (.int x1), .val (.int x2), .val (.long y3), .second, .val (.int x5), .val (.int v2)] [])) (fun t k => ?_) ?_
      · show Steps p.tables e below (T0.setTop (mkF m 21 #[.val (.ref a1), .val (.int x1), .val (.int x2), .val (.long y3), .second, .val (.int x5), .val (.int v2)] [(.int (46 : Int32)), (.int v2)])) t
        exact XS.icmpYes X0.here hx rfl (pc0 := 21) (pc' := 37) rfl (hb hby d3_21) rfl (teq hc3).1 (by decide) (by decide) k
      exact b3_37 C fuel K5 hK5 X0 e0 N0 (by show cells ≤ 0; omega) (by show slots ≤ 0; omega) Z1 (by omega) x1 x2 y3 x5 v2 A_a1_0 hr
    · refine Runs.via (T' := T0) (g' := (mkF m 24 #[.val (.ref a1), .val (.int x1), .val (.int x2), .val (.long y3), .second, .val (.int x5), .val (.int v2)] [])) (fun t k => ?_) ?_
      · show Steps p.tables e below (T0.setTop (mkF m 21 #[.val (.ref a1), .val (.int x1), .val (.int x2), .val (.long y3), .second, .val (.int x5), .val (.int v2)] [(.int (46 : Int32)), (.int v2)])) t
        exact XS.icmpNo X0.here hx rfl (hb hby d3_21) rfl (feq hc3).1 k
      refine Runs.via (T' := T0) (g' := (mkF m 36 #[.val (.ref a1), .val (.int x1), .val (.int x2), .val (.long y3), .second, .val (.int x5), .val (.int v2)] [(.long ((y3 * (10 : Int64)) + (Int32.toInt64 (v2 - (48 : Int32)))))])) (fun t k => ?_) ?_
      · show Steps p.tables e below (T0.setTop (mkF m 24 #[.val (.ref a1), .val (.int x1), .val (.int x2), .val (.long y3), .second, .val (.int x5), .val (.int v2)] [])) t
        refine XS.lloadN X0.here hx rfl (hb hby d3_24) rfl ?_
        show Steps p.tables e below (T0.setTop (mkF m 25 #[.val (.ref a1), .val (.int x1), .val (.int x2), .val (.long y3), .second, .val (.int x5), .val (.int v2)] [(.long y3)])) t
        refine X0.ldc2Long hx hown (mvT hZ (hw _ (List.mem_of_getElem? (i := 16) rfl))) (g := (mkF m 25 #[.val (.ref a1), .val (.int x1), .val (.int x2), .val (.long y3), .second, .val (.int x5), .val (.int v2)] [(.long y3)])) rfl (hb hby d3_25) _ ?_
        show Steps p.tables e below (T0.setTop (mkF m 28 #[.val (.ref a1), .val (.int x1), .val (.int x2), .val (.long y3), .second, .val (.int x5), .val (.int v2)] [(.long (10 : Int64)), (.long y3)])) t
        refine XS.lmul X0.here hx rfl (hb hby d3_28) rfl ?_
        show Steps p.tables e below (T0.setTop (mkF m 29 #[.val (.ref a1), .val (.int x1), .val (.int x2), .val (.long y3), .second, .val (.int x5), .val (.int v2)] [(.long (y3 * (10 : Int64)))])) t
        refine XS.iload X0.here hx rfl (hb hby d3_29) rfl ?_
        show Steps p.tables e below (T0.setTop (mkF m 31 #[.val (.ref a1), .val (.int x1), .val (.int x2), .val (.long y3), .second, .val (.int x5), .val (.int v2)] [(.int v2), (.long (y3 * (10 : Int64)))])) t
        refine XS.bipush X0.here hx rfl (hb hby d3_31) ?_
        show Steps p.tables e below (T0.setTop (mkF m 33 #[.val (.ref a1), .val (.int x1), .val (.int x2), .val (.long y3), .second, .val (.int x5), .val (.int v2)] [(.int (48 : Int32)), (.int v2), (.long (y3 * (10 : Int64)))])) t
        refine XS.isub X0.here hx rfl (hb hby d3_33) rfl ?_
        show Steps p.tables e below (T0.setTop (mkF m 34 #[.val (.ref a1), .val (.int x1), .val (.int x2), .val (.long y3), .second, .val (.int x5), .val (.int v2)] [(.int (v2 - (48 : Int32))), (.long (y3 * (10 : Int64)))])) t
        refine XS.i2l X0.here hx rfl (hb hby d3_34) rfl ?_
        show Steps p.tables e below (T0.setTop (mkF m 35 #[.val (.ref a1), .val (.int x1), .val (.int x2), .val (.long y3), .second, .val (.int x5), .val (.int v2)] [(.long (Int32.toInt64 (v2 - (48 : Int32)))), (.long (y3 * (10 : Int64)))])) t
        refine XS.ladd X0.here hx rfl (hb hby d3_35) rfl ?_
        exact k
      refine letE hr ?_; intro v4 hv4 hr
      rw [← hv4]
      refine Runs.via (T' := T0) (g' := (mkF m 37 #[.val (.ref a1), .val (.int x1), .val (.int x2), .val (.long v4), .second, .val (.int x5), .val (.int v2)] [])) (fun t k => ?_) ?_
      · show Steps p.tables e below (T0.setTop (mkF m 36 #[.val (.ref a1), .val (.int x1), .val (.int x2), .val (.long y3), .second, .val (.int x5), .val (.int v2)] [(.long v4)])) t
        refine XS.lstoreN X0.here hx rfl (hb hby d3_36) rfl (l' := #[.val (.ref a1), .val (.int x1), .val (.int x2), .val (.long v4), .second, .val (.int x5), .val (.int v2)]) rfl ?_
        exact k
      exact b3_37 C fuel K5 hK5 X0 e0 N0 (by show cells ≤ 0; omega) (by show slots ≤ 0; omega) Z1 (by omega) x1 x2 v4 x5 v2 A_a1_0 hr
  · refine Runs.via (T' := T0) (g' := (mkF m 43 #[.val (.ref a1), .val (.int x1), .val (.int x2), .val (.long y3), .second, .val (.int x5), .unset] [])) (fun t k => ?_) ?_
    · show Steps p.tables e below (T0.setTop (mkF m 8 #[.val (.ref a1), .val (.int x1), .val (.int x2), .val (.long y3), .second, .val (.int x5), .unset] [(.int x2), (.int x5)])) t
      exact XS.icmpYes X0.here hx rfl (pc0 := 8) (pc' := 43) rfl (hb hby d3_8) rfl (flt hc1).2.1 (by decide) (by decide) k
    refine Runs.via (T' := T0) (g' := (mkF m 44 #[.val (.ref a1), .val (.int x1), .val (.int x2), .val (.long y3), .second, .val (.int x5), .unset] [(.long y3)])) (fun t k => ?_) ?_
    · show Steps p.tables e below (T0.setTop (mkF m 43 #[.val (.ref a1), .val (.int x1), .val (.int x2), .val (.long y3), .second, .val (.int x5), .unset] [])) t
      refine XS.lloadN X0.here hx rfl (hb hby d3_43) rfl ?_
      exact k
    obtain rfl := Option.some.inj hr
    exact own_retJ X0 hx hlk hret (hb hby d3_44) (by show cells ≤ 0; omega) (by show slots ≤ 0; omega) ⟨rfl, N0, e0⟩
set_option maxRecDepth 65536 in
set_option maxHeartbeats 4000000 in
theorem b3_5 {hE : Heap} {a1 : Addr} {q_a1 : List Int32} {r : Int64} (C : Ctx p s m meth c Z a0 "com/example/notewright/notewright/Decimals" prog_7_method_5_code 7 (some .long) "unscaled") (fuel : Nat) (X0 : Stand p l e ({ frames := 0, cells := 0, slots := 0, locals := 0 } : Room) s m args below meth c T0 locs cells slots) (e0 : T0.heap = hE) (N0 : Fr n0 locs) (hk : cells ≤ 0) (hn : slots ≤ 0) (Z1 : n0 ≤ hE.size) (o0 : n0 ≤ a1) (x1 : Int32) (x2 : Int32) (y3 : Int64) (x5 : Int32) (A_a1_0 : AI Z hE a1 .byte q_a1) (hr : g3_5 fuel x2 y3 x5 q_a1 = some r) :
    Runs p e below s (P3 Z hE a1 q_a1 n0 r) 0 0 T0 (mkF m 5 #[.val (.ref a1), .val (.int x1), .val (.int x2), .val (.long y3), .second, .val (.int x5), .unset] []) := by
  cases hf : fuel with
  | zero => rw [hf] at hr; exact absurd hr (by simp [g3_5, h3_5])
  | succ n =>
    have hr2 : s3_5 (h3_5 fuel n) fuel x2 y3 x5 q_a1 = some r := by
      have := hr
      unfold g3_5 at this
      rw [hf] at this ⊢
      exact this
    exact t3_5 fuel C _ (u3_5w1 fuel C n) X0 e0 N0 hk hn Z1 o0 x1 x2 y3 x5 A_a1_0 hr2
def g3_0 (fuel : Nat) (x1 : Int32) (x2 : Int32) (q_a1 : List Int32) : Option (Int64) := (g3_5 fuel x2 (0 : Int64) x1 q_a1)
set_option maxRecDepth 65536 in
set_option maxHeartbeats 4000000 in
theorem b3_0 {hE : Heap} {a1 : Addr} {q_a1 : List Int32} {r : Int64} (C : Ctx p s m meth c Z a0 "com/example/notewright/notewright/Decimals" prog_7_method_5_code 7 (some .long) "unscaled") (fuel : Nat) (X0 : Stand p l e ({ frames := 0, cells := 0, slots := 0, locals := 0 } : Room) s m args below meth c T0 locs cells slots) (e0 : T0.heap = hE) (N0 : Fr n0 locs) (hk : cells ≤ 0) (hn : slots ≤ 0) (Z1 : n0 ≤ hE.size) (o0 : n0 ≤ a1) (x1 : Int32) (x2 : Int32) (A_a1_0 : AI Z hE a1 .byte q_a1) (hr : g3_0 fuel x1 x2 q_a1 = some r) :
    Runs p e below s (P3 Z hE a1 q_a1 n0 r) 0 0 T0 (mkF m 0 #[.val (.ref a1), .val (.int x1), .val (.int x2), .unset, .unset, .unset, .unset] []) := by
  unfold g3_0 at hr
  have ⟨hx, hZ, hw, hby, hml, hown, hret, hlk, hnm⟩ := C
  refine Runs.via (T' := T0) (g' := (mkF m 5 #[.val (.ref a1), .val (.int x1), .val (.int x2), .val (.long (0 : Int64)), .second, .val (.int x1), .unset] [])) (fun t k => ?_) ?_
  · show Steps p.tables e below (T0.setTop (mkF m 0 #[.val (.ref a1), .val (.int x1), .val (.int x2), .unset, .unset, .unset, .unset] [])) t
    refine XS.lconst X0.here hx rfl (hb hby d3_0) ?_
    show Steps p.tables e below (T0.setTop (mkF m 1 #[.val (.ref a1), .val (.int x1), .val (.int x2), .unset, .unset, .unset, .unset] [(.long (0 : Int64))])) t
    refine XS.lstoreN X0.here hx rfl (hb hby d3_1) rfl (l' := #[.val (.ref a1), .val (.int x1), .val (.int x2), .val (.long (0 : Int64)), .second, .unset, .unset]) rfl ?_
    show Steps p.tables e below (T0.setTop (mkF m 2 #[.val (.ref a1), .val (.int x1), .val (.int x2), .val (.long (0 : Int64)), .second, .unset, .unset] [])) t
    refine XS.iloadN X0.here hx rfl (hb hby d3_2) rfl ?_
    show Steps p.tables e below (T0.setTop (mkF m 3 #[.val (.ref a1), .val (.int x1), .val (.int x2), .val (.long (0 : Int64)), .second, .unset, .unset] [(.int x1)])) t
    refine XS.istore X0.here hx rfl (hb hby d3_3) rfl (l' := #[.val (.ref a1), .val (.int x1), .val (.int x2), .val (.long (0 : Int64)), .second, .val (.int x1), .unset]) rfl ?_
    exact k
  exact b3_5 C fuel X0 e0 N0 (by show cells ≤ 0; omega) (by show slots ≤ 0; omega) Z1 (by omega) x1 x2 (0 : Int64) x1 A_a1_0 hr
def f3 (fuel : Nat) (x1 : Int32) (x2 : Int32) (q_a1 : List Int32) : Option (Int64) := g3_0 fuel x1 x2 q_a1
theorem pn_3 : plainName "com/example/notewright/notewright/Decimals" = true := by first | (simp [plainName, overriddenIn]; done) | decide +kernel
theorem ef_3 (m : MethodId) (x1 : Int32) (x2 : Int32) (a1 : Addr) : entryFrame m #[(.ref a1), (.int x1), (.int x2)] 7 = mkF m 0 #[.val (.ref a1), .val (.int x1), .val (.int x2), .unset, .unset, .unset, .unset] [] := by first | (simp [entryFrame, mkF, argsToLocals, Value.category]; done) | rfl
set_option maxRecDepth 65536 in
set_option maxHeartbeats 4000000 in
theorem rm3 (l : Launch) (Z : State) (a0 : Array Value) (hw : ∀ d ∈ tables_1, d.before a0 Z = true) (ws : List Jvm.Cond) (x1 : Int32) (x2 : Int32) (a1 : Addr) (q_a1 : List Int32) (hE : Heap) (n0 : Nat) (Z0 : n0 ≤ hE.size) (o0 : n0 ≤ a1) (A_a1_0 : AI Z hE a1 .byte q_a1) (fuel : Nat) (r : Int64) (hr : f3 fuel x1 x2 q_a1 = some r) :
    MetFree l (⟨"com/example/notewright/notewright/Decimals", "unscaled", "([BII)J"⟩ : MethodName) (head1 (Jvm.Cond.code (⟨"com/example/notewright/notewright/Decimals", "unscaled", "([BII)J"⟩ : MethodName) prog_7_method_5_code 7 (some .long) :: ws) ({ frames := 0, cells := 0, slots := 0, locals := 0 } : Room)) (fun a U => a = #[(.ref a1), (.int x1), (.int x2)] ∧ Z.Warmed39 U.vm ∧ U.heap = hE) (fun _ _ _ _ _ => True) (fun _ U o U' => ∃ v L, o = .returned v ∧ (P3 Z hE a1 q_a1 n0 r v U'.heap L) ∧ FrameEnd U o U' L ({ frames := 0, cells := 0, slots := 0, locals := 0 } : Room).cells ({ frames := 0, cells := 0, slots := 0, locals := 0 } : Room).slots) := by
  refine MetFree.of_bodySF (plainFor_of_name pn_3) hisR ?_
  intro p e s m args below meth c s₁ Bd hml0 hP hK
  obtain ⟨rfl, hZ, hh⟩ := hP
  have X0 : Stand p l e ({ frames := 0, cells := 0, slots := 0, locals := 0 } : Room) s m #[(.ref a1), (.int x1), (.int x2)] below meth c s₁ [] 0 0 := Stand.of_body Bd
  have e0 : s₁.heap = hE := by rw [← hh, Bd.state]; rfl
  have C : Ctx p s m meth c Z a0 "com/example/notewright/notewright/Decimals" prog_7_method_5_code 7 (some .long) "unscaled" := ⟨Bd.exec, hZ, hw, Bd.bytes, hml0, findClass_of_methodNamed Bd.named, Bd.returns, BodyLoose.notSynchronized Bd, (name_of_methodNamed Bd.named Bd.method).1⟩
  refine Runs.via (fun t k => castTop (ef_3 m x1 x2 a1) k) (b3_0 C fuel X0 e0 (Fr.nil n0) (by show 0 ≤ 0; omega) (by show 0 ≤ 0; omega) Z0 (by omega) x1 x2 A_a1_0 hr)
theorem pd_2 : parseMethodDescriptor "([BII)J" = some ⟨[(.array .byte), .int, .int], some .long⟩ := by decide +kernel
def P0 (n0 : Nat) (r : Int32) (v : Option Value) (h : Heap) (L : List Loc) : Prop := v = some (.int r) ∧ Fr n0 L
def g0_463 (fuel : Nat) (x9 : Int32) (y10 : Int64) (x12 : Int32) (q_n0_0 : List Int32) : Option (Int32) := ((f3 fuel x9 x12 q_n0_0).bind fun r1 => (if r1 = y10 then some (1 : Int32) else some (0 : Int32)))
set_option maxRecDepth 65536 in
set_option maxHeartbeats 4000000 in
theorem b0_463 {r : Int32} (C : Ctx p s m meth c Z a0 "com/example/notewright/notewright/DecimalsUnscaledPinLaw" code 14 (some .boolean) "law") (fuel : Nat) (X0 : Stand p l e room_1 s m args below meth c T0 locs cells slots) (e0 : T0.heap = h0) (N0 : Fr n0 locs) (hk : cells ≤ 1) (hn : slots ≤ 23) (Z1 : n0 ≤ h0.size) (n0_0 : Addr) (o0 : n0 ≤ n0_0) (q_n0_0 : List Int32) (y0 : Int64) (x2 : Int32) (x3 : Int32) (y4 : Int64) (x6 : Int32) (x7 : Int32) (x8 : Int32) (x9 : Int32) (y10 : Int64) (x12 : Int32) (A_n0_0_0 : AI Z h0 n0_0 .byte q_n0_0) (hr : g0_463 fuel x9 y10 x12 q_n0_0 = some r) :
    Runs p e below s (P0 n0 r) 1 23 T0 (mkF m 463 #[.val (.long y0), .second, .val (.int x2), .val (.int x3), .val (.long y4), .second, .val (.int x6), .val (.int x7), .val (.int x8), .val (.int x9), .val (.long y10), .second, .val (.int x12), .val (.ref n0_0)] []) := by
  unfold g0_463 at hr
  have ⟨hx, hZ, hw, hby, hml, hown, hret, hlk, hnm⟩ := C
  refine Runs.via (T' := T0) (g' := (mkF m 469 #[.val (.long y0), .second, .val (.int x2), .val (.int x3), .val (.long y4), .second, .val (.int x6), .val (.int x7), .val (.int x8), .val (.int x9), .val (.long y10), .second, .val (.int x12), .val (.ref n0_0)] [(.int x12), (.int x9), (.ref n0_0)])) (fun t k => ?_) ?_
  · show Steps p.tables e below (T0.setTop (mkF m 463 #[.val (.long y0), .second, .val (.int x2), .val (.int x3), .val (.long y4), .second, .val (.int x6), .val (.int x7), .val (.int x8), .val (.int x9), .val (.long y10), .second, .val (.int x12), .val (.ref n0_0)] [])) t
    refine XS.aload X0.here hx rfl (hb hby at_463) rfl rfl ?_
    show Steps p.tables e below (T0.setTop (mkF m 465 #[.val (.long y0), .second, .val (.int x2), .val (.int x3), .val (.long y4), .second, .val (.int x6), .val (.int x7), .val (.int x8), .val (.int x9), .val (.long y10), .second, .val (.int x12), .val (.ref n0_0)] [(.ref n0_0)])) t
    refine XS.iload X0.here hx rfl (hb hby at_465) rfl ?_
    show Steps p.tables e below (T0.setTop (mkF m 467 #[.val (.long y0), .second, .val (.int x2), .val (.int x3), .val (.long y4), .second, .val (.int x6), .val (.int x7), .val (.int x8), .val (.int x9), .val (.long y10), .second, .val (.int x12), .val (.ref n0_0)] [(.int x9), (.ref n0_0)])) t
    refine XS.iload X0.here hx rfl (hb hby at_467) rfl ?_
    exact k
  refine bindE hr ?_; intro r1 hr1m hr
  obtain ⟨_, _, ⟨T1, L1, k1, n1⟩, -, X1, ⟨Lc1, hQ1, l1, y1, z1⟩, st1⟩ := Jvm.LawKit.callS X0 hx (y := (⟨"com/example/notewright/notewright/Decimals", "unscaled", "([BII)J"⟩ : MethodName)) hown (mvT hZ (hw _ (List.mem_of_getElem? (i := 12) rfl))) (mvT hZ (hw _ (List.mem_of_getElem? (i := 13) rfl))) (mvT hZ (hw _ (List.mem_of_getElem? (i := 14) rfl))) (mvT hZ (hw _ (List.mem_of_getElem? (i := 15) rfl))) (by decide) (backOf (W := 0) (rm3 l Z a0 hw [] x9 x12 n0_0 q_n0_0 h0 n0 Z1 (by omega) A_n0_0_0 fuel r1 hr1m) hZ (hw _ (List.mem_of_getElem? (i := 15) rfl)) (hw _ (List.mem_of_getElem? (i := 14) rfl)) (by decide) (by decide)) (g := (mkF m 469 #[.val (.long y0), .second, .val (.int x2), .val (.int x3), .val (.long y4), .second, .val (.int x6), .val (.int x7), .val (.int x8), .val (.int x9), .val (.long y10), .second, .val (.int x12), .val (.ref n0_0)] [(.int x12), (.int x9), (.ref n0_0)])) rfl (by rw [hml]; rfl) (argsL := [(.ref n0_0), (.int x9), (.int x12)]) (rest := []) (lenOf pd_2 rfl) rfl (by show 2 * 0 + _ ≤ _; exact Nat.le_of_eq rfl) (hb hby at_469) (fun _ _ => ⟨rfl, e0, (by show cells + 0 ≤ 16; omega), (by show slots + 0 ≤ 128; omega)⟩)
  dsimp only [Pt.U, Pt.locs, Pt.cells, Pt.slots] at X1 l1 y1 z1 st1 hQ1
  replace y1 := y1.symm; replace z1 := z1.symm; subst l1 y1 z1
  obtain ⟨rfl, N1q, e1⟩ := hQ1
  have N1 := Fr.app N0 N1q
  refine Runs.via (T' := T1) (g' := (mkF m 472 #[.val (.long y0), .second, .val (.int x2), .val (.int x3), .val (.long y4), .second, .val (.int x6), .val (.int x7), .val (.int x8), .val (.int x9), .val (.long y10), .second, .val (.int x12), .val (.ref n0_0)] [(.long r1)])) (fun t k => st1 _ k) ?_
  refine Runs.via (T' := T1) (g' := (mkF m 475 #[.val (.long y0), .second, .val (.int x2), .val (.int x3), .val (.long y4), .second, .val (.int x6), .val (.int x7), .val (.int x8), .val (.int x9), .val (.long y10), .second, .val (.int x12), .val (.ref n0_0)] [(.int (lcmpW r1 y10))])) (fun t k => ?_) ?_
  · show Steps p.tables e below (T1.setTop (mkF m 472 #[.val (.long y0), .second, .val (.int x2), .val (.int x3), .val (.long y4), .second, .val (.int x6), .val (.int x7), .val (.int x8), .val (.int x9), .val (.long y10), .second, .val (.int x12), .val (.ref n0_0)] [(.long r1)])) t
    refine XS.lload X1.here hx rfl (hb hby at_472) rfl ?_
    show Steps p.tables e below (T1.setTop (mkF m 474 #[.val (.long y0), .second, .val (.int x2), .val (.int x3), .val (.long y4), .second, .val (.int x6), .val (.int x7), .val (.int x8), .val (.int x9), .val (.long y10), .second, .val (.int x12), .val (.ref n0_0)] [(.long y10), (.long r1)])) t
    refine XS.lcmp X1.here hx rfl (hb hby at_474) rfl ?_
    exact k
  refine iteE hr (fun hc2 hr => ?_) (fun hc2 hr => ?_)
  · refine Runs.via (T' := T1) (g' := (mkF m 478 #[.val (.long y0), .second, .val (.int x2), .val (.int x3), .val (.long y4), .second, .val (.int x6), .val (.int x7), .val (.int x8), .val (.int x9), .val (.long y10), .second, .val (.int x12), .val (.ref n0_0)] [])) (fun t k => ?_) ?_
    · show Steps p.tables e below (T1.setTop (mkF m 475 #[.val (.long y0), .second, .val (.int x2), .val (.int x3), .val (.long y4), .second, .val (.int x6), .val (.int x7), .val (.int x8), .val (.int x9), .val (.long y10), .second, .val (.int x12), .val (.ref n0_0)] [(.int (lcmpW r1 y10))])) t
      exact XS.ifNo X1.here hx rfl (hb hby at_475) rfl ((if0 _ _).trans (teq ((lw_eq _ _).mpr hc2)).2) k
    refine Runs.via (T' := T1) (g' := (mkF m 483 #[.val (.long y0), .second, .val (.int x2), .val (.int x3), .val (.long y4), .second, .val (.int x6), .val (.int x7), .val (.int x8), .val (.int x9), .val (.long y10), .second, .val (.int x12), .val (.ref n0_0)] [(.int (1 : Int32))])) (fun t k => ?_) ?_
    · show Steps p.tables e below (T1.setTop (mkF m 478 #[.val (.long y0), .second, .val (.int x2), .val (.int x3), .val (.long y4), .second, .val (.int x6), .val (.int x7), .val (.int x8), .val (.int x9), .val (.long y10), .second, .val (.int x12), .val (.ref n0_0)] [])) t
      refine XS.iconst X1.here hx rfl (hb hby at_478) ?_
      show Steps p.tables e below (T1.setTop (mkF m 479 #[.val (.long y0), .second, .val (.int x2), .val (.int x3), .val (.long y4), .second, .val (.int x6), .val (.int x7), .val (.int x8), .val (.int x9), .val (.long y10), .second, .val (.int x12), .val (.ref n0_0)] [(.int (1 : Int32))])) t
      refine XS.goto X1.here hx rfl (pc0 := 479) (pc' := 483) rfl (hb hby at_479) (by decide) (by decide) ?_
      exact k
    obtain rfl := Option.some.inj hr
    exact own_retN X1 hx hlk (t := .boolean) hret (by simp) (hb hby at_483) (by show (cells + 0) ≤ 1; omega) (by show (slots + 0) ≤ 23; omega) ⟨rfl, N1⟩
  · refine Runs.via (T' := T1) (g' := (mkF m 482 #[.val (.long y0), .second, .val (.int x2), .val (.int x3), .val (.long y4), .second, .val (.int x6), .val (.int x7), .val (.int x8), .val (.int x9), .val (.long y10), .second, .val (.int x12), .val (.ref n0_0)] [])) (fun t k => ?_) ?_
    · show Steps p.tables e below (T1.setTop (mkF m 475 #[.val (.long y0), .second, .val (.int x2), .val (.int x3), .val (.long y4), .second, .val (.int x6), .val (.int x7), .val (.int x8), .val (.int x9), .val (.long y10), .second, .val (.int x12), .val (.ref n0_0)] [(.int (lcmpW r1 y10))])) t
      exact XS.ifYes X1.here hx rfl (pc0 := 475) (pc' := 482) rfl (hb hby at_475) rfl ((if0 _ _).trans (feq (fun q => hc2 ((lw_eq _ _).mp q))).2) (by decide) (by decide) k
    refine Runs.via (T' := T1) (g' := (mkF m 483 #[.val (.long y0), .second, .val (.int x2), .val (.int x3), .val (.long y4), .second, .val (.int x6), .val (.int x7), .val (.int x8), .val (.int x9), .val (.long y10), .second, .val (.int x12), .val (.ref n0_0)] [(.int (0 : Int32))])) (fun t k => ?_) ?_
    · show Steps p.tables e below (T1.setTop (mkF m 482 #[.val (.long y0), .second, .val (.int x2), .val (.int x3), .val (.long y4), .second, .val (.int x6), .val (.int x7), .val (.int x8), .val (.int x9), .val (.long y10), .second, .val (.int x12), .val (.ref n0_0)] [])) t
      refine XS.iconst X1.here hx rfl (hb hby at_482) ?_
      exact k
    obtain rfl := Option.some.inj hr
    exact own_retN X1 hx hlk (t := .boolean) hret (by simp) (hb hby at_483) (by show (cells + 0) ≤ 1; omega) (by show (slots + 0) ≤ 23; omega) ⟨rfl, N1⟩
def g0_102 (fuel : Nat) (x3 : Int32) (x6 : Int32) (x7 : Int32) (x8 : Int32) (x9 : Int32) (y10 : Int64) (u0 : Int32) (u1 : Int32) : Option (Int32) := (letO (u1 + u0) fun v1 => ((mkO (23 : Int32) 23).bind fun v2 => ((wrO v2 (0 : Int32) ((x3.toInt8.toInt32).toInt8.toInt32)).bind fun v3 => ((wrO v3 (1 : Int32) ((((x3.toUInt32 >>> ((8 : Int32) &&& 31).toUInt32).toInt32).toInt8.toInt32).toInt8.toInt32)).bind fun v4 => ((wrO v4 v1 ((((x3.toUInt32 >>> ((16 : Int32) &&& 31).toUInt32).toInt32).toInt8.toInt32).toInt8.toInt32)).bind fun v5 => ((wrO v5 (v1 + (1 : Int32)) ((((x3.toUInt32 >>> ((24 : Int32) &&& 31).toUInt32).toInt32).toInt8.toInt32).toInt8.toInt32)).bind fun v6 => ((f2 x9 x6 x7 x8 y10 (0 : Int32) v6).bind fun r7 => ((f2 x9 x6 x7 x8 y10 (1 : Int32) r7).bind fun r8 => ((f2 x9 x6 x7 x8 y10 (2 : Int32) r8).bind fun r9 => ((f2 x9 x6 x7 x8 y10 (3 : Int32) r9).bind fun r10 => ((f2 x9 x6 x7 x8 y10 (4 : Int32) r10).bind fun r11 => ((f2 x9 x6 x7 x8 y10 (5 : Int32) r11).bind fun r12 => ((f2 x9 x6 x7 x8 y10 (6 : Int32) r12).bind fun r13 => ((f2 x9 x6 x7 x8 y10 (7 : Int32) r13).bind fun r14 => ((f2 x9 x6 x7 x8 y10 (8 : Int32) r14).bind fun r15 => ((f2 x9 x6 x7 x8 y10 (9 : Int32) r15).bind fun r16 => ((f2 x9 x6 x7 x8 y10 (10 : Int32) r16).bind fun r17 => ((f2 x9 x6 x7 x8 y10 (11 : Int32) r17).bind fun r18 => ((f2 x9 x6 x7 x8 y10 (12 : Int32) r18).bind fun r19 => ((f2 x9 x6 x7 x8 y10 (13 : Int32) r19).bind fun r20 => ((f2 x9 x6 x7 x8 y10 (14 : Int32) r20).bind fun r21 => ((f2 x9 x6 x7 x8 y10 (15 : Int32) r21).bind fun r22 => ((f2 x9 x6 x7 x8 y10 (16 : Int32) r22).bind fun r23 => ((f2 x9 x6 x7 x8 y10 (17 : Int32) r23).bind fun r24 => (if x7 = (0 : Int32) then (g0_463 fuel x9 y10 v1 r24) else ((wrO r24 (x9 + x8) ((46 : Int32).toInt8.toInt32)).bind fun v26 => (g0_463 fuel x9 y10 v1 v26)))))))))))))))))))))))))))
set_option maxRecDepth 65536 in
set_option maxHeartbeats 4000000 in
theorem b0_102 {r : Int32} (C : Ctx p s m meth c Z a0 "com/example/notewright/notewright/DecimalsUnscaledPinLaw" code 14 (some .boolean) "law") (fuel : Nat) (X0 : Stand p l e room_1 s m args below meth c T0 locs cells slots) (e0 : T0.heap = h0) (N0 : Fr n0 locs) (hk : cells ≤ 0) (hn : slots ≤ 0) (Z1 : n0 ≤ h0.size) (y0 : Int64) (x2 : Int32) (x3 : Int32) (y4 : Int64) (x6 : Int32) (x7 : Int32) (x8 : Int32) (x9 : Int32) (y10 : Int64) (u0 : Int32) (u1 : Int32) (hr : g0_102 fuel x3 x6 x7 x8 x9 y10 u0 u1 = some r) :
    Runs p e below s (P0 n0 r) 1 23 T0 (mkF m 102 #[.val (.long y0), .second, .val (.int x2), .val (.int x3), .val (.long y4), .second, .val (.int x6), .val (.int x7), .val (.int x8), .val (.int x9), .val (.long y10), .second, .unset, .unset] [(.int u0), (.int u1)]) := by
  unfold g0_102 at hr
  have ⟨hx, hZ, hw, hby, hml, hown, hret, hlk, hnm⟩ := C
  refine Runs.via (T' := T0) (g' := (mkF m 103 #[.val (.long y0), .second, .val (.int x2), .val (.int x3), .val (.long y4), .second, .val (.int x6), .val (.int x7), .val (.int x8), .val (.int x9), .val (.long y10), .second, .unset, .unset] [(.int (u1 + u0))])) (fun t k => ?_) ?_
  · show Steps p.tables e below (T0.setTop (mkF m 102 #[.val (.long y0), .second, .val (.int x2), .val (.int x3), .val (.long y4), .second, .val (.int x6), .val (.int x7), .val (.int x8), .val (.int x9), .val (.long y10), .second, .unset, .unset] [(.int u0), (.int u1)])) t
    refine XS.iadd X0.here hx rfl (hb hby at_102) rfl ?_
    exact k
  refine letE hr ?_; intro v1 hv1 hr
  rw [← hv1]
  refine Runs.via (T' := T0) (g' := (mkF m 107 #[.val (.long y0), .second, .val (.int x2), .val (.int x3), .val (.long y4), .second, .val (.int x6), .val (.int x7), .val (.int x8), .val (.int x9), .val (.long y10), .second, .val (.int v1), .unset] [(.int (23 : Int32))])) (fun t k => ?_) ?_
  · show Steps p.tables e below (T0.setTop (mkF m 103 #[.val (.long y0), .second, .val (.int x2), .val (.int x3), .val (.long y4), .second, .val (.int x6), .val (.int x7), .val (.int x8), .val (.int x9), .val (.long y10), .second, .unset, .unset] [(.int v1)])) t
    refine XS.istore X0.here hx rfl (hb hby at_103) rfl (l' := #[.val (.long y0), .second, .val (.int x2), .val (.int x3), .val (.long y4), .second, .val (.int x6), .val (.int x7), .val (.int x8), .val (.int x9), .val (.long y10), .second, .val (.int v1), .unset]) rfl ?_
    show Steps p.tables e below (T0.setTop (mkF m 105 #[.val (.long y0), .second, .val (.int x2), .val (.int x3), .val (.long y4), .second, .val (.int x6), .val (.int x7), .val (.int x8), .val (.int x9), .val (.long y10), .second, .val (.int v1), .unset] [])) t
    refine XS.bipush X0.here hx rfl (hb hby at_105) ?_
    exact k
  refine bindE hr ?_; intro v2 hv2 hr
  obtain ⟨T2, h2, X2, e2, E2, A2, st2⟩ := newI X0 hx hZ (aty := .byte) (ty := .byte) rfl rfl (hw _ (List.mem_of_getElem? (i := 8) rfl)) e0 hv2 (g := (mkF m 107 #[.val (.long y0), .second, .val (.int x2), .val (.int x3), .val (.long y4), .second, .val (.int x6), .val (.int x7), .val (.int x8), .val (.int x9), .val (.long y10), .second, .val (.int v1), .unset] [(.int (23 : Int32))])) rfl (hb hby at_107) rfl (by decide) (by show cells + 1 ≤ 16; omega) (by show slots + 23 ≤ 128; omega)
  obtain ⟨b107, g2⟩ : ∃ z, z = h0.size := ⟨_, rfl⟩
  rw [← g2] at A2 st2
  have i2 := E2.1
  have zz2 : n0 ≤ h2.size := Nat.le_trans Z1 i2
  have A_b107_2 := A2
  have sb107 : n0 ≤ b107 := by omega
  refine Runs.via (T' := T2) (g' := (mkF m 109 #[.val (.long y0), .second, .val (.int x2), .val (.int x3), .val (.long y4), .second, .val (.int x6), .val (.int x7), .val (.int x8), .val (.int x9), .val (.long y10), .second, .val (.int v1), .unset] [(.ref b107)])) (fun t k => st2 _ k) ?_
  refine Runs.via (T' := T2) (g' := (mkF m 116 #[.val (.long y0), .second, .val (.int x2), .val (.int x3), .val (.long y4), .second, .val (.int x6), .val (.int x7), .val (.int x8), .val (.int x9), .val (.long y10), .second, .val (.int v1), .val (.ref b107)] [(.int (x3.toInt8.toInt32)), (.int (0 : Int32)), (.ref b107)])) (fun t k => ?_) ?_
  · show Steps p.tables e below (T2.setTop (mkF m 109 #[.val (.long y0), .second, .val (.int x2), .val (.int x3), .val (.long y4), .second, .val (.int x6), .val (.int x7), .val (.int x8), .val (.int x9), .val (.long y10), .second, .val (.int v1), .unset] [(.ref b107)])) t
    refine XS.astore X2.here hx rfl (hb hby at_109) rfl rfl (l' := #[.val (.long y0), .second, .val (.int x2), .val (.int x3), .val (.long y4), .second, .val (.int x6), .val (.int x7), .val (.int x8), .val (.int x9), .val (.long y10), .second, .val (.int v1), .val (.ref b107)]) rfl ?_
    show Steps p.tables e below (T2.setTop (mkF m 111 #[.val (.long y0), .second, .val (.int x2), .val (.int x3), .val (.long y4), .second, .val (.int x6), .val (.int x7), .val (.int x8), .val (.int x9), .val (.long y10), .second, .val (.int v1), .val (.ref b107)] [])) t
    refine XS.aload X2.here hx rfl (hb hby at_111) rfl rfl ?_
    show Steps p.tables e below (T2.setTop (mkF m 113 #[.val (.long y0), .second, .val (.int x2), .val (.int x3), .val (.long y4), .second, .val (.int x6), .val (.int x7), .val (.int x8), .val (.int x9), .val (.long y10), .second, .val (.int v1), .val (.ref b107)] [(.ref b107)])) t
    refine XS.iconst X2.here hx rfl (hb hby at_113) ?_
    show Steps p.tables e below (T2.setTop (mkF m 114 #[.val (.long y0), .second, .val (.int x2), .val (.int x3), .val (.long y4), .second, .val (.int x6), .val (.int x7), .val (.int x8), .val (.int x9), .val (.long y10), .second, .val (.int v1), .val (.ref b107)] [(.int (0 : Int32)), (.ref b107)])) t
    refine XS.iloadN X2.here hx rfl (hb hby at_114) rfl ?_
    show Steps p.tables e below (T2.setTop (mkF m 115 #[.val (.long y0), .second, .val (.int x2), .val (.int x3), .val (.long y4), .second, .val (.int x6), .val (.int x7), .val (.int x8), .val (.int x9), .val (.long y10), .second, .val (.int v1), .val (.ref b107)] [(.int x3), (.int (0 : Int32)), (.ref b107)])) t
    refine XS.i2b X2.here hx rfl (hb hby at_115) rfl ?_
    exact k
  refine bindE hr ?_; intro v3 hv3 hr
  obtain ⟨T3, h3, X3, e3, W3, A3, st3⟩ := soB X2 hx hZ e2 A_b107_2 hv3 (g := (mkF m 116 #[.val (.long y0), .second, .val (.int x2), .val (.int x3), .val (.long y4), .second, .val (.int x6), .val (.int x7), .val (.int x8), .val (.int x9), .val (.long y10), .second, .val (.int v1), .val (.ref b107)] [(.int (x3.toInt8.toInt32)), (.int (0 : Int32)), (.ref b107)])) rfl rfl (hb hby at_116)
  have A_b107_3 : AI Z h3 b107 .byte v3 := A3
  have N3 := Fr.snoc X3 N0 (by omega : n0 ≤ b107)
  have zz3 : n0 ≤ h3.size := Nat.le_trans zz2 (Keep.of_wr W3).1
  refine Runs.via (T' := T3) (g' := (mkF m 117 #[.val (.long y0), .second, .val (.int x2), .val (.int x3), .val (.long y4), .second, .val (.int x6), .val (.int x7), .val (.int x8), .val (.int x9), .val (.long y10), .second, .val (.int v1), .val (.ref b107)] [])) (fun t k => st3 _ k) ?_
  refine Runs.via (T' := T3) (g' := (mkF m 125 #[.val (.long y0), .second, .val (.int x2), .val (.int x3), .val (.long y4), .second, .val (.int x6), .val (.int x7), .val (.int x8), .val (.int x9), .val (.long y10), .second, .val (.int v1), .val (.ref b107)] [(.int (((x3.toUInt32 >>> ((8 : Int32) &&& 31).toUInt32).toInt32).toInt8.toInt32)), (.int (1 : Int32)), (.ref b107)])) (fun t k => ?_) ?_
  · show Steps p.tables e below (T3.setTop (mkF m 117 #[.val (.long y0), .second, .val (.int x2), .val (.int x3), .val (.long y4), .second, .val (.int x6), .val (.int x7), .val (.int x8), .val (.int x9), .val (.long y10), .second, .val (.int v1), .val (.ref b107)] [])) t
    refine XS.aload X3.here hx rfl (hb hby at_117) rfl rfl ?_
    show Steps p.tables e below (T3.setTop (mkF m 119 #[.val (.long y0), .second, .val (.int x2), .val (.int x3), .val (.long y4), .second, .val (.int x6), .val (.int x7), .val (.int x8), .val (.int x9), .val (.long y10), .second, .val (.int v1), .val (.ref b107)] [(.ref b107)])) t
    refine XS.iconst X3.here hx rfl (hb hby at_119) ?_
    show Steps p.tables e below (T3.setTop (mkF m 120 #[.val (.long y0), .second, .val (.int x2), .val (.int x3), .val (.long y4), .second, .val (.int x6), .val (.int x7), .val (.int x8), .val (.int x9), .val (.long y10), .second, .val (.int v1), .val (.ref b107)] [(.int (1 : Int32)), (.ref b107)])) t
    refine XS.iloadN X3.here hx rfl (hb hby at_120) rfl ?_
    show Steps p.tables e below (T3.setTop (mkF m 121 #[.val (.long y0), .second, .val (.int x2), .val (.int x3), .val (.long y4), .second, .val (.int x6), .val (.int x7), .val (.int x8), .val (.int x9), .val (.long y10), .second, .val (.int v1), .val (.ref b107)] [(.int x3), (.int (1 : Int32)), (.ref b107)])) t
    refine XS.bipush X3.here hx rfl (hb hby at_121) ?_
    show Steps p.tables e below (T3.setTop (mkF m 123 #[.val (.long y0), .second, .val (.int x2), .val (.int x3), .val (.long y4), .second, .val (.int x6), .val (.int x7), .val (.int x8), .val (.int x9), .val (.long y10), .second, .val (.int v1), .val (.ref b107)] [(.int (8 : Int32)), (.int x3), (.int (1 : Int32)), (.ref b107)])) t
    refine XS.iushr X3.here hx rfl (hb hby at_123) rfl ?_
    show Steps p.tables e below (T3.setTop (mkF m 124 #[.val (.long y0), .second, .val (.int x2), .val (.int x3), .val (.long y4), .second, .val (.int x6), .val (.int x7), .val (.int x8), .val (.int x9), .val (.long y10), .second, .val (.int v1), .val (.ref b107)] [(.int ((x3.toUInt32 >>> ((8 : Int32) &&& 31).toUInt32).toInt32)), (.int (1 : Int32)), (.ref b107)])) t
    refine XS.i2b X3.here hx rfl (hb hby at_124) rfl ?_
    exact k
  refine bindE hr ?_; intro v4 hv4 hr
  obtain ⟨T4, h4, X4, e4, W4, A4, st4⟩ := soB X3 hx hZ e3 A_b107_3 hv4 (g := (mkF m 125 #[.val (.long y0), .second, .val (.int x2), .val (.int x3), .val (.long y4), .second, .val (.int x6), .val (.int x7), .val (.int x8), .val (.int x9), .val (.long y10), .second, .val (.int v1), .val (.ref b107)] [(.int (((x3.toUInt32 >>> ((8 : Int32) &&& 31).toUInt32).toInt32).toInt8.toInt32)), (.int (1 : Int32)), (.ref b107)])) rfl rfl (hb hby at_125)
  have A_b107_4 : AI Z h4 b107 .byte v4 := A4
  have N4 := Fr.snoc X4 N3 (by omega : n0 ≤ b107)
  have zz4 : n0 ≤ h4.size := Nat.le_trans zz3 (Keep.of_wr W4).1
  refine Runs.via (T' := T4) (g' := (mkF m 126 #[.val (.long y0), .second, .val (.int x2), .val (.int x3), .val (.long y4), .second, .val (.int x6), .val (.int x7), .val (.int x8), .val (.int x9), .val (.long y10), .second, .val (.int v1), .val (.ref b107)] [])) (fun t k => st4 _ k) ?_
  refine Runs.via (T' := T4) (g' := (mkF m 135 #[.val (.long y0), .second, .val (.int x2), .val (.int x3), .val (.long y4), .second, .val (.int x6), .val (.int x7), .val (.int x8), .val (.int x9), .val (.long y10), .second, .val (.int v1), .val (.ref b107)] [(.int (((x3.toUInt32 >>> ((16 : Int32) &&& 31).toUInt32).toInt32).toInt8.toInt32)), (.int v1), (.ref b107)])) (fun t k => ?_) ?_
  · show Steps p.tables e below (T4.setTop (mkF m 126 #[.val (.long y0), .second, .val (.int x2), .val (.int x3), .val (.long y4), .second, .val (.int x6), .val (.int x7), .val (.int x8), .val (.int x9), .val (.long y10), .second, .val (.int v1), .val (.ref b107)] [])) t
    refine XS.aload X4.here hx rfl (hb hby at_126) rfl rfl ?_
    show Steps p.tables e below (T4.setTop (mkF m 128 #[.val (.long y0), .second, .val (.int x2), .val (.int x3), .val (.long y4), .second, .val (.int x6), .val (.int x7), .val (.int x8), .val (.int x9), .val (.long y10), .second, .val (.int v1), .val (.ref b107)] [(.ref b107)])) t
    refine XS.iload X4.here hx rfl (hb hby at_128) rfl ?_
    show Steps p.tables e below (T4.setTop (mkF m 130 #[.val (.long y0), .second, .val (.int x2), .val (.int x3), .val (.long y4), .second, .val (.int x6), .val (.int x7), .val (.int x8), .val (.int x9), .val (.long y10), .second, .val (.int v1), .val (.ref b107)] [(.int v1), (.ref b107)])) t
    refine XS.iloadN X4.here hx rfl (hb hby at_130) rfl ?_
    show Steps p.tables e below (T4.setTop (mkF m 131 #[.val (.long y0), .second, .val (.int x2), .val (.int x3), .val (.long y4), .second, .val (.int x6), .val (.int x7), .val (.int x8), .val (.int x9), .val (.long y10), .second, .val (.int v1), .val (.ref b107)] [(.int x3), (.int v1), (.ref b107)])) t
    refine XS.bipush X4.here hx rfl (hb hby at_131) ?_
    show Steps p.tables e below (T4.setTop (mkF m 133 #[.val (.long y0), .second, .val (.int x2), .val (.int x3), .val (.long y4), .second, .val (.int x6), .val (.int x7), .val (.int x8), .val (.int x9), .val (.long y10), .second, .val (.int v1), .val (.ref b107)] [(.int (16 : Int32)), (.int x3), (.int v1), (.ref b107)])) t
    refine XS.iushr X4.here hx rfl (hb hby at_133) rfl ?_
    show Steps p.tables e below (T4.setTop (mkF m 134 #[.val (.long y0), .second, .val (.int x2), .val (.int x3), .val (.long y4), .second, .val (.int x6), .val (.int x7), .val (.int x8), .val (.int x9), .val (.long y10), .second, .val (.int v1), .val (.ref b107)] [(.int ((x3.toUInt32 >>> ((16 : Int32) &&& 31).toUInt32).toInt32)), (.int v1), (.ref b107)])) t
    refine XS.i2b X4.here hx rfl (hb hby at_134) rfl ?_
    exact k
  refine bindE hr ?_; intro v5 hv5 hr
  obtain ⟨T5, h5, X5, e5, W5, A5, st5⟩ := soB X4 hx hZ e4 A_b107_4 hv5 (g := (mkF m 135 #[.val (.long y0), .second, .val (.int x2), .val (.int x3), .val (.long y4), .second, .val (.int x6), .val (.int x7), .val (.int x8), .val (.int x9), .val (.long y10), .second, .val (.int v1), .val (.ref b107)] [(.int (((x3.toUInt32 >>> ((16 : Int32) &&& 31).toUInt32).toInt32).toInt8.toInt32)), (.int v1), (.ref b107)])) rfl rfl (hb hby at_135)
  have A_b107_5 : AI Z h5 b107 .byte v5 := A5
  have N5 := Fr.snoc X5 N4 (by omega : n0 ≤ b107)
  have zz5 : n0 ≤ h5.size := Nat.le_trans zz4 (Keep.of_wr W5).1
  refine Runs.via (T' := T5) (g' := (mkF m 136 #[.val (.long y0), .second, .val (.int x2), .val (.int x3), .val (.long y4), .second, .val (.int x6), .val (.int x7), .val (.int x8), .val (.int x9), .val (.long y10), .second, .val (.int v1), .val (.ref b107)] [])) (fun t k => st5 _ k) ?_
  refine Runs.via (T' := T5) (g' := (mkF m 147 #[.val (.long y0), .second, .val (.int x2), .val (.int x3), .val (.long y4), .second, .val (.int x6), .val (.int x7), .val (.int x8), .val (.int x9), .val (.long y10), .second, .val (.int v1), .val (.ref b107)] [(.int (((x3.toUInt32 >>> ((24 : Int32) &&& 31).toUInt32).toInt32).toInt8.toInt32)), (.int (v1 + (1 : Int32))), (.ref b107)])) (fun t k => ?_) ?_
  · show Steps p.tables e below (T5.setTop (mkF m 136 #[.val (.long y0), .second, .val (.int x2), .val (.int x3), .val (.long y4), .second, .val (.int x6), .val (.int x7), .val (.int x8), .val (.int x9), .val (.long y10), .second, .val (.int v1), .val (.ref b107)] [])) t
    refine XS.aload X5.here hx rfl (hb hby at_136) rfl rfl ?_
    show Steps p.tables e below (T5.setTop (mkF m 138 #[.val (.long y0), .second, .val (.int x2), .val (.int x3), .val (.long y4), .second, .val (.int x6), .val (.int x7), .val (.int x8), .val (.int x9), .val (.long y10), .second, .val (.int v1), .val (.ref b107)] [(.ref b107)])) t
    refine XS.iload X5.here hx rfl (hb hby at_138) rfl ?_
    show Steps p.tables e below (T5.setTop (mkF m 140 #[.val (.long y0), .second, .val (.int x2), .val (.int x3), .val (.long y4), .second, .val (.int x6), .val (.int x7), .val (.int x8), .val (.int x9), .val (.long y10), .second, .val (.int v1), .val (.ref b107)] [(.int v1), (.ref b107)])) t
    refine XS.iconst X5.here hx rfl (hb hby at_140) ?_
    show Steps p.tables e below (T5.setTop (mkF m 141 #[.val (.long y0), .second, .val (.int x2), .val (.int x3), .val (.long y4), .second, .val (.int x6), .val (.int x7), .val (.int x8), .val (.int x9), .val (.long y10), .second, .val (.int v1), .val (.ref b107)] [(.int (1 : Int32)), (.int v1), (.ref b107)])) t
    refine XS.iadd X5.here hx rfl (hb hby at_141) rfl ?_
    show Steps p.tables e below (T5.setTop (mkF m 142 #[.val (.long y0), .second, .val (.int x2), .val (.int x3), .val (.long y4), .second, .val (.int x6), .val (.int x7), .val (.int x8), .val (.int x9), .val (.long y10), .second, .val (.int v1), .val (.ref b107)] [(.int (v1 + (1 : Int32))), (.ref b107)])) t
    refine XS.iloadN X5.here hx rfl (hb hby at_142) rfl ?_
    show Steps p.tables e below (T5.setTop (mkF m 143 #[.val (.long y0), .second, .val (.int x2), .val (.int x3), .val (.long y4), .second, .val (.int x6), .val (.int x7), .val (.int x8), .val (.int x9), .val (.long y10), .second, .val (.int v1), .val (.ref b107)] [(.int x3), (.int (v1 + (1 : Int32))), (.ref b107)])) t
    refine XS.bipush X5.here hx rfl (hb hby at_143) ?_
    show Steps p.tables e below (T5.setTop (mkF m 145 #[.val (.long y0), .second, .val (.int x2), .val (.int x3), .val (.long y4), .second, .val (.int x6), .val (.int x7), .val (.int x8), .val (.int x9), .val (.long y10), .second, .val (.int v1), .val (.ref b107)] [(.int (24 : Int32)), (.int x3), (.int (v1 + (1 : Int32))), (.ref b107)])) t
    refine XS.iushr X5.here hx rfl (hb hby at_145) rfl ?_
    show Steps p.tables e below (T5.setTop (mkF m 146 #[.val (.long y0), .second, .val (.int x2), .val (.int x3), .val (.long y4), .second, .val (.int x6), .val (.int x7), .val (.int x8), .val (.int x9), .val (.long y10), .second, .val (.int v1), .val (.ref b107)] [(.int ((x3.toUInt32 >>> ((24 : Int32) &&& 31).toUInt32).toInt32)), (.int (v1 + (1 : Int32))), (.ref b107)])) t
    refine XS.i2b X5.here hx rfl (hb hby at_146) rfl ?_
    exact k
  refine bindE hr ?_; intro v6 hv6 hr
  obtain ⟨T6, h6, X6, e6, W6, A6, st6⟩ := soB X5 hx hZ e5 A_b107_5 hv6 (g := (mkF m 147 #[.val (.long y0), .second, .val (.int x2), .val (.int x3), .val (.long y4), .second, .val (.int x6), .val (.int x7), .val (.int x8), .val (.int x9), .val (.long y10), .second, .val (.int v1), .val (.ref b107)] [(.int (((x3.toUInt32 >>> ((24 : Int32) &&& 31).toUInt32).toInt32).toInt8.toInt32)), (.int (v1 + (1 : Int32))), (.ref b107)])) rfl rfl (hb hby at_147)
  have A_b107_6 : AI Z h6 b107 .byte v6 := A6
  have N6 := Fr.snoc X6 N5 (by omega : n0 ≤ b107)
  have zz6 : n0 ≤ h6.size := Nat.le_trans zz5 (Keep.of_wr W6).1
  refine Runs.via (T' := T6) (g' := (mkF m 148 #[.val (.long y0), .second, .val (.int x2), .val (.int x3), .val (.long y4), .second, .val (.int x6), .val (.int x7), .val (.int x8), .val (.int x9), .val (.long y10), .second, .val (.int v1), .val (.ref b107)] [])) (fun t k => st6 _ k) ?_
  refine Runs.via (T' := T6) (g' := (mkF m 161 #[.val (.long y0), .second, .val (.int x2), .val (.int x3), .val (.long y4), .second, .val (.int x6), .val (.int x7), .val (.int x8), .val (.int x9), .val (.long y10), .second, .val (.int v1), .val (.ref b107)] [(.int (0 : Int32)), (.long y10), (.int x8), (.int x7), (.int x6), (.int x9), (.ref b107)])) (fun t k => ?_) ?_
  · show Steps p.tables e below (T6.setTop (mkF m 148 #[.val (.long y0), .second, .val (.int x2), .val (.int x3), .val (.long y4), .second, .val (.int x6), .val (.int x7), .val (.int x8), .val (.int x9), .val (.long y10), .second, .val (.int v1), .val (.ref b107)] [])) t
    refine XS.aload X6.here hx rfl (hb hby at_148) rfl rfl ?_
    show Steps p.tables e below (T6.setTop (mkF m 150 #[.val (.long y0), .second, .val (.int x2), .val (.int x3), .val (.long y4), .second, .val (.int x6), .val (.int x7), .val (.int x8), .val (.int x9), .val (.long y10), .second, .val (.int v1), .val (.ref b107)] [(.ref b107)])) t
    refine XS.iload X6.here hx rfl (hb hby at_150) rfl ?_
    show Steps p.tables e below (T6.setTop (mkF m 152 #[.val (.long y0), .second, .val (.int x2), .val (.int x3), .val (.long y4), .second, .val (.int x6), .val (.int x7), .val (.int x8), .val (.int x9), .val (.long y10), .second, .val (.int v1), .val (.ref b107)] [(.int x9), (.ref b107)])) t
    refine XS.iload X6.here hx rfl (hb hby at_152) rfl ?_
    show Steps p.tables e below (T6.setTop (mkF m 154 #[.val (.long y0), .second, .val (.int x2), .val (.int x3), .val (.long y4), .second, .val (.int x6), .val (.int x7), .val (.int x8), .val (.int x9), .val (.long y10), .second, .val (.int v1), .val (.ref b107)] [(.int x6), (.int x9), (.ref b107)])) t
    refine XS.iload X6.here hx rfl (hb hby at_154) rfl ?_
    show Steps p.tables e below (T6.setTop (mkF m 156 #[.val (.long y0), .second, .val (.int x2), .val (.int x3), .val (.long y4), .second, .val (.int x6), .val (.int x7), .val (.int x8), .val (.int x9), .val (.long y10), .second, .val (.int v1), .val (.ref b107)] [(.int x7), (.int x6), (.int x9), (.ref b107)])) t
    refine XS.iload X6.here hx rfl (hb hby at_156) rfl ?_
    show Steps p.tables e below (T6.setTop (mkF m 158 #[.val (.long y0), .second, .val (.int x2), .val (.int x3), .val (.long y4), .second, .val (.int x6), .val (.int x7), .val (.int x8), .val (.int x9), .val (.long y10), .second, .val (.int v1), .val (.ref b107)] [(.int x8), (.int x7), (.int x6), (.int x9), (.ref b107)])) t
    refine XS.lload X6.here hx rfl (hb hby at_158) rfl ?_
    show Steps p.tables e below (T6.setTop (mkF m 160 #[.val (.long y0), .second, .val (.int x2), .val (.int x3), .val (.long y4), .second, .val (.int x6), .val (.int x7), .val (.int x8), .val (.int x9), .val (.long y10), .second, .val (.int v1), .val (.ref b107)] [(.long y10), (.int x8), (.int x7), (.int x6), (.int x9), (.ref b107)])) t
    refine XS.iconst X6.here hx rfl (hb hby at_160) ?_
    exact k
  refine bindE hr ?_; intro r7 hr7m hr
  obtain ⟨_, _, ⟨T7, L7, k7, n7⟩, -, X7, ⟨Lc7, hQ7, l7, y7, z7⟩, st7⟩ := Jvm.LawKit.callS X6 hx (y := (⟨"com/example/notewright/notewright/DecimalsUnscaledPinLaw", "put", "([BIIZIJI)V"⟩ : MethodName)) hown (mvT hZ (hw _ (List.mem_of_getElem? (i := 9) rfl))) (mvT hZ (hw _ (List.mem_of_getElem? (i := 10) rfl))) (mvT hZ (hw _ (List.mem_of_getElem? (i := 4) rfl))) (mvT hZ (hw _ (List.mem_of_getElem? (i := 11) rfl))) (by decide) (backOf (W := 0) (rm2 l Z a0 hw [] x9 x6 x7 x8 y10 (0 : Int32) b107 v6 h6 n0 zz6 (by omega) A_b107_6 r7 hr7m) hZ (hw _ (List.mem_of_getElem? (i := 11) rfl)) (hw _ (List.mem_of_getElem? (i := 4) rfl)) (by decide) (by decide)) (g := (mkF m 161 #[.val (.long y0), .second, .val (.int x2), .val (.int x3), .val (.long y4), .second, .val (.int x6), .val (.int x7), .val (.int x8), .val (.int x9), .val (.long y10), .second, .val (.int v1), .val (.ref b107)] [(.int (0 : Int32)), (.long y10), (.int x8), (.int x7), (.int x6), (.int x9), (.ref b107)])) rfl (by rw [hml]; rfl) (argsL := [(.ref b107), (.int x9), (.int x6), (.int x7), (.int x8), (.long y10), (.int (0 : Int32))]) (rest := []) (lenOf pd_1 rfl) rfl (by show 2 * 0 + _ ≤ _; exact Nat.le_of_eq rfl) (hb hby at_161) (fun _ _ => ⟨rfl, e6, (by show (cells + 1) + 0 ≤ 16; omega), (by show (slots + 23) + 0 ≤ 128; omega)⟩)
  dsimp only [Pt.U, Pt.locs, Pt.cells, Pt.slots] at X7 l7 y7 z7 st7 hQ7
  replace y7 := y7.symm; replace z7 := z7.symm; subst l7 y7 z7
  obtain ⟨h7, e7⟩ : ∃ z, T7.heap = z := ⟨_, rfl⟩
  rw [e7] at hQ7
  obtain ⟨rfl, N7q, K7q, A_b107_7⟩ := hQ7
  have N7 := Fr.app N6 N7q
  have zz7 : n0 ≤ h7.size := Nat.le_trans zz6 K7q.1
  refine Runs.via (T' := T7) (g' := (mkF m 164 #[.val (.long y0), .second, .val (.int x2), .val (.int x3), .val (.long y4), .second, .val (.int x6), .val (.int x7), .val (.int x8), .val (.int x9), .val (.long y10), .second, .val (.int v1), .val (.ref b107)] [])) (fun t k => st7 _ k) ?_
  refine Runs.via (T' := T7) (g' := (mkF m 177 #[.val (.long y0), .second, .val (.int x2), .val (.int x3), .val (.long y4), .second, .val (.int x6), .val (.int x7), .val (.int x8), .val (.int x9), .val (.long y10), .second, .val (.int v1), .val (.ref b107)] [(.int (1 : Int32)), (.long y10), (.int x8), (.int x7), (.int x6), (.int x9), (.ref b107)])) (fun t k => ?_) ?_
  · show Steps p.tables e below (T7.setTop (mkF m 164 #[.val (.long y0), .second, .val (.int x2), .val (.int x3), .val (.long y4), .second, .val (.int x6), .val (.int x7), .val (.int x8), .val (.int x9), .val (.long y10), .second, .val (.int v1), .val (.ref b107)] [])) t
    refine XS.aload X7.here hx rfl (hb hby at_164) rfl rfl ?_
    show Steps p.tables e below (T7.setTop (mkF m 166 #[.val (.long y0), .second, .val (.int x2), .val (.int x3), .val (.long y4), .second, .val (.int x6), .val (.int x7), .val (.int x8), .val (.int x9), .val (.long y10), .second, .val (.int v1), .val (.ref b107)] [(.ref b107)])) t
    refine XS.iload X7.here hx rfl (hb hby at_166) rfl ?_
    show Steps p.tables e below (T7.setTop (mkF m 168 #[.val (.long y0), .second, .val (.int x2), .val (.int x3), .val (.long y4), .second, .val (.int x6), .val (.int x7), .val (.int x8), .val (.int x9), .val (.long y10), .second, .val (.int v1), .val (.ref b107)] [(.int x9), (.ref b107)])) t
    refine XS.iload X7.here hx rfl (hb hby at_168) rfl ?_
    show Steps p.tables e below (T7.setTop (mkF m 170 #[.val (.long y0), .second, .val (.int x2), .val (.int x3), .val (.long y4), .second, .val (.int x6), .val (.int x7), .val (.int x8), .val (.int x9), .val (.long y10), .second, .val (.int v1), .val (.ref b107)] [(.int x6), (.int x9), (.ref b107)])) t
    refine XS.iload X7.here hx rfl (hb hby at_170) rfl ?_
    show Steps p.tables e below (T7.setTop (mkF m 172 #[.val (.long y0), .second, .val (.int x2), .val (.int x3), .val (.long y4), .second, .val (.int x6), .val (.int x7), .val (.int x8), .val (.int x9), .val (.long y10), .second, .val (.int v1), .val (.ref b107)] [(.int x7), (.int x6), (.int x9), (.ref b107)])) t
    refine XS.iload X7.here hx rfl (hb hby at_172) rfl ?_
    show Steps p.tables e below (T7.setTop (mkF m 174 #[.val (.long y0), .second, .val (.int x2), .val (.int x3), .val (.long y4), .second, .val (.int x6), .val (.int x7), .val (.int x8), .val (.int x9), .val (.long y10), .second, .val (.int v1), .val (.ref b107)] [(.int x8), (.int x7), (.int x6), (.int x9), (.ref b107)])) t
    refine XS.lload X7.here hx rfl (hb hby at_174) rfl ?_
    show Steps p.tables e below (T7.setTop (mkF m 176 #[.val (.long y0), .second, .val (.int x2), .val (.int x3), .val (.long y4), .second, .val (.int x6), .val (.int x7), .val (.int x8), .val (.int x9), .val (.long y10), .second, .val (.int v1), .val (.ref b107)] [(.long y10), (.int x8), (.int x7), (.int x6), (.int x9), (.ref b107)])) t
    refine XS.iconst X7.here hx rfl (hb hby at_176) ?_
    exact k
  refine bindE hr ?_; intro r8 hr8m hr
  obtain ⟨_, _, ⟨T8, L8, k8, n8⟩, -, X8, ⟨Lc8, hQ8, l8, y8, z8⟩, st8⟩ := Jvm.LawKit.callS X7 hx (y := (⟨"com/example/notewright/notewright/DecimalsUnscaledPinLaw", "put", "([BIIZIJI)V"⟩ : MethodName)) hown (mvT hZ (hw _ (List.mem_of_getElem? (i := 9) rfl))) (mvT hZ (hw _ (List.mem_of_getElem? (i := 10) rfl))) (mvT hZ (hw _ (List.mem_of_getElem? (i := 4) rfl))) (mvT hZ (hw _ (List.mem_of_getElem? (i := 11) rfl))) (by decide) (backOf (W := 0) (rm2 l Z a0 hw [] x9 x6 x7 x8 y10 (1 : Int32) b107 r7 h7 n0 zz7 (by omega) A_b107_7 r8 hr8m) hZ (hw _ (List.mem_of_getElem? (i := 11) rfl)) (hw _ (List.mem_of_getElem? (i := 4) rfl)) (by decide) (by decide)) (g := (mkF m 177 #[.val (.long y0), .second, .val (.int x2), .val (.int x3), .val (.long y4), .second, .val (.int x6), .val (.int x7), .val (.int x8), .val (.int x9), .val (.long y10), .second, .val (.int v1), .val (.ref b107)] [(.int (1 : Int32)), (.long y10), (.int x8), (.int x7), (.int x6), (.int x9), (.ref b107)])) rfl (by rw [hml]; rfl) (argsL := [(.ref b107), (.int x9), (.int x6), (.int x7), (.int x8), (.long y10), (.int (1 : Int32))]) (rest := []) (lenOf pd_1 rfl) rfl (by show 2 * 0 + _ ≤ _; exact Nat.le_of_eq rfl) (hb hby at_177) (fun _ _ => ⟨rfl, e7, (by show ((cells + 1) + 0) + 0 ≤ 16; omega), (by show ((slots + 23) + 0) + 0 ≤ 128; omega)⟩)
  dsimp only [Pt.U, Pt.locs, Pt.cells, Pt.slots] at X8 l8 y8 z8 st8 hQ8
  replace y8 := y8.symm; replace z8 := z8.symm; subst l8 y8 z8
  obtain ⟨h8, e8⟩ : ∃ z, T8.heap = z := ⟨_, rfl⟩
  rw [e8] at hQ8
  obtain ⟨rfl, N8q, K8q, A_b107_8⟩ := hQ8
  have N8 := Fr.app N7 N8q
  have zz8 : n0 ≤ h8.size := Nat.le_trans zz7 K8q.1
  refine Runs.via (T' := T8) (g' := (mkF m 180 #[.val (.long y0), .second, .val (.int x2), .val (.int x3), .val (.long y4), .second, .val (.int x6), .val (.int x7), .val (.int x8), .val (.int x9), .val (.long y10), .second, .val (.int v1), .val (.ref b107)] [])) (fun t k => st8 _ k) ?_
  refine Runs.via (T' := T8) (g' := (mkF m 193 #[.val (.long y0), .second, .val (.int x2), .val (.int x3), .val (.long y4), .second, .val (.int x6), .val (.int x7), .val (.int x8), .val (.int x9), .val (.long y10), .second, .val (.int v1), .val (.ref b107)] [(.int (2 : Int32)), (.long y10), (.int x8), (.int x7), (.int x6), (.int x9), (.ref b107)])) (fun t k => ?_) ?_
  · show Steps p.tables e below (T8.setTop (mkF m 180 #[.val (.long y0), .second, .val (.int x2), .val (.int x3), .val (.long y4), .second, .val (.int x6), .val (.int x7), .val (.int x8), .val (.int x9), .val (.long y10), .second, .val (.int v1), .val (.ref b107)] [])) t
    refine XS.aload X8.here hx rfl (hb hby at_180) rfl rfl ?_
    show Steps p.tables e below (T8.setTop (mkF m 182 #[.val (.long y0), .second, .val (.int x2), .val (.int x3), .val (.long y4), .second, .val (.int x6), .val (.int x7), .val (.int x8), .val (.int x9), .val (.long y10), .second, .val (.int v1), .val (.ref b107)] [(.ref b107)])) t
    refine XS.iload X8.here hx rfl (hb hby at_182) rfl ?_
    show Steps p.tables e below (T8.setTop (mkF m 184 #[.val (.long y0), .second, .val (.int x2), .val (.int x3), .val (.long y4), .second, .val (.int x6), .val (.int x7), .val (.int x8), .val (.int x9), .val (.long y10), .second, .val (.int v1), .val (.ref b107)] [(.int x9), (.ref b107)])) t
    refine XS.iload X8.here hx rfl (hb hby at_184) rfl ?_
    show Steps p.tables e below (T8.setTop (mkF m 186 #[.val (.long y0), .second, .val (.int x2), .val (.int x3), .val (.long y4), .second, .val (.int x6), .val (.int x7), .val (.int x8), .val (.int x9), .val (.long y10), .second, .val (.int v1), .val (.ref b107)] [(.int x6), (.int x9), (.ref b107)])) t
    refine XS.iload X8.here hx rfl (hb hby at_186) rfl ?_
    show Steps p.tables e below (T8.setTop (mkF m 188 #[.val (.long y0), .second, .val (.int x2), .val (.int x3), .val (.long y4), .second, .val (.int x6), .val (.int x7), .val (.int x8), .val (.int x9), .val (.long y10), .second, .val (.int v1), .val (.ref b107)] [(.int x7), (.int x6), (.int x9), (.ref b107)])) t
    refine XS.iload X8.here hx rfl (hb hby at_188) rfl ?_
    show Steps p.tables e below (T8.setTop (mkF m 190 #[.val (.long y0), .second, .val (.int x2), .val (.int x3), .val (.long y4), .second, .val (.int x6), .val (.int x7), .val (.int x8), .val (.int x9), .val (.long y10), .second, .val (.int v1), .val (.ref b107)] [(.int x8), (.int x7), (.int x6), (.int x9), (.ref b107)])) t
    refine XS.lload X8.here hx rfl (hb hby at_190) rfl ?_
    show Steps p.tables e below (T8.setTop (mkF m 192 #[.val (.long y0), .second, .val (.int x2), .val (.int x3), .val (.long y4), .second, .val (.int x6), .val (.int x7), .val (.int x8), .val (.int x9), .val (.long y10), .second, .val (.int v1), .val (.ref b107)] [(.long y10), (.int x8), (.int x7), (.int x6), (.int x9), (.ref b107)])) t
    refine XS.iconst X8.here hx rfl (hb hby at_192) ?_
    exact k
  refine bindE hr ?_; intro r9 hr9m hr
  obtain ⟨_, _, ⟨T9, L9, k9, n9⟩, -, X9, ⟨Lc9, hQ9, l9, y9, z9⟩, st9⟩ := Jvm.LawKit.callS X8 hx (y := (⟨"com/example/notewright/notewright/DecimalsUnscaledPinLaw", "put", "([BIIZIJI)V"⟩ : MethodName)) hown (mvT hZ (hw _ (List.mem_of_getElem? (i := 9) rfl))) (mvT hZ (hw _ (List.mem_of_getElem? (i := 10) rfl))) (mvT hZ (hw _ (List.mem_of_getElem? (i := 4) rfl))) (mvT hZ (hw _ (List.mem_of_getElem? (i := 11) rfl))) (by decide) (backOf (W := 0) (rm2 l Z a0 hw [] x9 x6 x7 x8 y10 (2 : Int32) b107 r8 h8 n0 zz8 (by omega) A_b107_8 r9 hr9m) hZ (hw _ (List.mem_of_getElem? (i := 11) rfl)) (hw _ (List.mem_of_getElem? (i := 4) rfl)) (by decide) (by decide)) (g := (mkF m 193 #[.val (.long y0), .second, .val (.int x2), .val (.int x3), .val (.long y4), .second, .val (.int x6), .val (.int x7), .val (.int x8), .val (.int x9), .val (.long y10), .second, .val (.int v1), .val (.ref b107)] [(.int (2 : Int32)), (.long y10), (.int x8), (.int x7), (.int x6), (.int x9), (.ref b107)])) rfl (by rw [hml]; rfl) (argsL := [(.ref b107), (.int x9), (.int x6), (.int x7), (.int x8), (.long y10), (.int (2 : Int32))]) (rest := []) (lenOf pd_1 rfl) rfl (by show 2 * 0 + _ ≤ _; exact Nat.le_of_eq rfl) (hb hby at_193) (fun _ _ => ⟨rfl, e8, (by show (((cells + 1) + 0) + 0) + 0 ≤ 16; omega), (by show (((slots + 23) + 0) + 0) + 0 ≤ 128; omega)⟩)
  dsimp only [Pt.U, Pt.locs, Pt.cells, Pt.slots] at X9 l9 y9 z9 st9 hQ9
  replace y9 := y9.symm; replace z9 := z9.symm; subst l9 y9 z9
  obtain ⟨h9, e9⟩ : ∃ z, T9.heap = z := ⟨_, rfl⟩
  rw [e9] at hQ9
  obtain ⟨rfl, N9q, K9q, A_b107_9⟩ := hQ9
  have N9 := Fr.app N8 N9q
  have zz9 : n0 ≤ h9.size := Nat.le_trans zz8 K9q.1
  refine Runs.via (T' := T9) (g' := (mkF m 196 #[.val (.long y0), .second, .val (.int x2), .val (.int x3), .val (.long y4), .second, .val (.int x6), .val (.int x7), .val (.int x8), .val (.int x9), .val (.long y10), .second, .val (.int v1), .val (.ref b107)] [])) (fun t k => st9 _ k) ?_
  refine Runs.via (T' := T9) (g' := (mkF m 209 #[.val (.long y0), .second, .val (.int x2), .val (.int x3), .val (.long y4), .second, .val (.int x6), .val (.int x7), .val (.int x8), .val (.int x9), .val (.long y10), .second, .val (.int v1), .val (.ref b107)] [(.int (3 : Int32)), (.long y10), (.int x8), (.int x7), (.int x6), (.int x9), (.ref b107)])) (fun t k => ?_) ?_
  · show Steps p.tables e below (T9.setTop (mkF m 196 #[.val (.long y0), .second, .val (.int x2), .val (.int x3), .val (.long y4), .second, .val (.int x6), .val (.int x7), .val (.int x8), .val (.int x9), .val (.long y10), .second, .val (.int v1), .val (.ref b107)] [])) t
    refine XS.aload X9.here hx rfl (hb hby at_196) rfl rfl ?_
    show Steps p.tables e below (T9.setTop (mkF m 198 #[.val (.long y0), .second, .val (.int x2), .val (.int x3), .val (.long y4), .second, .val (.int x6), .val (.int x7), .val (.int x8), .val (.int x9), .val (.long y10), .second, .val (.int v1), .val (.ref b107)] [(.ref b107)])) t
    refine XS.iload X9.here hx rfl (hb hby at_198) rfl ?_
    show Steps p.tables e below (T9.setTop (mkF m 200 #[.val (.long y0), .second, .val (.int x2), .val (.int x3), .val (.long y4), .second, .val (.int x6), .val (.int x7), .val (.int x8), .val (.int x9), .val (.long y10), .second, .val (.int v1), .val (.ref b107)] [(.int x9), (.ref b107)])) t
    refine XS.iload X9.here hx rfl (hb hby at_200) rfl ?_
    show Steps p.tables e below (T9.setTop (mkF m 202 #[.val (.long y0), .second, .val (.int x2), .val (.int x3), .val (.long y4), .second, .val (.int x6), .val (.int x7), .val (.int x8), .val (.int x9), .val (.long y10), .second, .val (.int v1), .val (.ref b107)] [(.int x6), (.int x9), (.ref b107)])) t
    refine XS.iload X9.here hx rfl (hb hby at_202) rfl ?_
    show Steps p.tables e below (T9.setTop (mkF m 204 #[.val (.long y0), .second, .val (.int x2), .val (.int x3), .val (.long y4), .second, .val (.int x6), .val (.int x7), .val (.int x8), .val (.int x9), .val (.long y10), .second, .val (.int v1), .val (.ref b107)] [(.int x7), (.int x6), (.int x9), (.ref b107)])) t
    refine XS.iload X9.here hx rfl (hb hby at_204) rfl ?_
    show Steps p.tables e below (T9.setTop (mkF m 206 #[.val (.long y0), .second, .val (.int x2), .val (.int x3), .val (.long y4), .second, .val (.int x6), .val (.int x7), .val (.int x8), .val (.int x9), .val (.long y10), .second, .val (.int v1), .val (.ref b107)] [(.int x8), (.int x7), (.int x6), (.int x9), (.ref b107)])) t
    refine XS.lload X9.here hx rfl (hb hby at_206) rfl ?_
    show Steps p.tables e below (T9.setTop (mkF m 208 #[.val (.long y0), .second, .val (.int x2), .val (.int x3), .val (.long y4), .second, .val (.int x6), .val (.int x7), .val (.int x8), .val (.int x9), .val (.long y10), .second, .val (.int v1), .val (.ref b107)] [(.long y10), (.int x8), (.int x7), (.int x6), (.int x9), (.ref b107)])) t
    refine XS.iconst X9.here hx rfl (hb hby at_208) ?_
    exact k
  refine bindE hr ?_; intro r10 hr10m hr
  obtain ⟨_, _, ⟨T10, L10, k10, n10⟩, -, X10, ⟨Lc10, hQ10, l10, y10, z10⟩, st10⟩ := Jvm.LawKit.callS X9 hx (y := (⟨"com/example/notewright/notewright/DecimalsUnscaledPinLaw", "put", "([BIIZIJI)V"⟩ : MethodName)) hown (mvT hZ (hw _ (List.mem_of_getElem? (i := 9) rfl))) (mvT hZ (hw _ (List.mem_of_getElem? (i := 10) rfl))) (mvT hZ (hw _ (List.mem_of_getElem? (i := 4) rfl))) (mvT hZ (hw _ (List.mem_of_getElem? (i := 11) rfl))) (by decide) (backOf (W := 0) (rm2 l Z a0 hw [] x9 x6 x7 x8 y10 (3 : Int32) b107 r9 h9 n0 zz9 (by omega) A_b107_9 r10 hr10m) hZ (hw _ (List.mem_of_getElem? (i := 11) rfl)) (hw _ (List.mem_of_getElem? (i := 4) rfl)) (by decide) (by decide)) (g := (mkF m 209 #[.val (.long y0), .second, .val (.int x2), .val (.int x3), .val (.long y4), .second, .val (.int x6), .val (.int x7), .val (.int x8), .val (.int x9), .val (.long y10), .second, .val (.int v1), .val (.ref b107)] [(.int (3 : Int32)), (.long y10), (.int x8), (.int x7), (.int x6), (.int x9), (.ref b107)])) rfl (by rw [hml]; rfl) (argsL := [(.ref b107), (.int x9), (.int x6), (.int x7), (.int x8), (.long y10), (.int (3 : Int32))]) (rest := []) (lenOf pd_1 rfl) rfl (by show 2 * 0 + _ ≤ _; exact Nat.le_of_eq rfl) (hb hby at_209) (fun _ _ => ⟨rfl, e9, (by show ((((cells + 1) + 0) + 0) + 0) + 0 ≤ 16; omega), (by show ((((slots + 23) + 0) + 0) + 0) + 0 ≤ 128; omega)⟩)
  dsimp only [Pt.U, Pt.locs, Pt.cells, Pt.slots] at X10 l10 y10 z10 st10 hQ10
  replace y10 := y10.symm; replace z10 := z10.symm; subst l10 y10 z10
  obtain ⟨h10, e10⟩ : ∃ z, T10.heap = z := ⟨_, rfl⟩
  rw [e10] at hQ10
  obtain ⟨rfl, N10q, K10q, A_b107_10⟩ := hQ10
  have N10 := Fr.app N9 N10q
  have zz10 : n0 ≤ h10.size := Nat.le_trans zz9 K10q.1
  refine Runs.via (T' := T10) (g' := (mkF m 212 #[.val (.long y0), .second, .val (.int x2), .val (.int x3), .val (.long y4), .second, .val (.int x6), .val (.int x7), .val (.int x8), .val (.int x9), .val (.long y10), .second, .val (.int v1), .val (.ref b107)] [])) (fun t k => st10 _ k) ?_
  refine Runs.via (T' := T10) (g' := (mkF m 225 #[.val (.long y0), .second, .val (.int x2), .val (.int x3), .val (.long y4), .second, .val (.int x6), .val (.int x7), .val (.int x8), .val (.int x9), .val (.long y10), .second, .val (.int v1), .val (.ref b107)] [(.int (4 : Int32)), (.long y10), (.int x8), (.int x7), (.int x6), (.int x9), (.ref b107)])) (fun t k => ?_) ?_
  · show Steps p.tables e below (T10.setTop (mkF m 212 #[.val (.long y0), .second, .val (.int x2), .val (.int x3), .val (.long y4), .second, .val (.int x6), .val (.int x7), .val (.int x8), .val (.int x9), .val (.long y10), .second, .val (.int v1), .val (.ref b107)] [])) t
    refine XS.aload X10.here hx rfl (hb hby at_212) rfl rfl ?_
    show Steps p.tables e below (T10.setTop (mkF m 214 #[.val (.long y0), .second, .val (.int x2), .val (.int x3), .val (.long y4), .second, .val (.int x6), .val (.int x7), .val (.int x8), .val (.int x9), .val (.long y10), .second, .val (.int v1), .val (.ref b107)] [(.ref b107)])) t
    refine XS.iload X10.here hx rfl (hb hby at_214) rfl ?_
    show Steps p.tables e below (T10.setTop (mkF m 216 #[.val (.long y0), .second, .val (.int x2), .val (.int x3), .val (.long y4), .second, .val (.int x6), .val (.int x7), .val (.int x8), .val (.int x9), .val (.long y10), .second, .val (.int v1), .val (.ref b107)] [(.int x9), (.ref b107)])) t
    refine XS.iload X10.here hx rfl (hb hby at_216) rfl ?_
    show Steps p.tables e below (T10.setTop (mkF m 218 #[.val (.long y0), .second, .val (.int x2), .val (.int x3), .val (.long y4), .second, .val (.int x6), .val (.int x7), .val (.int x8), .val (.int x9), .val (.long y10), .second, .val (.int v1), .val (.ref b107)] [(.int x6), (.int x9), (.ref b107)])) t
    refine XS.iload X10.here hx rfl (hb hby at_218) rfl ?_
    show Steps p.tables e below (T10.setTop (mkF m 220 #[.val (.long y0), .second, .val (.int x2), .val (.int x3), .val (.long y4), .second, .val (.int x6), .val (.int x7), .val (.int x8), .val (.int x9), .val (.long y10), .second, .val (.int v1), .val (.ref b107)] [(.int x7), (.int x6), (.int x9), (.ref b107)])) t
    refine XS.iload X10.here hx rfl (hb hby at_220) rfl ?_
    show Steps p.tables e below (T10.setTop (mkF m 222 #[.val (.long y0), .second, .val (.int x2), .val (.int x3), .val (.long y4), .second, .val (.int x6), .val (.int x7), .val (.int x8), .val (.int x9), .val (.long y10), .second, .val (.int v1), .val (.ref b107)] [(.int x8), (.int x7), (.int x6), (.int x9), (.ref b107)])) t
    refine XS.lload X10.here hx rfl (hb hby at_222) rfl ?_
    show Steps p.tables e below (T10.setTop (mkF m 224 #[.val (.long y0), .second, .val (.int x2), .val (.int x3), .val (.long y4), .second, .val (.int x6), .val (.int x7), .val (.int x8), .val (.int x9), .val (.long y10), .second, .val (.int v1), .val (.ref b107)] [(.long y10), (.int x8), (.int x7), (.int x6), (.int x9), (.ref b107)])) t
    refine XS.iconst X10.here hx rfl (hb hby at_224) ?_
    exact k
  refine bindE hr ?_; intro r11 hr11m hr
  obtain ⟨_, _, ⟨T11, L11, k11, n11⟩, -, X11, ⟨Lc11, hQ11, l11, y11, z11⟩, st11⟩ := Jvm.LawKit.callS X10 hx (y := (⟨"com/example/notewright/notewright/DecimalsUnscaledPinLaw", "put", "([BIIZIJI)V"⟩ : MethodName)) hown (mvT hZ (hw _ (List.mem_of_getElem? (i := 9) rfl))) (mvT hZ (hw _ (List.mem_of_getElem? (i := 10) rfl))) (mvT hZ (hw _ (List.mem_of_getElem? (i := 4) rfl))) (mvT hZ (hw _ (List.mem_of_getElem? (i := 11) rfl))) (by decide) (backOf (W := 0) (rm2 l Z a0 hw [] x9 x6 x7 x8 y10 (4 : Int32) b107 r10 h10 n0 zz10 (by omega) A_b107_10 r11 hr11m) hZ (hw _ (List.mem_of_getElem? (i := 11) rfl)) (hw _ (List.mem_of_getElem? (i := 4) rfl)) (by decide) (by decide)) (g := (mkF m 225 #[.val (.long y0), .second, .val (.int x2), .val (.int x3), .val (.long y4), .second, .val (.int x6), .val (.int x7), .val (.int x8), .val (.int x9), .val (.long y10), .second, .val (.int v1), .val (.ref b107)] [(.int (4 : Int32)), (.long y10), (.int x8), (.int x7), (.int x6), (.int x9), (.ref b107)])) rfl (by rw [hml]; rfl) (argsL := [(.ref b107), (.int x9), (.int x6), (.int x7), (.int x8), (.long y10), (.int (4 : Int32))]) (rest := []) (lenOf pd_1 rfl) rfl (by show 2 * 0 + _ ≤ _; exact Nat.le_of_eq rfl) (hb hby at_225) (fun _ _ => ⟨rfl, e10, (by show (((((cells + 1) + 0) + 0) + 0) + 0) + 0 ≤ 16; omega), (by show (((((slots + 23) + 0) + 0) + 0) + 0) + 0 ≤ 128; omega)⟩)
  dsimp only [Pt.U, Pt.locs, Pt.cells, Pt.slots] at X11 l11 y11 z11 st11 hQ11
  replace y11 := y11.symm; replace z11 := z11.symm; subst l11 y11 z11
  obtain ⟨h11, e11⟩ : ∃ z, T11.heap = z := ⟨_, rfl⟩
  rw [e11] at hQ11
  obtain ⟨rfl, N11q, K11q, A_b107_11⟩ := hQ11
  have N11 := Fr.app N10 N11q
  have zz11 : n0 ≤ h11.size := Nat.le_trans zz10 K11q.1
  refine Runs.via (T' := T11) (g' := (mkF m 228 #[.val (.long y0), .second, .val (.int x2), .val (.int x3), .val (.long y4), .second, .val (.int x6), .val (.int x7), .val (.int x8), .val (.int x9), .val (.long y10), .second, .val (.int v1), .val (.ref b107)] [])) (fun t k => st11 _ k) ?_
  refine Runs.via (T' := T11) (g' := (mkF m 241 #[.val (.long y0), .second, .val (.int x2), .val (.int x3), .val (.long y4), .second, .val (.int x6), .val (.int x7), .val (.int x8), .val (.int x9), .val (.long y10), .second, .val (.int v1), .val (.ref b107)] [(.int (5 : Int32)), (.long y10), (.int x8), (.int x7), (.int x6), (.int x9), (.ref b107)])) (fun t k => ?_) ?_
  · show Steps p.tables e below (T11.setTop (mkF m 228 #[.val (.long y0), .second, .val (.int x2), .val (.int x3), .val (.long y4), .second, .val (.int x6), .val (.int x7), .val (.int x8), .val (.int x9), .val (.long y10), .second, .val (.int v1), .val (.ref b107)] [])) t
    refine XS.aload X11.here hx rfl (hb hby at_228) rfl rfl ?_
    show Steps p.tables e below (T11.setTop (mkF m 230 #[.val (.long y0), .second, .val (.int x2), .val (.int x3), .val (.long y4), .second, .val (.int x6), .val (.int x7), .val (.int x8), .val (.int x9), .val (.long y10), .second, .val (.int v1), .val (.ref b107)] [(.ref b107)])) t
    refine XS.iload X11.here hx rfl (hb hby at_230) rfl ?_
    show Steps p.tables e below (T11.setTop (mkF m 232 #[.val (.long y0), .second, .val (.int x2), .val (.int x3), .val (.long y4), .second, .val (.int x6), .val (.int x7), .val (.int x8), .val (.int x9), .val (.long y10), .second, .val (.int v1), .val (.ref b107)] [(.int x9), (.ref b107)])) t
    refine XS.iload X11.here hx rfl (hb hby at_232) rfl ?_
    show Steps p.tables e below (T11.setTop (mkF m 234 #[.val (.long y0), .second, .val (.int x2), .val (.int x3), .val (.long y4), .second, .val (.int x6), .val (.int x7), .val (.int x8), .val (.int x9), .val (.long y10), .second, .val (.int v1), .val (.ref b107)] [(.int x6), (.int x9), (.ref b107)])) t
    refine XS.iload X11.here hx rfl (hb hby at_234) rfl ?_
    show Steps p.tables e below (T11.setTop (mkF m 236 #[.val (.long y0), .second, .val (.int x2), .val (.int x3), .val (.long y4), .second, .val (.int x6), .val (.int x7), .val (.int x8), .val (.int x9), .val (.long y10), .second, .val (.int v1), .val (.ref b107)] [(.int x7), (.int x6), (.int x9), (.ref b107)])) t
    refine XS.iload X11.here hx rfl (hb hby at_236) rfl ?_
    show Steps p.tables e below (T11.setTop (mkF m 238 #[.val (.long y0), .second, .val (.int x2), .val (.int x3), .val (.long y4), .second, .val (.int x6), .val (.int x7), .val (.int x8), .val (.int x9), .val (.long y10), .second, .val (.int v1), .val (.ref b107)] [(.int x8), (.int x7), (.int x6), (.int x9), (.ref b107)])) t
    refine XS.lload X11.here hx rfl (hb hby at_238) rfl ?_
    show Steps p.tables e below (T11.setTop (mkF m 240 #[.val (.long y0), .second, .val (.int x2), .val (.int x3), .val (.long y4), .second, .val (.int x6), .val (.int x7), .val (.int x8), .val (.int x9), .val (.long y10), .second, .val (.int v1), .val (.ref b107)] [(.long y10), (.int x8), (.int x7), (.int x6), (.int x9), (.ref b107)])) t
    refine XS.iconst X11.here hx rfl (hb hby at_240) ?_
    exact k
  refine bindE hr ?_; intro r12 hr12m hr
  obtain ⟨_, _, ⟨T12, L12, k12, n12⟩, -, X12, ⟨Lc12, hQ12, l12, y12, z12⟩, st12⟩ := Jvm.LawKit.callS X11 hx (y := (⟨"com/example/notewright/notewright/DecimalsUnscaledPinLaw", "put", "([BIIZIJI)V"⟩ : MethodName)) hown (mvT hZ (hw _ (List.mem_of_getElem? (i := 9) rfl))) (mvT hZ (hw _ (List.mem_of_getElem? (i := 10) rfl))) (mvT hZ (hw _ (List.mem_of_getElem? (i := 4) rfl))) (mvT hZ (hw _ (List.mem_of_getElem? (i := 11) rfl))) (by decide) (backOf (W := 0) (rm2 l Z a0 hw [] x9 x6 x7 x8 y10 (5 : Int32) b107 r11 h11 n0 zz11 (by omega) A_b107_11 r12 hr12m) hZ (hw _ (List.mem_of_getElem? (i := 11) rfl)) (hw _ (List.mem_of_getElem? (i := 4) rfl)) (by decide) (by decide)) (g := (mkF m 241 #[.val (.long y0), .second, .val (.int x2), .val (.int x3), .val (.long y4), .second, .val (.int x6), .val (.int x7), .val (.int x8), .val (.int x9), .val (.long y10), .second, .val (.int v1), .val (.ref b107)] [(.int (5 : Int32)), (.long y10), (.int x8), (.int x7), (.int x6), (.int x9), (.ref b107)])) rfl (by rw [hml]; rfl) (argsL := [(.ref b107), (.int x9), (.int x6), (.int x7), (.int x8), (.long y10), (.int (5 : Int32))]) (rest := []) (lenOf pd_1 rfl) rfl (by show 2 * 0 + _ ≤ _; exact Nat.le_of_eq rfl) (hb hby at_241) (fun _ _ => ⟨rfl, e11, (by show ((((((cells + 1) + 0) + 0) + 0) + 0) + 0) + 0 ≤ 16; omega), (by show ((((((slots + 23) + 0) + 0) + 0) + 0) + 0) + 0 ≤ 128; omega)⟩)
  dsimp only [Pt.U, Pt.locs, Pt.cells, Pt.slots] at X12 l12 y12 z12 st12 hQ12
  replace y12 := y12.symm; replace z12 := z12.symm; subst l12 y12 z12
  obtain ⟨h12, e12⟩ : ∃ z, T12.heap = z := ⟨_, rfl⟩
  rw [e12] at hQ12
  obtain ⟨rfl, N12q, K12q, A_b107_12⟩ := hQ12
  have N12 := Fr.app N11 N12q
  have zz12 : n0 ≤ h12.size := Nat.le_trans zz11 K12q.1
  refine Runs.via (T' := T12) (g' := (mkF m 244 #[.val (.long y0), .second, .val (.int x2), .val (.int x3), .val (.long y4), .second, .val (.int x6), .val (.int x7), .val (.int x8), .val (.int x9), .val (.long y10), .second, .val (.int v1), .val (.ref b107)] [])) (fun t k => st12 _ k) ?_
  refine Runs.via (T' := T12) (g' := (mkF m 258 #[.val (.long y0), .second, .val (.int x2), .val (.int x3), .val (.long y4), .second, .val (.int x6), .val (.int x7), .val (.int x8), .val (.int x9), .val (.long y10), .second, .val (.int v1), .val (.ref b107)] [(.int (6 : Int32)), (.long y10), (.int x8), (.int x7), (.int x6), (.int x9), (.ref b107)])) (fun t k => ?_) ?_
  · show Steps p.tables e below (T12.setTop (mkF m 244 #[.val (.long y0), .second, .val (.int x2), .val (.int x3), .val (.long y4), .second, .val (.int x6), .val (.int x7), .val (.int x8), .val (.int x9), .val (.long y10), .second, .val (.int v1), .val (.ref b107)] [])) t
    refine XS.aload X12.here hx rfl (hb hby at_244) rfl rfl ?_
    show Steps p.tables e below (T12.setTop (mkF m 246 #[.val (.long y0), .second, .val (.int x2), .val (.int x3), .val (.long y4), .second, .val (.int x6), .val (.int x7), .val (.int x8), .val (.int x9), .val (.long y10), .second, .val (.int v1), .val (.ref b107)] [(.ref b107)])) t
    refine XS.iload X12.here hx rfl (hb hby at_246) rfl ?_
    show Steps p.tables e below (T12.setTop (mkF m 248 #[.val (.long y0), .second, .val (.int x2), .val (.int x3), .val (.long y4), .second, .val (.int x6), .val (.int x7), .val (.int x8), .val (.int x9), .val (.long y10), .second, .val (.int v1), .val (.ref b107)] [(.int x9), (.ref b107)])) t
    refine XS.iload X12.here hx rfl (hb hby at_248) rfl ?_
    show Steps p.tables e below (T12.setTop (mkF m 250 #[.val (.long y0), .second, .val (.int x2), .val (.int x3), .val (.long y4), .second, .val (.int x6), .val (.int x7), .val (.int x8), .val (.int x9), .val (.long y10), .second, .val (.int v1), .val (.ref b107)] [(.int x6), (.int x9), (.ref b107)])) t
    refine XS.iload X12.here hx rfl (hb hby at_250) rfl ?_
    show Steps p.tables e below (T12.setTop (mkF m 252 #[.val (.long y0), .second, .val (.int x2), .val (.int x3), .val (.long y4), .second, .val (.int x6), .val (.int x7), .val (.int x8), .val (.int x9), .val (.long y10), .second, .val (.int v1), .val (.ref b107)] [(.int x7), (.int x6), (.int x9), (.ref b107)])) t
    refine XS.iload X12.here hx rfl (hb hby at_252) rfl ?_
    show Steps p.tables e below (T12.setTop (mkF m 254 #[.val (.long y0), .second, .val (.int x2), .val (.int x3), .val (.long y4), .second, .val (.int x6), .val (.int x7), .val (.int x8), .val (.int x9), .val (.long y10), .second, .val (.int v1), .val (.ref b107)] [(.int x8), (.int x7), (.int x6), (.int x9), (.ref b107)])) t
    refine XS.lload X12.here hx rfl (hb hby at_254) rfl ?_
    show Steps p.tables e below (T12.setTop (mkF m 256 #[.val (.long y0), .second, .val (.int x2), .val (.int x3), .val (.long y4), .second, .val (.int x6), .val (.int x7), .val (.int x8), .val (.int x9), .val (.long y10), .second, .val (.int v1), .val (.ref b107)] [(.long y10), (.int x8), (.int x7), (.int x6), (.int x9), (.ref b107)])) t
    refine XS.bipush X12.here hx rfl (hb hby at_256) ?_
    exact k
  refine bindE hr ?_; intro r13 hr13m hr
  obtain ⟨_, _, ⟨T13, L13, k13, n13⟩, -, X13, ⟨Lc13, hQ13, l13, y13, z13⟩, st13⟩ := Jvm.LawKit.callS X12 hx (y := (⟨"com/example/notewright/notewright/DecimalsUnscaledPinLaw", "put", "([BIIZIJI)V"⟩ : MethodName)) hown (mvT hZ (hw _ (List.mem_of_getElem? (i := 9) rfl))) (mvT hZ (hw _ (List.mem_of_getElem? (i := 10) rfl))) (mvT hZ (hw _ (List.mem_of_getElem? (i := 4) rfl))) (mvT hZ (hw _ (List.mem_of_getElem? (i := 11) rfl))) (by decide) (backOf (W := 0) (rm2 l Z a0 hw [] x9 x6 x7 x8 y10 (6 : Int32) b107 r12 h12 n0 zz12 (by omega) A_b107_12 r13 hr13m) hZ (hw _ (List.mem_of_getElem? (i := 11) rfl)) (hw _ (List.mem_of_getElem? (i := 4) rfl)) (by decide) (by decide)) (g := (mkF m 258 #[.val (.long y0), .second, .val (.int x2), .val (.int x3), .val (.long y4), .second, .val (.int x6), .val (.int x7), .val (.int x8), .val (.int x9), .val (.long y10), .second, .val (.int v1), .val (.ref b107)] [(.int (6 : Int32)), (.long y10), (.int x8), (.int x7), (.int x6), (.int x9), (.ref b107)])) rfl (by rw [hml]; rfl) (argsL := [(.ref b107), (.int x9), (.int x6), (.int x7), (.int x8), (.long y10), (.int (6 : Int32))]) (rest := []) (lenOf pd_1 rfl) rfl (by show 2 * 0 + _ ≤ _; exact Nat.le_of_eq rfl) (hb hby at_258) (fun _ _ => ⟨rfl, e12, (by show (((((((cells + 1) + 0) + 0) + 0) + 0) + 0) + 0) + 0 ≤ 16; omega), (by show (((((((slots + 23) + 0) + 0) + 0) + 0) + 0) + 0) + 0 ≤ 128; omega)⟩)
  dsimp only [Pt.U, Pt.locs, Pt.cells, Pt.slots] at X13 l13 y13 z13 st13 hQ13
  replace y13 := y13.symm; replace z13 := z13.symm; subst l13 y13 z13
  obtain ⟨h13, e13⟩ : ∃ z, T13.heap = z := ⟨_, rfl⟩
  rw [e13] at hQ13
  obtain ⟨rfl, N13q, K13q, A_b107_13⟩ := hQ13
  have N13 := Fr.app N12 N13q
  have zz13 : n0 ≤ h13.size := Nat.le_trans zz12 K13q.1
  refine Runs.via (T' := T13) (g' := (mkF m 261 #[.val (.long y0), .second, .val (.int x2), .val (.int x3), .val (.long y4), .second, .val (.int x6), .val (.int x7), .val (.int x8), .val (.int x9), .val (.long y10), .second, .val (.int v1), .val (.ref b107)] [])) (fun t k => st13 _ k) ?_
  refine Runs.via (T' := T13) (g' := (mkF m 275 #[.val (.long y0), .second, .val (.int x2), .val (.int x3), .val (.long y4), .second, .val (.int x6), .val (.int x7), .val (.int x8), .val (.int x9), .val (.long y10), .second, .val (.int v1), .val (.ref b107)] [(.int (7 : Int32)), (.long y10), (.int x8), (.int x7), (.int x6), (.int x9), (.ref b107)])) (fun t k => ?_) ?_
  · show Steps p.tables e below (T13.setTop (mkF m 261 #[.val (.long y0), .second, .val (.int x2), .val (.int x3), .val (.long y4), .second, .val (.int x6), .val (.int x7), .val (.int x8), .val (.int x9), .val (.long y10), .second, .val (.int v1), .val (.ref b107)] [])) t
    refine XS.aload X13.here hx rfl (hb hby at_261) rfl rfl ?_
    show Steps p.tables e below (T13.setTop (mkF m 263 #[.val (.long y0), .second, .val (.int x2), .val (.int x3), .val (.long y4), .second, .val (.int x6), .val (.int x7), .val (.int x8), .val (.int x9), .val (.long y10), .second, .val (.int v1), .val (.ref b107)] [(.ref b107)])) t
    refine XS.iload X13.here hx rfl (hb hby at_263) rfl ?_
    show Steps p.tables e below (T13.setTop (mkF m 265 #[.val (.long y0), .second, .val (.int x2), .val (.int x3), .val (.long y4), .second, .val (.int x6), .val (.int x7), .val (.int x8), .val (.int x9), .val (.long y10), .second, .val (.int v1), .val (.ref b107)] [(.int x9), (.ref b107)])) t
    refine XS.iload X13.here hx rfl (hb hby at_265) rfl ?_
    show Steps p.tables e below (T13.setTop (mkF m 267 #[.val (.long y0), .second, .val (.int x2), .val (.int x3), .val (.long y4), .second, .val (.int x6), .val (.int x7), .val (.int x8), .val (.int x9), .val (.long y10), .second, .val (.int v1), .val (.ref b107)] [(.int x6), (.int x9), (.ref b107)])) t
    refine XS.iload X13.here hx rfl (hb hby at_267) rfl ?_
    show Steps p.tables e below (T13.setTop (mkF m 269 #[.val (.long y0), .second, .val (.int x2), .val (.int x3), .val (.long y4), .second, .val (.int x6), .val (.int x7), .val (.int x8), .val (.int x9), .val (.long y10), .second, .val (.int v1), .val (.ref b107)] [(.int x7), (.int x6), (.int x9), (.ref b107)])) t
    refine XS.iload X13.here hx rfl (hb hby at_269) rfl ?_
    show Steps p.tables e below (T13.setTop (mkF m 271 #[.val (.long y0), .second, .val (.int x2), .val (.int x3), .val (.long y4), .second, .val (.int x6), .val (.int x7), .val (.int x8), .val (.int x9), .val (.long y10), .second, .val (.int v1), .val (.ref b107)] [(.int x8), (.int x7), (.int x6), (.int x9), (.ref b107)])) t
    refine XS.lload X13.here hx rfl (hb hby at_271) rfl ?_
    show Steps p.tables e below (T13.setTop (mkF m 273 #[.val (.long y0), .second, .val (.int x2), .val (.int x3), .val (.long y4), .second, .val (.int x6), .val (.int x7), .val (.int x8), .val (.int x9), .val (.long y10), .second, .val (.int v1), .val (.ref b107)] [(.long y10), (.int x8), (.int x7), (.int x6), (.int x9), (.ref b107)])) t
    refine XS.bipush X13.here hx rfl (hb hby at_273) ?_
    exact k
  refine bindE hr ?_; intro r14 hr14m hr
  obtain ⟨_, _, ⟨T14, L14, k14, n14⟩, -, X14, ⟨Lc14, hQ14, l14, y14, z14⟩, st14⟩ := Jvm.LawKit.callS X13 hx (y := (⟨"com/example/notewright/notewright/DecimalsUnscaledPinLaw", "put", "([BIIZIJI)V"⟩ : MethodName)) hown (mvT hZ (hw _ (List.mem_of_getElem? (i := 9) rfl))) (mvT hZ (hw _ (List.mem_of_getElem? (i := 10) rfl))) (mvT hZ (hw _ (List.mem_of_getElem? (i := 4) rfl))) (mvT hZ (hw _ (List.mem_of_getElem? (i := 11) rfl))) (by decide) (backOf (W := 0) (rm2 l Z a0 hw [] x9 x6 x7 x8 y10 (7 : Int32) b107 r13 h13 n0 zz13 (by omega) A_b107_13 r14 hr14m) hZ (hw _ (List.mem_of_getElem? (i := 11) rfl)) (hw _ (List.mem_of_getElem? (i := 4) rfl)) (by decide) (by decide)) (g := (mkF m 275 #[.val (.long y0), .second, .val (.int x2), .val (.int x3), .val (.long y4), .second, .val (.int x6), .val (.int x7), .val (.int x8), .val (.int x9), .val (.long y10), .second, .val (.int v1), .val (.ref b107)] [(.int (7 : Int32)), (.long y10), (.int x8), (.int x7), (.int x6), (.int x9), (.ref b107)])) rfl (by rw [hml]; rfl) (argsL := [(.ref b107), (.int x9), (.int x6), (.int x7), (.int x8), (.long y10), (.int (7 : Int32))]) (rest := []) (lenOf pd_1 rfl) rfl (by show 2 * 0 + _ ≤ _; exact Nat.le_of_eq rfl) (hb hby at_275) (fun _ _ => ⟨rfl, e13, (by show ((((((((cells + 1) + 0) + 0) + 0) + 0) + 0) + 0) + 0) + 0 ≤ 16; omega), (by show ((((((((slots + 23) + 0) + 0) + 0) + 0) + 0) + 0) + 0) + 0 ≤ 128; omega)⟩)
  dsimp only [Pt.U, Pt.locs, Pt.cells, Pt.slots] at X14 l14 y14 z14 st14 hQ14
  replace y14 := y14.symm; replace z14 := z14.symm; subst l14 y14 z14
  obtain ⟨h14, e14⟩ : ∃ z, T14.heap = z := ⟨_, rfl⟩
  rw [e14] at hQ14
  obtain ⟨rfl, N14q, K14q, A_b107_14⟩ := hQ14
  have N14 := Fr.app N13 N14q
  have zz14 : n0 ≤ h14.size := Nat.le_trans zz13 K14q.1
  refine Runs.via (T' := T14) (g' := (mkF m 278 #[.val (.long y0), .second, .val (.int x2), .val (.int x3), .val (.long y4), .second, .val (.int x6), .val (.int x7), .val (.int x8), .val (.int x9), .val (.long y10), .second, .val (.int v1), .val (.ref b107)] [])) (fun t k => st14 _ k) ?_
  refine Runs.via (T' := T14) (g' := (mkF m 292 #[.val (.long y0), .second, .val (.int x2), .val (.int x3), .val (.long y4), .second, .val (.int x6), .val (.int x7), .val (.int x8), .val (.int x9), .val (.long y10), .second, .val (.int v1), .val (.ref b107)] [(.int (8 : Int32)), (.long y10), (.int x8), (.int x7), (.int x6), (.int x9), (.ref b107)])) (fun t k => ?_) ?_
  · show Steps p.tables e below (T14.setTop (mkF m 278 #[.val (.long y0), .second, .val (.int x2), .val (.int x3), .val (.long y4), .second, .val (.int x6), .val (.int x7), .val (.int x8), .val (.int x9), .val (.long y10), .second, .val (.int v1), .val (.ref b107)] [])) t
    refine XS.aload X14.here hx rfl (hb hby at_278) rfl rfl ?_
    show Steps p.tables e below (T14.setTop (mkF m 280 #[.val (.long y0), .second, .val (.int x2), .val (.int x3), .val (.long y4), .second, .val (.int x6), .val (.int x7), .val (.int x8), .val (.int x9), .val (.long y10), .second, .val (.int v1), .val (.ref b107)] [(.ref b107)])) t
    refine XS.iload X14.here hx rfl (hb hby at_280) rfl ?_
    show Steps p.tables e below (T14.setTop (mkF m 282 #[.val (.long y0), .second, .val (.int x2), .val (.int x3), .val (.long y4), .second, .val (.int x6), .val (.int x7), .val (.int x8), .val (.int x9), .val (.long y10), .second, .val (.int v1), .val (.ref b107)] [(.int x9), (.ref b107)])) t
    refine XS.iload X14.here hx rfl (hb hby at_282) rfl ?_
    show Steps p.tables e below (T14.setTop (mkF m 284 #[.val (.long y0), .second, .val (.int x2), .val (.int x3), .val (.long y4), .second, .val (.int x6), .val (.int x7), .val (.int x8), .val (.int x9), .val (.long y10), .second, .val (.int v1), .val (.ref b107)] [(.int x6), (.int x9), (.ref b107)])) t
    refine XS.iload X14.here hx rfl (hb hby at_284) rfl ?_
    show Steps p.tables e below (T14.setTop (mkF m 286 #[.val (.long y0), .second, .val (.int x2), .val (.int x3), .val (.long y4), .second, .val (.int x6), .val (.int x7), .val (.int x8), .val (.int x9), .val (.long y10), .second, .val (.int v1), .val (.ref b107)] [(.int x7), (.int x6), (.int x9), (.ref b107)])) t
    refine XS.iload X14.here hx rfl (hb hby at_286) rfl ?_
    show Steps p.tables e below (T14.setTop (mkF m 288 #[.val (.long y0), .second, .val (.int x2), .val (.int x3), .val (.long y4), .second, .val (.int x6), .val (.int x7), .val (.int x8), .val (.int x9), .val (.long y10), .second, .val (.int v1), .val (.ref b107)] [(.int x8), (.int x7), (.int x6), (.int x9), (.ref b107)])) t
    refine XS.lload X14.here hx rfl (hb hby at_288) rfl ?_
    show Steps p.tables e below (T14.setTop (mkF m 290 #[.val (.long y0), .second, .val (.int x2), .val (.int x3), .val (.long y4), .second, .val (.int x6), .val (.int x7), .val (.int x8), .val (.int x9), .val (.long y10), .second, .val (.int v1), .val (.ref b107)] [(.long y10), (.int x8), (.int x7), (.int x6), (.int x9), (.ref b107)])) t
    refine XS.bipush X14.here hx rfl (hb hby at_290) ?_
    exact k
  refine bindE hr ?_; intro r15 hr15m hr
  obtain ⟨_, _, ⟨T15, L15, k15, n15⟩, -, X15, ⟨Lc15, hQ15, l15, y15, z15⟩, st15⟩ := Jvm.LawKit.callS X14 hx (y := (⟨"com/example/notewright/notewright/DecimalsUnscaledPinLaw", "put", "([BIIZIJI)V"⟩ : MethodName)) hown (mvT hZ (hw _ (List.mem_of_getElem? (i := 9) rfl))) (mvT hZ (hw _ (List.mem_of_getElem? (i := 10) rfl))) (mvT hZ (hw _ (List.mem_of_getElem? (i := 4) rfl))) (mvT hZ (hw _ (List.mem_of_getElem? (i := 11) rfl))) (by decide) (backOf (W := 0) (rm2 l Z a0 hw [] x9 x6 x7 x8 y10 (8 : Int32) b107 r14 h14 n0 zz14 (by omega) A_b107_14 r15 hr15m) hZ (hw _ (List.mem_of_getElem? (i := 11) rfl)) (hw _ (List.mem_of_getElem? (i := 4) rfl)) (by decide) (by decide)) (g := (mkF m 292 #[.val (.long y0), .second, .val (.int x2), .val (.int x3), .val (.long y4), .second, .val (.int x6), .val (.int x7), .val (.int x8), .val (.int x9), .val (.long y10), .second, .val (.int v1), .val (.ref b107)] [(.int (8 : Int32)), (.long y10), (.int x8), (.int x7), (.int x6), (.int x9), (.ref b107)])) rfl (by rw [hml]; rfl) (argsL := [(.ref b107), (.int x9), (.int x6), (.int x7), (.int x8), (.long y10), (.int (8 : Int32))]) (rest := []) (lenOf pd_1 rfl) rfl (by show 2 * 0 + _ ≤ _; exact Nat.le_of_eq rfl) (hb hby at_292) (fun _ _ => ⟨rfl, e14, (by show (((((((((cells + 1) + 0) + 0) + 0) + 0) + 0) + 0) + 0) + 0) + 0 ≤ 16; omega), (by show (((((((((slots + 23) + 0) + 0) + 0) + 0) + 0) + 0) + 0) + 0) + 0 ≤ 128; omega)⟩)
  dsimp only [Pt.U, Pt.locs, Pt.cells, Pt.slots] at X15 l15 y15 z15 st15 hQ15
  replace y15 := y15.symm; replace z15 := z15.symm; subst l15 y15 z15
  obtain ⟨h15, e15⟩ : ∃ z, T15.heap = z := ⟨_, rfl⟩
  rw [e15] at hQ15
  obtain ⟨rfl, N15q, K15q, A_b107_15⟩ := hQ15
  have N15 := Fr.app N14 N15q
  have zz15 : n0 ≤ h15.size := Nat.le_trans zz14 K15q.1
  refine Runs.via (T' := T15) (g' := (mkF m 295 #[.val (.long y0), .second, .val (.int x2), .val (.int x3), .val (.long y4), .second, .val (.int x6), .val (.int x7), .val (.int x8), .val (.int x9), .val (.long y10), .second, .val (.int v1), .val (.ref b107)] [])) (fun t k => st15 _ k) ?_
  refine Runs.via (T' := T15) (g' := (mkF m 309 #[.val (.long y0), .second, .val (.int x2), .val (.int x3), .val (.long y4), .second, .val (.int x6), .val (.int x7), .val (.int x8), .val (.int x9), .val (.long y10), .second, .val (.int v1), .val (.ref b107)] [(.int (9 : Int32)), (.long y10), (.int x8), (.int x7), (.int x6), (.int x9), (.ref b107)])) (fun t k => ?_) ?_
  · show Steps p.tables e below (T15.setTop (mkF m 295 #[.val (.long y0), .second, .val (.int x2), .val (.int x3), .val (.long y4), .second, .val (.int x6), .val (.int x7), .val (.int x8), .val (.int x9), .val (.long y10), .second, .val (.int v1), .val (.ref b107)] [])) t
    refine XS.aload X15.here hx rfl (hb hby at_295) rfl rfl ?_
    show Steps p.tables e below (T15.setTop (mkF m 297 #[.val (.long y0), .second, .val (.int x2), .val (.int x3), .val (.long y4), .second, .val (.int x6), .val (.int x7), .val (.int x8), .val (.int x9), .val (.long y10), .second, .val (.int v1), .val (.ref b107)] [(.ref b107)])) t
    refine XS.iload X15.here hx rfl (hb hby at_297) rfl ?_
    show Steps p.tables e below (T15.setTop (mkF m 299 #[.val (.long y0), .second, .val (.int x2), .val (.int x3), .val (.long y4), .second, .val (.int x6), .val (.int x7), .val (.int x8), .val (.int x9), .val (.long y10), .second, .val (.int v1), .val (.ref b107)] [(.int x9), (.ref b107)])) t
    refine XS.iload X15.here hx rfl (hb hby at_299) rfl ?_
    show Steps p.tables e below (T15.setTop (mkF m 301 #[.val (.long y0), .second, .val (.int x2), .val (.int x3), .val (.long y4), .second, .val (.int x6), .val (.int x7), .val (.int x8), .val (.int x9), .val (.long y10), .second, .val (.int v1), .val (.ref b107)] [(.int x6), (.int x9), (.ref b107)])) t
    refine XS.iload X15.here hx rfl (hb hby at_301) rfl ?_
    show Steps p.tables e below (T15.setTop (mkF m 303 #[.val (.long y0), .second, .val (.int x2), .val (.int x3), .val (.long y4), .second, .val (.int x6), .val (.int x7), .val (.int x8), .val (.int x9), .val (.long y10), .second, .val (.int v1), .val (.ref b107)] [(.int x7), (.int x6), (.int x9), (.ref b107)])) t
    refine XS.iload X15.here hx rfl (hb hby at_303) rfl ?_
    show Steps p.tables e below (T15.setTop (mkF m 305 #[.val (.long y0), .second, .val (.int x2), .val (.int x3), .val (.long y4), .second, .val (.int x6), .val (.int x7), .val (.int x8), .val (.int x9), .val (.long y10), .second, .val (.int v1), .val (.ref b107)] [(.int x8), (.int x7), (.int x6), (.int x9), (.ref b107)])) t
    refine XS.lload X15.here hx rfl (hb hby at_305) rfl ?_
    show Steps p.tables e below (T15.setTop (mkF m 307 #[.val (.long y0), .second, .val (.int x2), .val (.int x3), .val (.long y4), .second, .val (.int x6), .val (.int x7), .val (.int x8), .val (.int x9), .val (.long y10), .second, .val (.int v1), .val (.ref b107)] [(.long y10), (.int x8), (.int x7), (.int x6), (.int x9), (.ref b107)])) t
    refine XS.bipush X15.here hx rfl (hb hby at_307) ?_
    exact k
  refine bindE hr ?_; intro r16 hr16m hr
  obtain ⟨_, _, ⟨T16, L16, k16, n16⟩, -, X16, ⟨Lc16, hQ16, l16, y16, z16⟩, st16⟩ := Jvm.LawKit.callS X15 hx (y := (⟨"com/example/notewright/notewright/DecimalsUnscaledPinLaw", "put", "([BIIZIJI)V"⟩ : MethodName)) hown (mvT hZ (hw _ (List.mem_of_getElem? (i := 9) rfl))) (mvT hZ (hw _ (List.mem_of_getElem? (i := 10) rfl))) (mvT hZ (hw _ (List.mem_of_getElem? (i := 4) rfl))) (mvT hZ (hw _ (List.mem_of_getElem? (i := 11) rfl))) (by decide) (backOf (W := 0) (rm2 l Z a0 hw [] x9 x6 x7 x8 y10 (9 : Int32) b107 r15 h15 n0 zz15 (by omega) A_b107_15 r16 hr16m) hZ (hw _ (List.mem_of_getElem? (i := 11) rfl)) (hw _ (List.mem_of_getElem? (i := 4) rfl)) (by decide) (by decide)) (g := (mkF m 309 #[.val (.long y0), .second, .val (.int x2), .val (.int x3), .val (.long y4), .second, .val (.int x6), .val (.int x7), .val (.int x8), .val (.int x9), .val (.long y10), .second, .val (.int v1), .val (.ref b107)] [(.int (9 : Int32)), (.long y10), (.int x8), (.int x7), (.int x6), (.int x9), (.ref b107)])) rfl (by rw [hml]; rfl) (argsL := [(.ref b107), (.int x9), (.int x6), (.int x7), (.int x8), (.long y10), (.int (9 : Int32))]) (rest := []) (lenOf pd_1 rfl) rfl (by show 2 * 0 + _ ≤ _; exact Nat.le_of_eq rfl) (hb hby at_309) (fun _ _ => ⟨rfl, e15, (by show ((((((((((cells + 1) + 0) + 0) + 0) + 0) + 0) + 0) + 0) + 0) + 0) + 0 ≤ 16; omega), (by show ((((((((((slots + 23) + 0) + 0) + 0) + 0) + 0) + 0) + 0) + 0) + 0) + 0 ≤ 128; omega)⟩)
  dsimp only [Pt.U, Pt.locs, Pt.cells, Pt.slots] at X16 l16 y16 z16 st16 hQ16
  replace y16 := y16.symm; replace z16 := z16.symm; subst l16 y16 z16
  obtain ⟨h16, e16⟩ : ∃ z, T16.heap = z := ⟨_, rfl⟩
  rw [e16] at hQ16
  obtain ⟨rfl, N16q, K16q, A_b107_16⟩ := hQ16
  have N16 := Fr.app N15 N16q
  have zz16 : n0 ≤ h16.size := Nat.le_trans zz15 K16q.1
  refine Runs.via (T' := T16) (g' := (mkF m 312 #[.val (.long y0), .second, .val (.int x2), .val (.int x3), .val (.long y4), .second, .val (.int x6), .val (.int x7), .val (.int x8), .val (.int x9), .val (.long y10), .second, .val (.int v1), .val (.ref b107)] [])) (fun t k => st16 _ k) ?_
  refine Runs.via (T' := T16) (g' := (mkF m 326 #[.val (.long y0), .second, .val (.int x2), .val (.int x3), .val (.long y4), .second, .val (.int x6), .val (.int x7), .val (.int x8), .val (.int x9), .val (.long y10), .second, .val (.int v1), .val (.ref b107)] [(.int (10 : Int32)), (.long y10), (.int x8), (.int x7), (.int x6), (.int x9), (.ref b107)])) (fun t k => ?_) ?_
  · show Steps p.tables e below (T16.setTop (mkF m 312 #[.val (.long y0), .second, .val (.int x2), .val (.int x3), .val (.long y4), .second, .val (.int x6), .val (.int x7), .val (.int x8), .val (.int x9), .val (.long y10), .second, .val (.int v1), .val (.ref b107)] [])) t
    refine XS.aload X16.here hx rfl (hb hby at_312) rfl rfl ?_
    show Steps p.tables e below (T16.setTop (mkF m 314 #[.val (.long y0), .second, .val (.int x2), .val (.int x3), .val (.long y4), .second, .val (.int x6), .val (.int x7), .val (.int x8), .val (.int x9), .val (.long y10), .second, .val (.int v1), .val (.ref b107)] [(.ref b107)])) t
    refine XS.iload X16.here hx rfl (hb hby at_314) rfl ?_
    show Steps p.tables e below (T16.setTop (mkF m 316 #[.val (.long y0), .second, .val (.int x2), .val (.int x3), .val (.long y4), .second, .val (.int x6), .val (.int x7), .val (.int x8), .val (.int x9), .val (.long y10), .second, .val (.int v1), .val (.ref b107)] [(.int x9), (.ref b107)])) t
    refine XS.iload X16.here hx rfl (hb hby at_316) rfl ?_
    show Steps p.tables e below (T16.setTop (mkF m 318 #[.val (.long y0), .second, .val (.int x2), .val (.int x3), .val (.long y4), .second, .val (.int x6), .val (.int x7), .val (.int x8), .val (.int x9), .val (.long y10), .second, .val (.int v1), .val (.ref b107)] [(.int x6), (.int x9), (.ref b107)])) t
    refine XS.iload X16.here hx rfl (hb hby at_318) rfl ?_
    show Steps p.tables e below (T16.setTop (mkF m 320 #[.val (.long y0), .second, .val (.int x2), .val (.int x3), .val (.long y4), .second, .val (.int x6), .val (.int x7), .val (.int x8), .val (.int x9), .val (.long y10), .second, .val (.int v1), .val (.ref b107)] [(.int x7), (.int x6), (.int x9), (.ref b107)])) t
    refine XS.iload X16.here hx rfl (hb hby at_320) rfl ?_
    show Steps p.tables e below (T16.setTop (mkF m 322 #[.val (.long y0), .second, .val (.int x2), .val (.int x3), .val (.long y4), .second, .val (.int x6), .val (.int x7), .val (.int x8), .val (.int x9), .val (.long y10), .second, .val (.int v1), .val (.ref b107)] [(.int x8), (.int x7), (.int x6), (.int x9), (.ref b107)])) t
    refine XS.lload X16.here hx rfl (hb hby at_322) rfl ?_
    show Steps p.tables e below (T16.setTop (mkF m 324 #[.val (.long y0), .second, .val (.int x2), .val (.int x3), .val (.long y4), .second, .val (.int x6), .val (.int x7), .val (.int x8), .val (.int x9), .val (.long y10), .second, .val (.int v1), .val (.ref b107)] [(.long y10), (.int x8), (.int x7), (.int x6), (.int x9), (.ref b107)])) t
    refine XS.bipush X16.here hx rfl (hb hby at_324) ?_
    exact k
  refine bindE hr ?_; intro r17 hr17m hr
  obtain ⟨_, _, ⟨T17, L17, k17, n17⟩, -, X17, ⟨Lc17, hQ17, l17, y17, z17⟩, st17⟩ := Jvm.LawKit.callS X16 hx (y := (⟨"com/example/notewright/notewright/DecimalsUnscaledPinLaw", "put", "([BIIZIJI)V"⟩ : MethodName)) hown (mvT hZ (hw _ (List.mem_of_getElem? (i := 9) rfl))) (mvT hZ (hw _ (List.mem_of_getElem? (i := 10) rfl))) (mvT hZ (hw _ (List.mem_of_getElem? (i := 4) rfl))) (mvT hZ (hw _ (List.mem_of_getElem? (i := 11) rfl))) (by decide) (backOf (W := 0) (rm2 l Z a0 hw [] x9 x6 x7 x8 y10 (10 : Int32) b107 r16 h16 n0 zz16 (by omega) A_b107_16 r17 hr17m) hZ (hw _ (List.mem_of_getElem? (i := 11) rfl)) (hw _ (List.mem_of_getElem? (i := 4) rfl)) (by decide) (by decide)) (g := (mkF m 326 #[.val (.long y0), .second, .val (.int x2), .val (.int x3), .val (.long y4), .second, .val (.int x6), .val (.int x7), .val (.int x8), .val (.int x9), .val (.long y10), .second, .val (.int v1), .val (.ref b107)] [(.int (10 : Int32)), (.long y10), (.int x8), (.int x7), (.int x6), (.int x9), (.ref b107)])) rfl (by rw [hml]; rfl) (argsL := [(.ref b107), (.int x9), (.int x6), (.int x7), (.int x8), (.long y10), (.int (10 : Int32))]) (rest := []) (lenOf pd_1 rfl) rfl (by show 2 * 0 + _ ≤ _; exact Nat.le_of_eq rfl) (hb hby at_326) (fun _ _ => ⟨rfl, e16, (by show (((((((((((cells + 1) + 0) + 0) + 0) + 0) + 0) + 0) + 0) + 0) + 0) + 0) + 0 ≤ 16; omega), (by show (((((((((((slots + 23) + 0) + 0) + 0) + 0) + 0) + 0) + 0) + 0) + 0) + 0) + 0 ≤ 128; omega)⟩)
  dsimp only [Pt.U, Pt.locs, Pt.cells, Pt.slots] at X17 l17 y17 z17 st17 hQ17
  replace y17 := y17.symm; replace z17 := z17.symm; subst l17 y17 z17
  obtain ⟨h17, e17⟩ : ∃ z, T17.heap = z := ⟨_, rfl⟩
  rw [e17] at hQ17
  obtain ⟨rfl, N17q, K17q, A_b107_17⟩ := hQ17
  have N17 := Fr.app N16 N17q
  have zz17 : n0 ≤ h17.size := Nat.le_trans zz16 K17q.1
  refine Runs.via (T' := T17) (g' := (mkF m 329 #[.val (.long y0), .second, .val (.int x2), .val (.int x3), .val (.long y4), .second, .val (.int x6), .val (.int x7), .val (.int x8), .val (.int x9), .val (.long y10), .second, .val (.int v1), .val (.ref b107)] [])) (fun t k => st17 _ k) ?_
  refine Runs.via (T' := T17) (g' := (mkF m 343 #[.val (.long y0), .second, .val (.int x2), .val (.int x3), .val (.long y4), .second, .val (.int x6), .val (.int x7), .val (.int x8), .val (.int x9), .val (.long y10), .second, .val (.int v1), .val (.ref b107)] [(.int (11 : Int32)), (.long y10), (.int x8), (.int x7), (.int x6), (.int x9), (.ref b107)])) (fun t k => ?_) ?_
  · show Steps p.tables e below (T17.setTop (mkF m 329 #[.val (.long y0), .second, .val (.int x2), .val (.int x3), .val (.long y4), .second, .val (.int x6), .val (.int x7), .val (.int x8), .val (.int x9), .val (.long y10), .second, .val (.int v1), .val (.ref b107)] [])) t
    refine XS.aload X17.here hx rfl (hb hby at_329) rfl rfl ?_
    show Steps p.tables e below (T17.setTop (mkF m 331 #[.val (.long y0), .second, .val (.int x2), .val (.int x3), .val (.long y4), .second, .val (.int x6), .val (.int x7), .val (.int x8), .val (.int x9), .val (.long y10), .second, .val (.int v1), .val (.ref b107)] [(.ref b107)])) t
    refine XS.iload X17.here hx rfl (hb hby at_331) rfl ?_
    show Steps p.tables e below (T17.setTop (mkF m 333 #[.val (.long y0), .second, .val (.int x2), .val (.int x3), .val (.long y4), .second, .val (.int x6), .val (.int x7), .val (.int x8), .val (.int x9), .val (.long y10), .second, .val (.int v1), .val (.ref b107)] [(.int x9), (.ref b107)])) t
    refine XS.iload X17.here hx rfl (hb hby at_333) rfl ?_
    show Steps p.tables e below (T17.setTop (mkF m 335 #[.val (.long y0), .second, .val (.int x2), .val (.int x3), .val (.long y4), .second, .val (.int x6), .val (.int x7), .val (.int x8), .val (.int x9), .val (.long y10), .second, .val (.int v1), .val (.ref b107)] [(.int x6), (.int x9), (.ref b107)])) t
    refine XS.iload X17.here hx rfl (hb hby at_335) rfl ?_
    show Steps p.tables e below (T17.setTop (mkF m 337 #[.val (.long y0), .second, .val (.int x2), .val (.int x3), .val (.long y4), .second, .val (.int x6), .val (.int x7), .val (.int x8), .val (.int x9), .val (.long y10), .second, .val (.int v1), .val (.ref b107)] [(.int x7), (.int x6), (.int x9), (.ref b107)])) t
    refine XS.iload X17.here hx rfl (hb hby at_337) rfl ?_
    show Steps p.tables e below (T17.setTop (mkF m 339 #[.val (.long y0), .second, .val (.int x2), .val (.int x3), .val (.long y4), .second, .val (.int x6), .val (.int x7), .val (.int x8), .val (.int x9), .val (.long y10), .second, .val (.int v1), .val (.ref b107)] [(.int x8), (.int x7), (.int x6), (.int x9), (.ref b107)])) t
    refine XS.lload X17.here hx rfl (hb hby at_339) rfl ?_
    show Steps p.tables e below (T17.setTop (mkF m 341 #[.val (.long y0), .second, .val (.int x2), .val (.int x3), .val (.long y4), .second, .val (.int x6), .val (.int x7), .val (.int x8), .val (.int x9), .val (.long y10), .second, .val (.int v1), .val (.ref b107)] [(.long y10), (.int x8), (.int x7), (.int x6), (.int x9), (.ref b107)])) t
    refine XS.bipush X17.here hx rfl (hb hby at_341) ?_
    exact k
  refine bindE hr ?_; intro r18 hr18m hr
  obtain ⟨_, _, ⟨T18, L18, k18, n18⟩, -, X18, ⟨Lc18, hQ18, l18, y18, z18⟩, st18⟩ := Jvm.LawKit.callS X17 hx (y := (⟨"com/example/notewright/notewright/DecimalsUnscaledPinLaw", "put", "([BIIZIJI)V"⟩ : MethodName)) hown (mvT hZ (hw _ (List.mem_of_getElem? (i := 9) rfl))) (mvT hZ (hw _ (List.mem_of_getElem? (i := 10) rfl))) (mvT hZ (hw _ (List.mem_of_getElem? (i := 4) rfl))) (mvT hZ (hw _ (List.mem_of_getElem? (i := 11) rfl))) (by decide) (backOf (W := 0) (rm2 l Z a0 hw [] x9 x6 x7 x8 y10 (11 : Int32) b107 r17 h17 n0 zz17 (by omega) A_b107_17 r18 hr18m) hZ (hw _ (List.mem_of_getElem? (i := 11) rfl)) (hw _ (List.mem_of_getElem? (i := 4) rfl)) (by decide) (by decide)) (g := (mkF m 343 #[.val (.long y0), .second, .val (.int x2), .val (.int x3), .val (.long y4), .second, .val (.int x6), .val (.int x7), .val (.int x8), .val (.int x9), .val (.long y10), .second, .val (.int v1), .val (.ref b107)] [(.int (11 : Int32)), (.long y10), (.int x8), (.int x7), (.int x6), (.int x9), (.ref b107)])) rfl (by rw [hml]; rfl) (argsL := [(.ref b107), (.int x9), (.int x6), (.int x7), (.int x8), (.long y10), (.int (11 : Int32))]) (rest := []) (lenOf pd_1 rfl) rfl (by show 2 * 0 + _ ≤ _; exact Nat.le_of_eq rfl) (hb hby at_343) (fun _ _ => ⟨rfl, e17, (by show ((((((((((((cells + 1) + 0) + 0) + 0) + 0) + 0) + 0) + 0) + 0) + 0) + 0) + 0) + 0 ≤ 16; omega), (by show ((((((((((((slots + 23) + 0) + 0) + 0) + 0) + 0) + 0) + 0) + 0) + 0) + 0) + 0) + 0 ≤ 128; omega)⟩)
  dsimp only [Pt.U, Pt.locs, Pt.cells, Pt.slots] at X18 l18 y18 z18 st18 hQ18
  replace y18 := y18.symm; replace z18 := z18.symm; subst l18 y18 z18
  obtain ⟨h18, e18⟩ : ∃ z, T18.heap = z := ⟨_, rfl⟩
  rw [e18] at hQ18
  obtain ⟨rfl, N18q, K18q, A_b107_18⟩ := hQ18
  have N18 := Fr.app N17 N18q
  have zz18 : n0 ≤ h18.size := Nat.le_trans zz17 K18q.1
  refine Runs.via (T' := T18) (g' := (mkF m 346 #[.val (.long y0), .second, .val (.int x2), .val (.int x3), .val (.long y4), .second, .val (.int x6), .val (.int x7), .val (.int x8), .val (.int x9), .val (.long y10), .second, .val (.int v1), .val (.ref b107)] [])) (fun t k => st18 _ k) ?_
  refine Runs.via (T' := T18) (g' := (mkF m 360 #[.val (.long y0), .second, .val (.int x2), .val (.int x3), .val (.long y4), .second, .val (.int x6), .val (.int x7), .val (.int x8), .val (.int x9), .val (.long y10), .second, .val (.int v1), .val (.ref b107)] [(.int (12 : Int32)), (.long y10), (.int x8), (.int x7), (.int x6), (.int x9), (.ref b107)])) (fun t k => ?_) ?_
  · show Steps p.tables e below (T18.setTop (mkF m 346 #[.val (.long y0), .second, .val (.int x2), .val (.int x3), .val (.long y4), .second, .val (.int x6), .val (.int x7), .val (.int x8), .val (.int x9), .val (.long y10), .second, .val (.int v1), .val (.ref b107)] [])) t
    refine XS.aload X18.here hx rfl (hb hby at_346) rfl rfl ?_
    show Steps p.tables e below (T18.setTop (mkF m 348 #[.val (.long y0), .second, .val (.int x2), .val (.int x3), .val (.long y4), .second, .val (.int x6), .val (.int x7), .val (.int x8), .val (.int x9), .val (.long y10), .second, .val (.int v1), .val (.ref b107)] [(.ref b107)])) t
    refine XS.iload X18.here hx rfl (hb hby at_348) rfl ?_
    show Steps p.tables e below (T18.setTop (mkF m 350 #[.val (.long y0), .second, .val (.int x2), .val (.int x3), .val (.long y4), .second, .val (.int x6), .val (.int x7), .val (.int x8), .val (.int x9), .val (.long y10), .second, .val (.int v1), .val (.ref b107)] [(.int x9), (.ref b107)])) t
    refine XS.iload X18.here hx rfl (hb hby at_350) rfl ?_
    show Steps p.tables e below (T18.setTop (mkF m 352 #[.val (.long y0), .second, .val (.int x2), .val (.int x3), .val (.long y4), .second, .val (.int x6), .val (.int x7), .val (.int x8), .val (.int x9), .val (.long y10), .second, .val (.int v1), .val (.ref b107)] [(.int x6), (.int x9), (.ref b107)])) t
    refine XS.iload X18.here hx rfl (hb hby at_352) rfl ?_
    show Steps p.tables e below (T18.setTop (mkF m 354 #[.val (.long y0), .second, .val (.int x2), .val (.int x3), .val (.long y4), .second, .val (.int x6), .val (.int x7), .val (.int x8), .val (.int x9), .val (.long y10), .second, .val (.int v1), .val (.ref b107)] [(.int x7), (.int x6), (.int x9), (.ref b107)])) t
    refine XS.iload X18.here hx rfl (hb hby at_354) rfl ?_
    show Steps p.tables e below (T18.setTop (mkF m 356 #[.val (.long y0), .second, .val (.int x2), .val (.int x3), .val (.long y4), .second, .val (.int x6), .val (.int x7), .val (.int x8), .val (.int x9), .val (.long y10), .second, .val (.int v1), .val (.ref b107)] [(.int x8), (.int x7), (.int x6), (.int x9), (.ref b107)])) t
    refine XS.lload X18.here hx rfl (hb hby at_356) rfl ?_
    show Steps p.tables e below (T18.setTop (mkF m 358 #[.val (.long y0), .second, .val (.int x2), .val (.int x3), .val (.long y4), .second, .val (.int x6), .val (.int x7), .val (.int x8), .val (.int x9), .val (.long y10), .second, .val (.int v1), .val (.ref b107)] [(.long y10), (.int x8), (.int x7), (.int x6), (.int x9), (.ref b107)])) t
    refine XS.bipush X18.here hx rfl (hb hby at_358) ?_
    exact k
  refine bindE hr ?_; intro r19 hr19m hr
  obtain ⟨_, _, ⟨T19, L19, k19, n19⟩, -, X19, ⟨Lc19, hQ19, l19, y19, z19⟩, st19⟩ := Jvm.LawKit.callS X18 hx (y := (⟨"com/example/notewright/notewright/DecimalsUnscaledPinLaw", "put", "([BIIZIJI)V"⟩ : MethodName)) hown (mvT hZ (hw _ (List.mem_of_getElem? (i := 9) rfl))) (mvT hZ (hw _ (List.mem_of_getElem? (i := 10) rfl))) (mvT hZ (hw _ (List.mem_of_getElem? (i := 4) rfl))) (mvT hZ (hw _ (List.mem_of_getElem? (i := 11) rfl))) (by decide) (backOf (W := 0) (rm2 l Z a0 hw [] x9 x6 x7 x8 y10 (12 : Int32) b107 r18 h18 n0 zz18 (by omega) A_b107_18 r19 hr19m) hZ (hw _ (List.mem_of_getElem? (i := 11) rfl)) (hw _ (List.mem_of_getElem? (i := 4) rfl)) (by decide) (by decide)) (g := (mkF m 360 #[.val (.long y0), .second, .val (.int x2), .val (.int x3), .val (.long y4), .second, .val (.int x6), .val (.int x7), .val (.int x8), .val (.int x9), .val (.long y10), .second, .val (.int v1), .val (.ref b107)] [(.int (12 : Int32)), (.long y10), (.int x8), (.int x7), (.int x6), (.int x9), (.ref b107)])) rfl (by rw [hml]; rfl) (argsL := [(.ref b107), (.int x9), (.int x6), (.int x7), (.int x8), (.long y10), (.int (12 : Int32))]) (rest := []) (lenOf pd_1 rfl) rfl (by show 2 * 0 + _ ≤ _; exact Nat.le_of_eq rfl) (hb hby at_360) (fun _ _ => ⟨rfl, e18, (by show (((((((((((((cells + 1) + 0) + 0) + 0) + 0) + 0) + 0) + 0) + 0) + 0) + 0) + 0) + 0) + 0 ≤ 16; omega), (by show (((((((((((((slots + 23) + 0) + 0) + 0) + 0) + 0) + 0) + 0) + 0) + 0) + 0) + 0) + 0) + 0 ≤ 128; omega)⟩)
  dsimp only [Pt.U, Pt.locs, Pt.cells, Pt.slots] at X19 l19 y19 z19 st19 hQ19
  replace y19 := y19.symm; replace z19 := z19.symm; subst l19 y19 z19
  obtain ⟨h19, e19⟩ : ∃ z, T19.heap = z := ⟨_, rfl⟩
  rw [e19] at hQ19
  obtain ⟨rfl, N19q, K19q, A_b107_19⟩ := hQ19
  have N19 := Fr.app N18 N19q
  have zz19 : n0 ≤ h19.size := Nat.le_trans zz18 K19q.1
  refine Runs.via (T' := T19) (g' := (mkF m 363 #[.val (.long y0), .second, .val (.int x2), .val (.int x3), .val (.long y4), .second, .val (.int x6), .val (.int x7), .val (.int x8), .val (.int x9), .val (.long y10), .second, .val (.int v1), .val (.ref b107)] [])) (fun t k => st19 _ k) ?_
  refine Runs.via (T' := T19) (g' := (mkF m 377 #[.val (.long y0), .second, .val (.int x2), .val (.int x3), .val (.long y4), .second, .val (.int x6), .val (.int x7), .val (.int x8), .val (.int x9), .val (.long y10), .second, .val (.int v1), .val (.ref b107)] [(.int (13 : Int32)), (.long y10), (.int x8), (.int x7), (.int x6), (.int x9), (.ref b107)])) (fun t k => ?_) ?_
  · show Steps p.tables e below (T19.setTop (mkF m 363 #[.val (.long y0), .second, .val (.int x2), .val (.int x3), .val (.long y4), .second, .val (.int x6), .val (.int x7), .val (.int x8), .val (.int x9), .val (.long y10), .second, .val (.int v1), .val (.ref b107)] [])) t
    refine XS.aload X19.here hx rfl (hb hby at_363) rfl rfl ?_
    show Steps p.tables e below (T19.setTop (mkF m 365 #[.val (.long y0), .second, .val (.int x2), .val (.int x3), .val (.long y4), .second, .val (.int x6), .val (.int x7), .val (.int x8), .val (.int x9), .val (.long y10), .second, .val (.int v1), .val (.ref b107)] [(.ref b107)])) t
    refine XS.iload X19.here hx rfl (hb hby at_365) rfl ?_
    show Steps p.tables e below (T19.setTop (mkF m 367 #[.val (.long y0), .second, .val (.int x2), .val (.int x3), .val (.long y4), .second, .val (.int x6), .val (.int x7), .val (.int x8), .val (.int x9), .val (.long y10), .second, .val (.int v1), .val (.ref b107)] [(.int x9), (.ref b107)])) t
    refine XS.iload X19.here hx rfl (hb hby at_367) rfl ?_
    show Steps p.tables e below (T19.setTop (mkF m 369 #[.val (.long y0), .second, .val (.int x2), .val (.int x3), .val (.long y4), .second, .val (.int x6), .val (.int x7), .val (.int x8), .val (.int x9), .val (.long y10), .second, .val (.int v1), .val (.ref b107)] [(.int x6), (.int x9), (.ref b107)])) t
    refine XS.iload X19.here hx rfl (hb hby at_369) rfl ?_
    show Steps p.tables e below (T19.setTop (mkF m 371 #[.val (.long y0), .second, .val (.int x2), .val (.int x3), .val (.long y4), .second, .val (.int x6), .val (.int x7), .val (.int x8), .val (.int x9), .val (.long y10), .second, .val (.int v1), .val (.ref b107)] [(.int x7), (.int x6), (.int x9), (.ref b107)])) t
    refine XS.iload X19.here hx rfl (hb hby at_371) rfl ?_
    show Steps p.tables e below (T19.setTop (mkF m 373 #[.val (.long y0), .second, .val (.int x2), .val (.int x3), .val (.long y4), .second, .val (.int x6), .val (.int x7), .val (.int x8), .val (.int x9), .val (.long y10), .second, .val (.int v1), .val (.ref b107)] [(.int x8), (.int x7), (.int x6), (.int x9), (.ref b107)])) t
    refine XS.lload X19.here hx rfl (hb hby at_373) rfl ?_
    show Steps p.tables e below (T19.setTop (mkF m 375 #[.val (.long y0), .second, .val (.int x2), .val (.int x3), .val (.long y4), .second, .val (.int x6), .val (.int x7), .val (.int x8), .val (.int x9), .val (.long y10), .second, .val (.int v1), .val (.ref b107)] [(.long y10), (.int x8), (.int x7), (.int x6), (.int x9), (.ref b107)])) t
    refine XS.bipush X19.here hx rfl (hb hby at_375) ?_
    exact k
  refine bindE hr ?_; intro r20 hr20m hr
  obtain ⟨_, _, ⟨T20, L20, k20, n20⟩, -, X20, ⟨Lc20, hQ20, l20, y20, z20⟩, st20⟩ := Jvm.LawKit.callS X19 hx (y := (⟨"com/example/notewright/notewright/DecimalsUnscaledPinLaw", "put", "([BIIZIJI)V"⟩ : MethodName)) hown (mvT hZ (hw _ (List.mem_of_getElem? (i := 9) rfl))) (mvT hZ (hw _ (List.mem_of_getElem? (i := 10) rfl))) (mvT hZ (hw _ (List.mem_of_getElem? (i := 4) rfl))) (mvT hZ (hw _ (List.mem_of_getElem? (i := 11) rfl))) (by decide) (backOf (W := 0) (rm2 l Z a0 hw [] x9 x6 x7 x8 y10 (13 : Int32) b107 r19 h19 n0 zz19 (by omega) A_b107_19 r20 hr20m) hZ (hw _ (List.mem_of_getElem? (i := 11) rfl)) (hw _ (List.mem_of_getElem? (i := 4) rfl)) (by decide) (by decide)) (g := (mkF m 377 #[.val (.long y0), .second, .val (.int x2), .val (.int x3), .val (.long y4), .second, .val (.int x6), .val (.int x7), .val (.int x8), .val (.int x9), .val (.long y10), .second, .val (.int v1), .val (.ref b107)] [(.int (13 : Int32)), (.long y10), (.int x8), (.int x7), (.int x6), (.int x9), (.ref b107)])) rfl (by rw [hml]; rfl) (argsL := [(.ref b107), (.int x9), (.int x6), (.int x7), (.int x8), (.long y10), (.int (13 : Int32))]) (rest := []) (lenOf pd_1 rfl) rfl (by show 2 * 0 + _ ≤ _; exact Nat.le_of_eq rfl) (hb hby at_377) (fun _ _ => ⟨rfl, e19, (by show ((((((((((((((cells + 1) + 0) + 0) + 0) + 0) + 0) + 0) + 0) + 0) + 0) + 0) + 0) + 0) + 0) + 0 ≤ 16; omega), (by show ((((((((((((((slots + 23) + 0) + 0) + 0) + 0) + 0) + 0) + 0) + 0) + 0) + 0) + 0) + 0) + 0) + 0 ≤ 128; omega)⟩)
  dsimp only [Pt.U, Pt.locs, Pt.cells, Pt.slots] at X20 l20 y20 z20 st20 hQ20
  replace y20 := y20.symm; replace z20 := z20.symm; subst l20 y20 z20
  obtain ⟨h20, e20⟩ : ∃ z, T20.heap = z := ⟨_, rfl⟩
  rw [e20] at hQ20
  obtain ⟨rfl, N20q, K20q, A_b107_20⟩ := hQ20
  have N20 := Fr.app N19 N20q
  have zz20 : n0 ≤ h20.size := Nat.le_trans zz19 K20q.1
  refine Runs.via (T' := T20) (g' := (mkF m 380 #[.val (.long y0), .second, .val (.int x2), .val (.int x3), .val (.long y4), .second, .val (.int x6), .val (.int x7), .val (.int x8), .val (.int x9), .val (.long y10), .second, .val (.int v1), .val (.ref b107)] [])) (fun t k => st20 _ k) ?_
  refine Runs.via (T' := T20) (g' := (mkF m 394 #[.val (.long y0), .second, .val (.int x2), .val (.int x3), .val (.long y4), .second, .val (.int x6), .val (.int x7), .val (.int x8), .val (.int x9), .val (.long y10), .second, .val (.int v1), .val (.ref b107)] [(.int (14 : Int32)), (.long y10), (.int x8), (.int x7), (.int x6), (.int x9), (.ref b107)])) (fun t k => ?_) ?_
  · show Steps p.tables e below (T20.setTop (mkF m 380 #[.val (.long y0), .second, .val (.int x2), .val (.int x3), .val (.long y4), .second, .val (.int x6), .val (.int x7), .val (.int x8), .val (.int x9), .val (.long y10), .second, .val (.int v1), .val (.ref b107)] [])) t
    refine XS.aload X20.here hx rfl (hb hby at_380) rfl rfl ?_
    show Steps p.tables e below (T20.setTop (mkF m 382 #[.val (.long y0), .second, .val (.int x2), .val (.int x3), .val (.long y4), .second, .val (.int x6), .val (.int x7), .val (.int x8), .val (.int x9), .val (.long y10), .second, .val (.int v1), .val (.ref b107)] [(.ref b107)])) t
    refine XS.iload X20.here hx rfl (hb hby at_382) rfl ?_
    show Steps p.tables e below (T20.setTop (mkF m 384 #[.val (.long y0), .second, .val (.int x2), .val (.int x3), .val (.long y4), .second, .val (.int x6), .val (.int x7), .val (.int x8), .val (.int x9), .val (.long y10), .second, .val (.int v1), .val (.ref b107)] [(.int x9), (.ref b107)])) t
    refine XS.iload X20.here hx rfl (hb hby at_384) rfl ?_
    show Steps p.tables e below (T20.setTop (mkF m 386 #[.val (.long y0), .second, .val (.int x2), .val (.int x3), .val (.long y4), .second, .val (.int x6), .val (.int x7), .val (.int x8), .val (.int x9), .val (.long y10), .second, .val (.int v1), .val (.ref b107)] [(.int x6), (.int x9), (.ref b107)])) t
    refine XS.iload X20.here hx rfl (hb hby at_386) rfl ?_
    show Steps p.tables e below (T20.setTop (mkF m 388 #[.val (.long y0), .second, .val (.int x2), .val (.int x3), .val (.long y4), .second, .val (.int x6), .val (.int x7), .val (.int x8), .val (.int x9), .val (.long y10), .second, .val (.int v1), .val (.ref b107)] [(.int x7), (.int x6), (.int x9), (.ref b107)])) t
    refine XS.iload X20.here hx rfl (hb hby at_388) rfl ?_
    show Steps p.tables e below (T20.setTop (mkF m 390 #[.val (.long y0), .second, .val (.int x2), .val (.int x3), .val (.long y4), .second, .val (.int x6), .val (.int x7), .val (.int x8), .val (.int x9), .val (.long y10), .second, .val (.int v1), .val (.ref b107)] [(.int x8), (.int x7), (.int x6), (.int x9), (.ref b107)])) t
    refine XS.lload X20.here hx rfl (hb hby at_390) rfl ?_
    show Steps p.tables e below (T20.setTop (mkF m 392 #[.val (.long y0), .second, .val (.int x2), .val (.int x3), .val (.long y4), .second, .val (.int x6), .val (.int x7), .val (.int x8), .val (.int x9), .val (.long y10), .second, .val (.int v1), .val (.ref b107)] [(.long y10), (.int x8), (.int x7), (.int x6), (.int x9), (.ref b107)])) t
    refine XS.bipush X20.here hx rfl (hb hby at_392) ?_
    exact k
  refine bindE hr ?_; intro r21 hr21m hr
  obtain ⟨_, _, ⟨T21, L21, k21, n21⟩, -, X21, ⟨Lc21, hQ21, l21, y21, z21⟩, st21⟩ := Jvm.LawKit.callS X20 hx (y := (⟨"com/example/notewright/notewright/DecimalsUnscaledPinLaw", "put", "([BIIZIJI)V"⟩ : MethodName)) hown (mvT hZ (hw _ (List.mem_of_getElem? (i := 9) rfl))) (mvT hZ (hw _ (List.mem_of_getElem? (i := 10) rfl))) (mvT hZ (hw _ (List.mem_of_getElem? (i := 4) rfl))) (mvT hZ (hw _ (List.mem_of_getElem? (i := 11) rfl))) (by decide) (backOf (W := 0) (rm2 l Z a0 hw [] x9 x6 x7 x8 y10 (14 : Int32) b107 r20 h20 n0 zz20 (by omega) A_b107_20 r21 hr21m) hZ (hw _ (List.mem_of_getElem? (i := 11) rfl)) (hw _ (List.mem_of_getElem? (i := 4) rfl)) (by decide) (by decide)) (g := (mkF m 394 #[.val (.long y0), .second, .val (.int x2), .val (.int x3), .val (.long y4), .second, .val (.int x6), .val (.int x7), .val (.int x8), .val (.int x9), .val (.long y10), .second, .val (.int v1), .val (.ref b107)] [(.int (14 : Int32)), (.long y10), (.int x8), (.int x7), (.int x6), (.int x9), (.ref b107)])) rfl (by rw [hml]; rfl) (argsL := [(.ref b107), (.int x9), (.int x6), (.int x7), (.int x8), (.long y10), (.int (14 : Int32))]) (rest := []) (lenOf pd_1 rfl) rfl (by show 2 * 0 + _ ≤ _; exact Nat.le_of_eq rfl) (hb hby at_394) (fun _ _ => ⟨rfl, e20, (by show (((((((((((((((cells + 1) + 0) + 0) + 0) + 0) + 0) + 0) + 0) + 0) + 0) + 0) + 0) + 0) + 0) + 0) + 0 ≤ 16; omega), (by show (((((((((((((((slots + 23) + 0) + 0) + 0) + 0) + 0) + 0) + 0) + 0) + 0) + 0) + 0) + 0) + 0) + 0) + 0 ≤ 128; omega)⟩)
  dsimp only [Pt.U, Pt.locs, Pt.cells, Pt.slots] at X21 l21 y21 z21 st21 hQ21
  replace y21 := y21.symm; replace z21 := z21.symm; subst l21 y21 z21
  obtain ⟨h21, e21⟩ : ∃ z, T21.heap = z := ⟨_, rfl⟩
  rw [e21] at hQ21
  obtain ⟨rfl, N21q, K21q, A_b107_21⟩ := hQ21
  have N21 := Fr.app N20 N21q
  have zz21 : n0 ≤ h21.size := Nat.le_trans zz20 K21q.1
  refine Runs.via (T' := T21) (g' := (mkF m 397 #[.val (.long y0), .second, .val (.int x2), .val (.int x3), .val (.long y4), .second, .val (.int x6), .val (.int x7), .val (.int x8), .val (.int x9), .val (.long y10), .second, .val (.int v1), .val (.ref b107)] [])) (fun t k => st21 _ k) ?_
  refine Runs.via (T' := T21) (g' := (mkF m 411 #[.val (.long y0), .second, .val (.int x2), .val (.int x3), .val (.long y4), .second, .val (.int x6), .val (.int x7), .val (.int x8), .val (.int x9), .val (.long y10), .second, .val (.int v1), .val (.ref b107)] [(.int (15 : Int32)), (.long y10), (.int x8), (.int x7), (.int x6), (.int x9), (.ref b107)])) (fun t k => ?_) ?_
  · show Steps p.tables e below (T21.setTop (mkF m 397 #[.val (.long y0), .second, .val (.int x2), .val (.int x3), .val (.long y4), .second, .val (.int x6), .val (.int x7), .val (.int x8), .val (.int x9), .val (.long y10), .second, .val (.int v1), .val (.ref b107)] [])) t
    refine XS.aload X21.here hx rfl (hb hby at_397) rfl rfl ?_
    show Steps p.tables e below (T21.setTop (mkF m 399 #[.val (.long y0), .second, .val (.int x2), .val (.int x3), .val (.long y4), .second, .val (.int x6), .val (.int x7), .val (.int x8), .val (.int x9), .val (.long y10), .second, .val (.int v1), .val (.ref b107)] [(.ref b107)])) t
    refine XS.iload X21.here hx rfl (hb hby at_399) rfl ?_
    show Steps p.tables e below (T21.setTop (mkF m 401 #[.val (.long y0), .second, .val (.int x2), .val (.int x3), .val (.long y4), .second, .val (.int x6), .val (.int x7), .val (.int x8), .val (.int x9), .val (.long y10), .second, .val (.int v1), .val (.ref b107)] [(.int x9), (.ref b107)])) t
    refine XS.iload X21.here hx rfl (hb hby at_401) rfl ?_
    show Steps p.tables e below (T21.setTop (mkF m 403 #[.val (.long y0), .second, .val (.int x2), .val (.int x3), .val (.long y4), .second, .val (.int x6), .val (.int x7), .val (.int x8), .val (.int x9), .val (.long y10), .second, .val (.int v1), .val (.ref b107)] [(.int x6), (.int x9), (.ref b107)])) t
    refine XS.iload X21.here hx rfl (hb hby at_403) rfl ?_
    show Steps p.tables e below (T21.setTop (mkF m 405 #[.val (.long y0), .second, .val (.int x2), .val (.int x3), .val (.long y4), .second, .val (.int x6), .val (.int x7), .val (.int x8), .val (.int x9), .val (.long y10), .second, .val (.int v1), .val (.ref b107)] [(.int x7), (.int x6), (.int x9), (.ref b107)])) t
    refine XS.iload X21.here hx rfl (hb hby at_405) rfl ?_
    show Steps p.tables e below (T21.setTop (mkF m 407 #[.val (.long y0), .second, .val (.int x2), .val (.int x3), .val (.long y4), .second, .val (.int x6), .val (.int x7), .val (.int x8), .val (.int x9), .val (.long y10), .second, .val (.int v1), .val (.ref b107)] [(.int x8), (.int x7), (.int x6), (.int x9), (.ref b107)])) t
    refine XS.lload X21.here hx rfl (hb hby at_407) rfl ?_
    show Steps p.tables e below (T21.setTop (mkF m 409 #[.val (.long y0), .second, .val (.int x2), .val (.int x3), .val (.long y4), .second, .val (.int x6), .val (.int x7), .val (.int x8), .val (.int x9), .val (.long y10), .second, .val (.int v1), .val (.ref b107)] [(.long y10), (.int x8), (.int x7), (.int x6), (.int x9), (.ref b107)])) t
    refine XS.bipush X21.here hx rfl (hb hby at_409) ?_
    exact k
  refine bindE hr ?_; intro r22 hr22m hr
  obtain ⟨_, _, ⟨T22, L22, k22, n22⟩, -, X22, ⟨Lc22, hQ22, l22, y22, z22⟩, st22⟩ := Jvm.LawKit.callS X21 hx (y := (⟨"com/example/notewright/notewright/DecimalsUnscaledPinLaw", "put", "([BIIZIJI)V"⟩ : MethodName)) hown (mvT hZ (hw _ (List.mem_of_getElem? (i := 9) rfl))) (mvT hZ (hw _ (List.mem_of_getElem? (i := 10) rfl))) (mvT hZ (hw _ (List.mem_of_getElem? (i := 4) rfl))) (mvT hZ (hw _ (List.mem_of_getElem? (i := 11) rfl))) (by decide) (backOf (W := 0) (rm2 l Z a0 hw [] x9 x6 x7 x8 y10 (15 : Int32) b107 r21 h21 n0 zz21 (by omega) A_b107_21 r22 hr22m) hZ (hw _ (List.mem_of_getElem? (i := 11) rfl)) (hw _ (List.mem_of_getElem? (i := 4) rfl)) (by decide) (by decide)) (g := (mkF m 411 #[.val (.long y0), .second, .val (.int x2), .val (.int x3), .val (.long y4), .second, .val (.int x6), .val (.int x7), .val (.int x8), .val (.int x9), .val (.long y10), .second, .val (.int v1), .val (.ref b107)] [(.int (15 : Int32)), (.long y10), (.int x8), (.int x7), (.int x6), (.int x9), (.ref b107)])) rfl (by rw [hml]; rfl) (argsL := [(.ref b107), (.int x9), (.int x6), (.int x7), (.int x8), (.long y10), (.int (15 : Int32))]) (rest := []) (lenOf pd_1 rfl) rfl (by show 2 * 0 + _ ≤ _; exact Nat.le_of_eq rfl) (hb hby at_411) (fun _ _ => ⟨rfl, e21, (by show ((((((((((((((((cells + 1) + 0) + 0) + 0) + 0) + 0) + 0) + 0) + 0) + 0) + 0) + 0) + 0) + 0) + 0) + 0) + 0 ≤ 16; omega), (by show ((((((((((((((((slots + 23) + 0) + 0) + 0) + 0) + 0) + 0) + 0) + 0) + 0) + 0) + 0) + 0) + 0) + 0) + 0) + 0 ≤ 128; omega)⟩)
  dsimp only [Pt.U, Pt.locs, Pt.cells, Pt.slots] at X22 l22 y22 z22 st22 hQ22
  replace y22 := y22.symm; replace z22 := z22.symm; subst l22 y22 z22
  obtain ⟨h22, e22⟩ : ∃ z, T22.heap = z := ⟨_, rfl⟩
  rw [e22] at hQ22
  obtain ⟨rfl, N22q, K22q, A_b107_22⟩ := hQ22
  have N22 := Fr.app N21 N22q
  have zz22 : n0 ≤ h22.size := Nat.le_trans zz21 K22q.1
  refine Runs.via (T' := T22) (g' := (mkF m 414 #[.val (.long y0), .second, .val (.int x2), .val (.int x3), .val (.long y4), .second, .val (.int x6), .val (.int x7), .val (.int x8), .val (.int x9), .val (.long y10), .second, .val (.int v1), .val (.ref b107)] [])) (fun t k => st22 _ k) ?_
  refine Runs.via (T' := T22) (g' := (mkF m 428 #[.val (.long y0), .second, .val (.int x2), .val (.int x3), .val (.long y4), .second, .val (.int x6), .val (.int x7), .val (.int x8), .val (.int x9), .val (.long y10), .second, .val (.int v1), .val (.ref b107)] [(.int (16 : Int32)), (.long y10), (.int x8), (.int x7), (.int x6), (.int x9), (.ref b107)])) (fun t k => ?_) ?_
  · show Steps p.tables e below (T22.setTop (mkF m 414 #[.val (.long y0), .second, .val (.int x2), .val (.int x3), .val (.long y4), .second, .val (.int x6), .val (.int x7), .val (.int x8), .val (.int x9), .val (.long y10), .second, .val (.int v1), .val (.ref b107)] [])) t
    refine XS.aload X22.here hx rfl (hb hby at_414) rfl rfl ?_
    show Steps p.tables e below (T22.setTop (mkF m 416 #[.val (.long y0), .second, .val (.int x2), .val (.int x3), .val (.long y4), .second, .val (.int x6), .val (.int x7), .val (.int x8), .val (.int x9), .val (.long y10), .second, .val (.int v1), .val (.ref b107)] [(.ref b107)])) t
    refine XS.iload X22.here hx rfl (hb hby at_416) rfl ?_
    show Steps p.tables e below (T22.setTop (mkF m 418 #[.val (.long y0), .second, .val (.int x2), .val (.int x3), .val (.long y4), .second, .val (.int x6), .val (.int x7), .val (.int x8), .val (.int x9), .val (.long y10), .second, .val (.int v1), .val (.ref b107)] [(.int x9), (.ref b107)])) t
    refine XS.iload X22.here hx rfl (hb hby at_418) rfl ?_
    show Steps p.tables e below (T22.setTop (mkF m 420 #[.val (.long y0), .second, .val (.int x2), .val (.int x3), .val (.long y4), .second, .val (.int x6), .val (.int x7), .val (.int x8), .val (.int x9), .val (.long y10), .second, .val (.int v1), .val (.ref b107)] [(.int x6), (.int x9), (.ref b107)])) t
    refine XS.iload X22.here hx rfl (hb hby at_420) rfl ?_
    show Steps p.tables e below (T22.setTop (mkF m 422 #[.val (.long y0), .second, .val (.int x2), .val (.int x3), .val (.long y4), .second, .val (.int x6), .val (.int x7), .val (.int x8), .val (.int x9), .val (.long y10), .second, .val (.int v1), .val (.ref b107)] [(.int x7), (.int x6), (.int x9), (.ref b107)])) t
    refine XS.iload X22.here hx rfl (hb hby at_422) rfl ?_
    show Steps p.tables e below (T22.setTop (mkF m 424 #[.val (.long y0), .second, .val (.int x2), .val (.int x3), .val (.long y4), .second, .val (.int x6), .val (.int x7), .val (.int x8), .val (.int x9), .val (.long y10), .second, .val (.int v1), .val (.ref b107)] [(.int x8), (.int x7), (.int x6), (.int x9), (.ref b107)])) t
    refine XS.lload X22.here hx rfl (hb hby at_424) rfl ?_
    show Steps p.tables e below (T22.setTop (mkF m 426 #[.val (.long y0), .second, .val (.int x2), .val (.int x3), .val (.long y4), .second, .val (.int x6), .val (.int x7), .val (.int x8), .val (.int x9), .val (.long y10), .second, .val (.int v1), .val (.ref b107)] [(.long y10), (.int x8), (.int x7), (.int x6), (.int x9), (.ref b107)])) t
    refine XS.bipush X22.here hx rfl (hb hby at_426) ?_
    exact k
  refine bindE hr ?_; intro r23 hr23m hr
  obtain ⟨_, _, ⟨T23, L23, k23, n23⟩, -, X23, ⟨Lc23, hQ23, l23, y23, z23⟩, st23⟩ := Jvm.LawKit.callS X22 hx (y := (⟨"com/example/notewright/notewright/DecimalsUnscaledPinLaw", "put", "([BIIZIJI)V"⟩ : MethodName)) hown (mvT hZ (hw _ (List.mem_of_getElem? (i := 9) rfl))) (mvT hZ (hw _ (List.mem_of_getElem? (i := 10) rfl))) (mvT hZ (hw _ (List.mem_of_getElem? (i := 4) rfl))) (mvT hZ (hw _ (List.mem_of_getElem? (i := 11) rfl))) (by decide) (backOf (W := 0) (rm2 l Z a0 hw [] x9 x6 x7 x8 y10 (16 : Int32) b107 r22 h22 n0 zz22 (by omega) A_b107_22 r23 hr23m) hZ (hw _ (List.mem_of_getElem? (i := 11) rfl)) (hw _ (List.mem_of_getElem? (i := 4) rfl)) (by decide) (by decide)) (g := (mkF m 428 #[.val (.long y0), .second, .val (.int x2), .val (.int x3), .val (.long y4), .second, .val (.int x6), .val (.int x7), .val (.int x8), .val (.int x9), .val (.long y10), .second, .val (.int v1), .val (.ref b107)] [(.int (16 : Int32)), (.long y10), (.int x8), (.int x7), (.int x6), (.int x9), (.ref b107)])) rfl (by rw [hml]; rfl) (argsL := [(.ref b107), (.int x9), (.int x6), (.int x7), (.int x8), (.long y10), (.int (16 : Int32))]) (rest := []) (lenOf pd_1 rfl) rfl (by show 2 * 0 + _ ≤ _; exact Nat.le_of_eq rfl) (hb hby at_428) (fun _ _ => ⟨rfl, e22, (by show (((((((((((((((((cells + 1) + 0) + 0) + 0) + 0) + 0) + 0) + 0) + 0) + 0) + 0) + 0) + 0) + 0) + 0) + 0) + 0) + 0 ≤ 16; omega), (by show (((((((((((((((((slots + 23) + 0) + 0) + 0) + 0) + 0) + 0) + 0) + 0) + 0) + 0) + 0) + 0) + 0) + 0) + 0) + 0) + 0 ≤ 128; omega)⟩)
  dsimp only [Pt.U, Pt.locs, Pt.cells, Pt.slots] at X23 l23 y23 z23 st23 hQ23
  replace y23 := y23.symm; replace z23 := z23.symm; subst l23 y23 z23
  obtain ⟨h23, e23⟩ : ∃ z, T23.heap = z := ⟨_, rfl⟩
  rw [e23] at hQ23
  obtain ⟨rfl, N23q, K23q, A_b107_23⟩ := hQ23
  have N23 := Fr.app N22 N23q
  have zz23 : n0 ≤ h23.size := Nat.le_trans zz22 K23q.1
  refine Runs.via (T' := T23) (g' := (mkF m 431 #[.val (.long y0), .second, .val (.int x2), .val (.int x3), .val (.long y4), .second, .val (.int x6), .val (.int x7), .val (.int x8), .val (.int x9), .val (.long y10), .second, .val (.int v1), .val (.ref b107)] [])) (fun t k => st23 _ k) ?_
  refine Runs.via (T' := T23) (g' := (mkF m 445 #[.val (.long y0), .second, .val (.int x2), .val (.int x3), .val (.long y4), .second, .val (.int x6), .val (.int x7), .val (.int x8), .val (.int x9), .val (.long y10), .second, .val (.int v1), .val (.ref b107)] [(.int (17 : Int32)), (.long y10), (.int x8), (.int x7), (.int x6), (.int x9), (.ref b107)])) (fun t k => ?_) ?_
  · show Steps p.tables e below (T23.setTop (mkF m 431 #[.val (.long y0), .second, .val (.int x2), .val (.int x3), .val (.long y4), .second, .val (.int x6), .val (.int x7), .val (.int x8), .val (.int x9), .val (.long y10), .second, .val (.int v1), .val (.ref b107)] [])) t
    refine XS.aload X23.here hx rfl (hb hby at_431) rfl rfl ?_
    show Steps p.tables e below (T23.setTop (mkF m 433 #[.val (.long y0), .second, .val (.int x2), .val (.int x3), .val (.long y4), .second, .val (.int x6), .val (.int x7), .val (.int x8), .val (.int x9), .val (.long y10), .second, .val (.int v1), .val (.ref b107)] [(.ref b107)])) t
    refine XS.iload X23.here hx rfl (hb hby at_433) rfl ?_
    show Steps p.tables e below (T23.setTop (mkF m 435 #[.val (.long y0), .second, .val (.int x2), .val (.int x3), .val (.long y4), .second, .val (.int x6), .val (.int x7), .val (.int x8), .val (.int x9), .val (.long y10), .second, .val (.int v1), .val (.ref b107)] [(.int x9), (.ref b107)])) t
    refine XS.iload X23.here hx rfl (hb hby at_435) rfl ?_
    show Steps p.tables e below (T23.setTop (mkF m 437 #[.val (.long y0), .second, .val (.int x2), .val (.int x3), .val (.long y4), .second, .val (.int x6), .val (.int x7), .val (.int x8), .val (.int x9), .val (.long y10), .second, .val (.int v1), .val (.ref b107)] [(.int x6), (.int x9), (.ref b107)])) t
    refine XS.iload X23.here hx rfl (hb hby at_437) rfl ?_
    show Steps p.tables e below (T23.setTop (mkF m 439 #[.val (.long y0), .second, .val (.int x2), .val (.int x3), .val (.long y4), .second, .val (.int x6), .val (.int x7), .val (.int x8), .val (.int x9), .val (.long y10), .second, .val (.int v1), .val (.ref b107)] [(.int x7), (.int x6), (.int x9), (.ref b107)])) t
    refine XS.iload X23.here hx rfl (hb hby at_439) rfl ?_
    show Steps p.tables e below (T23.setTop (mkF m 441 #[.val (.long y0), .second, .val (.int x2), .val (.int x3), .val (.long y4), .second, .val (.int x6), .val (.int x7), .val (.int x8), .val (.int x9), .val (.long y10), .second, .val (.int v1), .val (.ref b107)] [(.int x8), (.int x7), (.int x6), (.int x9), (.ref b107)])) t
    refine XS.lload X23.here hx rfl (hb hby at_441) rfl ?_
    show Steps p.tables e below (T23.setTop (mkF m 443 #[.val (.long y0), .second, .val (.int x2), .val (.int x3), .val (.long y4), .second, .val (.int x6), .val (.int x7), .val (.int x8), .val (.int x9), .val (.long y10), .second, .val (.int v1), .val (.ref b107)] [(.long y10), (.int x8), (.int x7), (.int x6), (.int x9), (.ref b107)])) t
    refine XS.bipush X23.here hx rfl (hb hby at_443) ?_
    exact k
  refine bindE hr ?_; intro r24 hr24m hr
  obtain ⟨_, _, ⟨T24, L24, k24, n24⟩, -, X24, ⟨Lc24, hQ24, l24, y24, z24⟩, st24⟩ := Jvm.LawKit.callS X23 hx (y := (⟨"com/example/notewright/notewright/DecimalsUnscaledPinLaw", "put", "([BIIZIJI)V"⟩ : MethodName)) hown (mvT hZ (hw _ (List.mem_of_getElem? (i := 9) rfl))) (mvT hZ (hw _ (List.mem_of_getElem? (i := 10) rfl))) (mvT hZ (hw _ (List.mem_of_getElem? (i := 4) rfl))) (mvT hZ (hw _ (List.mem_of_getElem? (i := 11) rfl))) (by decide) (backOf (W := 0) (rm2 l Z a0 hw [] x9 x6 x7 x8 y10 (17 : Int32) b107 r23 h23 n0 zz23 (by omega) A_b107_23 r24 hr24m) hZ (hw _ (List.mem_of_getElem? (i := 11) rfl)) (hw _ (List.mem_of_getElem? (i := 4) rfl)) (by decide) (by decide)) (g := (mkF m 445 #[.val (.long y0), .second, .val (.int x2), .val (.int x3), .val (.long y4), .second, .val (.int x6), .val (.int x7), .val (.int x8), .val (.int x9), .val (.long y10), .second, .val (.int v1), .val (.ref b107)] [(.int (17 : Int32)), (.long y10), (.int x8), (.int x7), (.int x6), (.int x9), (.ref b107)])) rfl (by rw [hml]; rfl) (argsL := [(.ref b107), (.int x9), (.int x6), (.int x7), (.int x8), (.long y10), (.int (17 : Int32))]) (rest := []) (lenOf pd_1 rfl) rfl (by show 2 * 0 + _ ≤ _; exact Nat.le_of_eq rfl) (hb hby at_445) (fun _ _ => ⟨rfl, e23, (by show ((((((((((((((((((cells + 1) + 0) + 0) + 0) + 0) + 0) + 0) + 0) + 0) + 0) + 0) + 0) + 0) + 0) + 0) + 0) + 0) + 0) + 0 ≤ 16; omega), (by show ((((((((((((((((((slots + 23) + 0) + 0) + 0) + 0) + 0) + 0) + 0) + 0) + 0) + 0) + 0) + 0) + 0) + 0) + 0) + 0) + 0) + 0 ≤ 128; omega)⟩)
  dsimp only [Pt.U, Pt.locs, Pt.cells, Pt.slots] at X24 l24 y24 z24 st24 hQ24
  replace y24 := y24.symm; replace z24 := z24.symm; subst l24 y24 z24
  obtain ⟨h24, e24⟩ : ∃ z, T24.heap = z := ⟨_, rfl⟩
  rw [e24] at hQ24
  obtain ⟨rfl, N24q, K24q, A_b107_24⟩ := hQ24
  have N24 := Fr.app N23 N24q
  have zz24 : n0 ≤ h24.size := Nat.le_trans zz23 K24q.1
  refine Runs.via (T' := T24) (g' := (mkF m 448 #[.val (.long y0), .second, .val (.int x2), .val (.int x3), .val (.long y4), .second, .val (.int x6), .val (.int x7), .val (.int x8), .val (.int x9), .val (.long y10), .second, .val (.int v1), .val (.ref b107)] [])) (fun t k => st24 _ k) ?_
  refine Runs.via (T' := T24) (g' := (mkF m 450 #[.val (.long y0), .second, .val (.int x2), .val (.int x3), .val (.long y4), .second, .val (.int x6), .val (.int x7), .val (.int x8), .val (.int x9), .val (.long y10), .second, .val (.int v1), .val (.ref b107)] [(.int x7)])) (fun t k => ?_) ?_
  · show Steps p.tables e below (T24.setTop (mkF m 448 #[.val (.long y0), .second, .val (.int x2), .val (.int x3), .val (.long y4), .second, .val (.int x6), .val (.int x7), .val (.int x8), .val (.int x9), .val (.long y10), .second, .val (.int v1), .val (.ref b107)] [])) t
    refine XS.iload X24.here hx rfl (hb hby at_448) rfl ?_
    exact k
  refine iteE hr (fun hc25 hr => ?_) (fun hc25 hr => ?_)
  · refine Runs.via (T' := T24) (g' := (mkF m 463 #[.val (.long y0), .second, .val (.int x2), .val (.int x3), .val (.long y4), .second, .val (.int x6), .val (.int x7), .val (.int x8), .val (.int x9), .val (.long y10), .second, .val (.int v1), .val (.ref b107)] [])) (fun t k => ?_) ?_
    · show Steps p.tables e below (T24.setTop (mkF m 450 #[.val (.long y0), .second, .val (.int x2), .val (.int x3), .val (.long y4), .second, .val (.int x6), .val (.int x7), .val (.int x8), .val (.int x9), .val (.long y10), .second, .val (.int v1), .val (.ref b107)] [(.int x7)])) t
      exact XS.ifYes X24.here hx rfl (pc0 := 450) (pc' := 463) rfl (hb hby at_450) rfl ((if0 _ _).trans (teq hc25).1) (by decide) (by decide) k
    exact b0_463 C fuel X24 e24 N24 (by show (((((((((((((((((((cells + 1) + 0) + 0) + 0) + 0) + 0) + 0) + 0) + 0) + 0) + 0) + 0) + 0) + 0) + 0) + 0) + 0) + 0) + 0) ≤ 1; omega) (by show (((((((((((((((((((slots + 23) + 0) + 0) + 0) + 0) + 0) + 0) + 0) + 0) + 0) + 0) + 0) + 0) + 0) + 0) + 0) + 0) + 0) + 0) ≤ 23; omega) zz24 b107 (by omega) r24 y0 x2 x3 y4 x6 x7 x8 x9 y10 v1 A_b107_24 hr
  · refine Runs.via (T' := T24) (g' := (mkF m 453 #[.val (.long y0), .second, .val (.int x2), .val (.int x3), .val (.long y4), .second, .val (.int x6), .val (.int x7), .val (.int x8), .val (.int x9), .val (.long y10), .second, .val (.int v1), .val (.ref b107)] [])) (fun t k => ?_) ?_
    · show Steps p.tables e below (T24.setTop (mkF m 450 #[.val (.long y0), .second, .val (.int x2), .val (.int x3), .val (.long y4), .second, .val (.int x6), .val (.int x7), .val (.int x8), .val (.int x9), .val (.long y10), .second, .val (.int v1), .val (.ref b107)] [(.int x7)])) t
      exact XS.ifNo X24.here hx rfl (hb hby at_450) rfl ((if0 _ _).trans (feq hc25).1) k
    refine Runs.via (T' := T24) (g' := (mkF m 462 #[.val (.long y0), .second, .val (.int x2), .val (.int x3), .val (.long y4), .second, .val (.int x6), .val (.int x7), .val (.int x8), .val (.int x9), .val (.long y10), .second, .val (.int v1), .val (.ref b107)] [(.int (46 : Int32)), (.int (x9 + x8)), (.ref b107)])) (fun t k => ?_) ?_
    · show Steps p.tables e below (T24.setTop (mkF m 453 #[.val (.long y0), .second, .val (.int x2), .val (.int x3), .val (.long y4), .second, .val (.int x6), .val (.int x7), .val (.int x8), .val (.int x9), .val (.long y10), .second, .val (.int v1), .val (.ref b107)] [])) t
      refine XS.aload X24.here hx rfl (hb hby at_453) rfl rfl ?_
      show Steps p.tables e below (T24.setTop (mkF m 455 #[.val (.long y0), .second, .val (.int x2), .val (.int x3), .val (.long y4), .second, .val (.int x6), .val (.int x7), .val (.int x8), .val (.int x9), .val (.long y10), .second, .val (.int v1), .val (.ref b107)] [(.ref b107)])) t
      refine XS.iload X24.here hx rfl (hb hby at_455) rfl ?_
      show Steps p.tables e below (T24.setTop (mkF m 457 #[.val (.long y0), .second, .val (.int x2), .val (.int x3), .val (.long y4), .second, .val (.int x6), .val (.int x7), .val (.int x8), .val (.int x9), .val (.long y10), .second, .val (.int v1), .val (.ref b107)] [(.int x9), (.ref b107)])) t
      refine XS.iload X24.here hx rfl (hb hby at_457) rfl ?_
      show Steps p.tables e below (T24.setTop (mkF m 459 #[.val (.long y0), .second, .val (.int x2), .val (.int x3), .val (.long y4), .second, .val (.int x6), .val (.int x7), .val (.int x8), .val (.int x9), .val (.long y10), .second, .val (.int v1), .val (.ref b107)] [(.int x8), (.int x9), (.ref b107)])) t
      refine XS.iadd X24.here hx rfl (hb hby at_459) rfl ?_
      show Steps p.tables e below (T24.setTop (mkF m 460 #[.val (.long y0), .second, .val (.int x2), .val (.int x3), .val (.long y4), .second, .val (.int x6), .val (.int x7), .val (.int x8), .val (.int x9), .val (.long y10), .second, .val (.int v1), .val (.ref b107)] [(.int (x9 + x8)), (.ref b107)])) t
      refine XS.bipush X24.here hx rfl (hb hby at_460) ?_
      exact k
    refine bindE hr ?_; intro v26 hv26 hr
    obtain ⟨T26, h26, X26, e26, W26, A26, st26⟩ := soB X24 hx hZ e24 A_b107_24 hv26 (g := (mkF m 462 #[.val (.long y0), .second, .val (.int x2), .val (.int x3), .val (.long y4), .second, .val (.int x6), .val (.int x7), .val (.int x8), .val (.int x9), .val (.long y10), .second, .val (.int v1), .val (.ref b107)] [(.int (46 : Int32)), (.int (x9 + x8)), (.ref b107)])) rfl rfl (hb hby at_462)
    have A_b107_26 : AI Z h26 b107 .byte v26 := A26
    have N26 := Fr.snoc X26 N24 (by omega : n0 ≤ b107)
    have zz26 : n0 ≤ h26.size := Nat.le_trans zz24 (Keep.of_wr W26).1
    refine Runs.via (T' := T26) (g' := (mkF m 463 #[.val (.long y0), .second, .val (.int x2), .val (.int x3), .val (.long y4), .second, .val (.int x6), .val (.int x7), .val (.int x8), .val (.int x9), .val (.long y10), .second, .val (.int v1), .val (.ref b107)] [])) (fun t k => st26 _ k) ?_
    exact b0_463 C fuel X26 e26 N26 (by show (((((((((((((((((((cells + 1) + 0) + 0) + 0) + 0) + 0) + 0) + 0) + 0) + 0) + 0) + 0) + 0) + 0) + 0) + 0) + 0) + 0) + 0) ≤ 1; omega) (by show (((((((((((((((((((slots + 23) + 0) + 0) + 0) + 0) + 0) + 0) + 0) + 0) + 0) + 0) + 0) + 0) + 0) + 0) + 0) + 0) + 0) + 0) ≤ 23; omega) zz26 b107 (by omega) v26 y0 x2 x3 y4 x6 x7 x8 x9 y10 v1 A_b107_26 hr
def g0_67 (fuel : Nat) (x2 : Int32) (x3 : Int32) (y4 : Int64) (x6 : Int32) (x7 : Int32) (x8 : Int32) : Option (Int32) := (letO ((((x2.toUInt32 >>> ((11 : Int32) &&& 31).toUInt32).toInt32) &&& (3 : Int32)) - ((((x2.toUInt32 >>> ((11 : Int32) &&& 31).toUInt32).toInt32) &&& (3 : Int32)) / (3 : Int32)) * (3 : Int32)) fun v1 => (if (f1 x6) = (0 : Int64) then none else (letO (y4 - (y4 / (f1 x6)) * (f1 x6)) fun v4 => (if x7 = (0 : Int32) then (g0_102 fuel x3 x6 x7 x8 v1 v4 (0 : Int32) (v1 + x6)) else (g0_102 fuel x3 x6 x7 x8 v1 v4 (1 : Int32) (v1 + x6))))))
set_option maxRecDepth 65536 in
set_option maxHeartbeats 4000000 in
theorem b0_67 {r : Int32} (C : Ctx p s m meth c Z a0 "com/example/notewright/notewright/DecimalsUnscaledPinLaw" code 14 (some .boolean) "law") (fuel : Nat) (X0 : Stand p l e room_1 s m args below meth c T0 locs cells slots) (e0 : T0.heap = h0) (N0 : Fr n0 locs) (hk : cells ≤ 0) (hn : slots ≤ 0) (Z1 : n0 ≤ h0.size) (y0 : Int64) (x2 : Int32) (x3 : Int32) (y4 : Int64) (x6 : Int32) (x7 : Int32) (x8 : Int32) (hr : g0_67 fuel x2 x3 y4 x6 x7 x8 = some r) :
    Runs p e below s (P0 n0 r) 1 23 T0 (mkF m 67 #[.val (.long y0), .second, .val (.int x2), .val (.int x3), .val (.long y4), .second, .val (.int x6), .val (.int x7), .val (.int x8), .unset, .unset, .unset, .unset, .unset] []) := by
  unfold g0_67 at hr
  have ⟨hx, hZ, hw, hby, hml, hown, hret, hlk, hnm⟩ := C
  refine Runs.via (T' := T0) (g' := (mkF m 75 #[.val (.long y0), .second, .val (.int x2), .val (.int x3), .val (.long y4), .second, .val (.int x6), .val (.int x7), .val (.int x8), .unset, .unset, .unset, .unset, .unset] [(.int ((((x2.toUInt32 >>> ((11 : Int32) &&& 31).toUInt32).toInt32) &&& (3 : Int32)) - ((((x2.toUInt32 >>> ((11 : Int32) &&& 31).toUInt32).toInt32) &&& (3 : Int32)) / (3 : Int32)) * (3 : Int32)))])) (fun t k => ?_) ?_
  · show Steps p.tables e below (T0.setTop (mkF m 67 #[.val (.long y0), .second, .val (.int x2), .val (.int x3), .val (.long y4), .second, .val (.int x6), .val (.int x7), .val (.int x8), .unset, .unset, .unset, .unset, .unset] [])) t
    refine XS.iloadN X0.here hx rfl (hb hby at_67) rfl ?_
    show Steps p.tables e below (T0.setTop (mkF m 68 #[.val (.long y0), .second, .val (.int x2), .val (.int x3), .val (.long y4), .second, .val (.int x6), .val (.int x7), .val (.int x8), .unset, .unset, .unset, .unset, .unset] [(.int x2)])) t
    refine XS.bipush X0.here hx rfl (hb hby at_68) ?_
    show Steps p.tables e below (T0.setTop (mkF m 70 #[.val (.long y0), .second, .val (.int x2), .val (.int x3), .val (.long y4), .second, .val (.int x6), .val (.int x7), .val (.int x8), .unset, .unset, .unset, .unset, .unset] [(.int (11 : Int32)), (.int x2)])) t
    refine XS.iushr X0.here hx rfl (hb hby at_70) rfl ?_
    show Steps p.tables e below (T0.setTop (mkF m 71 #[.val (.long y0), .second, .val (.int x2), .val (.int x3), .val (.long y4), .second, .val (.int x6), .val (.int x7), .val (.int x8), .unset, .unset, .unset, .unset, .unset] [(.int ((x2.toUInt32 >>> ((11 : Int32) &&& 31).toUInt32).toInt32))])) t
    refine XS.iconst X0.here hx rfl (hb hby at_71) ?_
    show Steps p.tables e below (T0.setTop (mkF m 72 #[.val (.long y0), .second, .val (.int x2), .val (.int x3), .val (.long y4), .second, .val (.int x6), .val (.int x7), .val (.int x8), .unset, .unset, .unset, .unset, .unset] [(.int (3 : Int32)), (.int ((x2.toUInt32 >>> ((11 : Int32) &&& 31).toUInt32).toInt32))])) t
    refine XS.iand X0.here hx rfl (hb hby at_72) rfl ?_
    show Steps p.tables e below (T0.setTop (mkF m 73 #[.val (.long y0), .second, .val (.int x2), .val (.int x3), .val (.long y4), .second, .val (.int x6), .val (.int x7), .val (.int x8), .unset, .unset, .unset, .unset, .unset] [(.int (((x2.toUInt32 >>> ((11 : Int32) &&& 31).toUInt32).toInt32) &&& (3 : Int32)))])) t
    refine XS.iconst X0.here hx rfl (hb hby at_73) ?_
    show Steps p.tables e below (T0.setTop (mkF m 74 #[.val (.long y0), .second, .val (.int x2), .val (.int x3), .val (.long y4), .second, .val (.int x6), .val (.int x7), .val (.int x8), .unset, .unset, .unset, .unset, .unset] [(.int (3 : Int32)), (.int (((x2.toUInt32 >>> ((11 : Int32) &&& 31).toUInt32).toInt32) &&& (3 : Int32)))])) t
    refine XS.irem X0.here hx rfl (hb hby at_74) rfl (by decide) ?_
    exact k
  refine letE hr ?_; intro v1 hv1 hr
  rw [← hv1]
  refine Runs.via (T' := T0) (g' := (mkF m 81 #[.val (.long y0), .second, .val (.int x2), .val (.int x3), .val (.long y4), .second, .val (.int x6), .val (.int x7), .val (.int x8), .val (.int v1), .unset, .unset, .unset, .unset] [(.int x6), (.long y4)])) (fun t k => ?_) ?_
  · show Steps p.tables e below (T0.setTop (mkF m 75 #[.val (.long y0), .second, .val (.int x2), .val (.int x3), .val (.long y4), .second, .val (.int x6), .val (.int x7), .val (.int x8), .unset, .unset, .unset, .unset, .unset] [(.int v1)])) t
    refine XS.istore X0.here hx rfl (hb hby at_75) rfl (l' := #[.val (.long y0), .second, .val (.int x2), .val (.int x3), .val (.long y4), .second, .val (.int x6), .val (.int x7), .val (.int x8), .val (.int v1), .unset, .unset, .unset, .unset]) rfl ?_
    show Steps p.tables e below (T0.setTop (mkF m 77 #[.val (.long y0), .second, .val (.int x2), .val (.int x3), .val (.long y4), .second, .val (.int x6), .val (.int x7), .val (.int x8), .val (.int v1), .unset, .unset, .unset, .unset] [])) t
    refine XS.lload X0.here hx rfl (hb hby at_77) rfl ?_
    show Steps p.tables e below (T0.setTop (mkF m 79 #[.val (.long y0), .second, .val (.int x2), .val (.int x3), .val (.long y4), .second, .val (.int x6), .val (.int x7), .val (.int x8), .val (.int v1), .unset, .unset, .unset, .unset] [(.long y4)])) t
    refine XS.iload X0.here hx rfl (hb hby at_79) rfl ?_
    exact k
  obtain ⟨_, _, ⟨T2, L2, k2, n2⟩, -, X2, ⟨Lc2, hQ2, l2, y2, z2⟩, st2⟩ := Jvm.LawKit.callS X0 hx (y := (⟨"com/example/notewright/notewright/DecimalsUnscaledPinLaw", "pow10", "(I)J"⟩ : MethodName)) hown (mvT hZ (hw _ (List.mem_of_getElem? (i := 2) rfl))) (mvT hZ (hw _ (List.mem_of_getElem? (i := 3) rfl))) (mvT hZ (hw _ (List.mem_of_getElem? (i := 4) rfl))) (mvT hZ (hw _ (List.mem_of_getElem? (i := 5) rfl))) (by decide) (backOf (W := 2) (rm1 l Z a0 hw [] x6 h0 n0) hZ (hw _ (List.mem_of_getElem? (i := 5) rfl)) (hw _ (List.mem_of_getElem? (i := 4) rfl)) (by decide) (by decide)) (g := (mkF m 81 #[.val (.long y0), .second, .val (.int x2), .val (.int x3), .val (.long y4), .second, .val (.int x6), .val (.int x7), .val (.int x8), .val (.int v1), .unset, .unset, .unset, .unset] [(.int x6), (.long y4)])) rfl (by rw [hml]; rfl) (argsL := [(.int x6)]) (rest := [(.long y4)]) (lenOf pd_0 rfl) rfl (by show 2 * 0 + _ ≤ _; exact Nat.le_of_eq rfl) (hb hby at_81) (fun _ _ => ⟨rfl, e0, (by show cells + 0 ≤ 16; omega), (by show slots + 0 ≤ 128; omega)⟩)
  dsimp only [Pt.U, Pt.locs, Pt.cells, Pt.slots] at X2 l2 y2 z2 st2 hQ2
  replace y2 := y2.symm; replace z2 := z2.symm; subst l2 y2 z2
  obtain ⟨rfl, N2q, e2⟩ := hQ2
  have N2 := Fr.app N0 N2q
  refine Runs.via (T' := T2) (g' := (mkF m 84 #[.val (.long y0), .second, .val (.int x2), .val (.int x3), .val (.long y4), .second, .val (.int x6), .val (.int x7), .val (.int x8), .val (.int v1), .unset, .unset, .unset, .unset] [(.long (f1 x6)), (.long y4)])) (fun t k => st2 _ k) ?_
  refine iteE hr (fun hz3 hr => nomatch hr) (fun hz3 hr => ?_)
  refine Runs.via (T' := T2) (g' := (mkF m 85 #[.val (.long y0), .second, .val (.int x2), .val (.int x3), .val (.long y4), .second, .val (.int x6), .val (.int x7), .val (.int x8), .val (.int v1), .unset, .unset, .unset, .unset] [(.long (y4 - (y4 / (f1 x6)) * (f1 x6)))])) (fun t k => ?_) ?_
  · show Steps p.tables e below (T2.setTop (mkF m 84 #[.val (.long y0), .second, .val (.int x2), .val (.int x3), .val (.long y4), .second, .val (.int x6), .val (.int x7), .val (.int x8), .val (.int v1), .unset, .unset, .unset, .unset] [(.long (f1 x6)), (.long y4)])) t
    refine XS.lrem X2.here hx rfl (hb hby at_84) rfl hz3 ?_
    exact k
  refine letE hr ?_; intro v4 hv4 hr
  rw [← hv4]
  refine Runs.via (T' := T2) (g' := (mkF m 94 #[.val (.long y0), .second, .val (.int x2), .val (.int x3), .val (.long y4), .second, .val (.int x6), .val (.int x7), .val (.int x8), .val (.int v1), .val (.long v4), .second, .unset, .unset] [(.int x7), (.int (v1 + x6))])) (fun t k => ?_) ?_
  · show Steps p.tables e below (T2.setTop (mkF m 85 #[.val (.long y0), .second, .val (.int x2), .val (.int x3), .val (.long y4), .second, .val (.int x6), .val (.int x7), .val (.int x8), .val (.int v1), .unset, .unset, .unset, .unset] [(.long v4)])) t
    refine XS.lstore X2.here hx rfl (hb hby at_85) rfl (l' := #[.val (.long y0), .second, .val (.int x2), .val (.int x3), .val (.long y4), .second, .val (.int x6), .val (.int x7), .val (.int x8), .val (.int v1), .val (.long v4), .second, .unset, .unset]) rfl ?_
    show Steps p.tables e below (T2.setTop (mkF m 87 #[.val (.long y0), .second, .val (.int x2), .val (.int x3), .val (.long y4), .second, .val (.int x6), .val (.int x7), .val (.int x8), .val (.int v1), .val (.long v4), .second, .unset, .unset] [])) t
    refine XS.iload X2.here hx rfl (hb hby at_87) rfl ?_
    show Steps p.tables e below (T2.setTop (mkF m 89 #[.val (.long y0), .second, .val (.int x2), .val (.int x3), .val (.long y4), .second, .val (.int x6), .val (.int x7), .val (.int x8), .val (.int v1), .val (.long v4), .second, .unset, .unset] [(.int v1)])) t
    refine XS.iload X2.here hx rfl (hb hby at_89) rfl ?_
    show Steps p.tables e below (T2.setTop (mkF m 91 #[.val (.long y0), .second, .val (.int x2), .val (.int x3), .val (.long y4), .second, .val (.int x6), .val (.int x7), .val (.int x8), .val (.int v1), .val (.long v4), .second, .unset, .unset] [(.int x6), (.int v1)])) t
    refine XS.iadd X2.here hx rfl (hb hby at_91) rfl ?_
    show Steps p.tables e below (T2.setTop (mkF m 92 #[.val (.long y0), .second, .val (.int x2), .val (.int x3), .val (.long y4), .second, .val (.int x6), .val (.int x7), .val (.int x8), .val (.int v1), .val (.long v4), .second, .unset, .unset] [(.int (v1 + x6))])) t
    refine XS.iload X2.here hx rfl (hb hby at_92) rfl ?_
    exact k
  refine iteE hr (fun hc5 hr => ?_) (fun hc5 hr => ?_)
  · refine Runs.via (T' := T2) (g' := (mkF m 101 #[.val (.long y0), .second, .val (.int x2), .val (.int x3), .val (.long y4), .second, .val (.int x6), .val (.int x7), .val (.int x8), .val (.int v1), .val (.long v4), .second, .unset, .unset] [(.int (v1 + x6))])) (fun t k => ?_) ?_
    · show Steps p.tables e below (T2.setTop (mkF m 94 #[.val (.long y0), .second, .val (.int x2), .val (.int x3), .val (.long y4), .second, .val (.int x6), .val (.int x7), .val (.int x8), .val (.int v1), .val (.long v4), .second, .unset, .unset] [(.int x7), (.int (v1 + x6))])) t
      exact XS.ifYes X2.here hx rfl (pc0 := 94) (pc' := 101) rfl (hb hby at_94) rfl ((if0 _ _).trans (teq hc5).1) (by decide) (by decide) k
    refine Runs.via (T' := T2) (g' := (mkF m 102 #[.val (.long y0), .second, .val (.int x2), .val (.int x3), .val (.long y4), .second, .val (.int x6), .val (.int x7), .val (.int x8), .val (.int v1), .val (.long v4), .second, .unset, .unset] [(.int (0 : Int32)), (.int (v1 + x6))])) (fun t k => ?_) ?_
    · show Steps p.tables e below (T2.setTop (mkF m 101 #[.val (.long y0), .second, .val (.int x2), .val (.int x3), .val (.long y4), .second, .val (.int x6), .val (.int x7), .val (.int x8), .val (.int v1), .val (.long v4), .second, .unset, .unset] [(.int (v1 + x6))])) t
      refine XS.iconst X2.here hx rfl (hb hby at_101) ?_
      exact k
    exact b0_102 C fuel X2 e2 N2 (by show (cells + 0) ≤ 0; omega) (by show (slots + 0) ≤ 0; omega) Z1 y0 x2 x3 y4 x6 x7 x8 v1 v4 (0 : Int32) (v1 + x6) hr
  · refine Runs.via (T' := T2) (g' := (mkF m 97 #[.val (.long y0), .second, .val (.int x2), .val (.int x3), .val (.long y4), .second, .val (.int x6), .val (.int x7), .val (.int x8), .val (.int v1), .val (.long v4), .second, .unset, .unset] [(.int (v1 + x6))])) (fun t k => ?_) ?_
    · show Steps p.tables e below (T2.setTop (mkF m 94 #[.val (.long y0), .second, .val (.int x2), .val (.int x3), .val (.long y4), .second, .val (.int x6), .val (.int x7), .val (.int x8), .val (.int v1), .val (.long v4), .second, .unset, .unset] [(.int x7), (.int (v1 + x6))])) t
      exact XS.ifNo X2.here hx rfl (hb hby at_94) rfl ((if0 _ _).trans (feq hc5).1) k
    refine Runs.via (T' := T2) (g' := (mkF m 102 #[.val (.long y0), .second, .val (.int x2), .val (.int x3), .val (.long y4), .second, .val (.int x6), .val (.int x7), .val (.int x8), .val (.int v1), .val (.long v4), .second, .unset, .unset] [(.int (1 : Int32)), (.int (v1 + x6))])) (fun t k => ?_) ?_
    · show Steps p.tables e below (T2.setTop (mkF m 97 #[.val (.long y0), .second, .val (.int x2), .val (.int x3), .val (.long y4), .second, .val (.int x6), .val (.int x7), .val (.int x8), .val (.int v1), .val (.long v4), .second, .unset, .unset] [(.int (v1 + x6))])) t
      refine XS.iconst X2.here hx rfl (hb hby at_97) ?_
      show Steps p.tables e below (T2.setTop (mkF m 98 #[.val (.long y0), .second, .val (.int x2), .val (.int x3), .val (.long y4), .second, .val (.int x6), .val (.int x7), .val (.int x8), .val (.int v1), .val (.long v4), .second, .unset, .unset] [(.int (1 : Int32)), (.int (v1 + x6))])) t
      refine XS.goto X2.here hx rfl (pc0 := 98) (pc' := 102) rfl (hb hby at_98) (by decide) (by decide) ?_
      exact k
    exact b0_102 C fuel X2 e2 N2 (by show (cells + 0) ≤ 0; omega) (by show (slots + 0) ≤ 0; omega) Z1 y0 x2 x3 y4 x6 x7 x8 v1 v4 (1 : Int32) (v1 + x6) hr
def g0_41 (fuel : Nat) (x2 : Int32) (x3 : Int32) (y4 : Int64) (x6 : Int32) (u0 : Int32) : Option (Int32) := (if u0 = (0 : Int32) then (g0_67 fuel x2 x3 y4 x6 u0 (0 : Int32)) else (if (x6 - (1 : Int32)) = (0 : Int32) then none else (letO ((1 : Int32) + ((((x2.toUInt32 >>> ((6 : Int32) &&& 31).toUInt32).toInt32) &&& (31 : Int32)) - ((((x2.toUInt32 >>> ((6 : Int32) &&& 31).toUInt32).toInt32) &&& (31 : Int32)) / (x6 - (1 : Int32))) * (x6 - (1 : Int32)))) fun v3 => (g0_67 fuel x2 x3 y4 x6 u0 v3))))
set_option maxRecDepth 65536 in
set_option maxHeartbeats 4000000 in
theorem b0_41 {r : Int32} (C : Ctx p s m meth c Z a0 "com/example/notewright/notewright/DecimalsUnscaledPinLaw" code 14 (some .boolean) "law") (fuel : Nat) (X0 : Stand p l e room_1 s m args below meth c T0 locs cells slots) (e0 : T0.heap = h0) (N0 : Fr n0 locs) (hk : cells ≤ 0) (hn : slots ≤ 0) (Z1 : n0 ≤ h0.size) (y0 : Int64) (x2 : Int32) (x3 : Int32) (y4 : Int64) (x6 : Int32) (u0 : Int32) (hr : g0_41 fuel x2 x3 y4 x6 u0 = some r) :
    Runs p e below s (P0 n0 r) 1 23 T0 (mkF m 41 #[.val (.long y0), .second, .val (.int x2), .val (.int x3), .val (.long y4), .second, .val (.int x6), .unset, .unset, .unset, .unset, .unset, .unset, .unset] [(.int u0)]) := by
  unfold g0_41 at hr
  have ⟨hx, hZ, hw, hby, hml, hown, hret, hlk, hnm⟩ := C
  refine Runs.via (T' := T0) (g' := (mkF m 48 #[.val (.long y0), .second, .val (.int x2), .val (.int x3), .val (.long y4), .second, .val (.int x6), .val (.int u0), .val (.int (0 : Int32)), .unset, .unset, .unset, .unset, .unset] [(.int u0)])) (fun t k => ?_) ?_
  · show Steps p.tables e below (T0.setTop (mkF m 41 #[.val (.long y0), .second, .val (.int x2), .val (.int x3), .val (.long y4), .second, .val (.int x6), .unset, .unset, .unset, .unset, .unset, .unset, .unset] [(.int u0)])) t
    refine XS.istore X0.here hx rfl (hb hby at_41) rfl (l' := #[.val (.long y0), .second, .val (.int x2), .val (.int x3), .val (.long y4), .second, .val (.int x6), .val (.int u0), .unset, .unset, .unset, .unset, .unset, .unset]) rfl ?_
    show Steps p.tables e below (T0.setTop (mkF m 43 #[.val (.long y0), .second, .val (.int x2), .val (.int x3), .val (.long y4), .second, .val (.int x6), .val (.int u0), .unset, .unset, .unset, .unset, .unset, .unset] [])) t
    refine XS.iconst X0.here hx rfl (hb hby at_43) ?_
    show Steps p.tables e below (T0.setTop (mkF m 44 #[.val (.long y0), .second, .val (.int x2), .val (.int x3), .val (.long y4), .second, .val (.int x6), .val (.int u0), .unset, .unset, .unset, .unset, .unset, .unset] [(.int (0 : Int32))])) t
    refine XS.istore X0.here hx rfl (hb hby at_44) rfl (l' := #[.val (.long y0), .second, .val (.int x2), .val (.int x3), .val (.long y4), .second, .val (.int x6), .val (.int u0), .val (.int (0 : Int32)), .unset, .unset, .unset, .unset, .unset]) rfl ?_
    show Steps p.tables e below (T0.setTop (mkF m 46 #[.val (.long y0), .second, .val (.int x2), .val (.int x3), .val (.long y4), .second, .val (.int x6), .val (.int u0), .val (.int (0 : Int32)), .unset, .unset, .unset, .unset, .unset] [])) t
    refine XS.iload X0.here hx rfl (hb hby at_46) rfl ?_
    exact k
  refine iteE hr (fun hc1 hr => ?_) (fun hc1 hr => ?_)
  · refine Runs.via (T' := T0) (g' := (mkF m 67 #[.val (.long y0), .second, .val (.int x2), .val (.int x3), .val (.long y4), .second, .val (.int x6), .val (.int u0), .val (.int (0 : Int32)), .unset, .unset, .unset, .unset, .unset] [])) (fun t k => ?_) ?_
    · show Steps p.tables e below (T0.setTop (mkF m 48 #[.val (.long y0), .second, .val (.int x2), .val (.int x3), .val (.long y4), .second, .val (.int x6), .val (.int u0), .val (.int (0 : Int32)), .unset, .unset, .unset, .unset, .unset] [(.int u0)])) t
      exact XS.ifYes X0.here hx rfl (pc0 := 48) (pc' := 67) rfl (hb hby at_48) rfl ((if0 _ _).trans (teq hc1).1) (by decide) (by decide) k
    exact b0_67 C fuel X0 e0 N0 (by show cells ≤ 0; omega) (by show slots ≤ 0; omega) Z1 y0 x2 x3 y4 x6 u0 (0 : Int32) hr
  · refine Runs.via (T' := T0) (g' := (mkF m 51 #[.val (.long y0), .second, .val (.int x2), .val (.int x3), .val (.long y4), .second, .val (.int x6), .val (.int u0), .val (.int (0 : Int32)), .unset, .unset, .unset, .unset, .unset] [])) (fun t k => ?_) ?_
    · show Steps p.tables e below (T0.setTop (mkF m 48 #[.val (.long y0), .second, .val (.int x2), .val (.int x3), .val (.long y4), .second, .val (.int x6), .val (.int u0), .val (.int (0 : Int32)), .unset, .unset, .unset, .unset, .unset] [(.int u0)])) t
      exact XS.ifNo X0.here hx rfl (hb hby at_48) rfl ((if0 _ _).trans (feq hc1).1) k
    refine Runs.via (T' := T0) (g' := (mkF m 63 #[.val (.long y0), .second, .val (.int x2), .val (.int x3), .val (.long y4), .second, .val (.int x6), .val (.int u0), .val (.int (0 : Int32)), .unset, .unset, .unset, .unset, .unset] [(.int (x6 - (1 : Int32))), (.int (((x2.toUInt32 >>> ((6 : Int32) &&& 31).toUInt32).toInt32) &&& (31 : Int32))), (.int (1 : Int32))])) (fun t k => ?_) ?_
    · show Steps p.tables e below (T0.setTop (mkF m 51 #[.val (.long y0), .second, .val (.int x2), .val (.int x3), .val (.long y4), .second, .val (.int x6), .val (.int u0), .val (.int (0 : Int32)), .unset, .unset, .unset, .unset, .unset] [])) t
      refine XS.iconst X0.here hx rfl (hb hby at_51) ?_
      show Steps p.tables e below (T0.setTop (mkF m 52 #[.val (.long y0), .second, .val (.int x2), .val (.int x3), .val (.long y4), .second, .val (.int x6), .val (.int u0), .val (.int (0 : Int32)), .unset, .unset, .unset, .unset, .unset] [(.int (1 : Int32))])) t
      refine XS.iloadN X0.here hx rfl (hb hby at_52) rfl ?_
      show Steps p.tables e below (T0.setTop (mkF m 53 #[.val (.long y0), .second, .val (.int x2), .val (.int x3), .val (.long y4), .second, .val (.int x6), .val (.int u0), .val (.int (0 : Int32)), .unset, .unset, .unset, .unset, .unset] [(.int x2), (.int (1 : Int32))])) t
      refine XS.bipush X0.here hx rfl (hb hby at_53) ?_
      show Steps p.tables e below (T0.setTop (mkF m 55 #[.val (.long y0), .second, .val (.int x2), .val (.int x3), .val (.long y4), .second, .val (.int x6), .val (.int u0), .val (.int (0 : Int32)), .unset, .unset, .unset, .unset, .unset] [(.int (6 : Int32)), (.int x2), (.int (1 : Int32))])) t
      refine XS.iushr X0.here hx rfl (hb hby at_55) rfl ?_
      show Steps p.tables e below (T0.setTop (mkF m 56 #[.val (.long y0), .second, .val (.int x2), .val (.int x3), .val (.long y4), .second, .val (.int x6), .val (.int u0), .val (.int (0 : Int32)), .unset, .unset, .unset, .unset, .unset] [(.int ((x2.toUInt32 >>> ((6 : Int32) &&& 31).toUInt32).toInt32)), (.int (1 : Int32))])) t
      refine XS.bipush X0.here hx rfl (hb hby at_56) ?_
      show Steps p.tables e below (T0.setTop (mkF m 58 #[.val (.long y0), .second, .val (.int x2), .val (.int x3), .val (.long y4), .second, .val (.int x6), .val (.int u0), .val (.int (0 : Int32)), .unset, .unset, .unset, .unset, .unset] [(.int (31 : Int32)), (.int ((x2.toUInt32 >>> ((6 : Int32) &&& 31).toUInt32).toInt32)), (.int (1 : Int32))])) t
      refine XS.iand X0.here hx rfl (hb hby at_58) rfl ?_
      show Steps p.tables e below (T0.setTop (mkF m 59 #[.val (.long y0), .second, .val (.int x2), .val (.int x3), .val (.long y4), .second, .val (.int x6), .val (.int u0), .val (.int (0 : Int32)), .unset, .unset, .unset, .unset, .unset] [(.int (((x2.toUInt32 >>> ((6 : Int32) &&& 31).toUInt32).toInt32) &&& (31 : Int32))), (.int (1 : Int32))])) t
      refine XS.iload X0.here hx rfl (hb hby at_59) rfl ?_
      show Steps p.tables e below (T0.setTop (mkF m 61 #[.val (.long y0), .second, .val (.int x2), .val (.int x3), .val (.long y4), .second, .val (.int x6), .val (.int u0), .val (.int (0 : Int32)), .unset, .unset, .unset, .unset, .unset] [(.int x6), (.int (((x2.toUInt32 >>> ((6 : Int32) &&& 31).toUInt32).toInt32) &&& (31 : Int32))), (.int (1 : Int32))])) t
      refine XS.iconst X0.here hx rfl (hb hby at_61) ?_
      show Steps p.tables e below (T0.setTop (mkF m 62 #[.val (.long y0), .second, .val (.int x2), .val (.int x3), .val (.long y4), .second, .val (.int x6), .val (.int u0), .val (.int (0 : Int32)), .unset, .unset, .unset, .unset, .unset] [(.int (1 : Int32)), (.int x6), (.int (((x2.toUInt32 >>> ((6 : Int32) &&& 31).toUInt32).toInt32) &&& (31 : Int32))), (.int (1 : Int32))])) t
      refine XS.isub X0.here hx rfl (hb hby at_62) rfl ?_
      exact k
    refine iteE hr (fun hz2 hr => nomatch hr) (fun hz2 hr => ?_)
    refine Runs.via (T' := T0) (g' := (mkF m 65 #[.val (.long y0), .second, .val (.int x2), .val (.int x3), .val (.long y4), .second, .val (.int x6), .val (.int u0), .val (.int (0 : Int32)), .unset, .unset, .unset, .unset, .unset] [(.int ((1 : Int32) + ((((x2.toUInt32 >>> ((6 : Int32) &&& 31).toUInt32).toInt32) &&& (31 : Int32)) - ((((x2.toUInt32 >>> ((6 : Int32) &&& 31).toUInt32).toInt32) &&& (31 : Int32)) / (x6 - (1 : Int32))) * (x6 - (1 : Int32)))))])) (fun t k => ?_) ?_
    · show Steps p.tables e below (T0.setTop (mkF m 63 #[.val (.long y0), .second, .val (.int x2), .val (.int x3), .val (.long y4), .second, .val (.int x6), .val (.int u0), .val (.int (0 : Int32)), .unset, .unset, .unset, .unset, .unset] [(.int (x6 - (1 : Int32))), (.int (((x2.toUInt32 >>> ((6 : Int32) &&& 31).toUInt32).toInt32) &&& (31 : Int32))), (.int (1 : Int32))])) t
      refine XS.irem X0.here hx rfl (hb hby at_63) rfl hz2 ?_
      show Steps p.tables e below (T0.setTop (mkF m 64 #[.val (.long y0), .second, .val (.int x2), .val (.int x3), .val (.long y4), .second, .val (.int x6), .val (.int u0), .val (.int (0 : Int32)), .unset, .unset, .unset, .unset, .unset] [(.int ((((x2.toUInt32 >>> ((6 : Int32) &&& 31).toUInt32).toInt32) &&& (31 : Int32)) - ((((x2.toUInt32 >>> ((6 : Int32) &&& 31).toUInt32).toInt32) &&& (31 : Int32)) / (x6 - (1 : Int32))) * (x6 - (1 : Int32)))), (.int (1 : Int32))])) t
      refine XS.iadd X0.here hx rfl (hb hby at_64) rfl ?_
      exact k
    refine letE hr ?_; intro v3 hv3 hr
    rw [← hv3]
    refine Runs.via (T' := T0) (g' := (mkF m 67 #[.val (.long y0), .second, .val (.int x2), .val (.int x3), .val (.long y4), .second, .val (.int x6), .val (.int u0), .val (.int v3), .unset, .unset, .unset, .unset, .unset] [])) (fun t k => ?_) ?_
    · show Steps p.tables e below (T0.setTop (mkF m 65 #[.val (.long y0), .second, .val (.int x2), .val (.int x3), .val (.long y4), .second, .val (.int x6), .val (.int u0), .val (.int (0 : Int32)), .unset, .unset, .unset, .unset, .unset] [(.int v3)])) t
      refine XS.istore X0.here hx rfl (hb hby at_65) rfl (l' := #[.val (.long y0), .second, .val (.int x2), .val (.int x3), .val (.long y4), .second, .val (.int x6), .val (.int u0), .val (.int v3), .unset, .unset, .unset, .unset, .unset]) rfl ?_
      exact k
    exact b0_67 C fuel X0 e0 N0 (by show cells ≤ 0; omega) (by show slots ≤ 0; omega) Z1 y0 x2 x3 y4 x6 u0 v3 hr
def g0_40 (fuel : Nat) (x2 : Int32) (x3 : Int32) (y4 : Int64) (x6 : Int32) : Option (Int32) := (g0_41 fuel x2 x3 y4 x6 (0 : Int32))
set_option maxRecDepth 65536 in
set_option maxHeartbeats 4000000 in
theorem b0_40 {r : Int32} (C : Ctx p s m meth c Z a0 "com/example/notewright/notewright/DecimalsUnscaledPinLaw" code 14 (some .boolean) "law") (fuel : Nat) (X0 : Stand p l e room_1 s m args below meth c T0 locs cells slots) (e0 : T0.heap = h0) (N0 : Fr n0 locs) (hk : cells ≤ 0) (hn : slots ≤ 0) (Z1 : n0 ≤ h0.size) (y0 : Int64) (x2 : Int32) (x3 : Int32) (y4 : Int64) (x6 : Int32) (hr : g0_40 fuel x2 x3 y4 x6 = some r) :
    Runs p e below s (P0 n0 r) 1 23 T0 (mkF m 40 #[.val (.long y0), .second, .val (.int x2), .val (.int x3), .val (.long y4), .second, .val (.int x6), .unset, .unset, .unset, .unset, .unset, .unset, .unset] []) := by
  unfold g0_40 at hr
  have ⟨hx, hZ, hw, hby, hml, hown, hret, hlk, hnm⟩ := C
  refine Runs.via (T' := T0) (g' := (mkF m 41 #[.val (.long y0), .second, .val (.int x2), .val (.int x3), .val (.long y4), .second, .val (.int x6), .unset, .unset, .unset, .unset, .unset, .unset, .unset] [(.int (0 : Int32))])) (fun t k => ?_) ?_
  · show Steps p.tables e below (T0.setTop (mkF m 40 #[.val (.long y0), .second, .val (.int x2), .val (.int x3), .val (.long y4), .second, .val (.int x6), .unset, .unset, .unset, .unset, .unset, .unset, .unset] [])) t
    refine XS.iconst X0.here hx rfl (hb hby at_40) ?_
    exact k
  exact b0_41 C fuel X0 e0 N0 (by show cells ≤ 0; omega) (by show slots ≤ 0; omega) Z1 y0 x2 x3 y4 x6 (0 : Int32) hr
def g0_0 (fuel : Nat) (y0 : Int64) (x2 : Int32) (x3 : Int32) : Option (Int32) := (letO ((y0 &&& (9223372036854775807 : Int64)) - ((y0 &&& (9223372036854775807 : Int64)) / (1000000000000000000 : Int64)) * (1000000000000000000 : Int64)) fun v1 => (letO ((1 : Int32) + ((x2 &&& (31 : Int32)) - ((x2 &&& (31 : Int32)) / (18 : Int32)) * (18 : Int32))) fun v2 => (if (((x2.toUInt32 >>> ((5 : Int32) &&& 31).toUInt32).toInt32) &&& (1 : Int32)) = (0 : Int32) then (g0_40 fuel x2 x3 v1 v2) else (if v2 < (2 : Int32) then (g0_40 fuel x2 x3 v1 v2) else (g0_41 fuel x2 x3 v1 v2 (1 : Int32))))))
set_option maxRecDepth 65536 in
set_option maxHeartbeats 4000000 in
theorem b0_0 {r : Int32} (C : Ctx p s m meth c Z a0 "com/example/notewright/notewright/DecimalsUnscaledPinLaw" code 14 (some .boolean) "law") (fuel : Nat) (X0 : Stand p l e room_1 s m args below meth c T0 locs cells slots) (e0 : T0.heap = h0) (N0 : Fr n0 locs) (hk : cells ≤ 0) (hn : slots ≤ 0) (Z1 : n0 ≤ h0.size) (y0 : Int64) (x2 : Int32) (x3 : Int32) (hr : g0_0 fuel y0 x2 x3 = some r) :
    Runs p e below s (P0 n0 r) 1 23 T0 (mkF m 0 #[.val (.long y0), .second, .val (.int x2), .val (.int x3), .unset, .unset, .unset, .unset, .unset, .unset, .unset, .unset, .unset, .unset] []) := by
  unfold g0_0 at hr
  have ⟨hx, hZ, hw, hby, hml, hown, hret, hlk, hnm⟩ := C
  refine Runs.via (T' := T0) (g' := (mkF m 9 #[.val (.long y0), .second, .val (.int x2), .val (.int x3), .unset, .unset, .unset, .unset, .unset, .unset, .unset, .unset, .unset, .unset] [(.long ((y0 &&& (9223372036854775807 : Int64)) - ((y0 &&& (9223372036854775807 : Int64)) / (1000000000000000000 : Int64)) * (1000000000000000000 : Int64)))])) (fun t k => ?_) ?_
  · show Steps p.tables e below (T0.setTop (mkF m 0 #[.val (.long y0), .second, .val (.int x2), .val (.int x3), .unset, .unset, .unset, .unset, .unset, .unset, .unset, .unset, .unset, .unset] [])) t
    refine XS.lloadN X0.here hx rfl (hb hby at_0) rfl ?_
    show Steps p.tables e below (T0.setTop (mkF m 1 #[.val (.long y0), .second, .val (.int x2), .val (.int x3), .unset, .unset, .unset, .unset, .unset, .unset, .unset, .unset, .unset, .unset] [(.long y0)])) t
    refine X0.ldc2Long hx hown (mvT hZ (hw _ (List.mem_of_getElem? (i := 0) rfl))) (g := (mkF m 1 #[.val (.long y0), .second, .val (.int x2), .val (.int x3), .unset, .unset, .unset, .unset, .unset, .unset, .unset, .unset, .unset, .unset] [(.long y0)])) rfl (hb hby at_1) _ ?_
    show Steps p.tables e below (T0.setTop (mkF m 4 #[.val (.long y0), .second, .val (.int x2), .val (.int x3), .unset, .unset, .unset, .unset, .unset, .unset, .unset, .unset, .unset, .unset] [(.long (9223372036854775807 : Int64)), (.long y0)])) t
    refine XS.land X0.here hx rfl (hb hby at_4) rfl ?_
    show Steps p.tables e below (T0.setTop (mkF m 5 #[.val (.long y0), .second, .val (.int x2), .val (.int x3), .unset, .unset, .unset, .unset, .unset, .unset, .unset, .unset, .unset, .unset] [(.long (y0 &&& (9223372036854775807 : Int64)))])) t
    refine X0.ldc2Long hx hown (mvT hZ (hw _ (List.mem_of_getElem? (i := 1) rfl))) (g := (mkF m 5 #[.val (.long y0), .second, .val (.int x2), .val (.int x3), .unset, .unset, .unset, .unset, .unset, .unset, .unset, .unset, .unset, .unset] [(.long (y0 &&& (9223372036854775807 : Int64)))])) rfl (hb hby at_5) _ ?_
    show Steps p.tables e below (T0.setTop (mkF m 8 #[.val (.long y0), .second, .val (.int x2), .val (.int x3), .unset, .unset, .unset, .unset, .unset, .unset, .unset, .unset, .unset, .unset] [(.long (1000000000000000000 : Int64)), (.long (y0 &&& (9223372036854775807 : Int64)))])) t
    refine XS.lrem X0.here hx rfl (hb hby at_8) rfl (by decide) ?_
    exact k
  refine letE hr ?_; intro v1 hv1 hr
  rw [← hv1]
  refine Runs.via (T' := T0) (g' := (mkF m 20 #[.val (.long y0), .second, .val (.int x2), .val (.int x3), .val (.long v1), .second, .unset, .unset, .unset, .unset, .unset, .unset, .unset, .unset] [(.int ((1 : Int32) + ((x2 &&& (31 : Int32)) - ((x2 &&& (31 : Int32)) / (18 : Int32)) * (18 : Int32))))])) (fun t k => ?_) ?_
  · show Steps p.tables e below (T0.setTop (mkF m 9 #[.val (.long y0), .second, .val (.int x2), .val (.int x3), .unset, .unset, .unset, .unset, .unset, .unset, .unset, .unset, .unset, .unset] [(.long v1)])) t
    refine XS.lstore X0.here hx rfl (hb hby at_9) rfl (l' := #[.val (.long y0), .second, .val (.int x2), .val (.int x3), .val (.long v1), .second, .unset, .unset, .unset, .unset, .unset, .unset, .unset, .unset]) rfl ?_
    show Steps p.tables e below (T0.setTop (mkF m 11 #[.val (.long y0), .second, .val (.int x2), .val (.int x3), .val (.long v1), .second, .unset, .unset, .unset, .unset, .unset, .unset, .unset, .unset] [])) t
    refine XS.iconst X0.here hx rfl (hb hby at_11) ?_
    show Steps p.tables e below (T0.setTop (mkF m 12 #[.val (.long y0), .second, .val (.int x2), .val (.int x3), .val (.long v1), .second, .unset, .unset, .unset, .unset, .unset, .unset, .unset, .unset] [(.int (1 : Int32))])) t
    refine XS.iloadN X0.here hx rfl (hb hby at_12) rfl ?_
    show Steps p.tables e below (T0.setTop (mkF m 13 #[.val (.long y0), .second, .val (.int x2), .val (.int x3), .val (.long v1), .second, .unset, .unset, .unset, .unset, .unset, .unset, .unset, .unset] [(.int x2), (.int (1 : Int32))])) t
    refine XS.bipush X0.here hx rfl (hb hby at_13) ?_
    show Steps p.tables e below (T0.setTop (mkF m 15 #[.val (.long y0), .second, .val (.int x2), .val (.int x3), .val (.long v1), .second, .unset, .unset, .unset, .unset, .unset, .unset, .unset, .unset] [(.int (31 : Int32)), (.int x2), (.int (1 : Int32))])) t
    refine XS.iand X0.here hx rfl (hb hby at_15) rfl ?_
    show Steps p.tables e below (T0.setTop (mkF m 16 #[.val (.long y0), .second, .val (.int x2), .val (.int x3), .val (.long v1), .second, .unset, .unset, .unset, .unset, .unset, .unset, .unset, .unset] [(.int (x2 &&& (31 : Int32))), (.int (1 : Int32))])) t
    refine XS.bipush X0.here hx rfl (hb hby at_16) ?_
    show Steps p.tables e below (T0.setTop (mkF m 18 #[.val (.long y0), .second, .val (.int x2), .val (.int x3), .val (.long v1), .second, .unset, .unset, .unset, .unset, .unset, .unset, .unset, .unset] [(.int (18 : Int32)), (.int (x2 &&& (31 : Int32))), (.int (1 : Int32))])) t
    refine XS.irem X0.here hx rfl (hb hby at_18) rfl (by decide) ?_
    show Steps p.tables e below (T0.setTop (mkF m 19 #[.val (.long y0), .second, .val (.int x2), .val (.int x3), .val (.long v1), .second, .unset, .unset, .unset, .unset, .unset, .unset, .unset, .unset] [(.int ((x2 &&& (31 : Int32)) - ((x2 &&& (31 : Int32)) / (18 : Int32)) * (18 : Int32))), (.int (1 : Int32))])) t
    refine XS.iadd X0.here hx rfl (hb hby at_19) rfl ?_
    exact k
  refine letE hr ?_; intro v2 hv2 hr
  rw [← hv2]
  refine Runs.via (T' := T0) (g' := (mkF m 27 #[.val (.long y0), .second, .val (.int x2), .val (.int x3), .val (.long v1), .second, .val (.int v2), .unset, .unset, .unset, .unset, .unset, .unset, .unset] [(.int (((x2.toUInt32 >>> ((5 : Int32) &&& 31).toUInt32).toInt32) &&& (1 : Int32)))])) (fun t k => ?_) ?_
  · show Steps p.tables e below (T0.setTop (mkF m 20 #[.val (.long y0), .second, .val (.int x2), .val (.int x3), .val (.long v1), .second, .unset, .unset, .unset, .unset, .unset, .unset, .unset, .unset] [(.int v2)])) t
    refine XS.istore X0.here hx rfl (hb hby at_20) rfl (l' := #[.val (.long y0), .second, .val (.int x2), .val (.int x3), .val (.long v1), .second, .val (.int v2), .unset, .unset, .unset, .unset, .unset, .unset, .unset]) rfl ?_
    show Steps p.tables e below (T0.setTop (mkF m 22 #[.val (.long y0), .second, .val (.int x2), .val (.int x3), .val (.long v1), .second, .val (.int v2), .unset, .unset, .unset, .unset, .unset, .unset, .unset] [])) t
    refine XS.iloadN X0.here hx rfl (hb hby at_22) rfl ?_
    show Steps p.tables e below (T0.setTop (mkF m 23 #[.val (.long y0), .second, .val (.int x2), .val (.int x3), .val (.long v1), .second, .val (.int v2), .unset, .unset, .unset, .unset, .unset, .unset, .unset] [(.int x2)])) t
    refine XS.iconst X0.here hx rfl (hb hby at_23) ?_
    show Steps p.tables e below (T0.setTop (mkF m 24 #[.val (.long y0), .second, .val (.int x2), .val (.int x3), .val (.long v1), .second, .val (.int v2), .unset, .unset, .unset, .unset, .unset, .unset, .unset] [(.int (5 : Int32)), (.int x2)])) t
    refine XS.iushr X0.here hx rfl (hb hby at_24) rfl ?_
    show Steps p.tables e below (T0.setTop (mkF m 25 #[.val (.long y0), .second, .val (.int x2), .val (.int x3), .val (.long v1), .second, .val (.int v2), .unset, .unset, .unset, .unset, .unset, .unset, .unset] [(.int ((x2.toUInt32 >>> ((5 : Int32) &&& 31).toUInt32).toInt32))])) t
    refine XS.iconst X0.here hx rfl (hb hby at_25) ?_
    show Steps p.tables e below (T0.setTop (mkF m 26 #[.val (.long y0), .second, .val (.int x2), .val (.int x3), .val (.long v1), .second, .val (.int v2), .unset, .unset, .unset, .unset, .unset, .unset, .unset] [(.int (1 : Int32)), (.int ((x2.toUInt32 >>> ((5 : Int32) &&& 31).toUInt32).toInt32))])) t
    refine XS.iand X0.here hx rfl (hb hby at_26) rfl ?_
    exact k
  refine iteE hr (fun hc3 hr => ?_) (fun hc3 hr => ?_)
  · refine Runs.via (T' := T0) (g' := (mkF m 40 #[.val (.long y0), .second, .val (.int x2), .val (.int x3), .val (.long v1), .second, .val (.int v2), .unset, .unset, .unset, .unset, .unset, .unset, .unset] [])) (fun t k => ?_) ?_
    · show Steps p.tables e below (T0.setTop (mkF m 27 #[.val (.long y0), .second, .val (.int x2), .val (.int x3), .val (.long v1), .second, .val (.int v2), .unset, .unset, .unset, .unset, .unset, .unset, .unset] [(.int (((x2.toUInt32 >>> ((5 : Int32) &&& 31).toUInt32).toInt32) &&& (1 : Int32)))])) t
      exact XS.ifYes X0.here hx rfl (pc0 := 27) (pc' := 40) rfl (hb hby at_27) rfl ((if0 _ _).trans (teq hc3).1) (by decide) (by decide) k
    exact b0_40 C fuel X0 e0 N0 (by show cells ≤ 0; omega) (by show slots ≤ 0; omega) Z1 y0 x2 x3 v1 v2 hr
  · refine Runs.via (T' := T0) (g' := (mkF m 30 #[.val (.long y0), .second, .val (.int x2), .val (.int x3), .val (.long v1), .second, .val (.int v2), .unset, .unset, .unset, .unset, .unset, .unset, .unset] [])) (fun t k => ?_) ?_
    · show Steps p.tables e below (T0.setTop (mkF m 27 #[.val (.long y0), .second, .val (.int x2), .val (.int x3), .val (.long v1), .second, .val (.int v2), .unset, .unset, .unset, .unset, .unset, .unset, .unset] [(.int (((x2.toUInt32 >>> ((5 : Int32) &&& 31).toUInt32).toInt32) &&& (1 : Int32)))])) t
      exact XS.ifNo X0.here hx rfl (hb hby at_27) rfl ((if0 _ _).trans (feq hc3).1) k
    refine Runs.via (T' := T0) (g' := (mkF m 33 #[.val (.long y0), .second, .val (.int x2), .val (.int x3), .val (.long v1), .second, .val (.int v2), .unset, .unset, .unset, .unset, .unset, .unset, .unset] [(.int (2 : Int32)), (.int v2)])) (fun t k => ?_) ?_
    · show Steps p.tables e below (T0.setTop (mkF m 30 #[.val (.long y0), .second, .val (.int x2), .val (.int x3), .val (.long v1), .second, .val (.int v2), .unset, .unset, .unset, .unset, .unset, .unset, .unset] [])) t
      refine XS.iload X0.here hx rfl (hb hby at_30) rfl ?_
      show Steps p.tables e below (T0.setTop (mkF m 32 #[.val (.long y0), .second, .val (.int x2), .val (.int x3), .val (.long v1), .second, .val (.int v2), .unset, .unset, .unset, .unset, .unset, .unset, .unset] [(.int v2)])) t
      refine XS.iconst X0.here hx rfl (hb hby at_32) ?_
      exact k
    refine iteE hr (fun hc4 hr => ?_) (fun hc4 hr => ?_)
    · refine Runs.via (T' := T0) (g' := (mkF m 40 #[.val (.long y0), .second, .val (.int x2), .val (.int x3), .val (.long v1), .second, .val (.int v2), .unset, .unset, .unset, .unset, .unset, .unset, .unset] [])) (fun t k => ?_) ?_
      · show Steps p.tables e below (T0.setTop (mkF m 33 #[.val (.long y0), .second, .val (.int x2), .val (.int x3), .val (.long v1), .second, .val (.int v2), .unset, .unset, .unset, .unset, .unset, .unset, .unset] [(.int (2 : Int32)), (.int v2)])) t
        exact XS.icmpYes X0.here hx rfl (pc0 := 33) (pc' := 40) rfl (hb hby at_33) rfl (tlt hc4).1 (by decide) (by decide) k
      exact b0_40 C fuel X0 e0 N0 (by show cells ≤ 0; omega) (by show slots ≤ 0; omega) Z1 y0 x2 x3 v1 v2 hr
    · refine Runs.via (T' := T0) (g' := (mkF m 36 #[.val (.long y0), .second, .val (.int x2), .val (.int x3), .val (.long v1), .second, .val (.int v2), .unset, .unset, .unset, .unset, .unset, .unset, .unset] [])) (fun t k => ?_) ?_
      · show Steps p.tables e below (T0.setTop (mkF m 33 #[.val (.long y0), .second, .val (.int x2), .val (.int x3), .val (.long v1), .second, .val (.int v2), .unset, .unset, .unset, .unset, .unset, .unset, .unset] [(.int (2 : Int32)), (.int v2)])) t
        exact XS.icmpNo X0.here hx rfl (hb hby at_33) rfl (flt hc4).1 k
      refine Runs.via (T' := T0) (g' := (mkF m 41 #[.val (.long y0), .second, .val (.int x2), .val (.int x3), .val (.long v1), .second, .val (.int v2), .unset, .unset, .unset, .unset, .unset, .unset, .unset] [(.int (1 : Int32))])) (fun t k => ?_) ?_
      · show Steps p.tables e below (T0.setTop (mkF m 36 #[.val (.long y0), .second, .val (.int x2), .val (.int x3), .val (.long v1), .second, .val (.int v2), .unset, .unset, .unset, .unset, .unset, .unset, .unset] [])) t
        refine XS.iconst X0.here hx rfl (hb hby at_36) ?_
        show Steps p.tables e below (T0.setTop (mkF m 37 #[.val (.long y0), .second, .val (.int x2), .val (.int x3), .val (.long v1), .second, .val (.int v2), .unset, .unset, .unset, .unset, .unset, .unset, .unset] [(.int (1 : Int32))])) t
        refine XS.goto X0.here hx rfl (pc0 := 37) (pc' := 41) rfl (hb hby at_37) (by decide) (by decide) ?_
        exact k
      exact b0_41 C fuel X0 e0 N0 (by show cells ≤ 0; omega) (by show slots ≤ 0; omega) Z1 y0 x2 x3 v1 v2 (1 : Int32) hr
def f0 (fuel : Nat) (y0 : Int64) (x2 : Int32) (x3 : Int32) : Option (Int32) := g0_0 fuel y0 x2 x3
theorem pn_0 : plainName "com/example/notewright/notewright/DecimalsUnscaledPinLaw" = true := by first | (simp [plainName, overriddenIn]; done) | decide +kernel
theorem ef_0 (m : MethodId) (y0 : Int64) (x2 : Int32) (x3 : Int32) : entryFrame m #[(.long y0), (.int x2), (.int x3)] maxLocals = mkF m 0 #[.val (.long y0), .second, .val (.int x2), .val (.int x3), .unset, .unset, .unset, .unset, .unset, .unset, .unset, .unset, .unset, .unset] [] := by first | (simp [entryFrame, mkF, argsToLocals, Value.category, maxLocals]; done) | rfl
set_option maxRecDepth 65536 in
set_option maxHeartbeats 4000000 in
theorem rm0 (l : Launch) (Z : State) (a0 : Array Value) (hw : ∀ d ∈ tables_1, d.before a0 Z = true) (ws : List Jvm.Cond) (y0 : Int64) (x2 : Int32) (x3 : Int32) (hE : Heap) (n0 : Nat) (Z0 : n0 ≤ hE.size) (fuel : Nat) (r : Int32) (hr : f0 fuel y0 x2 x3 = some r) :
    MetFree l x (head1 (Jvm.Cond.code x code maxLocals ret :: ws) room_1) (fun a U => a = #[(.long y0), (.int x2), (.int x3)] ∧ Z.Warmed39 U.vm ∧ U.heap = hE) (fun _ _ _ _ _ => True) (fun _ U o U' => ∃ v L, o = .returned v ∧ (P0 n0 r v U'.heap L) ∧ FrameEnd U o U' L 1 23) := by
  refine MetFree.of_bodySF (plainFor_of_name pn_0) hisR ?_
  intro p e s m args below meth c s₁ Bd hml0 hP hK
  obtain ⟨rfl, hZ, hh⟩ := hP
  have X0 : Stand p l e room_1 s m #[(.long y0), (.int x2), (.int x3)] below meth c s₁ [] 0 0 := Stand.of_body Bd
  have e0 : s₁.heap = hE := by rw [← hh, Bd.state]; rfl
  have C : Ctx p s m meth c Z a0 "com/example/notewright/notewright/DecimalsUnscaledPinLaw" code 14 (some .boolean) "law" := ⟨Bd.exec, hZ, hw, Bd.bytes, hml0, findClass_of_methodNamed Bd.named, Bd.returns, BodyLoose.notSynchronized Bd, (name_of_methodNamed Bd.named Bd.method).1⟩
  refine Runs.via (fun t k => castTop (ef_0 m y0 x2 x3) k) (b0_0 C fuel X0 e0 (Fr.nil n0) (by show 0 ≤ 0; omega) (by show 0 ≤ 0; omega) Z0 y0 x2 x3 hr)
end Own
theorem bindS {α β : Type} {x : Option α} {k : α → Option β} {r : Option β} {v : α} (h : x = some v) (H : k v = r) : x.bind k = r := by rw [h]; exact H
theorem letS {α β : Type} {x : α} {k : α → β} {r : β} (H : k x = r) : letO x k = r := H
theorem wrS {α β : Type} {n : Nat} {xs : List α} {j : Int32} {v : α} {k : List α → Option β} {r : Option β} (hl : xs.length = n) (h1 : ¬ j < 0) (h2 : j.toNatClampNeg < n) (H : ∀ ys : List α, ys.length = n → k ys = r) : (wrO xs j v).bind k = r := by
  refine bindS (v := xs.set j.toNatClampNeg v) ?_ (H _ (by simp [hl]))
  unfold wrO
  rw [if_neg]
  rintro (q | q)
  · exact h1 q
  · omega
theorem own_irem (u d : Int32) (D : Int) (hd : d.toInt = D) (hD : 0 < D) (h0 : 0 ≤ u.toInt) : (u - (u / d) * d).toInt = u.toInt % D := by
  have hn : d ≠ -1 := fun q => by rw [q] at hd; have : (-1 : Int32).toInt = -1 := by decide
                                  omega
  have e1 := (c_idiv u d D hd hn).1 h0
  have e2 := c_imul (u / d) d
  have e3 := c_isub u ((u / d) * d)
  have r1 := rng32 u
  have r2 := rng32 ((u / d) * d)
  have r3 := rng32 (u - (u / d) * d)
  rw [hd, e1] at e2
  have e4 := Int.emod_add_mul_ediv u.toInt D
  have e5 := Int.emod_nonneg u.toInt (by omega : D ≠ 0)
  have e6 := Int.emod_lt_of_pos u.toInt hD
  have e7 : u.toInt / D * D = D * (u.toInt / D) := Int.mul_comm _ _
  rw [e7] at e2
  have e8 : 0 ≤ D * (u.toInt / D) := Int.mul_nonneg (by omega) (Int.ediv_nonneg h0 (by omega))
  omega
theorem own_pos (x : Int32) : 0 ≤ (x &&& (2147483647 : Int32)).toInt := by rw [c_mask x 2147483647 31 (by decide) (by decide)]; exact Int.emod_nonneg _ (by decide)
theorem own_lrem (x y : Int64) (hx : 0 ≤ x.toInt) : (x - (x / y) * y).toInt = x.toInt % y.toInt := by
  rw [lrem_mod, Int64.toInt_mod, Int.tmod_eq_emod_of_nonneg hx]
theorem own_of {i : Nat} (h : i ≤ 24) : (Int32.ofNat i).toInt = i ∧ (Int32.ofNat i).toNatClampNeg = i ∧ ¬ (Int32.ofNat i) < 0 ∧ Int32.ofNat i + 1 = Int32.ofNat (i + 1) := by
  have : ∀ j : Fin 25, (Int32.ofNat j.val).toInt = (j.val : Int) ∧ (Int32.ofNat j.val).toNatClampNeg = j.val ∧ ¬ (Int32.ofNat j.val) < 0 ∧ Int32.ofNat j.val + 1 = Int32.ofNat (j.val + 1) := by decide +kernel
  exact this ⟨i, by omega⟩
theorem own_of_eq (x : Int32) (n : Nat) (hn : n ≤ 24) (h : x.toInt = n) : x = Int32.ofNat n := Int32.toInt_inj.mp (by rw [h, (own_of hn).1])
theorem own_rd {α : Type} (xs : List α) {i : Nat} (h : i ≤ 24) : rdO xs (Int32.ofNat i) = xs[i]? := by
  obtain ⟨-, h2, h3, -⟩ := own_of h
  unfold rdO
  rw [if_neg h3, h2]
theorem own_wr {α : Type} (xs : List α) (v : α) {i : Nat} (h : i < 23) (hl : xs.length = 23) : wrO xs (Int32.ofNat i) v = some (xs.set i v) := by
  obtain ⟨-, h2, h3, -⟩ := own_of (i := i) (by omega)
  unfold wrO
  rw [h2, if_neg]
  rintro (q | q)
  · exact h3 q
  · omega
theorem own_pow {e : Nat} (h : e ≤ 18) : (f1 (Int32.ofNat e)).toInt = (10 ^ e : Nat) := by
  have : ∀ j : Fin 19, (f1 (Int32.ofNat j.val)).toInt = ((10 ^ j.val : Nat) : Int) := by decide +kernel
  exact this ⟨e, by omega⟩
theorem own_sub2 {len m : Nat} (h : m < len) (hl : len ≤ 18) : (Int32.ofNat len - (1 : Int32)) - Int32.ofNat m = Int32.ofNat (len - 1 - m) := by
  have : ∀ a : Fin 19, ∀ b : Fin 19, b.val < a.val → (Int32.ofNat a.val - (1 : Int32)) - Int32.ofNat b.val = Int32.ofNat (a.val - 1 - b.val) := by decide +kernel
  exact this ⟨len, by omega⟩ ⟨m, by omega⟩ h
theorem own_add {a b : Nat} (ha : a ≤ 24) (hb : b ≤ 24) : Int32.ofNat a + Int32.ofNat b = Int32.ofNat (a + b) := by
  have : ∀ a : Fin 25, ∀ b : Fin 25, Int32.ofNat a.val + Int32.ofNat b.val = Int32.ofNat (a.val + b.val) := by decide +kernel
  exact this ⟨a, by omega⟩ ⟨b, by omega⟩
theorem own_digit (x : Int64) (d : Nat) (hd : d < 10) (hx : x.toInt = d) : (((48 : Int32) + (Int64.toInt32 x)).toInt8.toInt32).toInt8.toInt32 = Int32.ofNat (48 + d) := by
  have hx2 : x = Int64.ofNat d := by
    apply Int64.toInt_inj.mp
    have : ∀ j : Fin 10, (Int64.ofNat j.val).toInt = (j.val : Int) := by decide +kernel
    rw [hx, this ⟨d, hd⟩]
  rw [hx2]
  have : ∀ j : Fin 10, (((48 : Int32) + (Int64.toInt32 (Int64.ofNat j.val))).toInt8.toInt32).toInt8.toInt32 = Int32.ofNat (48 + j.val) := by decide +kernel
  exact this ⟨d, hd⟩
theorem own_digit2 (d : Nat) (hd : d < 10) : ¬ Int32.ofNat (48 + d) = 46 ∧ (Int32.toInt64 (Int32.ofNat (48 + d) - (48 : Int32))).toInt = d := by
  have : ∀ j : Fin 10, ¬ Int32.ofNat (48 + j.val) = 46 ∧ (Int32.toInt64 (Int32.ofNat (48 + j.val) - (48 : Int32))).toInt = (j.val : Int) := by decide +kernel
  exact this ⟨d, hd⟩
/-- where the j-th digit stands -/
def own_at (off k : Nat) (hp : Bool) (j : Nat) : Nat := off + j + (if hp = true ∧ k ≤ j then 1 else 0)
def own_dig (v len j : Nat) : Nat := v / 10 ^ (len - 1 - j) % 10
def own_G (off len k v : Nat) (hp : Bool) (m : Nat) (t : List Int32) : Prop := t.length = 23 ∧ ∀ j, j < m → j < len → t[own_at off k hp j]? = some (Int32.ofNat (48 + own_dig v len j))
abbrev own_i (b : Bool) : Int32 := if b then 1 else 0
theorem own_i0 : own_i false = 0 := rfl
theorem own_put (off len k v : Nat) (hp : Bool) (y : Int64) (hy : y.toInt = v) (ho : off ≤ 2) (hl : len ≤ 18) (hk : k ≤ 18) (m : Nat) (hm : m ≤ 18) (t : List Int32) (G : own_G off len k v hp m t) :
    ∃ t', f2 (Int32.ofNat off) (Int32.ofNat len) (own_i hp) (Int32.ofNat k) y (Int32.ofNat m) t = some t' ∧ own_G off len k v hp (m + 1) t' := by
  obtain ⟨g1, g2⟩ := G
  have om := own_of (i := m) (by omega)
  have ol := own_of (i := len) (by omega)
  have ok := own_of (i := k) (by omega)
  by_cases h : m < len
  · have h1 : Int32.ofNat m < Int32.ofNat len := by rw [Int32.lt_iff_toInt_lt]; omega
    have hat : own_at off k hp m < 23 := by unfold own_at; split <;> omega
    have key : g2_26 (Int32.ofNat len) y (Int32.ofNat m) (Int32.ofNat (if hp = true ∧ k ≤ m then 1 else 0)) (Int32.ofNat off + Int32.ofNat m) t = some (t.set (own_at off k hp m) (Int32.ofNat (48 + own_dig v len m))) := by
      unfold g2_26
      refine letS ?_
      rw [own_sub2 h hl]
      have hpw := own_pow (e := len - 1 - m) (by omega)
      have hpos : 0 < 10 ^ (len - 1 - m) := Nat.pow_pos (by decide)
      have hne : ¬ f1 (Int32.ofNat (len - 1 - m)) = 0 := fun q => by
        have z : (0 : Int64).toInt = 0 := by decide
        rw [q, z] at hpw
        omega
      rw [if_neg hne]
      refine letS ?_
      have hd1 : (y / f1 (Int32.ofNat (len - 1 - m))).toInt = ((v / 10 ^ (len - 1 - m) : Nat) : Int) := by
        rw [Int64.toInt_div_of_ne_right _ _ (fun q => by
          have z : (-1 : Int64).toInt = -1 := by decide
          rw [q, z] at hpw
          omega), hy, hpw, Int.tdiv_eq_ediv_of_nonneg (by omega)]
        exact (Int.natCast_ediv _ _).symm
      have hd2 := own_lrem (y / f1 (Int32.ofNat (len - 1 - m))) 10 (by rw [hd1]; exact Int.natCast_nonneg _)
      have k10 : (10 : Int64).toInt = 10 := by decide
      rw [hd1, k10] at hd2
      have hd3 : ((y / f1 (Int32.ofNat (len - 1 - m))) - (y / f1 (Int32.ofNat (len - 1 - m))) / 10 * 10).toInt = ((own_dig v len m : Nat) : Int) := by
        rw [hd2]; unfold own_dig; omega
      rw [own_digit _ (own_dig v len m) (Nat.mod_lt _ (by decide)) hd3]
      have hpos2 : (Int32.ofNat off + Int32.ofNat m) + Int32.ofNat (if hp = true ∧ k ≤ m then 1 else 0) = Int32.ofNat (own_at off k hp m) := by
        rw [own_add (by omega) (by omega)]
        unfold own_at
        split
        · exact own_add (by omega) (by omega)
        · exact own_add (by omega) (by omega)
      rw [hpos2]
      exact bindS (own_wr t _ hat g1) rfl
    refine ⟨t.set (own_at off k hp m) (Int32.ofNat (48 + own_dig v len m)), ?_, by simp [g1], fun j hj hjl => ?_⟩
    · unfold f2 g2_0 g2_25
      rw [if_pos h1]
      cases hp with
      | false =>
        rw [if_pos own_i0]
        exact key
      | true =>
        rw [if_neg (by decide)]
        by_cases hkm : m < k
        · have : Int32.ofNat m < Int32.ofNat k := by rw [Int32.lt_iff_toInt_lt]; omega
          rw [if_pos this]
          have e : (if true = true ∧ k ≤ m then 1 else 0) = 0 := by rw [if_neg]; omega
          rw [e] at key
          exact key
        · have : ¬ Int32.ofNat m < Int32.ofNat k := by rw [Int32.lt_iff_toInt_lt]; omega
          rw [if_neg this]
          have e : (if true = true ∧ k ≤ m then 1 else 0) = 1 := by rw [if_pos]; exact ⟨rfl, by omega⟩
          rw [e] at key
          exact key
    · by_cases e : j = m
      · subst e
        exact List.getElem?_set_self (by omega)
      · rw [List.getElem?_set_ne]
        · exact g2 j (by omega) hjl
        · unfold own_at
          cases hp <;> simp only [Bool.false_eq_true, false_and, if_false, true_and] <;> (repeat' split) <;> omega
  · have h1 : ¬ Int32.ofNat m < Int32.ofNat len := by rw [Int32.lt_iff_toInt_lt]; omega
    refine ⟨t, ?_, g1, fun j hj hjl => g2 j (by omega) hjl⟩
    unfold f2 g2_0
    rw [if_neg h1]
/-- how many digits stand ahead of place p -/
def own_J (off k : Nat) (hp : Bool) (p : Nat) : Nat := if hp = true ∧ off + k < p then p - off - 1 else p - off
theorem own_loop (F off len k v : Nat) (hp : Bool) (ho : off ≤ 2) (hl : len ≤ 18) (h1 : 1 ≤ len) (hk : hp = true → k < len) (hv : v < 10 ^ len) (t : List Int32) (G : own_G off len k v hp 18 t) (hdot : hp = true → t[off + k]? = some 46) :
    ∀ (r p : Nat) (y : Int64) (n : Nat), p + r = off + len + (if hp then 1 else 0) → off ≤ p → r < n → y.toInt = ((v / 10 ^ (len - own_J off k hp p) : Nat) : Int) →
      ∃ z, h3_5 F n (Int32.ofNat (off + len + (if hp then 1 else 0))) y (Int32.ofNat p) t = some z ∧ z.toInt = (v : Int) := by
  have he : off + len + (if hp then 1 else 0) ≤ 21 := by split <;> omega
  have oe := own_of (i := off + len + (if hp then 1 else 0)) (by omega)
  intro r
  induction r with
  | zero =>
    intro p y n hpr hop hn hy
    obtain ⟨m, rfl⟩ : ∃ m, n = m + 1 := ⟨n - 1, by omega⟩
    refine ⟨y, ?_, ?_⟩
    · show s3_5 (h3_5 F m) F _ y (Int32.ofNat p) t = _
      unfold s3_5
      rw [if_neg]
      rw [Int32.lt_iff_toInt_lt, oe.1, (own_of (i := p) (by omega)).1]
      omega
    · have hJ : len - own_J off k hp p = 0 := by
        unfold own_J
        cases hp with
        | false => simp at hpr ⊢; omega
        | true =>
          have := hk rfl
          simp at hpr ⊢
          split <;> omega
      rw [hy, hJ]
      simp
  | succ r ih =>
    intro p y n hpr hop hn hy
    obtain ⟨m, rfl⟩ : ∃ m, n = m + 1 := ⟨n - 1, by omega⟩
    have op := own_of (i := p) (by omega)
    have hlt : Int32.ofNat p < Int32.ofNat (off + len + (if hp then 1 else 0)) := by rw [Int32.lt_iff_toInt_lt]; omega
    by_cases hd : hp = true ∧ p = off + k
    · obtain ⟨hd1, hd2⟩ := hd
      obtain ⟨z, q1, q2⟩ := ih (p + 1) y m (by omega) (by omega) (by omega) (by
        rw [hy]
        have : own_J off k hp (p + 1) = own_J off k hp p := by
          unfold own_J
          rw [if_pos ⟨hd1, by omega⟩, if_neg (by omega)]
          omega
        rw [this])
      refine ⟨z, ?_, q2⟩
      show s3_5 (h3_5 F m) F _ y (Int32.ofNat p) t = _
      unfold s3_5 g3_37
      rw [if_pos hlt]
      refine bindS (by rw [own_rd t (by omega), hd2]; exact hdot hd1) ?_
      rw [if_pos rfl, op.2.2.2]
      exact q1
    · -- a digit
      have hJl : own_J off k hp p < len ∧ own_at off k hp (own_J off k hp p) = p ∧ own_J off k hp (p + 1) = own_J off k hp p + 1 := by
        unfold own_J own_at
        cases hp with
        | false => simp at hpr ⊢; omega
        | true =>
          have := hk rfl
          simp at hpr hd ⊢
          by_cases c : off + k < p
          · rw [if_pos c]
            have c2 : off + k < p + 1 := by omega
            rw [if_pos c2]
            have c3 : k ≤ p - off - 1 := by omega
            rw [if_pos c3]
            omega
          · rw [if_neg c]
            have c2 : ¬ off + k < p + 1 := by omega
            rw [if_neg c2]
            have c3 : ¬ k ≤ p - off := by omega
            rw [if_neg c3]
            omega
      obtain ⟨j1, j2, j3⟩ := hJl
      generalize own_J off k hp p = j at *
      have hw := G.2 j (by omega) j1
      rw [j2] at hw
      have hdl : own_dig v len j < 10 := Nat.mod_lt _ (by decide)
      obtain ⟨w1, w2⟩ := own_digit2 (own_dig v len j) hdl
      have hval : v / 10 ^ (len - j) * 10 + own_dig v len j = v / 10 ^ (len - (j + 1)) := by
        unfold own_dig
        have e1 : len - j = (len - 1 - j) + 1 := by omega
        have e2 : len - (j + 1) = len - 1 - j := by omega
        rw [e1, e2, Nat.pow_succ, ← Nat.div_div_eq_div_mul]
        omega
      have hsm : v / 10 ^ (len - (j + 1)) ≤ v := Nat.div_le_self _ _
      have hv18 : v < 10 ^ 18 := Nat.lt_of_lt_of_le hv (Nat.pow_le_pow_right (by decide) hl)
      have c10 : (10 ^ 18 : Nat) = 1000000000000000000 := by decide
      rw [c10] at hv18
      have e1 := c_lmul y 10
      have k10 : (10 : Int64).toInt = 10 := by decide
      rw [k10] at e1
      have e2 := c_ladd (y * 10) (Int32.toInt64 (Int32.ofNat (48 + own_dig v len j) - (48 : Int32)))
      have r1 := rng64 (y * 10 + Int32.toInt64 (Int32.ofNat (48 + own_dig v len j) - (48 : Int32)))
      have hnew : (y * 10 + Int32.toInt64 (Int32.ofNat (48 + own_dig v len j) - (48 : Int32))).toInt = ((v / 10 ^ (len - (j + 1)) : Nat) : Int) := by omega
      obtain ⟨z, q1, q2⟩ := ih (p + 1) (y * 10 + Int32.toInt64 (Int32.ofNat (48 + own_dig v len j) - (48 : Int32))) m (by omega) (by omega) (by omega) (by rw [j3]; exact hnew)
      refine ⟨z, ?_, q2⟩
      show s3_5 (h3_5 F m) F _ y (Int32.ofNat p) t = _
      unfold s3_5 g3_37
      rw [if_pos hlt]
      refine bindS (by rw [own_rd t (by omega)]; exact hw) ?_
      rw [if_neg w1]
      refine letS ?_
      rw [op.2.2.2]
      exact q1
theorem own_102 (off len k v : Nat) (hp : Bool) (x3 : Int32) (y : Int64) (hy : y.toInt = v) (ho : off ≤ 2) (hl : len ≤ 18) (h1 : 1 ≤ len) (hk : hp = true → k < len) (hk18 : k ≤ 18) (hv : v < 10 ^ len) :
    g0_102 30 x3 (Int32.ofNat len) (own_i hp) (Int32.ofNat k) (Int32.ofNat off) y (own_i hp) (Int32.ofNat off + Int32.ofNat len) = some 1 := by
  unfold g0_102
  refine letS ?_
  have hend : (Int32.ofNat off + Int32.ofNat len) + own_i hp = Int32.ofNat (off + len + (if hp then 1 else 0)) := by
    rw [own_add (by omega) (by omega)]
    cases hp with
    | false => exact own_add (b := 0) (by omega) (by omega)
    | true => exact own_add (b := 1) (by omega) (by omega)
  rw [hend]
  have he : off + len + (if hp then 1 else 0) ≤ 21 := by split <;> omega
  have oe := own_of (i := off + len + (if hp then 1 else 0)) (by omega)
  have oe1 := own_of (i := off + len + (if hp then 1 else 0) + 1) (by omega)
  refine bindS (v := List.replicate 23 0) (by decide +kernel) ?_
  refine wrS (n := 23) (by simp) (by decide) (by decide) (fun v3 l3 => ?_)
  refine wrS l3 (by decide) (by decide) (fun v4 l4 => ?_)
  refine wrS l4 oe.2.2.1 (by rw [oe.2.1]; omega) (fun v5 l5 => ?_)
  refine wrS l5 (by rw [oe.2.2.2]; exact oe1.2.2.1) (by rw [oe.2.2.2, oe1.2.1]; omega) (fun v6 l6 => ?_)
  have g0 : own_G off len k v hp 0 v6 := ⟨l6, fun j hj => absurd hj (Nat.not_lt_zero _)⟩
  obtain ⟨t1, a1, g1⟩ := own_put off len k v hp y hy ho hl hk18 0 (by omega) v6 g0
  refine bindS a1 ?_
  obtain ⟨t2, a2, g2⟩ := own_put off len k v hp y hy ho hl hk18 1 (by omega) t1 g1
  refine bindS a2 ?_
  obtain ⟨t3, a3, g3⟩ := own_put off len k v hp y hy ho hl hk18 2 (by omega) t2 g2
  refine bindS a3 ?_
  obtain ⟨t4, a4, g4⟩ := own_put off len k v hp y hy ho hl hk18 3 (by omega) t3 g3
  refine bindS a4 ?_
  obtain ⟨t5, a5, g5⟩ := own_put off len k v hp y hy ho hl hk18 4 (by omega) t4 g4
  refine bindS a5 ?_
  obtain ⟨t6, a6, g6⟩ := own_put off len k v hp y hy ho hl hk18 5 (by omega) t5 g5
  refine bindS a6 ?_
  obtain ⟨t7, a7, g7⟩ := own_put off len k v hp y hy ho hl hk18 6 (by omega) t6 g6
  refine bindS a7 ?_
  obtain ⟨t8, a8, g8⟩ := own_put off len k v hp y hy ho hl hk18 7 (by omega) t7 g7
  refine bindS a8 ?_
  obtain ⟨t9, a9, g9⟩ := own_put off len k v hp y hy ho hl hk18 8 (by omega) t8 g8
  refine bindS a9 ?_
  obtain ⟨t10, a10, g10⟩ := own_put off len k v hp y hy ho hl hk18 9 (by omega) t9 g9
  refine bindS a10 ?_
  obtain ⟨t11, a11, g11⟩ := own_put off len k v hp y hy ho hl hk18 10 (by omega) t10 g10
  refine bindS a11 ?_
  obtain ⟨t12, a12, g12⟩ := own_put off len k v hp y hy ho hl hk18 11 (by omega) t11 g11
  refine bindS a12 ?_
  obtain ⟨t13, a13, g13⟩ := own_put off len k v hp y hy ho hl hk18 12 (by omega) t12 g12
  refine bindS a13 ?_
  obtain ⟨t14, a14, g14⟩ := own_put off len k v hp y hy ho hl hk18 13 (by omega) t13 g13
  refine bindS a14 ?_
  obtain ⟨t15, a15, g15⟩ := own_put off len k v hp y hy ho hl hk18 14 (by omega) t14 g14
  refine bindS a15 ?_
  obtain ⟨t16, a16, g16⟩ := own_put off len k v hp y hy ho hl hk18 15 (by omega) t15 g15
  refine bindS a16 ?_
  obtain ⟨t17, a17, g17⟩ := own_put off len k v hp y hy ho hl hk18 16 (by omega) t16 g16
  refine bindS a17 ?_
  obtain ⟨t18, a18, g18⟩ := own_put off len k v hp y hy ho hl hk18 17 (by omega) t17 g17
  refine bindS a18 ?_
  have fin : ∀ t : List Int32, own_G off len k v hp 18 t → (hp = true → t[off + k]? = some 46) → g0_463 30 (Int32.ofNat off) y (Int32.ofNat (off + len + (if hp then 1 else 0))) t = some 1 := by
    intro t G hdot
    obtain ⟨z, q1, q2⟩ := own_loop 30 off len k v hp ho hl h1 hk hv t G hdot (len + (if hp then 1 else 0)) off 0 30 (by omega) (Nat.le_refl _) (by split <;> omega) (by
      have hJ : own_J off k hp off = 0 := by
        unfold own_J
        rw [if_neg (by omega)]
        omega
      have z : (0 : Int64).toInt = 0 := by decide
      rw [hJ, z, Nat.sub_zero, Nat.div_eq_of_lt hv]
      rfl)
    unfold g0_463
    refine bindS (v := z) q1 ?_
    rw [if_pos]
    apply Int64.toInt_inj.mp
    rw [q2, hy]
  cases hp with
  | false =>
    rw [if_pos own_i0]
    exact fin t18 g18 (fun q => nomatch q)
  | true =>
    rw [if_neg (by decide)]
    have hk' := hk rfl
    rw [own_add (by omega) (by omega)]
    refine bindS (own_wr t18 _ (by omega) g18.1) ?_
    refine fin _ ⟨by simp [g18.1], fun j hj hjl => ?_⟩ (fun _ => ?_)
    · rw [List.getElem?_set_ne]
      · exact g18.2 j hj hjl
      · unfold own_at
        simp only [true_and]
        split <;> omega
    · rw [List.getElem?_set_self (by have := g18.1; omega)]
      decide
theorem own_67 (len k v n : Nat) (hp : Bool) (x2 x3 : Int32) (y : Int64) (hy : y.toInt = n) (hl : len ≤ 18) (h1 : 1 ≤ len) (hk : hp = true → k < len) (hk18 : k ≤ 18) :
    g0_67 30 x2 x3 y (Int32.ofNat len) (own_i hp) (Int32.ofNat k) = some 1 := by
  unfold g0_67
  refine letS ?_
  have m3 := c_mask ((x2.toUInt32 >>> ((11 : Int32) &&& 31).toUInt32).toInt32) 3 2 (by decide) (by decide)
  generalize ((x2.toUInt32 >>> ((11 : Int32) &&& 31).toUInt32).toInt32) = u at *
  have p3 : 0 ≤ (u &&& (3 : Int32)).toInt := by rw [m3]; exact Int.emod_nonneg _ (by decide)
  have q3 := own_irem (u &&& (3 : Int32)) 3 3 (by decide) (by decide) p3
  have b3 : 0 ≤ ((u &&& (3 : Int32)) - ((u &&& (3 : Int32)) / 3) * 3).toInt ∧ ((u &&& (3 : Int32)) - ((u &&& (3 : Int32)) / 3) * 3).toInt < 3 := by rw [q3]; exact ⟨Int.emod_nonneg _ (by decide), Int.emod_lt_of_pos _ (by decide)⟩
  generalize ((u &&& (3 : Int32)) - ((u &&& (3 : Int32)) / 3) * 3) = o at b3
  obtain ⟨off, ho⟩ : ∃ off : Nat, o.toInt = off := ⟨o.toInt.toNat, by omega⟩
  obtain rfl := own_of_eq o off (by omega) ho
  have hpw := own_pow (e := len) (by omega)
  have hpos : 0 < 10 ^ len := Nat.pow_pos (by decide)
  have hne : ¬ f1 (Int32.ofNat len) = 0 := fun q => by
    have z : (0 : Int64).toInt = 0 := by decide
    rw [q, z] at hpw
    omega
  rw [if_neg hne]
  refine letS ?_
  have hr := own_lrem y (f1 (Int32.ofNat len)) (by omega)
  rw [hy, hpw] at hr
  have hr2 : (y - (y / f1 (Int32.ofNat len)) * f1 (Int32.ofNat len)).toInt = ((n % 10 ^ len : Nat) : Int) := by rw [hr]; exact (Int.natCast_emod _ _).symm
  have fin := own_102 off len k (n % 10 ^ len) hp x3 _ hr2 (by omega) hl h1 hk hk18 (Nat.mod_lt _ hpos)
  cases hp with
  | false => rw [if_pos own_i0]; exact fin
  | true => rw [if_neg (by decide)]; exact fin
theorem own_law (y0 : Int64) (x2 x3 : Int32) : ∃ fuel, f0 fuel y0 x2 x3 = some 1 := by
  refine ⟨30, ?_⟩
  unfold f0 g0_0
  refine letS (letS ?_)
  have p0 : 0 ≤ (y0 &&& (9223372036854775807 : Int64)).toInt := by
    rw [c_maskL y0 9223372036854775807 63 (by decide) (by decide)]; exact Int.emod_nonneg _ (by decide)
  have k18 : (1000000000000000000 : Int64).toInt = 1000000000000000000 := by decide
  have q0 := own_lrem (y0 &&& (9223372036854775807 : Int64)) 1000000000000000000 p0
  rw [k18] at q0
  have b0 : 0 ≤ ((y0 &&& (9223372036854775807 : Int64)) - ((y0 &&& (9223372036854775807 : Int64)) / 1000000000000000000) * 1000000000000000000).toInt := by rw [q0]; exact Int.emod_nonneg _ (by decide)
  generalize ((y0 &&& (9223372036854775807 : Int64)) - ((y0 &&& (9223372036854775807 : Int64)) / 1000000000000000000) * 1000000000000000000) = y at b0
  obtain ⟨n, hn⟩ : ∃ n : Nat, y.toInt = n := ⟨y.toInt.toNat, by omega⟩
  have m1 := c_mask x2 31 5 (by decide) (by decide)
  have p1 : 0 ≤ (x2 &&& (31 : Int32)).toInt := by rw [m1]; exact Int.emod_nonneg _ (by decide)
  have q1 := own_irem (x2 &&& (31 : Int32)) 18 18 (by decide) (by decide) p1
  have b1 : 0 ≤ ((x2 &&& (31 : Int32)) - ((x2 &&& (31 : Int32)) / 18) * 18).toInt ∧ ((x2 &&& (31 : Int32)) - ((x2 &&& (31 : Int32)) / 18) * 18).toInt < 18 := by rw [q1]; exact ⟨Int.emod_nonneg _ (by decide), Int.emod_lt_of_pos _ (by decide)⟩
  have a1 := c_iadd 1 ((x2 &&& (31 : Int32)) - ((x2 &&& (31 : Int32)) / 18) * 18)
  have r1 := rng32 ((1 : Int32) + ((x2 &&& (31 : Int32)) - ((x2 &&& (31 : Int32)) / 18) * 18))
  have k1 : (1 : Int32).toInt = 1 := by decide
  rw [k1] at a1
  have b2 : 1 ≤ ((1 : Int32) + ((x2 &&& (31 : Int32)) - ((x2 &&& (31 : Int32)) / 18) * 18)).toInt ∧ ((1 : Int32) + ((x2 &&& (31 : Int32)) - ((x2 &&& (31 : Int32)) / 18) * 18)).toInt ≤ 18 := by omega
  generalize ((1 : Int32) + ((x2 &&& (31 : Int32)) - ((x2 &&& (31 : Int32)) / 18) * 18)) = l at b2
  obtain ⟨len, hlen⟩ : ∃ len : Nat, l.toInt = len := ⟨l.toInt.toNat, by omega⟩
  obtain rfl := own_of_eq l len (by omega) hlen
  have no : g0_40 30 x2 x3 y (Int32.ofNat len) = some 1 := by
    unfold g0_40 g0_41
    rw [if_pos rfl]
    exact own_67 len 0 0 n false x2 x3 y hn (by omega) (by omega) (fun q => nomatch q) (by omega)
  split
  · exact no
  · split
    · exact no
    · rename_i h2
      rw [Int32.lt_iff_toInt_lt, hlen] at h2
      have k2 : (2 : Int32).toInt = 2 := by decide
      unfold g0_41
      rw [if_neg (by decide)]
      have e1 := c_isub (Int32.ofNat len) 1
      have r2 := rng32 (Int32.ofNat len - 1)
      rw [k1, hlen] at e1
      have d1 : (Int32.ofNat len - 1).toInt = (len : Int) - 1 := by omega
      have hne : ¬ (Int32.ofNat len - 1) = 0 := fun q => by
        have z : (0 : Int32).toInt = 0 := by decide
        rw [q, z] at d1
        omega
      rw [if_neg hne]
      refine letS ?_
      have m4 := c_mask ((x2.toUInt32 >>> ((6 : Int32) &&& 31).toUInt32).toInt32) 31 5 (by decide) (by decide)
      generalize ((x2.toUInt32 >>> ((6 : Int32) &&& 31).toUInt32).toInt32) = u at *
      have p4 : 0 ≤ (u &&& (31 : Int32)).toInt := by rw [m4]; exact Int.emod_nonneg _ (by decide)
      have q4 := own_irem (u &&& (31 : Int32)) (Int32.ofNat len - 1) ((len : Int) - 1) d1 (by omega) p4
      have b4 : 0 ≤ ((u &&& (31 : Int32)) - ((u &&& (31 : Int32)) / (Int32.ofNat len - 1)) * (Int32.ofNat len - 1)).toInt ∧ ((u &&& (31 : Int32)) - ((u &&& (31 : Int32)) / (Int32.ofNat len - 1)) * (Int32.ofNat len - 1)).toInt < (len : Int) - 1 := by rw [q4]; exact ⟨Int.emod_nonneg _ (by omega), Int.emod_lt_of_pos _ (by omega)⟩
      have a4 := c_iadd 1 ((u &&& (31 : Int32)) - ((u &&& (31 : Int32)) / (Int32.ofNat len - 1)) * (Int32.ofNat len - 1))
      have r4 := rng32 ((1 : Int32) + ((u &&& (31 : Int32)) - ((u &&& (31 : Int32)) / (Int32.ofNat len - 1)) * (Int32.ofNat len - 1)))
      rw [k1] at a4
      have b5 : 1 ≤ ((1 : Int32) + ((u &&& (31 : Int32)) - ((u &&& (31 : Int32)) / (Int32.ofNat len - 1)) * (Int32.ofNat len - 1))).toInt ∧ ((1 : Int32) + ((u &&& (31 : Int32)) - ((u &&& (31 : Int32)) / (Int32.ofNat len - 1)) * (Int32.ofNat len - 1))).toInt < len := by omega
      generalize ((1 : Int32) + ((u &&& (31 : Int32)) - ((u &&& (31 : Int32)) / (Int32.ofNat len - 1)) * (Int32.ofNat len - 1))) = kk at b5
      obtain ⟨k, hk⟩ : ∃ k : Nat, kk.toInt = k := ⟨kk.toInt.toNat, by omega⟩
      obtain rfl := own_of_eq kk k (by omega) hk
      exact own_67 len k 0 n true x2 x3 y hn (by omega) (by omega) (fun _ => by omega) (by omega)
set_option maxRecDepth 65536 in
set_option maxHeartbeats 40000000 in
theorem comes_1 {Post : Tables → Env → Array Value → State → Outcome → State → Prop} (hpost : ∀ tb e args s v u, (limb_1_1.after args s (.returned v) u = true ∧ limb_1_2.after args s (.returned v) u = true ∧ True) → FrameEnd s (.returned v) u (Jvm.fieldLocs frame_1_writes args s ++ Jvm.arrayLocs frame_1_arrays args s ++ Jvm.staticLocs frame_1_statics s) 16 128 → Post tb e args s (.returned v) u) :
    ArmFor flags0 classFile x code maxLocals ret World_1 tables_1 room_1 Calls_1 rest_1 Pre_1 Post := by
  intro l hfl _ _ p e ha hc hk s m args below hf hA hF happ hP
  obtain ⟨hcalls, hrest, hpre⟩ := hP
  obtain ⟨-, -, -, hnamed, -, -, -, hat⟩ := (Spec.applies_iff hf).mp happ
  obtain ⟨hg, hn⟩ := and_e (Cond.before_iff.mp (show (Jvm.Cond.and given_1 narrow_1).before args s = true from hpre))
  obtain ⟨g1, g2⟩ := and_e hg
  obtain ⟨g3, g4⟩ := and_e g2
  obtain ⟨g5, g6⟩ := and_e g4
  obtain ⟨w0, w1, w2, rfl⟩ : ∃ w0 w1 w2 : Value, args = #[w0, w1, w2] := by
    have hs : args.size = 3 := by simpa [Cond.value, given_1] using g1
    obtain ⟨L⟩ := args
    match L, hs with
    | [w0, w1, w2], _ => exact ⟨w0, w1, w2, rfl⟩
  have hw := fun d (hd : d ∈ tables_1) => atoms_spec (ws := Jvm.Cond.code x code maxLocals ret :: tables_1) hat d (List.mem_cons_of_mem _ hd)
  obtain ⟨i0, ei0⟩ := isL_v g3
  obtain rfl : w0 = (.long i0) := Option.some.inj ei0
  obtain ⟨i1, ei1⟩ := is_v g5
  obtain rfl : w1 = (.int i1) := Option.some.inj ei1
  obtain ⟨i2, ei2⟩ := is_v g6
  obtain rfl : w2 = (.int i2) := Option.some.inj ei2
  obtain ⟨fuel, hone⟩ := own_law i0 i1 i2
  obtain ⟨n, o, h1, h2, h3, _, L, rfl, ⟨rfl, N⟩, hq⟩ := rm0 l s _ hw tables_1 i0 i1 i2 s.heap s.heap.size (Nat.le_refl _) fuel _ hone p e ha hc hk s m _ below hf ((Spec.applies_iff_loose hf).mp happ).1 ⟨rfl, State.Warmed39.refl s, rfl⟩ trivial
  refine ⟨n, _, h1, h2, h3, hpost _ _ _ _ _ _ ⟨Cond.after_iff.mpr rfl, Cond.after_iff.mpr (eq_i res_at (Term.int_eval (1)) rfl), trivial⟩ ⟨hq.1, hq.2.1, (hq.2.2.sift fun y hy => Or.inr (N y hy)).mono (by decide) (by decide)⟩⟩
theorem main_1_1 : Claimed_1_1 := comes_1 fun _ _ _ _ _ _ h hF => ⟨h.1, hF⟩
theorem main_1_2 : Claimed_1_2 := comes_1 fun _ _ _ _ _ _ h hF => ⟨h.2.1, hF⟩
end Jvm.Pilot.@@N@@
namespace Jvm.Pilot.@@N@@
open Jvm Jvm.ClassFile Sem Op Lib Jvm.Free Jvm.Stand Jvm.Pilot.@@N@@.Jvm.D
/-! MADE BY PROGRAM (witnessworld.py) out of the Statement's table words and the real class files: 9 classes; the members and pool entries that the words name. The judged class is class 1, her method 1. -/
namespace start1
open Jvm.ClassFile
def u (s : String) : CpInfo := .utf8 (stringToUtf16 s)
/-- a pool by its gaps: so many unusable entries, then the entry; so many at the end -/
def gap : Nat → List CpInfo → List CpInfo
  | 0, r => r
  | n + 1, r => .unusable :: gap n r
def poolList (es : List (Nat × CpInfo)) (last : Nat) : List CpInfo := es.foldr (fun e r => gap e.1 (e.2 :: r)) (gap last [])
def pool (es : List (Nat × CpInfo)) (last : Nat) : Array CpInfo := ⟨poolList es last⟩
def fileOf (pool : Array CpInfo) (this : Nat) (attrs : Array Attribute := #[]) (ms : Array MethodInfo := #[]) (fl : Nat := 33) (sup : Nat := 0) (ifs : Array Nat := #[]) (fds : Array FieldInfo := #[]) : ClassFile where
  minorVersion := 0
  majorVersion := 65
  constantPool := pool
  accessFlags := fl
  thisClass := this
  superClass := sup
  interfaces := ifs
  fields := fds
  methods := ms
  attributes := attrs
def plain (name : String) (sup : Option ClassId) : Class where
  name := name
  kind := .ordinary
  loader := none
  accessFlags := 33
  super := sup
  interfaces := #[]
  cf := none
  fields := #[]
  methods := #[]
  instanceTypes := #[]
  staticTypes := #[]
  resolved := #[]
  callSites := []
  init := .initialized
  statics := none
  mirror := none

def pool0 : Array CpInfo := pool [(5, u "<init>"), (0, u "()V"), (1, .class_ 10), (1, u "java/lang/Object")] 113

def k0m0 : Method := { name := "<init>", desc := "()V", sig := { parameters := [], returnType := none }, accessFlags := 1, code := none }
/-- java/lang/Object -/
def k0 : Class := { plain "java/lang/Object" none with
  accessFlags := 33
  interfaces := #[]
  cf := some (fileOf pool0 8 #[] #[{ accessFlags := 1, nameIndex := 5, descriptorIndex := 6, attributes := #[] }] 33 0 #[] #[])
  fields := #[]
  methods := #[k0m0]
  instanceTypes := #[]
  staticTypes := #[]
  resolved := Array.replicate 124 none
  statics := none }

def pool1 : Array CpInfo := pool [(2, .class_ 4), (1, u "java/lang/Object"), (0, u "<init>"), (0, u "()V"), (2, .long 9223372036854775807), (1, .long 1000000000000000000), (1, .methodref 14 15), (0, .class_ 16), (0, .nameAndType 17 18), (0, u "com/example/notewright/notewright/DecimalsUnscaledPinLaw"), (0, u "pow10"), (0, u "(I)J"), (0, .methodref 14 20), (0, .nameAndType 21 22), (0, u "put"), (0, u "([BIIZIJI)V"), (0, .methodref 24 25), (0, .class_ 26), (0, .nameAndType 27 28), (0, u "com/example/notewright/notewright/Decimals"), (0, u "unscaled"), (0, u "([BII)J"), (0, .long 10), (1, .long 100), (1, .long 10000), (1, .long 100000000), (1, .long 10000000000000000), (3, u "law"), (0, u "(JII)Z")] 5

def k1m0 : Method := { name := "<init>", desc := "()V", sig := { parameters := [], returnType := none }, accessFlags := 2, code := none }
def k1c1 : Code := { maxStack := 8, maxLocals := 14, code := code, exceptionTable := #[], attributes := #[] }
def k1m1 : Method := { name := "law", desc := "(JII)Z", sig := { parameters := [.long, .int, .int], returnType := some .boolean }, accessFlags := 9, code := some k1c1 }
def k1c2 : Code := { maxStack := 5, maxLocals := 11, code := method_3_code, exceptionTable := #[], attributes := #[] }
def k1m2 : Method := { name := "put", desc := "([BIIZIJI)V", sig := { parameters := [(.array .byte), .int, .int, .boolean, .int, .long, .int], returnType := none }, accessFlags := 10, code := some k1c2 }
def k1c3 : Code := { maxStack := 4, maxLocals := 3, code := method_4_code, exceptionTable := #[], attributes := #[] }
def k1m3 : Method := { name := "pow10", desc := "(I)J", sig := { parameters := [.int], returnType := some .long }, accessFlags := 10, code := some k1c3 }
/-- com/example/notewright/notewright/DecimalsUnscaledPinLaw -/
def k1 : Class := { plain "com/example/notewright/notewright/DecimalsUnscaledPinLaw" (some 0) with
  accessFlags := 49
  interfaces := #[]
  cf := some (fileOf pool1 14 #[] #[{ accessFlags := 2, nameIndex := 5, descriptorIndex := 6, attributes := #[] }, { accessFlags := 9, nameIndex := 41, descriptorIndex := 42, attributes := #[] }, { accessFlags := 10, nameIndex := 21, descriptorIndex := 22, attributes := #[] }, { accessFlags := 10, nameIndex := 17, descriptorIndex := 18, attributes := #[] }] 49 2 #[] #[])
  fields := #[]
  methods := #[k1m0, k1m1, k1m2, k1m3]
  instanceTypes := #[]
  staticTypes := #[]
  resolved := Array.replicate 48 none
  statics := none }

def pool2 : Array CpInfo := pool [(2, .class_ 4), (1, u "java/lang/Object"), (0, u "<init>"), (0, u "()V"), (13, .class_ 22), (1, u "com/example/notewright/notewright/Decimals"), (14, u "unscaled"), (0, u "([BII)J"), (13, .long 10), (34, u "FORM"), (0, u "Ljava/lang/String;"), (3, u "LONG_DIGITS"), (0, u "I"), (1, u "NOT_PLAIN")] 16

def k2m0 : Method := { name := "<init>", desc := "()V", sig := { parameters := [], returnType := none }, accessFlags := 2, code := none }
def k2c1 : Code := { maxStack := 4, maxLocals := 7, code := prog_7_method_5_code, exceptionTable := #[], attributes := #[] }
def k2m1 : Method := { name := "unscaled", desc := "([BII)J", sig := { parameters := [(.array .byte), .int, .int], returnType := some .long }, accessFlags := 8, code := some k2c1 }
/-- com/example/notewright/notewright/Decimals -/
def k2 : Class := { plain "com/example/notewright/notewright/Decimals" (some 0) with
  accessFlags := 33
  interfaces := #[]
  cf := some (fileOf pool2 20 #[] #[{ accessFlags := 2, nameIndex := 5, descriptorIndex := 6, attributes := #[] }, { accessFlags := 8, nameIndex := 37, descriptorIndex := 38, attributes := #[] }] 33 2 #[] #[{ accessFlags := 24, nameIndex := 87, descriptorIndex := 88, attributes := #[] }, { accessFlags := 24, nameIndex := 92, descriptorIndex := 93, attributes := #[] }, { accessFlags := 24, nameIndex := 95, descriptorIndex := 93, attributes := #[] }])
  fields := #[{ name := "FORM", type := (.object "java/lang/String"), accessFlags := 24, slot := 0, constantValue := 0 }, { name := "LONG_DIGITS", type := .int, accessFlags := 24, slot := 1, constantValue := 0 }, { name := "NOT_PLAIN", type := .int, accessFlags := 24, slot := 2, constantValue := 0 }]
  methods := #[k2m0, k2m1]
  instanceTypes := #[]
  staticTypes := #[(.object "java/lang/String"), .int, .int]
  resolved := Array.replicate 112 none
  statics := none }

def pool3 : Array CpInfo := pool [(1, u "java/lang/Cloneable"), (0, .class_ 1), (0, u "java/lang/Object"), (0, .class_ 3)] 3

/-- java/lang/Cloneable -/
def k3 : Class := { plain "java/lang/Cloneable" (some 0) with
  accessFlags := 1537
  interfaces := #[]
  cf := some (fileOf pool3 2 #[] #[] 1537 4 #[] #[])
  fields := #[]
  methods := #[]
  instanceTypes := #[]
  staticTypes := #[]
  resolved := Array.replicate 8 none
  statics := none }

def pool4 : Array CpInfo := pool [(1, u "java/io/Serializable"), (0, .class_ 1), (0, u "java/lang/Object"), (0, .class_ 3)] 3

/-- java/io/Serializable -/
def k4 : Class := { plain "java/io/Serializable" (some 0) with
  accessFlags := 1537
  interfaces := #[]
  cf := some (fileOf pool4 2 #[] #[] 1537 4 #[] #[])
  fields := #[]
  methods := #[]
  instanceTypes := #[]
  staticTypes := #[]
  resolved := Array.replicate 8 none
  statics := none }

/-- the primitive byte -/
def k5 : Class := { plain "byte" none with kind := .primitive 'B', accessFlags := 0x411 }
/-- [B -/
def k6 : Class := { plain "[B" (some 0) with kind := .array 5 .byte, interfaces := #[3, 4], accessFlags := 1041 }

/-- the primitive int -/
def k7 : Class := { plain "int" none with kind := .primitive 'I', accessFlags := 0x411 }
/-- [I -/
def k8 : Class := { plain "[I" (some 0) with kind := .array 7 .int, interfaces := #[3, 4], accessFlags := 1041 }

def heap : Heap := #[]
def classes : Array Class := #[k0, k1, k2, k3, k4, k5, k6, k7, k8]
def interned : List (Array UInt16 × Addr) := []
def slotsUsed : Nat := 0
def theMethod : MethodId := ⟨1, 1⟩
def args0 : Array Value := #[.long 12, .int 3, .int 2]
def aboutOver (below : List Frame) : State where
  vm := { classes := classes, interned := interned.toArray }
  heap := heap
  slotsUsed := slotsUsed
  threads := #[{ frames := .invoking theMethod args0 :: below }]
def below0 : List Frame := [.native { method := ⟨0, 0⟩, args := #[] }]
def about1 : State := aboutOver below0
def p0 : Program := .bare "" "" ""
def e0 : Env := launch0.env 0 0 0
theorem w_frames : about1.frames = Frame.invoking theMethod args0 :: below0 := rfl
set_option maxRecDepth 65536 in
theorem w_args : argsFit about1.vm theMethod args0 = true := by decide +kernel
set_option maxRecDepth 65536 in
theorem w_heap : heapFits about1 = true := by decide +kernel
set_option maxRecDepth 65536 in
theorem w_runnable : about1.curStatus? = some .runnable := by decide +kernel
set_option maxRecDepth 65536 in
theorem w_alone : about1.alone = true := by decide +kernel
set_option maxRecDepth 65536 in
theorem w_named : about1.methodNamed? x = some theMethod := by decide +kernel
set_option maxRecDepth 65536 in
theorem w_hears : about1.hears theMethod below0 = true := by decide +kernel
set_option maxRecDepth 65536 in
theorem w_ripe : about1.ripe theMethod args0 below0 = true := by decide +kernel
theorem w_running : about1.status = .running := rfl
set_option maxRecDepth 65536 in
theorem w_room : about1.hasRoom e0.platform room_1 = true :=
  launch0.hasRoom_least _ room_1 (by decide +kernel) (by decide +kernel) (by decide +kernel) (by decide +kernel) (by decide +kernel) (by decide +kernel)
theorem allAtoms_all (ts : List Jvm.Cond) (a : Array Jvm.Value) (st : Jvm.State) : (allAtoms ts).before a st = ts.all (fun c => c.before a st) := by
  induction ts with
  | nil => rfl
  | cons c t ih =>
    show (Jvm.Cond.and c (allAtoms t)).before a st = _
    rw [Jvm.Cond.before_and, ih, List.all_cons]
def words1 : List Jvm.Cond := Jvm.Cond.code x code maxLocals ret :: tables_1
/-- a 'code' word, met by the world's own term for the bytes: nothing is compared byte by byte -/
theorem code_word {y : MethodName} {bytes : ByteArray} {mx : Nat} {rt : Option FieldType} {a : Array Value} {s : State} {m : MethodId} {meth : Method} {c : Code} (h1 : s.methodNamed? y = some m) (h2 : s.vm.method? m = some meth) (h3 : meth.code = some c) (h4 : c.code = bytes)
    (h5 : (c.maxLocals == mx && c.exceptionTable.isEmpty && decide (c.maxStack ≤ mostOperands) && decide (meth.sig.returnType = rt) && !meth.locks && decide (parseMethodDescriptor y.desc = some meth.sig)) = true) : (Jvm.Cond.code y bytes mx rt).before a s = true := by
  simp only [Bool.and_eq_true, beq_iff_eq, Bool.not_eq_true', decide_eq_true_eq] at h5
  obtain ⟨⟨⟨⟨⟨g1, g2⟩, g3⟩, g4⟩, g5⟩, g6⟩ := h5
  simp [Cond.before, Cond.holds, Cond.value, h1, h2, h3, h4, g1, g2, g3, g4, g5, g6]
def isCode : Jvm.Cond → Bool
  | .code _ _ _ _ => true
  | _ => false
theorem all_split {L : List Jvm.Cond} {P : Jvm.Cond → Bool} (h1 : L.all (fun c => isCode c || P c) = true) (h2 : ∀ c ∈ L.filter isCode, P c = true) : L.all P = true := by
  refine List.all_eq_true.mpr fun c hc => ?_
  have h := List.all_eq_true.mp h1 c hc
  rcases Bool.eq_false_or_eq_true (isCode c) with hi | hi
  · exact h2 c (List.mem_filter.mpr ⟨hc, hi⟩)
  · simpa [hi] using h
set_option maxRecDepth 65536 in
theorem w_c0 : (Jvm.Cond.code x code maxLocals ret).before args0 about1 = true := code_word (m := ⟨1, 1⟩) (meth := k1m1) (c := k1c1) (by decide +kernel) rfl rfl rfl (by decide +kernel)
set_option maxRecDepth 65536 in
theorem w_c1 : (Jvm.Cond.code ({ cls := "com/example/notewright/notewright/DecimalsUnscaledPinLaw", name := "pow10", desc := "(I)J" } : Jvm.MethodName) method_4_code (3 : Nat) (Option.some Jvm.ClassFile.FieldType.long)).before args0 about1 = true := code_word (m := ⟨1, 3⟩) (meth := k1m3) (c := k1c3) (by decide +kernel) rfl rfl rfl (by decide +kernel)
set_option maxRecDepth 65536 in
theorem w_c2 : (Jvm.Cond.code ({ cls := "com/example/notewright/notewright/DecimalsUnscaledPinLaw", name := "put", desc := "([BIIZIJI)V" } : Jvm.MethodName) method_3_code (11 : Nat) (Option.none : Option Jvm.ClassFile.FieldType)).before args0 about1 = true := code_word (m := ⟨1, 2⟩) (meth := k1m2) (c := k1c2) (by decide +kernel) rfl rfl rfl (by decide +kernel)
set_option maxRecDepth 65536 in
theorem w_c3 : (Jvm.Cond.code ({ cls := "com/example/notewright/notewright/Decimals", name := "unscaled", desc := "([BII)J" } : Jvm.MethodName) prog_7_method_5_code (7 : Nat) (Option.some Jvm.ClassFile.FieldType.long)).before args0 about1 = true := code_word (m := ⟨2, 1⟩) (meth := k2m1) (c := k2c1) (by decide +kernel) rfl rfl rfl (by decide +kernel)
def codes1 : List Jvm.Cond := [Jvm.Cond.code x code maxLocals ret, Jvm.Cond.code ({ cls := "com/example/notewright/notewright/DecimalsUnscaledPinLaw", name := "pow10", desc := "(I)J" } : Jvm.MethodName) method_4_code (3 : Nat) (Option.some Jvm.ClassFile.FieldType.long), Jvm.Cond.code ({ cls := "com/example/notewright/notewright/DecimalsUnscaledPinLaw", name := "put", desc := "([BIIZIJI)V" } : Jvm.MethodName) method_3_code (11 : Nat) (Option.none : Option Jvm.ClassFile.FieldType), Jvm.Cond.code ({ cls := "com/example/notewright/notewright/Decimals", name := "unscaled", desc := "([BII)J" } : Jvm.MethodName) prog_7_method_5_code (7 : Nat) (Option.some Jvm.ClassFile.FieldType.long)]
set_option maxRecDepth 65536 in
theorem codes_eq : words1.filter isCode = codes1 := rfl
theorem w_codes : ∀ c ∈ words1.filter isCode, c.before args0 about1 = true := by
  rw [codes_eq]
  intro c hc
  simp only [codes1, List.mem_cons, List.not_mem_nil, or_false] at hc
  rcases hc with rfl | rfl | rfl | rfl
  · exact w_c0
  · exact w_c1
  · exact w_c2
  · exact w_c3
set_option maxRecDepth 65536 in
theorem w_t1 : words1.all (fun c => isCode c || c.before args0 about1) = true := by decide +kernel
theorem w_tables : (allAtoms (Jvm.Cond.code x code maxLocals ret :: tables_1)).before args0 about1 = true := by
  rw [allAtoms_all]
  show words1.all (fun c => c.before args0 about1) = true
  refine all_split ?_ w_codes
  rw [w_t1]
set_option maxRecDepth 65536 in
theorem w_case : (Jvm.Cond.and given_1 narrow_1).before args0 about1 = true := by decide +kernel
theorem w_applies : (headSpec (Jvm.Cond.code x code maxLocals ret :: tables_1) room_1).applies x e0.platform about1 = true :=
  (Spec.applies_iff w_frames).mpr ⟨w_running, w_runnable, w_alone, w_named, w_hears, w_ripe, w_room, w_tables⟩
theorem atStart : AtStart classFile x code maxLocals ret World_1 tables_1 room_1 Calls_1 rest_1 Pre_1 launch0 p0 e0 about1 theMethod args0 below0 :=
  ⟨lists_1, trivial, launch0.admits_env _ _ _, launch0.least_env, fairChoices_fair.cas, fairChoices_fair.clock, w_frames, w_args, w_heap, w_applies, trivial, trivial, w_case⟩
end start1
theorem witness_1 : WitnessClaimed_1 := ⟨start1.p0, start1.e0, start1.about1, start1.theMethod, start1.args0, start1.below0, start1.atStart⟩
end Jvm.Pilot.@@N@@
