import JvmDerived
import JvmDerived.Pilot.@@N@@Statement
import JvmDerived.Pilot.@@N@@Code
set_option linter.unusedVariables false
set_option linter.unusedSimpArgs false
namespace Jvm.RoadKit
open Sem ClassFile Op Lib Jvm.Stand Jvm.Free Jvm.LawKit
section New
variable {p : Program} {l : Launch} {e : Env} {R : Room} {s : State} {m : MethodId} {args : Array Value} {below : List Frame} {meth : Method} {c : Code} {T : State} {locs : List Loc} {cells slots : Nat}
theorem retI (X : Stand p l e R s m args below meth c T locs cells slots) (hx : p.tables.exec = Jvm.exec) {pc : Nat} {Ls : Array Slot} {z : Int32} {rest : List Value} (hret : meth.sig.returnType = some .int) (hd : decode c.code pc = .ok (.ireturn, 1)) {fs : List Frame}
    (hl : ∀ (f : JFrame) (acts : List Action), f.method = m → f.locked = none → f.entered = [] → (doReturn e (T.setTop f) acts (some (.int z))).1 = T.setFrames fs) : Steps p.tables e below (T.setTop (mkF m pc Ls (.int z :: rest))) (T.setFrames fs) := by
  have hm' : T.vm.method? m = some meth := X.method'
  have hn : narrow .int (.int z) = .int z := rfl
  show Steps p.tables e below (T.setTop { method := m, pc := pc, locals := Ls, stack := _ :: rest, locked := none }) _
  jvm_step X.here [X.here.top, hx, hd, hm', hret, hn]
  first | (intro acts; rw [hl _ acts rfl rfl rfl]) | rw [hl _ _ rfl rfl rfl]
  exact Steps.refl _
end New
end Jvm.RoadKit
namespace Jvm.Pilot.@@N@@
open Jvm Jvm.ClassFile Sem Op Lib Jvm.Free Jvm.Stand Jvm.LawKit Jvm.RoadKit Bundle Jvm.Pilot.@@N@@.Jvm.D
def QP (r : Option Value) (h0 : Heap) (n0 : Nat) (v : Option Value) (h : Heap) (L : List Loc) : Prop := v = r ∧ Fr n0 L ∧ h = h0
def Ctx (p : Program) (s : State) (m : MethodId) (meth : Method) (c : Code) (Z : State) (a0 : Array Value) (own : String) (bytes : ByteArray) (ml : Nat) (rt : Option FieldType) (name : String) : Prop :=
  p.tables.exec = Jvm.exec ∧ Z.Warmed39 s.vm ∧ (∀ d ∈ tables_1, d.before a0 Z = true) ∧ c.code = bytes ∧ c.maxLocals = ml ∧ s.vm.findClass own = some m.cls ∧ meth.sig.returnType = rt ∧ meth.locks = false ∧ meth.name = name
/-- from T with the frame g on top the run comes to a return, of which Φ holds -/
def Runs (p : Program) (e : Env) (below : List Frame) (s : State) (Φ : Option Value → Heap → List Loc → Prop) (k n : Nat) (T : State) (g : JFrame) : Prop :=
  ∃ s₂ o, Steps p.tables e below (T.setTop g) s₂ ∧ s₂.status = .running ∧ Ended s₂ below o ∧ ∃ v L, o = .returned v ∧ Φ v s₂.heap L ∧ FrameEnd s o s₂ L k n
section Own
variable {p : Program} {l : Launch} {e : Env} {R : Room} {s : State} {m : MethodId} {args : Array Value} {below : List Frame} {meth : Method} {c : Code} {T T' T0 Z : State} {a0 : Array Value} {locs : List Loc} {cells slots k n n0 : Nat} {h0 : Heap} {g g' : JFrame} {Φ : Option Value → Heap → List Loc → Prop}
theorem Runs.via (h : ∀ t, Steps p.tables e below (T'.setTop g') t → Steps p.tables e below (T.setTop g) t) (r : Runs p e below s Φ k n T' g') : Runs p e below s Φ k n T g := by
  obtain ⟨s₂, o, h1, r⟩ := r
  exact ⟨s₂, o, h _ h1, r⟩
theorem QP.cast {r r' : Option Value} (h : r = r') (H : Runs p e below s (QP r' h0 n0) k n T g) : Runs p e below s (QP r h0 n0) k n T g := by rw [h]; exact H
theorem own_retI (X : Stand p l e R s m args below meth c T locs cells slots) (hx : p.tables.exec = Jvm.exec) (hlk : meth.locks = false) (hret : meth.sig.returnType = some .int) {pc : Nat} {Ls : Array Slot} {z : Int32} {rest : List Value} (hd : decode c.code pc = .ok (.ireturn, 1)) (hk : cells ≤ k) (hn : slots ≤ n) (hΦ : Φ (some (.int z)) T.heap locs) :
    Runs p e below s Φ k n T (mkF m pc Ls (.int z :: rest)) := by
  obtain ⟨fs, hr, hrun, hended, hW, hsame⟩ := X.leave (v := some (.int z)) (fun h => by rw [hret] at h; cases h) hlk
  exact ⟨_, _, retI X hx hret hd hr, hrun, hended, _, _, rfl, hΦ, ⟨_, rfl⟩, hW, hsame.mono hk hn⟩
theorem own_retN (X : Stand p l e R s m args below meth c T locs cells slots) (hx : p.tables.exec = Jvm.exec) (hlk : meth.locks = false) {t : FieldType} (hret : meth.sig.returnType = some t) (ht : t = .boolean ∨ t = .byte ∨ t = .char ∨ t = .short) {pc : Nat} {Ls : Array Slot} {z : Int32} {rest : List Value} (hd : decode c.code pc = .ok (.ireturn, 1)) (hk : cells ≤ k) (hn : slots ≤ n) (hΦ : Φ (some (.int (nar t z))) T.heap locs) :
    Runs p e below s Φ k n T (mkF m pc Ls (.int z :: rest)) := by
  obtain ⟨fs, hr, hrun, hended, hW, hsame⟩ := X.leave (v := some (.int (nar t z))) (fun h => by rw [hret] at h; cases h) hlk
  exact ⟨_, _, retN X hx hret ht hd hr, hrun, hended, _, _, rfl, hΦ, ⟨_, rfl⟩, hW, hsame.mono hk hn⟩
theorem own_retJ (X : Stand p l e R s m args below meth c T locs cells slots) (hx : p.tables.exec = Jvm.exec) (hlk : meth.locks = false) (hret : meth.sig.returnType = some .long) {pc : Nat} {Ls : Array Slot} {z : Int64} (hd : decode c.code pc = .ok (.lreturn, 1)) (hk : cells ≤ k) (hn : slots ≤ n) (hΦ : Φ (some (.long z)) T.heap locs) :
    Runs p e below s Φ k n T (mkF m pc Ls [.long z]) := by
  obtain ⟨fs, hr, hrun, hended, hW, hsame⟩ := X.leave (v := some (.long z)) (fun h => by rw [hret] at h; cases h) hlk
  exact ⟨_, _, X.lreturnOut hx hret hd hr, hrun, hended, _, _, rfl, hΦ, ⟨_, rfl⟩, hW, hsame.mono hk hn⟩
theorem own_privSel {s : State} {args : Array Value} {y : MethodName} {n : Nat} (hwi : (Cond.instantiable y.cls n).before args s = true) (hp : (Cond.privateMethod y).before args s = true) (hinst : (Cond.instanceMethod y).before args s = true) (hy : y.cls ≠ "java/lang/invoke/MethodHandle" ∧ y.cls ≠ "java/lang/invoke/VarHandle") : (Cond.selects y.cls y y).before args s = true := by
  obtain ⟨c, k, h1, h2, h3, h4, -⟩ := Cond.instantiable_spec hwi
  exact selects_self_of_private h1 h2 (by simp only [Bool.or_eq_false_iff] at h4; exact h4.1) (Cond.privateMethod_at hp) hinst hy
theorem own_retV (X : Stand p l e R s m args below meth c T locs cells slots) (hx : p.tables.exec = Jvm.exec) (hlk : meth.locks = false) (hret : meth.sig.returnType = none) {pc : Nat} {Ls : Array Slot} (hd : decode c.code pc = .ok (.return_, 1)) (hk : cells ≤ k) (hn : slots ≤ n) (hΦ : Φ none T.heap locs) :
    Runs p e below s Φ k n T (mkF m pc Ls []) := by
  obtain ⟨fs, hr, hrun, hended, hW, hsame⟩ := X.leave (v := none) (fun _ => rfl) hlk
  exact ⟨_, _, X.returnOut hx hret hd hr, hrun, hended, _, _, rfl, hΦ, ⟨_, rfl⟩, hW, hsame.mono hk hn⟩
theorem own_retR (X : Stand p l e R s m args below meth c T locs cells slots) (hx : p.tables.exec = Jvm.exec) (hlk : meth.locks = false) {t : FieldType} (hret : meth.sig.returnType = some t) (ht : t.isReference = true) {pc : Nat} {Ls : Array Slot} {a : Addr} {rest : List Value} (hd : decode c.code pc = .ok (.areturn, 1)) (hk : cells ≤ k) (hn : slots ≤ n) (hΦ : Φ (some (.ref a)) T.heap locs) :
    Runs p e below s Φ k n T (mkF m pc Ls (.ref a :: rest)) := by
  obtain ⟨fs, hr, hrun, hended, hW, hsame⟩ := X.leave (v := some (.ref a)) (fun h => by rw [hret] at h; cases h) hlk
  exact ⟨_, _, retOut X hx hret (by cases t <;> first | rfl | (cases ht; done)) (Or.inr (Or.inr (Or.inr (Or.inr ⟨rfl, ht, rfl⟩)))) hd hr, hrun, hended, _, _, rfl, hΦ, ⟨_, rfl⟩, hW, hsame.mono hk hn⟩
theorem bindE {α β : Type} {G : Prop} {x : Option α} {k : α → Option β} {r : β} (hr : x.bind k = some r) (H : ∀ v, x = some v → k v = some r → G) : G := by
  cases x with
  | none => exact nomatch hr
  | some v => exact H v rfl hr
def letO {α β : Type} (x : α) (k : α → β) : β := k x
theorem letE {α β : Type} {G : Prop} {x : α} {k : α → Option β} {r : β} (hr : letO x k = some r) (H : ∀ v, v = x → k v = some r → G) : G := H x rfl hr
theorem iteE {β : Type} {G P : Prop} [Decidable P] {a b : Option β} {r : β} (hr : (if P then a else b) = some r) (H1 : P → a = some r → G) (H2 : ¬ P → b = some r → G) : G := by
  by_cases h : P
  · rw [if_pos h] at hr; exact H1 h hr
  · rw [if_neg h] at hr; exact H2 h hr
/-- an array's place, a store, its length, a new array -/
def rdO {α : Type} (xs : List α) (j : Int32) : Option α := if j < 0 then none else xs[j.toNatClampNeg]?
def wrO {α : Type} (xs : List α) (j : Int32) (v : α) : Option (List α) := if j < 0 ∨ xs.length ≤ j.toNatClampNeg then none else some (xs.set j.toNatClampNeg v)
def lenO {α : Type} (xs : List α) : Int32 := xs.length.toInt32
def mkO (n : Int32) (cap : Nat) : Option (List Int32) := if n < 0 ∨ cap < n.toNatClampNeg then none else some (List.replicate n.toNatClampNeg 0)
def mkOJ (n : Int32) (cap : Nat) : Option (List Int64) := if n < 0 ∨ cap < n.toNatClampNeg then none else some (List.replicate n.toNatClampNeg 0)
def AI (Z : State) (h : Heap) (a : Addr) (ty : FieldType) (xs : List Int32) : Prop := ∃ c : Cell, Arr Z h a c ty ∧ c.slots = (xs.map Value.int).toArray
def AJ (Z : State) (h : Heap) (a : Addr) (ty : FieldType) (xs : List Int64) : Prop := ∃ c : Cell, Arr Z h a c ty ∧ c.slots = (xs.map Value.long).toArray
section Arrs
variable {p : Program} {l : Launch} {e : Env} {R : Room} {s : State} {m : MethodId} {args : Array Value} {below : List Frame} {meth : Method} {c : Code} {T Z : State} {a0 : Array Value} {locs : List Loc} {cells slots : Nat} {h h' : Heap} {a b : Addr} {ty : FieldType} {sl : Nat} {v : Value} {ws : List Addr}
theorem AI.lt {xs : List Int32} (F : AI Z h a ty xs) : a < h.size := by obtain ⟨c, A, -⟩ := F; exact A.lt
theorem AI.ext {xs : List Int32} (F : AI Z h a ty xs) (E : Ext h h') : AI Z h' a ty xs := by obtain ⟨c, A, q⟩ := F; exact ⟨c, A.ext E, q⟩
theorem AI.other {xs : List Int32} (F : AI Z h b ty xs) (W : Wr h h' a sl v) (q : b ≠ a) : AI Z h' b ty xs := by obtain ⟨c, A, r⟩ := F; exact ⟨c, A.other W q, r⟩
theorem AI.keep {xs : List Int32} (F : AI Z h a ty xs) (K : Keep h h' ws) (q : a ∉ ws) : AI Z h' a ty xs := by obtain ⟨c, A, r⟩ := F; exact ⟨c, ⟨K.2.1 a c A.1 q, A.2⟩, r⟩
theorem AJ.lt {xs : List Int64} (F : AJ Z h a ty xs) : a < h.size := by obtain ⟨c, A, -⟩ := F; exact A.lt
theorem AJ.ext {xs : List Int64} (F : AJ Z h a ty xs) (E : Ext h h') : AJ Z h' a ty xs := by obtain ⟨c, A, q⟩ := F; exact ⟨c, A.ext E, q⟩
theorem AJ.other {xs : List Int64} (F : AJ Z h b ty xs) (W : Wr h h' a sl v) (q : b ≠ a) : AJ Z h' b ty xs := by obtain ⟨c, A, r⟩ := F; exact ⟨c, A.other W q, r⟩
theorem AJ.keep {xs : List Int64} (F : AJ Z h a ty xs) (K : Keep h h' ws) (q : a ∉ ws) : AJ Z h' a ty xs := by obtain ⟨c, A, r⟩ := F; exact ⟨c, ⟨K.2.1 a c A.1 q, A.2⟩, r⟩
theorem rd_at {α : Type} {f : α → Value} {xs : List α} {j : Int32} {z : α} {cl : Cell} (q : cl.slots = (xs.map f).toArray) (hr : rdO xs j = some z) : ¬ (j < 0 ∨ cl.slots.size ≤ j.toNatClampNeg) ∧ cl.slots[j.toNatClampNeg]? = some (f z) := by
  unfold rdO at hr
  by_cases hj : j < 0
  · rw [if_pos hj] at hr; exact nomatch hr
  · rw [if_neg hj] at hr
    obtain ⟨hi, he⟩ := List.getElem?_eq_some_iff.mp hr
    rw [q]
    refine ⟨?_, by simp [hr]⟩
    rintro (h1 | h1)
    · exact hj h1
    · simp at h1; omega
theorem wr_at2 {α : Type} {f : α → Value} {xs xs' : List α} {j : Int32} {z : α} {cl : Cell} (q : cl.slots = (xs.map f).toArray) (hr : wrO xs j z = some xs') : ¬ (j < 0 ∨ cl.slots.size ≤ j.toNatClampNeg) ∧ (cl.setSlot j.toNatClampNeg (f z)).slots = (xs'.map f).toArray := by
  unfold wrO at hr
  by_cases hj : j < 0 ∨ xs.length ≤ j.toNatClampNeg
  · rw [if_pos hj] at hr; exact nomatch hr
  · rw [if_neg hj] at hr
    obtain rfl := Option.some.inj hr
    refine ⟨by rw [q]; simpa using hj, ?_⟩
    simp only [Cell.setSlot, q]
    simp [List.map_set]
theorem ldI (X : Stand p l e R s m args below meth c T locs cells slots) (hx : p.tables.exec = Jvm.exec) (hZ : Z.Warmed39 s.vm) (eT : T.heap = h) {xs : List Int32} (A : AI Z h a .int xs) {j z : Int32} (hr : rdO xs j = some z) {g : JFrame} (hg : g.method = m) {rest : List Value} (hs : g.stack = .int j :: .ref a :: rest) (hd : decode c.code g.pc = .ok (.iaload, 1)) :
    ∀ target, Steps p.tables e below (T.setTop { g with pc := g.pc + 1, stack := .int z :: rest }) target → Steps p.tables e below (T.setTop g) target := by
  obtain ⟨cl, A, q⟩ := A
  obtain ⟨h1, h2⟩ := rd_at q hr
  exact X.iaload hx (j := j) (v := .int z) (by rw [eT]; exact A.1) (State.isArrayOf_alike hZ.alike A.2.1) A.2.2 h1 h2 hg hs hd
theorem ldB (X : Stand p l e R s m args below meth c T locs cells slots) (hx : p.tables.exec = Jvm.exec) (hZ : Z.Warmed39 s.vm) (eT : T.heap = h) {xs : List Int32} (A : AI Z h a .byte xs) {j z : Int32} (hr : rdO xs j = some z) {g : JFrame} (hg : g.method = m) {rest : List Value} (hs : g.stack = .int j :: .ref a :: rest) (hd : decode c.code g.pc = .ok (.baload, 1)) :
    ∀ target, Steps p.tables e below (T.setTop { g with pc := g.pc + 1, stack := .int z :: rest }) target → Steps p.tables e below (T.setTop g) target := by
  obtain ⟨cl, A, q⟩ := A
  obtain ⟨h1, h2⟩ := rd_at q hr
  exact X.baloadBytes hx (j := j) (v := .int z) (by rw [eT]; exact A.1) (State.isArrayOf_alike hZ.alike A.2.1) A.2.2 h1 h2 hg hs hd
theorem ldJ (X : Stand p l e R s m args below meth c T locs cells slots) (hx : p.tables.exec = Jvm.exec) (hZ : Z.Warmed39 s.vm) (eT : T.heap = h) {xs : List Int64} (A : AJ Z h a .long xs) {j : Int32} {z : Int64} (hr : rdO xs j = some z) {g : JFrame} (hg : g.method = m) {rest : List Value} (hs : g.stack = .int j :: .ref a :: rest) (hd : decode c.code g.pc = .ok (.laload, 1)) :
    ∀ target, Steps p.tables e below (T.setTop { g with pc := g.pc + 1, stack := .long z :: rest }) target → Steps p.tables e below (T.setTop g) target := by
  obtain ⟨cl, A, q⟩ := A
  obtain ⟨h1, h2⟩ := rd_at q hr
  exact X.laload hx (j := j) (v := .long z) (by rw [eT]; exact A.1) (State.isArrayOf_alike hZ.alike A.2.1) A.2.2 h1 h2 hg hs hd
theorem soI (X : Stand p l e R s m args below meth c T locs cells slots) (hx : p.tables.exec = Jvm.exec) (hZ : Z.Warmed39 s.vm) (eT : T.heap = h) {xs xs' : List Int32} (A : AI Z h a .int xs) {j z : Int32} (hr : wrO xs j z = some xs') {g : JFrame} (hg : g.method = m) {rest : List Value} (hs : g.stack = .int z :: .int j :: .ref a :: rest) (hd : decode c.code g.pc = .ok (.iastore, 1)) :
    ∃ T' h', Stand p l e R s m args below meth c T' (locs ++ [⟨a, j.toNatClampNeg⟩]) cells slots ∧ T'.heap = h' ∧ Wr h h' a j.toNatClampNeg (.int z) ∧ AI Z h' a .int xs' ∧ ∀ target, Steps p.tables e below (T'.setTop { g with pc := g.pc + 1, stack := rest }) target → Steps p.tables e below (T.setTop g) target := by
  obtain ⟨cl, A, q⟩ := A
  obtain ⟨h1, h2⟩ := wr_at2 q hr
  obtain ⟨T', h', X', e', W, st⟩ := stI X hx hZ eT A h1 hg hs hd
  exact ⟨T', h', X', e', W, ⟨_, A.same W, h2⟩, st⟩
theorem soB (X : Stand p l e R s m args below meth c T locs cells slots) (hx : p.tables.exec = Jvm.exec) (hZ : Z.Warmed39 s.vm) (eT : T.heap = h) {xs xs' : List Int32} (A : AI Z h a .byte xs) {j z : Int32} (hr : wrO xs j (z.toInt8.toInt32) = some xs') {g : JFrame} (hg : g.method = m) {rest : List Value} (hs : g.stack = .int z :: .int j :: .ref a :: rest) (hd : decode c.code g.pc = .ok (.bastore, 1)) :
    ∃ T' h', Stand p l e R s m args below meth c T' (locs ++ [⟨a, j.toNatClampNeg⟩]) cells slots ∧ T'.heap = h' ∧ Wr h h' a j.toNatClampNeg (.int (z.toInt8.toInt32)) ∧ AI Z h' a .byte xs' ∧ ∀ target, Steps p.tables e below (T'.setTop { g with pc := g.pc + 1, stack := rest }) target → Steps p.tables e below (T.setTop g) target := by
  obtain ⟨cl, A, q⟩ := A
  obtain ⟨h1, h2⟩ := wr_at2 q hr
  obtain ⟨T', h', X', e', W, st⟩ := stB X hx hZ eT A h1 hg hs hd
  exact ⟨T', h', X', e', W, ⟨_, A.same W, h2⟩, st⟩
theorem soJ (X : Stand p l e R s m args below meth c T locs cells slots) (hx : p.tables.exec = Jvm.exec) (hZ : Z.Warmed39 s.vm) (eT : T.heap = h) {xs xs' : List Int64} (A : AJ Z h a .long xs) {j : Int32} {z : Int64} (hr : wrO xs j z = some xs') {g : JFrame} (hg : g.method = m) {rest : List Value} (hs : g.stack = .long z :: .int j :: .ref a :: rest) (hd : decode c.code g.pc = .ok (.lastore, 1)) :
    ∃ T' h', Stand p l e R s m args below meth c T' (locs ++ [⟨a, j.toNatClampNeg⟩]) cells slots ∧ T'.heap = h' ∧ Wr h h' a j.toNatClampNeg (.long z) ∧ AJ Z h' a .long xs' ∧ ∀ target, Steps p.tables e below (T'.setTop { g with pc := g.pc + 1, stack := rest }) target → Steps p.tables e below (T.setTop g) target := by
  obtain ⟨cl, A, q⟩ := A
  obtain ⟨h1, h2⟩ := wr_at2 q hr
  obtain ⟨T', h', X', e', W, st⟩ := stJ X hx hZ eT A h1 hg hs hd
  exact ⟨T', h', X', e', W, ⟨_, A.same W, h2⟩, st⟩
theorem lenAI (X : Stand p l e R s m args below meth c T locs cells slots) (hx : p.tables.exec = Jvm.exec) (hZ : Z.Warmed39 s.vm) (eT : T.heap = h) {xs : List Int32} (A : AI Z h a ty xs) {g : JFrame} (hg : g.method = m) {rest : List Value} (hs : g.stack = .ref a :: rest) (hd : decode c.code g.pc = .ok (.arraylength, 1)) :
    ∀ target, Steps p.tables e below (T.setTop { g with pc := g.pc + 1, stack := .int (lenO xs) :: rest }) target → Steps p.tables e below (T.setTop g) target := by
  obtain ⟨cl, A, q⟩ := A
  have e1 : cl.slots.size.toInt32 = lenO xs := by rw [q]; simp [lenO]
  intro t k
  refine X.arraylength hx (by rw [eT]; exact A.1) (State.isArrayOf_alike hZ.alike A.2.1) hg hs hd _ ?_
  rw [e1]; exact k
theorem lenAJ (X : Stand p l e R s m args below meth c T locs cells slots) (hx : p.tables.exec = Jvm.exec) (hZ : Z.Warmed39 s.vm) (eT : T.heap = h) {xs : List Int64} (A : AJ Z h a ty xs) {g : JFrame} (hg : g.method = m) {rest : List Value} (hs : g.stack = .ref a :: rest) (hd : decode c.code g.pc = .ok (.arraylength, 1)) :
    ∀ target, Steps p.tables e below (T.setTop { g with pc := g.pc + 1, stack := .int (lenO xs) :: rest }) target → Steps p.tables e below (T.setTop g) target := by
  obtain ⟨cl, A, q⟩ := A
  have e1 : cl.slots.size.toInt32 = lenO xs := by rw [q]; simp [lenO]
  intro t k
  refine X.arraylength hx (by rw [eT]; exact A.1) (State.isArrayOf_alike hZ.alike A.2.1) hg hs hd _ ?_
  rw [e1]; exact k
theorem newI (X : Stand p l e R s m args below meth c T locs cells slots) (hx : p.tables.exec = Jvm.exec) (hZ : Z.Warmed39 s.vm) {aty : ArrayType} (ht : newarray.typeOf aty = ty) (hdv : defaultValue ty = .int 0) (w : (Cond.arrayClass ty).before a0 Z = true) (eT : T.heap = h) {n : Int32} {cap : Nat} {xs : List Int32} (hr : mkO n cap = some xs) {g : JFrame} (hg : g.method = m) (hd : decode c.code g.pc = .ok (.newarray aty, 2)) {rest : List Value} (hs : g.stack = .int n :: rest) (hb : cap * 8 ≤ 536870912) (hc : cells + 1 ≤ R.cells) (hl : slots + cap ≤ R.slots) :
    ∃ T' h', Stand p l e R s m args below meth c T' locs (cells + 1) (slots + cap) ∧ T'.heap = h' ∧ Ext h h' ∧ AI Z h' h.size ty xs ∧ ∀ target, Steps p.tables e below (T'.setTop { g with pc := g.pc + 2, stack := .ref h.size :: rest }) target → Steps p.tables e below (T.setTop g) target := by
  subst ht
  unfold mkO at hr
  by_cases hn : n < 0 ∨ cap < n.toNatClampNeg
  · rw [if_pos hn] at hr; exact nomatch hr
  · rw [if_neg hn] at hr
    obtain rfl := Option.some.inj hr
    obtain ⟨T', h', cA, X', e', E, A, st⟩ := newP X hx hZ w eT hg hd hs (fun q => hn (Or.inl q)) (cap := cap) (Nat.le_of_not_lt fun q => hn (Or.inr q)) hb hc hl
    exact ⟨T', h', X', e', E, ⟨_, A, by simp [newA, hdv]⟩, st⟩
theorem newJ (X : Stand p l e R s m args below meth c T locs cells slots) (hx : p.tables.exec = Jvm.exec) (hZ : Z.Warmed39 s.vm) {aty : ArrayType} (ht : newarray.typeOf aty = .long) (w : (Cond.arrayClass .long).before a0 Z = true) (eT : T.heap = h) {n : Int32} {cap : Nat} {xs : List Int64} (hr : mkOJ n cap = some xs) {g : JFrame} (hg : g.method = m) (hd : decode c.code g.pc = .ok (.newarray aty, 2)) {rest : List Value} (hs : g.stack = .int n :: rest) (hb : cap * 8 ≤ 536870912) (hc : cells + 1 ≤ R.cells) (hl : slots + cap ≤ R.slots) :
    ∃ T' h', Stand p l e R s m args below meth c T' locs (cells + 1) (slots + cap) ∧ T'.heap = h' ∧ Ext h h' ∧ AJ Z h' h.size .long xs ∧ ∀ target, Steps p.tables e below (T'.setTop { g with pc := g.pc + 2, stack := .ref h.size :: rest }) target → Steps p.tables e below (T.setTop g) target := by
  unfold mkOJ at hr
  by_cases hn : n < 0 ∨ cap < n.toNatClampNeg
  · rw [if_pos hn] at hr; exact nomatch hr
  · rw [if_neg hn] at hr
    obtain rfl := Option.some.inj hr
    obtain ⟨T', h', cA, X', e', E, A, st⟩ := newP X hx hZ (by rw [ht]; exact w) eT hg hd hs (fun q => hn (Or.inl q)) (cap := cap) (Nat.le_of_not_lt fun q => hn (Or.inr q)) hb hc hl
    rw [ht] at A
    exact ⟨T', h', X', e', E, ⟨_, A, by simp [newA, defaultValue]⟩, st⟩
end Arrs
theorem d1_0 : decode prog_20_method_1_code 0 = .ok (.aload_n 0, 1) := by decide +kernel
theorem d1_1 : decode prog_20_method_1_code 1 = .ok (.invokespecial 5, 3) := by decide +kernel
theorem d1_4 : decode prog_20_method_1_code 4 = .ok (.aload_n 0, 1) := by decide +kernel
theorem d1_5 : decode prog_20_method_1_code 5 = .ok (.bipush 8, 2) := by decide +kernel
theorem d1_7 : decode prog_20_method_1_code 7 = .ok (.newarray .int, 2) := by decide +kernel
theorem d1_9 : decode prog_20_method_1_code 9 = .ok (.putfield 11, 3) := by decide +kernel
theorem d1_12 : decode prog_20_method_1_code 12 = .ok (.return_, 1) := by decide +kernel
def P1 (Z : State) (hE : Heap) (a1 : Addr) (q_a1_length : Int32) (n0 : Nat) (r : List Int32) (v : Option Value) (h : Heap) (L : List Loc) : Prop := ∃ n1_1 : Addr, v = none ∧ Fr n0 L ∧ Keep hE h [a1] ∧ hE.size ≤ n1_1 ∧ Exa Z h a1 "com/example/notewright/notewright/Natural" ∧ Fld Z h a1 "com/example/notewright/notewright/Natural" "words" "[I" (.ref n1_1) ∧ Fld Z h a1 "com/example/notewright/notewright/Natural" "length" "I" (.int q_a1_length) ∧ AI Z h n1_1 .int r
def g1_0 (q_a1_length : Int32) : Option (List Int32) := ((mkO (8 : Int32) 8).bind fun v2 => some v2)
set_option maxRecDepth 65536 in
set_option maxHeartbeats 4000000 in
theorem b1_0 {hE : Heap} {a1 : Addr} {q_a1_length : Int32} {r : List Int32} (C : Ctx p s m meth c Z a0 "com/example/notewright/notewright/Natural" prog_20_method_1_code 1 none "<init>") (X0 : Stand p l e ({ frames := 1, cells := 1, slots := 8, locals := 12 } : Room) s m args below meth c T0 locs cells slots) (e0 : T0.heap = h0) (N0 : Fr n0 locs) (hk : cells ≤ 0) (hn : slots ≤ 0) (Z1 : n0 ≤ h0.size) (KE : Keep hE h0 [a1]) (o0 : n0 ≤ a1) (E_a1_0 : Exa Z h0 a1 "com/example/notewright/notewright/Natural") (F_a1_words_0 : Fld Z h0 a1 "com/example/notewright/notewright/Natural" "words" "[I" .null) (F_a1_length_0 : Fld Z h0 a1 "com/example/notewright/notewright/Natural" "length" "I" (.int q_a1_length)) (hr : g1_0 q_a1_length = some r) :
    Runs p e below s (P1 Z hE a1 q_a1_length n0 r) 1 8 T0 (mkF m 0 #[.val (.ref a1)] []) := by
  unfold g1_0 at hr
  have ⟨hx, hZ, hw, hby, hml, hown, hret, hlk, hnm⟩ := C
  refine Runs.via (T' := T0) (g' := (mkF m 1 #[.val (.ref a1)] [(.ref a1)])) (fun t k => ?_) ?_
  · show Steps p.tables e below (T0.setTop (mkF m 0 #[.val (.ref a1)] [])) t
    refine XS.aloadN X0.here hx rfl (hb hby d1_0) rfl rfl ?_
    exact k
  obtain ⟨T1, X1, e1, st1⟩ := initO X0 hx hZ hown (hw _ (List.mem_of_getElem? (i := 9) rfl)) (hw _ (List.mem_of_getElem? (i := 10) rfl)) (hw _ (List.mem_of_getElem? (i := 11) rfl)) e0 (g := (mkF m 1 #[.val (.ref a1)] [(.ref a1)])) rfl (by rw [hml]; rfl) rfl (hb hby d1_1) (by decide) (W := 0) (by show 2 * 0 + _ ≤ _; exact Nat.le_of_eq rfl) (by decide)
  refine Runs.via (T' := T1) (g' := (mkF m 4 #[.val (.ref a1)] [])) (fun t k => st1 _ k) ?_
  refine Runs.via (T' := T1) (g' := (mkF m 7 #[.val (.ref a1)] [(.int (8 : Int32)), (.ref a1)])) (fun t k => ?_) ?_
  · show Steps p.tables e below (T1.setTop (mkF m 4 #[.val (.ref a1)] [])) t
    refine XS.aloadN X1.here hx rfl (hb hby d1_4) rfl rfl ?_
    show Steps p.tables e below (T1.setTop (mkF m 5 #[.val (.ref a1)] [(.ref a1)])) t
    refine XS.bipush X1.here hx rfl (hb hby d1_5) ?_
    exact k
  refine bindE hr ?_; intro v2 hv2 hr
  obtain ⟨T2, h2, X2, e2, E2, A2, st2⟩ := newI X1 hx hZ (aty := .int) (ty := .int) rfl rfl (hw _ (List.mem_of_getElem? (i := 12) rfl)) e1 hv2 (g := (mkF m 7 #[.val (.ref a1)] [(.int (8 : Int32)), (.ref a1)])) rfl (hb hby d1_7) rfl (by decide) (by show cells + 1 ≤ 1; omega) (by show slots + 8 ≤ 8; omega)
  obtain ⟨c7_1, g2⟩ : ∃ z, z = h0.size := ⟨_, rfl⟩
  rw [← g2] at A2 st2
  have i2 := E2.1
  have E_a1_2 := E_a1_0.ext E2
  have F_a1_words_2 := F_a1_words_0.ext E2
  have F_a1_length_2 := F_a1_length_0.ext E2
  have K2 := KE.ext E2
  have zs2 : hE.size ≤ c7_1 := by have := KE.1; omega
  have zz2 : n0 ≤ h2.size := Nat.le_trans Z1 i2
  have A_c7_1_2 := A2
  have pc7_1 : @LT.lt Nat instLTNat a1 c7_1 := by have : @LT.lt Nat instLTNat _ _ := E_a1_0.lt; omega
  have sc7_1 : n0 ≤ c7_1 := by omega
  refine Runs.via (T' := T2) (g' := (mkF m 9 #[.val (.ref a1)] [(.ref c7_1), (.ref a1)])) (fun t k => st2 _ k) ?_
  obtain ⟨T3, h3, X3, e3, W3, st3⟩ := putF X2 hx hZ hown (host := "") (Or.inl (hw _ (List.mem_of_getElem? (i := 13) rfl))) Via.refl e2 F_a1_words_2 E_a1_2 (Or.inl (hw _ (List.mem_of_getElem? (i := 14) rfl))) (hw _ (List.mem_of_getElem? (i := 4) rfl)) (ty := (.array .int)) (by decide) rfl rfl (g := (mkF m 9 #[.val (.ref a1)] [(.ref c7_1), (.ref a1)])) rfl rfl (hb hby d1_9)
  have E_a1_3 : Exa Z h3 a1 "com/example/notewright/notewright/Natural" := E_a1_2.wr W3
  have F_a1_words_3 : Fld Z h3 a1 "com/example/notewright/notewright/Natural" "words" "[I" (.ref c7_1) := F_a1_words_2.same W3
  have F_a1_length_3 : Fld Z h3 a1 "com/example/notewright/notewright/Natural" "length" "I" (.int q_a1_length) := F_a1_length_2.other W3 (Or.inr (slot_ne (Or.inl (hw _ (List.mem_of_getElem? (i := 21) rfl))) (Or.inl (hw _ (List.mem_of_getElem? (i := 14) rfl))) (by decide) (t := .int) (t' := (.array .int)) (by decide) (by decide)))
  have A_c7_1_3 : AI Z h3 c7_1 .int v2 := A_c7_1_2.other W3 (by omega : @Ne Nat c7_1 a1)
  have N3 := Fr.snoc X3 N0 (by omega : n0 ≤ a1)
  have zz3 : n0 ≤ h3.size := Nat.le_trans zz2 (Keep.of_wr W3).1
  have K3 := K2.wr W3 (Or.inl (List.mem_of_getElem? (i := 0) rfl))
  refine Runs.via (T' := T3) (g' := (mkF m 12 #[.val (.ref a1)] [])) (fun t k => st3 _ k) ?_
  obtain rfl := Option.some.inj hr
  exact own_retV X3 hx hlk hret (hb hby d1_12) (by show (cells + 1) ≤ 1; omega) (by show (slots + 8) ≤ 8; omega) ⟨c7_1, rfl, N3, (by rw [e3]; exact K3), (by omega), (by rw [e3]; exact E_a1_3), (by rw [e3]; exact F_a1_words_3), (by rw [e3]; exact F_a1_length_3), (by rw [e3]; exact A_c7_1_3)⟩
def f1 (q_a1_length : Int32) : Option (List Int32) := g1_0 q_a1_length
theorem pn_1 : plainName "com/example/notewright/notewright/Natural" = true := by first | (simp [plainName, overriddenIn]; done) | decide +kernel
theorem ef_1 (m : MethodId) (a1 : Addr) : entryFrame m #[(.ref a1)] 1 = mkF m 0 #[.val (.ref a1)] [] := by first | (simp [entryFrame, mkF, argsToLocals, Value.category]; done) | rfl
set_option maxRecDepth 65536 in
set_option maxHeartbeats 4000000 in
theorem rm1 (l : Launch) (Z : State) (a0 : Array Value) (hw : ∀ d ∈ tables_1, d.before a0 Z = true) (ws : List Jvm.Cond) (a1 : Addr) (q_a1_length : Int32) (hE : Heap) (n0 : Nat) (Z0 : n0 ≤ hE.size) (o0 : n0 ≤ a1) (E_a1_0 : Exa Z hE a1 "com/example/notewright/notewright/Natural") (F_a1_words_0 : Fld Z hE a1 "com/example/notewright/notewright/Natural" "words" "[I" .null) (F_a1_length_0 : Fld Z hE a1 "com/example/notewright/notewright/Natural" "length" "I" (.int q_a1_length)) (r : List Int32) (hr : f1 q_a1_length = some r) :
    MetFree l (⟨"com/example/notewright/notewright/Natural", "<init>", "()V"⟩ : MethodName) (head1 (Jvm.Cond.code (⟨"com/example/notewright/notewright/Natural", "<init>", "()V"⟩ : MethodName) prog_20_method_1_code 1 none :: ws) ({ frames := 1, cells := 1, slots := 8, locals := 12 } : Room)) (fun a U => a = #[(.ref a1)] ∧ Z.Warmed39 U.vm ∧ U.heap = hE) (fun _ _ _ _ _ => True) (fun _ U o U' => ∃ v L, o = .returned v ∧ (P1 Z hE a1 q_a1_length n0 r v U'.heap L) ∧ FrameEnd U o U' L ({ frames := 1, cells := 1, slots := 8, locals := 12 } : Room).cells ({ frames := 1, cells := 1, slots := 8, locals := 12 } : Room).slots) := by
  refine MetFree.of_bodySF (plainFor_of_name pn_1) hisR ?_
  intro p e s m args below meth c s₁ Bd hml0 hP hK
  obtain ⟨rfl, hZ, hh⟩ := hP
  have X0 : Stand p l e ({ frames := 1, cells := 1, slots := 8, locals := 12 } : Room) s m #[(.ref a1)] below meth c s₁ [] 0 0 := Stand.of_body Bd
  have e0 : s₁.heap = hE := by rw [← hh, Bd.state]; rfl
  have C : Ctx p s m meth c Z a0 "com/example/notewright/notewright/Natural" prog_20_method_1_code 1 none "<init>" := ⟨Bd.exec, hZ, hw, Bd.bytes, hml0, findClass_of_methodNamed Bd.named, Bd.returns, BodyLoose.notSynchronized Bd, (name_of_methodNamed Bd.named Bd.method).1⟩
  refine Runs.via (fun t k => castTop (ef_1 m a1) k) (b1_0 C X0 e0 (Fr.nil n0) (by show 0 ≤ 0; omega) (by show 0 ≤ 0; omega) Z0 (Keep.refl hE [a1]) (by omega) E_a1_0 F_a1_words_0 F_a1_length_0 hr)
theorem pd_0 : parseMethodDescriptor "()V" = some ⟨[], none⟩ := by decide +kernel
theorem d4_0 : decode prog_20_method_12_code 0 = .ok (.iload_n 1, 1) := by decide +kernel
theorem d4_1 : decode prog_20_method_12_code 1 = .ok (.aload_n 0, 1) := by decide +kernel
theorem d4_2 : decode prog_20_method_12_code 2 = .ok (.getfield 11, 3) := by decide +kernel
theorem d4_5 : decode prog_20_method_12_code 5 = .ok (.arraylength, 1) := by decide +kernel
theorem d4_6 : decode prog_20_method_12_code 6 = .ok (.if_icmp .le 25, 3) := by decide +kernel
theorem d4_9 : decode prog_20_method_12_code 9 = .ok (.aload_n 0, 1) := by decide +kernel
theorem d4_10 : decode prog_20_method_12_code 10 = .ok (.aload_n 0, 1) := by decide +kernel
theorem d4_11 : decode prog_20_method_12_code 11 = .ok (.getfield 11, 3) := by decide +kernel
theorem d4_14 : decode prog_20_method_12_code 14 = .ok (.iload_n 1, 1) := by decide +kernel
theorem d4_15 : decode prog_20_method_12_code 15 = .ok (.aload_n 0, 1) := by decide +kernel
theorem d4_16 : decode prog_20_method_12_code 16 = .ok (.getfield 11, 3) := by decide +kernel
theorem d4_19 : decode prog_20_method_12_code 19 = .ok (.arraylength, 1) := by decide +kernel
theorem d4_20 : decode prog_20_method_12_code 20 = .ok (.iconst 2, 1) := by decide +kernel
theorem d4_21 : decode prog_20_method_12_code 21 = .ok (.imul, 1) := by decide +kernel
theorem d4_22 : decode prog_20_method_12_code 22 = .ok (.invokestatic 37, 3) := by decide +kernel
theorem d4_25 : decode prog_20_method_12_code 25 = .ok (.invokestatic 60, 3) := by decide +kernel
theorem d4_28 : decode prog_20_method_12_code 28 = .ok (.putfield 11, 3) := by decide +kernel
theorem d4_31 : decode prog_20_method_12_code 31 = .ok (.return_, 1) := by decide +kernel
def P4 (Z : State) (hE : Heap) (a1 : Addr) (a2 : Addr) (q_a1_length : Int32) (q_a2 : List Int32) (n0 : Nat) (r : Unit) (v : Option Value) (h : Heap) (L : List Loc) : Prop := v = none ∧ Fr n0 L ∧ h = hE
def g4_0 (x1 : Int32) (q_a1_length : Int32) (q_a2 : List Int32) : Option (Unit) := (if (lenO q_a2) < x1 then none else some ())
set_option maxRecDepth 65536 in
set_option maxHeartbeats 4000000 in
theorem b4_0 {hE : Heap} {a1 : Addr} {a2 : Addr} {q_a1_length : Int32} {q_a2 : List Int32} {r : Unit} (C : Ctx p s m meth c Z a0 "com/example/notewright/notewright/Natural" prog_20_method_12_code 2 none "grow") (X0 : Stand p l e ({ frames := 0, cells := 0, slots := 0, locals := 0 } : Room) s m args below meth c T0 locs cells slots) (e0 : T0.heap = hE) (N0 : Fr n0 locs) (hk : cells ≤ 0) (hn : slots ≤ 0) (Z1 : n0 ≤ hE.size) (o0 : n0 ≤ a1) (o1 : @LT.lt Nat instLTNat a1 a2) (x1 : Int32) (E_a1_0 : Exa Z hE a1 "com/example/notewright/notewright/Natural") (F_a1_words_0 : Fld Z hE a1 "com/example/notewright/notewright/Natural" "words" "[I" (.ref a2)) (F_a1_length_0 : Fld Z hE a1 "com/example/notewright/notewright/Natural" "length" "I" (.int q_a1_length)) (A_a2_0 : AI Z hE a2 .int q_a2) (hr : g4_0 x1 q_a1_length q_a2 = some r) :
    Runs p e below s (P4 Z hE a1 a2 q_a1_length q_a2 n0 r) 0 0 T0 (mkF m 0 #[.val (.ref a1), .val (.int x1)] []) := by
  unfold g4_0 at hr
  have ⟨hx, hZ, hw, hby, hml, hown, hret, hlk, hnm⟩ := C
  refine Runs.via (T' := T0) (g' := (mkF m 2 #[.val (.ref a1), .val (.int x1)] [(.ref a1), (.int x1)])) (fun t k => ?_) ?_
  · show Steps p.tables e below (T0.setTop (mkF m 0 #[.val (.ref a1), .val (.int x1)] [])) t
    refine XS.iloadN X0.here hx rfl (hb hby d4_0) rfl ?_
    show Steps p.tables e below (T0.setTop (mkF m 1 #[.val (.ref a1), .val (.int x1)] [(.int x1)])) t
    refine XS.aloadN X0.here hx rfl (hb hby d4_1) rfl rfl ?_
    exact k
  obtain ⟨T1, X1, e1, st1⟩ := getF X0 hx hZ hown (host := "") (Or.inl (hw _ (List.mem_of_getElem? (i := 13) rfl))) Via.refl e0 F_a1_words_0 (g := (mkF m 2 #[.val (.ref a1), .val (.int x1)] [(.ref a1), (.int x1)])) rfl rfl (hb hby d4_2)
  refine Runs.via (T' := T1) (g' := (mkF m 5 #[.val (.ref a1), .val (.int x1)] [(.ref a2), (.int x1)])) (fun t k => st1 _ k) ?_
  refine Runs.via (T' := T1) (g' := (mkF m 6 #[.val (.ref a1), .val (.int x1)] [(.int (lenO q_a2)), (.int x1)])) (fun t k => ?_) ?_
  · show Steps p.tables e below (T1.setTop (mkF m 5 #[.val (.ref a1), .val (.int x1)] [(.ref a2), (.int x1)])) t
    refine lenAI X1 hx hZ e1 A_a2_0 rfl (g := (mkF m 5 #[.val (.ref a1), .val (.int x1)] [(.ref a2), (.int x1)])) rfl (hb hby d4_5) _ ?_
    exact k
  refine iteE hr (fun hc2 hr => ?_) (fun hc2 hr => ?_)
  · refine Runs.via (T' := T1) (g' := (mkF m 9 #[.val (.ref a1), .val (.int x1)] [])) (fun t k => ?_) ?_
    · show Steps p.tables e below (T1.setTop (mkF m 6 #[.val (.ref a1), .val (.int x1)] [(.int (lenO q_a2)), (.int x1)])) t
      exact XS.icmpNo X1.here hx rfl (hb hby d4_6) rfl (tlt hc2).2.2.2 k
    refine Runs.via (T' := T1) (g' := (mkF m 11 #[.val (.ref a1), .val (.int x1)] [(.ref a1), (.ref a1)])) (fun t k => ?_) ?_
    · show Steps p.tables e below (T1.setTop (mkF m 9 #[.val (.ref a1), .val (.int x1)] [])) t
      refine XS.aloadN X1.here hx rfl (hb hby d4_9) rfl rfl ?_
      show Steps p.tables e below (T1.setTop (mkF m 10 #[.val (.ref a1), .val (.int x1)] [(.ref a1)])) t
      refine XS.aloadN X1.here hx rfl (hb hby d4_10) rfl rfl ?_
      exact k
    obtain ⟨T3, X3, e3, st3⟩ := getF X1 hx hZ hown (host := "") (Or.inl (hw _ (List.mem_of_getElem? (i := 13) rfl))) Via.refl e1 F_a1_words_0 (g := (mkF m 11 #[.val (.ref a1), .val (.int x1)] [(.ref a1), (.ref a1)])) rfl rfl (hb hby d4_11)
    refine Runs.via (T' := T3) (g' := (mkF m 14 #[.val (.ref a1), .val (.int x1)] [(.ref a2), (.ref a1)])) (fun t k => st3 _ k) ?_
    refine Runs.via (T' := T3) (g' := (mkF m 16 #[.val (.ref a1), .val (.int x1)] [(.ref a1), (.int x1), (.ref a2), (.ref a1)])) (fun t k => ?_) ?_
    · show Steps p.tables e below (T3.setTop (mkF m 14 #[.val (.ref a1), .val (.int x1)] [(.ref a2), (.ref a1)])) t
      refine XS.iloadN X3.here hx rfl (hb hby d4_14) rfl ?_
      show Steps p.tables e below (T3.setTop (mkF m 15 #[.val (.ref a1), .val (.int x1)] [(.int x1), (.ref a2), (.ref a1)])) t
      refine XS.aloadN X3.here hx rfl (hb hby d4_15) rfl rfl ?_
      exact k
    obtain ⟨T4, X4, e4, st4⟩ := getF X3 hx hZ hown (host := "") (Or.inl (hw _ (List.mem_of_getElem? (i := 13) rfl))) Via.refl e3 F_a1_words_0 (g := (mkF m 16 #[.val (.ref a1), .val (.int x1)] [(.ref a1), (.int x1), (.ref a2), (.ref a1)])) rfl rfl (hb hby d4_16)
    refine Runs.via (T' := T4) (g' := (mkF m 19 #[.val (.ref a1), .val (.int x1)] [(.ref a2), (.int x1), (.ref a2), (.ref a1)])) (fun t k => st4 _ k) ?_
    refine Runs.via (T' := T4) (g' := (mkF m 22 #[.val (.ref a1), .val (.int x1)] [(.int ((lenO q_a2) * (2 : Int32))), (.int x1), (.ref a2), (.ref a1)])) (fun t k => ?_) ?_
    · show Steps p.tables e below (T4.setTop (mkF m 19 #[.val (.ref a1), .val (.int x1)] [(.ref a2), (.int x1), (.ref a2), (.ref a1)])) t
      refine lenAI X4 hx hZ e4 A_a2_0 rfl (g := (mkF m 19 #[.val (.ref a1), .val (.int x1)] [(.ref a2), (.int x1), (.ref a2), (.ref a1)])) rfl (hb hby d4_19) _ ?_
      show Steps p.tables e below (T4.setTop (mkF m 20 #[.val (.ref a1), .val (.int x1)] [(.int (lenO q_a2)), (.int x1), (.ref a2), (.ref a1)])) t
      refine XS.iconst X4.here hx rfl (hb hby d4_20) ?_
      show Steps p.tables e below (T4.setTop (mkF m 21 #[.val (.ref a1), .val (.int x1)] [(.int (2 : Int32)), (.int (lenO q_a2)), (.int x1), (.ref a2), (.ref a1)])) t
      refine XS.imul X4.here hx rfl (hb hby d4_21) rfl ?_
      exact k
    exact nomatch hr
  · refine Runs.via (T' := T1) (g' := (mkF m 31 #[.val (.ref a1), .val (.int x1)] [])) (fun t k => ?_) ?_
    · show Steps p.tables e below (T1.setTop (mkF m 6 #[.val (.ref a1), .val (.int x1)] [(.int (lenO q_a2)), (.int x1)])) t
      exact XS.icmpYes X1.here hx rfl (pc0 := 6) (pc' := 31) rfl (hb hby d4_6) rfl (flt hc2).2.2.2 (by decide) (by decide) k
    obtain rfl := Option.some.inj hr
    exact own_retV X1 hx hlk hret (hb hby d4_31) (by show cells ≤ 0; omega) (by show slots ≤ 0; omega) ⟨rfl, N0, e1⟩
def f4 (x1 : Int32) (q_a1_length : Int32) (q_a2 : List Int32) : Option (Unit) := g4_0 x1 q_a1_length q_a2
theorem pn_4 : plainName "com/example/notewright/notewright/Natural" = true := by first | (simp [plainName, overriddenIn]; done) | decide +kernel
theorem ef_4 (m : MethodId) (x1 : Int32) (a1 : Addr) (a2 : Addr) : entryFrame m #[(.ref a1), (.int x1)] 2 = mkF m 0 #[.val (.ref a1), .val (.int x1)] [] := by first | (simp [entryFrame, mkF, argsToLocals, Value.category]; done) | rfl
set_option maxRecDepth 65536 in
set_option maxHeartbeats 4000000 in
theorem rm4 (l : Launch) (Z : State) (a0 : Array Value) (hw : ∀ d ∈ tables_1, d.before a0 Z = true) (ws : List Jvm.Cond) (x1 : Int32) (a1 : Addr) (a2 : Addr) (q_a1_length : Int32) (q_a2 : List Int32) (hE : Heap) (n0 : Nat) (Z0 : n0 ≤ hE.size) (o0 : n0 ≤ a1) (o1 : @LT.lt Nat instLTNat a1 a2) (E_a1_0 : Exa Z hE a1 "com/example/notewright/notewright/Natural") (F_a1_words_0 : Fld Z hE a1 "com/example/notewright/notewright/Natural" "words" "[I" (.ref a2)) (F_a1_length_0 : Fld Z hE a1 "com/example/notewright/notewright/Natural" "length" "I" (.int q_a1_length)) (A_a2_0 : AI Z hE a2 .int q_a2) (r : Unit) (hr : f4 x1 q_a1_length q_a2 = some r) :
    MetFree l (⟨"com/example/notewright/notewright/Natural", "grow", "(I)V"⟩ : MethodName) (head1 (Jvm.Cond.code (⟨"com/example/notewright/notewright/Natural", "grow", "(I)V"⟩ : MethodName) prog_20_method_12_code 2 none :: ws) ({ frames := 0, cells := 0, slots := 0, locals := 0 } : Room)) (fun a U => a = #[(.ref a1), (.int x1)] ∧ Z.Warmed39 U.vm ∧ U.heap = hE) (fun _ _ _ _ _ => True) (fun _ U o U' => ∃ v L, o = .returned v ∧ (P4 Z hE a1 a2 q_a1_length q_a2 n0 r v U'.heap L) ∧ FrameEnd U o U' L ({ frames := 0, cells := 0, slots := 0, locals := 0 } : Room).cells ({ frames := 0, cells := 0, slots := 0, locals := 0 } : Room).slots) := by
  refine MetFree.of_bodySF (plainFor_of_name pn_4) hisR ?_
  intro p e s m args below meth c s₁ Bd hml0 hP hK
  obtain ⟨rfl, hZ, hh⟩ := hP
  have X0 : Stand p l e ({ frames := 0, cells := 0, slots := 0, locals := 0 } : Room) s m #[(.ref a1), (.int x1)] below meth c s₁ [] 0 0 := Stand.of_body Bd
  have e0 : s₁.heap = hE := by rw [← hh, Bd.state]; rfl
  have C : Ctx p s m meth c Z a0 "com/example/notewright/notewright/Natural" prog_20_method_12_code 2 none "grow" := ⟨Bd.exec, hZ, hw, Bd.bytes, hml0, findClass_of_methodNamed Bd.named, Bd.returns, BodyLoose.notSynchronized Bd, (name_of_methodNamed Bd.named Bd.method).1⟩
  refine Runs.via (fun t k => castTop (ef_4 m x1 a1 a2) k) (b4_0 C X0 e0 (Fr.nil n0) (by show 0 ≤ 0; omega) (by show 0 ≤ 0; omega) Z0 (by omega) (by omega) x1 E_a1_0 F_a1_words_0 F_a1_length_0 A_a2_0 hr)
theorem pd_1 : parseMethodDescriptor "(I)V" = some ⟨[.int], none⟩ := by decide +kernel
theorem d3_0 : decode prog_20_method_4_code 0 = .ok (.lload_n 3, 1) := by decide +kernel
theorem d3_1 : decode prog_20_method_4_code 1 = .ok (.lstore 5, 2) := by decide +kernel
theorem d3_3 : decode prog_20_method_4_code 3 = .ok (.iconst 0, 1) := by decide +kernel
theorem d3_4 : decode prog_20_method_4_code 4 = .ok (.istore 7, 2) := by decide +kernel
theorem d3_6 : decode prog_20_method_4_code 6 = .ok (.iload 7, 2) := by decide +kernel
theorem d3_8 : decode prog_20_method_4_code 8 = .ok (.aload_n 0, 1) := by decide +kernel
theorem d3_9 : decode prog_20_method_4_code 9 = .ok (.getfield 16, 3) := by decide +kernel
theorem d3_12 : decode prog_20_method_4_code 12 = .ok (.if_icmp .ge 45, 3) := by decide +kernel
theorem d3_15 : decode prog_20_method_4_code 15 = .ok (.aload_n 0, 1) := by decide +kernel
theorem d3_16 : decode prog_20_method_4_code 16 = .ok (.getfield 11, 3) := by decide +kernel
theorem d3_19 : decode prog_20_method_4_code 19 = .ok (.iload 7, 2) := by decide +kernel
theorem d3_21 : decode prog_20_method_4_code 21 = .ok (.iaload, 1) := by decide +kernel
theorem d3_22 : decode prog_20_method_4_code 22 = .ok (.i2l, 1) := by decide +kernel
theorem d3_23 : decode prog_20_method_4_code 23 = .ok (.ldc2_w 23, 3) := by decide +kernel
theorem d3_26 : decode prog_20_method_4_code 26 = .ok (.land, 1) := by decide +kernel
theorem d3_27 : decode prog_20_method_4_code 27 = .ok (.lload_n 1, 1) := by decide +kernel
theorem d3_28 : decode prog_20_method_4_code 28 = .ok (.lmul, 1) := by decide +kernel
theorem d3_29 : decode prog_20_method_4_code 29 = .ok (.lload 5, 2) := by decide +kernel
theorem d3_31 : decode prog_20_method_4_code 31 = .ok (.ladd, 1) := by decide +kernel
theorem d3_32 : decode prog_20_method_4_code 32 = .ok (.lstore 8, 2) := by decide +kernel
theorem d3_34 : decode prog_20_method_4_code 34 = .ok (.aload_n 0, 1) := by decide +kernel
theorem d3_35 : decode prog_20_method_4_code 35 = .ok (.getfield 11, 3) := by decide +kernel
theorem d3_38 : decode prog_20_method_4_code 38 = .ok (.iload 7, 2) := by decide +kernel
theorem d3_40 : decode prog_20_method_4_code 40 = .ok (.lload 8, 2) := by decide +kernel
theorem d3_42 : decode prog_20_method_4_code 42 = .ok (.l2i, 1) := by decide +kernel
theorem d3_43 : decode prog_20_method_4_code 43 = .ok (.iastore, 1) := by decide +kernel
theorem d3_44 : decode prog_20_method_4_code 44 = .ok (.lload 8, 2) := by decide +kernel
theorem d3_46 : decode prog_20_method_4_code 46 = .ok (.bipush 32, 2) := by decide +kernel
theorem d3_48 : decode prog_20_method_4_code 48 = .ok (.lushr, 1) := by decide +kernel
theorem d3_49 : decode prog_20_method_4_code 49 = .ok (.lstore 5, 2) := by decide +kernel
theorem d3_51 : decode prog_20_method_4_code 51 = .ok (.iinc 7 1, 3) := by decide +kernel
theorem d3_54 : decode prog_20_method_4_code 54 = .ok (.goto (-48), 3) := by decide +kernel
theorem d3_57 : decode prog_20_method_4_code 57 = .ok (.lload 5, 2) := by decide +kernel
theorem d3_59 : decode prog_20_method_4_code 59 = .ok (.lconst 0, 1) := by decide +kernel
theorem d3_60 : decode prog_20_method_4_code 60 = .ok (.lcmp, 1) := by decide +kernel
theorem d3_61 : decode prog_20_method_4_code 61 = .ok (.ifCond .eq 35, 3) := by decide +kernel
theorem d3_64 : decode prog_20_method_4_code 64 = .ok (.aload_n 0, 1) := by decide +kernel
theorem d3_65 : decode prog_20_method_4_code 65 = .ok (.aload_n 0, 1) := by decide +kernel
theorem d3_66 : decode prog_20_method_4_code 66 = .ok (.getfield 16, 3) := by decide +kernel
theorem d3_69 : decode prog_20_method_4_code 69 = .ok (.iconst 1, 1) := by decide +kernel
theorem d3_70 : decode prog_20_method_4_code 70 = .ok (.iadd, 1) := by decide +kernel
theorem d3_71 : decode prog_20_method_4_code 71 = .ok (.invokevirtual 25, 3) := by decide +kernel
theorem d3_74 : decode prog_20_method_4_code 74 = .ok (.aload_n 0, 1) := by decide +kernel
theorem d3_75 : decode prog_20_method_4_code 75 = .ok (.getfield 11, 3) := by decide +kernel
theorem d3_78 : decode prog_20_method_4_code 78 = .ok (.aload_n 0, 1) := by decide +kernel
theorem d3_79 : decode prog_20_method_4_code 79 = .ok (.getfield 16, 3) := by decide +kernel
theorem d3_82 : decode prog_20_method_4_code 82 = .ok (.lload 5, 2) := by decide +kernel
theorem d3_84 : decode prog_20_method_4_code 84 = .ok (.l2i, 1) := by decide +kernel
theorem d3_85 : decode prog_20_method_4_code 85 = .ok (.iastore, 1) := by decide +kernel
theorem d3_86 : decode prog_20_method_4_code 86 = .ok (.aload_n 0, 1) := by decide +kernel
theorem d3_87 : decode prog_20_method_4_code 87 = .ok (.dup, 1) := by decide +kernel
theorem d3_88 : decode prog_20_method_4_code 88 = .ok (.getfield 16, 3) := by decide +kernel
theorem d3_91 : decode prog_20_method_4_code 91 = .ok (.iconst 1, 1) := by decide +kernel
theorem d3_92 : decode prog_20_method_4_code 92 = .ok (.iadd, 1) := by decide +kernel
theorem d3_93 : decode prog_20_method_4_code 93 = .ok (.putfield 16, 3) := by decide +kernel
theorem d3_96 : decode prog_20_method_4_code 96 = .ok (.return_, 1) := by decide +kernel
def P3 (Z : State) (hE : Heap) (a1 : Addr) (a2 : Addr) (q_a1_length : Int32) (q_a2 : List Int32) (n0 : Nat) (r : Int32 × List Int32) (v : Option Value) (h : Heap) (L : List Loc) : Prop := v = none ∧ Fr n0 L ∧ Keep hE h [a1, a2] ∧ Exa Z h a1 "com/example/notewright/notewright/Natural" ∧ Fld Z h a1 "com/example/notewright/notewright/Natural" "words" "[I" (.ref a2) ∧ Fld Z h a1 "com/example/notewright/notewright/Natural" "length" "I" (.int r.1) ∧ AI Z h a2 .int r.2
def s3_6 (K6 : Int64 → Int64 → Int32 → Int32 → List Int32 → Option (Int32 × List Int32)) (fuel : Nat) (y1 : Int64) (y5 : Int64) (x7 : Int32) (q_a1_length : Int32) (q_a2 : List Int32) : Option (Int32 × List Int32) := (if x7 < q_a1_length then ((rdO q_a2 x7).bind fun v4 => (letO ((((Int32.toInt64 v4) &&& (4294967295 : Int64)) * y1) + y5) fun v5 => ((wrO q_a2 x7 (Int64.toInt32 v5)).bind fun v7 => (letO ((v5.toUInt64 >>> ((32 : Int32) &&& 0x3f).toInt64.toUInt64).toInt64) fun v8 => (K6 y1 v8 (x7 + (1 : Int32)) q_a1_length v7))))) else (if y5 = (0 : Int64) then some (q_a1_length, q_a2) else ((f4 (q_a1_length + (1 : Int32)) q_a1_length q_a2).bind fun r11 => ((wrO q_a2 q_a1_length (Int64.toInt32 y5)).bind fun v14 => (letO (q_a1_length + (1 : Int32)) fun v16 => some (v16, v14))))))
def h3_6 (fuel : Nat) : Nat → Int64 → Int64 → Int32 → Int32 → List Int32 → Option (Int32 × List Int32)
  | 0 => fun _ _ _ _ _ => none
  | n + 1 => fun y1 y5 x7 q_a1_length q_a2 => s3_6 (h3_6 fuel n) fuel y1 y5 x7 q_a1_length q_a2
def g3_6 (fuel : Nat) (y1 : Int64) (y5 : Int64) (x7 : Int32) (q_a1_length : Int32) (q_a2 : List Int32) : Option (Int32 × List Int32) := h3_6 fuel fuel y1 y5 x7 q_a1_length q_a2
set_option maxRecDepth 65536 in
set_option maxHeartbeats 4000000 in
theorem t3_6w1 {hE : Heap} {a1 : Addr} {a2 : Addr} {q_a1_length₀ : Int32} {q_a2₀ : List Int32} (fuel : Nat) {r : Int32 × List Int32} (C : Ctx p s m meth c Z a0 "com/example/notewright/notewright/Natural" prog_20_method_4_code 10 none "multiplyAdd") (K6 : Int64 → Int64 → Int32 → Int32 → List Int32 → Option (Int32 × List Int32)) (hK6 : ∀ {T0 : State} {locs : List Loc} {cells slots : Nat} {h0 : Heap} (X0 : Stand p l e ({ frames := 1, cells := 0, slots := 0, locals := 13 } : Room) s m args below meth c T0 locs cells slots) (e0 : T0.heap = h0) (N0 : Fr n0 locs) (hk : cells ≤ 0) (hn : slots ≤ 0) (Z1 : n0 ≤ h0.size) (KE : Keep hE h0 [a1, a2]) (o0 : n0 ≤ a1) (o1 : @LT.lt Nat instLTNat a1 a2) (q_a1_length : Int32) (q_a2 : List Int32) (y1 : Int64) (y3 : Int64) (y5 : Int64) (x7 : Int32) (y8 : Int64) (E_a1_0 : Exa Z h0 a1 "com/example/notewright/notewright/Natural") (F_a1_words_0 : Fld Z h0 a1 "com/example/notewright/notewright/Natural" "words" "[I" (.ref a2)) (F_a1_length_0 : Fld Z h0 a1 "com/example/notewright/notewright/Natural" "length" "I" (.int q_a1_length)) (A_a2_0 : AI Z h0 a2 .int q_a2), K6 y1 y5 x7 q_a1_length q_a2 = some r → Runs p e below s (P3 Z hE a1 a2 q_a1_length₀ q_a2₀ n0 r) 0 0 T0 (mkF m 6 #[.val (.ref a1), .val (.long y1), .second, .val (.long y3), .second, .val (.long y5), .second, .val (.int x7), .val (.long y8), .second] [])) (X0 : Stand p l e ({ frames := 1, cells := 0, slots := 0, locals := 13 } : Room) s m args below meth c T0 locs cells slots) (e0 : T0.heap = h0) (N0 : Fr n0 locs) (hk : cells ≤ 0) (hn : slots ≤ 0) (Z1 : n0 ≤ h0.size) (KE : Keep hE h0 [a1, a2]) (o0 : n0 ≤ a1) (o1 : @LT.lt Nat instLTNat a1 a2) (q_a1_length : Int32) (q_a2 : List Int32) (y1 : Int64) (y3 : Int64) (y5 : Int64) (x7 : Int32) (y8 : Int64) (E_a1_0 : Exa Z h0 a1 "com/example/notewright/notewright/Natural") (F_a1_words_0 : Fld Z h0 a1 "com/example/notewright/notewright/Natural" "words" "[I" (.ref a2)) (F_a1_length_0 : Fld Z h0 a1 "com/example/notewright/notewright/Natural" "length" "I" (.int q_a1_length)) (A_a2_0 : AI Z h0 a2 .int q_a2) (hr : s3_6 K6 fuel y1 y5 x7 q_a1_length q_a2 = some r) :
    Runs p e below s (P3 Z hE a1 a2 q_a1_length₀ q_a2₀ n0 r) 0 0 T0 (mkF m 6 #[.val (.ref a1), .val (.long y1), .second, .val (.long y3), .second, .val (.long y5), .second, .val (.int x7), .val (.long y8), .second] []) := by
  unfold s3_6 at hr
  have ⟨hx, hZ, hw, hby, hml, hown, hret, hlk, hnm⟩ := C
  refine Runs.via (T' := T0) (g' := (mkF m 9 #[.val (.ref a1), .val (.long y1), .second, .val (.long y3), .second, .val (.long y5), .second, .val (.int x7), .val (.long y8), .second] [(.ref a1), (.int x7)])) (fun t k => ?_) ?_
  · show Steps p.tables e below (T0.setTop (mkF m 6 #[.val (.ref a1), .val (.long y1), .second, .val (.long y3), .second, .val (.long y5), .second, .val (.int x7), .val (.long y8), .second] [])) t
    refine XS.iload X0.here hx rfl (hb hby d3_6) rfl ?_
    show Steps p.tables e below (T0.setTop (mkF m 8 #[.val (.ref a1), .val (.long y1), .second, .val (.long y3), .second, .val (.long y5), .second, .val (.int x7), .val (.long y8), .second] [(.int x7)])) t
    refine XS.aloadN X0.here hx rfl (hb hby d3_8) rfl rfl ?_
    exact k
  obtain ⟨T1, X1, e1, st1⟩ := getF X0 hx hZ hown (host := "") (Or.inl (hw _ (List.mem_of_getElem? (i := 20) rfl))) Via.refl e0 F_a1_length_0 (g := (mkF m 9 #[.val (.ref a1), .val (.long y1), .second, .val (.long y3), .second, .val (.long y5), .second, .val (.int x7), .val (.long y8), .second] [(.ref a1), (.int x7)])) rfl rfl (hb hby d3_9)
  refine Runs.via (T' := T1) (g' := (mkF m 12 #[.val (.ref a1), .val (.long y1), .second, .val (.long y3), .second, .val (.long y5), .second, .val (.int x7), .val (.long y8), .second] [(.int q_a1_length), (.int x7)])) (fun t k => st1 _ k) ?_
  refine iteE hr (fun hc2 hr => ?_) (fun hc2 hr => ?_)
  · refine Runs.via (T' := T1) (g' := (mkF m 15 #[.val (.ref a1), .val (.long y1), .second, .val (.long y3), .second, .val (.long y5), .second, .val (.int x7), .val (.long y8), .second] [])) (fun t k => ?_) ?_
    · show Steps p.tables e below (T1.setTop (mkF m 12 #[.val (.ref a1), .val (.long y1), .second, .val (.long y3), .second, .val (.long y5), .second, .val (.int x7), .val (.long y8), .second] [(.int q_a1_length), (.int x7)])) t
      exact XS.icmpNo X1.here hx rfl (hb hby d3_12) rfl (tlt hc2).2.1 k
    refine Runs.via (T' := T1) (g' := (mkF m 16 #[.val (.ref a1), .val (.long y1), .second, .val (.long y3), .second, .val (.long y5), .second, .val (.int x7), .val (.long y8), .second] [(.ref a1)])) (fun t k => ?_) ?_
    · show Steps p.tables e below (T1.setTop (mkF m 15 #[.val (.ref a1), .val (.long y1), .second, .val (.long y3), .second, .val (.long y5), .second, .val (.int x7), .val (.long y8), .second] [])) t
      refine XS.aloadN X1.here hx rfl (hb hby d3_15) rfl rfl ?_
      exact k
    obtain ⟨T3, X3, e3, st3⟩ := getF X1 hx hZ hown (host := "") (Or.inl (hw _ (List.mem_of_getElem? (i := 13) rfl))) Via.refl e1 F_a1_words_0 (g := (mkF m 16 #[.val (.ref a1), .val (.long y1), .second, .val (.long y3), .second, .val (.long y5), .second, .val (.int x7), .val (.long y8), .second] [(.ref a1)])) rfl rfl (hb hby d3_16)
    refine Runs.via (T' := T3) (g' := (mkF m 19 #[.val (.ref a1), .val (.long y1), .second, .val (.long y3), .second, .val (.long y5), .second, .val (.int x7), .val (.long y8), .second] [(.ref a2)])) (fun t k => st3 _ k) ?_
    refine Runs.via (T' := T3) (g' := (mkF m 21 #[.val (.ref a1), .val (.long y1), .second, .val (.long y3), .second, .val (.long y5), .second, .val (.int x7), .val (.long y8), .second] [(.int x7), (.ref a2)])) (fun t k => ?_) ?_
    · show Steps p.tables e below (T3.setTop (mkF m 19 #[.val (.ref a1), .val (.long y1), .second, .val (.long y3), .second, .val (.long y5), .second, .val (.int x7), .val (.long y8), .second] [(.ref a2)])) t
      refine XS.iload X3.here hx rfl (hb hby d3_19) rfl ?_
      exact k
    refine bindE hr ?_; intro v4 hv4 hr
    refine Runs.via (T' := T3) (g' := (mkF m 22 #[.val (.ref a1), .val (.long y1), .second, .val (.long y3), .second, .val (.long y5), .second, .val (.int x7), .val (.long y8), .second] [(.int v4)])) (fun t k => ldI X3 hx hZ e3 A_a2_0 hv4 (g := (mkF m 21 #[.val (.ref a1), .val (.long y1), .second, .val (.long y3), .second, .val (.long y5), .second, .val (.int x7), .val (.long y8), .second] [(.int x7), (.ref a2)])) rfl rfl (hb hby d3_21) _ k) ?_
    refine Runs.via (T' := T3) (g' := (mkF m 32 #[.val (.ref a1), .val (.long y1), .second, .val (.long y3), .second, .val (.long y5), .second, .val (.int x7), .val (.long y8), .second] [(.long ((((Int32.toInt64 v4) &&& (4294967295 : Int64)) * y1) + y5))])) (fun t k => ?_) ?_
    · show Steps p.tables e below (T3.setTop (mkF m 22 #[.val (.ref a1), .val (.long y1), .second, .val (.long y3), .second, .val (.long y5), .second, .val (.int x7), .val (.long y8), .second] [(.int v4)])) t
      refine XS.i2l X3.here hx rfl (hb hby d3_22) rfl ?_
      show Steps p.tables e below (T3.setTop (mkF m 23 #[.val (.ref a1), .val (.long y1), .second, .val (.long y3), .second, .val (.long y5), .second, .val (.int x7), .val (.long y8), .second] [(.long (Int32.toInt64 v4))])) t
      refine X3.ldc2Long hx hown (mvT hZ (hw _ (List.mem_of_getElem? (i := 26) rfl))) (g := (mkF m 23 #[.val (.ref a1), .val (.long y1), .second, .val (.long y3), .second, .val (.long y5), .second, .val (.int x7), .val (.long y8), .second] [(.long (Int32.toInt64 v4))])) rfl (hb hby d3_23) _ ?_
      show Steps p.tables e below (T3.setTop (mkF m 26 #[.val (.ref a1), .val (.long y1), .second, .val (.long y3), .second, .val (.long y5), .second, .val (.int x7), .val (.long y8), .second] [(.long (4294967295 : Int64)), (.long (Int32.toInt64 v4))])) t
      refine XS.land X3.here hx rfl (hb hby d3_26) rfl ?_
      show Steps p.tables e below (T3.setTop (mkF m 27 #[.val (.ref a1), .val (.long y1), .second, .val (.long y3), .second, .val (.long y5), .second, .val (.int x7), .val (.long y8), .second] [(.long ((Int32.toInt64 v4) &&& (4294967295 : Int64)))])) t
      refine XS.lloadN X3.here hx rfl (hb hby d3_27) rfl ?_
      show Steps p.tables e below (T3.setTop (mkF m 28 #[.val (.ref a1), .val (.long y1), .second, .val (.long y3), .second, .val (.long y5), .second, .val (.int x7), .val (.long y8), .second] [(.long y1), (.long ((Int32.toInt64 v4) &&& (4294967295 : Int64)))])) t
      refine XS.lmul X3.here hx rfl (hb hby d3_28) rfl ?_
      show Steps p.tables e below (T3.setTop (mkF m 29 #[.val (.ref a1), .val (.long y1), .second, .val (.long y3), .second, .val (.long y5), .second, .val (.int x7), .val (.long y8), .second] [(.long (((Int32.toInt64 v4) &&& (4294967295 : Int64)) * y1))])) t
      refine XS.lload X3.here hx rfl (hb hby d3_29) rfl ?_
      show Steps p.tables e below (T3.setTop (mkF m 31 #[.val (.ref a1), .val (.long y1), .second, .val (.long y3), .second, .val (.long y5), .second, .val (.int x7), .val (.long y8), .second] [(.long y5), (.long (((Int32.toInt64 v4) &&& (4294967295 : Int64)) * y1))])) t
      refine XS.ladd X3.here hx rfl (hb hby d3_31) rfl ?_
      exact k
    refine letE hr ?_; intro v5 hv5 hr
    rw [← hv5]
    refine Runs.via (T' := T3) (g' := (mkF m 35 #[.val (.ref a1), .val (.long y1), .second, .val (.long y3), .second, .val (.long y5), .second, .val (.int x7), .val (.long v5), .second] [(.ref a1)])) (fun t k => ?_) ?_
    · show Steps p.tables e below (T3.setTop (mkF m 32 #[.val (.ref a1), .val (.long y1), .second, .val (.long y3), .second, .val (.long y5), .second, .val (.int x7), .val (.long y8), .second] [(.long v5)])) t
      refine XS.lstore X3.here hx rfl (hb hby d3_32) rfl (l' := #[.val (.ref a1), .val (.long y1), .second, .val (.long y3), .second, .val (.long y5), .second, .val (.int x7), .val (.long v5), .second]) rfl ?_
      show Steps p.tables e below (T3.setTop (mkF m 34 #[.val (.ref a1), .val (.long y1), .second, .val (.long y3), .second, .val (.long y5), .second, .val (.int x7), .val (.long v5), .second] [])) t
      refine XS.aloadN X3.here hx rfl (hb hby d3_34) rfl rfl ?_
      exact k
    obtain ⟨T6, X6, e6, st6⟩ := getF X3 hx hZ hown (host := "") (Or.inl (hw _ (List.mem_of_getElem? (i := 13) rfl))) Via.refl e3 F_a1_words_0 (g := (mkF m 35 #[.val (.ref a1), .val (.long y1), .second, .val (.long y3), .second, .val (.long y5), .second, .val (.int x7), .val (.long v5), .second] [(.ref a1)])) rfl rfl (hb hby d3_35)
    refine Runs.via (T' := T6) (g' := (mkF m 38 #[.val (.ref a1), .val (.long y1), .second, .val (.long y3), .second, .val (.long y5), .second, .val (.int x7), .val (.long v5), .second] [(.ref a2)])) (fun t k => st6 _ k) ?_
    refine Runs.via (T' := T6) (g' := (mkF m 43 #[.val (.ref a1), .val (.long y1), .second, .val (.long y3), .second, .val (.long y5), .second, .val (.int x7), .val (.long v5), .second] [(.int (Int64.toInt32 v5)), (.int x7), (.ref a2)])) (fun t k => ?_) ?_
    · show Steps p.tables e below (T6.setTop (mkF m 38 #[.val (.ref a1), .val (.long y1), .second, .val (.long y3), .second, .val (.long y5), .second, .val (.int x7), .val (.long v5), .second] [(.ref a2)])) t
      refine XS.iload X6.here hx rfl (hb hby d3_38) rfl ?_
      show Steps p.tables e below (T6.setTop (mkF m 40 #[.val (.ref a1), .val (.long y1), .second, .val (.long y3), .second, .val (.long y5), .second, .val (.int x7), .val (.long v5), .second] [(.int x7), (.ref a2)])) t
      refine XS.lload X6.here hx rfl (hb hby d3_40) rfl ?_
      show Steps p.tables e below (T6.setTop (mkF m 42 #[.val (.ref a1), .val (.long y1), .second, .val (.long y3), .second, .val (.long y5), .second, .val (.int x7), .val (.long v5), .second] [(.long v5), (.int x7), (.ref a2)])) t
      refine XS.l2i X6.here hx rfl (hb hby d3_42) rfl ?_
      exact k
    refine bindE hr ?_; intro v7 hv7 hr
    obtain ⟨T7, h7, X7, e7, W7, A7, st7⟩ := soI X6 hx hZ e6 A_a2_0 hv7 (g := (mkF m 43 #[.val (.ref a1), .val (.long y1), .second, .val (.long y3), .second, .val (.long y5), .second, .val (.int x7), .val (.long v5), .second] [(.int (Int64.toInt32 v5)), (.int x7), (.ref a2)])) rfl rfl (hb hby d3_43)
    have E_a1_7 : Exa Z h7 a1 "com/example/notewright/notewright/Natural" := E_a1_0.wr W7
    have F_a1_words_7 : Fld Z h7 a1 "com/example/notewright/notewright/Natural" "words" "[I" (.ref a2) := F_a1_words_0.other W7 (Or.inl (by omega : @Ne Nat a1 a2))
    have F_a1_length_7 : Fld Z h7 a1 "com/example/notewright/notewright/Natural" "length" "I" (.int q_a1_length) := F_a1_length_0.other W7 (Or.inl (by omega : @Ne Nat a1 a2))
    have A_a2_7 : AI Z h7 a2 .int v7 := A7
    have N7 := Fr.snoc X7 N0 (by omega : n0 ≤ a2)
    have zz7 : n0 ≤ h7.size := Nat.le_trans Z1 (Keep.of_wr W7).1
    have K7 := KE.wr W7 (Or.inl (List.mem_of_getElem? (i := 1) rfl))
    refine Runs.via (T' := T7) (g' := (mkF m 44 #[.val (.ref a1), .val (.long y1), .second, .val (.long y3), .second, .val (.long y5), .second, .val (.int x7), .val (.long v5), .second] [])) (fun t k => st7 _ k) ?_
    refine Runs.via (T' := T7) (g' := (mkF m 49 #[.val (.ref a1), .val (.long y1), .second, .val (.long y3), .second, .val (.long y5), .second, .val (.int x7), .val (.long v5), .second] [(.long ((v5.toUInt64 >>> ((32 : Int32) &&& 0x3f).toInt64.toUInt64).toInt64))])) (fun t k => ?_) ?_
    · show Steps p.tables e below (T7.setTop (mkF m 44 #[.val (.ref a1), .val (.long y1), .second, .val (.long y3), .second, .val (.long y5), .second, .val (.int x7), .val (.long v5), .second] [])) t
      refine XS.lload X7.here hx rfl (hb hby d3_44) rfl ?_
      show Steps p.tables e below (T7.setTop (mkF m 46 #[.val (.ref a1), .val (.long y1), .second, .val (.long y3), .second, .val (.long y5), .second, .val (.int x7), .val (.long v5), .second] [(.long v5)])) t
      refine XS.bipush X7.here hx rfl (hb hby d3_46) ?_
      show Steps p.tables e below (T7.setTop (mkF m 48 #[.val (.ref a1), .val (.long y1), .second, .val (.long y3), .second, .val (.long y5), .second, .val (.int x7), .val (.long v5), .second] [(.int (32 : Int32)), (.long v5)])) t
      refine XS.lushr X7.here hx rfl (hb hby d3_48) rfl ?_
      exact k
    refine letE hr ?_; intro v8 hv8 hr
    rw [← hv8]
    refine Runs.via (T' := T7) (g' := (mkF m 6 #[.val (.ref a1), .val (.long y1), .second, .val (.long y3), .second, .val (.long v8), .second, .val (.int (x7 + (1 : Int32))), .val (.long v5), .second] [])) (fun t k => ?_) ?_
    · show Steps p.tables e below (T7.setTop (mkF m 49 #[.val (.ref a1), .val (.long y1), .second, .val (.long y3), .second, .val (.long y5), .second, .val (.int x7), .val (.long v5), .second] [(.long v8)])) t
      refine XS.lstore X7.here hx rfl (hb hby d3_49) rfl (l' := #[.val (.ref a1), .val (.long y1), .second, .val (.long y3), .second, .val (.long v8), .second, .val (.int x7), .val (.long v5), .second]) rfl ?_
      show Steps p.tables e below (T7.setTop (mkF m 51 #[.val (.ref a1), .val (.long y1), .second, .val (.long y3), .second, .val (.long v8), .second, .val (.int x7), .val (.long v5), .second] [])) t
      refine XS.iinc X7.here hx rfl (hb hby d3_51) rfl (l' := #[.val (.ref a1), .val (.long y1), .second, .val (.long y3), .second, .val (.long v8), .second, .val (.int (x7 + (1 : Int32))), .val (.long v5), .second]) rfl ?_
      show Steps p.tables e below (T7.setTop (mkF m 54 #[.val (.ref a1), .val (.long y1), .second, .val (.long y3), .second, .val (.long v8), .second, .val (.int (x7 + (1 : Int32))), .val (.long v5), .second] [])) t
      refine XS.goto X7.here hx rfl (pc0 := 54) (pc' := 6) rfl (hb hby d3_54) (by decide) (by decide) ?_
      exact k
    exact hK6 X7 e7 N7 (by show cells ≤ 0; omega) (by show slots ≤ 0; omega) zz7 K7 (by omega) (by omega) q_a1_length v7 y1 y3 v8 (x7 + (1 : Int32)) v5 E_a1_7 F_a1_words_7 F_a1_length_7 A_a2_7 hr
  · refine Runs.via (T' := T1) (g' := (mkF m 57 #[.val (.ref a1), .val (.long y1), .second, .val (.long y3), .second, .val (.long y5), .second, .val (.int x7), .val (.long y8), .second] [])) (fun t k => ?_) ?_
    · show Steps p.tables e below (T1.setTop (mkF m 12 #[.val (.ref a1), .val (.long y1), .second, .val (.long y3), .second, .val (.long y5), .second, .val (.int x7), .val (.long y8), .second] [(.int q_a1_length), (.int x7)])) t
      exact XS.icmpYes X1.here hx rfl (pc0 := 12) (pc' := 57) rfl (hb hby d3_12) rfl (flt hc2).2.1 (by decide) (by decide) k
    refine Runs.via (T' := T1) (g' := (mkF m 61 #[.val (.ref a1), .val (.long y1), .second, .val (.long y3), .second, .val (.long y5), .second, .val (.int x7), .val (.long y8), .second] [(.int (lcmpW y5 (0 : Int64)))])) (fun t k => ?_) ?_
    · show Steps p.tables e below (T1.setTop (mkF m 57 #[.val (.ref a1), .val (.long y1), .second, .val (.long y3), .second, .val (.long y5), .second, .val (.int x7), .val (.long y8), .second] [])) t
      refine XS.lload X1.here hx rfl (hb hby d3_57) rfl ?_
      show Steps p.tables e below (T1.setTop (mkF m 59 #[.val (.ref a1), .val (.long y1), .second, .val (.long y3), .second, .val (.long y5), .second, .val (.int x7), .val (.long y8), .second] [(.long y5)])) t
      refine XS.lconst X1.here hx rfl (hb hby d3_59) ?_
      show Steps p.tables e below (T1.setTop (mkF m 60 #[.val (.ref a1), .val (.long y1), .second, .val (.long y3), .second, .val (.long y5), .second, .val (.int x7), .val (.long y8), .second] [(.long (0 : Int64)), (.long y5)])) t
      refine XS.lcmp X1.here hx rfl (hb hby d3_60) rfl ?_
      exact k
    refine iteE hr (fun hc9 hr => ?_) (fun hc9 hr => ?_)
    · refine Runs.via (T' := T1) (g' := (mkF m 96 #[.val (.ref a1), .val (.long y1), .second, .val (.long y3), .second, .val (.long y5), .second, .val (.int x7), .val (.long y8), .second] [])) (fun t k => ?_) ?_
      · show Steps p.tables e below (T1.setTop (mkF m 61 #[.val (.ref a1), .val (.long y1), .second, .val (.long y3), .second, .val (.long y5), .second, .val (.int x7), .val (.long y8), .second] [(.int (lcmpW y5 (0 : Int64)))])) t
        exact XS.ifYes X1.here hx rfl (pc0 := 61) (pc' := 96) rfl (hb hby d3_61) rfl ((if0 _ _).trans (teq ((lw_eq _ _).mpr hc9)).1) (by decide) (by decide) k
      obtain rfl := Option.some.inj hr
      exact own_retV X1 hx hlk hret (hb hby d3_96) (by show cells ≤ 0; omega) (by show slots ≤ 0; omega) ⟨rfl, N0, (by rw [e1]; exact KE), (by rw [e1]; exact E_a1_0), (by rw [e1]; exact F_a1_words_0), (by rw [e1]; exact F_a1_length_0), (by rw [e1]; exact A_a2_0)⟩
    · refine Runs.via (T' := T1) (g' := (mkF m 64 #[.val (.ref a1), .val (.long y1), .second, .val (.long y3), .second, .val (.long y5), .second, .val (.int x7), .val (.long y8), .second] [])) (fun t k => ?_) ?_
      · show Steps p.tables e below (T1.setTop (mkF m 61 #[.val (.ref a1), .val (.long y1), .second, .val (.long y3), .second, .val (.long y5), .second, .val (.int x7), .val (.long y8), .second] [(.int (lcmpW y5 (0 : Int64)))])) t
        exact XS.ifNo X1.here hx rfl (hb hby d3_61) rfl ((if0 _ _).trans (feq (fun q => hc9 ((lw_eq _ _).mp q))).1) k
      refine Runs.via (T' := T1) (g' := (mkF m 66 #[.val (.ref a1), .val (.long y1), .second, .val (.long y3), .second, .val (.long y5), .second, .val (.int x7), .val (.long y8), .second] [(.ref a1), (.ref a1)])) (fun t k => ?_) ?_
      · show Steps p.tables e below (T1.setTop (mkF m 64 #[.val (.ref a1), .val (.long y1), .second, .val (.long y3), .second, .val (.long y5), .second, .val (.int x7), .val (.long y8), .second] [])) t
        refine XS.aloadN X1.here hx rfl (hb hby d3_64) rfl rfl ?_
        show Steps p.tables e below (T1.setTop (mkF m 65 #[.val (.ref a1), .val (.long y1), .second, .val (.long y3), .second, .val (.long y5), .second, .val (.int x7), .val (.long y8), .second] [(.ref a1)])) t
        refine XS.aloadN X1.here hx rfl (hb hby d3_65) rfl rfl ?_
        exact k
      obtain ⟨T10, X10, e10, st10⟩ := getF X1 hx hZ hown (host := "") (Or.inl (hw _ (List.mem_of_getElem? (i := 20) rfl))) Via.refl e1 F_a1_length_0 (g := (mkF m 66 #[.val (.ref a1), .val (.long y1), .second, .val (.long y3), .second, .val (.long y5), .second, .val (.int x7), .val (.long y8), .second] [(.ref a1), (.ref a1)])) rfl rfl (hb hby d3_66)
      refine Runs.via (T' := T10) (g' := (mkF m 69 #[.val (.ref a1), .val (.long y1), .second, .val (.long y3), .second, .val (.long y5), .second, .val (.int x7), .val (.long y8), .second] [(.int q_a1_length), (.ref a1)])) (fun t k => st10 _ k) ?_
      refine Runs.via (T' := T10) (g' := (mkF m 71 #[.val (.ref a1), .val (.long y1), .second, .val (.long y3), .second, .val (.long y5), .second, .val (.int x7), .val (.long y8), .second] [(.int (q_a1_length + (1 : Int32))), (.ref a1)])) (fun t k => ?_) ?_
      · show Steps p.tables e below (T10.setTop (mkF m 69 #[.val (.ref a1), .val (.long y1), .second, .val (.long y3), .second, .val (.long y5), .second, .val (.int x7), .val (.long y8), .second] [(.int q_a1_length), (.ref a1)])) t
        refine XS.iconst X10.here hx rfl (hb hby d3_69) ?_
        show Steps p.tables e below (T10.setTop (mkF m 70 #[.val (.ref a1), .val (.long y1), .second, .val (.long y3), .second, .val (.long y5), .second, .val (.int x7), .val (.long y8), .second] [(.int (1 : Int32)), (.int q_a1_length), (.ref a1)])) t
        refine XS.iadd X10.here hx rfl (hb hby d3_70) rfl ?_
        exact k
      refine bindE hr ?_; intro r11 hr11m hr
      obtain ⟨cq11, q11, q11'⟩ := E_a1_0.cell
      obtain ⟨_, _, ⟨T11, L11, k11, n11⟩, -, X11, ⟨Lc11, hQ11, l11, y11, z11⟩, st11⟩ := X10.privateBack hx (y := (⟨"com/example/notewright/notewright/Natural", "grow", "(I)V"⟩ : MethodName)) hown (mvT hZ (hw _ (List.mem_of_getElem? (i := 22) rfl))) (mvT hZ (hw _ (List.mem_of_getElem? (i := 23) rfl))) (own_privSel (mvT hZ (hw _ (List.mem_of_getElem? (i := 4) rfl))) (mvP hZ (hw _ (List.mem_of_getElem? (i := 24) rfl))) (mvT hZ (hw _ (List.mem_of_getElem? (i := 23) rfl))) (by decide)) (Cond.privateMethod_at (mvP hZ (hw _ (List.mem_of_getElem? (i := 24) rfl)) (args := #[]))) (mvT hZ (hw _ (List.mem_of_getElem? (i := 25) rfl))) (by decide) (backOf (W := 0) (rm4 l Z a0 hw [] (q_a1_length + (1 : Int32)) a1 a2 q_a1_length q_a2 h0 n0 Z1 (by omega) (by omega) E_a1_0 F_a1_words_0 F_a1_length_0 A_a2_0 r11 hr11m) hZ (hw _ (List.mem_of_getElem? (i := 25) rfl)) (hw _ (List.mem_of_getElem? (i := 5) rfl)) (by decide) (by decide)) (g := (mkF m 71 #[.val (.ref a1), .val (.long y1), .second, .val (.long y3), .second, .val (.long y5), .second, .val (.int x7), .val (.long y8), .second] [(.int (q_a1_length + (1 : Int32))), (.ref a1)])) rfl (by rw [hml]; rfl) (Steps.refl _) (a := a1) (by rw [e10]; exact q11) q11' (argsL := [(.int (q_a1_length + (1 : Int32)))]) (rest := []) (lenOf pd_1 rfl) rfl (by show 2 * 0 + _ ≤ _; exact Nat.le_of_eq rfl) (hb hby d3_71) (fun _ _ => ⟨rfl, e10, (by show cells + 0 ≤ 0; omega), (by show slots + 0 ≤ 0; omega)⟩)
      dsimp only [Pt.U, Pt.locs, Pt.cells, Pt.slots] at X11 l11 y11 z11 st11 hQ11
      replace y11 := y11.symm; replace z11 := z11.symm; subst l11 y11 z11
      obtain ⟨rfl, N11q, e11⟩ := hQ11
      have N11 := Fr.app N0 N11q
      refine Runs.via (T' := T11) (g' := (mkF m 74 #[.val (.ref a1), .val (.long y1), .second, .val (.long y3), .second, .val (.long y5), .second, .val (.int x7), .val (.long y8), .second] [])) (fun t k => st11.trans k) ?_
      refine Runs.via (T' := T11) (g' := (mkF m 75 #[.val (.ref a1), .val (.long y1), .second, .val (.long y3), .second, .val (.long y5), .second, .val (.int x7), .val (.long y8), .second] [(.ref a1)])) (fun t k => ?_) ?_
      · show Steps p.tables e below (T11.setTop (mkF m 74 #[.val (.ref a1), .val (.long y1), .second, .val (.long y3), .second, .val (.long y5), .second, .val (.int x7), .val (.long y8), .second] [])) t
        refine XS.aloadN X11.here hx rfl (hb hby d3_74) rfl rfl ?_
        exact k
      obtain ⟨T12, X12, e12, st12⟩ := getF X11 hx hZ hown (host := "") (Or.inl (hw _ (List.mem_of_getElem? (i := 13) rfl))) Via.refl e11 F_a1_words_0 (g := (mkF m 75 #[.val (.ref a1), .val (.long y1), .second, .val (.long y3), .second, .val (.long y5), .second, .val (.int x7), .val (.long y8), .second] [(.ref a1)])) rfl rfl (hb hby d3_75)
      refine Runs.via (T' := T12) (g' := (mkF m 78 #[.val (.ref a1), .val (.long y1), .second, .val (.long y3), .second, .val (.long y5), .second, .val (.int x7), .val (.long y8), .second] [(.ref a2)])) (fun t k => st12 _ k) ?_
      refine Runs.via (T' := T12) (g' := (mkF m 79 #[.val (.ref a1), .val (.long y1), .second, .val (.long y3), .second, .val (.long y5), .second, .val (.int x7), .val (.long y8), .second] [(.ref a1), (.ref a2)])) (fun t k => ?_) ?_
      · show Steps p.tables e below (T12.setTop (mkF m 78 #[.val (.ref a1), .val (.long y1), .second, .val (.long y3), .second, .val (.long y5), .second, .val (.int x7), .val (.long y8), .second] [(.ref a2)])) t
        refine XS.aloadN X12.here hx rfl (hb hby d3_78) rfl rfl ?_
        exact k
      obtain ⟨T13, X13, e13, st13⟩ := getF X12 hx hZ hown (host := "") (Or.inl (hw _ (List.mem_of_getElem? (i := 20) rfl))) Via.refl e12 F_a1_length_0 (g := (mkF m 79 #[.val (.ref a1), .val (.long y1), .second, .val (.long y3), .second, .val (.long y5), .second, .val (.int x7), .val (.long y8), .second] [(.ref a1), (.ref a2)])) rfl rfl (hb hby d3_79)
      refine Runs.via (T' := T13) (g' := (mkF m 82 #[.val (.ref a1), .val (.long y1), .second, .val (.long y3), .second, .val (.long y5), .second, .val (.int x7), .val (.long y8), .second] [(.int q_a1_length), (.ref a2)])) (fun t k => st13 _ k) ?_
      refine Runs.via (T' := T13) (g' := (mkF m 85 #[.val (.ref a1), .val (.long y1), .second, .val (.long y3), .second, .val (.long y5), .second, .val (.int x7), .val (.long y8), .second] [(.int (Int64.toInt32 y5)), (.int q_a1_length), (.ref a2)])) (fun t k => ?_) ?_
      · show Steps p.tables e below (T13.setTop (mkF m 82 #[.val (.ref a1), .val (.long y1), .second, .val (.long y3), .second, .val (.long y5), .second, .val (.int x7), .val (.long y8), .second] [(.int q_a1_length), (.ref a2)])) t
        refine XS.lload X13.here hx rfl (hb hby d3_82) rfl ?_
        show Steps p.tables e below (T13.setTop (mkF m 84 #[.val (.ref a1), .val (.long y1), .second, .val (.long y3), .second, .val (.long y5), .second, .val (.int x7), .val (.long y8), .second] [(.long y5), (.int q_a1_length), (.ref a2)])) t
        refine XS.l2i X13.here hx rfl (hb hby d3_84) rfl ?_
        exact k
      refine bindE hr ?_; intro v14 hv14 hr
      obtain ⟨T14, h14, X14, e14, W14, A14, st14⟩ := soI X13 hx hZ e13 A_a2_0 hv14 (g := (mkF m 85 #[.val (.ref a1), .val (.long y1), .second, .val (.long y3), .second, .val (.long y5), .second, .val (.int x7), .val (.long y8), .second] [(.int (Int64.toInt32 y5)), (.int q_a1_length), (.ref a2)])) rfl rfl (hb hby d3_85)
      have E_a1_14 : Exa Z h14 a1 "com/example/notewright/notewright/Natural" := E_a1_0.wr W14
      have F_a1_words_14 : Fld Z h14 a1 "com/example/notewright/notewright/Natural" "words" "[I" (.ref a2) := F_a1_words_0.other W14 (Or.inl (by omega : @Ne Nat a1 a2))
      have F_a1_length_14 : Fld Z h14 a1 "com/example/notewright/notewright/Natural" "length" "I" (.int q_a1_length) := F_a1_length_0.other W14 (Or.inl (by omega : @Ne Nat a1 a2))
      have A_a2_14 : AI Z h14 a2 .int v14 := A14
      have N14 := Fr.snoc X14 N11 (by omega : n0 ≤ a2)
      have zz14 : n0 ≤ h14.size := Nat.le_trans Z1 (Keep.of_wr W14).1
      have K14 := KE.wr W14 (Or.inl (List.mem_of_getElem? (i := 1) rfl))
      refine Runs.via (T' := T14) (g' := (mkF m 86 #[.val (.ref a1), .val (.long y1), .second, .val (.long y3), .second, .val (.long y5), .second, .val (.int x7), .val (.long y8), .second] [])) (fun t k => st14 _ k) ?_
      refine Runs.via (T' := T14) (g' := (mkF m 88 #[.val (.ref a1), .val (.long y1), .second, .val (.long y3), .second, .val (.long y5), .second, .val (.int x7), .val (.long y8), .second] [(.ref a1), (.ref a1)])) (fun t k => ?_) ?_
      · show Steps p.tables e below (T14.setTop (mkF m 86 #[.val (.ref a1), .val (.long y1), .second, .val (.long y3), .second, .val (.long y5), .second, .val (.int x7), .val (.long y8), .second] [])) t
        refine XS.aloadN X14.here hx rfl (hb hby d3_86) rfl rfl ?_
        show Steps p.tables e below (T14.setTop (mkF m 87 #[.val (.ref a1), .val (.long y1), .second, .val (.long y3), .second, .val (.long y5), .second, .val (.int x7), .val (.long y8), .second] [(.ref a1)])) t
        refine XS.dup X14.here hx rfl (hb hby d3_87) rfl rfl ?_
        exact k
      obtain ⟨T15, X15, e15, st15⟩ := getF X14 hx hZ hown (host := "") (Or.inl (hw _ (List.mem_of_getElem? (i := 20) rfl))) Via.refl e14 F_a1_length_14 (g := (mkF m 88 #[.val (.ref a1), .val (.long y1), .second, .val (.long y3), .second, .val (.long y5), .second, .val (.int x7), .val (.long y8), .second] [(.ref a1), (.ref a1)])) rfl rfl (hb hby d3_88)
      refine Runs.via (T' := T15) (g' := (mkF m 91 #[.val (.ref a1), .val (.long y1), .second, .val (.long y3), .second, .val (.long y5), .second, .val (.int x7), .val (.long y8), .second] [(.int q_a1_length), (.ref a1)])) (fun t k => st15 _ k) ?_
      refine Runs.via (T' := T15) (g' := (mkF m 93 #[.val (.ref a1), .val (.long y1), .second, .val (.long y3), .second, .val (.long y5), .second, .val (.int x7), .val (.long y8), .second] [(.int (q_a1_length + (1 : Int32))), (.ref a1)])) (fun t k => ?_) ?_
      · show Steps p.tables e below (T15.setTop (mkF m 91 #[.val (.ref a1), .val (.long y1), .second, .val (.long y3), .second, .val (.long y5), .second, .val (.int x7), .val (.long y8), .second] [(.int q_a1_length), (.ref a1)])) t
        refine XS.iconst X15.here hx rfl (hb hby d3_91) ?_
        show Steps p.tables e below (T15.setTop (mkF m 92 #[.val (.ref a1), .val (.long y1), .second, .val (.long y3), .second, .val (.long y5), .second, .val (.int x7), .val (.long y8), .second] [(.int (1 : Int32)), (.int q_a1_length), (.ref a1)])) t
        refine XS.iadd X15.here hx rfl (hb hby d3_92) rfl ?_
        exact k
      refine letE hr ?_; intro v16 hv16 hr
      rw [← hv16]
      obtain ⟨T17, h17, X17, e17, W17, st17⟩ := putF X15 hx hZ hown (host := "") (Or.inl (hw _ (List.mem_of_getElem? (i := 20) rfl))) Via.refl e15 F_a1_length_14 E_a1_14 (Or.inl (hw _ (List.mem_of_getElem? (i := 21) rfl))) (hw _ (List.mem_of_getElem? (i := 4) rfl)) (ty := .int) (by decide) rfl rfl (g := (mkF m 93 #[.val (.ref a1), .val (.long y1), .second, .val (.long y3), .second, .val (.long y5), .second, .val (.int x7), .val (.long y8), .second] [(.int v16), (.ref a1)])) rfl rfl (hb hby d3_93)
      have E_a1_17 : Exa Z h17 a1 "com/example/notewright/notewright/Natural" := E_a1_14.wr W17
      have F_a1_words_17 : Fld Z h17 a1 "com/example/notewright/notewright/Natural" "words" "[I" (.ref a2) := F_a1_words_14.other W17 (Or.inr (slot_ne (Or.inl (hw _ (List.mem_of_getElem? (i := 14) rfl))) (Or.inl (hw _ (List.mem_of_getElem? (i := 21) rfl))) (by decide) (t := (.array .int)) (t' := .int) (by decide) (by decide)))
      have F_a1_length_17 : Fld Z h17 a1 "com/example/notewright/notewright/Natural" "length" "I" (.int v16) := F_a1_length_14.same W17
      have A_a2_17 : AI Z h17 a2 .int v14 := A_a2_14.other W17 (by omega : @Ne Nat a2 a1)
      have N17 := Fr.snoc X17 N14 (by omega : n0 ≤ a1)
      have zz17 : n0 ≤ h17.size := Nat.le_trans zz14 (Keep.of_wr W17).1
      have K17 := K14.wr W17 (Or.inl (List.mem_of_getElem? (i := 0) rfl))
      refine Runs.via (T' := T17) (g' := (mkF m 96 #[.val (.ref a1), .val (.long y1), .second, .val (.long y3), .second, .val (.long y5), .second, .val (.int x7), .val (.long y8), .second] [])) (fun t k => st17 _ k) ?_
      obtain rfl := Option.some.inj hr
      exact own_retV X17 hx hlk hret (hb hby d3_96) (by show (cells + 0) ≤ 0; omega) (by show (slots + 0) ≤ 0; omega) ⟨rfl, N17, (by rw [e17]; exact K17), (by rw [e17]; exact E_a1_17), (by rw [e17]; exact F_a1_words_17), (by rw [e17]; exact F_a1_length_17), (by rw [e17]; exact A_a2_17)⟩
set_option maxRecDepth 65536 in
set_option maxHeartbeats 4000000 in
theorem u3_6w1 {hE : Heap} {a1 : Addr} {a2 : Addr} {q_a1_length₀ : Int32} {q_a2₀ : List Int32} (fuel : Nat) {r : Int32 × List Int32} (C : Ctx p s m meth c Z a0 "com/example/notewright/notewright/Natural" prog_20_method_4_code 10 none "multiplyAdd") : ∀ n : Nat, ∀ {T0 : State} {locs : List Loc} {cells slots : Nat} {h0 : Heap} (X0 : Stand p l e ({ frames := 1, cells := 0, slots := 0, locals := 13 } : Room) s m args below meth c T0 locs cells slots) (e0 : T0.heap = h0) (N0 : Fr n0 locs) (hk : cells ≤ 0) (hn : slots ≤ 0) (Z1 : n0 ≤ h0.size) (KE : Keep hE h0 [a1, a2]) (o0 : n0 ≤ a1) (o1 : @LT.lt Nat instLTNat a1 a2) (q_a1_length : Int32) (q_a2 : List Int32) (y1 : Int64) (y3 : Int64) (y5 : Int64) (x7 : Int32) (y8 : Int64) (E_a1_0 : Exa Z h0 a1 "com/example/notewright/notewright/Natural") (F_a1_words_0 : Fld Z h0 a1 "com/example/notewright/notewright/Natural" "words" "[I" (.ref a2)) (F_a1_length_0 : Fld Z h0 a1 "com/example/notewright/notewright/Natural" "length" "I" (.int q_a1_length)) (A_a2_0 : AI Z h0 a2 .int q_a2), h3_6 fuel n y1 y5 x7 q_a1_length q_a2 = some r → Runs p e below s (P3 Z hE a1 a2 q_a1_length₀ q_a2₀ n0 r) 0 0 T0 (mkF m 6 #[.val (.ref a1), .val (.long y1), .second, .val (.long y3), .second, .val (.long y5), .second, .val (.int x7), .val (.long y8), .second] []) := by
  intro n
  induction n with
  | zero => intros; rename_i hr; exact absurd hr (by simp [h3_6])
  | succ n ih =>
    intro T0 locs cells slots h0 X0 e0 N0 hk hn Z1 KE o0 o1 q_a1_length q_a2 y1 y3 y5 x7 y8 E_a1_0 F_a1_words_0 F_a1_length_0 A_a2_0 hr
    exact t3_6w1 fuel C _ ih X0 e0 N0 hk hn Z1 KE o0 o1 q_a1_length q_a2 y1 y3 y5 x7 y8 E_a1_0 F_a1_words_0 F_a1_length_0 A_a2_0 hr
set_option maxRecDepth 65536 in
set_option maxHeartbeats 4000000 in
theorem b3_6w1 {hE : Heap} {a1 : Addr} {a2 : Addr} {q_a1_length₀ : Int32} {q_a2₀ : List Int32} {r : Int32 × List Int32} (C : Ctx p s m meth c Z a0 "com/example/notewright/notewright/Natural" prog_20_method_4_code 10 none "multiplyAdd") (fuel : Nat) (X0 : Stand p l e ({ frames := 1, cells := 0, slots := 0, locals := 13 } : Room) s m args below meth c T0 locs cells slots) (e0 : T0.heap = h0) (N0 : Fr n0 locs) (hk : cells ≤ 0) (hn : slots ≤ 0) (Z1 : n0 ≤ h0.size) (KE : Keep hE h0 [a1, a2]) (o0 : n0 ≤ a1) (o1 : @LT.lt Nat instLTNat a1 a2) (q_a1_length : Int32) (q_a2 : List Int32) (y1 : Int64) (y3 : Int64) (y5 : Int64) (x7 : Int32) (y8 : Int64) (E_a1_0 : Exa Z h0 a1 "com/example/notewright/notewright/Natural") (F_a1_words_0 : Fld Z h0 a1 "com/example/notewright/notewright/Natural" "words" "[I" (.ref a2)) (F_a1_length_0 : Fld Z h0 a1 "com/example/notewright/notewright/Natural" "length" "I" (.int q_a1_length)) (A_a2_0 : AI Z h0 a2 .int q_a2) (hr : g3_6 fuel y1 y5 x7 q_a1_length q_a2 = some r) :
    Runs p e below s (P3 Z hE a1 a2 q_a1_length₀ q_a2₀ n0 r) 0 0 T0 (mkF m 6 #[.val (.ref a1), .val (.long y1), .second, .val (.long y3), .second, .val (.long y5), .second, .val (.int x7), .val (.long y8), .second] []) := u3_6w1 fuel C fuel X0 e0 N0 hk hn Z1 KE o0 o1 q_a1_length q_a2 y1 y3 y5 x7 y8 E_a1_0 F_a1_words_0 F_a1_length_0 A_a2_0 hr
set_option maxRecDepth 65536 in
set_option maxHeartbeats 4000000 in
theorem t3_6 {hE : Heap} {a1 : Addr} {a2 : Addr} {q_a1_length₀ : Int32} {q_a2₀ : List Int32} (fuel : Nat) {r : Int32 × List Int32} (C : Ctx p s m meth c Z a0 "com/example/notewright/notewright/Natural" prog_20_method_4_code 10 none "multiplyAdd") (K6 : Int64 → Int64 → Int32 → Int32 → List Int32 → Option (Int32 × List Int32)) (hK6 : ∀ {T0 : State} {locs : List Loc} {cells slots : Nat} {h0 : Heap} (X0 : Stand p l e ({ frames := 1, cells := 0, slots := 0, locals := 13 } : Room) s m args below meth c T0 locs cells slots) (e0 : T0.heap = h0) (N0 : Fr n0 locs) (hk : cells ≤ 0) (hn : slots ≤ 0) (Z1 : n0 ≤ h0.size) (KE : Keep hE h0 [a1, a2]) (o0 : n0 ≤ a1) (o1 : @LT.lt Nat instLTNat a1 a2) (q_a1_length : Int32) (q_a2 : List Int32) (y1 : Int64) (y3 : Int64) (y5 : Int64) (x7 : Int32) (y8 : Int64) (E_a1_0 : Exa Z h0 a1 "com/example/notewright/notewright/Natural") (F_a1_words_0 : Fld Z h0 a1 "com/example/notewright/notewright/Natural" "words" "[I" (.ref a2)) (F_a1_length_0 : Fld Z h0 a1 "com/example/notewright/notewright/Natural" "length" "I" (.int q_a1_length)) (A_a2_0 : AI Z h0 a2 .int q_a2), K6 y1 y5 x7 q_a1_length q_a2 = some r → Runs p e below s (P3 Z hE a1 a2 q_a1_length₀ q_a2₀ n0 r) 0 0 T0 (mkF m 6 #[.val (.ref a1), .val (.long y1), .second, .val (.long y3), .second, .val (.long y5), .second, .val (.int x7), .val (.long y8), .second] [])) (X0 : Stand p l e ({ frames := 1, cells := 0, slots := 0, locals := 13 } : Room) s m args below meth c T0 locs cells slots) (e0 : T0.heap = h0) (N0 : Fr n0 locs) (hk : cells ≤ 0) (hn : slots ≤ 0) (Z1 : n0 ≤ h0.size) (KE : Keep hE h0 [a1, a2]) (o0 : n0 ≤ a1) (o1 : @LT.lt Nat instLTNat a1 a2) (q_a1_length : Int32) (q_a2 : List Int32) (y1 : Int64) (y3 : Int64) (y5 : Int64) (x7 : Int32) (E_a1_0 : Exa Z h0 a1 "com/example/notewright/notewright/Natural") (F_a1_words_0 : Fld Z h0 a1 "com/example/notewright/notewright/Natural" "words" "[I" (.ref a2)) (F_a1_length_0 : Fld Z h0 a1 "com/example/notewright/notewright/Natural" "length" "I" (.int q_a1_length)) (A_a2_0 : AI Z h0 a2 .int q_a2) (hr : s3_6 K6 fuel y1 y5 x7 q_a1_length q_a2 = some r) :
    Runs p e below s (P3 Z hE a1 a2 q_a1_length₀ q_a2₀ n0 r) 0 0 T0 (mkF m 6 #[.val (.ref a1), .val (.long y1), .second, .val (.long y3), .second, .val (.long y5), .second, .val (.int x7), .unset, .unset] []) := by
  unfold s3_6 at hr
  have ⟨hx, hZ, hw, hby, hml, hown, hret, hlk, hnm⟩ := C
  refine Runs.via (T' := T0) (g' := (mkF m 9 #[.val (.ref a1), .val (.long y1), .second, .val (.long y3), .second, .val (.long y5), .second, .val (.int x7), .unset, .unset] [(.ref a1), (.int x7)])) (fun t k => ?_) ?_
  · show Steps p.tables e below (T0.setTop (mkF m 6 #[.val (.ref a1), .val (.long y1), .second, .val (.long y3), .second, .val (.long y5), .second, .val (.int x7), .unset, .unset] [])) t
    refine XS.iload X0.here hx rfl (hb hby d3_6) rfl ?_
    show Steps p.tables e below (T0.setTop (mkF m 8 #[.val (.ref a1), .val (.long y1), .second, .val (.long y3), .second, .val (.long y5), .second, .val (.int x7), .unset, .unset] [(.int x7)])) t
    refine XS.aloadN X0.here hx rfl (hb hby d3_8) rfl rfl ?_
    exact k
  obtain ⟨T1, X1, e1, st1⟩ := getF X0 hx hZ hown (host := "") (Or.inl (hw _ (List.mem_of_getElem? (i := 20) rfl))) Via.refl e0 F_a1_length_0 (g := (mkF m 9 #[.val (.ref a1), .val (.long y1), .second, .val (.long y3), .second, .val (.long y5), .second, .val (.int x7), .unset, .unset] [(.ref a1), (.int x7)])) rfl rfl (hb hby d3_9)
  refine Runs.via (T' := T1) (g' := (mkF m 12 #[.val (.ref a1), .val (.long y1), .second, .val (.long y3), .second, .val (.long y5), .second, .val (.int x7), .unset, .unset] [(.int q_a1_length), (.int x7)])) (fun t k => st1 _ k) ?_
  refine iteE hr (fun hc2 hr => ?_) (fun hc2 hr => ?_)
  · refine Runs.via (T' := T1) (g' := (mkF m 15 #[.val (.ref a1), .val (.long y1), .second, .val (.long y3), .second, .val (.long y5), .second, .val (.int x7), .unset, .unset] [])) (fun t k => ?_) ?_
    · show Steps p.tables e below (T1.setTop (mkF m 12 #[.val (.ref a1), .val (.long y1), .second, .val (.long y3), .second, .val (.long y5), .second, .val (.int x7), .unset, .unset] [(.int q_a1_length), (.int x7)])) t
      exact XS.icmpNo X1.here hx rfl (hb hby d3_12) rfl (tlt hc2).2.1 k
    refine Runs.via (T' := T1) (g' := (mkF m 16 #[.val (.ref a1), .val (.long y1), .second, .val (.long y3), .second, .val (.long y5), .second, .val (.int x7), .unset, .unset] [(.ref a1)])) (fun t k => ?_) ?_
    · show Steps p.tables e below (T1.setTop (mkF m 15 #[.val (.ref a1), .val (.long y1), .second, .val (.long y3), .second, .val (.long y5), .second, .val (.int x7), .unset, .unset] [])) t
      refine XS.aloadN X1.here hx rfl (hb hby d3_15) rfl rfl ?_
      exact k
    obtain ⟨T3, X3, e3, st3⟩ := getF X1 hx hZ hown (host := "") (Or.inl (hw _ (List.mem_of_getElem? (i := 13) rfl))) Via.refl e1 F_a1_words_0 (g := (mkF m 16 #[.val (.ref a1), .val (.long y1), .second, .val (.long y3), .second, .val (.long y5), .second, .val (.int x7), .unset, .unset] [(.ref a1)])) rfl rfl (hb hby d3_16)
    refine Runs.via (T' := T3) (g' := (mkF m 19 #[.val (.ref a1), .val (.long y1), .second, .val (.long y3), .second, .val (.long y5), .second, .val (.int x7), .unset, .unset] [(.ref a2)])) (fun t k => st3 _ k) ?_
    refine Runs.via (T' := T3) (g' := (mkF m 21 #[.val (.ref a1), .val (.long y1), .second, .val (.long y3), .second, .val (.long y5), .second, .val (.int x7), .unset, .unset] [(.int x7), (.ref a2)])) (fun t k => ?_) ?_
    · show Steps p.tables e below (T3.setTop (mkF m 19 #[.val (.ref a1), .val (.long y1), .second, .val (.long y3), .second, .val (.long y5), .second, .val (.int x7), .unset, .unset] [(.ref a2)])) t
      refine XS.iload X3.here hx rfl (hb hby d3_19) rfl ?_
      exact k
    refine bindE hr ?_; intro v4 hv4 hr
    refine Runs.via (T' := T3) (g' := (mkF m 22 #[.val (.ref a1), .val (.long y1), .second, .val (.long y3), .second, .val (.long y5), .second, .val (.int x7), .unset, .unset] [(.int v4)])) (fun t k => ldI X3 hx hZ e3 A_a2_0 hv4 (g := (mkF m 21 #[.val (.ref a1), .val (.long y1), .second, .val (.long y3), .second, .val (.long y5), .second, .val (.int x7), .unset, .unset] [(.int x7), (.ref a2)])) rfl rfl (hb hby d3_21) _ k) ?_
    refine Runs.via (T' := T3) (g' := (mkF m 32 #[.val (.ref a1), .val (.long y1), .second, .val (.long y3), .second, .val (.long y5), .second, .val (.int x7), .unset, .unset] [(.long ((((Int32.toInt64 v4) &&& (4294967295 : Int64)) * y1) + y5))])) (fun t k => ?_) ?_
    · show Steps p.tables e below (T3.setTop (mkF m 22 #[.val (.ref a1), .val (.long y1), .second, .val (.long y3), .second, .val (.long y5), .second, .val (.int x7), .unset, .unset] [(.int v4)])) t
      refine XS.i2l X3.here hx rfl (hb hby d3_22) rfl ?_
      show Steps p.tables e below (T3.setTop (mkF m 23 #[.val (.ref a1), .val (.long y1), .second, .val (.long y3), .second, .val (.long y5), .second, .val (.int x7), .unset, .unset] [(.long (Int32.toInt64 v4))])) t
      refine X3.ldc2Long hx hown (mvT hZ (hw _ (List.mem_of_getElem? (i := 26) rfl))) (g := (mkF m 23 #[.val (.ref a1), .val (.long y1), .second, .val (.long y3), .second, .val (.long y5), .second, .val (.int x7), .unset, .unset] [(.long (Int32.toInt64 v4))])) rfl (hb hby d3_23) _ ?_
      show Steps p.tables e below (T3.setTop (mkF m 26 #[.val (.ref a1), .val (.long y1), .second, .val (.long y3), .second, .val (.long y5), .second, .val (.int x7), .unset, .unset] [(.long (4294967295 : Int64)), (.long (Int32.toInt64 v4))])) t
      refine XS.land X3.here hx rfl (hb hby d3_26) rfl ?_
      show Steps p.tables e below (T3.setTop (mkF m 27 #[.val (.ref a1), .val (.long y1), .second, .val (.long y3), .second, .val (.long y5), .second, .val (.int x7), .unset, .unset] [(.long ((Int32.toInt64 v4) &&& (4294967295 : Int64)))])) t
      refine XS.lloadN X3.here hx rfl (hb hby d3_27) rfl ?_
      show Steps p.tables e below (T3.setTop (mkF m 28 #[.val (.ref a1), .val (.long y1), .second, .val (.long y3), .second, .val (.long y5), .second, .val (.int x7), .unset, .unset] [(.long y1), (.long ((Int32.toInt64 v4) &&& (4294967295 : Int64)))])) t
      refine XS.lmul X3.here hx rfl (hb hby d3_28) rfl ?_
      show Steps p.tables e below (T3.setTop (mkF m 29 #[.val (.ref a1), .val (.long y1), .second, .val (.long y3), .second, .val (.long y5), .second, .val (.int x7), .unset, .unset] [(.long (((Int32.toInt64 v4) &&& (4294967295 : Int64)) * y1))])) t
      refine XS.lload X3.here hx rfl (hb hby d3_29) rfl ?_
      show Steps p.tables e below (T3.setTop (mkF m 31 #[.val (.ref a1), .val (.long y1), .second, .val (.long y3), .second, .val (.long y5), .second, .val (.int x7), .unset, .unset] [(.long y5), (.long (((Int32.toInt64 v4) &&& (4294967295 : Int64)) * y1))])) t
      refine XS.ladd X3.here hx rfl (hb hby d3_31) rfl ?_
      exact k
    refine letE hr ?_; intro v5 hv5 hr
    rw [← hv5]
    refine Runs.via (T' := T3) (g' := (mkF m 35 #[.val (.ref a1), .val (.long y1), .second, .val (.long y3), .second, .val (.long y5), .second, .val (.int x7), .val (.long v5), .second] [(.ref a1)])) (fun t k => ?_) ?_
    · show Steps p.tables e below (T3.setTop (mkF m 32 #[.val (.ref a1), .val (.long y1), .second, .val (.long y3), .second, .val (.long y5), .second, .val (.int x7), .unset, .unset] [(.long v5)])) t
      refine XS.lstore X3.here hx rfl (hb hby d3_32) rfl (l' := #[.val (.ref a1), .val (.long y1), .second, .val (.long y3), .second, .val (.long y5), .second, .val (.int x7), .val (.long v5), .second]) rfl ?_
      show Steps p.tables e below (T3.setTop (mkF m 34 #[.val (.ref a1), .val (.long y1), .second, .val (.long y3), .second, .val (.long y5), .second, .val (.int x7), .val (.long v5), .second] [])) t
      refine XS.aloadN X3.here hx rfl (hb hby d3_34) rfl rfl ?_
      exact k
    obtain ⟨T6, X6, e6, st6⟩ := getF X3 hx hZ hown (host := "") (Or.inl (hw _ (List.mem_of_getElem? (i := 13) rfl))) Via.refl e3 F_a1_words_0 (g := (mkF m 35 #[.val (.ref a1), .val (.long y1), .second, .val (.long y3), .second, .val (.long y5), .second, .val (.int x7), .val (.long v5), .second] [(.ref a1)])) rfl rfl (hb hby d3_35)
    refine Runs.via (T' := T6) (g' := (mkF m 38 #[.val (.ref a1), .val (.long y1), .second, .val (.long y3), .second, .val (.long y5), .second, .val (.int x7), .val (.long v5), .second] [(.ref a2)])) (fun t k => st6 _ k) ?_
    refine Runs.via (T' := T6) (g' := (mkF m 43 #[.val (.ref a1), .val (.long y1), .second, .val (.long y3), .second, .val (.long y5), .second, .val (.int x7), .val (.long v5), .second] [(.int (Int64.toInt32 v5)), (.int x7), (.ref a2)])) (fun t k => ?_) ?_
    · show Steps p.tables e below (T6.setTop (mkF m 38 #[.val (.ref a1), .val (.long y1), .second, .val (.long y3), .second, .val (.long y5), .second, .val (.int x7), .val (.long v5), .second] [(.ref a2)])) t
      refine XS.iload X6.here hx rfl (hb hby d3_38) rfl ?_
      show Steps p.tables e below (T6.setTop (mkF m 40 #[.val (.ref a1), .val (.long y1), .second, .val (.long y3), .second, .val (.long y5), .second, .val (.int x7), .val (.long v5), .second] [(.int x7), (.ref a2)])) t
      refine XS.lload X6.here hx rfl (hb hby d3_40) rfl ?_
      show Steps p.tables e below (T6.setTop (mkF m 42 #[.val (.ref a1), .val (.long y1), .second, .val (.long y3), .second, .val (.long y5), .second, .val (.int x7), .val (.long v5), .second] [(.long v5), (.int x7), (.ref a2)])) t
      refine XS.l2i X6.here hx rfl (hb hby d3_42) rfl ?_
      exact k
    refine bindE hr ?_; intro v7 hv7 hr
    obtain ⟨T7, h7, X7, e7, W7, A7, st7⟩ := soI X6 hx hZ e6 A_a2_0 hv7 (g := (mkF m 43 #[.val (.ref a1), .val (.long y1), .second, .val (.long y3), .second, .val (.long y5), .second, .val (.int x7), .val (.long v5), .second] [(.int (Int64.toInt32 v5)), (.int x7), (.ref a2)])) rfl rfl (hb hby d3_43)
    have E_a1_7 : Exa Z h7 a1 "com/example/notewright/notewright/Natural" := E_a1_0.wr W7
    have F_a1_words_7 : Fld Z h7 a1 "com/example/notewright/notewright/Natural" "words" "[I" (.ref a2) := F_a1_words_0.other W7 (Or.inl (by omega : @Ne Nat a1 a2))
    have F_a1_length_7 : Fld Z h7 a1 "com/example/notewright/notewright/Natural" "length" "I" (.int q_a1_length) := F_a1_length_0.other W7 (Or.inl (by omega : @Ne Nat a1 a2))
    have A_a2_7 : AI Z h7 a2 .int v7 := A7
    have N7 := Fr.snoc X7 N0 (by omega : n0 ≤ a2)
    have zz7 : n0 ≤ h7.size := Nat.le_trans Z1 (Keep.of_wr W7).1
    have K7 := KE.wr W7 (Or.inl (List.mem_of_getElem? (i := 1) rfl))
    refine Runs.via (T' := T7) (g' := (mkF m 44 #[.val (.ref a1), .val (.long y1), .second, .val (.long y3), .second, .val (.long y5), .second, .val (.int x7), .val (.long v5), .second] [])) (fun t k => st7 _ k) ?_
    refine Runs.via (T' := T7) (g' := (mkF m 49 #[.val (.ref a1), .val (.long y1), .second, .val (.long y3), .second, .val (.long y5), .second, .val (.int x7), .val (.long v5), .second] [(.long ((v5.toUInt64 >>> ((32 : Int32) &&& 0x3f).toInt64.toUInt64).toInt64))])) (fun t k => ?_) ?_
    · show Steps p.tables e below (T7.setTop (mkF m 44 #[.val (.ref a1), .val (.long y1), .second, .val (.long y3), .second, .val (.long y5), .second, .val (.int x7), .val (.long v5), .second] [])) t
      refine XS.lload X7.here hx rfl (hb hby d3_44) rfl ?_
      show Steps p.tables e below (T7.setTop (mkF m 46 #[.val (.ref a1), .val (.long y1), .second, .val (.long y3), .second, .val (.long y5), .second, .val (.int x7), .val (.long v5), .second] [(.long v5)])) t
      refine XS.bipush X7.here hx rfl (hb hby d3_46) ?_
      show Steps p.tables e below (T7.setTop (mkF m 48 #[.val (.ref a1), .val (.long y1), .second, .val (.long y3), .second, .val (.long y5), .second, .val (.int x7), .val (.long v5), .second] [(.int (32 : Int32)), (.long v5)])) t
      refine XS.lushr X7.here hx rfl (hb hby d3_48) rfl ?_
      exact k
    refine letE hr ?_; intro v8 hv8 hr
    rw [← hv8]
    refine Runs.via (T' := T7) (g' := (mkF m 6 #[.val (.ref a1), .val (.long y1), .second, .val (.long y3), .second, .val (.long v8), .second, .val (.int (x7 + (1 : Int32))), .val (.long v5), .second] [])) (fun t k => ?_) ?_
    · show Steps p.tables e below (T7.setTop (mkF m 49 #[.val (.ref a1), .val (.long y1), .second, .val (.long y3), .second, .val (.long y5), .second, .val (.int x7), .val (.long v5), .second] [(.long v8)])) t
      refine XS.lstore X7.here hx rfl (hb hby d3_49) rfl (l' := #[.val (.ref a1), .val (.long y1), .second, .val (.long y3), .second, .val (.long v8), .second, .val (.int x7), .val (.long v5), .second]) rfl ?_
      show Steps p.tables e below (T7.setTop (mkF m 51 #[.val (.ref a1), .val (.long y1), .second, .val (.long y3), .second, .val (.long v8), .second, .val (.int x7), .val (.long v5), .second] [])) t
      refine XS.iinc X7.here hx rfl (hb hby d3_51) rfl (l' := #[.val (.ref a1), .val (.long y1), .second, .val (.long y3), .second, .val (.long v8), .second, .val (.int (x7 + (1 : Int32))), .val (.long v5), .second]) rfl ?_
      show Steps p.tables e below (T7.setTop (mkF m 54 #[.val (.ref a1), .val (.long y1), .second, .val (.long y3), .second, .val (.long v8), .second, .val (.int (x7 + (1 : Int32))), .val (.long v5), .second] [])) t
      refine XS.goto X7.here hx rfl (pc0 := 54) (pc' := 6) rfl (hb hby d3_54) (by decide) (by decide) ?_
      exact k
    exact hK6 X7 e7 N7 (by show cells ≤ 0; omega) (by show slots ≤ 0; omega) zz7 K7 (by omega) (by omega) q_a1_length v7 y1 y3 v8 (x7 + (1 : Int32)) v5 E_a1_7 F_a1_words_7 F_a1_length_7 A_a2_7 hr
  · refine Runs.via (T' := T1) (g' := (mkF m 57 #[.val (.ref a1), .val (.long y1), .second, .val (.long y3), .second, .val (.long y5), .second, .val (.int x7), .unset, .unset] [])) (fun t k => ?_) ?_
    · show Steps p.tables e below (T1.setTop (mkF m 12 #[.val (.ref a1), .val (.long y1), .second, .val (.long y3), .second, .val (.long y5), .second, .val (.int x7), .unset, .unset] [(.int q_a1_length), (.int x7)])) t
      exact XS.icmpYes X1.here hx rfl (pc0 := 12) (pc' := 57) rfl (hb hby d3_12) rfl (flt hc2).2.1 (by decide) (by decide) k
    refine Runs.via (T' := T1) (g' := (mkF m 61 #[.val (.ref a1), .val (.long y1), .second, .val (.long y3), .second, .val (.long y5), .second, .val (.int x7), .unset, .unset] [(.int (lcmpW y5 (0 : Int64)))])) (fun t k => ?_) ?_
    · show Steps p.tables e below (T1.setTop (mkF m 57 #[.val (.ref a1), .val (.long y1), .second, .val (.long y3), .second, .val (.long y5), .second, .val (.int x7), .unset, .unset] [])) t
      refine XS.lload X1.here hx rfl (hb hby d3_57) rfl ?_
      show Steps p.tables e below (T1.setTop (mkF m 59 #[.val (.ref a1), .val (.long y1), .second, .val (.long y3), .second, .val (.long y5), .second, .val (.int x7), .unset, .unset] [(.long y5)])) t
      refine XS.lconst X1.here hx rfl (hb hby d3_59) ?_
      show Steps p.tables e below (T1.setTop (mkF m 60 #[.val (.ref a1), .val (.long y1), .second, .val (.long y3), .second, .val (.long y5), .second, .val (.int x7), .unset, .unset] [(.long (0 : Int64)), (.long y5)])) t
      refine XS.lcmp X1.here hx rfl (hb hby d3_60) rfl ?_
      exact k
    refine iteE hr (fun hc9 hr => ?_) (fun hc9 hr => ?_)
    · refine Runs.via (T' := T1) (g' := (mkF m 96 #[.val (.ref a1), .val (.long y1), .second, .val (.long y3), .second, .val (.long y5), .second, .val (.int x7), .unset, .unset] [])) (fun t k => ?_) ?_
      · show Steps p.tables e below (T1.setTop (mkF m 61 #[.val (.ref a1), .val (.long y1), .second, .val (.long y3), .second, .val (.long y5), .second, .val (.int x7), .unset, .unset] [(.int (lcmpW y5 (0 : Int64)))])) t
        exact XS.ifYes X1.here hx rfl (pc0 := 61) (pc' := 96) rfl (hb hby d3_61) rfl ((if0 _ _).trans (teq ((lw_eq _ _).mpr hc9)).1) (by decide) (by decide) k
      obtain rfl := Option.some.inj hr
      exact own_retV X1 hx hlk hret (hb hby d3_96) (by show cells ≤ 0; omega) (by show slots ≤ 0; omega) ⟨rfl, N0, (by rw [e1]; exact KE), (by rw [e1]; exact E_a1_0), (by rw [e1]; exact F_a1_words_0), (by rw [e1]; exact F_a1_length_0), (by rw [e1]; exact A_a2_0)⟩
    · refine Runs.via (T' := T1) (g' := (mkF m 64 #[.val (.ref a1), .val (.long y1), .second, .val (.long y3), .second, .val (.long y5), .second, .val (.int x7), .unset, .unset] [])) (fun t k => ?_) ?_
      · show Steps p.tables e below (T1.setTop (mkF m 61 #[.val (.ref a1), .val (.long y1), .second, .val (.long y3), .second, .val (.long y5), .second, .val (.int x7), .unset, .unset] [(.int (lcmpW y5 (0 : Int64)))])) t
        exact XS.ifNo X1.here hx rfl (hb hby d3_61) rfl ((if0 _ _).trans (feq (fun q => hc9 ((lw_eq _ _).mp q))).1) k
      refine Runs.via (T' := T1) (g' := (mkF m 66 #[.val (.ref a1), .val (.long y1), .second, .val (.long y3), .second, .val (.long y5), .second, .val (.int x7), .unset, .unset] [(.ref a1), (.ref a1)])) (fun t k => ?_) ?_
      · show Steps p.tables e below (T1.setTop (mkF m 64 #[.val (.ref a1), .val (.long y1), .second, .val (.long y3), .second, .val (.long y5), .second, .val (.int x7), .unset, .unset] [])) t
        refine XS.aloadN X1.here hx rfl (hb hby d3_64) rfl rfl ?_
        show Steps p.tables e below (T1.setTop (mkF m 65 #[.val (.ref a1), .val (.long y1), .second, .val (.long y3), .second, .val (.long y5), .second, .val (.int x7), .unset, .unset] [(.ref a1)])) t
        refine XS.aloadN X1.here hx rfl (hb hby d3_65) rfl rfl ?_
        exact k
      obtain ⟨T10, X10, e10, st10⟩ := getF X1 hx hZ hown (host := "") (Or.inl (hw _ (List.mem_of_getElem? (i := 20) rfl))) Via.refl e1 F_a1_length_0 (g := (mkF m 66 #[.val (.ref a1), .val (.long y1), .second, .val (.long y3), .second, .val (.long y5), .second, .val (.int x7), .unset, .unset] [(.ref a1), (.ref a1)])) rfl rfl (hb hby d3_66)
      refine Runs.via (T' := T10) (g' := (mkF m 69 #[.val (.ref a1), .val (.long y1), .second, .val (.long y3), .second, .val (.long y5), .second, .val (.int x7), .unset, .unset] [(.int q_a1_length), (.ref a1)])) (fun t k => st10 _ k) ?_
      refine Runs.via (T' := T10) (g' := (mkF m 71 #[.val (.ref a1), .val (.long y1), .second, .val (.long y3), .second, .val (.long y5), .second, .val (.int x7), .unset, .unset] [(.int (q_a1_length + (1 : Int32))), (.ref a1)])) (fun t k => ?_) ?_
      · show Steps p.tables e below (T10.setTop (mkF m 69 #[.val (.ref a1), .val (.long y1), .second, .val (.long y3), .second, .val (.long y5), .second, .val (.int x7), .unset, .unset] [(.int q_a1_length), (.ref a1)])) t
        refine XS.iconst X10.here hx rfl (hb hby d3_69) ?_
        show Steps p.tables e below (T10.setTop (mkF m 70 #[.val (.ref a1), .val (.long y1), .second, .val (.long y3), .second, .val (.long y5), .second, .val (.int x7), .unset, .unset] [(.int (1 : Int32)), (.int q_a1_length), (.ref a1)])) t
        refine XS.iadd X10.here hx rfl (hb hby d3_70) rfl ?_
        exact k
      refine bindE hr ?_; intro r11 hr11m hr
      obtain ⟨cq11, q11, q11'⟩ := E_a1_0.cell
      obtain ⟨_, _, ⟨T11, L11, k11, n11⟩, -, X11, ⟨Lc11, hQ11, l11, y11, z11⟩, st11⟩ := X10.privateBack hx (y := (⟨"com/example/notewright/notewright/Natural", "grow", "(I)V"⟩ : MethodName)) hown (mvT hZ (hw _ (List.mem_of_getElem? (i := 22) rfl))) (mvT hZ (hw _ (List.mem_of_getElem? (i := 23) rfl))) (own_privSel (mvT hZ (hw _ (List.mem_of_getElem? (i := 4) rfl))) (mvP hZ (hw _ (List.mem_of_getElem? (i := 24) rfl))) (mvT hZ (hw _ (List.mem_of_getElem? (i := 23) rfl))) (by decide)) (Cond.privateMethod_at (mvP hZ (hw _ (List.mem_of_getElem? (i := 24) rfl)) (args := #[]))) (mvT hZ (hw _ (List.mem_of_getElem? (i := 25) rfl))) (by decide) (backOf (W := 0) (rm4 l Z a0 hw [] (q_a1_length + (1 : Int32)) a1 a2 q_a1_length q_a2 h0 n0 Z1 (by omega) (by omega) E_a1_0 F_a1_words_0 F_a1_length_0 A_a2_0 r11 hr11m) hZ (hw _ (List.mem_of_getElem? (i := 25) rfl)) (hw _ (List.mem_of_getElem? (i := 5) rfl)) (by decide) (by decide)) (g := (mkF m 71 #[.val (.ref a1), .val (.long y1), .second, .val (.long y3), .second, .val (.long y5), .second, .val (.int x7), .unset, .unset] [(.int (q_a1_length + (1 : Int32))), (.ref a1)])) rfl (by rw [hml]; rfl) (Steps.refl _) (a := a1) (by rw [e10]; exact q11) q11' (argsL := [(.int (q_a1_length + (1 : Int32)))]) (rest := []) (lenOf pd_1 rfl) rfl (by show 2 * 0 + _ ≤ _; exact Nat.le_of_eq rfl) (hb hby d3_71) (fun _ _ => ⟨rfl, e10, (by show cells + 0 ≤ 0; omega), (by show slots + 0 ≤ 0; omega)⟩)
      dsimp only [Pt.U, Pt.locs, Pt.cells, Pt.slots] at X11 l11 y11 z11 st11 hQ11
      replace y11 := y11.symm; replace z11 := z11.symm; subst l11 y11 z11
      obtain ⟨rfl, N11q, e11⟩ := hQ11
      have N11 := Fr.app N0 N11q
      refine Runs.via (T' := T11) (g' := (mkF m 74 #[.val (.ref a1), .val (.long y1), .second, .val (.long y3), .second, .val (.long y5), .second, .val (.int x7), .unset, .unset] [])) (fun t k => st11.trans k) ?_
      refine Runs.via (T' := T11) (g' := (mkF m 75 #[.val (.ref a1), .val (.long y1), .second, .val (.long y3), .second, .val (.long y5), .second, .val (.int x7), .unset, .unset] [(.ref a1)])) (fun t k => ?_) ?_
      · show Steps p.tables e below (T11.setTop (mkF m 74 #[.val (.ref a1), .val (.long y1), .second, .val (.long y3), .second, .val (.long y5), .second, .val (.int x7), .unset, .unset] [])) t
        refine XS.aloadN X11.here hx rfl (hb hby d3_74) rfl rfl ?_
        exact k
      obtain ⟨T12, X12, e12, st12⟩ := getF X11 hx hZ hown (host := "") (Or.inl (hw _ (List.mem_of_getElem? (i := 13) rfl))) Via.refl e11 F_a1_words_0 (g := (mkF m 75 #[.val (.ref a1), .val (.long y1), .second, .val (.long y3), .second, .val (.long y5), .second, .val (.int x7), .unset, .unset] [(.ref a1)])) rfl rfl (hb hby d3_75)
      refine Runs.via (T' := T12) (g' := (mkF m 78 #[.val (.ref a1), .val (.long y1), .second, .val (.long y3), .second, .val (.long y5), .second, .val (.int x7), .unset, .unset] [(.ref a2)])) (fun t k => st12 _ k) ?_
      refine Runs.via (T' := T12) (g' := (mkF m 79 #[.val (.ref a1), .val (.long y1), .second, .val (.long y3), .second, .val (.long y5), .second, .val (.int x7), .unset, .unset] [(.ref a1), (.ref a2)])) (fun t k => ?_) ?_
      · show Steps p.tables e below (T12.setTop (mkF m 78 #[.val (.ref a1), .val (.long y1), .second, .val (.long y3), .second, .val (.long y5), .second, .val (.int x7), .unset, .unset] [(.ref a2)])) t
        refine XS.aloadN X12.here hx rfl (hb hby d3_78) rfl rfl ?_
        exact k
      obtain ⟨T13, X13, e13, st13⟩ := getF X12 hx hZ hown (host := "") (Or.inl (hw _ (List.mem_of_getElem? (i := 20) rfl))) Via.refl e12 F_a1_length_0 (g := (mkF m 79 #[.val (.ref a1), .val (.long y1), .second, .val (.long y3), .second, .val (.long y5), .second, .val (.int x7), .unset, .unset] [(.ref a1), (.ref a2)])) rfl rfl (hb hby d3_79)
      refine Runs.via (T' := T13) (g' := (mkF m 82 #[.val (.ref a1), .val (.long y1), .second, .val (.long y3), .second, .val (.long y5), .second, .val (.int x7), .unset, .unset] [(.int q_a1_length), (.ref a2)])) (fun t k => st13 _ k) ?_
      refine Runs.via (T' := T13) (g' := (mkF m 85 #[.val (.ref a1), .val (.long y1), .second, .val (.long y3), .second, .val (.long y5), .second, .val (.int x7), .unset, .unset] [(.int (Int64.toInt32 y5)), (.int q_a1_length), (.ref a2)])) (fun t k => ?_) ?_
      · show Steps p.tables e below (T13.setTop (mkF m 82 #[.val (.ref a1), .val (.long y1), .second, .val (.long y3), .second, .val (.long y5), .second, .val (.int x7), .unset, .unset] [(.int q_a1_length), (.ref a2)])) t
        refine XS.lload X13.here hx rfl (hb hby d3_82) rfl ?_
        show Steps p.tables e below (T13.setTop (mkF m 84 #[.val (.ref a1), .val (.long y1), .second, .val (.long y3), .second, .val (.long y5), .second, .val (.int x7), .unset, .unset] [(.long y5), (.int q_a1_length), (.ref a2)])) t
        refine XS.l2i X13.here hx rfl (hb hby d3_84) rfl ?_
        exact k
      refine bindE hr ?_; intro v14 hv14 hr
      obtain ⟨T14, h14, X14, e14, W14, A14, st14⟩ := soI X13 hx hZ e13 A_a2_0 hv14 (g := (mkF m 85 #[.val (.ref a1), .val (.long y1), .second, .val (.long y3), .second, .val (.long y5), .second, .val (.int x7), .unset, .unset] [(.int (Int64.toInt32 y5)), (.int q_a1_length), (.ref a2)])) rfl rfl (hb hby d3_85)
      have E_a1_14 : Exa Z h14 a1 "com/example/notewright/notewright/Natural" := E_a1_0.wr W14
      have F_a1_words_14 : Fld Z h14 a1 "com/example/notewright/notewright/Natural" "words" "[I" (.ref a2) := F_a1_words_0.other W14 (Or.inl (by omega : @Ne Nat a1 a2))
      have F_a1_length_14 : Fld Z h14 a1 "com/example/notewright/notewright/Natural" "length" "I" (.int q_a1_length) := F_a1_length_0.other W14 (Or.inl (by omega : @Ne Nat a1 a2))
      have A_a2_14 : AI Z h14 a2 .int v14 := A14
      have N14 := Fr.snoc X14 N11 (by omega : n0 ≤ a2)
      have zz14 : n0 ≤ h14.size := Nat.le_trans Z1 (Keep.of_wr W14).1
      have K14 := KE.wr W14 (Or.inl (List.mem_of_getElem? (i := 1) rfl))
      refine Runs.via (T' := T14) (g' := (mkF m 86 #[.val (.ref a1), .val (.long y1), .second, .val (.long y3), .second, .val (.long y5), .second, .val (.int x7), .unset, .unset] [])) (fun t k => st14 _ k) ?_
      refine Runs.via (T' := T14) (g' := (mkF m 88 #[.val (.ref a1), .val (.long y1), .second, .val (.long y3), .second, .val (.long y5), .second, .val (.int x7), .unset, .unset] [(.ref a1), (.ref a1)])) (fun t k => ?_) ?_
      · show Steps p.tables e below (T14.setTop (mkF m 86 #[.val (.ref a1), .val (.long y1), .second, .val (.long y3), .second, .val (.long y5), .second, .val (.int x7), .unset, .unset] [])) t
        refine XS.aloadN X14.here hx rfl (hb hby d3_86) rfl rfl ?_
        show Steps p.tables e below (T14.setTop (mkF m 87 #[.val (.ref a1), .val (.long y1), .second, .val (.long y3), .second, .val (.long y5), .second, .val (.int x7), .unset, .unset] [(.ref a1)])) t
        refine XS.dup X14.here hx rfl (hb hby d3_87) rfl rfl ?_
        exact k
      obtain ⟨T15, X15, e15, st15⟩ := getF X14 hx hZ hown (host := "") (Or.inl (hw _ (List.mem_of_getElem? (i := 20) rfl))) Via.refl e14 F_a1_length_14 (g := (mkF m 88 #[.val (.ref a1), .val (.long y1), .second, .val (.long y3), .second, .val (.long y5), .second, .val (.int x7), .unset, .unset] [(.ref a1), (.ref a1)])) rfl rfl (hb hby d3_88)
      refine Runs.via (T' := T15) (g' := (mkF m 91 #[.val (.ref a1), .val (.long y1), .second, .val (.long y3), .second, .val (.long y5), .second, .val (.int x7), .unset, .unset] [(.int q_a1_length), (.ref a1)])) (fun t k => st15 _ k) ?_
      refine Runs.via (T' := T15) (g' := (mkF m 93 #[.val (.ref a1), .val (.long y1), .second, .val (.long y3), .second, .val (.long y5), .second, .val (.int x7), .unset, .unset] [(.int (q_a1_length + (1 : Int32))), (.ref a1)])) (fun t k => ?_) ?_
      · show Steps p.tables e below (T15.setTop (mkF m 91 #[.val (.ref a1), .val (.long y1), .second, .val (.long y3), .second, .val (.long y5), .second, .val (.int x7), .unset, .unset] [(.int q_a1_length), (.ref a1)])) t
        refine XS.iconst X15.here hx rfl (hb hby d3_91) ?_
        show Steps p.tables e below (T15.setTop (mkF m 92 #[.val (.ref a1), .val (.long y1), .second, .val (.long y3), .second, .val (.long y5), .second, .val (.int x7), .unset, .unset] [(.int (1 : Int32)), (.int q_a1_length), (.ref a1)])) t
        refine XS.iadd X15.here hx rfl (hb hby d3_92) rfl ?_
        exact k
      refine letE hr ?_; intro v16 hv16 hr
      rw [← hv16]
      obtain ⟨T17, h17, X17, e17, W17, st17⟩ := putF X15 hx hZ hown (host := "") (Or.inl (hw _ (List.mem_of_getElem? (i := 20) rfl))) Via.refl e15 F_a1_length_14 E_a1_14 (Or.inl (hw _ (List.mem_of_getElem? (i := 21) rfl))) (hw _ (List.mem_of_getElem? (i := 4) rfl)) (ty := .int) (by decide) rfl rfl (g := (mkF m 93 #[.val (.ref a1), .val (.long y1), .second, .val (.long y3), .second, .val (.long y5), .second, .val (.int x7), .unset, .unset] [(.int v16), (.ref a1)])) rfl rfl (hb hby d3_93)
      have E_a1_17 : Exa Z h17 a1 "com/example/notewright/notewright/Natural" := E_a1_14.wr W17
      have F_a1_words_17 : Fld Z h17 a1 "com/example/notewright/notewright/Natural" "words" "[I" (.ref a2) := F_a1_words_14.other W17 (Or.inr (slot_ne (Or.inl (hw _ (List.mem_of_getElem? (i := 14) rfl))) (Or.inl (hw _ (List.mem_of_getElem? (i := 21) rfl))) (by decide) (t := (.array .int)) (t' := .int) (by decide) (by decide)))
      have F_a1_length_17 : Fld Z h17 a1 "com/example/notewright/notewright/Natural" "length" "I" (.int v16) := F_a1_length_14.same W17
      have A_a2_17 : AI Z h17 a2 .int v14 := A_a2_14.other W17 (by omega : @Ne Nat a2 a1)
      have N17 := Fr.snoc X17 N14 (by omega : n0 ≤ a1)
      have zz17 : n0 ≤ h17.size := Nat.le_trans zz14 (Keep.of_wr W17).1
      have K17 := K14.wr W17 (Or.inl (List.mem_of_getElem? (i := 0) rfl))
      refine Runs.via (T' := T17) (g' := (mkF m 96 #[.val (.ref a1), .val (.long y1), .second, .val (.long y3), .second, .val (.long y5), .second, .val (.int x7), .unset, .unset] [])) (fun t k => st17 _ k) ?_
      obtain rfl := Option.some.inj hr
      exact own_retV X17 hx hlk hret (hb hby d3_96) (by show (cells + 0) ≤ 0; omega) (by show (slots + 0) ≤ 0; omega) ⟨rfl, N17, (by rw [e17]; exact K17), (by rw [e17]; exact E_a1_17), (by rw [e17]; exact F_a1_words_17), (by rw [e17]; exact F_a1_length_17), (by rw [e17]; exact A_a2_17)⟩
set_option maxRecDepth 65536 in
set_option maxHeartbeats 4000000 in
theorem b3_6 {hE : Heap} {a1 : Addr} {a2 : Addr} {q_a1_length₀ : Int32} {q_a2₀ : List Int32} {r : Int32 × List Int32} (C : Ctx p s m meth c Z a0 "com/example/notewright/notewright/Natural" prog_20_method_4_code 10 none "multiplyAdd") (fuel : Nat) (X0 : Stand p l e ({ frames := 1, cells := 0, slots := 0, locals := 13 } : Room) s m args below meth c T0 locs cells slots) (e0 : T0.heap = h0) (N0 : Fr n0 locs) (hk : cells ≤ 0) (hn : slots ≤ 0) (Z1 : n0 ≤ h0.size) (KE : Keep hE h0 [a1, a2]) (o0 : n0 ≤ a1) (o1 : @LT.lt Nat instLTNat a1 a2) (q_a1_length : Int32) (q_a2 : List Int32) (y1 : Int64) (y3 : Int64) (y5 : Int64) (x7 : Int32) (E_a1_0 : Exa Z h0 a1 "com/example/notewright/notewright/Natural") (F_a1_words_0 : Fld Z h0 a1 "com/example/notewright/notewright/Natural" "words" "[I" (.ref a2)) (F_a1_length_0 : Fld Z h0 a1 "com/example/notewright/notewright/Natural" "length" "I" (.int q_a1_length)) (A_a2_0 : AI Z h0 a2 .int q_a2) (hr : g3_6 fuel y1 y5 x7 q_a1_length q_a2 = some r) :
    Runs p e below s (P3 Z hE a1 a2 q_a1_length₀ q_a2₀ n0 r) 0 0 T0 (mkF m 6 #[.val (.ref a1), .val (.long y1), .second, .val (.long y3), .second, .val (.long y5), .second, .val (.int x7), .unset, .unset] []) := by
  cases hf : fuel with
  | zero => rw [hf] at hr; exact absurd hr (by simp [g3_6, h3_6])
  | succ n =>
    have hr2 : s3_6 (h3_6 fuel n) fuel y1 y5 x7 q_a1_length q_a2 = some r := by
      have := hr
      unfold g3_6 at this
      rw [hf] at this ⊢
      exact this
    exact t3_6 fuel C _ (u3_6w1 fuel C n) X0 e0 N0 hk hn Z1 KE o0 o1 q_a1_length q_a2 y1 y3 y5 x7 E_a1_0 F_a1_words_0 F_a1_length_0 A_a2_0 hr2
def g3_0 (fuel : Nat) (y1 : Int64) (y3 : Int64) (q_a1_length : Int32) (q_a2 : List Int32) : Option (Int32 × List Int32) := (g3_6 fuel y1 y3 (0 : Int32) q_a1_length q_a2)
set_option maxRecDepth 65536 in
set_option maxHeartbeats 4000000 in
theorem b3_0 {hE : Heap} {a1 : Addr} {a2 : Addr} {q_a1_length₀ : Int32} {q_a2₀ : List Int32} {r : Int32 × List Int32} (C : Ctx p s m meth c Z a0 "com/example/notewright/notewright/Natural" prog_20_method_4_code 10 none "multiplyAdd") (fuel : Nat) (X0 : Stand p l e ({ frames := 1, cells := 0, slots := 0, locals := 13 } : Room) s m args below meth c T0 locs cells slots) (e0 : T0.heap = h0) (N0 : Fr n0 locs) (hk : cells ≤ 0) (hn : slots ≤ 0) (Z1 : n0 ≤ h0.size) (KE : Keep hE h0 [a1, a2]) (o0 : n0 ≤ a1) (o1 : @LT.lt Nat instLTNat a1 a2) (q_a1_length : Int32) (q_a2 : List Int32) (y1 : Int64) (y3 : Int64) (E_a1_0 : Exa Z h0 a1 "com/example/notewright/notewright/Natural") (F_a1_words_0 : Fld Z h0 a1 "com/example/notewright/notewright/Natural" "words" "[I" (.ref a2)) (F_a1_length_0 : Fld Z h0 a1 "com/example/notewright/notewright/Natural" "length" "I" (.int q_a1_length)) (A_a2_0 : AI Z h0 a2 .int q_a2) (hr : g3_0 fuel y1 y3 q_a1_length q_a2 = some r) :
    Runs p e below s (P3 Z hE a1 a2 q_a1_length₀ q_a2₀ n0 r) 0 0 T0 (mkF m 0 #[.val (.ref a1), .val (.long y1), .second, .val (.long y3), .second, .unset, .unset, .unset, .unset, .unset] []) := by
  unfold g3_0 at hr
  have ⟨hx, hZ, hw, hby, hml, hown, hret, hlk, hnm⟩ := C
  refine Runs.via (T' := T0) (g' := (mkF m 6 #[.val (.ref a1), .val (.long y1), .second, .val (.long y3), .second, .val (.long y3), .second, .val (.int (0 : Int32)), .unset, .unset] [])) (fun t k => ?_) ?_
  · show Steps p.tables e below (T0.setTop (mkF m 0 #[.val (.ref a1), .val (.long y1), .second, .val (.long y3), .second, .unset, .unset, .unset, .unset, .unset] [])) t
    refine XS.lloadN X0.here hx rfl (hb hby d3_0) rfl ?_
    show Steps p.tables e below (T0.setTop (mkF m 1 #[.val (.ref a1), .val (.long y1), .second, .val (.long y3), .second, .unset, .unset, .unset, .unset, .unset] [(.long y3)])) t
    refine XS.lstore X0.here hx rfl (hb hby d3_1) rfl (l' := #[.val (.ref a1), .val (.long y1), .second, .val (.long y3), .second, .val (.long y3), .second, .unset, .unset, .unset]) rfl ?_
    show Steps p.tables e below (T0.setTop (mkF m 3 #[.val (.ref a1), .val (.long y1), .second, .val (.long y3), .second, .val (.long y3), .second, .unset, .unset, .unset] [])) t
    refine XS.iconst X0.here hx rfl (hb hby d3_3) ?_
    show Steps p.tables e below (T0.setTop (mkF m 4 #[.val (.ref a1), .val (.long y1), .second, .val (.long y3), .second, .val (.long y3), .second, .unset, .unset, .unset] [(.int (0 : Int32))])) t
    refine XS.istore X0.here hx rfl (hb hby d3_4) rfl (l' := #[.val (.ref a1), .val (.long y1), .second, .val (.long y3), .second, .val (.long y3), .second, .val (.int (0 : Int32)), .unset, .unset]) rfl ?_
    exact k
  exact b3_6 C fuel X0 e0 N0 (by show cells ≤ 0; omega) (by show slots ≤ 0; omega) Z1 KE (by omega) (by omega) q_a1_length q_a2 y1 y3 y3 (0 : Int32) E_a1_0 F_a1_words_0 F_a1_length_0 A_a2_0 hr
def f3 (fuel : Nat) (y1 : Int64) (y3 : Int64) (q_a1_length : Int32) (q_a2 : List Int32) : Option (Int32 × List Int32) := g3_0 fuel y1 y3 q_a1_length q_a2
theorem pn_3 : plainName "com/example/notewright/notewright/Natural" = true := by first | (simp [plainName, overriddenIn]; done) | decide +kernel
theorem ef_3 (m : MethodId) (y1 : Int64) (y3 : Int64) (a1 : Addr) (a2 : Addr) : entryFrame m #[(.ref a1), (.long y1), (.long y3)] 10 = mkF m 0 #[.val (.ref a1), .val (.long y1), .second, .val (.long y3), .second, .unset, .unset, .unset, .unset, .unset] [] := by first | (simp [entryFrame, mkF, argsToLocals, Value.category]; done) | rfl
set_option maxRecDepth 65536 in
set_option maxHeartbeats 4000000 in
theorem rm3 (l : Launch) (Z : State) (a0 : Array Value) (hw : ∀ d ∈ tables_1, d.before a0 Z = true) (ws : List Jvm.Cond) (y1 : Int64) (y3 : Int64) (a1 : Addr) (a2 : Addr) (q_a1_length : Int32) (q_a2 : List Int32) (hE : Heap) (n0 : Nat) (Z0 : n0 ≤ hE.size) (o0 : n0 ≤ a1) (o1 : @LT.lt Nat instLTNat a1 a2) (E_a1_0 : Exa Z hE a1 "com/example/notewright/notewright/Natural") (F_a1_words_0 : Fld Z hE a1 "com/example/notewright/notewright/Natural" "words" "[I" (.ref a2)) (F_a1_length_0 : Fld Z hE a1 "com/example/notewright/notewright/Natural" "length" "I" (.int q_a1_length)) (A_a2_0 : AI Z hE a2 .int q_a2) (fuel : Nat) (r : Int32 × List Int32) (hr : f3 fuel y1 y3 q_a1_length q_a2 = some r) :
    MetFree l (⟨"com/example/notewright/notewright/Natural", "multiplyAdd", "(JJ)V"⟩ : MethodName) (head1 (Jvm.Cond.code (⟨"com/example/notewright/notewright/Natural", "multiplyAdd", "(JJ)V"⟩ : MethodName) prog_20_method_4_code 10 none :: ws) ({ frames := 1, cells := 0, slots := 0, locals := 13 } : Room)) (fun a U => a = #[(.ref a1), (.long y1), (.long y3)] ∧ Z.Warmed39 U.vm ∧ U.heap = hE) (fun _ _ _ _ _ => True) (fun _ U o U' => ∃ v L, o = .returned v ∧ (P3 Z hE a1 a2 q_a1_length q_a2 n0 r v U'.heap L) ∧ FrameEnd U o U' L ({ frames := 1, cells := 0, slots := 0, locals := 13 } : Room).cells ({ frames := 1, cells := 0, slots := 0, locals := 13 } : Room).slots) := by
  refine MetFree.of_bodySF (plainFor_of_name pn_3) hisR ?_
  intro p e s m args below meth c s₁ Bd hml0 hP hK
  obtain ⟨rfl, hZ, hh⟩ := hP
  have X0 : Stand p l e ({ frames := 1, cells := 0, slots := 0, locals := 13 } : Room) s m #[(.ref a1), (.long y1), (.long y3)] below meth c s₁ [] 0 0 := Stand.of_body Bd
  have e0 : s₁.heap = hE := by rw [← hh, Bd.state]; rfl
  have C : Ctx p s m meth c Z a0 "com/example/notewright/notewright/Natural" prog_20_method_4_code 10 none "multiplyAdd" := ⟨Bd.exec, hZ, hw, Bd.bytes, hml0, findClass_of_methodNamed Bd.named, Bd.returns, BodyLoose.notSynchronized Bd, (name_of_methodNamed Bd.named Bd.method).1⟩
  refine Runs.via (fun t k => castTop (ef_3 m y1 y3 a1 a2) k) (b3_0 C fuel X0 e0 (Fr.nil n0) (by show 0 ≤ 0; omega) (by show 0 ≤ 0; omega) Z0 (Keep.refl hE [a1, a2]) (by omega) (by omega) q_a1_length q_a2 y1 y3 E_a1_0 F_a1_words_0 F_a1_length_0 A_a2_0 hr)
theorem pd_2 : parseMethodDescriptor "(JJ)V" = some ⟨[.long, .long], none⟩ := by decide +kernel
theorem d5_0 : decode prog_20_method_7_code 0 = .ok (.lconst 0, 1) := by decide +kernel
theorem d5_1 : decode prog_20_method_7_code 1 = .ok (.lstore_n 3, 1) := by decide +kernel
theorem d5_2 : decode prog_20_method_7_code 2 = .ok (.aload_n 0, 1) := by decide +kernel
theorem d5_3 : decode prog_20_method_7_code 3 = .ok (.getfield 16, 3) := by decide +kernel
theorem d5_6 : decode prog_20_method_7_code 6 = .ok (.iconst 1, 1) := by decide +kernel
theorem d5_7 : decode prog_20_method_7_code 7 = .ok (.isub, 1) := by decide +kernel
theorem d5_8 : decode prog_20_method_7_code 8 = .ok (.istore 5, 2) := by decide +kernel
theorem d5_10 : decode prog_20_method_7_code 10 = .ok (.iload 5, 2) := by decide +kernel
theorem d5_12 : decode prog_20_method_7_code 12 = .ok (.ifCond .lt 29, 3) := by decide +kernel
theorem d5_15 : decode prog_20_method_7_code 15 = .ok (.lload_n 3, 1) := by decide +kernel
theorem d5_16 : decode prog_20_method_7_code 16 = .ok (.bipush 32, 2) := by decide +kernel
theorem d5_18 : decode prog_20_method_7_code 18 = .ok (.lshl, 1) := by decide +kernel
theorem d5_19 : decode prog_20_method_7_code 19 = .ok (.aload_n 0, 1) := by decide +kernel
theorem d5_20 : decode prog_20_method_7_code 20 = .ok (.getfield 11, 3) := by decide +kernel
theorem d5_23 : decode prog_20_method_7_code 23 = .ok (.iload 5, 2) := by decide +kernel
theorem d5_25 : decode prog_20_method_7_code 25 = .ok (.iaload, 1) := by decide +kernel
theorem d5_26 : decode prog_20_method_7_code 26 = .ok (.i2l, 1) := by decide +kernel
theorem d5_27 : decode prog_20_method_7_code 27 = .ok (.ldc2_w 23, 3) := by decide +kernel
theorem d5_30 : decode prog_20_method_7_code 30 = .ok (.land, 1) := by decide +kernel
theorem d5_31 : decode prog_20_method_7_code 31 = .ok (.lor, 1) := by decide +kernel
theorem d5_32 : decode prog_20_method_7_code 32 = .ok (.lload_n 1, 1) := by decide +kernel
theorem d5_33 : decode prog_20_method_7_code 33 = .ok (.lrem, 1) := by decide +kernel
theorem d5_34 : decode prog_20_method_7_code 34 = .ok (.lstore_n 3, 1) := by decide +kernel
theorem d5_35 : decode prog_20_method_7_code 35 = .ok (.iinc 5 (-1), 3) := by decide +kernel
theorem d5_38 : decode prog_20_method_7_code 38 = .ok (.goto (-28), 3) := by decide +kernel
theorem d5_41 : decode prog_20_method_7_code 41 = .ok (.lload_n 3, 1) := by decide +kernel
theorem d5_42 : decode prog_20_method_7_code 42 = .ok (.lreturn, 1) := by decide +kernel
def P5 (Z : State) (hE : Heap) (a1 : Addr) (a2 : Addr) (q_a1_length : Int32) (q_a2 : List Int32) (n0 : Nat) (r : Int64) (v : Option Value) (h : Heap) (L : List Loc) : Prop := v = some (.long r) ∧ Fr n0 L ∧ h = hE
def s5_10 (K10 : Int64 → Int64 → Int32 → Int32 → List Int32 → Option (Int64)) (fuel : Nat) (y1 : Int64) (y3 : Int64) (x5 : Int32) (q_a1_length : Int32) (q_a2 : List Int32) : Option (Int64) := (if x5 < (0 : Int32) then some y3 else ((rdO q_a2 x5).bind fun v3 => (if y1 = (0 : Int64) then none else (letO (((y3 <<< ((32 : Int32) &&& 0x3f).toInt64) ||| ((Int32.toInt64 v3) &&& (4294967295 : Int64))) - (((y3 <<< ((32 : Int32) &&& 0x3f).toInt64) ||| ((Int32.toInt64 v3) &&& (4294967295 : Int64))) / y1) * y1) fun v5 => (K10 y1 v5 (x5 + (-1 : Int32)) q_a1_length q_a2)))))
def h5_10 (fuel : Nat) : Nat → Int64 → Int64 → Int32 → Int32 → List Int32 → Option (Int64)
  | 0 => fun _ _ _ _ _ => none
  | n + 1 => fun y1 y3 x5 q_a1_length q_a2 => s5_10 (h5_10 fuel n) fuel y1 y3 x5 q_a1_length q_a2
def g5_10 (fuel : Nat) (y1 : Int64) (y3 : Int64) (x5 : Int32) (q_a1_length : Int32) (q_a2 : List Int32) : Option (Int64) := h5_10 fuel fuel y1 y3 x5 q_a1_length q_a2
set_option maxRecDepth 65536 in
set_option maxHeartbeats 4000000 in
theorem t5_10 {hE : Heap} {a1 : Addr} {a2 : Addr} {q_a1_length : Int32} {q_a2 : List Int32} (fuel : Nat) {r : Int64} (C : Ctx p s m meth c Z a0 "com/example/notewright/notewright/Natural" prog_20_method_7_code 6 (some .long) "remainder") (K10 : Int64 → Int64 → Int32 → Int32 → List Int32 → Option (Int64)) (hK10 : ∀ {T0 : State} {locs : List Loc} {cells slots : Nat} (X0 : Stand p l e ({ frames := 0, cells := 0, slots := 0, locals := 0 } : Room) s m args below meth c T0 locs cells slots) (e0 : T0.heap = hE) (N0 : Fr n0 locs) (hk : cells ≤ 0) (hn : slots ≤ 0) (Z1 : n0 ≤ hE.size) (o0 : n0 ≤ a1) (o1 : @LT.lt Nat instLTNat a1 a2) (y1 : Int64) (y3 : Int64) (x5 : Int32) (E_a1_0 : Exa Z hE a1 "com/example/notewright/notewright/Natural") (F_a1_words_0 : Fld Z hE a1 "com/example/notewright/notewright/Natural" "words" "[I" (.ref a2)) (F_a1_length_0 : Fld Z hE a1 "com/example/notewright/notewright/Natural" "length" "I" (.int q_a1_length)) (A_a2_0 : AI Z hE a2 .int q_a2), K10 y1 y3 x5 q_a1_length q_a2 = some r → Runs p e below s (P5 Z hE a1 a2 q_a1_length q_a2 n0 r) 0 0 T0 (mkF m 10 #[.val (.ref a1), .val (.long y1), .second, .val (.long y3), .second, .val (.int x5)] [])) (X0 : Stand p l e ({ frames := 0, cells := 0, slots := 0, locals := 0 } : Room) s m args below meth c T0 locs cells slots) (e0 : T0.heap = hE) (N0 : Fr n0 locs) (hk : cells ≤ 0) (hn : slots ≤ 0) (Z1 : n0 ≤ hE.size) (o0 : n0 ≤ a1) (o1 : @LT.lt Nat instLTNat a1 a2) (y1 : Int64) (y3 : Int64) (x5 : Int32) (E_a1_0 : Exa Z hE a1 "com/example/notewright/notewright/Natural") (F_a1_words_0 : Fld Z hE a1 "com/example/notewright/notewright/Natural" "words" "[I" (.ref a2)) (F_a1_length_0 : Fld Z hE a1 "com/example/notewright/notewright/Natural" "length" "I" (.int q_a1_length)) (A_a2_0 : AI Z hE a2 .int q_a2) (hr : s5_10 K10 fuel y1 y3 x5 q_a1_length q_a2 = some r) :
    Runs p e below s (P5 Z hE a1 a2 q_a1_length q_a2 n0 r) 0 0 T0 (mkF m 10 #[.val (.ref a1), .val (.long y1), .second, .val (.long y3), .second, .val (.int x5)] []) := by
  unfold s5_10 at hr
  have ⟨hx, hZ, hw, hby, hml, hown, hret, hlk, hnm⟩ := C
  refine Runs.via (T' := T0) (g' := (mkF m 12 #[.val (.ref a1), .val (.long y1), .second, .val (.long y3), .second, .val (.int x5)] [(.int x5)])) (fun t k => ?_) ?_
  · show Steps p.tables e below (T0.setTop (mkF m 10 #[.val (.ref a1), .val (.long y1), .second, .val (.long y3), .second, .val (.int x5)] [])) t
    refine XS.iload X0.here hx rfl (hb hby d5_10) rfl ?_
    exact k
  refine iteE hr (fun hc1 hr => ?_) (fun hc1 hr => ?_)
  · refine Runs.via (T' := T0) (g' := (mkF m 41 #[.val (.ref a1), .val (.long y1), .second, .val (.long y3), .second, .val (.int x5)] [])) (fun t k => ?_) ?_
    · show Steps p.tables e below (T0.setTop (mkF m 12 #[.val (.ref a1), .val (.long y1), .second, .val (.long y3), .second, .val (.int x5)] [(.int x5)])) t
      exact XS.ifYes X0.here hx rfl (pc0 := 12) (pc' := 41) rfl (hb hby d5_12) rfl ((if0 _ _).trans (tlt hc1).1) (by decide) (by decide) k
    refine Runs.via (T' := T0) (g' := (mkF m 42 #[.val (.ref a1), .val (.long y1), .second, .val (.long y3), .second, .val (.int x5)] [(.long y3)])) (fun t k => ?_) ?_
    · show Steps p.tables e below (T0.setTop (mkF m 41 #[.val (.ref a1), .val (.long y1), .second, .val (.long y3), .second, .val (.int x5)] [])) t
      refine XS.lloadN X0.here hx rfl (hb hby d5_41) rfl ?_
      exact k
    obtain rfl := Option.some.inj hr
    exact own_retJ X0 hx hlk hret (hb hby d5_42) (by show cells ≤ 0; omega) (by show slots ≤ 0; omega) ⟨rfl, N0, e0⟩
  · refine Runs.via (T' := T0) (g' := (mkF m 15 #[.val (.ref a1), .val (.long y1), .second, .val (.long y3), .second, .val (.int x5)] [])) (fun t k => ?_) ?_
    · show Steps p.tables e below (T0.setTop (mkF m 12 #[.val (.ref a1), .val (.long y1), .second, .val (.long y3), .second, .val (.int x5)] [(.int x5)])) t
      exact XS.ifNo X0.here hx rfl (hb hby d5_12) rfl ((if0 _ _).trans (flt hc1).1) k
    refine Runs.via (T' := T0) (g' := (mkF m 20 #[.val (.ref a1), .val (.long y1), .second, .val (.long y3), .second, .val (.int x5)] [(.ref a1), (.long (y3 <<< ((32 : Int32) &&& 0x3f).toInt64))])) (fun t k => ?_) ?_
    · show Steps p.tables e below (T0.setTop (mkF m 15 #[.val (.ref a1), .val (.long y1), .second, .val (.long y3), .second, .val (.int x5)] [])) t
      refine XS.lloadN X0.here hx rfl (hb hby d5_15) rfl ?_
      show Steps p.tables e below (T0.setTop (mkF m 16 #[.val (.ref a1), .val (.long y1), .second, .val (.long y3), .second, .val (.int x5)] [(.long y3)])) t
      refine XS.bipush X0.here hx rfl (hb hby d5_16) ?_
      show Steps p.tables e below (T0.setTop (mkF m 18 #[.val (.ref a1), .val (.long y1), .second, .val (.long y3), .second, .val (.int x5)] [(.int (32 : Int32)), (.long y3)])) t
      refine XS.lshl X0.here hx rfl (hb hby d5_18) rfl ?_
      show Steps p.tables e below (T0.setTop (mkF m 19 #[.val (.ref a1), .val (.long y1), .second, .val (.long y3), .second, .val (.int x5)] [(.long (y3 <<< ((32 : Int32) &&& 0x3f).toInt64))])) t
      refine XS.aloadN X0.here hx rfl (hb hby d5_19) rfl rfl ?_
      exact k
    obtain ⟨T2, X2, e2, st2⟩ := getF X0 hx hZ hown (host := "") (Or.inl (hw _ (List.mem_of_getElem? (i := 13) rfl))) Via.refl e0 F_a1_words_0 (g := (mkF m 20 #[.val (.ref a1), .val (.long y1), .second, .val (.long y3), .second, .val (.int x5)] [(.ref a1), (.long (y3 <<< ((32 : Int32) &&& 0x3f).toInt64))])) rfl rfl (hb hby d5_20)
    refine Runs.via (T' := T2) (g' := (mkF m 23 #[.val (.ref a1), .val (.long y1), .second, .val (.long y3), .second, .val (.int x5)] [(.ref a2), (.long (y3 <<< ((32 : Int32) &&& 0x3f).toInt64))])) (fun t k => st2 _ k) ?_
    refine Runs.via (T' := T2) (g' := (mkF m 25 #[.val (.ref a1), .val (.long y1), .second, .val (.long y3), .second, .val (.int x5)] [(.int x5), (.ref a2), (.long (y3 <<< ((32 : Int32) &&& 0x3f).toInt64))])) (fun t k => ?_) ?_
    · show Steps p.tables e below (T2.setTop (mkF m 23 #[.val (.ref a1), .val (.long y1), .second, .val (.long y3), .second, .val (.int x5)] [(.ref a2), (.long (y3 <<< ((32 : Int32) &&& 0x3f).toInt64))])) t
      refine XS.iload X2.here hx rfl (hb hby d5_23) rfl ?_
      exact k
    refine bindE hr ?_; intro v3 hv3 hr
    refine Runs.via (T' := T2) (g' := (mkF m 26 #[.val (.ref a1), .val (.long y1), .second, .val (.long y3), .second, .val (.int x5)] [(.int v3), (.long (y3 <<< ((32 : Int32) &&& 0x3f).toInt64))])) (fun t k => ldI X2 hx hZ e2 A_a2_0 hv3 (g := (mkF m 25 #[.val (.ref a1), .val (.long y1), .second, .val (.long y3), .second, .val (.int x5)] [(.int x5), (.ref a2), (.long (y3 <<< ((32 : Int32) &&& 0x3f).toInt64))])) rfl rfl (hb hby d5_25) _ k) ?_
    refine Runs.via (T' := T2) (g' := (mkF m 33 #[.val (.ref a1), .val (.long y1), .second, .val (.long y3), .second, .val (.int x5)] [(.long y1), (.long ((y3 <<< ((32 : Int32) &&& 0x3f).toInt64) ||| ((Int32.toInt64 v3) &&& (4294967295 : Int64))))])) (fun t k => ?_) ?_
    · show Steps p.tables e below (T2.setTop (mkF m 26 #[.val (.ref a1), .val (.long y1), .second, .val (.long y3), .second, .val (.int x5)] [(.int v3), (.long (y3 <<< ((32 : Int32) &&& 0x3f).toInt64))])) t
      refine XS.i2l X2.here hx rfl (hb hby d5_26) rfl ?_
      show Steps p.tables e below (T2.setTop (mkF m 27 #[.val (.ref a1), .val (.long y1), .second, .val (.long y3), .second, .val (.int x5)] [(.long (Int32.toInt64 v3)), (.long (y3 <<< ((32 : Int32) &&& 0x3f).toInt64))])) t
      refine X2.ldc2Long hx hown (mvT hZ (hw _ (List.mem_of_getElem? (i := 26) rfl))) (g := (mkF m 27 #[.val (.ref a1), .val (.long y1), .second, .val (.long y3), .second, .val (.int x5)] [(.long (Int32.toInt64 v3)), (.long (y3 <<< ((32 : Int32) &&& 0x3f).toInt64))])) rfl (hb hby d5_27) _ ?_
      show Steps p.tables e below (T2.setTop (mkF m 30 #[.val (.ref a1), .val (.long y1), .second, .val (.long y3), .second, .val (.int x5)] [(.long (4294967295 : Int64)), (.long (Int32.toInt64 v3)), (.long (y3 <<< ((32 : Int32) &&& 0x3f).toInt64))])) t
      refine XS.land X2.here hx rfl (hb hby d5_30) rfl ?_
      show Steps p.tables e below (T2.setTop (mkF m 31 #[.val (.ref a1), .val (.long y1), .second, .val (.long y3), .second, .val (.int x5)] [(.long ((Int32.toInt64 v3) &&& (4294967295 : Int64))), (.long (y3 <<< ((32 : Int32) &&& 0x3f).toInt64))])) t
      refine XS.lor X2.here hx rfl (hb hby d5_31) rfl ?_
      show Steps p.tables e below (T2.setTop (mkF m 32 #[.val (.ref a1), .val (.long y1), .second, .val (.long y3), .second, .val (.int x5)] [(.long ((y3 <<< ((32 : Int32) &&& 0x3f).toInt64) ||| ((Int32.toInt64 v3) &&& (4294967295 : Int64))))])) t
      refine XS.lloadN X2.here hx rfl (hb hby d5_32) rfl ?_
      exact k
    refine iteE hr (fun hz4 hr => nomatch hr) (fun hz4 hr => ?_)
    refine Runs.via (T' := T2) (g' := (mkF m 34 #[.val (.ref a1), .val (.long y1), .second, .val (.long y3), .second, .val (.int x5)] [(.long (((y3 <<< ((32 : Int32) &&& 0x3f).toInt64) ||| ((Int32.toInt64 v3) &&& (4294967295 : Int64))) - (((y3 <<< ((32 : Int32) &&& 0x3f).toInt64) ||| ((Int32.toInt64 v3) &&& (4294967295 : Int64))) / y1) * y1))])) (fun t k => ?_) ?_
    · show Steps p.tables e below (T2.setTop (mkF m 33 #[.val (.ref a1), .val (.long y1), .second, .val (.long y3), .second, .val (.int x5)] [(.long y1), (.long ((y3 <<< ((32 : Int32) &&& 0x3f).toInt64) ||| ((Int32.toInt64 v3) &&& (4294967295 : Int64))))])) t
      refine XS.lrem X2.here hx rfl (hb hby d5_33) rfl hz4 ?_
      exact k
    refine letE hr ?_; intro v5 hv5 hr
    rw [← hv5]
    refine Runs.via (T' := T2) (g' := (mkF m 10 #[.val (.ref a1), .val (.long y1), .second, .val (.long v5), .second, .val (.int (x5 + (-1 : Int32)))] [])) (fun t k => ?_) ?_
    · show Steps p.tables e below (T2.setTop (mkF m 34 #[.val (.ref a1), .val (.long y1), .second, .val (.long y3), .second, .val (.int x5)] [(.long v5)])) t
      refine XS.lstoreN X2.here hx rfl (hb hby d5_34) rfl (l' := #[.val (.ref a1), .val (.long y1), .second, .val (.long v5), .second, .val (.int x5)]) rfl ?_
      show Steps p.tables e below (T2.setTop (mkF m 35 #[.val (.ref a1), .val (.long y1), .second, .val (.long v5), .second, .val (.int x5)] [])) t
      refine XS.iinc X2.here hx rfl (hb hby d5_35) rfl (l' := #[.val (.ref a1), .val (.long y1), .second, .val (.long v5), .second, .val (.int (x5 + (-1 : Int32)))]) rfl ?_
      show Steps p.tables e below (T2.setTop (mkF m 38 #[.val (.ref a1), .val (.long y1), .second, .val (.long v5), .second, .val (.int (x5 + (-1 : Int32)))] [])) t
      refine XS.goto X2.here hx rfl (pc0 := 38) (pc' := 10) rfl (hb hby d5_38) (by decide) (by decide) ?_
      exact k
    exact hK10 X2 e2 N0 (by show cells ≤ 0; omega) (by show slots ≤ 0; omega) Z1 (by omega) (by omega) y1 v5 (x5 + (-1 : Int32)) E_a1_0 F_a1_words_0 F_a1_length_0 A_a2_0 hr
set_option maxRecDepth 65536 in
set_option maxHeartbeats 4000000 in
theorem u5_10 {hE : Heap} {a1 : Addr} {a2 : Addr} {q_a1_length : Int32} {q_a2 : List Int32} (fuel : Nat) {r : Int64} (C : Ctx p s m meth c Z a0 "com/example/notewright/notewright/Natural" prog_20_method_7_code 6 (some .long) "remainder") : ∀ n : Nat, ∀ {T0 : State} {locs : List Loc} {cells slots : Nat} (X0 : Stand p l e ({ frames := 0, cells := 0, slots := 0, locals := 0 } : Room) s m args below meth c T0 locs cells slots) (e0 : T0.heap = hE) (N0 : Fr n0 locs) (hk : cells ≤ 0) (hn : slots ≤ 0) (Z1 : n0 ≤ hE.size) (o0 : n0 ≤ a1) (o1 : @LT.lt Nat instLTNat a1 a2) (y1 : Int64) (y3 : Int64) (x5 : Int32) (E_a1_0 : Exa Z hE a1 "com/example/notewright/notewright/Natural") (F_a1_words_0 : Fld Z hE a1 "com/example/notewright/notewright/Natural" "words" "[I" (.ref a2)) (F_a1_length_0 : Fld Z hE a1 "com/example/notewright/notewright/Natural" "length" "I" (.int q_a1_length)) (A_a2_0 : AI Z hE a2 .int q_a2), h5_10 fuel n y1 y3 x5 q_a1_length q_a2 = some r → Runs p e below s (P5 Z hE a1 a2 q_a1_length q_a2 n0 r) 0 0 T0 (mkF m 10 #[.val (.ref a1), .val (.long y1), .second, .val (.long y3), .second, .val (.int x5)] []) := by
  intro n
  induction n with
  | zero => intros; rename_i hr; exact absurd hr (by simp [h5_10])
  | succ n ih =>
    intro T0 locs cells slots X0 e0 N0 hk hn Z1 o0 o1 y1 y3 x5 E_a1_0 F_a1_words_0 F_a1_length_0 A_a2_0 hr
    exact t5_10 fuel C _ ih X0 e0 N0 hk hn Z1 o0 o1 y1 y3 x5 E_a1_0 F_a1_words_0 F_a1_length_0 A_a2_0 hr
set_option maxRecDepth 65536 in
set_option maxHeartbeats 4000000 in
theorem b5_10 {hE : Heap} {a1 : Addr} {a2 : Addr} {q_a1_length : Int32} {q_a2 : List Int32} {r : Int64} (C : Ctx p s m meth c Z a0 "com/example/notewright/notewright/Natural" prog_20_method_7_code 6 (some .long) "remainder") (fuel : Nat) (X0 : Stand p l e ({ frames := 0, cells := 0, slots := 0, locals := 0 } : Room) s m args below meth c T0 locs cells slots) (e0 : T0.heap = hE) (N0 : Fr n0 locs) (hk : cells ≤ 0) (hn : slots ≤ 0) (Z1 : n0 ≤ hE.size) (o0 : n0 ≤ a1) (o1 : @LT.lt Nat instLTNat a1 a2) (y1 : Int64) (y3 : Int64) (x5 : Int32) (E_a1_0 : Exa Z hE a1 "com/example/notewright/notewright/Natural") (F_a1_words_0 : Fld Z hE a1 "com/example/notewright/notewright/Natural" "words" "[I" (.ref a2)) (F_a1_length_0 : Fld Z hE a1 "com/example/notewright/notewright/Natural" "length" "I" (.int q_a1_length)) (A_a2_0 : AI Z hE a2 .int q_a2) (hr : g5_10 fuel y1 y3 x5 q_a1_length q_a2 = some r) :
    Runs p e below s (P5 Z hE a1 a2 q_a1_length q_a2 n0 r) 0 0 T0 (mkF m 10 #[.val (.ref a1), .val (.long y1), .second, .val (.long y3), .second, .val (.int x5)] []) := u5_10 fuel C fuel X0 e0 N0 hk hn Z1 o0 o1 y1 y3 x5 E_a1_0 F_a1_words_0 F_a1_length_0 A_a2_0 hr
def g5_0 (fuel : Nat) (y1 : Int64) (q_a1_length : Int32) (q_a2 : List Int32) : Option (Int64) := (letO (q_a1_length - (1 : Int32)) fun v2 => (g5_10 fuel y1 (0 : Int64) v2 q_a1_length q_a2))
set_option maxRecDepth 65536 in
set_option maxHeartbeats 4000000 in
theorem b5_0 {hE : Heap} {a1 : Addr} {a2 : Addr} {q_a1_length : Int32} {q_a2 : List Int32} {r : Int64} (C : Ctx p s m meth c Z a0 "com/example/notewright/notewright/Natural" prog_20_method_7_code 6 (some .long) "remainder") (fuel : Nat) (X0 : Stand p l e ({ frames := 0, cells := 0, slots := 0, locals := 0 } : Room) s m args below meth c T0 locs cells slots) (e0 : T0.heap = hE) (N0 : Fr n0 locs) (hk : cells ≤ 0) (hn : slots ≤ 0) (Z1 : n0 ≤ hE.size) (o0 : n0 ≤ a1) (o1 : @LT.lt Nat instLTNat a1 a2) (y1 : Int64) (E_a1_0 : Exa Z hE a1 "com/example/notewright/notewright/Natural") (F_a1_words_0 : Fld Z hE a1 "com/example/notewright/notewright/Natural" "words" "[I" (.ref a2)) (F_a1_length_0 : Fld Z hE a1 "com/example/notewright/notewright/Natural" "length" "I" (.int q_a1_length)) (A_a2_0 : AI Z hE a2 .int q_a2) (hr : g5_0 fuel y1 q_a1_length q_a2 = some r) :
    Runs p e below s (P5 Z hE a1 a2 q_a1_length q_a2 n0 r) 0 0 T0 (mkF m 0 #[.val (.ref a1), .val (.long y1), .second, .unset, .unset, .unset] []) := by
  unfold g5_0 at hr
  have ⟨hx, hZ, hw, hby, hml, hown, hret, hlk, hnm⟩ := C
  refine Runs.via (T' := T0) (g' := (mkF m 3 #[.val (.ref a1), .val (.long y1), .second, .val (.long (0 : Int64)), .second, .unset] [(.ref a1)])) (fun t k => ?_) ?_
  · show Steps p.tables e below (T0.setTop (mkF m 0 #[.val (.ref a1), .val (.long y1), .second, .unset, .unset, .unset] [])) t
    refine XS.lconst X0.here hx rfl (hb hby d5_0) ?_
    show Steps p.tables e below (T0.setTop (mkF m 1 #[.val (.ref a1), .val (.long y1), .second, .unset, .unset, .unset] [(.long (0 : Int64))])) t
    refine XS.lstoreN X0.here hx rfl (hb hby d5_1) rfl (l' := #[.val (.ref a1), .val (.long y1), .second, .val (.long (0 : Int64)), .second, .unset]) rfl ?_
    show Steps p.tables e below (T0.setTop (mkF m 2 #[.val (.ref a1), .val (.long y1), .second, .val (.long (0 : Int64)), .second, .unset] [])) t
    refine XS.aloadN X0.here hx rfl (hb hby d5_2) rfl rfl ?_
    exact k
  obtain ⟨T1, X1, e1, st1⟩ := getF X0 hx hZ hown (host := "") (Or.inl (hw _ (List.mem_of_getElem? (i := 20) rfl))) Via.refl e0 F_a1_length_0 (g := (mkF m 3 #[.val (.ref a1), .val (.long y1), .second, .val (.long (0 : Int64)), .second, .unset] [(.ref a1)])) rfl rfl (hb hby d5_3)
  refine Runs.via (T' := T1) (g' := (mkF m 6 #[.val (.ref a1), .val (.long y1), .second, .val (.long (0 : Int64)), .second, .unset] [(.int q_a1_length)])) (fun t k => st1 _ k) ?_
  refine Runs.via (T' := T1) (g' := (mkF m 8 #[.val (.ref a1), .val (.long y1), .second, .val (.long (0 : Int64)), .second, .unset] [(.int (q_a1_length - (1 : Int32)))])) (fun t k => ?_) ?_
  · show Steps p.tables e below (T1.setTop (mkF m 6 #[.val (.ref a1), .val (.long y1), .second, .val (.long (0 : Int64)), .second, .unset] [(.int q_a1_length)])) t
    refine XS.iconst X1.here hx rfl (hb hby d5_6) ?_
    show Steps p.tables e below (T1.setTop (mkF m 7 #[.val (.ref a1), .val (.long y1), .second, .val (.long (0 : Int64)), .second, .unset] [(.int (1 : Int32)), (.int q_a1_length)])) t
    refine XS.isub X1.here hx rfl (hb hby d5_7) rfl ?_
    exact k
  refine letE hr ?_; intro v2 hv2 hr
  rw [← hv2]
  refine Runs.via (T' := T1) (g' := (mkF m 10 #[.val (.ref a1), .val (.long y1), .second, .val (.long (0 : Int64)), .second, .val (.int v2)] [])) (fun t k => ?_) ?_
  · show Steps p.tables e below (T1.setTop (mkF m 8 #[.val (.ref a1), .val (.long y1), .second, .val (.long (0 : Int64)), .second, .unset] [(.int v2)])) t
    refine XS.istore X1.here hx rfl (hb hby d5_8) rfl (l' := #[.val (.ref a1), .val (.long y1), .second, .val (.long (0 : Int64)), .second, .val (.int v2)]) rfl ?_
    exact k
  exact b5_10 C fuel X1 e1 N0 (by show cells ≤ 0; omega) (by show slots ≤ 0; omega) Z1 (by omega) (by omega) y1 (0 : Int64) v2 E_a1_0 F_a1_words_0 F_a1_length_0 A_a2_0 hr
def f5 (fuel : Nat) (y1 : Int64) (q_a1_length : Int32) (q_a2 : List Int32) : Option (Int64) := g5_0 fuel y1 q_a1_length q_a2
theorem pn_5 : plainName "com/example/notewright/notewright/Natural" = true := by first | (simp [plainName, overriddenIn]; done) | decide +kernel
theorem ef_5 (m : MethodId) (y1 : Int64) (a1 : Addr) (a2 : Addr) : entryFrame m #[(.ref a1), (.long y1)] 6 = mkF m 0 #[.val (.ref a1), .val (.long y1), .second, .unset, .unset, .unset] [] := by first | (simp [entryFrame, mkF, argsToLocals, Value.category]; done) | rfl
set_option maxRecDepth 65536 in
set_option maxHeartbeats 4000000 in
theorem rm5 (l : Launch) (Z : State) (a0 : Array Value) (hw : ∀ d ∈ tables_1, d.before a0 Z = true) (ws : List Jvm.Cond) (y1 : Int64) (a1 : Addr) (a2 : Addr) (q_a1_length : Int32) (q_a2 : List Int32) (hE : Heap) (n0 : Nat) (Z0 : n0 ≤ hE.size) (o0 : n0 ≤ a1) (o1 : @LT.lt Nat instLTNat a1 a2) (E_a1_0 : Exa Z hE a1 "com/example/notewright/notewright/Natural") (F_a1_words_0 : Fld Z hE a1 "com/example/notewright/notewright/Natural" "words" "[I" (.ref a2)) (F_a1_length_0 : Fld Z hE a1 "com/example/notewright/notewright/Natural" "length" "I" (.int q_a1_length)) (A_a2_0 : AI Z hE a2 .int q_a2) (fuel : Nat) (r : Int64) (hr : f5 fuel y1 q_a1_length q_a2 = some r) :
    MetFree l (⟨"com/example/notewright/notewright/Natural", "remainder", "(J)J"⟩ : MethodName) (head1 (Jvm.Cond.code (⟨"com/example/notewright/notewright/Natural", "remainder", "(J)J"⟩ : MethodName) prog_20_method_7_code 6 (some .long) :: ws) ({ frames := 0, cells := 0, slots := 0, locals := 0 } : Room)) (fun a U => a = #[(.ref a1), (.long y1)] ∧ Z.Warmed39 U.vm ∧ U.heap = hE) (fun _ _ _ _ _ => True) (fun _ U o U' => ∃ v L, o = .returned v ∧ (P5 Z hE a1 a2 q_a1_length q_a2 n0 r v U'.heap L) ∧ FrameEnd U o U' L ({ frames := 0, cells := 0, slots := 0, locals := 0 } : Room).cells ({ frames := 0, cells := 0, slots := 0, locals := 0 } : Room).slots) := by
  refine MetFree.of_bodySF (plainFor_of_name pn_5) hisR ?_
  intro p e s m args below meth c s₁ Bd hml0 hP hK
  obtain ⟨rfl, hZ, hh⟩ := hP
  have X0 : Stand p l e ({ frames := 0, cells := 0, slots := 0, locals := 0 } : Room) s m #[(.ref a1), (.long y1)] below meth c s₁ [] 0 0 := Stand.of_body Bd
  have e0 : s₁.heap = hE := by rw [← hh, Bd.state]; rfl
  have C : Ctx p s m meth c Z a0 "com/example/notewright/notewright/Natural" prog_20_method_7_code 6 (some .long) "remainder" := ⟨Bd.exec, hZ, hw, Bd.bytes, hml0, findClass_of_methodNamed Bd.named, Bd.returns, BodyLoose.notSynchronized Bd, (name_of_methodNamed Bd.named Bd.method).1⟩
  refine Runs.via (fun t k => castTop (ef_5 m y1 a1 a2) k) (b5_0 C fuel X0 e0 (Fr.nil n0) (by show 0 ≤ 0; omega) (by show 0 ≤ 0; omega) Z0 (by omega) (by omega) y1 E_a1_0 F_a1_words_0 F_a1_length_0 A_a2_0 hr)
theorem pd_3 : parseMethodDescriptor "(J)J" = some ⟨[.long], some .long⟩ := by decide +kernel
def P0 (n0 : Nat) (r : Int32) (v : Option Value) (h : Heap) (L : List Loc) : Prop := v = some (.int r) ∧ Fr n0 L
def g0_0 (fuel : Nat) (x0 : Int32) (x1 : Int32) (x2 : Int32) (x3 : Int32) (x4 : Int32) (x5 : Int32) : Option (Int32) := (letO ((Int32.toInt64 x0) &&& (4294967295 : Int64)) fun v1 => (letO ((Int32.toInt64 x1) &&& (4294967295 : Int64)) fun v2 => (letO ((Int32.toInt64 x2) &&& (4294967295 : Int64)) fun v3 => (letO ((Int32.toInt64 x3) &&& (4294967295 : Int64)) fun v4 => (letO ((Int32.toInt64 x4) &&& (4294967295 : Int64)) fun v5 => (letO (((Int32.toInt64 (x5 &&& (2147483647 : Int32))) - ((Int32.toInt64 (x5 &&& (2147483647 : Int32))) / (2147483647 : Int64)) * (2147483647 : Int64)) + (1 : Int64)) fun v6 => ((f1 (0 : Int32)).bind fun r8 => ((f3 fuel (1 : Int64) v1 (0 : Int32) r8).bind fun r9 => ((f3 fuel v2 v3 r9.1 r9.2).bind fun r10 => ((f3 fuel v4 v5 r10.1 r10.2).bind fun r11 => (if v6 = (0 : Int64) then none else (if v6 = (0 : Int64) then none else (if v6 = (0 : Int64) then none else (if v6 = (0 : Int64) then none else (letO ((((v1 - (v1 / v6) * v6) * (v2 - (v2 / v6) * v6)) + (v3 - (v3 / v6) * v6)) - ((((v1 - (v1 / v6) * v6) * (v2 - (v2 / v6) * v6)) + (v3 - (v3 / v6) * v6)) / v6) * v6) fun v16 => (if v6 = (0 : Int64) then none else (if v6 = (0 : Int64) then none else (if v6 = (0 : Int64) then none else (letO (((v16 * (v4 - (v4 / v6) * v6)) + (v5 - (v5 / v6) * v6)) - (((v16 * (v4 - (v4 / v6) * v6)) + (v5 - (v5 / v6) * v6)) / v6) * v6) fun v20 => ((f5 fuel v6 r11.1 r11.2).bind fun r21 => (if r21 = v20 then some (1 : Int32) else some (0 : Int32))))))))))))))))))))))
set_option maxRecDepth 65536 in
set_option maxHeartbeats 4000000 in
theorem b0_0 {r : Int32} (C : Ctx p s m meth c Z a0 "com/example/notewright/notewright/NaturalRemainderPinLaw" code 23 (some .boolean) "law") (fuel : Nat) (X0 : Stand p l e room_1 s m args below meth c T0 locs cells slots) (e0 : T0.heap = h0) (N0 : Fr n0 locs) (hk : cells ≤ 0) (hn : slots ≤ 0) (Z1 : n0 ≤ h0.size) (x0 : Int32) (x1 : Int32) (x2 : Int32) (x3 : Int32) (x4 : Int32) (x5 : Int32) (hr : g0_0 fuel x0 x1 x2 x3 x4 x5 = some r) :
    Runs p e below s (P0 n0 r) 2 10 T0 (mkF m 0 #[.val (.int x0), .val (.int x1), .val (.int x2), .val (.int x3), .val (.int x4), .val (.int x5), .unset, .unset, .unset, .unset, .unset, .unset, .unset, .unset, .unset, .unset, .unset, .unset, .unset, .unset, .unset, .unset, .unset] []) := by
  unfold g0_0 at hr
  have ⟨hx, hZ, hw, hby, hml, hown, hret, hlk, hnm⟩ := C
  refine Runs.via (T' := T0) (g' := (mkF m 6 #[.val (.int x0), .val (.int x1), .val (.int x2), .val (.int x3), .val (.int x4), .val (.int x5), .unset, .unset, .unset, .unset, .unset, .unset, .unset, .unset, .unset, .unset, .unset, .unset, .unset, .unset, .unset, .unset, .unset] [(.long ((Int32.toInt64 x0) &&& (4294967295 : Int64)))])) (fun t k => ?_) ?_
  · show Steps p.tables e below (T0.setTop (mkF m 0 #[.val (.int x0), .val (.int x1), .val (.int x2), .val (.int x3), .val (.int x4), .val (.int x5), .unset, .unset, .unset, .unset, .unset, .unset, .unset, .unset, .unset, .unset, .unset, .unset, .unset, .unset, .unset, .unset, .unset] [])) t
    refine XS.iloadN X0.here hx rfl (hb hby at_0) rfl ?_
    show Steps p.tables e below (T0.setTop (mkF m 1 #[.val (.int x0), .val (.int x1), .val (.int x2), .val (.int x3), .val (.int x4), .val (.int x5), .unset, .unset, .unset, .unset, .unset, .unset, .unset, .unset, .unset, .unset, .unset, .unset, .unset, .unset, .unset, .unset, .unset] [(.int x0)])) t
    refine XS.i2l X0.here hx rfl (hb hby at_1) rfl ?_
    show Steps p.tables e below (T0.setTop (mkF m 2 #[.val (.int x0), .val (.int x1), .val (.int x2), .val (.int x3), .val (.int x4), .val (.int x5), .unset, .unset, .unset, .unset, .unset, .unset, .unset, .unset, .unset, .unset, .unset, .unset, .unset, .unset, .unset, .unset, .unset] [(.long (Int32.toInt64 x0))])) t
    refine X0.ldc2Long hx hown (mvT hZ (hw _ (List.mem_of_getElem? (i := 0) rfl))) (g := (mkF m 2 #[.val (.int x0), .val (.int x1), .val (.int x2), .val (.int x3), .val (.int x4), .val (.int x5), .unset, .unset, .unset, .unset, .unset, .unset, .unset, .unset, .unset, .unset, .unset, .unset, .unset, .unset, .unset, .unset, .unset] [(.long (Int32.toInt64 x0))])) rfl (hb hby at_2) _ ?_
    show Steps p.tables e below (T0.setTop (mkF m 5 #[.val (.int x0), .val (.int x1), .val (.int x2), .val (.int x3), .val (.int x4), .val (.int x5), .unset, .unset, .unset, .unset, .unset, .unset, .unset, .unset, .unset, .unset, .unset, .unset, .unset, .unset, .unset, .unset, .unset] [(.long (4294967295 : Int64)), (.long (Int32.toInt64 x0))])) t
    refine XS.land X0.here hx rfl (hb hby at_5) rfl ?_
    exact k
  refine letE hr ?_; intro v1 hv1 hr
  rw [← hv1]
  refine Runs.via (T' := T0) (g' := (mkF m 14 #[.val (.int x0), .val (.int x1), .val (.int x2), .val (.int x3), .val (.int x4), .val (.int x5), .val (.long v1), .second, .unset, .unset, .unset, .unset, .unset, .unset, .unset, .unset, .unset, .unset, .unset, .unset, .unset, .unset, .unset] [(.long ((Int32.toInt64 x1) &&& (4294967295 : Int64)))])) (fun t k => ?_) ?_
  · show Steps p.tables e below (T0.setTop (mkF m 6 #[.val (.int x0), .val (.int x1), .val (.int x2), .val (.int x3), .val (.int x4), .val (.int x5), .unset, .unset, .unset, .unset, .unset, .unset, .unset, .unset, .unset, .unset, .unset, .unset, .unset, .unset, .unset, .unset, .unset] [(.long v1)])) t
    refine XS.lstore X0.here hx rfl (hb hby at_6) rfl (l' := #[.val (.int x0), .val (.int x1), .val (.int x2), .val (.int x3), .val (.int x4), .val (.int x5), .val (.long v1), .second, .unset, .unset, .unset, .unset, .unset, .unset, .unset, .unset, .unset, .unset, .unset, .unset, .unset, .unset, .unset]) rfl ?_
    show Steps p.tables e below (T0.setTop (mkF m 8 #[.val (.int x0), .val (.int x1), .val (.int x2), .val (.int x3), .val (.int x4), .val (.int x5), .val (.long v1), .second, .unset, .unset, .unset, .unset, .unset, .unset, .unset, .unset, .unset, .unset, .unset, .unset, .unset, .unset, .unset] [])) t
    refine XS.iloadN X0.here hx rfl (hb hby at_8) rfl ?_
    show Steps p.tables e below (T0.setTop (mkF m 9 #[.val (.int x0), .val (.int x1), .val (.int x2), .val (.int x3), .val (.int x4), .val (.int x5), .val (.long v1), .second, .unset, .unset, .unset, .unset, .unset, .unset, .unset, .unset, .unset, .unset, .unset, .unset, .unset, .unset, .unset] [(.int x1)])) t
    refine XS.i2l X0.here hx rfl (hb hby at_9) rfl ?_
    show Steps p.tables e below (T0.setTop (mkF m 10 #[.val (.int x0), .val (.int x1), .val (.int x2), .val (.int x3), .val (.int x4), .val (.int x5), .val (.long v1), .second, .unset, .unset, .unset, .unset, .unset, .unset, .unset, .unset, .unset, .unset, .unset, .unset, .unset, .unset, .unset] [(.long (Int32.toInt64 x1))])) t
    refine X0.ldc2Long hx hown (mvT hZ (hw _ (List.mem_of_getElem? (i := 0) rfl))) (g := (mkF m 10 #[.val (.int x0), .val (.int x1), .val (.int x2), .val (.int x3), .val (.int x4), .val (.int x5), .val (.long v1), .second, .unset, .unset, .unset, .unset, .unset, .unset, .unset, .unset, .unset, .unset, .unset, .unset, .unset, .unset, .unset] [(.long (Int32.toInt64 x1))])) rfl (hb hby at_10) _ ?_
    show Steps p.tables e below (T0.setTop (mkF m 13 #[.val (.int x0), .val (.int x1), .val (.int x2), .val (.int x3), .val (.int x4), .val (.int x5), .val (.long v1), .second, .unset, .unset, .unset, .unset, .unset, .unset, .unset, .unset, .unset, .unset, .unset, .unset, .unset, .unset, .unset] [(.long (4294967295 : Int64)), (.long (Int32.toInt64 x1))])) t
    refine XS.land X0.here hx rfl (hb hby at_13) rfl ?_
    exact k
  refine letE hr ?_; intro v2 hv2 hr
  rw [← hv2]
  refine Runs.via (T' := T0) (g' := (mkF m 22 #[.val (.int x0), .val (.int x1), .val (.int x2), .val (.int x3), .val (.int x4), .val (.int x5), .val (.long v1), .second, .val (.long v2), .second, .unset, .unset, .unset, .unset, .unset, .unset, .unset, .unset, .unset, .unset, .unset, .unset, .unset] [(.long ((Int32.toInt64 x2) &&& (4294967295 : Int64)))])) (fun t k => ?_) ?_
  · show Steps p.tables e below (T0.setTop (mkF m 14 #[.val (.int x0), .val (.int x1), .val (.int x2), .val (.int x3), .val (.int x4), .val (.int x5), .val (.long v1), .second, .unset, .unset, .unset, .unset, .unset, .unset, .unset, .unset, .unset, .unset, .unset, .unset, .unset, .unset, .unset] [(.long v2)])) t
    refine XS.lstore X0.here hx rfl (hb hby at_14) rfl (l' := #[.val (.int x0), .val (.int x1), .val (.int x2), .val (.int x3), .val (.int x4), .val (.int x5), .val (.long v1), .second, .val (.long v2), .second, .unset, .unset, .unset, .unset, .unset, .unset, .unset, .unset, .unset, .unset, .unset, .unset, .unset]) rfl ?_
    show Steps p.tables e below (T0.setTop (mkF m 16 #[.val (.int x0), .val (.int x1), .val (.int x2), .val (.int x3), .val (.int x4), .val (.int x5), .val (.long v1), .second, .val (.long v2), .second, .unset, .unset, .unset, .unset, .unset, .unset, .unset, .unset, .unset, .unset, .unset, .unset, .unset] [])) t
    refine XS.iloadN X0.here hx rfl (hb hby at_16) rfl ?_
    show Steps p.tables e below (T0.setTop (mkF m 17 #[.val (.int x0), .val (.int x1), .val (.int x2), .val (.int x3), .val (.int x4), .val (.int x5), .val (.long v1), .second, .val (.long v2), .second, .unset, .unset, .unset, .unset, .unset, .unset, .unset, .unset, .unset, .unset, .unset, .unset, .unset] [(.int x2)])) t
    refine XS.i2l X0.here hx rfl (hb hby at_17) rfl ?_
    show Steps p.tables e below (T0.setTop (mkF m 18 #[.val (.int x0), .val (.int x1), .val (.int x2), .val (.int x3), .val (.int x4), .val (.int x5), .val (.long v1), .second, .val (.long v2), .second, .unset, .unset, .unset, .unset, .unset, .unset, .unset, .unset, .unset, .unset, .unset, .unset, .unset] [(.long (Int32.toInt64 x2))])) t
    refine X0.ldc2Long hx hown (mvT hZ (hw _ (List.mem_of_getElem? (i := 0) rfl))) (g := (mkF m 18 #[.val (.int x0), .val (.int x1), .val (.int x2), .val (.int x3), .val (.int x4), .val (.int x5), .val (.long v1), .second, .val (.long v2), .second, .unset, .unset, .unset, .unset, .unset, .unset, .unset, .unset, .unset, .unset, .unset, .unset, .unset] [(.long (Int32.toInt64 x2))])) rfl (hb hby at_18) _ ?_
    show Steps p.tables e below (T0.setTop (mkF m 21 #[.val (.int x0), .val (.int x1), .val (.int x2), .val (.int x3), .val (.int x4), .val (.int x5), .val (.long v1), .second, .val (.long v2), .second, .unset, .unset, .unset, .unset, .unset, .unset, .unset, .unset, .unset, .unset, .unset, .unset, .unset] [(.long (4294967295 : Int64)), (.long (Int32.toInt64 x2))])) t
    refine XS.land X0.here hx rfl (hb hby at_21) rfl ?_
    exact k
  refine letE hr ?_; intro v3 hv3 hr
  rw [← hv3]
  refine Runs.via (T' := T0) (g' := (mkF m 30 #[.val (.int x0), .val (.int x1), .val (.int x2), .val (.int x3), .val (.int x4), .val (.int x5), .val (.long v1), .second, .val (.long v2), .second, .val (.long v3), .second, .unset, .unset, .unset, .unset, .unset, .unset, .unset, .unset, .unset, .unset, .unset] [(.long ((Int32.toInt64 x3) &&& (4294967295 : Int64)))])) (fun t k => ?_) ?_
  · show Steps p.tables e below (T0.setTop (mkF m 22 #[.val (.int x0), .val (.int x1), .val (.int x2), .val (.int x3), .val (.int x4), .val (.int x5), .val (.long v1), .second, .val (.long v2), .second, .unset, .unset, .unset, .unset, .unset, .unset, .unset, .unset, .unset, .unset, .unset, .unset, .unset] [(.long v3)])) t
    refine XS.lstore X0.here hx rfl (hb hby at_22) rfl (l' := #[.val (.int x0), .val (.int x1), .val (.int x2), .val (.int x3), .val (.int x4), .val (.int x5), .val (.long v1), .second, .val (.long v2), .second, .val (.long v3), .second, .unset, .unset, .unset, .unset, .unset, .unset, .unset, .unset, .unset, .unset, .unset]) rfl ?_
    show Steps p.tables e below (T0.setTop (mkF m 24 #[.val (.int x0), .val (.int x1), .val (.int x2), .val (.int x3), .val (.int x4), .val (.int x5), .val (.long v1), .second, .val (.long v2), .second, .val (.long v3), .second, .unset, .unset, .unset, .unset, .unset, .unset, .unset, .unset, .unset, .unset, .unset] [])) t
    refine XS.iloadN X0.here hx rfl (hb hby at_24) rfl ?_
    show Steps p.tables e below (T0.setTop (mkF m 25 #[.val (.int x0), .val (.int x1), .val (.int x2), .val (.int x3), .val (.int x4), .val (.int x5), .val (.long v1), .second, .val (.long v2), .second, .val (.long v3), .second, .unset, .unset, .unset, .unset, .unset, .unset, .unset, .unset, .unset, .unset, .unset] [(.int x3)])) t
    refine XS.i2l X0.here hx rfl (hb hby at_25) rfl ?_
    show Steps p.tables e below (T0.setTop (mkF m 26 #[.val (.int x0), .val (.int x1), .val (.int x2), .val (.int x3), .val (.int x4), .val (.int x5), .val (.long v1), .second, .val (.long v2), .second, .val (.long v3), .second, .unset, .unset, .unset, .unset, .unset, .unset, .unset, .unset, .unset, .unset, .unset] [(.long (Int32.toInt64 x3))])) t
    refine X0.ldc2Long hx hown (mvT hZ (hw _ (List.mem_of_getElem? (i := 0) rfl))) (g := (mkF m 26 #[.val (.int x0), .val (.int x1), .val (.int x2), .val (.int x3), .val (.int x4), .val (.int x5), .val (.long v1), .second, .val (.long v2), .second, .val (.long v3), .second, .unset, .unset, .unset, .unset, .unset, .unset, .unset, .unset, .unset, .unset, .unset] [(.long (Int32.toInt64 x3))])) rfl (hb hby at_26) _ ?_
    show Steps p.tables e below (T0.setTop (mkF m 29 #[.val (.int x0), .val (.int x1), .val (.int x2), .val (.int x3), .val (.int x4), .val (.int x5), .val (.long v1), .second, .val (.long v2), .second, .val (.long v3), .second, .unset, .unset, .unset, .unset, .unset, .unset, .unset, .unset, .unset, .unset, .unset] [(.long (4294967295 : Int64)), (.long (Int32.toInt64 x3))])) t
    refine XS.land X0.here hx rfl (hb hby at_29) rfl ?_
    exact k
  refine letE hr ?_; intro v4 hv4 hr
  rw [← hv4]
  refine Runs.via (T' := T0) (g' := (mkF m 39 #[.val (.int x0), .val (.int x1), .val (.int x2), .val (.int x3), .val (.int x4), .val (.int x5), .val (.long v1), .second, .val (.long v2), .second, .val (.long v3), .second, .val (.long v4), .second, .unset, .unset, .unset, .unset, .unset, .unset, .unset, .unset, .unset] [(.long ((Int32.toInt64 x4) &&& (4294967295 : Int64)))])) (fun t k => ?_) ?_
  · show Steps p.tables e below (T0.setTop (mkF m 30 #[.val (.int x0), .val (.int x1), .val (.int x2), .val (.int x3), .val (.int x4), .val (.int x5), .val (.long v1), .second, .val (.long v2), .second, .val (.long v3), .second, .unset, .unset, .unset, .unset, .unset, .unset, .unset, .unset, .unset, .unset, .unset] [(.long v4)])) t
    refine XS.lstore X0.here hx rfl (hb hby at_30) rfl (l' := #[.val (.int x0), .val (.int x1), .val (.int x2), .val (.int x3), .val (.int x4), .val (.int x5), .val (.long v1), .second, .val (.long v2), .second, .val (.long v3), .second, .val (.long v4), .second, .unset, .unset, .unset, .unset, .unset, .unset, .unset, .unset, .unset]) rfl ?_
    show Steps p.tables e below (T0.setTop (mkF m 32 #[.val (.int x0), .val (.int x1), .val (.int x2), .val (.int x3), .val (.int x4), .val (.int x5), .val (.long v1), .second, .val (.long v2), .second, .val (.long v3), .second, .val (.long v4), .second, .unset, .unset, .unset, .unset, .unset, .unset, .unset, .unset, .unset] [])) t
    refine XS.iload X0.here hx rfl (hb hby at_32) rfl ?_
    show Steps p.tables e below (T0.setTop (mkF m 34 #[.val (.int x0), .val (.int x1), .val (.int x2), .val (.int x3), .val (.int x4), .val (.int x5), .val (.long v1), .second, .val (.long v2), .second, .val (.long v3), .second, .val (.long v4), .second, .unset, .unset, .unset, .unset, .unset, .unset, .unset, .unset, .unset] [(.int x4)])) t
    refine XS.i2l X0.here hx rfl (hb hby at_34) rfl ?_
    show Steps p.tables e below (T0.setTop (mkF m 35 #[.val (.int x0), .val (.int x1), .val (.int x2), .val (.int x3), .val (.int x4), .val (.int x5), .val (.long v1), .second, .val (.long v2), .second, .val (.long v3), .second, .val (.long v4), .second, .unset, .unset, .unset, .unset, .unset, .unset, .unset, .unset, .unset] [(.long (Int32.toInt64 x4))])) t
    refine X0.ldc2Long hx hown (mvT hZ (hw _ (List.mem_of_getElem? (i := 0) rfl))) (g := (mkF m 35 #[.val (.int x0), .val (.int x1), .val (.int x2), .val (.int x3), .val (.int x4), .val (.int x5), .val (.long v1), .second, .val (.long v2), .second, .val (.long v3), .second, .val (.long v4), .second, .unset, .unset, .unset, .unset, .unset, .unset, .unset, .unset, .unset] [(.long (Int32.toInt64 x4))])) rfl (hb hby at_35) _ ?_
    show Steps p.tables e below (T0.setTop (mkF m 38 #[.val (.int x0), .val (.int x1), .val (.int x2), .val (.int x3), .val (.int x4), .val (.int x5), .val (.long v1), .second, .val (.long v2), .second, .val (.long v3), .second, .val (.long v4), .second, .unset, .unset, .unset, .unset, .unset, .unset, .unset, .unset, .unset] [(.long (4294967295 : Int64)), (.long (Int32.toInt64 x4))])) t
    refine XS.land X0.here hx rfl (hb hby at_38) rfl ?_
    exact k
  refine letE hr ?_; intro v5 hv5 hr
  rw [← hv5]
  refine Runs.via (T' := T0) (g' := (mkF m 53 #[.val (.int x0), .val (.int x1), .val (.int x2), .val (.int x3), .val (.int x4), .val (.int x5), .val (.long v1), .second, .val (.long v2), .second, .val (.long v3), .second, .val (.long v4), .second, .val (.long v5), .second, .unset, .unset, .unset, .unset, .unset, .unset, .unset] [(.long (((Int32.toInt64 (x5 &&& (2147483647 : Int32))) - ((Int32.toInt64 (x5 &&& (2147483647 : Int32))) / (2147483647 : Int64)) * (2147483647 : Int64)) + (1 : Int64)))])) (fun t k => ?_) ?_
  · show Steps p.tables e below (T0.setTop (mkF m 39 #[.val (.int x0), .val (.int x1), .val (.int x2), .val (.int x3), .val (.int x4), .val (.int x5), .val (.long v1), .second, .val (.long v2), .second, .val (.long v3), .second, .val (.long v4), .second, .unset, .unset, .unset, .unset, .unset, .unset, .unset, .unset, .unset] [(.long v5)])) t
    refine XS.lstore X0.here hx rfl (hb hby at_39) rfl (l' := #[.val (.int x0), .val (.int x1), .val (.int x2), .val (.int x3), .val (.int x4), .val (.int x5), .val (.long v1), .second, .val (.long v2), .second, .val (.long v3), .second, .val (.long v4), .second, .val (.long v5), .second, .unset, .unset, .unset, .unset, .unset, .unset, .unset]) rfl ?_
    show Steps p.tables e below (T0.setTop (mkF m 41 #[.val (.int x0), .val (.int x1), .val (.int x2), .val (.int x3), .val (.int x4), .val (.int x5), .val (.long v1), .second, .val (.long v2), .second, .val (.long v3), .second, .val (.long v4), .second, .val (.long v5), .second, .unset, .unset, .unset, .unset, .unset, .unset, .unset] [])) t
    refine XS.iload X0.here hx rfl (hb hby at_41) rfl ?_
    show Steps p.tables e below (T0.setTop (mkF m 43 #[.val (.int x0), .val (.int x1), .val (.int x2), .val (.int x3), .val (.int x4), .val (.int x5), .val (.long v1), .second, .val (.long v2), .second, .val (.long v3), .second, .val (.long v4), .second, .val (.long v5), .second, .unset, .unset, .unset, .unset, .unset, .unset, .unset] [(.int x5)])) t
    refine X0.ldcInt hx hown (mvT hZ (hw _ (List.mem_of_getElem? (i := 1) rfl))) (g := (mkF m 43 #[.val (.int x0), .val (.int x1), .val (.int x2), .val (.int x3), .val (.int x4), .val (.int x5), .val (.long v1), .second, .val (.long v2), .second, .val (.long v3), .second, .val (.long v4), .second, .val (.long v5), .second, .unset, .unset, .unset, .unset, .unset, .unset, .unset] [(.int x5)])) rfl (hb hby at_43) _ ?_
    show Steps p.tables e below (T0.setTop (mkF m 45 #[.val (.int x0), .val (.int x1), .val (.int x2), .val (.int x3), .val (.int x4), .val (.int x5), .val (.long v1), .second, .val (.long v2), .second, .val (.long v3), .second, .val (.long v4), .second, .val (.long v5), .second, .unset, .unset, .unset, .unset, .unset, .unset, .unset] [(.int (2147483647 : Int32)), (.int x5)])) t
    refine XS.iand X0.here hx rfl (hb hby at_45) rfl ?_
    show Steps p.tables e below (T0.setTop (mkF m 46 #[.val (.int x0), .val (.int x1), .val (.int x2), .val (.int x3), .val (.int x4), .val (.int x5), .val (.long v1), .second, .val (.long v2), .second, .val (.long v3), .second, .val (.long v4), .second, .val (.long v5), .second, .unset, .unset, .unset, .unset, .unset, .unset, .unset] [(.int (x5 &&& (2147483647 : Int32)))])) t
    refine XS.i2l X0.here hx rfl (hb hby at_46) rfl ?_
    show Steps p.tables e below (T0.setTop (mkF m 47 #[.val (.int x0), .val (.int x1), .val (.int x2), .val (.int x3), .val (.int x4), .val (.int x5), .val (.long v1), .second, .val (.long v2), .second, .val (.long v3), .second, .val (.long v4), .second, .val (.long v5), .second, .unset, .unset, .unset, .unset, .unset, .unset, .unset] [(.long (Int32.toInt64 (x5 &&& (2147483647 : Int32))))])) t
    refine X0.ldc2Long hx hown (mvT hZ (hw _ (List.mem_of_getElem? (i := 2) rfl))) (g := (mkF m 47 #[.val (.int x0), .val (.int x1), .val (.int x2), .val (.int x3), .val (.int x4), .val (.int x5), .val (.long v1), .second, .val (.long v2), .second, .val (.long v3), .second, .val (.long v4), .second, .val (.long v5), .second, .unset, .unset, .unset, .unset, .unset, .unset, .unset] [(.long (Int32.toInt64 (x5 &&& (2147483647 : Int32))))])) rfl (hb hby at_47) _ ?_
    show Steps p.tables e below (T0.setTop (mkF m 50 #[.val (.int x0), .val (.int x1), .val (.int x2), .val (.int x3), .val (.int x4), .val (.int x5), .val (.long v1), .second, .val (.long v2), .second, .val (.long v3), .second, .val (.long v4), .second, .val (.long v5), .second, .unset, .unset, .unset, .unset, .unset, .unset, .unset] [(.long (2147483647 : Int64)), (.long (Int32.toInt64 (x5 &&& (2147483647 : Int32))))])) t
    refine XS.lrem X0.here hx rfl (hb hby at_50) rfl (by decide) ?_
    show Steps p.tables e below (T0.setTop (mkF m 51 #[.val (.int x0), .val (.int x1), .val (.int x2), .val (.int x3), .val (.int x4), .val (.int x5), .val (.long v1), .second, .val (.long v2), .second, .val (.long v3), .second, .val (.long v4), .second, .val (.long v5), .second, .unset, .unset, .unset, .unset, .unset, .unset, .unset] [(.long ((Int32.toInt64 (x5 &&& (2147483647 : Int32))) - ((Int32.toInt64 (x5 &&& (2147483647 : Int32))) / (2147483647 : Int64)) * (2147483647 : Int64)))])) t
    refine XS.lconst X0.here hx rfl (hb hby at_51) ?_
    show Steps p.tables e below (T0.setTop (mkF m 52 #[.val (.int x0), .val (.int x1), .val (.int x2), .val (.int x3), .val (.int x4), .val (.int x5), .val (.long v1), .second, .val (.long v2), .second, .val (.long v3), .second, .val (.long v4), .second, .val (.long v5), .second, .unset, .unset, .unset, .unset, .unset, .unset, .unset] [(.long (1 : Int64)), (.long ((Int32.toInt64 (x5 &&& (2147483647 : Int32))) - ((Int32.toInt64 (x5 &&& (2147483647 : Int32))) / (2147483647 : Int64)) * (2147483647 : Int64)))])) t
    refine XS.ladd X0.here hx rfl (hb hby at_52) rfl ?_
    exact k
  refine letE hr ?_; intro v6 hv6 hr
  rw [← hv6]
  refine Runs.via (T' := T0) (g' := (mkF m 55 #[.val (.int x0), .val (.int x1), .val (.int x2), .val (.int x3), .val (.int x4), .val (.int x5), .val (.long v1), .second, .val (.long v2), .second, .val (.long v3), .second, .val (.long v4), .second, .val (.long v5), .second, .val (.long v6), .second, .unset, .unset, .unset, .unset, .unset] [])) (fun t k => ?_) ?_
  · show Steps p.tables e below (T0.setTop (mkF m 53 #[.val (.int x0), .val (.int x1), .val (.int x2), .val (.int x3), .val (.int x4), .val (.int x5), .val (.long v1), .second, .val (.long v2), .second, .val (.long v3), .second, .val (.long v4), .second, .val (.long v5), .second, .unset, .unset, .unset, .unset, .unset, .unset, .unset] [(.long v6)])) t
    refine XS.lstore X0.here hx rfl (hb hby at_53) rfl (l' := #[.val (.int x0), .val (.int x1), .val (.int x2), .val (.int x3), .val (.int x4), .val (.int x5), .val (.long v1), .second, .val (.long v2), .second, .val (.long v3), .second, .val (.long v4), .second, .val (.long v5), .second, .val (.long v6), .second, .unset, .unset, .unset, .unset, .unset]) rfl ?_
    exact k
  obtain ⟨T7, h7, X7, e7, E7, A7, D7, -, st7⟩ := newO X0 hx hZ hown (hw _ (List.mem_of_getElem? (i := 3) rfl)) (hw _ (List.mem_of_getElem? (i := 4) rfl)) (hw _ (List.mem_of_getElem? (i := 5) rfl)) e0 (g := (mkF m 55 #[.val (.int x0), .val (.int x1), .val (.int x2), .val (.int x3), .val (.int x4), .val (.int x5), .val (.long v1), .second, .val (.long v2), .second, .val (.long v3), .second, .val (.long v4), .second, .val (.long v5), .second, .val (.long v6), .second, .unset, .unset, .unset, .unset, .unset] [])) rfl (hb hby at_55) (by show cells + 1 ≤ 16; omega) (by show slots + 2 ≤ 128; omega)
  obtain ⟨b55, g7⟩ : ∃ z, z = h0.size := ⟨_, rfl⟩
  rw [← g7] at A7 D7 st7
  have i7 := E7.1
  have zz7 : n0 ≤ h7.size := Nat.le_trans Z1 i7
  have E_b55_7 := A7
  have F_b55_words_7 : Fld Z h7 b55 "com/example/notewright/notewright/Natural" "words" "[I" .null := D7 (Or.inl (hw _ (List.mem_of_getElem? (i := 14) rfl))) (ty := (.array .int)) (by decide)
  have F_b55_length_7 : Fld Z h7 b55 "com/example/notewright/notewright/Natural" "length" "I" (.int (0 : Int32)) := D7 (Or.inl (hw _ (List.mem_of_getElem? (i := 21) rfl))) (ty := .int) (by decide)
  have sb55 : n0 ≤ b55 := by omega
  refine Runs.via (T' := T7) (g' := (mkF m 58 #[.val (.int x0), .val (.int x1), .val (.int x2), .val (.int x3), .val (.int x4), .val (.int x5), .val (.long v1), .second, .val (.long v2), .second, .val (.long v3), .second, .val (.long v4), .second, .val (.long v5), .second, .val (.long v6), .second, .unset, .unset, .unset, .unset, .unset] [(.ref b55)])) (fun t k => st7 _ k) ?_
  refine Runs.via (T' := T7) (g' := (mkF m 59 #[.val (.int x0), .val (.int x1), .val (.int x2), .val (.int x3), .val (.int x4), .val (.int x5), .val (.long v1), .second, .val (.long v2), .second, .val (.long v3), .second, .val (.long v4), .second, .val (.long v5), .second, .val (.long v6), .second, .unset, .unset, .unset, .unset, .unset] [(.ref b55), (.ref b55)])) (fun t k => ?_) ?_
  · show Steps p.tables e below (T7.setTop (mkF m 58 #[.val (.int x0), .val (.int x1), .val (.int x2), .val (.int x3), .val (.int x4), .val (.int x5), .val (.long v1), .second, .val (.long v2), .second, .val (.long v3), .second, .val (.long v4), .second, .val (.long v5), .second, .val (.long v6), .second, .unset, .unset, .unset, .unset, .unset] [(.ref b55)])) t
    refine XS.dup X7.here hx rfl (hb hby at_58) rfl rfl ?_
    exact k
  refine bindE hr ?_; intro r8 hr8m hr
  obtain ⟨_, _, ⟨T8, L8, k8, n8⟩, -, X8, ⟨Lc8, hQ8, l8, y8, z8⟩, st8⟩ := X7.specialBack hx (y := (⟨"com/example/notewright/notewright/Natural", "<init>", "()V"⟩ : MethodName)) rfl hown (mvT hZ (hw _ (List.mem_of_getElem? (i := 6) rfl))) (mvT hZ (hw _ (List.mem_of_getElem? (i := 7) rfl))) (mvT hZ (hw _ (List.mem_of_getElem? (i := 8) rfl))) (by decide) (backOf (W := 1) (rm1 l Z a0 hw [] b55 (0 : Int32) h7 n0 zz7 (by omega) E_b55_7 F_b55_words_7 F_b55_length_7 r8 hr8m) hZ (hw _ (List.mem_of_getElem? (i := 8) rfl)) (hw _ (List.mem_of_getElem? (i := 5) rfl)) (by decide) (by decide)) (g := (mkF m 59 #[.val (.int x0), .val (.int x1), .val (.int x2), .val (.int x3), .val (.int x4), .val (.int x5), .val (.long v1), .second, .val (.long v2), .second, .val (.long v3), .second, .val (.long v4), .second, .val (.long v5), .second, .val (.long v6), .second, .unset, .unset, .unset, .unset, .unset] [(.ref b55), (.ref b55)])) rfl (by rw [hml]; rfl) (Steps.refl _) (a := b55) (argsL := []) (rest := [(.ref b55)]) (lenOf pd_0 rfl) rfl (by show 2 * 0 + _ ≤ _; exact Nat.le_of_eq rfl) (hb hby at_59) (fun _ _ => ⟨rfl, e7, (by show (cells + 1) + 1 ≤ 16; omega), (by show (slots + 2) + 8 ≤ 128; omega)⟩)
  dsimp only [Pt.U, Pt.locs, Pt.cells, Pt.slots] at X8 l8 y8 z8 st8 hQ8
  replace y8 := y8.symm; replace z8 := z8.symm; subst l8 y8 z8
  obtain ⟨h8, e8⟩ : ∃ z, T8.heap = z := ⟨_, rfl⟩
  rw [e8] at hQ8
  obtain ⟨b59_0, rfl, N8q, K8q, zn8_0, E_b55_8, F_b55_words_8, F_b55_length_8, A_b59_0_8⟩ := hQ8
  have N8 := Fr.app N0 N8q
  have pn8 : @LT.lt Nat instLTNat b55 b59_0 := by have : @LT.lt Nat instLTNat _ _ := E_b55_7.lt; omega
  have sn8_0 : n0 ≤ b59_0 := by omega
  have zz8 : n0 ≤ h8.size := Nat.le_trans zz7 K8q.1
  refine Runs.via (T' := T8) (g' := (mkF m 62 #[.val (.int x0), .val (.int x1), .val (.int x2), .val (.int x3), .val (.int x4), .val (.int x5), .val (.long v1), .second, .val (.long v2), .second, .val (.long v3), .second, .val (.long v4), .second, .val (.long v5), .second, .val (.long v6), .second, .unset, .unset, .unset, .unset, .unset] [(.ref b55)])) (fun t k => st8.trans k) ?_
  refine Runs.via (T' := T8) (g' := (mkF m 69 #[.val (.int x0), .val (.int x1), .val (.int x2), .val (.int x3), .val (.int x4), .val (.int x5), .val (.long v1), .second, .val (.long v2), .second, .val (.long v3), .second, .val (.long v4), .second, .val (.long v5), .second, .val (.long v6), .second, .val (.ref b55), .unset, .unset, .unset, .unset] [(.long v1), (.long (1 : Int64)), (.ref b55)])) (fun t k => ?_) ?_
  · show Steps p.tables e below (T8.setTop (mkF m 62 #[.val (.int x0), .val (.int x1), .val (.int x2), .val (.int x3), .val (.int x4), .val (.int x5), .val (.long v1), .second, .val (.long v2), .second, .val (.long v3), .second, .val (.long v4), .second, .val (.long v5), .second, .val (.long v6), .second, .unset, .unset, .unset, .unset, .unset] [(.ref b55)])) t
    refine XS.astore X8.here hx rfl (hb hby at_62) rfl rfl (l' := #[.val (.int x0), .val (.int x1), .val (.int x2), .val (.int x3), .val (.int x4), .val (.int x5), .val (.long v1), .second, .val (.long v2), .second, .val (.long v3), .second, .val (.long v4), .second, .val (.long v5), .second, .val (.long v6), .second, .val (.ref b55), .unset, .unset, .unset, .unset]) rfl ?_
    show Steps p.tables e below (T8.setTop (mkF m 64 #[.val (.int x0), .val (.int x1), .val (.int x2), .val (.int x3), .val (.int x4), .val (.int x5), .val (.long v1), .second, .val (.long v2), .second, .val (.long v3), .second, .val (.long v4), .second, .val (.long v5), .second, .val (.long v6), .second, .val (.ref b55), .unset, .unset, .unset, .unset] [])) t
    refine XS.aload X8.here hx rfl (hb hby at_64) rfl rfl ?_
    show Steps p.tables e below (T8.setTop (mkF m 66 #[.val (.int x0), .val (.int x1), .val (.int x2), .val (.int x3), .val (.int x4), .val (.int x5), .val (.long v1), .second, .val (.long v2), .second, .val (.long v3), .second, .val (.long v4), .second, .val (.long v5), .second, .val (.long v6), .second, .val (.ref b55), .unset, .unset, .unset, .unset] [(.ref b55)])) t
    refine XS.lconst X8.here hx rfl (hb hby at_66) ?_
    show Steps p.tables e below (T8.setTop (mkF m 67 #[.val (.int x0), .val (.int x1), .val (.int x2), .val (.int x3), .val (.int x4), .val (.int x5), .val (.long v1), .second, .val (.long v2), .second, .val (.long v3), .second, .val (.long v4), .second, .val (.long v5), .second, .val (.long v6), .second, .val (.ref b55), .unset, .unset, .unset, .unset] [(.long (1 : Int64)), (.ref b55)])) t
    refine XS.lload X8.here hx rfl (hb hby at_67) rfl ?_
    exact k
  refine bindE hr ?_; intro r9 hr9m hr
  obtain ⟨cq9, kq9, q9a, q9b, q9c⟩ := isOf hZ e8 E_b55_8
  obtain ⟨_, _, ⟨T9, L9, k9, n9⟩, -, X9, ⟨Lc9, hQ9, l9, y9, z9⟩, st9⟩ := X8.virtualBack hx (y := (⟨"com/example/notewright/notewright/Natural", "multiplyAdd", "(JJ)V"⟩ : MethodName)) (z := (⟨"com/example/notewright/notewright/Natural", "multiplyAdd", "(JJ)V"⟩ : MethodName)) hown (mvT hZ (hw _ (List.mem_of_getElem? (i := 15) rfl))) (mvT hZ (hw _ (List.mem_of_getElem? (i := 16) rfl))) (notFace_of_selects (args := #[]) (mvT hZ (hw _ (List.mem_of_getElem? (i := 18) rfl)))) (mvT hZ (hw _ (List.mem_of_getElem? (i := 18) rfl))) (mvT hZ (hw _ (List.mem_of_getElem? (i := 17) rfl))) (by decide) (backOf (W := 0) (rm3 l Z a0 hw [] (1 : Int64) v1 b55 b59_0 (0 : Int32) r8 h8 n0 zz8 (by omega) (by omega) E_b55_8 F_b55_words_8 F_b55_length_8 A_b59_0_8 fuel r9 hr9m) hZ (hw _ (List.mem_of_getElem? (i := 19) rfl)) (hw _ (List.mem_of_getElem? (i := 5) rfl)) (by decide) (by decide)) q9a q9c (g := (mkF m 69 #[.val (.int x0), .val (.int x1), .val (.int x2), .val (.int x3), .val (.int x4), .val (.int x5), .val (.long v1), .second, .val (.long v2), .second, .val (.long v3), .second, .val (.long v4), .second, .val (.long v5), .second, .val (.long v6), .second, .val (.ref b55), .unset, .unset, .unset, .unset] [(.long v1), (.long (1 : Int64)), (.ref b55)])) rfl (by rw [hml]; rfl) (Steps.refl _) (argsL := [(.long (1 : Int64)), (.long v1)]) (rest := []) (lenOf pd_2 rfl) rfl (by show 2 * 0 + _ ≤ _; exact Nat.le_of_eq rfl) (hb hby at_69) (fun _ _ => ⟨rfl, e8, (by show ((cells + 1) + 1) + 0 ≤ 16; omega), (by show ((slots + 2) + 8) + 0 ≤ 128; omega)⟩)
  dsimp only [Pt.U, Pt.locs, Pt.cells, Pt.slots] at X9 l9 y9 z9 st9 hQ9
  replace y9 := y9.symm; replace z9 := z9.symm; subst l9 y9 z9
  obtain ⟨h9, e9⟩ : ∃ z, T9.heap = z := ⟨_, rfl⟩
  rw [e9] at hQ9
  obtain ⟨rfl, N9q, K9q, E_b55_9, F_b55_words_9, F_b55_length_9, A_b59_0_9⟩ := hQ9
  have N9 := Fr.app N8 N9q
  have zz9 : n0 ≤ h9.size := Nat.le_trans zz8 K9q.1
  refine Runs.via (T' := T9) (g' := (mkF m 72 #[.val (.int x0), .val (.int x1), .val (.int x2), .val (.int x3), .val (.int x4), .val (.int x5), .val (.long v1), .second, .val (.long v2), .second, .val (.long v3), .second, .val (.long v4), .second, .val (.long v5), .second, .val (.long v6), .second, .val (.ref b55), .unset, .unset, .unset, .unset] [])) (fun t k => st9.trans k) ?_
  refine Runs.via (T' := T9) (g' := (mkF m 78 #[.val (.int x0), .val (.int x1), .val (.int x2), .val (.int x3), .val (.int x4), .val (.int x5), .val (.long v1), .second, .val (.long v2), .second, .val (.long v3), .second, .val (.long v4), .second, .val (.long v5), .second, .val (.long v6), .second, .val (.ref b55), .unset, .unset, .unset, .unset] [(.long v3), (.long v2), (.ref b55)])) (fun t k => ?_) ?_
  · show Steps p.tables e below (T9.setTop (mkF m 72 #[.val (.int x0), .val (.int x1), .val (.int x2), .val (.int x3), .val (.int x4), .val (.int x5), .val (.long v1), .second, .val (.long v2), .second, .val (.long v3), .second, .val (.long v4), .second, .val (.long v5), .second, .val (.long v6), .second, .val (.ref b55), .unset, .unset, .unset, .unset] [])) t
    refine XS.aload X9.here hx rfl (hb hby at_72) rfl rfl ?_
    show Steps p.tables e below (T9.setTop (mkF m 74 #[.val (.int x0), .val (.int x1), .val (.int x2), .val (.int x3), .val (.int x4), .val (.int x5), .val (.long v1), .second, .val (.long v2), .second, .val (.long v3), .second, .val (.long v4), .second, .val (.long v5), .second, .val (.long v6), .second, .val (.ref b55), .unset, .unset, .unset, .unset] [(.ref b55)])) t
    refine XS.lload X9.here hx rfl (hb hby at_74) rfl ?_
    show Steps p.tables e below (T9.setTop (mkF m 76 #[.val (.int x0), .val (.int x1), .val (.int x2), .val (.int x3), .val (.int x4), .val (.int x5), .val (.long v1), .second, .val (.long v2), .second, .val (.long v3), .second, .val (.long v4), .second, .val (.long v5), .second, .val (.long v6), .second, .val (.ref b55), .unset, .unset, .unset, .unset] [(.long v2), (.ref b55)])) t
    refine XS.lload X9.here hx rfl (hb hby at_76) rfl ?_
    exact k
  refine bindE hr ?_; intro r10 hr10m hr
  obtain ⟨cq10, kq10, q10a, q10b, q10c⟩ := isOf hZ e9 E_b55_9
  obtain ⟨_, _, ⟨T10, L10, k10, n10⟩, -, X10, ⟨Lc10, hQ10, l10, y10, z10⟩, st10⟩ := X9.virtualBack hx (y := (⟨"com/example/notewright/notewright/Natural", "multiplyAdd", "(JJ)V"⟩ : MethodName)) (z := (⟨"com/example/notewright/notewright/Natural", "multiplyAdd", "(JJ)V"⟩ : MethodName)) hown (mvT hZ (hw _ (List.mem_of_getElem? (i := 15) rfl))) (mvT hZ (hw _ (List.mem_of_getElem? (i := 16) rfl))) (notFace_of_selects (args := #[]) (mvT hZ (hw _ (List.mem_of_getElem? (i := 18) rfl)))) (mvT hZ (hw _ (List.mem_of_getElem? (i := 18) rfl))) (mvT hZ (hw _ (List.mem_of_getElem? (i := 17) rfl))) (by decide) (backOf (W := 0) (rm3 l Z a0 hw [] v2 v3 b55 b59_0 r9.1 r9.2 h9 n0 zz9 (by omega) (by omega) E_b55_9 F_b55_words_9 F_b55_length_9 A_b59_0_9 fuel r10 hr10m) hZ (hw _ (List.mem_of_getElem? (i := 19) rfl)) (hw _ (List.mem_of_getElem? (i := 5) rfl)) (by decide) (by decide)) q10a q10c (g := (mkF m 78 #[.val (.int x0), .val (.int x1), .val (.int x2), .val (.int x3), .val (.int x4), .val (.int x5), .val (.long v1), .second, .val (.long v2), .second, .val (.long v3), .second, .val (.long v4), .second, .val (.long v5), .second, .val (.long v6), .second, .val (.ref b55), .unset, .unset, .unset, .unset] [(.long v3), (.long v2), (.ref b55)])) rfl (by rw [hml]; rfl) (Steps.refl _) (argsL := [(.long v2), (.long v3)]) (rest := []) (lenOf pd_2 rfl) rfl (by show 2 * 0 + _ ≤ _; exact Nat.le_of_eq rfl) (hb hby at_78) (fun _ _ => ⟨rfl, e9, (by show (((cells + 1) + 1) + 0) + 0 ≤ 16; omega), (by show (((slots + 2) + 8) + 0) + 0 ≤ 128; omega)⟩)
  dsimp only [Pt.U, Pt.locs, Pt.cells, Pt.slots] at X10 l10 y10 z10 st10 hQ10
  replace y10 := y10.symm; replace z10 := z10.symm; subst l10 y10 z10
  obtain ⟨h10, e10⟩ : ∃ z, T10.heap = z := ⟨_, rfl⟩
  rw [e10] at hQ10
  obtain ⟨rfl, N10q, K10q, E_b55_10, F_b55_words_10, F_b55_length_10, A_b59_0_10⟩ := hQ10
  have N10 := Fr.app N9 N10q
  have zz10 : n0 ≤ h10.size := Nat.le_trans zz9 K10q.1
  refine Runs.via (T' := T10) (g' := (mkF m 81 #[.val (.int x0), .val (.int x1), .val (.int x2), .val (.int x3), .val (.int x4), .val (.int x5), .val (.long v1), .second, .val (.long v2), .second, .val (.long v3), .second, .val (.long v4), .second, .val (.long v5), .second, .val (.long v6), .second, .val (.ref b55), .unset, .unset, .unset, .unset] [])) (fun t k => st10.trans k) ?_
  refine Runs.via (T' := T10) (g' := (mkF m 87 #[.val (.int x0), .val (.int x1), .val (.int x2), .val (.int x3), .val (.int x4), .val (.int x5), .val (.long v1), .second, .val (.long v2), .second, .val (.long v3), .second, .val (.long v4), .second, .val (.long v5), .second, .val (.long v6), .second, .val (.ref b55), .unset, .unset, .unset, .unset] [(.long v5), (.long v4), (.ref b55)])) (fun t k => ?_) ?_
  · show Steps p.tables e below (T10.setTop (mkF m 81 #[.val (.int x0), .val (.int x1), .val (.int x2), .val (.int x3), .val (.int x4), .val (.int x5), .val (.long v1), .second, .val (.long v2), .second, .val (.long v3), .second, .val (.long v4), .second, .val (.long v5), .second, .val (.long v6), .second, .val (.ref b55), .unset, .unset, .unset, .unset] [])) t
    refine XS.aload X10.here hx rfl (hb hby at_81) rfl rfl ?_
    show Steps p.tables e below (T10.setTop (mkF m 83 #[.val (.int x0), .val (.int x1), .val (.int x2), .val (.int x3), .val (.int x4), .val (.int x5), .val (.long v1), .second, .val (.long v2), .second, .val (.long v3), .second, .val (.long v4), .second, .val (.long v5), .second, .val (.long v6), .second, .val (.ref b55), .unset, .unset, .unset, .unset] [(.ref b55)])) t
    refine XS.lload X10.here hx rfl (hb hby at_83) rfl ?_
    show Steps p.tables e below (T10.setTop (mkF m 85 #[.val (.int x0), .val (.int x1), .val (.int x2), .val (.int x3), .val (.int x4), .val (.int x5), .val (.long v1), .second, .val (.long v2), .second, .val (.long v3), .second, .val (.long v4), .second, .val (.long v5), .second, .val (.long v6), .second, .val (.ref b55), .unset, .unset, .unset, .unset] [(.long v4), (.ref b55)])) t
    refine XS.lload X10.here hx rfl (hb hby at_85) rfl ?_
    exact k
  refine bindE hr ?_; intro r11 hr11m hr
  obtain ⟨cq11, kq11, q11a, q11b, q11c⟩ := isOf hZ e10 E_b55_10
  obtain ⟨_, _, ⟨T11, L11, k11, n11⟩, -, X11, ⟨Lc11, hQ11, l11, y11, z11⟩, st11⟩ := X10.virtualBack hx (y := (⟨"com/example/notewright/notewright/Natural", "multiplyAdd", "(JJ)V"⟩ : MethodName)) (z := (⟨"com/example/notewright/notewright/Natural", "multiplyAdd", "(JJ)V"⟩ : MethodName)) hown (mvT hZ (hw _ (List.mem_of_getElem? (i := 15) rfl))) (mvT hZ (hw _ (List.mem_of_getElem? (i := 16) rfl))) (notFace_of_selects (args := #[]) (mvT hZ (hw _ (List.mem_of_getElem? (i := 18) rfl)))) (mvT hZ (hw _ (List.mem_of_getElem? (i := 18) rfl))) (mvT hZ (hw _ (List.mem_of_getElem? (i := 17) rfl))) (by decide) (backOf (W := 0) (rm3 l Z a0 hw [] v4 v5 b55 b59_0 r10.1 r10.2 h10 n0 zz10 (by omega) (by omega) E_b55_10 F_b55_words_10 F_b55_length_10 A_b59_0_10 fuel r11 hr11m) hZ (hw _ (List.mem_of_getElem? (i := 19) rfl)) (hw _ (List.mem_of_getElem? (i := 5) rfl)) (by decide) (by decide)) q11a q11c (g := (mkF m 87 #[.val (.int x0), .val (.int x1), .val (.int x2), .val (.int x3), .val (.int x4), .val (.int x5), .val (.long v1), .second, .val (.long v2), .second, .val (.long v3), .second, .val (.long v4), .second, .val (.long v5), .second, .val (.long v6), .second, .val (.ref b55), .unset, .unset, .unset, .unset] [(.long v5), (.long v4), (.ref b55)])) rfl (by rw [hml]; rfl) (Steps.refl _) (argsL := [(.long v4), (.long v5)]) (rest := []) (lenOf pd_2 rfl) rfl (by show 2 * 0 + _ ≤ _; exact Nat.le_of_eq rfl) (hb hby at_87) (fun _ _ => ⟨rfl, e10, (by show ((((cells + 1) + 1) + 0) + 0) + 0 ≤ 16; omega), (by show ((((slots + 2) + 8) + 0) + 0) + 0 ≤ 128; omega)⟩)
  dsimp only [Pt.U, Pt.locs, Pt.cells, Pt.slots] at X11 l11 y11 z11 st11 hQ11
  replace y11 := y11.symm; replace z11 := z11.symm; subst l11 y11 z11
  obtain ⟨h11, e11⟩ : ∃ z, T11.heap = z := ⟨_, rfl⟩
  rw [e11] at hQ11
  obtain ⟨rfl, N11q, K11q, E_b55_11, F_b55_words_11, F_b55_length_11, A_b59_0_11⟩ := hQ11
  have N11 := Fr.app N10 N11q
  have zz11 : n0 ≤ h11.size := Nat.le_trans zz10 K11q.1
  refine Runs.via (T' := T11) (g' := (mkF m 90 #[.val (.int x0), .val (.int x1), .val (.int x2), .val (.int x3), .val (.int x4), .val (.int x5), .val (.long v1), .second, .val (.long v2), .second, .val (.long v3), .second, .val (.long v4), .second, .val (.long v5), .second, .val (.long v6), .second, .val (.ref b55), .unset, .unset, .unset, .unset] [])) (fun t k => st11.trans k) ?_
  refine Runs.via (T' := T11) (g' := (mkF m 94 #[.val (.int x0), .val (.int x1), .val (.int x2), .val (.int x3), .val (.int x4), .val (.int x5), .val (.long v1), .second, .val (.long v2), .second, .val (.long v3), .second, .val (.long v4), .second, .val (.long v5), .second, .val (.long v6), .second, .val (.ref b55), .unset, .unset, .unset, .unset] [(.long v6), (.long v1)])) (fun t k => ?_) ?_
  · show Steps p.tables e below (T11.setTop (mkF m 90 #[.val (.int x0), .val (.int x1), .val (.int x2), .val (.int x3), .val (.int x4), .val (.int x5), .val (.long v1), .second, .val (.long v2), .second, .val (.long v3), .second, .val (.long v4), .second, .val (.long v5), .second, .val (.long v6), .second, .val (.ref b55), .unset, .unset, .unset, .unset] [])) t
    refine XS.lload X11.here hx rfl (hb hby at_90) rfl ?_
    show Steps p.tables e below (T11.setTop (mkF m 92 #[.val (.int x0), .val (.int x1), .val (.int x2), .val (.int x3), .val (.int x4), .val (.int x5), .val (.long v1), .second, .val (.long v2), .second, .val (.long v3), .second, .val (.long v4), .second, .val (.long v5), .second, .val (.long v6), .second, .val (.ref b55), .unset, .unset, .unset, .unset] [(.long v1)])) t
    refine XS.lload X11.here hx rfl (hb hby at_92) rfl ?_
    exact k
  refine iteE hr (fun hz12 hr => nomatch hr) (fun hz12 hr => ?_)
  refine Runs.via (T' := T11) (g' := (mkF m 99 #[.val (.int x0), .val (.int x1), .val (.int x2), .val (.int x3), .val (.int x4), .val (.int x5), .val (.long v1), .second, .val (.long v2), .second, .val (.long v3), .second, .val (.long v4), .second, .val (.long v5), .second, .val (.long v6), .second, .val (.ref b55), .unset, .unset, .unset, .unset] [(.long v6), (.long v2), (.long (v1 - (v1 / v6) * v6))])) (fun t k => ?_) ?_
  · show Steps p.tables e below (T11.setTop (mkF m 94 #[.val (.int x0), .val (.int x1), .val (.int x2), .val (.int x3), .val (.int x4), .val (.int x5), .val (.long v1), .second, .val (.long v2), .second, .val (.long v3), .second, .val (.long v4), .second, .val (.long v5), .second, .val (.long v6), .second, .val (.ref b55), .unset, .unset, .unset, .unset] [(.long v6), (.long v1)])) t
    refine XS.lrem X11.here hx rfl (hb hby at_94) rfl hz12 ?_
    show Steps p.tables e below (T11.setTop (mkF m 95 #[.val (.int x0), .val (.int x1), .val (.int x2), .val (.int x3), .val (.int x4), .val (.int x5), .val (.long v1), .second, .val (.long v2), .second, .val (.long v3), .second, .val (.long v4), .second, .val (.long v5), .second, .val (.long v6), .second, .val (.ref b55), .unset, .unset, .unset, .unset] [(.long (v1 - (v1 / v6) * v6))])) t
    refine XS.lload X11.here hx rfl (hb hby at_95) rfl ?_
    show Steps p.tables e below (T11.setTop (mkF m 97 #[.val (.int x0), .val (.int x1), .val (.int x2), .val (.int x3), .val (.int x4), .val (.int x5), .val (.long v1), .second, .val (.long v2), .second, .val (.long v3), .second, .val (.long v4), .second, .val (.long v5), .second, .val (.long v6), .second, .val (.ref b55), .unset, .unset, .unset, .unset] [(.long v2), (.long (v1 - (v1 / v6) * v6))])) t
    refine XS.lload X11.here hx rfl (hb hby at_97) rfl ?_
    exact k
  refine iteE hr (fun hz13 hr => nomatch hr) (fun hz13 hr => ?_)
  refine Runs.via (T' := T11) (g' := (mkF m 105 #[.val (.int x0), .val (.int x1), .val (.int x2), .val (.int x3), .val (.int x4), .val (.int x5), .val (.long v1), .second, .val (.long v2), .second, .val (.long v3), .second, .val (.long v4), .second, .val (.long v5), .second, .val (.long v6), .second, .val (.ref b55), .unset, .unset, .unset, .unset] [(.long v6), (.long v3), (.long ((v1 - (v1 / v6) * v6) * (v2 - (v2 / v6) * v6)))])) (fun t k => ?_) ?_
  · show Steps p.tables e below (T11.setTop (mkF m 99 #[.val (.int x0), .val (.int x1), .val (.int x2), .val (.int x3), .val (.int x4), .val (.int x5), .val (.long v1), .second, .val (.long v2), .second, .val (.long v3), .second, .val (.long v4), .second, .val (.long v5), .second, .val (.long v6), .second, .val (.ref b55), .unset, .unset, .unset, .unset] [(.long v6), (.long v2), (.long (v1 - (v1 / v6) * v6))])) t
    refine XS.lrem X11.here hx rfl (hb hby at_99) rfl hz13 ?_
    show Steps p.tables e below (T11.setTop (mkF m 100 #[.val (.int x0), .val (.int x1), .val (.int x2), .val (.int x3), .val (.int x4), .val (.int x5), .val (.long v1), .second, .val (.long v2), .second, .val (.long v3), .second, .val (.long v4), .second, .val (.long v5), .second, .val (.long v6), .second, .val (.ref b55), .unset, .unset, .unset, .unset] [(.long (v2 - (v2 / v6) * v6)), (.long (v1 - (v1 / v6) * v6))])) t
    refine XS.lmul X11.here hx rfl (hb hby at_100) rfl ?_
    show Steps p.tables e below (T11.setTop (mkF m 101 #[.val (.int x0), .val (.int x1), .val (.int x2), .val (.int x3), .val (.int x4), .val (.int x5), .val (.long v1), .second, .val (.long v2), .second, .val (.long v3), .second, .val (.long v4), .second, .val (.long v5), .second, .val (.long v6), .second, .val (.ref b55), .unset, .unset, .unset, .unset] [(.long ((v1 - (v1 / v6) * v6) * (v2 - (v2 / v6) * v6)))])) t
    refine XS.lload X11.here hx rfl (hb hby at_101) rfl ?_
    show Steps p.tables e below (T11.setTop (mkF m 103 #[.val (.int x0), .val (.int x1), .val (.int x2), .val (.int x3), .val (.int x4), .val (.int x5), .val (.long v1), .second, .val (.long v2), .second, .val (.long v3), .second, .val (.long v4), .second, .val (.long v5), .second, .val (.long v6), .second, .val (.ref b55), .unset, .unset, .unset, .unset] [(.long v3), (.long ((v1 - (v1 / v6) * v6) * (v2 - (v2 / v6) * v6)))])) t
    refine XS.lload X11.here hx rfl (hb hby at_103) rfl ?_
    exact k
  refine iteE hr (fun hz14 hr => nomatch hr) (fun hz14 hr => ?_)
  refine Runs.via (T' := T11) (g' := (mkF m 109 #[.val (.int x0), .val (.int x1), .val (.int x2), .val (.int x3), .val (.int x4), .val (.int x5), .val (.long v1), .second, .val (.long v2), .second, .val (.long v3), .second, .val (.long v4), .second, .val (.long v5), .second, .val (.long v6), .second, .val (.ref b55), .unset, .unset, .unset, .unset] [(.long v6), (.long (((v1 - (v1 / v6) * v6) * (v2 - (v2 / v6) * v6)) + (v3 - (v3 / v6) * v6)))])) (fun t k => ?_) ?_
  · show Steps p.tables e below (T11.setTop (mkF m 105 #[.val (.int x0), .val (.int x1), .val (.int x2), .val (.int x3), .val (.int x4), .val (.int x5), .val (.long v1), .second, .val (.long v2), .second, .val (.long v3), .second, .val (.long v4), .second, .val (.long v5), .second, .val (.long v6), .second, .val (.ref b55), .unset, .unset, .unset, .unset] [(.long v6), (.long v3), (.long ((v1 - (v1 / v6) * v6) * (v2 - (v2 / v6) * v6)))])) t
    refine XS.lrem X11.here hx rfl (hb hby at_105) rfl hz14 ?_
    show Steps p.tables e below (T11.setTop (mkF m 106 #[.val (.int x0), .val (.int x1), .val (.int x2), .val (.int x3), .val (.int x4), .val (.int x5), .val (.long v1), .second, .val (.long v2), .second, .val (.long v3), .second, .val (.long v4), .second, .val (.long v5), .second, .val (.long v6), .second, .val (.ref b55), .unset, .unset, .unset, .unset] [(.long (v3 - (v3 / v6) * v6)), (.long ((v1 - (v1 / v6) * v6) * (v2 - (v2 / v6) * v6)))])) t
    refine XS.ladd X11.here hx rfl (hb hby at_106) rfl ?_
    show Steps p.tables e below (T11.setTop (mkF m 107 #[.val (.int x0), .val (.int x1), .val (.int x2), .val (.int x3), .val (.int x4), .val (.int x5), .val (.long v1), .second, .val (.long v2), .second, .val (.long v3), .second, .val (.long v4), .second, .val (.long v5), .second, .val (.long v6), .second, .val (.ref b55), .unset, .unset, .unset, .unset] [(.long (((v1 - (v1 / v6) * v6) * (v2 - (v2 / v6) * v6)) + (v3 - (v3 / v6) * v6)))])) t
    refine XS.lload X11.here hx rfl (hb hby at_107) rfl ?_
    exact k
  refine iteE hr (fun hz15 hr => nomatch hr) (fun hz15 hr => ?_)
  refine Runs.via (T' := T11) (g' := (mkF m 110 #[.val (.int x0), .val (.int x1), .val (.int x2), .val (.int x3), .val (.int x4), .val (.int x5), .val (.long v1), .second, .val (.long v2), .second, .val (.long v3), .second, .val (.long v4), .second, .val (.long v5), .second, .val (.long v6), .second, .val (.ref b55), .unset, .unset, .unset, .unset] [(.long ((((v1 - (v1 / v6) * v6) * (v2 - (v2 / v6) * v6)) + (v3 - (v3 / v6) * v6)) - ((((v1 - (v1 / v6) * v6) * (v2 - (v2 / v6) * v6)) + (v3 - (v3 / v6) * v6)) / v6) * v6))])) (fun t k => ?_) ?_
  · show Steps p.tables e below (T11.setTop (mkF m 109 #[.val (.int x0), .val (.int x1), .val (.int x2), .val (.int x3), .val (.int x4), .val (.int x5), .val (.long v1), .second, .val (.long v2), .second, .val (.long v3), .second, .val (.long v4), .second, .val (.long v5), .second, .val (.long v6), .second, .val (.ref b55), .unset, .unset, .unset, .unset] [(.long v6), (.long (((v1 - (v1 / v6) * v6) * (v2 - (v2 / v6) * v6)) + (v3 - (v3 / v6) * v6)))])) t
    refine XS.lrem X11.here hx rfl (hb hby at_109) rfl hz15 ?_
    exact k
  refine letE hr ?_; intro v16 hv16 hr
  rw [← hv16]
  refine Runs.via (T' := T11) (g' := (mkF m 118 #[.val (.int x0), .val (.int x1), .val (.int x2), .val (.int x3), .val (.int x4), .val (.int x5), .val (.long v1), .second, .val (.long v2), .second, .val (.long v3), .second, .val (.long v4), .second, .val (.long v5), .second, .val (.long v6), .second, .val (.ref b55), .val (.long v16), .second, .unset, .unset] [(.long v6), (.long v4), (.long v16)])) (fun t k => ?_) ?_
  · show Steps p.tables e below (T11.setTop (mkF m 110 #[.val (.int x0), .val (.int x1), .val (.int x2), .val (.int x3), .val (.int x4), .val (.int x5), .val (.long v1), .second, .val (.long v2), .second, .val (.long v3), .second, .val (.long v4), .second, .val (.long v5), .second, .val (.long v6), .second, .val (.ref b55), .unset, .unset, .unset, .unset] [(.long v16)])) t
    refine XS.lstore X11.here hx rfl (hb hby at_110) rfl (l' := #[.val (.int x0), .val (.int x1), .val (.int x2), .val (.int x3), .val (.int x4), .val (.int x5), .val (.long v1), .second, .val (.long v2), .second, .val (.long v3), .second, .val (.long v4), .second, .val (.long v5), .second, .val (.long v6), .second, .val (.ref b55), .val (.long v16), .second, .unset, .unset]) rfl ?_
    show Steps p.tables e below (T11.setTop (mkF m 112 #[.val (.int x0), .val (.int x1), .val (.int x2), .val (.int x3), .val (.int x4), .val (.int x5), .val (.long v1), .second, .val (.long v2), .second, .val (.long v3), .second, .val (.long v4), .second, .val (.long v5), .second, .val (.long v6), .second, .val (.ref b55), .val (.long v16), .second, .unset, .unset] [])) t
    refine XS.lload X11.here hx rfl (hb hby at_112) rfl ?_
    show Steps p.tables e below (T11.setTop (mkF m 114 #[.val (.int x0), .val (.int x1), .val (.int x2), .val (.int x3), .val (.int x4), .val (.int x5), .val (.long v1), .second, .val (.long v2), .second, .val (.long v3), .second, .val (.long v4), .second, .val (.long v5), .second, .val (.long v6), .second, .val (.ref b55), .val (.long v16), .second, .unset, .unset] [(.long v16)])) t
    refine XS.lload X11.here hx rfl (hb hby at_114) rfl ?_
    show Steps p.tables e below (T11.setTop (mkF m 116 #[.val (.int x0), .val (.int x1), .val (.int x2), .val (.int x3), .val (.int x4), .val (.int x5), .val (.long v1), .second, .val (.long v2), .second, .val (.long v3), .second, .val (.long v4), .second, .val (.long v5), .second, .val (.long v6), .second, .val (.ref b55), .val (.long v16), .second, .unset, .unset] [(.long v4), (.long v16)])) t
    refine XS.lload X11.here hx rfl (hb hby at_116) rfl ?_
    exact k
  refine iteE hr (fun hz17 hr => nomatch hr) (fun hz17 hr => ?_)
  refine Runs.via (T' := T11) (g' := (mkF m 124 #[.val (.int x0), .val (.int x1), .val (.int x2), .val (.int x3), .val (.int x4), .val (.int x5), .val (.long v1), .second, .val (.long v2), .second, .val (.long v3), .second, .val (.long v4), .second, .val (.long v5), .second, .val (.long v6), .second, .val (.ref b55), .val (.long v16), .second, .unset, .unset] [(.long v6), (.long v5), (.long (v16 * (v4 - (v4 / v6) * v6)))])) (fun t k => ?_) ?_
  · show Steps p.tables e below (T11.setTop (mkF m 118 #[.val (.int x0), .val (.int x1), .val (.int x2), .val (.int x3), .val (.int x4), .val (.int x5), .val (.long v1), .second, .val (.long v2), .second, .val (.long v3), .second, .val (.long v4), .second, .val (.long v5), .second, .val (.long v6), .second, .val (.ref b55), .val (.long v16), .second, .unset, .unset] [(.long v6), (.long v4), (.long v16)])) t
    refine XS.lrem X11.here hx rfl (hb hby at_118) rfl hz17 ?_
    show Steps p.tables e below (T11.setTop (mkF m 119 #[.val (.int x0), .val (.int x1), .val (.int x2), .val (.int x3), .val (.int x4), .val (.int x5), .val (.long v1), .second, .val (.long v2), .second, .val (.long v3), .second, .val (.long v4), .second, .val (.long v5), .second, .val (.long v6), .second, .val (.ref b55), .val (.long v16), .second, .unset, .unset] [(.long (v4 - (v4 / v6) * v6)), (.long v16)])) t
    refine XS.lmul X11.here hx rfl (hb hby at_119) rfl ?_
    show Steps p.tables e below (T11.setTop (mkF m 120 #[.val (.int x0), .val (.int x1), .val (.int x2), .val (.int x3), .val (.int x4), .val (.int x5), .val (.long v1), .second, .val (.long v2), .second, .val (.long v3), .second, .val (.long v4), .second, .val (.long v5), .second, .val (.long v6), .second, .val (.ref b55), .val (.long v16), .second, .unset, .unset] [(.long (v16 * (v4 - (v4 / v6) * v6)))])) t
    refine XS.lload X11.here hx rfl (hb hby at_120) rfl ?_
    show Steps p.tables e below (T11.setTop (mkF m 122 #[.val (.int x0), .val (.int x1), .val (.int x2), .val (.int x3), .val (.int x4), .val (.int x5), .val (.long v1), .second, .val (.long v2), .second, .val (.long v3), .second, .val (.long v4), .second, .val (.long v5), .second, .val (.long v6), .second, .val (.ref b55), .val (.long v16), .second, .unset, .unset] [(.long v5), (.long (v16 * (v4 - (v4 / v6) * v6)))])) t
    refine XS.lload X11.here hx rfl (hb hby at_122) rfl ?_
    exact k
  refine iteE hr (fun hz18 hr => nomatch hr) (fun hz18 hr => ?_)
  refine Runs.via (T' := T11) (g' := (mkF m 128 #[.val (.int x0), .val (.int x1), .val (.int x2), .val (.int x3), .val (.int x4), .val (.int x5), .val (.long v1), .second, .val (.long v2), .second, .val (.long v3), .second, .val (.long v4), .second, .val (.long v5), .second, .val (.long v6), .second, .val (.ref b55), .val (.long v16), .second, .unset, .unset] [(.long v6), (.long ((v16 * (v4 - (v4 / v6) * v6)) + (v5 - (v5 / v6) * v6)))])) (fun t k => ?_) ?_
  · show Steps p.tables e below (T11.setTop (mkF m 124 #[.val (.int x0), .val (.int x1), .val (.int x2), .val (.int x3), .val (.int x4), .val (.int x5), .val (.long v1), .second, .val (.long v2), .second, .val (.long v3), .second, .val (.long v4), .second, .val (.long v5), .second, .val (.long v6), .second, .val (.ref b55), .val (.long v16), .second, .unset, .unset] [(.long v6), (.long v5), (.long (v16 * (v4 - (v4 / v6) * v6)))])) t
    refine XS.lrem X11.here hx rfl (hb hby at_124) rfl hz18 ?_
    show Steps p.tables e below (T11.setTop (mkF m 125 #[.val (.int x0), .val (.int x1), .val (.int x2), .val (.int x3), .val (.int x4), .val (.int x5), .val (.long v1), .second, .val (.long v2), .second, .val (.long v3), .second, .val (.long v4), .second, .val (.long v5), .second, .val (.long v6), .second, .val (.ref b55), .val (.long v16), .second, .unset, .unset] [(.long (v5 - (v5 / v6) * v6)), (.long (v16 * (v4 - (v4 / v6) * v6)))])) t
    refine XS.ladd X11.here hx rfl (hb hby at_125) rfl ?_
    show Steps p.tables e below (T11.setTop (mkF m 126 #[.val (.int x0), .val (.int x1), .val (.int x2), .val (.int x3), .val (.int x4), .val (.int x5), .val (.long v1), .second, .val (.long v2), .second, .val (.long v3), .second, .val (.long v4), .second, .val (.long v5), .second, .val (.long v6), .second, .val (.ref b55), .val (.long v16), .second, .unset, .unset] [(.long ((v16 * (v4 - (v4 / v6) * v6)) + (v5 - (v5 / v6) * v6)))])) t
    refine XS.lload X11.here hx rfl (hb hby at_126) rfl ?_
    exact k
  refine iteE hr (fun hz19 hr => nomatch hr) (fun hz19 hr => ?_)
  refine Runs.via (T' := T11) (g' := (mkF m 129 #[.val (.int x0), .val (.int x1), .val (.int x2), .val (.int x3), .val (.int x4), .val (.int x5), .val (.long v1), .second, .val (.long v2), .second, .val (.long v3), .second, .val (.long v4), .second, .val (.long v5), .second, .val (.long v6), .second, .val (.ref b55), .val (.long v16), .second, .unset, .unset] [(.long (((v16 * (v4 - (v4 / v6) * v6)) + (v5 - (v5 / v6) * v6)) - (((v16 * (v4 - (v4 / v6) * v6)) + (v5 - (v5 / v6) * v6)) / v6) * v6))])) (fun t k => ?_) ?_
  · show Steps p.tables e below (T11.setTop (mkF m 128 #[.val (.int x0), .val (.int x1), .val (.int x2), .val (.int x3), .val (.int x4), .val (.int x5), .val (.long v1), .second, .val (.long v2), .second, .val (.long v3), .second, .val (.long v4), .second, .val (.long v5), .second, .val (.long v6), .second, .val (.ref b55), .val (.long v16), .second, .unset, .unset] [(.long v6), (.long ((v16 * (v4 - (v4 / v6) * v6)) + (v5 - (v5 / v6) * v6)))])) t
    refine XS.lrem X11.here hx rfl (hb hby at_128) rfl hz19 ?_
    exact k
  refine letE hr ?_; intro v20 hv20 hr
  rw [← hv20]
  refine Runs.via (T' := T11) (g' := (mkF m 135 #[.val (.int x0), .val (.int x1), .val (.int x2), .val (.int x3), .val (.int x4), .val (.int x5), .val (.long v1), .second, .val (.long v2), .second, .val (.long v3), .second, .val (.long v4), .second, .val (.long v5), .second, .val (.long v6), .second, .val (.ref b55), .val (.long v16), .second, .val (.long v20), .second] [(.long v6), (.ref b55)])) (fun t k => ?_) ?_
  · show Steps p.tables e below (T11.setTop (mkF m 129 #[.val (.int x0), .val (.int x1), .val (.int x2), .val (.int x3), .val (.int x4), .val (.int x5), .val (.long v1), .second, .val (.long v2), .second, .val (.long v3), .second, .val (.long v4), .second, .val (.long v5), .second, .val (.long v6), .second, .val (.ref b55), .val (.long v16), .second, .unset, .unset] [(.long v20)])) t
    refine XS.lstore X11.here hx rfl (hb hby at_129) rfl (l' := #[.val (.int x0), .val (.int x1), .val (.int x2), .val (.int x3), .val (.int x4), .val (.int x5), .val (.long v1), .second, .val (.long v2), .second, .val (.long v3), .second, .val (.long v4), .second, .val (.long v5), .second, .val (.long v6), .second, .val (.ref b55), .val (.long v16), .second, .val (.long v20), .second]) rfl ?_
    show Steps p.tables e below (T11.setTop (mkF m 131 #[.val (.int x0), .val (.int x1), .val (.int x2), .val (.int x3), .val (.int x4), .val (.int x5), .val (.long v1), .second, .val (.long v2), .second, .val (.long v3), .second, .val (.long v4), .second, .val (.long v5), .second, .val (.long v6), .second, .val (.ref b55), .val (.long v16), .second, .val (.long v20), .second] [])) t
    refine XS.aload X11.here hx rfl (hb hby at_131) rfl rfl ?_
    show Steps p.tables e below (T11.setTop (mkF m 133 #[.val (.int x0), .val (.int x1), .val (.int x2), .val (.int x3), .val (.int x4), .val (.int x5), .val (.long v1), .second, .val (.long v2), .second, .val (.long v3), .second, .val (.long v4), .second, .val (.long v5), .second, .val (.long v6), .second, .val (.ref b55), .val (.long v16), .second, .val (.long v20), .second] [(.ref b55)])) t
    refine XS.lload X11.here hx rfl (hb hby at_133) rfl ?_
    exact k
  refine bindE hr ?_; intro r21 hr21m hr
  obtain ⟨cq21, kq21, q21a, q21b, q21c⟩ := isOf hZ e11 E_b55_11
  obtain ⟨_, _, ⟨T21, L21, k21, n21⟩, -, X21, ⟨Lc21, hQ21, l21, y21, z21⟩, st21⟩ := X11.virtualBack hx (y := (⟨"com/example/notewright/notewright/Natural", "remainder", "(J)J"⟩ : MethodName)) (z := (⟨"com/example/notewright/notewright/Natural", "remainder", "(J)J"⟩ : MethodName)) hown (mvT hZ (hw _ (List.mem_of_getElem? (i := 27) rfl))) (mvT hZ (hw _ (List.mem_of_getElem? (i := 28) rfl))) (notFace_of_selects (args := #[]) (mvT hZ (hw _ (List.mem_of_getElem? (i := 30) rfl)))) (mvT hZ (hw _ (List.mem_of_getElem? (i := 30) rfl))) (mvT hZ (hw _ (List.mem_of_getElem? (i := 29) rfl))) (by decide) (backOf (W := 0) (rm5 l Z a0 hw [] v6 b55 b59_0 r11.1 r11.2 h11 n0 zz11 (by omega) (by omega) E_b55_11 F_b55_words_11 F_b55_length_11 A_b59_0_11 fuel r21 hr21m) hZ (hw _ (List.mem_of_getElem? (i := 31) rfl)) (hw _ (List.mem_of_getElem? (i := 5) rfl)) (by decide) (by decide)) q21a q21c (g := (mkF m 135 #[.val (.int x0), .val (.int x1), .val (.int x2), .val (.int x3), .val (.int x4), .val (.int x5), .val (.long v1), .second, .val (.long v2), .second, .val (.long v3), .second, .val (.long v4), .second, .val (.long v5), .second, .val (.long v6), .second, .val (.ref b55), .val (.long v16), .second, .val (.long v20), .second] [(.long v6), (.ref b55)])) rfl (by rw [hml]; rfl) (Steps.refl _) (argsL := [(.long v6)]) (rest := []) (lenOf pd_3 rfl) rfl (by show 2 * 0 + _ ≤ _; exact Nat.le_of_eq rfl) (hb hby at_135) (fun _ _ => ⟨rfl, e11, (by show (((((cells + 1) + 1) + 0) + 0) + 0) + 0 ≤ 16; omega), (by show (((((slots + 2) + 8) + 0) + 0) + 0) + 0 ≤ 128; omega)⟩)
  dsimp only [Pt.U, Pt.locs, Pt.cells, Pt.slots] at X21 l21 y21 z21 st21 hQ21
  replace y21 := y21.symm; replace z21 := z21.symm; subst l21 y21 z21
  obtain ⟨rfl, N21q, e21⟩ := hQ21
  have N21 := Fr.app N11 N21q
  refine Runs.via (T' := T21) (g' := (mkF m 138 #[.val (.int x0), .val (.int x1), .val (.int x2), .val (.int x3), .val (.int x4), .val (.int x5), .val (.long v1), .second, .val (.long v2), .second, .val (.long v3), .second, .val (.long v4), .second, .val (.long v5), .second, .val (.long v6), .second, .val (.ref b55), .val (.long v16), .second, .val (.long v20), .second] [(.long r21)])) (fun t k => st21.trans k) ?_
  refine Runs.via (T' := T21) (g' := (mkF m 141 #[.val (.int x0), .val (.int x1), .val (.int x2), .val (.int x3), .val (.int x4), .val (.int x5), .val (.long v1), .second, .val (.long v2), .second, .val (.long v3), .second, .val (.long v4), .second, .val (.long v5), .second, .val (.long v6), .second, .val (.ref b55), .val (.long v16), .second, .val (.long v20), .second] [(.int (lcmpW r21 v20))])) (fun t k => ?_) ?_
  · show Steps p.tables e below (T21.setTop (mkF m 138 #[.val (.int x0), .val (.int x1), .val (.int x2), .val (.int x3), .val (.int x4), .val (.int x5), .val (.long v1), .second, .val (.long v2), .second, .val (.long v3), .second, .val (.long v4), .second, .val (.long v5), .second, .val (.long v6), .second, .val (.ref b55), .val (.long v16), .second, .val (.long v20), .second] [(.long r21)])) t
    refine XS.lload X21.here hx rfl (hb hby at_138) rfl ?_
    show Steps p.tables e below (T21.setTop (mkF m 140 #[.val (.int x0), .val (.int x1), .val (.int x2), .val (.int x3), .val (.int x4), .val (.int x5), .val (.long v1), .second, .val (.long v2), .second, .val (.long v3), .second, .val (.long v4), .second, .val (.long v5), .second, .val (.long v6), .second, .val (.ref b55), .val (.long v16), .second, .val (.long v20), .second] [(.long v20), (.long r21)])) t
    refine XS.lcmp X21.here hx rfl (hb hby at_140) rfl ?_
    exact k
  refine iteE hr (fun hc22 hr => ?_) (fun hc22 hr => ?_)
  · refine Runs.via (T' := T21) (g' := (mkF m 144 #[.val (.int x0), .val (.int x1), .val (.int x2), .val (.int x3), .val (.int x4), .val (.int x5), .val (.long v1), .second, .val (.long v2), .second, .val (.long v3), .second, .val (.long v4), .second, .val (.long v5), .second, .val (.long v6), .second, .val (.ref b55), .val (.long v16), .second, .val (.long v20), .second] [])) (fun t k => ?_) ?_
    · show Steps p.tables e below (T21.setTop (mkF m 141 #[.val (.int x0), .val (.int x1), .val (.int x2), .val (.int x3), .val (.int x4), .val (.int x5), .val (.long v1), .second, .val (.long v2), .second, .val (.long v3), .second, .val (.long v4), .second, .val (.long v5), .second, .val (.long v6), .second, .val (.ref b55), .val (.long v16), .second, .val (.long v20), .second] [(.int (lcmpW r21 v20))])) t
      exact XS.ifNo X21.here hx rfl (hb hby at_141) rfl ((if0 _ _).trans (teq ((lw_eq _ _).mpr hc22)).2) k
    refine Runs.via (T' := T21) (g' := (mkF m 149 #[.val (.int x0), .val (.int x1), .val (.int x2), .val (.int x3), .val (.int x4), .val (.int x5), .val (.long v1), .second, .val (.long v2), .second, .val (.long v3), .second, .val (.long v4), .second, .val (.long v5), .second, .val (.long v6), .second, .val (.ref b55), .val (.long v16), .second, .val (.long v20), .second] [(.int (1 : Int32))])) (fun t k => ?_) ?_
    · show Steps p.tables e below (T21.setTop (mkF m 144 #[.val (.int x0), .val (.int x1), .val (.int x2), .val (.int x3), .val (.int x4), .val (.int x5), .val (.long v1), .second, .val (.long v2), .second, .val (.long v3), .second, .val (.long v4), .second, .val (.long v5), .second, .val (.long v6), .second, .val (.ref b55), .val (.long v16), .second, .val (.long v20), .second] [])) t
      refine XS.iconst X21.here hx rfl (hb hby at_144) ?_
      show Steps p.tables e below (T21.setTop (mkF m 145 #[.val (.int x0), .val (.int x1), .val (.int x2), .val (.int x3), .val (.int x4), .val (.int x5), .val (.long v1), .second, .val (.long v2), .second, .val (.long v3), .second, .val (.long v4), .second, .val (.long v5), .second, .val (.long v6), .second, .val (.ref b55), .val (.long v16), .second, .val (.long v20), .second] [(.int (1 : Int32))])) t
      refine XS.goto X21.here hx rfl (pc0 := 145) (pc' := 149) rfl (hb hby at_145) (by decide) (by decide) ?_
      exact k
    obtain rfl := Option.some.inj hr
    exact own_retN X21 hx hlk (t := .boolean) hret (by simp) (hb hby at_149) (by show ((((((cells + 1) + 1) + 0) + 0) + 0) + 0) ≤ 2; omega) (by show ((((((slots + 2) + 8) + 0) + 0) + 0) + 0) ≤ 10; omega) ⟨rfl, N21⟩
  · refine Runs.via (T' := T21) (g' := (mkF m 148 #[.val (.int x0), .val (.int x1), .val (.int x2), .val (.int x3), .val (.int x4), .val (.int x5), .val (.long v1), .second, .val (.long v2), .second, .val (.long v3), .second, .val (.long v4), .second, .val (.long v5), .second, .val (.long v6), .second, .val (.ref b55), .val (.long v16), .second, .val (.long v20), .second] [])) (fun t k => ?_) ?_
    · show Steps p.tables e below (T21.setTop (mkF m 141 #[.val (.int x0), .val (.int x1), .val (.int x2), .val (.int x3), .val (.int x4), .val (.int x5), .val (.long v1), .second, .val (.long v2), .second, .val (.long v3), .second, .val (.long v4), .second, .val (.long v5), .second, .val (.long v6), .second, .val (.ref b55), .val (.long v16), .second, .val (.long v20), .second] [(.int (lcmpW r21 v20))])) t
      exact XS.ifYes X21.here hx rfl (pc0 := 141) (pc' := 148) rfl (hb hby at_141) rfl ((if0 _ _).trans (feq (fun q => hc22 ((lw_eq _ _).mp q))).2) (by decide) (by decide) k
    refine Runs.via (T' := T21) (g' := (mkF m 149 #[.val (.int x0), .val (.int x1), .val (.int x2), .val (.int x3), .val (.int x4), .val (.int x5), .val (.long v1), .second, .val (.long v2), .second, .val (.long v3), .second, .val (.long v4), .second, .val (.long v5), .second, .val (.long v6), .second, .val (.ref b55), .val (.long v16), .second, .val (.long v20), .second] [(.int (0 : Int32))])) (fun t k => ?_) ?_
    · show Steps p.tables e below (T21.setTop (mkF m 148 #[.val (.int x0), .val (.int x1), .val (.int x2), .val (.int x3), .val (.int x4), .val (.int x5), .val (.long v1), .second, .val (.long v2), .second, .val (.long v3), .second, .val (.long v4), .second, .val (.long v5), .second, .val (.long v6), .second, .val (.ref b55), .val (.long v16), .second, .val (.long v20), .second] [])) t
      refine XS.iconst X21.here hx rfl (hb hby at_148) ?_
      exact k
    obtain rfl := Option.some.inj hr
    exact own_retN X21 hx hlk (t := .boolean) hret (by simp) (hb hby at_149) (by show ((((((cells + 1) + 1) + 0) + 0) + 0) + 0) ≤ 2; omega) (by show ((((((slots + 2) + 8) + 0) + 0) + 0) + 0) ≤ 10; omega) ⟨rfl, N21⟩
def f0 (fuel : Nat) (x0 : Int32) (x1 : Int32) (x2 : Int32) (x3 : Int32) (x4 : Int32) (x5 : Int32) : Option (Int32) := g0_0 fuel x0 x1 x2 x3 x4 x5
theorem pn_0 : plainName "com/example/notewright/notewright/NaturalRemainderPinLaw" = true := by first | (simp [plainName, overriddenIn]; done) | decide +kernel
theorem ef_0 (m : MethodId) (x0 : Int32) (x1 : Int32) (x2 : Int32) (x3 : Int32) (x4 : Int32) (x5 : Int32) : entryFrame m #[(.int x0), (.int x1), (.int x2), (.int x3), (.int x4), (.int x5)] maxLocals = mkF m 0 #[.val (.int x0), .val (.int x1), .val (.int x2), .val (.int x3), .val (.int x4), .val (.int x5), .unset, .unset, .unset, .unset, .unset, .unset, .unset, .unset, .unset, .unset, .unset, .unset, .unset, .unset, .unset, .unset, .unset] [] := by first | (simp [entryFrame, mkF, argsToLocals, Value.category, maxLocals]; done) | rfl
set_option maxRecDepth 65536 in
set_option maxHeartbeats 4000000 in
theorem rm0 (l : Launch) (Z : State) (a0 : Array Value) (hw : ∀ d ∈ tables_1, d.before a0 Z = true) (ws : List Jvm.Cond) (x0 : Int32) (x1 : Int32) (x2 : Int32) (x3 : Int32) (x4 : Int32) (x5 : Int32) (hE : Heap) (n0 : Nat) (Z0 : n0 ≤ hE.size) (fuel : Nat) (r : Int32) (hr : f0 fuel x0 x1 x2 x3 x4 x5 = some r) :
    MetFree l x (head1 (Jvm.Cond.code x code maxLocals ret :: ws) room_1) (fun a U => a = #[(.int x0), (.int x1), (.int x2), (.int x3), (.int x4), (.int x5)] ∧ Z.Warmed39 U.vm ∧ U.heap = hE) (fun _ _ _ _ _ => True) (fun _ U o U' => ∃ v L, o = .returned v ∧ (P0 n0 r v U'.heap L) ∧ FrameEnd U o U' L 2 10) := by
  refine MetFree.of_bodySF (plainFor_of_name pn_0) hisR ?_
  intro p e s m args below meth c s₁ Bd hml0 hP hK
  obtain ⟨rfl, hZ, hh⟩ := hP
  have X0 : Stand p l e room_1 s m #[(.int x0), (.int x1), (.int x2), (.int x3), (.int x4), (.int x5)] below meth c s₁ [] 0 0 := Stand.of_body Bd
  have e0 : s₁.heap = hE := by rw [← hh, Bd.state]; rfl
  have C : Ctx p s m meth c Z a0 "com/example/notewright/notewright/NaturalRemainderPinLaw" code 23 (some .boolean) "law" := ⟨Bd.exec, hZ, hw, Bd.bytes, hml0, findClass_of_methodNamed Bd.named, Bd.returns, BodyLoose.notSynchronized Bd, (name_of_methodNamed Bd.named Bd.method).1⟩
  refine Runs.via (fun t k => castTop (ef_0 m x0 x1 x2 x3 x4 x5) k) (b0_0 C fuel X0 e0 (Fr.nil n0) (by show 0 ≤ 0; omega) (by show 0 ≤ 0; omega) Z0 x0 x1 x2 x3 x4 x5 hr)
end Own
theorem bindS {α β : Type} {x : Option α} {k : α → Option β} {r : Option β} {v : α} (h : x = some v) (H : k v = r) : x.bind k = r := by rw [h]; exact H
theorem letS {α β : Type} {x : α} {k : α → β} {r : β} (H : k x = r) : letO x k = r := H
def own_U (w : Int32) : Int := w.toInt % 4294967296
def own_V : List Int32 → Int
  | [] => 0
  | w :: r => own_U w + 4294967296 * own_V r
theorem own_of {i : Nat} (h : i ≤ 8) : (Int32.ofNat i).toInt = i ∧ (Int32.ofNat i).toNatClampNeg = i ∧ ¬ (Int32.ofNat i) < 0 ∧ Int32.ofNat i + 1 = Int32.ofNat (i + 1) ∧ Int32.ofNat (i + 1) - 1 = Int32.ofNat i ∧ Int32.ofNat i + (-1) = Int32.ofNat i - 1 := by
  have : ∀ j : Fin 9, (Int32.ofNat j.val).toInt = (j.val : Int) ∧ (Int32.ofNat j.val).toNatClampNeg = j.val ∧ ¬ (Int32.ofNat j.val) < 0 ∧ Int32.ofNat j.val + 1 = Int32.ofNat (j.val + 1) ∧ Int32.ofNat (j.val + 1) - 1 = Int32.ofNat j.val ∧ Int32.ofNat j.val + (-1) = Int32.ofNat j.val - 1 := by decide +kernel
  exact this ⟨i, by omega⟩
theorem own_rd {α : Type} (xs : List α) {i : Nat} (h : i ≤ 8) : rdO xs (Int32.ofNat i) = xs[i]? := by
  obtain ⟨-, h2, h3, -⟩ := own_of h
  unfold rdO
  rw [if_neg h3, h2]
theorem own_wr {α : Type} (xs : List α) (v : α) {i : Nat} (h : i < 8) (hl : xs.length = 8) : wrO xs (Int32.ofNat i) v = some (xs.set i v) := by
  obtain ⟨-, h2, h3, -⟩ := own_of (Nat.le_of_lt h)
  unfold wrO
  rw [h2, if_neg]
  rintro (q | q)
  · exact h3 q
  · omega
theorem own_sfx {ws : List Int32} {n i : Nat} {w : Int32} (hi : i < n) (h : ws[i]? = some w) : (ws.take n).drop i = w :: (ws.take n).drop (i + 1) := by
  have h2 : (ws.take n)[i]? = some w := by rw [List.getElem?_take, if_pos hi]; exact h
  obtain ⟨hl, he⟩ := List.getElem?_eq_some_iff.mp h2
  rw [List.drop_eq_getElem_cons hl, he]
theorem own_mask (w : Int32) : ((Int32.toInt64 w) &&& (4294967295 : Int64)).toInt = own_U w := by
  rw [c_maskL (Int32.toInt64 w) 4294967295 32 (by decide) (by decide), c_i2l]
  rfl
theorem own_U_rng (w : Int32) : 0 ≤ own_U w ∧ own_U w < 4294967296 := ⟨Int.emod_nonneg _ (by decide), Int.emod_lt_of_pos _ (by decide)⟩
/-- one word times the factor, and the carry -/
theorem own_step (w : Int32) (f c : Int64) (hf : 0 ≤ f.toInt ∧ f.toInt < 4294967296) (hc : 0 ≤ c.toInt ∧ c.toInt < 4294967296) :
    ∃ v5 v8 : Int64, v5 = (((Int32.toInt64 w) &&& (4294967295 : Int64)) * f) + c ∧ v8 = ((v5.toUInt64 >>> ((32 : Int32) &&& 0x3f).toInt64.toUInt64).toInt64) ∧ 0 ≤ v8.toInt ∧ v8.toInt < 4294967296 ∧ own_U (Int64.toInt32 v5) + 4294967296 * v8.toInt = own_U w * f.toInt + c.toInt := by
  refine ⟨_, _, rfl, rfl, ?_⟩
  have hm := own_mask w
  have hu := own_U_rng w
  generalize ((Int32.toInt64 w) &&& (4294967295 : Int64)) = a at hm
  have e1 := c_lmul a f
  have e2 := c_ladd (a * f) c
  rw [hm] at e1
  have p1 : 0 ≤ own_U w * f.toInt := Int.mul_nonneg hu.1 hf.1
  have p2 : own_U w * f.toInt ≤ 4294967295 * 4294967295 := Int.mul_le_mul (by omega) (by omega) hf.1 (by decide)
  generalize own_U w * f.toInt = p at *
  have e3 := c_lushr (a * f + c) 32 32 (by decide) (by decide)
  have e4 := c_l2i (a * f + c)
  rw [e3]
  unfold own_U
  have hp : ((2 ^ 32 : Nat) : Int) = 4294967296 := by decide
  rw [hp]
  generalize (a * f + c).toInt = q at *
  generalize (a * f).toInt = z at *
  generalize (Int64.toInt32 (a * f + c)).toInt = u at *
  have e5 : q % 18446744073709551616 = p + c.toInt := by omega
  rw [e5]
  omega
theorem own_mul (F : Nat) (f : Int64) (hf : 0 ≤ f.toInt ∧ f.toInt < 4294967296) (len : Nat) (hlen : len ≤ 7) : ∀ (k i : Nat) (c : Int64) (ws : List Int32), i + k = len → ws.length = 8 → 0 ≤ c.toInt ∧ c.toInt < 4294967296 → ∀ n, k < n →
    ∃ (len' : Nat) (ws' : List Int32), h3_6 F n f c (Int32.ofNat i) (Int32.ofNat len) ws = some (Int32.ofNat len', ws') ∧ ws'.length = 8 ∧ len ≤ len' ∧ len' ≤ len + 1 ∧ ws'.take i = ws.take i ∧ own_V ((ws'.take len').drop i) = c.toInt + f.toInt * own_V ((ws.take len).drop i) := by
  intro k
  induction k with
  | zero =>
    intro i c ws hi hl hc n hn
    obtain rfl : i = len := by omega
    obtain ⟨m, rfl⟩ : ∃ m, n = m + 1 := ⟨n - 1, by omega⟩
    have o1 := own_of (i := i) (by omega)
    have hdrop : (ws.take i).drop i = [] := by simp [List.drop_eq_nil_iff] <;> omega
    have hlt : ¬ Int32.ofNat i < Int32.ofNat i := by rw [Int32.lt_iff_toInt_lt]; omega
    by_cases h0 : c = 0
    · refine ⟨i, ws, ?_, hl, Nat.le_refl _, Nat.le_succ _, rfl, ?_⟩
      · show s3_6 (h3_6 F m) F f c (Int32.ofNat i) (Int32.ofNat i) ws = _
        unfold s3_6
        rw [if_neg hlt, if_pos h0]
      · have z : (0 : Int64).toInt = 0 := by decide
        rw [hdrop, h0, z]
        simp [own_V]
    · refine ⟨i + 1, ws.set i (Int64.toInt32 c), ?_, by simp [hl], Nat.le_succ _, Nat.le_refl _, ?_, ?_⟩
      · show s3_6 (h3_6 F m) F f c (Int32.ofNat i) (Int32.ofNat i) ws = _
        unfold s3_6
        rw [if_neg hlt, if_neg h0]
        have h4 : f4 (Int32.ofNat i + 1) (Int32.ofNat i) ws = some () := by
          unfold f4 g4_0
          rw [if_neg]
          have e8 : lenO ws = 8 := by unfold lenO; rw [hl]; decide
          rw [e8, o1.2.2.2.1, Int32.lt_iff_toInt_lt, (own_of (i := i + 1) (by omega)).1]
          have : (8 : Int32).toInt = 8 := by decide
          omega
        refine bindS h4 ?_
        refine bindS (own_wr ws (Int64.toInt32 c) (by omega) hl) ?_
        refine letS ?_
        rw [o1.2.2.2.1]
      · apply List.ext_getElem?
        intro j
        rw [List.getElem?_take, List.getElem?_take]
        by_cases hj : j < i
        · rw [if_pos hj, if_pos hj, List.getElem?_set_ne (by omega)]
        · rw [if_neg hj, if_neg hj]
      · have hs : (ws.set i (Int64.toInt32 c))[i]? = some (Int64.toInt32 c) := List.getElem?_set_self (by omega)
        rw [own_sfx (by omega) hs, hdrop]
        have hd : ((ws.set i (Int64.toInt32 c)).take (i + 1)).drop (i + 1) = [] := by simp [List.drop_eq_nil_iff] <;> omega
        rw [hd]
        have e := c_l2i c
        simp only [own_V, own_U]
        omega
  | succ k ih =>
    intro i c ws hi hl hc n hn
    obtain ⟨m, rfl⟩ : ∃ m, n = m + 1 := ⟨n - 1, by omega⟩
    have o1 := own_of (i := i) (by omega)
    have o2 := own_of (i := len) (by omega)
    have hlt : Int32.ofNat i < Int32.ofNat len := by rw [Int32.lt_iff_toInt_lt]; omega
    have hw : ws[i]? = some (ws[i]'(by omega)) := List.getElem?_eq_getElem _
    generalize ws[i]'(by omega) = w at hw
    obtain ⟨v5, v8, e5, e8, b1, b2, e9⟩ := own_step w f c hf hc
    obtain ⟨len', ws', r1, r2, r3, r4, r5, r6⟩ := ih (i + 1) v8 (ws.set i (Int64.toInt32 v5)) (by omega) (by simp [hl]) ⟨b1, b2⟩ m (by omega)
    refine ⟨len', ws', ?_, r2, r3, r4, ?_, ?_⟩
    · show s3_6 (h3_6 F m) F f c (Int32.ofNat i) (Int32.ofNat len) ws = _
      unfold s3_6
      rw [if_pos hlt]
      refine bindS (by rw [own_rd ws (by omega)]; exact hw) ?_
      refine letS ?_
      rw [← e5]
      refine bindS (own_wr ws (Int64.toInt32 v5) (by omega) hl) ?_
      refine letS ?_
      rw [← e8, o1.2.2.2.1]
      exact r1
    · have h1 := congrArg (List.take i) r5
      rw [List.take_take, List.take_take, Nat.min_eq_left (by omega)] at h1
      rw [h1]
      apply List.ext_getElem?
      intro j
      rw [List.getElem?_take, List.getElem?_take]
      by_cases hj : j < i
      · rw [if_pos hj, if_pos hj, List.getElem?_set_ne (by omega)]
      · rw [if_neg hj, if_neg hj]
    · have h1 := congrArg (fun z : List Int32 => z[i]?) r5
      simp only [List.getElem?_take] at h1
      rw [if_pos (by omega), if_pos (by omega), List.getElem?_set_self (by omega)] at h1
      rw [own_sfx (by omega : i < len') h1, own_sfx (by omega : i < len) hw]
      have h2 : ((ws.set i (Int64.toInt32 v5)).take len).drop (i + 1) = (ws.take len).drop (i + 1) := by
        apply List.ext_getElem?
        intro j
        rw [List.getElem?_drop, List.getElem?_drop, List.getElem?_take, List.getElem?_take, List.getElem?_set_ne (by omega)]
      rw [h2] at r6
      simp only [own_V]
      rw [r6, Int.mul_add, Int.mul_add, Int.mul_comm f.toInt (own_U w)]
      generalize own_V ((ws.take len).drop (i + 1)) = R
      have e10 : f.toInt * (4294967296 * R) = 4294967296 * (f.toInt * R) := Int.mul_left_comm _ _ _
      rw [e10]
      omega
theorem own_lrem (x y : Int64) (hx : 0 ≤ x.toInt) : (x - (x / y) * y).toInt = x.toInt % y.toInt := by
  rw [lrem_mod, Int64.toInt_mod, Int.tmod_eq_emod_of_nonneg hx]
theorem own_rem (F : Nat) (d : Int64) (hd : 0 < d.toInt ∧ d.toInt < 2147483648) (len : Nat) (hlen : len ≤ 8) (ws : List Int32) (hl : ws.length = 8) : ∀ (i : Nat), i ≤ len → ∀ (rem : Int64) (n : Nat), i < n → rem.toInt = own_V ((ws.take len).drop i) % d.toInt →
    ∃ r, h5_10 F n d rem (Int32.ofNat i - 1) (Int32.ofNat len) ws = some r ∧ r.toInt = own_V (ws.take len) % d.toInt := by
  intro i
  induction i with
  | zero =>
    intro hi rem n hn hr
    obtain ⟨m, rfl⟩ : ∃ m, n = m + 1 := ⟨n - 1, by omega⟩
    refine ⟨rem, ?_, ?_⟩
    · show s5_10 (h5_10 F m) F d rem (Int32.ofNat 0 - 1) (Int32.ofNat len) ws = _
      unfold s5_10
      rw [if_pos (by decide)]
    · rw [hr]; rfl
  | succ i ih =>
    intro hi rem n hn hr
    obtain ⟨m, rfl⟩ : ∃ m, n = m + 1 := ⟨n - 1, by omega⟩
    have o1 := own_of (i := i) (by omega)
    have hw : ws[i]? = some (ws[i]'(by omega)) := List.getElem?_eq_getElem _
    generalize ws[i]'(by omega) = w at hw
    have hd0 : ¬ d = 0 := fun q => by
      have z : (0 : Int64).toInt = 0 := by decide
      rw [q, z] at hd
      omega
    have hr1 : 0 ≤ rem.toInt := by rw [hr]; exact Int.emod_nonneg _ (by omega)
    have hr2 : rem.toInt < d.toInt := by rw [hr]; exact Int.emod_lt_of_pos _ hd.1
    have hm := own_mask w
    have hu := own_U_rng w
    have e1 := c_lshl rem 32 32 (by decide)
    have hp : ((2 ^ 32 : Nat) : Int) = 4294967296 := by decide
    rw [hp] at e1
    have r1 := rng64 (rem <<< ((32 : Int32) &&& 0x3f).toInt64)
    have s1 : (rem <<< ((32 : Int32) &&& 0x3f).toInt64).toInt = rem.toInt * 4294967296 := by omega
    have e2 := c_orL (rem <<< ((32 : Int32) &&& 0x3f).toInt64) ((Int32.toInt64 w) &&& (4294967295 : Int64)) 32 (by decide) 4294967296 (by decide) (by omega) (by omega) (by omega)
    have r2 := rng64 ((rem <<< ((32 : Int32) &&& 0x3f).toInt64) ||| ((Int32.toInt64 w) &&& (4294967295 : Int64)))
    have s2 : ((rem <<< ((32 : Int32) &&& 0x3f).toInt64) ||| ((Int32.toInt64 w) &&& (4294967295 : Int64))).toInt = rem.toInt * 4294967296 + own_U w := by omega
    have s3 := own_lrem ((rem <<< ((32 : Int32) &&& 0x3f).toInt64) ||| ((Int32.toInt64 w) &&& (4294967295 : Int64))) d (by omega)
    obtain ⟨v, hv⟩ : ∃ v, v = ((rem <<< ((32 : Int32) &&& 0x3f).toInt64) ||| ((Int32.toInt64 w) &&& (4294967295 : Int64))) - (((rem <<< ((32 : Int32) &&& 0x3f).toInt64) ||| ((Int32.toInt64 w) &&& (4294967295 : Int64))) / d) * d := ⟨_, rfl⟩
    rw [← hv, s2] at s3
    have hv2 : v.toInt = own_V ((ws.take len).drop i) % d.toInt := by
      rw [s3, own_sfx (by omega : i < len) hw]
      simp only [own_V]
      rw [hr]
      generalize own_V ((ws.take len).drop (i + 1)) = R
      rw [Int.add_comm (own_U w), Int.mul_comm 4294967296 R, Int.add_emod, Int.mul_emod, Int.emod_emod, ← Int.mul_emod, ← Int.add_emod]
    obtain ⟨r, q1, q2⟩ := ih (by omega) v m (by omega) hv2
    refine ⟨r, ?_, q2⟩
    show s5_10 (h5_10 F m) F d rem (Int32.ofNat (i + 1) - 1) (Int32.ofNat len) ws = _
    unfold s5_10
    rw [o1.2.2.2.2.1, if_neg o1.2.2.1]
    refine bindS (by rw [own_rd ws (by omega)]; exact hw) ?_
    rw [if_neg hd0]
    refine letS ?_
    rw [← hv, o1.2.2.2.2.2]
    exact q1
theorem own_mulF (f c : Int64) (hf : 0 ≤ f.toInt ∧ f.toInt < 4294967296) (hc : 0 ≤ c.toInt ∧ c.toInt < 4294967296) (len : Nat) (hlen : len ≤ 7) (ws : List Int32) (hl : ws.length = 8) :
    ∃ (len' : Nat) (ws' : List Int32), f3 10 f c (Int32.ofNat len) ws = some (Int32.ofNat len', ws') ∧ ws'.length = 8 ∧ len' ≤ len + 1 ∧ own_V (ws'.take len') = c.toInt + f.toInt * own_V (ws.take len) := by
  obtain ⟨len', ws', r1, r2, r3, r4, -, r6⟩ := own_mul 10 f hf len hlen len 0 c ws (by omega) hl hc 10 (by omega)
  exact ⟨len', ws', r1, r2, r4, r6⟩
theorem own_emod3 (h f l g c d : Int) : (((h % d) * (f % d) + l % d) % d * (g % d) + c % d) % d = (c + g * (l + f * h)) % d := by
  have e1 : ((h % d) * (f % d) + l % d) % d = (l + f * h) % d := by
    rw [Int.add_emod, ← Int.mul_emod, Int.emod_emod, ← Int.add_emod, Int.add_comm, Int.mul_comm]
  rw [e1, Int.add_emod, ← Int.mul_emod, Int.emod_emod, ← Int.add_emod, Int.add_comm, Int.mul_comm]
theorem own_dpos (y : Int64) (h : 0 ≤ y.toInt) : 0 < ((y - (y / 2147483647) * 2147483647) + 1).toInt ∧ ((y - (y / 2147483647) * 2147483647) + 1).toInt < 2147483648 := by
  have w5 := own_lrem y 2147483647 h
  have k5 : (2147483647 : Int64).toInt = 2147483647 := by decide
  rw [k5] at w5
  clear k5
  generalize (y - (y / 2147483647) * 2147483647) = t at *
  have a5 := c_ladd t 1
  have k1 : (1 : Int64).toInt = 1 := by decide
  rw [k1, w5] at a5
  clear k1
  have r5 := rng64 (t + 1)
  generalize (t + 1).toInt = u at *
  have b5 : 0 ≤ y.toInt % 2147483647 ∧ y.toInt % 2147483647 < 2147483647 := ⟨Int.emod_nonneg _ (by decide), Int.emod_lt_of_pos _ (by decide)⟩
  generalize y.toInt % 2147483647 = v at *
  clear w5 h
  omega
set_option maxHeartbeats 4000000 in
theorem own_law (x0 x1 x2 x3 x4 x5 : Int32) : ∃ fuel, f0 fuel x0 x1 x2 x3 x4 x5 = some 1 := by
  refine ⟨10, ?_⟩
  unfold f0 g0_0
  have m0 := own_mask x0
  have m1 := own_mask x1
  have m2 := own_mask x2
  have m3 := own_mask x3
  have m4 := own_mask x4
  have u0 := own_U_rng x0
  have u1 := own_U_rng x1
  have u2 := own_U_rng x2
  have u3 := own_U_rng x3
  have u4 := own_U_rng x4
  refine letS (letS (letS (letS (letS (letS ?_)))))
  generalize ((Int32.toInt64 x0) &&& (4294967295 : Int64)) = h at *
  generalize ((Int32.toInt64 x1) &&& (4294967295 : Int64)) = f at *
  generalize ((Int32.toInt64 x2) &&& (4294967295 : Int64)) = l at *
  generalize ((Int32.toInt64 x3) &&& (4294967295 : Int64)) = g at *
  generalize ((Int32.toInt64 x4) &&& (4294967295 : Int64)) = c at *
  have p5 : 0 ≤ (x5 &&& (2147483647 : Int32)).toInt := by rw [c_mask x5 2147483647 31 (by decide) (by decide)]; exact Int.emod_nonneg _ (by decide)
  have q5 := c_i2l (x5 &&& (2147483647 : Int32))
  generalize Int32.toInt64 (x5 &&& (2147483647 : Int32)) = y at *
  have hd : 0 < ((y - (y / 2147483647) * 2147483647) + 1).toInt ∧ ((y - (y / 2147483647) * 2147483647) + 1).toInt < 2147483648 := own_dpos y (by omega)
  generalize ((y - (y / 2147483647) * 2147483647) + 1) = d at hd
  have hd0 : ¬ d = 0 := fun q => by
    have z : (0 : Int64).toInt = 0 := by decide
    rw [q, z] at hd
    omega
  have hn : f1 0 = some (List.replicate 8 0) := by decide +kernel
  refine bindS hn ?_
  obtain ⟨n1, w1, t1, s1, j1, v1⟩ := own_mulF 1 h (by decide) (by omega) 0 (by omega) (List.replicate 8 0) (by simp)
  refine bindS t1 ?_
  obtain ⟨n2, w2, t2, s2, j2, v2⟩ := own_mulF f l (by omega) (by omega) n1 (by omega) w1 s1
  refine bindS t2 ?_
  obtain ⟨n3, w3, t3, s3, j3, v3⟩ := own_mulF g c (by omega) (by omega) n2 (by omega) w2 s2
  refine bindS t3 ?_
  simp only [if_neg hd0]
  refine letS (letS ?_)
  have e1 := own_lrem h d (by omega)
  have e2 := own_lrem f d (by omega)
  have e3 := own_lrem l d (by omega)
  have e4 := own_lrem g d (by omega)
  have e5 := own_lrem c d (by omega)
  have B : ∀ z : Int, 0 ≤ z % d.toInt ∧ z % d.toInt < d.toInt := fun z => ⟨Int.emod_nonneg _ (by omega), Int.emod_lt_of_pos _ hd.1⟩
  generalize h - (h / d) * d = h' at *
  generalize f - (f / d) * d = f' at *
  generalize l - (l / d) * d = l' at *
  generalize g - (g / d) * d = g' at *
  generalize c - (c / d) * d = c' at *
  have P : ∀ a b e : Int64, 0 ≤ a.toInt → a.toInt < d.toInt → 0 ≤ b.toInt → b.toInt < d.toInt → 0 ≤ e.toInt → e.toInt < d.toInt → ((a * b + e) - ((a * b + e) / d) * d).toInt = (a.toInt * b.toInt + e.toInt) % d.toInt := by
    intro a b e h1 h2 h3 h4 h5 h6
    have z1 := c_lmul a b
    have z2 := c_ladd (a * b) e
    have p1 : 0 ≤ a.toInt * b.toInt := Int.mul_nonneg h1 h3
    have p2 : a.toInt * b.toInt ≤ 2147483647 * 2147483647 := Int.mul_le_mul (by omega) (by omega) h3 (by decide)
    have z3 := rng64 (a * b + e)
    have z4 := rng64 (a * b)
    have z5 : (a * b + e).toInt = a.toInt * b.toInt + e.toInt := by
      generalize a.toInt * b.toInt = p at *
      omega
    rw [own_lrem (a * b + e) d (by rw [z5]; omega), z5]
  have b1 := B h.toInt
  have b2 := B f.toInt
  have b3 := B l.toInt
  have b4 := B g.toInt
  have b5' := B c.toInt
  have q1 := P h' f' l' (by omega) (by omega) (by omega) (by omega) (by omega) (by omega)
  generalize ((h' * f' + l') - ((h' * f' + l') / d) * d) = r1 at *
  have b6 := B (h'.toInt * f'.toInt + l'.toInt)
  have q2 := P r1 g' c' (by omega) (by omega) (by omega) (by omega) (by omega) (by omega)
  obtain ⟨r, o1, o2⟩ := own_rem 10 d hd n3 (by omega) w3 s3 n3 (Nat.le_refl _) 0 10 (by omega) (by
    have z : (0 : Int64).toInt = 0 := by decide
    have hdrop : (w3.take n3).drop n3 = [] := by simp [List.drop_eq_nil_iff] <;> omega
    rw [hdrop, z]
    simp [own_V])
  have o3 : f5 10 d (Int32.ofNat n3) w3 = some r := by
    unfold f5 g5_0
    refine letS ?_
    exact o1
  refine bindS o3 ?_
  rw [if_pos]
  apply Int64.toInt_inj.mp
  rw [o2, q2, q1, e1, e2, e3, e4, e5, v3, v2, v1, own_emod3]
  have z1 : own_V ((List.replicate 8 (0 : Int32)).take 0) = 0 := rfl
  rw [z1]
  simp
set_option maxRecDepth 65536 in
set_option maxHeartbeats 40000000 in
theorem comes_1 {Post : Tables → Env → Array Value → State → Outcome → State → Prop} (hpost : ∀ tb e args s v u, (limb_1_1.after args s (.returned v) u = true ∧ limb_1_2.after args s (.returned v) u = true ∧ True) → FrameEnd s (.returned v) u (Jvm.fieldLocs frame_1_writes args s ++ Jvm.arrayLocs frame_1_arrays args s ++ Jvm.staticLocs frame_1_statics s) 16 128 → Post tb e args s (.returned v) u) :
    ArmFor flags0 classFile x code maxLocals ret World_1 tables_1 room_1 Calls_1 rest_1 Pre_1 Post := by
  intro l hfl _ _ p e ha hc hk s m args below hf hA hF happ hP
  obtain ⟨hcalls, hrest, hpre⟩ := hP
  obtain ⟨-, -, -, hnamed, -, -, -, hat⟩ := (Spec.applies_iff hf).mp happ
  obtain ⟨hg, hn⟩ := and_e (Cond.before_iff.mp (show (Jvm.Cond.and given_1 narrow_1).before args s = true from hpre))
  obtain ⟨g1, g2⟩ := and_e hg
  obtain ⟨g3, g4⟩ := and_e g2
  obtain ⟨g5, g6⟩ := and_e g4
  obtain ⟨g7, g8⟩ := and_e g6
  obtain ⟨g9, g10⟩ := and_e g8
  obtain ⟨g11, g12⟩ := and_e g10
  obtain ⟨w0, w1, w2, w3, w4, w5, rfl⟩ : ∃ w0 w1 w2 w3 w4 w5 : Value, args = #[w0, w1, w2, w3, w4, w5] := by
    have hs : args.size = 6 := by simpa [Cond.value, given_1] using g1
    obtain ⟨L⟩ := args
    match L, hs with
    | [w0, w1, w2, w3, w4, w5], _ => exact ⟨w0, w1, w2, w3, w4, w5, rfl⟩
  have hw := fun d (hd : d ∈ tables_1) => atoms_spec (ws := Jvm.Cond.code x code maxLocals ret :: tables_1) hat d (List.mem_cons_of_mem _ hd)
  obtain ⟨i0, ei0⟩ := is_v g3
  obtain rfl : w0 = (.int i0) := Option.some.inj ei0
  obtain ⟨i1, ei1⟩ := is_v g5
  obtain rfl : w1 = (.int i1) := Option.some.inj ei1
  obtain ⟨i2, ei2⟩ := is_v g7
  obtain rfl : w2 = (.int i2) := Option.some.inj ei2
  obtain ⟨i3, ei3⟩ := is_v g9
  obtain rfl : w3 = (.int i3) := Option.some.inj ei3
  obtain ⟨i4, ei4⟩ := is_v g11
  obtain rfl : w4 = (.int i4) := Option.some.inj ei4
  obtain ⟨i5, ei5⟩ := is_v g12
  obtain rfl : w5 = (.int i5) := Option.some.inj ei5
  obtain ⟨fuel, hone⟩ := own_law i0 i1 i2 i3 i4 i5
  obtain ⟨n, o, h1, h2, h3, _, L, rfl, ⟨rfl, N⟩, hq⟩ := rm0 l s _ hw tables_1 i0 i1 i2 i3 i4 i5 s.heap s.heap.size (Nat.le_refl _) fuel _ hone p e ha hc hk s m _ below hf ((Spec.applies_iff_loose hf).mp happ).1 ⟨rfl, State.Warmed39.refl s, rfl⟩ trivial
  refine ⟨n, _, h1, h2, h3, hpost _ _ _ _ _ _ ⟨Cond.after_iff.mpr rfl, Cond.after_iff.mpr (eq_i res_at (Term.int_eval (1)) rfl), trivial⟩ ⟨hq.1, hq.2.1, (hq.2.2.sift fun y hy => Or.inr (N y hy)).mono (by decide) (by decide)⟩⟩
theorem main_1_1 : Claimed_1_1 := comes_1 fun _ _ _ _ _ _ h hF => ⟨h.1, hF⟩
theorem main_1_2 : Claimed_1_2 := comes_1 fun _ _ _ _ _ _ h hF => ⟨h.2.1, hF⟩
end Jvm.Pilot.@@N@@
namespace Jvm.Pilot.@@N@@
open Jvm Jvm.ClassFile Sem Op Lib Jvm.Free Jvm.Stand Jvm.Pilot.@@N@@.Jvm.D
/-! MADE BY PROGRAM (witnessworld.py) out of the Statement's table words and the real class files: 9 classes; the members and pool entries that the words name. The judged class is class 1, her method 1. -/
namespace start1
open Jvm.ClassFile
def u (s : String) : CpInfo := .utf8 (stringToUtf16 s)
/-- a pool by its gaps: so many unusable entries, then the entry; so many at the end -/
def gap : Nat → List CpInfo → List CpInfo
  | 0, r => r
  | n + 1, r => .unusable :: gap n r
def poolList (es : List (Nat × CpInfo)) (last : Nat) : List CpInfo := es.foldr (fun e r => gap e.1 (e.2 :: r)) (gap last [])
def pool (es : List (Nat × CpInfo)) (last : Nat) : Array CpInfo := ⟨poolList es last⟩
def fileOf (pool : Array CpInfo) (this : Nat) (attrs : Array Attribute := #[]) (ms : Array MethodInfo := #[]) (fl : Nat := 33) (sup : Nat := 0) (ifs : Array Nat := #[]) (fds : Array FieldInfo := #[]) : ClassFile where
  minorVersion := 0
  majorVersion := 65
  constantPool := pool
  accessFlags := fl
  thisClass := this
  superClass := sup
  interfaces := ifs
  fields := fds
  methods := ms
  attributes := attrs
def plain (name : String) (sup : Option ClassId) : Class where
  name := name
  kind := .ordinary
  loader := none
  accessFlags := 33
  super := sup
  interfaces := #[]
  cf := none
  fields := #[]
  methods := #[]
  instanceTypes := #[]
  staticTypes := #[]
  resolved := #[]
  callSites := []
  init := .initialized
  statics := none
  mirror := none

def pool0 : Array CpInfo := pool [(5, u "<init>"), (0, u "()V"), (1, .class_ 10), (1, u "java/lang/Object")] 113

def k0c0 : Code := { maxStack := 0, maxLocals := 1, code := object_method_1_code, exceptionTable := #[], attributes := #[] }
def k0m0 : Method := { name := "<init>", desc := "()V", sig := { parameters := [], returnType := none }, accessFlags := 1, code := some k0c0 }
/-- java/lang/Object -/
def k0 : Class := { plain "java/lang/Object" none with
  accessFlags := 33
  interfaces := #[]
  cf := some (fileOf pool0 8 #[] #[{ accessFlags := 1, nameIndex := 5, descriptorIndex := 6, attributes := #[] }] 33 0 #[] #[])
  fields := #[]
  methods := #[k0m0]
  instanceTypes := #[]
  staticTypes := #[]
  resolved := Array.replicate 124 none
  statics := none }

def pool1 : Array CpInfo := pool [(2, .class_ 4), (0, .nameAndType 5 6), (0, u "java/lang/Object"), (0, u "<init>"), (0, u "()V"), (0, .long 4294967295), (1, .integer 2147483647), (0, .long 2147483647), (1, .class_ 13), (0, u "com/example/notewright/notewright/Natural"), (0, .methodref 12 3), (0, .methodref 12 16), (0, .nameAndType 17 18), (0, u "multiplyAdd"), (0, u "(JJ)V"), (0, .methodref 12 20), (0, .nameAndType 21 22), (0, u "remainder"), (0, u "(J)J"), (0, .class_ 24), (0, u "com/example/notewright/notewright/NaturalRemainderPinLaw"), (2, u "law"), (0, u "(IIIIII)Z")] 3

def k1m0 : Method := { name := "<init>", desc := "()V", sig := { parameters := [], returnType := none }, accessFlags := 1, code := none }
def k1c1 : Code := { maxStack := 6, maxLocals := 23, code := code, exceptionTable := #[], attributes := #[] }
def k1m1 : Method := { name := "law", desc := "(IIIIII)Z", sig := { parameters := [.int, .int, .int, .int, .int, .int], returnType := some .boolean }, accessFlags := 9, code := some k1c1 }
/-- com/example/notewright/notewright/NaturalRemainderPinLaw -/
def k1 : Class := { plain "com/example/notewright/notewright/NaturalRemainderPinLaw" (some 0) with
  accessFlags := 49
  interfaces := #[]
  cf := some (fileOf pool1 23 #[] #[{ accessFlags := 1, nameIndex := 5, descriptorIndex := 6, attributes := #[] }, { accessFlags := 9, nameIndex := 27, descriptorIndex := 28, attributes := #[] }] 49 2 #[] #[])
  fields := #[]
  methods := #[k1m0, k1m1]
  instanceTypes := #[]
  staticTypes := #[]
  resolved := Array.replicate 32 none
  statics := none }

def pool2 : Array CpInfo := pool [(3, .class_ 4), (0, u "com/example/notewright/notewright/Natural"), (0, .methodref 6 7), (0, .class_ 8), (0, .nameAndType 9 10), (0, u "java/lang/Object"), (0, u "<init>"), (0, u "()V"), (0, .fieldref 3 12), (0, .nameAndType 13 14), (0, u "words"), (0, u "[I"), (1, .fieldref 3 17), (0, .nameAndType 18 19), (0, u "length"), (0, u "I"), (3, .long 4294967295), (1, .methodref 3 26), (0, .nameAndType 27 28), (0, u "grow"), (0, u "(I)V"), (35, u "WORD_LIMIT"), (0, u "J"), (3, u "DIVISOR_LIMIT"), (2, u "WORD"), (0, u "INITIAL_WORDS"), (6, u "multiplyAdd"), (0, u "(JJ)V"), (1, u "remainder"), (0, u "(J)J")] 11

def k2c0 : Code := { maxStack := 2, maxLocals := 1, code := prog_20_method_1_code, exceptionTable := #[], attributes := #[] }
def k2m0 : Method := { name := "<init>", desc := "()V", sig := { parameters := [], returnType := none }, accessFlags := 0, code := some k2c0 }
def k2c1 : Code := { maxStack := 4, maxLocals := 10, code := prog_20_method_4_code, exceptionTable := #[], attributes := #[] }
def k2m1 : Method := { name := "multiplyAdd", desc := "(JJ)V", sig := { parameters := [.long, .long], returnType := none }, accessFlags := 0, code := some k2c1 }
def k2c2 : Code := { maxStack := 6, maxLocals := 6, code := prog_20_method_7_code, exceptionTable := #[], attributes := #[] }
def k2m2 : Method := { name := "remainder", desc := "(J)J", sig := { parameters := [.long], returnType := some .long }, accessFlags := 0, code := some k2c2 }
def k2c3 : Code := { maxStack := 5, maxLocals := 2, code := prog_20_method_12_code, exceptionTable := #[], attributes := #[] }
def k2m3 : Method := { name := "grow", desc := "(I)V", sig := { parameters := [.int], returnType := none }, accessFlags := 2, code := some k2c3 }
/-- com/example/notewright/notewright/Natural -/
def k2 : Class := { plain "com/example/notewright/notewright/Natural" (some 0) with
  accessFlags := 32
  interfaces := #[]
  cf := some (fileOf pool2 3 #[] #[{ accessFlags := 0, nameIndex := 9, descriptorIndex := 10, attributes := #[] }, { accessFlags := 0, nameIndex := 80, descriptorIndex := 81, attributes := #[] }, { accessFlags := 0, nameIndex := 83, descriptorIndex := 84, attributes := #[] }, { accessFlags := 2, nameIndex := 27, descriptorIndex := 28, attributes := #[] }] 32 6 #[] #[{ accessFlags := 24, nameIndex := 64, descriptorIndex := 65, attributes := #[] }, { accessFlags := 24, nameIndex := 69, descriptorIndex := 65, attributes := #[] }, { accessFlags := 26, nameIndex := 72, descriptorIndex := 65, attributes := #[] }, { accessFlags := 26, nameIndex := 73, descriptorIndex := 19, attributes := #[] }, { accessFlags := 2, nameIndex := 13, descriptorIndex := 14, attributes := #[] }, { accessFlags := 2, nameIndex := 18, descriptorIndex := 19, attributes := #[] }])
  fields := #[{ name := "WORD_LIMIT", type := .long, accessFlags := 24, slot := 0, constantValue := 0 }, { name := "DIVISOR_LIMIT", type := .long, accessFlags := 24, slot := 1, constantValue := 0 }, { name := "WORD", type := .long, accessFlags := 26, slot := 2, constantValue := 0 }, { name := "INITIAL_WORDS", type := .int, accessFlags := 26, slot := 3, constantValue := 0 }, { name := "words", type := (.array .int), accessFlags := 2, slot := 0, constantValue := 0 }, { name := "length", type := .int, accessFlags := 2, slot := 1, constantValue := 0 }]
  methods := #[k2m0, k2m1, k2m2, k2m3]
  instanceTypes := #[(.array .int), .int]
  staticTypes := #[.long, .long, .long, .int]
  resolved := Array.replicate 96 none
  statics := none }

def pool3 : Array CpInfo := pool [(1, u "java/lang/Cloneable"), (0, .class_ 1), (0, u "java/lang/Object"), (0, .class_ 3)] 3

/-- java/lang/Cloneable -/
def k3 : Class := { plain "java/lang/Cloneable" (some 0) with
  accessFlags := 1537
  interfaces := #[]
  cf := some (fileOf pool3 2 #[] #[] 1537 4 #[] #[])
  fields := #[]
  methods := #[]
  instanceTypes := #[]
  staticTypes := #[]
  resolved := Array.replicate 8 none
  statics := none }

def pool4 : Array CpInfo := pool [(1, u "java/io/Serializable"), (0, .class_ 1), (0, u "java/lang/Object"), (0, .class_ 3)] 3

/-- java/io/Serializable -/
def k4 : Class := { plain "java/io/Serializable" (some 0) with
  accessFlags := 1537
  interfaces := #[]
  cf := some (fileOf pool4 2 #[] #[] 1537 4 #[] #[])
  fields := #[]
  methods := #[]
  instanceTypes := #[]
  staticTypes := #[]
  resolved := Array.replicate 8 none
  statics := none }

/-- the primitive byte -/
def k5 : Class := { plain "byte" none with kind := .primitive 'B', accessFlags := 0x411 }
/-- [B -/
def k6 : Class := { plain "[B" (some 0) with kind := .array 5 .byte, interfaces := #[3, 4], accessFlags := 1041 }

/-- the primitive int -/
def k7 : Class := { plain "int" none with kind := .primitive 'I', accessFlags := 0x411 }
/-- [I -/
def k8 : Class := { plain "[I" (some 0) with kind := .array 7 .int, interfaces := #[3, 4], accessFlags := 1041 }

def heap : Heap := #[]
def classes : Array Class := #[k0, k1, k2, k3, k4, k5, k6, k7, k8]
def interned : List (Array UInt16 × Addr) := []
def slotsUsed : Nat := 0
def theMethod : MethodId := ⟨1, 1⟩
def args0 : Array Value := #[.int 1, .int 3, .int 2, .int 5, .int 4, .int 6]
def aboutOver (below : List Frame) : State where
  vm := { classes := classes, interned := interned.toArray }
  heap := heap
  slotsUsed := slotsUsed
  threads := #[{ frames := .invoking theMethod args0 :: below }]
def below0 : List Frame := [.native { method := ⟨0, 0⟩, args := #[] }]
def about1 : State := aboutOver below0
def p0 : Program := .bare "" "" ""
def e0 : Env := launch0.env 0 0 0
theorem w_frames : about1.frames = Frame.invoking theMethod args0 :: below0 := rfl
set_option maxRecDepth 65536 in
theorem w_args : argsFit about1.vm theMethod args0 = true := by decide +kernel
set_option maxRecDepth 65536 in
theorem w_heap : heapFits about1 = true := by decide +kernel
set_option maxRecDepth 65536 in
theorem w_runnable : about1.curStatus? = some .runnable := by decide +kernel
set_option maxRecDepth 65536 in
theorem w_alone : about1.alone = true := by decide +kernel
set_option maxRecDepth 65536 in
theorem w_named : about1.methodNamed? x = some theMethod := by decide +kernel
set_option maxRecDepth 65536 in
theorem w_hears : about1.hears theMethod below0 = true := by decide +kernel
set_option maxRecDepth 65536 in
theorem w_ripe : about1.ripe theMethod args0 below0 = true := by decide +kernel
theorem w_running : about1.status = .running := rfl
set_option maxRecDepth 65536 in
theorem w_room : about1.hasRoom e0.platform room_1 = true :=
  launch0.hasRoom_least _ room_1 (by decide +kernel) (by decide +kernel) (by decide +kernel) (by decide +kernel) (by decide +kernel) (by decide +kernel)
theorem allAtoms_all (ts : List Jvm.Cond) (a : Array Jvm.Value) (st : Jvm.State) : (allAtoms ts).before a st = ts.all (fun c => c.before a st) := by
  induction ts with
  | nil => rfl
  | cons c t ih =>
    show (Jvm.Cond.and c (allAtoms t)).before a st = _
    rw [Jvm.Cond.before_and, ih, List.all_cons]
def words1 : List Jvm.Cond := Jvm.Cond.code x code maxLocals ret :: tables_1
/-- a 'code' word, met by the world's own term for the bytes: nothing is compared byte by byte -/
theorem code_word {y : MethodName} {bytes : ByteArray} {mx : Nat} {rt : Option FieldType} {a : Array Value} {s : State} {m : MethodId} {meth : Method} {c : Code} (h1 : s.methodNamed? y = some m) (h2 : s.vm.method? m = some meth) (h3 : meth.code = some c) (h4 : c.code = bytes)
    (h5 : (c.maxLocals == mx && c.exceptionTable.isEmpty && decide (c.maxStack ≤ mostOperands) && decide (meth.sig.returnType = rt) && !meth.locks && decide (parseMethodDescriptor y.desc = some meth.sig)) = true) : (Jvm.Cond.code y bytes mx rt).before a s = true := by
  simp only [Bool.and_eq_true, beq_iff_eq, Bool.not_eq_true', decide_eq_true_eq] at h5
  obtain ⟨⟨⟨⟨⟨g1, g2⟩, g3⟩, g4⟩, g5⟩, g6⟩ := h5
  simp [Cond.before, Cond.holds, Cond.value, h1, h2, h3, h4, g1, g2, g3, g4, g5, g6]
def isCode : Jvm.Cond → Bool
  | .code _ _ _ _ => true
  | _ => false
theorem all_split {L : List Jvm.Cond} {P : Jvm.Cond → Bool} (h1 : L.all (fun c => isCode c || P c) = true) (h2 : ∀ c ∈ L.filter isCode, P c = true) : L.all P = true := by
  refine List.all_eq_true.mpr fun c hc => ?_
  have h := List.all_eq_true.mp h1 c hc
  rcases Bool.eq_false_or_eq_true (isCode c) with hi | hi
  · exact h2 c (List.mem_filter.mpr ⟨hc, hi⟩)
  · simpa [hi] using h
set_option maxRecDepth 65536 in
theorem w_c0 : (Jvm.Cond.code x code maxLocals ret).before args0 about1 = true := code_word (m := ⟨1, 1⟩) (meth := k1m1) (c := k1c1) (by decide +kernel) rfl rfl rfl (by decide +kernel)
set_option maxRecDepth 65536 in
theorem w_c1 : (Jvm.Cond.code ({ cls := "com/example/notewright/notewright/Natural", name := "<init>", desc := "()V" } : Jvm.MethodName) prog_20_method_1_code (1 : Nat) (Option.none : Option Jvm.ClassFile.FieldType)).before args0 about1 = true := code_word (m := ⟨2, 0⟩) (meth := k2m0) (c := k2c0) (by decide +kernel) rfl rfl rfl (by decide +kernel)
set_option maxRecDepth 65536 in
theorem w_c2 : (Jvm.Cond.code ({ cls := "java/lang/Object", name := "<init>", desc := "()V" } : Jvm.MethodName) object_method_1_code (1 : Nat) (Option.none : Option Jvm.ClassFile.FieldType)).before args0 about1 = true := code_word (m := ⟨0, 0⟩) (meth := k0m0) (c := k0c0) (by decide +kernel) rfl rfl rfl (by decide +kernel)
set_option maxRecDepth 65536 in
theorem w_c3 : (Jvm.Cond.code ({ cls := "com/example/notewright/notewright/Natural", name := "multiplyAdd", desc := "(JJ)V" } : Jvm.MethodName) prog_20_method_4_code (10 : Nat) (Option.none : Option Jvm.ClassFile.FieldType)).before args0 about1 = true := code_word (m := ⟨2, 1⟩) (meth := k2m1) (c := k2c1) (by decide +kernel) rfl rfl rfl (by decide +kernel)
set_option maxRecDepth 65536 in
theorem w_c4 : (Jvm.Cond.code ({ cls := "com/example/notewright/notewright/Natural", name := "grow", desc := "(I)V" } : Jvm.MethodName) prog_20_method_12_code (2 : Nat) (Option.none : Option Jvm.ClassFile.FieldType)).before args0 about1 = true := code_word (m := ⟨2, 3⟩) (meth := k2m3) (c := k2c3) (by decide +kernel) rfl rfl rfl (by decide +kernel)
set_option maxRecDepth 65536 in
theorem w_c5 : (Jvm.Cond.code ({ cls := "com/example/notewright/notewright/Natural", name := "remainder", desc := "(J)J" } : Jvm.MethodName) prog_20_method_7_code (6 : Nat) (Option.some Jvm.ClassFile.FieldType.long)).before args0 about1 = true := code_word (m := ⟨2, 2⟩) (meth := k2m2) (c := k2c2) (by decide +kernel) rfl rfl rfl (by decide +kernel)
def codes1 : List Jvm.Cond := [Jvm.Cond.code x code maxLocals ret, Jvm.Cond.code ({ cls := "com/example/notewright/notewright/Natural", name := "<init>", desc := "()V" } : Jvm.MethodName) prog_20_method_1_code (1 : Nat) (Option.none : Option Jvm.ClassFile.FieldType), Jvm.Cond.code ({ cls := "java/lang/Object", name := "<init>", desc := "()V" } : Jvm.MethodName) object_method_1_code (1 : Nat) (Option.none : Option Jvm.ClassFile.FieldType), Jvm.Cond.code ({ cls := "com/example/notewright/notewright/Natural", name := "multiplyAdd", desc := "(JJ)V" } : Jvm.MethodName) prog_20_method_4_code (10 : Nat) (Option.none : Option Jvm.ClassFile.FieldType), Jvm.Cond.code ({ cls := "com/example/notewright/notewright/Natural", name := "grow", desc := "(I)V" } : Jvm.MethodName) prog_20_method_12_code (2 : Nat) (Option.none : Option Jvm.ClassFile.FieldType), Jvm.Cond.code ({ cls := "com/example/notewright/notewright/Natural", name := "remainder", desc := "(J)J" } : Jvm.MethodName) prog_20_method_7_code (6 : Nat) (Option.some Jvm.ClassFile.FieldType.long)]
set_option maxRecDepth 65536 in
theorem codes_eq : words1.filter isCode = codes1 := rfl
theorem w_codes : ∀ c ∈ words1.filter isCode, c.before args0 about1 = true := by
  rw [codes_eq]
  intro c hc
  simp only [codes1, List.mem_cons, List.not_mem_nil, or_false] at hc
  rcases hc with rfl | rfl | rfl | rfl | rfl | rfl
  · exact w_c0
  · exact w_c1
  · exact w_c2
  · exact w_c3
  · exact w_c4
  · exact w_c5
set_option maxRecDepth 65536 in
theorem w_t1 : (words1.take 24).all (fun c => isCode c || c.before args0 about1) = true := by decide +kernel
set_option maxRecDepth 65536 in
theorem w_t2 : (words1.drop 24).all (fun c => isCode c || c.before args0 about1) = true := by decide +kernel
theorem w_tables : (allAtoms (Jvm.Cond.code x code maxLocals ret :: tables_1)).before args0 about1 = true := by
  rw [allAtoms_all]
  show words1.all (fun c => c.before args0 about1) = true
  refine all_split ?_ w_codes
  rw [← List.take_append_drop 24 words1, List.all_append, w_t1, w_t2]
  rfl
set_option maxRecDepth 65536 in
theorem w_case : (Jvm.Cond.and given_1 narrow_1).before args0 about1 = true := by decide +kernel
theorem w_applies : (headSpec (Jvm.Cond.code x code maxLocals ret :: tables_1) room_1).applies x e0.platform about1 = true :=
  (Spec.applies_iff w_frames).mpr ⟨w_running, w_runnable, w_alone, w_named, w_hears, w_ripe, w_room, w_tables⟩
theorem atStart : AtStart classFile x code maxLocals ret World_1 tables_1 room_1 Calls_1 rest_1 Pre_1 launch0 p0 e0 about1 theMethod args0 below0 :=
  ⟨lists_1, trivial, launch0.admits_env _ _ _, launch0.least_env, fairChoices_fair.cas, fairChoices_fair.clock, w_frames, w_args, w_heap, w_applies, trivial, trivial, w_case⟩
end start1
theorem witness_1 : WitnessClaimed_1 := ⟨start1.p0, start1.e0, start1.about1, start1.theMethod, start1.args0, start1.below0, start1.atStart⟩
end Jvm.Pilot.@@N@@
