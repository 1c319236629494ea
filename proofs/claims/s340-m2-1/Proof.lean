import JvmDerived
import JvmDerived.Pilot.@@N@@Statement
import JvmDerived.Pilot.@@N@@Code
set_option linter.unusedVariables false
set_option linter.unusedSimpArgs false
namespace Jvm.RoadKit
open Sem ClassFile Op Lib Jvm.Stand Jvm.Free Jvm.LawKit
section New
variable {p : Program} {l : Launch} {e : Env} {R : Room} {s : State} {m : MethodId} {args : Array Value} {below : List Frame} {meth : Method} {c : Code} {T : State} {locs : List Loc} {cells slots : Nat}
theorem retI (X : Stand p l e R s m args below meth c T locs cells slots) (hx : p.tables.exec = Jvm.exec) {pc : Nat} {Ls : Array Slot} {z : Int32} {rest : List Value} (hret : meth.sig.returnType = some .int) (hd : decode c.code pc = .ok (.ireturn, 1)) {fs : List Frame}
    (hl : ∀ (f : JFrame) (acts : List Action), f.method = m → f.locked = none → f.entered = [] → (doReturn e (T.setTop f) acts (some (.int z))).1 = T.setFrames fs) : Steps p.tables e below (T.setTop (mkF m pc Ls (.int z :: rest))) (T.setFrames fs) := by
  have hm' : T.vm.method? m = some meth := X.method'
  have hn : narrow .int (.int z) = .int z := rfl
  show Steps p.tables e below (T.setTop { method := m, pc := pc, locals := Ls, stack := _ :: rest, locked := none }) _
  jvm_step X.here [X.here.top, hx, hd, hm', hret, hn]
  first | (intro acts; rw [hl _ acts rfl rfl rfl]) | rw [hl _ _ rfl rfl rfl]
  exact Steps.refl _
end New
end Jvm.RoadKit
namespace Jvm.Pilot.@@N@@
open Jvm Jvm.ClassFile Sem Op Lib Jvm.Free Jvm.Stand Jvm.LawKit Jvm.RoadKit Bundle Jvm.Pilot.@@N@@.Jvm.D
def QP (r : Option Value) (h0 : Heap) (n0 : Nat) (v : Option Value) (h : Heap) (L : List Loc) : Prop := v = r ∧ Fr n0 L ∧ h = h0
def Ctx (p : Program) (s : State) (m : MethodId) (meth : Method) (c : Code) (Z : State) (a0 : Array Value) (own : String) (bytes : ByteArray) (ml : Nat) (rt : Option FieldType) (name : String) : Prop :=
  p.tables.exec = Jvm.exec ∧ Z.Warmed39 s.vm ∧ (∀ d ∈ tables_1, d.before a0 Z = true) ∧ c.code = bytes ∧ c.maxLocals = ml ∧ s.vm.findClass own = some m.cls ∧ meth.sig.returnType = rt ∧ meth.locks = false ∧ meth.name = name
/-- from T with the frame g on top the run comes to a return, of which Φ holds -/
def Runs (p : Program) (e : Env) (below : List Frame) (s : State) (Φ : Option Value → Heap → List Loc → Prop) (k n : Nat) (T : State) (g : JFrame) : Prop :=
  ∃ s₂ o, Steps p.tables e below (T.setTop g) s₂ ∧ s₂.status = .running ∧ Ended s₂ below o ∧ ∃ v L, o = .returned v ∧ Φ v s₂.heap L ∧ FrameEnd s o s₂ L k n
section Own
variable {p : Program} {l : Launch} {e : Env} {R : Room} {s : State} {m : MethodId} {args : Array Value} {below : List Frame} {meth : Method} {c : Code} {T T' T0 Z : State} {a0 : Array Value} {locs : List Loc} {cells slots k n n0 : Nat} {h0 : Heap} {g g' : JFrame} {Φ : Option Value → Heap → List Loc → Prop}
theorem Runs.via (h : ∀ t, Steps p.tables e below (T'.setTop g') t → Steps p.tables e below (T.setTop g) t) (r : Runs p e below s Φ k n T' g') : Runs p e below s Φ k n T g := by
  obtain ⟨s₂, o, h1, r⟩ := r
  exact ⟨s₂, o, h _ h1, r⟩
theorem QP.cast {r r' : Option Value} (h : r = r') (H : Runs p e below s (QP r' h0 n0) k n T g) : Runs p e below s (QP r h0 n0) k n T g := by rw [h]; exact H
theorem own_retI (X : Stand p l e R s m args below meth c T locs cells slots) (hx : p.tables.exec = Jvm.exec) (hlk : meth.locks = false) (hret : meth.sig.returnType = some .int) {pc : Nat} {Ls : Array Slot} {z : Int32} {rest : List Value} (hd : decode c.code pc = .ok (.ireturn, 1)) (hk : cells ≤ k) (hn : slots ≤ n) (hΦ : Φ (some (.int z)) T.heap locs) :
    Runs p e below s Φ k n T (mkF m pc Ls (.int z :: rest)) := by
  obtain ⟨fs, hr, hrun, hended, hW, hsame⟩ := X.leave (v := some (.int z)) (fun h => by rw [hret] at h; cases h) hlk
  exact ⟨_, _, retI X hx hret hd hr, hrun, hended, _, _, rfl, hΦ, ⟨_, rfl⟩, hW, hsame.mono hk hn⟩
theorem own_retN (X : Stand p l e R s m args below meth c T locs cells slots) (hx : p.tables.exec = Jvm.exec) (hlk : meth.locks = false) {t : FieldType} (hret : meth.sig.returnType = some t) (ht : t = .boolean ∨ t = .byte ∨ t = .char ∨ t = .short) {pc : Nat} {Ls : Array Slot} {z : Int32} {rest : List Value} (hd : decode c.code pc = .ok (.ireturn, 1)) (hk : cells ≤ k) (hn : slots ≤ n) (hΦ : Φ (some (.int (nar t z))) T.heap locs) :
    Runs p e below s Φ k n T (mkF m pc Ls (.int z :: rest)) := by
  obtain ⟨fs, hr, hrun, hended, hW, hsame⟩ := X.leave (v := some (.int (nar t z))) (fun h => by rw [hret] at h; cases h) hlk
  exact ⟨_, _, retN X hx hret ht hd hr, hrun, hended, _, _, rfl, hΦ, ⟨_, rfl⟩, hW, hsame.mono hk hn⟩
theorem own_retJ (X : Stand p l e R s m args below meth c T locs cells slots) (hx : p.tables.exec = Jvm.exec) (hlk : meth.locks = false) (hret : meth.sig.returnType = some .long) {pc : Nat} {Ls : Array Slot} {z : Int64} (hd : decode c.code pc = .ok (.lreturn, 1)) (hk : cells ≤ k) (hn : slots ≤ n) (hΦ : Φ (some (.long z)) T.heap locs) :
    Runs p e below s Φ k n T (mkF m pc Ls [.long z]) := by
  obtain ⟨fs, hr, hrun, hended, hW, hsame⟩ := X.leave (v := some (.long z)) (fun h => by rw [hret] at h; cases h) hlk
  exact ⟨_, _, X.lreturnOut hx hret hd hr, hrun, hended, _, _, rfl, hΦ, ⟨_, rfl⟩, hW, hsame.mono hk hn⟩
theorem own_privSel {s : State} {args : Array Value} {y : MethodName} {n : Nat} (hwi : (Cond.instantiable y.cls n).before args s = true) (hp : (Cond.privateMethod y).before args s = true) (hinst : (Cond.instanceMethod y).before args s = true) (hy : y.cls ≠ "java/lang/invoke/MethodHandle" ∧ y.cls ≠ "java/lang/invoke/VarHandle") : (Cond.selects y.cls y y).before args s = true := by
  obtain ⟨c, k, h1, h2, h3, h4, -⟩ := Cond.instantiable_spec hwi
  exact selects_self_of_private h1 h2 (by simp only [Bool.or_eq_false_iff] at h4; exact h4.1) (Cond.privateMethod_at hp) hinst hy
theorem own_retV (X : Stand p l e R s m args below meth c T locs cells slots) (hx : p.tables.exec = Jvm.exec) (hlk : meth.locks = false) (hret : meth.sig.returnType = none) {pc : Nat} {Ls : Array Slot} (hd : decode c.code pc = .ok (.return_, 1)) (hk : cells ≤ k) (hn : slots ≤ n) (hΦ : Φ none T.heap locs) :
    Runs p e below s Φ k n T (mkF m pc Ls []) := by
  obtain ⟨fs, hr, hrun, hended, hW, hsame⟩ := X.leave (v := none) (fun _ => rfl) hlk
  exact ⟨_, _, X.returnOut hx hret hd hr, hrun, hended, _, _, rfl, hΦ, ⟨_, rfl⟩, hW, hsame.mono hk hn⟩
theorem own_retR (X : Stand p l e R s m args below meth c T locs cells slots) (hx : p.tables.exec = Jvm.exec) (hlk : meth.locks = false) {t : FieldType} (hret : meth.sig.returnType = some t) (ht : t.isReference = true) {pc : Nat} {Ls : Array Slot} {a : Addr} {rest : List Value} (hd : decode c.code pc = .ok (.areturn, 1)) (hk : cells ≤ k) (hn : slots ≤ n) (hΦ : Φ (some (.ref a)) T.heap locs) :
    Runs p e below s Φ k n T (mkF m pc Ls (.ref a :: rest)) := by
  obtain ⟨fs, hr, hrun, hended, hW, hsame⟩ := X.leave (v := some (.ref a)) (fun h => by rw [hret] at h; cases h) hlk
  exact ⟨_, _, retOut X hx hret (by cases t <;> first | rfl | (cases ht; done)) (Or.inr (Or.inr (Or.inr (Or.inr ⟨rfl, ht, rfl⟩)))) hd hr, hrun, hended, _, _, rfl, hΦ, ⟨_, rfl⟩, hW, hsame.mono hk hn⟩
theorem bindE {α β : Type} {G : Prop} {x : Option α} {k : α → Option β} {r : β} (hr : x.bind k = some r) (H : ∀ v, x = some v → k v = some r → G) : G := by
  cases x with
  | none => exact nomatch hr
  | some v => exact H v rfl hr
def letO {α β : Type} (x : α) (k : α → β) : β := k x
theorem letE {α β : Type} {G : Prop} {x : α} {k : α → Option β} {r : β} (hr : letO x k = some r) (H : ∀ v, v = x → k v = some r → G) : G := H x rfl hr
theorem iteE {β : Type} {G P : Prop} [Decidable P] {a b : Option β} {r : β} (hr : (if P then a else b) = some r) (H1 : P → a = some r → G) (H2 : ¬ P → b = some r → G) : G := by
  by_cases h : P
  · rw [if_pos h] at hr; exact H1 h hr
  · rw [if_neg h] at hr; exact H2 h hr
/-- an array's place, a store, its length, a new array -/
def rdO {α : Type} (xs : List α) (j : Int32) : Option α := if j < 0 then none else xs[j.toNatClampNeg]?
def wrO {α : Type} (xs : List α) (j : Int32) (v : α) : Option (List α) := if j < 0 ∨ xs.length ≤ j.toNatClampNeg then none else some (xs.set j.toNatClampNeg v)
def lenO {α : Type} (xs : List α) : Int32 := xs.length.toInt32
def mkO (n : Int32) (cap : Nat) : Option (List Int32) := if n < 0 ∨ cap < n.toNatClampNeg then none else some (List.replicate n.toNatClampNeg 0)
def mkOJ (n : Int32) (cap : Nat) : Option (List Int64) := if n < 0 ∨ cap < n.toNatClampNeg then none else some (List.replicate n.toNatClampNeg 0)
def AI (Z : State) (h : Heap) (a : Addr) (ty : FieldType) (xs : List Int32) : Prop := ∃ c : Cell, Arr Z h a c ty ∧ c.slots = (xs.map Value.int).toArray ∧ Exa Z h a ("[" ++ ty.toString)
def AJ (Z : State) (h : Heap) (a : Addr) (ty : FieldType) (xs : List Int64) : Prop := ∃ c : Cell, Arr Z h a c ty ∧ c.slots = (xs.map Value.long).toArray ∧ Exa Z h a ("[" ++ ty.toString)
section Arrs
variable {p : Program} {l : Launch} {e : Env} {R : Room} {s : State} {m : MethodId} {args : Array Value} {below : List Frame} {meth : Method} {c : Code} {T Z : State} {a0 : Array Value} {locs : List Loc} {cells slots : Nat} {h h' : Heap} {a b : Addr} {ty : FieldType} {sl : Nat} {v : Value} {ws : List Addr}
theorem AI.lt {xs : List Int32} (F : AI Z h a ty xs) : a < h.size := by obtain ⟨c, A, -⟩ := F; exact A.lt
theorem AI.ext {xs : List Int32} (F : AI Z h a ty xs) (E : Ext h h') : AI Z h' a ty xs := by obtain ⟨c, A, q, r⟩ := F; exact ⟨c, A.ext E, q, r.ext E⟩
theorem AI.other {xs : List Int32} (F : AI Z h b ty xs) (W : Wr h h' a sl v) (q : b ≠ a) : AI Z h' b ty xs := by obtain ⟨c, A, r, x⟩ := F; exact ⟨c, A.other W q, r, x.wr W⟩
theorem AI.keep {xs : List Int32} (F : AI Z h a ty xs) (K : Keep h h' ws) (q : a ∉ ws) : AI Z h' a ty xs := by obtain ⟨c, A, r, x⟩ := F; exact ⟨c, ⟨K.2.1 a c A.1 q, A.2⟩, r, x.keep K⟩
theorem AJ.lt {xs : List Int64} (F : AJ Z h a ty xs) : a < h.size := by obtain ⟨c, A, -⟩ := F; exact A.lt
theorem AJ.ext {xs : List Int64} (F : AJ Z h a ty xs) (E : Ext h h') : AJ Z h' a ty xs := by obtain ⟨c, A, q, r⟩ := F; exact ⟨c, A.ext E, q, r.ext E⟩
theorem AJ.other {xs : List Int64} (F : AJ Z h b ty xs) (W : Wr h h' a sl v) (q : b ≠ a) : AJ Z h' b ty xs := by obtain ⟨c, A, r, x⟩ := F; exact ⟨c, A.other W q, r, x.wr W⟩
theorem AJ.keep {xs : List Int64} (F : AJ Z h a ty xs) (K : Keep h h' ws) (q : a ∉ ws) : AJ Z h' a ty xs := by obtain ⟨c, A, r, x⟩ := F; exact ⟨c, ⟨K.2.1 a c A.1 q, A.2⟩, r, x.keep K⟩
theorem rd_at {α : Type} {f : α → Value} {xs : List α} {j : Int32} {z : α} {cl : Cell} (q : cl.slots = (xs.map f).toArray) (hr : rdO xs j = some z) : ¬ (j < 0 ∨ cl.slots.size ≤ j.toNatClampNeg) ∧ cl.slots[j.toNatClampNeg]? = some (f z) := by
  unfold rdO at hr
  by_cases hj : j < 0
  · rw [if_pos hj] at hr; exact nomatch hr
  · rw [if_neg hj] at hr
    obtain ⟨hi, he⟩ := List.getElem?_eq_some_iff.mp hr
    rw [q]
    refine ⟨?_, by simp [hr]⟩
    rintro (h1 | h1)
    · exact hj h1
    · simp at h1; omega
theorem wr_at2 {α : Type} {f : α → Value} {xs xs' : List α} {j : Int32} {z : α} {cl : Cell} (q : cl.slots = (xs.map f).toArray) (hr : wrO xs j z = some xs') : ¬ (j < 0 ∨ cl.slots.size ≤ j.toNatClampNeg) ∧ (cl.setSlot j.toNatClampNeg (f z)).slots = (xs'.map f).toArray := by
  unfold wrO at hr
  by_cases hj : j < 0 ∨ xs.length ≤ j.toNatClampNeg
  · rw [if_pos hj] at hr; exact nomatch hr
  · rw [if_neg hj] at hr
    obtain rfl := Option.some.inj hr
    refine ⟨by rw [q]; simpa using hj, ?_⟩
    simp only [Cell.setSlot, q]
    simp [List.map_set]
theorem ldI (X : Stand p l e R s m args below meth c T locs cells slots) (hx : p.tables.exec = Jvm.exec) (hZ : Z.Warmed39 s.vm) (eT : T.heap = h) {xs : List Int32} (A : AI Z h a .int xs) {j z : Int32} (hr : rdO xs j = some z) {g : JFrame} (hg : g.method = m) {rest : List Value} (hs : g.stack = .int j :: .ref a :: rest) (hd : decode c.code g.pc = .ok (.iaload, 1)) :
    ∀ target, Steps p.tables e below (T.setTop { g with pc := g.pc + 1, stack := .int z :: rest }) target → Steps p.tables e below (T.setTop g) target := by
  obtain ⟨cl, A, q, xx⟩ := A
  obtain ⟨h1, h2⟩ := rd_at q hr
  exact X.iaload hx (j := j) (v := .int z) (by rw [eT]; exact A.1) (State.isArrayOf_alike hZ.alike A.2.1) A.2.2 h1 h2 hg hs hd
theorem ldB (X : Stand p l e R s m args below meth c T locs cells slots) (hx : p.tables.exec = Jvm.exec) (hZ : Z.Warmed39 s.vm) (eT : T.heap = h) {xs : List Int32} (A : AI Z h a .byte xs) {j z : Int32} (hr : rdO xs j = some z) {g : JFrame} (hg : g.method = m) {rest : List Value} (hs : g.stack = .int j :: .ref a :: rest) (hd : decode c.code g.pc = .ok (.baload, 1)) :
    ∀ target, Steps p.tables e below (T.setTop { g with pc := g.pc + 1, stack := .int z :: rest }) target → Steps p.tables e below (T.setTop g) target := by
  obtain ⟨cl, A, q, xx⟩ := A
  obtain ⟨h1, h2⟩ := rd_at q hr
  exact X.baloadBytes hx (j := j) (v := .int z) (by rw [eT]; exact A.1) (State.isArrayOf_alike hZ.alike A.2.1) A.2.2 h1 h2 hg hs hd
theorem ldJ (X : Stand p l e R s m args below meth c T locs cells slots) (hx : p.tables.exec = Jvm.exec) (hZ : Z.Warmed39 s.vm) (eT : T.heap = h) {xs : List Int64} (A : AJ Z h a .long xs) {j : Int32} {z : Int64} (hr : rdO xs j = some z) {g : JFrame} (hg : g.method = m) {rest : List Value} (hs : g.stack = .int j :: .ref a :: rest) (hd : decode c.code g.pc = .ok (.laload, 1)) :
    ∀ target, Steps p.tables e below (T.setTop { g with pc := g.pc + 1, stack := .long z :: rest }) target → Steps p.tables e below (T.setTop g) target := by
  obtain ⟨cl, A, q, xx⟩ := A
  obtain ⟨h1, h2⟩ := rd_at q hr
  exact X.laload hx (j := j) (v := .long z) (by rw [eT]; exact A.1) (State.isArrayOf_alike hZ.alike A.2.1) A.2.2 h1 h2 hg hs hd
theorem soI (X : Stand p l e R s m args below meth c T locs cells slots) (hx : p.tables.exec = Jvm.exec) (hZ : Z.Warmed39 s.vm) (eT : T.heap = h) {xs xs' : List Int32} (A : AI Z h a .int xs) {j z : Int32} (hr : wrO xs j z = some xs') {g : JFrame} (hg : g.method = m) {rest : List Value} (hs : g.stack = .int z :: .int j :: .ref a :: rest) (hd : decode c.code g.pc = .ok (.iastore, 1)) :
    ∃ T' h', Stand p l e R s m args below meth c T' (locs ++ [⟨a, j.toNatClampNeg⟩]) cells slots ∧ T'.heap = h' ∧ Wr h h' a j.toNatClampNeg (.int z) ∧ AI Z h' a .int xs' ∧ ∀ target, Steps p.tables e below (T'.setTop { g with pc := g.pc + 1, stack := rest }) target → Steps p.tables e below (T.setTop g) target := by
  obtain ⟨cl, A, q, xx⟩ := A
  obtain ⟨h1, h2⟩ := wr_at2 q hr
  obtain ⟨T', h', X', e', W, st⟩ := stI X hx hZ eT A h1 hg hs hd
  exact ⟨T', h', X', e', W, ⟨_, A.same W, h2, xx.wr W⟩, st⟩
theorem soB (X : Stand p l e R s m args below meth c T locs cells slots) (hx : p.tables.exec = Jvm.exec) (hZ : Z.Warmed39 s.vm) (eT : T.heap = h) {xs xs' : List Int32} (A : AI Z h a .byte xs) {j z : Int32} (hr : wrO xs j (z.toInt8.toInt32) = some xs') {g : JFrame} (hg : g.method = m) {rest : List Value} (hs : g.stack = .int z :: .int j :: .ref a :: rest) (hd : decode c.code g.pc = .ok (.bastore, 1)) :
    ∃ T' h', Stand p l e R s m args below meth c T' (locs ++ [⟨a, j.toNatClampNeg⟩]) cells slots ∧ T'.heap = h' ∧ Wr h h' a j.toNatClampNeg (.int (z.toInt8.toInt32)) ∧ AI Z h' a .byte xs' ∧ ∀ target, Steps p.tables e below (T'.setTop { g with pc := g.pc + 1, stack := rest }) target → Steps p.tables e below (T.setTop g) target := by
  obtain ⟨cl, A, q, xx⟩ := A
  obtain ⟨h1, h2⟩ := wr_at2 q hr
  obtain ⟨T', h', X', e', W, st⟩ := stB X hx hZ eT A h1 hg hs hd
  exact ⟨T', h', X', e', W, ⟨_, A.same W, h2, xx.wr W⟩, st⟩
theorem soJ (X : Stand p l e R s m args below meth c T locs cells slots) (hx : p.tables.exec = Jvm.exec) (hZ : Z.Warmed39 s.vm) (eT : T.heap = h) {xs xs' : List Int64} (A : AJ Z h a .long xs) {j : Int32} {z : Int64} (hr : wrO xs j z = some xs') {g : JFrame} (hg : g.method = m) {rest : List Value} (hs : g.stack = .long z :: .int j :: .ref a :: rest) (hd : decode c.code g.pc = .ok (.lastore, 1)) :
    ∃ T' h', Stand p l e R s m args below meth c T' (locs ++ [⟨a, j.toNatClampNeg⟩]) cells slots ∧ T'.heap = h' ∧ Wr h h' a j.toNatClampNeg (.long z) ∧ AJ Z h' a .long xs' ∧ ∀ target, Steps p.tables e below (T'.setTop { g with pc := g.pc + 1, stack := rest }) target → Steps p.tables e below (T.setTop g) target := by
  obtain ⟨cl, A, q, xx⟩ := A
  obtain ⟨h1, h2⟩ := wr_at2 q hr
  obtain ⟨T', h', X', e', W, st⟩ := stJ X hx hZ eT A h1 hg hs hd
  exact ⟨T', h', X', e', W, ⟨_, A.same W, h2, xx.wr W⟩, st⟩
theorem lenAI (X : Stand p l e R s m args below meth c T locs cells slots) (hx : p.tables.exec = Jvm.exec) (hZ : Z.Warmed39 s.vm) (eT : T.heap = h) {xs : List Int32} (A : AI Z h a ty xs) {g : JFrame} (hg : g.method = m) {rest : List Value} (hs : g.stack = .ref a :: rest) (hd : decode c.code g.pc = .ok (.arraylength, 1)) :
    ∀ target, Steps p.tables e below (T.setTop { g with pc := g.pc + 1, stack := .int (lenO xs) :: rest }) target → Steps p.tables e below (T.setTop g) target := by
  obtain ⟨cl, A, q, xx⟩ := A
  have e1 : cl.slots.size.toInt32 = lenO xs := by rw [q]; simp [lenO]
  intro t k
  refine X.arraylength hx (by rw [eT]; exact A.1) (State.isArrayOf_alike hZ.alike A.2.1) hg hs hd _ ?_
  rw [e1]; exact k
theorem lenAJ (X : Stand p l e R s m args below meth c T locs cells slots) (hx : p.tables.exec = Jvm.exec) (hZ : Z.Warmed39 s.vm) (eT : T.heap = h) {xs : List Int64} (A : AJ Z h a ty xs) {g : JFrame} (hg : g.method = m) {rest : List Value} (hs : g.stack = .ref a :: rest) (hd : decode c.code g.pc = .ok (.arraylength, 1)) :
    ∀ target, Steps p.tables e below (T.setTop { g with pc := g.pc + 1, stack := .int (lenO xs) :: rest }) target → Steps p.tables e below (T.setTop g) target := by
  obtain ⟨cl, A, q, xx⟩ := A
  have e1 : cl.slots.size.toInt32 = lenO xs := by rw [q]; simp [lenO]
  intro t k
  refine X.arraylength hx (by rw [eT]; exact A.1) (State.isArrayOf_alike hZ.alike A.2.1) hg hs hd _ ?_
  rw [e1]; exact k
theorem newI (X : Stand p l e R s m args below meth c T locs cells slots) (hx : p.tables.exec = Jvm.exec) (hZ : Z.Warmed39 s.vm) {aty : ArrayType} (ht : newarray.typeOf aty = ty) (hdv : defaultValue ty = .int 0) (w : (Cond.arrayClass ty).before a0 Z = true) (eT : T.heap = h) {n : Int32} {cap : Nat} {xs : List Int32} (hr : mkO n cap = some xs) {g : JFrame} (hg : g.method = m) (hd : decode c.code g.pc = .ok (.newarray aty, 2)) {rest : List Value} (hs : g.stack = .int n :: rest) (hb : cap * 8 ≤ 536870912) (hc : cells + 1 ≤ R.cells) (hl : slots + cap ≤ R.slots) :
    ∃ T' h', Stand p l e R s m args below meth c T' locs (cells + 1) (slots + cap) ∧ T'.heap = h' ∧ Ext h h' ∧ AI Z h' h.size ty xs ∧ ∀ target, Steps p.tables e below (T'.setTop { g with pc := g.pc + 2, stack := .ref h.size :: rest }) target → Steps p.tables e below (T.setTop g) target := by
  subst ht
  unfold mkO at hr
  by_cases hn : n < 0 ∨ cap < n.toNatClampNeg
  · rw [if_pos hn] at hr; exact nomatch hr
  · rw [if_neg hn] at hr
    obtain rfl := Option.some.inj hr
    obtain ⟨T', h', cA, X', e', E, A, xx, st⟩ := newPE X hx hZ w eT hg hd hs (fun q => hn (Or.inl q)) (cap := cap) (Nat.le_of_not_lt fun q => hn (Or.inr q)) hb hc hl rfl
    exact ⟨T', h', X', e', E, ⟨_, A, by simp [newA, hdv], xx⟩, st⟩
end Arrs
theorem AI.exa {Z : State} {h : Heap} {a : Addr} {xs : List Int32} (F : AI Z h a .byte xs) : Exa Z h a "[B" := by obtain ⟨_, _, _, x⟩ := F; exact x
/-- the same, for a run that may have loaded String constants -/
def RunsW (p : Program) (e : Env) (below : List Frame) (s : State) (Φ : Option Value → Heap → List Loc → Prop) (k n : Nat) (T : State) (g : JFrame) : Prop :=
  ∃ s₂ o, Steps p.tables e below (T.setTop g) s₂ ∧ s₂.status = .running ∧ Ended s₂ below o ∧ ∃ v L, o = .returned v ∧ Φ v s₂.heap L ∧ ReturnedEndW s o s₂ L k n
section OwnW
variable {p : Program} {l : Launch} {e : Env} {R : Room} {s : State} {vm0 : Vm} {k0 : Nat} {m : MethodId} {args : Array Value} {below : List Frame} {meth : Method} {c : Code} {T T' : State} {locs : List Loc} {cells slots k n : Nat} {g g' : JFrame} {Φ : Option Value → Heap → List Loc → Prop}
theorem RunsW.via (h : ∀ t, Steps p.tables e below (T'.setTop g') t → Steps p.tables e below (T.setTop g) t) (r : RunsW p e below s Φ k n T' g') : RunsW p e below s Φ k n T g := by
  obtain ⟨s₂, o, h1, r⟩ := r
  exact ⟨s₂, o, h _ h1, r⟩
theorem own_retVW (X : Stand p l e R (s.setVm vm0) m args below meth c T locs cells slots) (hx : p.tables.exec = Jvm.exec) (hlk : meth.locks = false) (hret : meth.sig.returnType = none) {pc : Nat} {Ls : Array Slot} (hd : decode c.code pc = .ok (.return_, 1)) (hS : s.Since vm0 k0) (h0 : k0 ≤ T.heap.size) (hk : cells ≤ k) (hn : slots ≤ n) (hΦ : Φ none T.heap locs) :
    RunsW p e below s Φ k n T (mkF m pc Ls []) := by
  obtain ⟨fs, hr, hrun, hended, hE⟩ := X.leaveW hS h0 (v := none) (fun _ => rfl) hlk
  exact ⟨_, _, X.returnOut hx hret hd hr, hrun, hended, _, _, rfl, hΦ, hE.1, hE.2.1, hE.2.2.1, hE.2.2.2.mono hk hn⟩
theorem own_retIW (X : Stand p l e R (s.setVm vm0) m args below meth c T locs cells slots) (hx : p.tables.exec = Jvm.exec) (hlk : meth.locks = false) (hret : meth.sig.returnType = some .int) {pc : Nat} {Ls : Array Slot} {z : Int32} {rest : List Value} (hd : decode c.code pc = .ok (.ireturn, 1)) (hS : s.Since vm0 k0) (h0 : k0 ≤ T.heap.size) (hk : cells ≤ k) (hn : slots ≤ n) (hΦ : Φ (some (.int z)) T.heap locs) :
    RunsW p e below s Φ k n T (mkF m pc Ls (.int z :: rest)) := by
  obtain ⟨fs, hr, hrun, hended, hE⟩ := X.leaveW hS h0 (v := some (.int z)) (fun h => by rw [hret] at h; cases h) hlk
  exact ⟨_, _, retI X hx hret hd hr, hrun, hended, _, _, rfl, hΦ, hE.1, hE.2.1, hE.2.2.1, hE.2.2.2.mono hk hn⟩
theorem own_retNW (X : Stand p l e R (s.setVm vm0) m args below meth c T locs cells slots) (hx : p.tables.exec = Jvm.exec) (hlk : meth.locks = false) {t : FieldType} (hret : meth.sig.returnType = some t) (ht : t = .boolean ∨ t = .byte ∨ t = .char ∨ t = .short) {pc : Nat} {Ls : Array Slot} {z : Int32} {rest : List Value} (hd : decode c.code pc = .ok (.ireturn, 1)) (hS : s.Since vm0 k0) (h0 : k0 ≤ T.heap.size) (hk : cells ≤ k) (hn : slots ≤ n) (hΦ : Φ (some (.int (nar t z))) T.heap locs) :
    RunsW p e below s Φ k n T (mkF m pc Ls (.int z :: rest)) := by
  obtain ⟨fs, hr, hrun, hended, hE⟩ := X.leaveW hS h0 (v := some (.int (nar t z))) (fun h => by rw [hret] at h; cases h) hlk
  exact ⟨_, _, retN X hx hret ht hd hr, hrun, hended, _, _, rfl, hΦ, hE.1, hE.2.1, hE.2.2.1, hE.2.2.2.mono hk hn⟩
end OwnW
theorem d4_0 : decode jdk_31_method_11_code 0 = .ok (.aload_n 0, 1) := by decide +kernel
theorem d4_1 : decode jdk_31_method_11_code 1 = .ok (.ifnonnull 12, 3) := by decide +kernel
theorem d4_4 : decode jdk_31_method_11_code 4 = .ok (.new 84, 3) := by decide +kernel
theorem d4_7 : decode jdk_31_method_11_code 7 = .ok (.dup, 1) := by decide +kernel
theorem d4_8 : decode jdk_31_method_11_code 8 = .ok (.aload_n 1, 1) := by decide +kernel
theorem d4_9 : decode jdk_31_method_11_code 9 = .ok (.invokespecial 87, 3) := by decide +kernel
theorem d4_12 : decode jdk_31_method_11_code 12 = .ok (.athrow, 1) := by decide +kernel
theorem d4_13 : decode jdk_31_method_11_code 13 = .ok (.aload_n 0, 1) := by decide +kernel
theorem d4_14 : decode jdk_31_method_11_code 14 = .ok (.areturn, 1) := by decide +kernel
def P4 (Z : State) (hE : Heap) (a1 : Addr) (q_a1 : List Int32) (n0 : Nat) (r : Unit) (v : Option Value) (h : Heap) (L : List Loc) : Prop := v = some (.ref a1) ∧ Fr n0 L ∧ h = hE
def g4_0 (q_a1 : List Int32) : Option (Unit) := some ()
set_option maxRecDepth 65536 in
set_option maxHeartbeats 4000000 in
theorem b4_0 {hE : Heap} {a1 : Addr} {z0 : Addr} {q_a1 : List Int32} {r : Unit} (C : Ctx p s m meth c Z a0 "java/util/Objects" jdk_31_method_11_code 2 (some (.object "java/lang/Object")) "requireNonNull") (X0 : Stand p l e ({ frames := 0, cells := 0, slots := 0, locals := 0 } : Room) s m args below meth c T0 locs cells slots) (e0 : T0.heap = hE) (N0 : Fr n0 locs) (hk : cells ≤ 0) (hn : slots ≤ 0) (Z1 : n0 ≤ hE.size) (o0 : n0 ≤ a1) (A_a1_0 : AI Z hE a1 .byte q_a1) (hr : g4_0 q_a1 = some r) :
    Runs p e below s (P4 Z hE a1 q_a1 n0 r) 0 0 T0 (mkF m 0 #[.val (.ref a1), .val (.ref z0)] []) := by
  unfold g4_0 at hr
  have ⟨hx, hZ, hw, hby, hml, hown, hret, hlk, hnm⟩ := C
  refine Runs.via (T' := T0) (g' := (mkF m 14 #[.val (.ref a1), .val (.ref z0)] [(.ref a1)])) (fun t k => ?_) ?_
  · show Steps p.tables e below (T0.setTop (mkF m 0 #[.val (.ref a1), .val (.ref z0)] [])) t
    refine XS.aloadN X0.here hx rfl (hb hby d4_0) rfl rfl ?_
    show Steps p.tables e below (T0.setTop (mkF m 1 #[.val (.ref a1), .val (.ref z0)] [(.ref a1)])) t
    refine XS.ifnonnullYes X0.here hx rfl (pc0 := 1) (pc' := 13) rfl (hb hby d4_1) rfl (by decide) (by decide) ?_
    show Steps p.tables e below (T0.setTop (mkF m 13 #[.val (.ref a1), .val (.ref z0)] [])) t
    refine XS.aloadN X0.here hx rfl (hb hby d4_13) rfl rfl ?_
    exact k
  obtain rfl := Option.some.inj hr
  exact own_retR X0 hx hlk hret rfl (hb hby d4_14) (by show cells ≤ 0; omega) (by show slots ≤ 0; omega) ⟨rfl, N0, e0⟩
def f4 (q_a1 : List Int32) : Option (Unit) := g4_0 q_a1
theorem pn_4 : plainName "java/util/Objects" = true := by first | (simp [plainName, overriddenIn]; done) | decide +kernel
theorem ef_4 (m : MethodId) (a1 : Addr) (z0 : Addr) : entryFrame m #[(.ref a1), (.ref z0)] 2 = mkF m 0 #[.val (.ref a1), .val (.ref z0)] [] := by first | (simp [entryFrame, mkF, argsToLocals, Value.category]; done) | rfl
set_option maxRecDepth 65536 in
set_option maxHeartbeats 4000000 in
theorem rm4 (l : Launch) (Z : State) (a0 : Array Value) (hw : ∀ d ∈ tables_1, d.before a0 Z = true) (ws : List Jvm.Cond) (a1 : Addr) (z0 : Addr) (q_a1 : List Int32) (hE : Heap) (n0 : Nat) (Z0 : n0 ≤ hE.size) (o0 : n0 ≤ a1) (A_a1_0 : AI Z hE a1 .byte q_a1) (r : Unit) (hr : f4 q_a1 = some r) :
    MetFree l (⟨"java/util/Objects", "requireNonNull", "(Ljava/lang/Object;Ljava/lang/String;)Ljava/lang/Object;"⟩ : MethodName) (head1 (Jvm.Cond.code (⟨"java/util/Objects", "requireNonNull", "(Ljava/lang/Object;Ljava/lang/String;)Ljava/lang/Object;"⟩ : MethodName) jdk_31_method_11_code 2 (some (.object "java/lang/Object")) :: ws) ({ frames := 0, cells := 0, slots := 0, locals := 0 } : Room)) (fun a U => a = #[(.ref a1), (.ref z0)] ∧ Z.Warmed39 U.vm ∧ U.heap = hE) (fun _ _ _ _ _ => True) (fun _ U o U' => ∃ v L, o = .returned v ∧ (P4 Z hE a1 q_a1 n0 r v U'.heap L) ∧ FrameEnd U o U' L ({ frames := 0, cells := 0, slots := 0, locals := 0 } : Room).cells ({ frames := 0, cells := 0, slots := 0, locals := 0 } : Room).slots) := by
  refine MetFree.of_bodySF (plainFor_of_name pn_4) hisR ?_
  intro p e s m args below meth c s₁ Bd hml0 hP hK
  obtain ⟨rfl, hZ, hh⟩ := hP
  have X0 : Stand p l e ({ frames := 0, cells := 0, slots := 0, locals := 0 } : Room) s m #[(.ref a1), (.ref z0)] below meth c s₁ [] 0 0 := Stand.of_body Bd
  have e0 : s₁.heap = hE := by rw [← hh, Bd.state]; rfl
  have C : Ctx p s m meth c Z a0 "java/util/Objects" jdk_31_method_11_code 2 (some (.object "java/lang/Object")) "requireNonNull" := ⟨Bd.exec, hZ, hw, Bd.bytes, hml0, findClass_of_methodNamed Bd.named, Bd.returns, BodyLoose.notSynchronized Bd, (name_of_methodNamed Bd.named Bd.method).1⟩
  refine Runs.via (fun t k => castTop (ef_4 m a1 z0) k) (b4_0 C X0 e0 (Fr.nil n0) (by show 0 ≤ 0; omega) (by show 0 ≤ 0; omega) Z0 (by omega) A_a1_0 hr)
theorem pd_0 : parseMethodDescriptor "(Ljava/lang/Object;Ljava/lang/String;)Ljava/lang/Object;" = some ⟨[(.object "java/lang/Object"), (.object "java/lang/String")], some (.object "java/lang/Object")⟩ := by decide +kernel
theorem d5_0 : decode prog_18_method_33_code 0 = .ok (.iload_n 0, 1) := by decide +kernel
theorem d5_1 : decode prog_18_method_33_code 1 = .ok (.iconst 1, 1) := by decide +kernel
theorem d5_2 : decode prog_18_method_33_code 2 = .ok (.if_icmp .ge 17, 3) := by decide +kernel
theorem d5_5 : decode prog_18_method_33_code 5 = .ok (.new 285, 3) := by decide +kernel
theorem d5_8 : decode prog_18_method_33_code 8 = .ok (.dup, 1) := by decide +kernel
theorem d5_9 : decode prog_18_method_33_code 9 = .ok (.iload_n 0, 1) := by decide +kernel
theorem d5_15 : decode prog_18_method_33_code 15 = .ok (.invokespecial 288, 3) := by decide +kernel
theorem d5_18 : decode prog_18_method_33_code 18 = .ok (.athrow, 1) := by decide +kernel
theorem d5_19 : decode prog_18_method_33_code 19 = .ok (.iload_n 0, 1) := by decide +kernel
theorem d5_20 : decode prog_18_method_33_code 20 = .ok (.ireturn, 1) := by decide +kernel
def P5 (Z : State) (hE : Heap) (n0 : Nat) (r : Int32) (v : Option Value) (h : Heap) (L : List Loc) : Prop := v = some (.int r) ∧ Fr n0 L ∧ h = hE
def g5_0 (x0 : Int32) : Option (Int32) := (if x0 < (1 : Int32) then none else some x0)
set_option maxRecDepth 65536 in
set_option maxHeartbeats 4000000 in
theorem b5_0 {hE : Heap} {r : Int32} (C : Ctx p s m meth c Z a0 "com/example/wirelace/wirelace/codec/WireReader" prog_18_method_33_code 1 (some .int) "checkMaxDepth") (X0 : Stand p l e ({ frames := 0, cells := 0, slots := 0, locals := 0 } : Room) s m args below meth c T0 locs cells slots) (e0 : T0.heap = hE) (N0 : Fr n0 locs) (hk : cells ≤ 0) (hn : slots ≤ 0) (Z1 : n0 ≤ hE.size) (x0 : Int32) (hr : g5_0 x0 = some r) :
    Runs p e below s (P5 Z hE n0 r) 0 0 T0 (mkF m 0 #[.val (.int x0)] []) := by
  unfold g5_0 at hr
  have ⟨hx, hZ, hw, hby, hml, hown, hret, hlk, hnm⟩ := C
  refine Runs.via (T' := T0) (g' := (mkF m 2 #[.val (.int x0)] [(.int (1 : Int32)), (.int x0)])) (fun t k => ?_) ?_
  · show Steps p.tables e below (T0.setTop (mkF m 0 #[.val (.int x0)] [])) t
    refine XS.iloadN X0.here hx rfl (hb hby d5_0) rfl ?_
    show Steps p.tables e below (T0.setTop (mkF m 1 #[.val (.int x0)] [(.int x0)])) t
    refine XS.iconst X0.here hx rfl (hb hby d5_1) ?_
    exact k
  refine iteE hr (fun hc1 hr => ?_) (fun hc1 hr => ?_)
  · refine Runs.via (T' := T0) (g' := (mkF m 5 #[.val (.int x0)] [])) (fun t k => ?_) ?_
    · show Steps p.tables e below (T0.setTop (mkF m 2 #[.val (.int x0)] [(.int (1 : Int32)), (.int x0)])) t
      exact XS.icmpNo X0.here hx rfl (hb hby d5_2) rfl (tlt hc1).2.1 k
    exact nomatch hr
  · refine Runs.via (T' := T0) (g' := (mkF m 19 #[.val (.int x0)] [])) (fun t k => ?_) ?_
    · show Steps p.tables e below (T0.setTop (mkF m 2 #[.val (.int x0)] [(.int (1 : Int32)), (.int x0)])) t
      exact XS.icmpYes X0.here hx rfl (pc0 := 2) (pc' := 19) rfl (hb hby d5_2) rfl (flt hc1).2.1 (by decide) (by decide) k
    refine Runs.via (T' := T0) (g' := (mkF m 20 #[.val (.int x0)] [(.int x0)])) (fun t k => ?_) ?_
    · show Steps p.tables e below (T0.setTop (mkF m 19 #[.val (.int x0)] [])) t
      refine XS.iloadN X0.here hx rfl (hb hby d5_19) rfl ?_
      exact k
    obtain rfl := Option.some.inj hr
    exact own_retI X0 hx hlk hret (hb hby d5_20) (by show cells ≤ 0; omega) (by show slots ≤ 0; omega) ⟨rfl, N0, e0⟩
def f5 (x0 : Int32) : Option (Int32) := g5_0 x0
theorem pn_5 : plainName "com/example/wirelace/wirelace/codec/WireReader" = true := by first | (simp [plainName, overriddenIn]; done) | decide +kernel
theorem ef_5 (m : MethodId) (x0 : Int32) : entryFrame m #[(.int x0)] 1 = mkF m 0 #[.val (.int x0)] [] := by first | (simp [entryFrame, mkF, argsToLocals, Value.category]; done) | rfl
set_option maxRecDepth 65536 in
set_option maxHeartbeats 4000000 in
theorem rm5 (l : Launch) (Z : State) (a0 : Array Value) (hw : ∀ d ∈ tables_1, d.before a0 Z = true) (ws : List Jvm.Cond) (x0 : Int32) (hE : Heap) (n0 : Nat) (Z0 : n0 ≤ hE.size) (r : Int32) (hr : f5 x0 = some r) :
    MetFree l (⟨"com/example/wirelace/wirelace/codec/WireReader", "checkMaxDepth", "(I)I"⟩ : MethodName) (head1 (Jvm.Cond.code (⟨"com/example/wirelace/wirelace/codec/WireReader", "checkMaxDepth", "(I)I"⟩ : MethodName) prog_18_method_33_code 1 (some .int) :: ws) ({ frames := 0, cells := 0, slots := 0, locals := 0 } : Room)) (fun a U => a = #[(.int x0)] ∧ Z.Warmed39 U.vm ∧ U.heap = hE) (fun _ _ _ _ _ => True) (fun _ U o U' => ∃ v L, o = .returned v ∧ (P5 Z hE n0 r v U'.heap L) ∧ FrameEnd U o U' L ({ frames := 0, cells := 0, slots := 0, locals := 0 } : Room).cells ({ frames := 0, cells := 0, slots := 0, locals := 0 } : Room).slots) := by
  refine MetFree.of_bodySF (plainFor_of_name pn_5) hisR ?_
  intro p e s m args below meth c s₁ Bd hml0 hP hK
  obtain ⟨rfl, hZ, hh⟩ := hP
  have X0 : Stand p l e ({ frames := 0, cells := 0, slots := 0, locals := 0 } : Room) s m #[(.int x0)] below meth c s₁ [] 0 0 := Stand.of_body Bd
  have e0 : s₁.heap = hE := by rw [← hh, Bd.state]; rfl
  have C : Ctx p s m meth c Z a0 "com/example/wirelace/wirelace/codec/WireReader" prog_18_method_33_code 1 (some .int) "checkMaxDepth" := ⟨Bd.exec, hZ, hw, Bd.bytes, hml0, findClass_of_methodNamed Bd.named, Bd.returns, BodyLoose.notSynchronized Bd, (name_of_methodNamed Bd.named Bd.method).1⟩
  refine Runs.via (fun t k => castTop (ef_5 m x0) k) (b5_0 C X0 e0 (Fr.nil n0) (by show 0 ≤ 0; omega) (by show 0 ≤ 0; omega) Z0 x0 hr)
theorem pd_1 : parseMethodDescriptor "(I)I" = some ⟨[.int], some .int⟩ := by decide +kernel
theorem d2_0 : decode prog_18_method_2_code 0 = .ok (.aload_n 0, 1) := by decide +kernel
theorem d2_1 : decode prog_18_method_2_code 1 = .ok (.invokespecial 7, 3) := by decide +kernel
theorem d2_4 : decode prog_18_method_2_code 4 = .ok (.aload_n 0, 1) := by decide +kernel
theorem d2_5 : decode prog_18_method_2_code 5 = .ok (.iconst (-1), 1) := by decide +kernel
theorem d2_6 : decode prog_18_method_2_code 6 = .ok (.putfield 12, 3) := by decide +kernel
theorem d2_9 : decode prog_18_method_2_code 9 = .ok (.aload_n 0, 1) := by decide +kernel
theorem d2_10 : decode prog_18_method_2_code 10 = .ok (.aload_n 1, 1) := by decide +kernel
theorem d2_11 : decode prog_18_method_2_code 11 = .ok (.ldc 16, 2) := by decide +kernel
theorem d2_13 : decode prog_18_method_2_code 13 = .ok (.invokestatic 18, 3) := by decide +kernel
theorem d2_16 : decode prog_18_method_2_code 16 = .ok (.checkcast 24, 3) := by decide +kernel
theorem d2_19 : decode prog_18_method_2_code 19 = .ok (.putfield 26, 3) := by decide +kernel
theorem d2_22 : decode prog_18_method_2_code 22 = .ok (.aload_n 0, 1) := by decide +kernel
theorem d2_23 : decode prog_18_method_2_code 23 = .ok (.aload_n 1, 1) := by decide +kernel
theorem d2_24 : decode prog_18_method_2_code 24 = .ok (.arraylength, 1) := by decide +kernel
theorem d2_25 : decode prog_18_method_2_code 25 = .ok (.putfield 29, 3) := by decide +kernel
theorem d2_28 : decode prog_18_method_2_code 28 = .ok (.aload_n 0, 1) := by decide +kernel
theorem d2_29 : decode prog_18_method_2_code 29 = .ok (.iload_n 2, 1) := by decide +kernel
theorem d2_30 : decode prog_18_method_2_code 30 = .ok (.invokestatic 32, 3) := by decide +kernel
theorem d2_33 : decode prog_18_method_2_code 33 = .ok (.putfield 36, 3) := by decide +kernel
theorem d2_36 : decode prog_18_method_2_code 36 = .ok (.return_, 1) := by decide +kernel
def P2 (Z : State) (hE : Heap) (a1 : Addr) (a2 : Addr) (q_a1 : List Int32) (q_a2_packedOuterLimit : Int32) (q_a2_limit : Int32) (q_a2_maxDepth : Int32) (q_a2_position : Int32) (n0 : Nat) (r : Int32 × Int32 × Int32) (v : Option Value) (h : Heap) (L : List Loc) : Prop := v = none ∧ Fr n0 L ∧ Keep hE h [a2] ∧ Exa Z h a2 "com/example/wirelace/wirelace/codec/WireReader" ∧ Fld Z h a2 "com/example/wirelace/wirelace/codec/WireReader" "packedOuterLimit" "I" (.int r.1) ∧ Fld Z h a2 "com/example/wirelace/wirelace/codec/WireReader" "message" "[B" (.ref a1) ∧ Fld Z h a2 "com/example/wirelace/wirelace/codec/WireReader" "limit" "I" (.int r.2.1) ∧ Fld Z h a2 "com/example/wirelace/wirelace/codec/WireReader" "maxDepth" "I" (.int r.2.2) ∧ Fld Z h a2 "com/example/wirelace/wirelace/codec/WireReader" "position" "I" (.int q_a2_position)
def g2_0 (x2 : Int32) (q_a1 : List Int32) (q_a2_packedOuterLimit : Int32) (q_a2_limit : Int32) (q_a2_maxDepth : Int32) (q_a2_position : Int32) : Option (Int32 × Int32 × Int32) := ((f4 q_a1).bind fun r4 => (letO (lenO q_a1) fun v7 => ((f5 x2).bind fun r9 => some ((-1 : Int32), v7, r9))))
set_option maxRecDepth 65536 in
set_option maxHeartbeats 4000000 in
theorem b2_0 {hE : Heap} {vm0 : Vm} {k0 : Nat} {a1 : Addr} {a2 : Addr} {q_a1 : List Int32} {q_a2_position : Int32} {q_a2_packedOuterLimit₀ : Int32} {q_a2_limit₀ : Int32} {q_a2_maxDepth₀ : Int32} {r : Int32 × Int32 × Int32} (C : Ctx p (s.setVm vm0) m meth c Z a0 "com/example/wirelace/wirelace/codec/WireReader" prog_18_method_2_code 3 none "<init>") (X0 : Stand p l e ({ frames := 1, cells := 2, slots := 92, locals := 14 } : Room) (s.setVm vm0) m args below meth c T0 locs cells slots) (e0 : T0.heap = h0) (N0 : Fr n0 locs) (hk : cells ≤ 0) (hn : slots ≤ 0) (Z1 : n0 ≤ h0.size) (hS0 : s.Since vm0 k0) (hk0 : k0 ≤ h0.size) (KE : Keep hE h0 [a2]) (o0 : n0 ≤ a1) (o1 : @LT.lt Nat instLTNat a1 a2) (q_a2_packedOuterLimit : Int32) (q_a2_limit : Int32) (q_a2_maxDepth : Int32) (x2 : Int32) (A_a1_0 : AI Z h0 a1 .byte q_a1) (E_a2_0 : Exa Z h0 a2 "com/example/wirelace/wirelace/codec/WireReader") (F_a2_packedOuterLimit_0 : Fld Z h0 a2 "com/example/wirelace/wirelace/codec/WireReader" "packedOuterLimit" "I" (.int q_a2_packedOuterLimit)) (F_a2_message_0 : Fld Z h0 a2 "com/example/wirelace/wirelace/codec/WireReader" "message" "[B" .null) (F_a2_limit_0 : Fld Z h0 a2 "com/example/wirelace/wirelace/codec/WireReader" "limit" "I" (.int q_a2_limit)) (F_a2_maxDepth_0 : Fld Z h0 a2 "com/example/wirelace/wirelace/codec/WireReader" "maxDepth" "I" (.int q_a2_maxDepth)) (F_a2_position_0 : Fld Z h0 a2 "com/example/wirelace/wirelace/codec/WireReader" "position" "I" (.int q_a2_position)) (hr : g2_0 x2 q_a1 q_a2_packedOuterLimit q_a2_limit q_a2_maxDepth q_a2_position = some r) :
    RunsW p e below s (P2 Z hE a1 a2 q_a1 q_a2_packedOuterLimit₀ q_a2_limit₀ q_a2_maxDepth₀ q_a2_position n0 r) 2 92 T0 (mkF m 0 #[.val (.ref a2), .val (.ref a1), .val (.int x2)] []) := by
  unfold g2_0 at hr
  have ⟨hx, hZ, hw, hby, hml, hown, hret, hlk, hnm⟩ := C
  refine RunsW.via (T' := T0) (g' := (mkF m 1 #[.val (.ref a2), .val (.ref a1), .val (.int x2)] [(.ref a2)])) (fun t k => ?_) ?_
  · show Steps p.tables e below (T0.setTop (mkF m 0 #[.val (.ref a2), .val (.ref a1), .val (.int x2)] [])) t
    refine XS.aloadN X0.here hx rfl (hb hby d2_0) rfl rfl ?_
    exact k
  obtain ⟨T1, X1, e1, st1⟩ := initO X0 hx hZ hown (hw _ (List.mem_of_getElem? (i := 11) rfl)) (hw _ (List.mem_of_getElem? (i := 12) rfl)) (hw _ (List.mem_of_getElem? (i := 13) rfl)) e0 (g := (mkF m 1 #[.val (.ref a2), .val (.ref a1), .val (.int x2)] [(.ref a2)])) rfl (by rw [hml]; rfl) rfl (hb hby d2_1) (by decide) (W := 0) (by show 2 * 0 + _ ≤ _; exact Nat.le_of_eq rfl) (by decide)
  refine RunsW.via (T' := T1) (g' := (mkF m 4 #[.val (.ref a2), .val (.ref a1), .val (.int x2)] [])) (fun t k => st1 _ k) ?_
  refine RunsW.via (T' := T1) (g' := (mkF m 6 #[.val (.ref a2), .val (.ref a1), .val (.int x2)] [(.int (-1 : Int32)), (.ref a2)])) (fun t k => ?_) ?_
  · show Steps p.tables e below (T1.setTop (mkF m 4 #[.val (.ref a2), .val (.ref a1), .val (.int x2)] [])) t
    refine XS.aloadN X1.here hx rfl (hb hby d2_4) rfl rfl ?_
    show Steps p.tables e below (T1.setTop (mkF m 5 #[.val (.ref a2), .val (.ref a1), .val (.int x2)] [(.ref a2)])) t
    refine XS.iconst X1.here hx rfl (hb hby d2_5) ?_
    exact k
  obtain ⟨T2, h2, X2, e2, W2, st2⟩ := putF X1 hx hZ hown (host := "") (Or.inl (hw _ (List.mem_of_getElem? (i := 14) rfl))) Via.refl e1 F_a2_packedOuterLimit_0 E_a2_0 (Or.inl (hw _ (List.mem_of_getElem? (i := 15) rfl))) (hw _ (List.mem_of_getElem? (i := 3) rfl)) (ty := .int) (by decide) rfl rfl (g := (mkF m 6 #[.val (.ref a2), .val (.ref a1), .val (.int x2)] [(.int (-1 : Int32)), (.ref a2)])) rfl rfl (hb hby d2_6)
  have A_a1_2 : AI Z h2 a1 .byte q_a1 := A_a1_0.other W2 (by omega : @Ne Nat a1 a2)
  have E_a2_2 : Exa Z h2 a2 "com/example/wirelace/wirelace/codec/WireReader" := E_a2_0.wr W2
  have F_a2_packedOuterLimit_2 : Fld Z h2 a2 "com/example/wirelace/wirelace/codec/WireReader" "packedOuterLimit" "I" (.int (-1 : Int32)) := F_a2_packedOuterLimit_0.same W2
  have F_a2_message_2 : Fld Z h2 a2 "com/example/wirelace/wirelace/codec/WireReader" "message" "[B" .null := F_a2_message_0.other W2 (Or.inr (slot_ne (Or.inr (hw _ (List.mem_of_getElem? (i := 30) rfl))) (Or.inl (hw _ (List.mem_of_getElem? (i := 15) rfl))) (by decide) (t := (.array .byte)) (t' := .int) (by decide) (by decide)))
  have F_a2_limit_2 : Fld Z h2 a2 "com/example/wirelace/wirelace/codec/WireReader" "limit" "I" (.int q_a2_limit) := F_a2_limit_0.other W2 (Or.inr (slot_ne (Or.inl (hw _ (List.mem_of_getElem? (i := 32) rfl))) (Or.inl (hw _ (List.mem_of_getElem? (i := 15) rfl))) (by decide) (t := .int) (t' := .int) (by decide) (by decide)))
  have F_a2_maxDepth_2 : Fld Z h2 a2 "com/example/wirelace/wirelace/codec/WireReader" "maxDepth" "I" (.int q_a2_maxDepth) := F_a2_maxDepth_0.other W2 (Or.inr (slot_ne (Or.inr (hw _ (List.mem_of_getElem? (i := 37) rfl))) (Or.inl (hw _ (List.mem_of_getElem? (i := 15) rfl))) (by decide) (t := .int) (t' := .int) (by decide) (by decide)))
  have F_a2_position_2 : Fld Z h2 a2 "com/example/wirelace/wirelace/codec/WireReader" "position" "I" (.int q_a2_position) := F_a2_position_0.other W2 (Or.inr (slot_ne (Or.inl (hw _ (List.mem_of_getElem? (i := 48) rfl))) (Or.inl (hw _ (List.mem_of_getElem? (i := 15) rfl))) (by decide) (t := .int) (t' := .int) (by decide) (by decide)))
  have N2 := Fr.snoc X2 N0 (by omega : n0 ≤ a2)
  have zz2 : n0 ≤ h2.size := Nat.le_trans Z1 (Keep.of_wr W2).1
  have kk2 := Nat.le_trans hk0 (Keep.of_wr W2).1
  have K2 := KE.wr W2 (Or.inl (List.mem_of_getElem? (i := 0) rfl))
  refine RunsW.via (T' := T2) (g' := (mkF m 9 #[.val (.ref a2), .val (.ref a1), .val (.int x2)] [])) (fun t k => st2 _ k) ?_
  refine RunsW.via (T' := T2) (g' := (mkF m 11 #[.val (.ref a2), .val (.ref a1), .val (.int x2)] [(.ref a1), (.ref a2)])) (fun t k => ?_) ?_
  · show Steps p.tables e below (T2.setTop (mkF m 9 #[.val (.ref a2), .val (.ref a1), .val (.int x2)] [])) t
    refine XS.aloadN X2.here hx rfl (hb hby d2_9) rfl rfl ?_
    show Steps p.tables e below (T2.setTop (mkF m 10 #[.val (.ref a2), .val (.ref a1), .val (.int x2)] [(.ref a2)])) t
    refine XS.aloadN X2.here hx rfl (hb hby d2_10) rfl rfl ?_
    exact k
  obtain ⟨zs11, T3, h3, ks3, X3, e3, E3, hS3, kk3, hZ, hown, st3⟩ := ldcS X2 hx hZ hown (hw _ (List.mem_of_getElem? (i := 16) rfl)) (fun d hd => hw d ((by decide +kernel : ∀ d ∈ Bundle.stringAtoms, d ∈ tables_1) d hd)) e2 hS0 kk2 (g := (mkF m 11 #[.val (.ref a2), .val (.ref a1), .val (.int x2)] [(.ref a1), (.ref a2)])) rfl (hb hby d2_11) (n := 88) (by decide) (by decide) (by show cells + 2 ≤ 2; omega) (by show slots + 92 ≤ 92; omega)
  have i3 := E3.1
  have A_a1_3 := A_a1_2.ext E3
  have E_a2_3 := E_a2_2.ext E3
  have F_a2_packedOuterLimit_3 := F_a2_packedOuterLimit_2.ext E3
  have F_a2_message_3 := F_a2_message_2.ext E3
  have F_a2_limit_3 := F_a2_limit_2.ext E3
  have F_a2_maxDepth_3 := F_a2_maxDepth_2.ext E3
  have F_a2_position_3 := F_a2_position_2.ext E3
  have K3 := K2.ext E3
  have zz3 : n0 ≤ h3.size := Nat.le_trans zz2 i3
  have C : Ctx p (s.setVm T3.vm) m meth c Z a0 "com/example/wirelace/wirelace/codec/WireReader" prog_18_method_2_code 3 none "<init>" := ⟨hx, hZ, hw, hby, hml, hown, hret, hlk, hnm⟩
  refine RunsW.via (T' := T3) (g' := (mkF m 13 #[.val (.ref a2), .val (.ref a1), .val (.int x2)] [(.ref zs11), (.ref a1), (.ref a2)])) (fun t k => st3 _ k) ?_
  refine bindE hr ?_; intro r4 hr4m hr
  obtain ⟨_, _, ⟨T4, L4, k4, n4⟩, -, X4, ⟨Lc4, hQ4, l4, y4, z4⟩, st4⟩ := Jvm.LawKit.callS X3 hx (y := (⟨"java/util/Objects", "requireNonNull", "(Ljava/lang/Object;Ljava/lang/String;)Ljava/lang/Object;"⟩ : MethodName)) hown (mvT hZ (hw _ (List.mem_of_getElem? (i := 23) rfl))) (mvT hZ (hw _ (List.mem_of_getElem? (i := 24) rfl))) (mvT hZ (hw _ (List.mem_of_getElem? (i := 25) rfl))) (mvT hZ (hw _ (List.mem_of_getElem? (i := 26) rfl))) (by decide) (backOf (W := 1) (rm4 l Z a0 hw [] a1 zs11 q_a1 h3 n0 zz3 (by omega) A_a1_3 r4 hr4m) hZ (hw _ (List.mem_of_getElem? (i := 26) rfl)) (hw _ (List.mem_of_getElem? (i := 25) rfl)) (by decide) (by decide)) (g := (mkF m 13 #[.val (.ref a2), .val (.ref a1), .val (.int x2)] [(.ref zs11), (.ref a1), (.ref a2)])) rfl (by rw [hml]; rfl) (argsL := [(.ref a1), (.ref zs11)]) (rest := [(.ref a2)]) (lenOf pd_0 rfl) rfl (by show 2 * 0 + _ ≤ _; exact Nat.le_of_eq rfl) (hb hby d2_13) (fun _ _ => ⟨rfl, e3, (by show (cells + 2) + 0 ≤ 2; omega), (by show (slots + 92) + 0 ≤ 92; omega)⟩)
  dsimp only [Pt.U, Pt.locs, Pt.cells, Pt.slots] at X4 l4 y4 z4 st4 hQ4
  replace y4 := y4.symm; replace z4 := z4.symm; subst l4 y4 z4
  obtain ⟨rfl, N4q, e4⟩ := hQ4
  have N4 := Fr.app N2 N4q
  refine RunsW.via (T' := T4) (g' := (mkF m 16 #[.val (.ref a2), .val (.ref a1), .val (.int x2)] [(.ref a1), (.ref a2)])) (fun t k => st4 _ k) ?_
  obtain ⟨T5, X5, e5, st5⟩ := castY X4 hx hZ hown (hw _ (List.mem_of_getElem? (i := 27) rfl)) e4 (Ins.self A_a1_3.exa) (g := (mkF m 16 #[.val (.ref a2), .val (.ref a1), .val (.int x2)] [(.ref a1), (.ref a2)])) rfl rfl (hb hby d2_16)
  refine RunsW.via (T' := T5) (g' := (mkF m 19 #[.val (.ref a2), .val (.ref a1), .val (.int x2)] [(.ref a1), (.ref a2)])) (fun t k => st5 _ k) ?_
  obtain ⟨T6, h6, X6, e6, W6, st6⟩ := putF X5 hx hZ hown (host := "") (Or.inl (hw _ (List.mem_of_getElem? (i := 29) rfl))) Via.refl e5 F_a2_message_3 E_a2_3 (Or.inr ⟨(hw _ (List.mem_of_getElem? (i := 30) rfl)), rfl, hnm⟩) (hw _ (List.mem_of_getElem? (i := 3) rfl)) (ty := (.array .byte)) (by decide) rfl rfl (g := (mkF m 19 #[.val (.ref a2), .val (.ref a1), .val (.int x2)] [(.ref a1), (.ref a2)])) rfl rfl (hb hby d2_19)
  have A_a1_6 : AI Z h6 a1 .byte q_a1 := A_a1_3.other W6 (by omega : @Ne Nat a1 a2)
  have E_a2_6 : Exa Z h6 a2 "com/example/wirelace/wirelace/codec/WireReader" := E_a2_3.wr W6
  have F_a2_packedOuterLimit_6 : Fld Z h6 a2 "com/example/wirelace/wirelace/codec/WireReader" "packedOuterLimit" "I" (.int (-1 : Int32)) := F_a2_packedOuterLimit_3.other W6 (Or.inr (slot_ne (Or.inl (hw _ (List.mem_of_getElem? (i := 15) rfl))) (Or.inr (hw _ (List.mem_of_getElem? (i := 30) rfl))) (by decide) (t := .int) (t' := (.array .byte)) (by decide) (by decide)))
  have F_a2_message_6 : Fld Z h6 a2 "com/example/wirelace/wirelace/codec/WireReader" "message" "[B" (.ref a1) := F_a2_message_3.same W6
  have F_a2_limit_6 : Fld Z h6 a2 "com/example/wirelace/wirelace/codec/WireReader" "limit" "I" (.int q_a2_limit) := F_a2_limit_3.other W6 (Or.inr (slot_ne (Or.inl (hw _ (List.mem_of_getElem? (i := 32) rfl))) (Or.inr (hw _ (List.mem_of_getElem? (i := 30) rfl))) (by decide) (t := .int) (t' := (.array .byte)) (by decide) (by decide)))
  have F_a2_maxDepth_6 : Fld Z h6 a2 "com/example/wirelace/wirelace/codec/WireReader" "maxDepth" "I" (.int q_a2_maxDepth) := F_a2_maxDepth_3.other W6 (Or.inr (slot_ne (Or.inr (hw _ (List.mem_of_getElem? (i := 37) rfl))) (Or.inr (hw _ (List.mem_of_getElem? (i := 30) rfl))) (by decide) (t := .int) (t' := (.array .byte)) (by decide) (by decide)))
  have F_a2_position_6 : Fld Z h6 a2 "com/example/wirelace/wirelace/codec/WireReader" "position" "I" (.int q_a2_position) := F_a2_position_3.other W6 (Or.inr (slot_ne (Or.inl (hw _ (List.mem_of_getElem? (i := 48) rfl))) (Or.inr (hw _ (List.mem_of_getElem? (i := 30) rfl))) (by decide) (t := .int) (t' := (.array .byte)) (by decide) (by decide)))
  have N6 := Fr.snoc X6 N4 (by omega : n0 ≤ a2)
  have zz6 : n0 ≤ h6.size := Nat.le_trans zz3 (Keep.of_wr W6).1
  have kk6 := Nat.le_trans kk3 (Keep.of_wr W6).1
  have K6 := K3.wr W6 (Or.inl (List.mem_of_getElem? (i := 0) rfl))
  refine RunsW.via (T' := T6) (g' := (mkF m 22 #[.val (.ref a2), .val (.ref a1), .val (.int x2)] [])) (fun t k => st6 _ k) ?_
  refine RunsW.via (T' := T6) (g' := (mkF m 25 #[.val (.ref a2), .val (.ref a1), .val (.int x2)] [(.int (lenO q_a1)), (.ref a2)])) (fun t k => ?_) ?_
  · show Steps p.tables e below (T6.setTop (mkF m 22 #[.val (.ref a2), .val (.ref a1), .val (.int x2)] [])) t
    refine XS.aloadN X6.here hx rfl (hb hby d2_22) rfl rfl ?_
    show Steps p.tables e below (T6.setTop (mkF m 23 #[.val (.ref a2), .val (.ref a1), .val (.int x2)] [(.ref a2)])) t
    refine XS.aloadN X6.here hx rfl (hb hby d2_23) rfl rfl ?_
    show Steps p.tables e below (T6.setTop (mkF m 24 #[.val (.ref a2), .val (.ref a1), .val (.int x2)] [(.ref a1), (.ref a2)])) t
    refine lenAI X6 hx hZ e6 A_a1_6 rfl (g := (mkF m 24 #[.val (.ref a2), .val (.ref a1), .val (.int x2)] [(.ref a1), (.ref a2)])) rfl (hb hby d2_24) _ ?_
    exact k
  refine letE hr ?_; intro v7 hv7 hr
  rw [← hv7]
  obtain ⟨T8, h8, X8, e8, W8, st8⟩ := putF X6 hx hZ hown (host := "") (Or.inl (hw _ (List.mem_of_getElem? (i := 31) rfl))) Via.refl e6 F_a2_limit_6 E_a2_6 (Or.inl (hw _ (List.mem_of_getElem? (i := 32) rfl))) (hw _ (List.mem_of_getElem? (i := 3) rfl)) (ty := .int) (by decide) rfl rfl (g := (mkF m 25 #[.val (.ref a2), .val (.ref a1), .val (.int x2)] [(.int v7), (.ref a2)])) rfl rfl (hb hby d2_25)
  have A_a1_8 : AI Z h8 a1 .byte q_a1 := A_a1_6.other W8 (by omega : @Ne Nat a1 a2)
  have E_a2_8 : Exa Z h8 a2 "com/example/wirelace/wirelace/codec/WireReader" := E_a2_6.wr W8
  have F_a2_packedOuterLimit_8 : Fld Z h8 a2 "com/example/wirelace/wirelace/codec/WireReader" "packedOuterLimit" "I" (.int (-1 : Int32)) := F_a2_packedOuterLimit_6.other W8 (Or.inr (slot_ne (Or.inl (hw _ (List.mem_of_getElem? (i := 15) rfl))) (Or.inl (hw _ (List.mem_of_getElem? (i := 32) rfl))) (by decide) (t := .int) (t' := .int) (by decide) (by decide)))
  have F_a2_message_8 : Fld Z h8 a2 "com/example/wirelace/wirelace/codec/WireReader" "message" "[B" (.ref a1) := F_a2_message_6.other W8 (Or.inr (slot_ne (Or.inr (hw _ (List.mem_of_getElem? (i := 30) rfl))) (Or.inl (hw _ (List.mem_of_getElem? (i := 32) rfl))) (by decide) (t := (.array .byte)) (t' := .int) (by decide) (by decide)))
  have F_a2_limit_8 : Fld Z h8 a2 "com/example/wirelace/wirelace/codec/WireReader" "limit" "I" (.int v7) := F_a2_limit_6.same W8
  have F_a2_maxDepth_8 : Fld Z h8 a2 "com/example/wirelace/wirelace/codec/WireReader" "maxDepth" "I" (.int q_a2_maxDepth) := F_a2_maxDepth_6.other W8 (Or.inr (slot_ne (Or.inr (hw _ (List.mem_of_getElem? (i := 37) rfl))) (Or.inl (hw _ (List.mem_of_getElem? (i := 32) rfl))) (by decide) (t := .int) (t' := .int) (by decide) (by decide)))
  have F_a2_position_8 : Fld Z h8 a2 "com/example/wirelace/wirelace/codec/WireReader" "position" "I" (.int q_a2_position) := F_a2_position_6.other W8 (Or.inr (slot_ne (Or.inl (hw _ (List.mem_of_getElem? (i := 48) rfl))) (Or.inl (hw _ (List.mem_of_getElem? (i := 32) rfl))) (by decide) (t := .int) (t' := .int) (by decide) (by decide)))
  have N8 := Fr.snoc X8 N6 (by omega : n0 ≤ a2)
  have zz8 : n0 ≤ h8.size := Nat.le_trans zz6 (Keep.of_wr W8).1
  have kk8 := Nat.le_trans kk6 (Keep.of_wr W8).1
  have K8 := K6.wr W8 (Or.inl (List.mem_of_getElem? (i := 0) rfl))
  refine RunsW.via (T' := T8) (g' := (mkF m 28 #[.val (.ref a2), .val (.ref a1), .val (.int x2)] [])) (fun t k => st8 _ k) ?_
  refine RunsW.via (T' := T8) (g' := (mkF m 30 #[.val (.ref a2), .val (.ref a1), .val (.int x2)] [(.int x2), (.ref a2)])) (fun t k => ?_) ?_
  · show Steps p.tables e below (T8.setTop (mkF m 28 #[.val (.ref a2), .val (.ref a1), .val (.int x2)] [])) t
    refine XS.aloadN X8.here hx rfl (hb hby d2_28) rfl rfl ?_
    show Steps p.tables e below (T8.setTop (mkF m 29 #[.val (.ref a2), .val (.ref a1), .val (.int x2)] [(.ref a2)])) t
    refine XS.iloadN X8.here hx rfl (hb hby d2_29) rfl ?_
    exact k
  refine bindE hr ?_; intro r9 hr9m hr
  obtain ⟨_, _, ⟨T9, L9, k9, n9⟩, -, X9, ⟨Lc9, hQ9, l9, y9, z9⟩, st9⟩ := Jvm.LawKit.callS X8 hx (y := (⟨"com/example/wirelace/wirelace/codec/WireReader", "checkMaxDepth", "(I)I"⟩ : MethodName)) hown (mvT hZ (hw _ (List.mem_of_getElem? (i := 33) rfl))) (mvT hZ (hw _ (List.mem_of_getElem? (i := 34) rfl))) (mvT hZ (hw _ (List.mem_of_getElem? (i := 4) rfl))) (mvT hZ (hw _ (List.mem_of_getElem? (i := 35) rfl))) (by decide) (backOf (W := 1) (rm5 l Z a0 hw [] x2 h8 n0 zz8 r9 hr9m) hZ (hw _ (List.mem_of_getElem? (i := 35) rfl)) (hw _ (List.mem_of_getElem? (i := 4) rfl)) (by decide) (by decide)) (g := (mkF m 30 #[.val (.ref a2), .val (.ref a1), .val (.int x2)] [(.int x2), (.ref a2)])) rfl (by rw [hml]; rfl) (argsL := [(.int x2)]) (rest := [(.ref a2)]) (lenOf pd_1 rfl) rfl (by show 2 * 0 + _ ≤ _; exact Nat.le_of_eq rfl) (hb hby d2_30) (fun _ _ => ⟨rfl, e8, (by show ((cells + 2) + 0) + 0 ≤ 2; omega), (by show ((slots + 92) + 0) + 0 ≤ 92; omega)⟩)
  dsimp only [Pt.U, Pt.locs, Pt.cells, Pt.slots] at X9 l9 y9 z9 st9 hQ9
  replace y9 := y9.symm; replace z9 := z9.symm; subst l9 y9 z9
  obtain ⟨rfl, N9q, e9⟩ := hQ9
  have N9 := Fr.app N8 N9q
  refine RunsW.via (T' := T9) (g' := (mkF m 33 #[.val (.ref a2), .val (.ref a1), .val (.int x2)] [(.int r9), (.ref a2)])) (fun t k => st9 _ k) ?_
  obtain ⟨T10, h10, X10, e10, W10, st10⟩ := putF X9 hx hZ hown (host := "") (Or.inl (hw _ (List.mem_of_getElem? (i := 36) rfl))) Via.refl e9 F_a2_maxDepth_8 E_a2_8 (Or.inr ⟨(hw _ (List.mem_of_getElem? (i := 37) rfl)), rfl, hnm⟩) (hw _ (List.mem_of_getElem? (i := 3) rfl)) (ty := .int) (by decide) rfl rfl (g := (mkF m 33 #[.val (.ref a2), .val (.ref a1), .val (.int x2)] [(.int r9), (.ref a2)])) rfl rfl (hb hby d2_33)
  have A_a1_10 : AI Z h10 a1 .byte q_a1 := A_a1_8.other W10 (by omega : @Ne Nat a1 a2)
  have E_a2_10 : Exa Z h10 a2 "com/example/wirelace/wirelace/codec/WireReader" := E_a2_8.wr W10
  have F_a2_packedOuterLimit_10 : Fld Z h10 a2 "com/example/wirelace/wirelace/codec/WireReader" "packedOuterLimit" "I" (.int (-1 : Int32)) := F_a2_packedOuterLimit_8.other W10 (Or.inr (slot_ne (Or.inl (hw _ (List.mem_of_getElem? (i := 15) rfl))) (Or.inr (hw _ (List.mem_of_getElem? (i := 37) rfl))) (by decide) (t := .int) (t' := .int) (by decide) (by decide)))
  have F_a2_message_10 : Fld Z h10 a2 "com/example/wirelace/wirelace/codec/WireReader" "message" "[B" (.ref a1) := F_a2_message_8.other W10 (Or.inr (slot_ne (Or.inr (hw _ (List.mem_of_getElem? (i := 30) rfl))) (Or.inr (hw _ (List.mem_of_getElem? (i := 37) rfl))) (by decide) (t := (.array .byte)) (t' := .int) (by decide) (by decide)))
  have F_a2_limit_10 : Fld Z h10 a2 "com/example/wirelace/wirelace/codec/WireReader" "limit" "I" (.int v7) := F_a2_limit_8.other W10 (Or.inr (slot_ne (Or.inl (hw _ (List.mem_of_getElem? (i := 32) rfl))) (Or.inr (hw _ (List.mem_of_getElem? (i := 37) rfl))) (by decide) (t := .int) (t' := .int) (by decide) (by decide)))
  have F_a2_maxDepth_10 : Fld Z h10 a2 "com/example/wirelace/wirelace/codec/WireReader" "maxDepth" "I" (.int r9) := F_a2_maxDepth_8.same W10
  have F_a2_position_10 : Fld Z h10 a2 "com/example/wirelace/wirelace/codec/WireReader" "position" "I" (.int q_a2_position) := F_a2_position_8.other W10 (Or.inr (slot_ne (Or.inl (hw _ (List.mem_of_getElem? (i := 48) rfl))) (Or.inr (hw _ (List.mem_of_getElem? (i := 37) rfl))) (by decide) (t := .int) (t' := .int) (by decide) (by decide)))
  have N10 := Fr.snoc X10 N9 (by omega : n0 ≤ a2)
  have zz10 : n0 ≤ h10.size := Nat.le_trans zz8 (Keep.of_wr W10).1
  have kk10 := Nat.le_trans kk8 (Keep.of_wr W10).1
  have K10 := K8.wr W10 (Or.inl (List.mem_of_getElem? (i := 0) rfl))
  refine RunsW.via (T' := T10) (g' := (mkF m 36 #[.val (.ref a2), .val (.ref a1), .val (.int x2)] [])) (fun t k => st10 _ k) ?_
  obtain rfl := Option.some.inj hr
  exact own_retVW X10 hx hlk hret (hb hby d2_36) hS3 (by first | (rw [e10]; exact kk10) | exact Nat.le_refl _) (by show (((cells + 2) + 0) + 0) ≤ 2; omega) (by show (((slots + 92) + 0) + 0) ≤ 92; omega) ⟨rfl, N10, (by rw [e10]; exact K10), (by rw [e10]; exact E_a2_10), (by rw [e10]; exact F_a2_packedOuterLimit_10), (by rw [e10]; exact F_a2_message_10), (by rw [e10]; exact F_a2_limit_10), (by rw [e10]; exact F_a2_maxDepth_10), (by rw [e10]; exact F_a2_position_10)⟩
def f2 (x2 : Int32) (q_a1 : List Int32) (q_a2_packedOuterLimit : Int32) (q_a2_limit : Int32) (q_a2_maxDepth : Int32) (q_a2_position : Int32) : Option (Int32 × Int32 × Int32) := g2_0 x2 q_a1 q_a2_packedOuterLimit q_a2_limit q_a2_maxDepth q_a2_position
theorem pn_2 : plainName "com/example/wirelace/wirelace/codec/WireReader" = true := by first | (simp [plainName, overriddenIn]; done) | decide +kernel
theorem ef_2 (m : MethodId) (x2 : Int32) (a1 : Addr) (a2 : Addr) : entryFrame m #[(.ref a2), (.ref a1), (.int x2)] 3 = mkF m 0 #[.val (.ref a2), .val (.ref a1), .val (.int x2)] [] := by first | (simp [entryFrame, mkF, argsToLocals, Value.category]; done) | rfl
set_option maxRecDepth 65536 in
set_option maxHeartbeats 4000000 in
theorem rm2 (l : Launch) (Z : State) (a0 : Array Value) (hw : ∀ d ∈ tables_1, d.before a0 Z = true) (ws : List Jvm.Cond) (x2 : Int32) (a1 : Addr) (a2 : Addr) (q_a1 : List Int32) (q_a2_packedOuterLimit : Int32) (q_a2_limit : Int32) (q_a2_maxDepth : Int32) (q_a2_position : Int32) (hE : Heap) (n0 : Nat) (Z0 : n0 ≤ hE.size) (o0 : n0 ≤ a1) (o1 : @LT.lt Nat instLTNat a1 a2) (A_a1_0 : AI Z hE a1 .byte q_a1) (E_a2_0 : Exa Z hE a2 "com/example/wirelace/wirelace/codec/WireReader") (F_a2_packedOuterLimit_0 : Fld Z hE a2 "com/example/wirelace/wirelace/codec/WireReader" "packedOuterLimit" "I" (.int q_a2_packedOuterLimit)) (F_a2_message_0 : Fld Z hE a2 "com/example/wirelace/wirelace/codec/WireReader" "message" "[B" .null) (F_a2_limit_0 : Fld Z hE a2 "com/example/wirelace/wirelace/codec/WireReader" "limit" "I" (.int q_a2_limit)) (F_a2_maxDepth_0 : Fld Z hE a2 "com/example/wirelace/wirelace/codec/WireReader" "maxDepth" "I" (.int q_a2_maxDepth)) (F_a2_position_0 : Fld Z hE a2 "com/example/wirelace/wirelace/codec/WireReader" "position" "I" (.int q_a2_position)) (r : Int32 × Int32 × Int32) (hr : f2 x2 q_a1 q_a2_packedOuterLimit q_a2_limit q_a2_maxDepth q_a2_position = some r) :
    MetFree l (⟨"com/example/wirelace/wirelace/codec/WireReader", "<init>", "([BI)V"⟩ : MethodName) (head1 (Jvm.Cond.code (⟨"com/example/wirelace/wirelace/codec/WireReader", "<init>", "([BI)V"⟩ : MethodName) prog_18_method_2_code 3 none :: ws) ({ frames := 1, cells := 2, slots := 92, locals := 14 } : Room)) (fun a U => a = #[(.ref a2), (.ref a1), (.int x2)] ∧ Z.Warmed39 U.vm ∧ U.heap = hE) (fun _ _ _ _ _ => True) (fun _ U o U' => ∃ v L, o = .returned v ∧ (P2 Z hE a1 a2 q_a1 q_a2_packedOuterLimit q_a2_limit q_a2_maxDepth q_a2_position n0 r v U'.heap L) ∧ ReturnedEndW U o U' L ({ frames := 1, cells := 2, slots := 92, locals := 14 } : Room).cells ({ frames := 1, cells := 2, slots := 92, locals := 14 } : Room).slots) := by
  refine MetFree.of_bodySF (plainFor_of_name pn_2) hisR ?_
  intro p e s m args below meth c s₁ Bd hml0 hP hK
  obtain ⟨rfl, hZ, hh⟩ := hP
  have X0 : Stand p l e ({ frames := 1, cells := 2, slots := 92, locals := 14 } : Room) s m #[(.ref a2), (.ref a1), (.int x2)] below meth c s₁ [] 0 0 := Stand.of_body Bd
  have e0 : s₁.heap = hE := by rw [← hh, Bd.state]; rfl
  have C : Ctx p s m meth c Z a0 "com/example/wirelace/wirelace/codec/WireReader" prog_18_method_2_code 3 none "<init>" := ⟨Bd.exec, hZ, hw, Bd.bytes, hml0, findClass_of_methodNamed Bd.named, Bd.returns, BodyLoose.notSynchronized Bd, (name_of_methodNamed Bd.named Bd.method).1⟩
  have X0 : Stand p l e ({ frames := 1, cells := 2, slots := 92, locals := 14 } : Room) (s.setVm s.vm) m #[(.ref a2), (.ref a1), (.int x2)] below meth c s₁ [] 0 0 := X0
  have hS0 : s.Since s.vm hE.size := (State.WarmedH.refl s).since _
  have hk0 : hE.size ≤ hE.size := Nat.le_refl _
  have C : Ctx p (s.setVm s.vm) m meth c Z a0 "com/example/wirelace/wirelace/codec/WireReader" prog_18_method_2_code 3 none "<init>" := C
  refine RunsW.via (fun t k => castTop (ef_2 m x2 a1 a2) k) (b2_0 C X0 e0 (Fr.nil n0) (by show 0 ≤ 0; omega) (by show 0 ≤ 0; omega) Z0 hS0 hk0 (Keep.refl hE [a2]) (by omega) (by omega) q_a2_packedOuterLimit q_a2_limit q_a2_maxDepth x2 A_a1_0 E_a2_0 F_a2_packedOuterLimit_0 F_a2_message_0 F_a2_limit_0 F_a2_maxDepth_0 F_a2_position_0 hr)
theorem pd_2 : parseMethodDescriptor "([BI)V" = some ⟨[(.array .byte), .int], none⟩ := by decide +kernel
theorem d1_0 : decode prog_18_method_1_code 0 = .ok (.aload_n 0, 1) := by decide +kernel
theorem d1_1 : decode prog_18_method_1_code 1 = .ok (.aload_n 1, 1) := by decide +kernel
theorem d1_2 : decode prog_18_method_1_code 2 = .ok (.bipush 100, 2) := by decide +kernel
theorem d1_4 : decode prog_18_method_1_code 4 = .ok (.invokespecial 3, 3) := by decide +kernel
theorem d1_7 : decode prog_18_method_1_code 7 = .ok (.return_, 1) := by decide +kernel
def P1 (Z : State) (hE : Heap) (a1 : Addr) (a2 : Addr) (q_a1 : List Int32) (q_a2_packedOuterLimit : Int32) (q_a2_limit : Int32) (q_a2_maxDepth : Int32) (q_a2_position : Int32) (n0 : Nat) (r : Int32 × Int32 × Int32) (v : Option Value) (h : Heap) (L : List Loc) : Prop := v = none ∧ Fr n0 L ∧ Keep hE h [a2] ∧ Exa Z h a2 "com/example/wirelace/wirelace/codec/WireReader" ∧ Fld Z h a2 "com/example/wirelace/wirelace/codec/WireReader" "packedOuterLimit" "I" (.int r.1) ∧ Fld Z h a2 "com/example/wirelace/wirelace/codec/WireReader" "message" "[B" (.ref a1) ∧ Fld Z h a2 "com/example/wirelace/wirelace/codec/WireReader" "limit" "I" (.int r.2.1) ∧ Fld Z h a2 "com/example/wirelace/wirelace/codec/WireReader" "maxDepth" "I" (.int r.2.2) ∧ Fld Z h a2 "com/example/wirelace/wirelace/codec/WireReader" "position" "I" (.int q_a2_position)
def g1_0 (q_a1 : List Int32) (q_a2_packedOuterLimit : Int32) (q_a2_limit : Int32) (q_a2_maxDepth : Int32) (q_a2_position : Int32) : Option (Int32 × Int32 × Int32) := ((f2 (100 : Int32) q_a1 q_a2_packedOuterLimit q_a2_limit q_a2_maxDepth q_a2_position).bind fun r1 => some (r1.1, r1.2.1, r1.2.2))
set_option maxRecDepth 65536 in
set_option maxHeartbeats 4000000 in
theorem b1_0 {hE : Heap} {vm0 : Vm} {k0 : Nat} {a1 : Addr} {a2 : Addr} {q_a1 : List Int32} {q_a2_position : Int32} {q_a2_packedOuterLimit₀ : Int32} {q_a2_limit₀ : Int32} {q_a2_maxDepth₀ : Int32} {r : Int32 × Int32 × Int32} (C : Ctx p (s.setVm vm0) m meth c Z a0 "com/example/wirelace/wirelace/codec/WireReader" prog_18_method_1_code 2 none "<init>") (X0 : Stand p l e ({ frames := 2, cells := 2, slots := 92, locals := 28 } : Room) (s.setVm vm0) m args below meth c T0 locs cells slots) (e0 : T0.heap = h0) (N0 : Fr n0 locs) (hk : cells ≤ 0) (hn : slots ≤ 0) (Z1 : n0 ≤ h0.size) (hS0 : s.Since vm0 k0) (hk0 : k0 ≤ h0.size) (KE : Keep hE h0 [a2]) (o0 : n0 ≤ a1) (o1 : @LT.lt Nat instLTNat a1 a2) (q_a2_packedOuterLimit : Int32) (q_a2_limit : Int32) (q_a2_maxDepth : Int32) (A_a1_0 : AI Z h0 a1 .byte q_a1) (E_a2_0 : Exa Z h0 a2 "com/example/wirelace/wirelace/codec/WireReader") (F_a2_packedOuterLimit_0 : Fld Z h0 a2 "com/example/wirelace/wirelace/codec/WireReader" "packedOuterLimit" "I" (.int q_a2_packedOuterLimit)) (F_a2_message_0 : Fld Z h0 a2 "com/example/wirelace/wirelace/codec/WireReader" "message" "[B" .null) (F_a2_limit_0 : Fld Z h0 a2 "com/example/wirelace/wirelace/codec/WireReader" "limit" "I" (.int q_a2_limit)) (F_a2_maxDepth_0 : Fld Z h0 a2 "com/example/wirelace/wirelace/codec/WireReader" "maxDepth" "I" (.int q_a2_maxDepth)) (F_a2_position_0 : Fld Z h0 a2 "com/example/wirelace/wirelace/codec/WireReader" "position" "I" (.int q_a2_position)) (hr : g1_0 q_a1 q_a2_packedOuterLimit q_a2_limit q_a2_maxDepth q_a2_position = some r) :
    RunsW p e below s (P1 Z hE a1 a2 q_a1 q_a2_packedOuterLimit₀ q_a2_limit₀ q_a2_maxDepth₀ q_a2_position n0 r) 2 92 T0 (mkF m 0 #[.val (.ref a2), .val (.ref a1)] []) := by
  unfold g1_0 at hr
  have ⟨hx, hZ, hw, hby, hml, hown, hret, hlk, hnm⟩ := C
  refine RunsW.via (T' := T0) (g' := (mkF m 4 #[.val (.ref a2), .val (.ref a1)] [(.int (100 : Int32)), (.ref a1), (.ref a2)])) (fun t k => ?_) ?_
  · show Steps p.tables e below (T0.setTop (mkF m 0 #[.val (.ref a2), .val (.ref a1)] [])) t
    refine XS.aloadN X0.here hx rfl (hb hby d1_0) rfl rfl ?_
    show Steps p.tables e below (T0.setTop (mkF m 1 #[.val (.ref a2), .val (.ref a1)] [(.ref a2)])) t
    refine XS.aloadN X0.here hx rfl (hb hby d1_1) rfl rfl ?_
    show Steps p.tables e below (T0.setTop (mkF m 2 #[.val (.ref a2), .val (.ref a1)] [(.ref a1), (.ref a2)])) t
    refine XS.bipush X0.here hx rfl (hb hby d1_2) ?_
    exact k
  refine bindE hr ?_; intro r1 hr1m hr
  obtain ⟨_, _, ⟨T1, L1, k1, n1⟩, -, X1, hS1q, gr1, ⟨Lc1, hQ1, l1, y1, z1⟩, st1⟩ := X0.specialBackS hx (y := (⟨"com/example/wirelace/wirelace/codec/WireReader", "<init>", "([BI)V"⟩ : MethodName)) rfl hown (mvT hZ (hw _ (List.mem_of_getElem? (i := 8) rfl))) (mvT hZ (hw _ (List.mem_of_getElem? (i := 9) rfl))) (mvT hZ (hw _ (List.mem_of_getElem? (i := 10) rfl))) (by decide) (backOfS (W := 0) (rm2 l Z a0 hw [] (100 : Int32) a1 a2 q_a1 q_a2_packedOuterLimit q_a2_limit q_a2_maxDepth q_a2_position h0 n0 Z1 (by omega) (by omega) A_a1_0 E_a2_0 F_a2_packedOuterLimit_0 F_a2_message_0 F_a2_limit_0 F_a2_maxDepth_0 F_a2_position_0 r1 hr1m) hZ (hw _ (List.mem_of_getElem? (i := 10) rfl)) (hw _ (List.mem_of_getElem? (i := 4) rfl)) (by decide) (by decide)) (g := (mkF m 4 #[.val (.ref a2), .val (.ref a1)] [(.int (100 : Int32)), (.ref a1), (.ref a2)])) rfl (by rw [hml]; rfl) (Steps.refl _) (a := a2) (argsL := [(.ref a1), (.int (100 : Int32))]) (rest := []) (lenOf pd_2 rfl) rfl (by show 2 * 0 + _ ≤ _; exact Nat.le_of_eq rfl) (hb hby d1_4) (fun _ _ => ⟨rfl, e0, (by show cells + 2 ≤ 2; omega), (by show slots + 92 ≤ 92; omega)⟩)
  dsimp only [Pt.U, Pt.locs, Pt.cells, Pt.slots] at X1 hS1q gr1 l1 y1 z1 st1 hQ1
  replace y1 := y1.symm; replace z1 := z1.symm; subst l1 y1 z1
  obtain ⟨X1, hS1, hZ, hown⟩ := rebS hS0 (by first | (rw [e0]; exact hk0) | exact Nat.le_refl _) X1 hS1q gr1 hZ hown
  have C : Ctx p (s.setVm T1.vm) m meth c Z a0 "com/example/wirelace/wirelace/codec/WireReader" prog_18_method_1_code 2 none "<init>" := ⟨hx, hZ, hw, hby, hml, hown, hret, hlk, hnm⟩
  obtain ⟨h1, e1⟩ : ∃ z, T1.heap = z := ⟨_, rfl⟩
  rw [e1] at hQ1
  obtain ⟨rfl, N1q, K1q, E_a2_1, F_a2_packedOuterLimit_1, F_a2_message_1, F_a2_limit_1, F_a2_maxDepth_1, F_a2_position_1⟩ := hQ1
  have N1 := Fr.app N0 N1q
  have A_a1_1 := A_a1_0.keep K1q (ninS (by omega : @Ne Nat a1 a2) nin0)
  have K1 := KE.trans K1q (allS (Or.inl (List.mem_of_getElem? (i := 0) rfl)) all0)
  have zz1 : n0 ≤ h1.size := Nat.le_trans Z1 K1q.1
  have kk1 : T1.heap.size ≤ h1.size := Nat.le_of_eq (by rw [e1])
  refine RunsW.via (T' := T1) (g' := (mkF m 7 #[.val (.ref a2), .val (.ref a1)] [])) (fun t k => st1.trans k) ?_
  obtain rfl := Option.some.inj hr
  exact own_retVW X1 hx hlk hret (hb hby d1_7) hS1 (by first | (rw [e1]; exact kk1) | exact Nat.le_refl _) (by show (cells + 2) ≤ 2; omega) (by show (slots + 92) ≤ 92; omega) ⟨rfl, N1, (by rw [e1]; exact K1), (by rw [e1]; exact E_a2_1), (by rw [e1]; exact F_a2_packedOuterLimit_1), (by rw [e1]; exact F_a2_message_1), (by rw [e1]; exact F_a2_limit_1), (by rw [e1]; exact F_a2_maxDepth_1), (by rw [e1]; exact F_a2_position_1)⟩
def f1 (q_a1 : List Int32) (q_a2_packedOuterLimit : Int32) (q_a2_limit : Int32) (q_a2_maxDepth : Int32) (q_a2_position : Int32) : Option (Int32 × Int32 × Int32) := g1_0 q_a1 q_a2_packedOuterLimit q_a2_limit q_a2_maxDepth q_a2_position
theorem pn_1 : plainName "com/example/wirelace/wirelace/codec/WireReader" = true := by first | (simp [plainName, overriddenIn]; done) | decide +kernel
theorem ef_1 (m : MethodId) (a1 : Addr) (a2 : Addr) : entryFrame m #[(.ref a2), (.ref a1)] 2 = mkF m 0 #[.val (.ref a2), .val (.ref a1)] [] := by first | (simp [entryFrame, mkF, argsToLocals, Value.category]; done) | rfl
set_option maxRecDepth 65536 in
set_option maxHeartbeats 4000000 in
theorem rm1 (l : Launch) (Z : State) (a0 : Array Value) (hw : ∀ d ∈ tables_1, d.before a0 Z = true) (ws : List Jvm.Cond) (a1 : Addr) (a2 : Addr) (q_a1 : List Int32) (q_a2_packedOuterLimit : Int32) (q_a2_limit : Int32) (q_a2_maxDepth : Int32) (q_a2_position : Int32) (hE : Heap) (n0 : Nat) (Z0 : n0 ≤ hE.size) (o0 : n0 ≤ a1) (o1 : @LT.lt Nat instLTNat a1 a2) (A_a1_0 : AI Z hE a1 .byte q_a1) (E_a2_0 : Exa Z hE a2 "com/example/wirelace/wirelace/codec/WireReader") (F_a2_packedOuterLimit_0 : Fld Z hE a2 "com/example/wirelace/wirelace/codec/WireReader" "packedOuterLimit" "I" (.int q_a2_packedOuterLimit)) (F_a2_message_0 : Fld Z hE a2 "com/example/wirelace/wirelace/codec/WireReader" "message" "[B" .null) (F_a2_limit_0 : Fld Z hE a2 "com/example/wirelace/wirelace/codec/WireReader" "limit" "I" (.int q_a2_limit)) (F_a2_maxDepth_0 : Fld Z hE a2 "com/example/wirelace/wirelace/codec/WireReader" "maxDepth" "I" (.int q_a2_maxDepth)) (F_a2_position_0 : Fld Z hE a2 "com/example/wirelace/wirelace/codec/WireReader" "position" "I" (.int q_a2_position)) (r : Int32 × Int32 × Int32) (hr : f1 q_a1 q_a2_packedOuterLimit q_a2_limit q_a2_maxDepth q_a2_position = some r) :
    MetFree l (⟨"com/example/wirelace/wirelace/codec/WireReader", "<init>", "([B)V"⟩ : MethodName) (head1 (Jvm.Cond.code (⟨"com/example/wirelace/wirelace/codec/WireReader", "<init>", "([B)V"⟩ : MethodName) prog_18_method_1_code 2 none :: ws) ({ frames := 2, cells := 2, slots := 92, locals := 28 } : Room)) (fun a U => a = #[(.ref a2), (.ref a1)] ∧ Z.Warmed39 U.vm ∧ U.heap = hE) (fun _ _ _ _ _ => True) (fun _ U o U' => ∃ v L, o = .returned v ∧ (P1 Z hE a1 a2 q_a1 q_a2_packedOuterLimit q_a2_limit q_a2_maxDepth q_a2_position n0 r v U'.heap L) ∧ ReturnedEndW U o U' L ({ frames := 2, cells := 2, slots := 92, locals := 28 } : Room).cells ({ frames := 2, cells := 2, slots := 92, locals := 28 } : Room).slots) := by
  refine MetFree.of_bodySF (plainFor_of_name pn_1) hisR ?_
  intro p e s m args below meth c s₁ Bd hml0 hP hK
  obtain ⟨rfl, hZ, hh⟩ := hP
  have X0 : Stand p l e ({ frames := 2, cells := 2, slots := 92, locals := 28 } : Room) s m #[(.ref a2), (.ref a1)] below meth c s₁ [] 0 0 := Stand.of_body Bd
  have e0 : s₁.heap = hE := by rw [← hh, Bd.state]; rfl
  have C : Ctx p s m meth c Z a0 "com/example/wirelace/wirelace/codec/WireReader" prog_18_method_1_code 2 none "<init>" := ⟨Bd.exec, hZ, hw, Bd.bytes, hml0, findClass_of_methodNamed Bd.named, Bd.returns, BodyLoose.notSynchronized Bd, (name_of_methodNamed Bd.named Bd.method).1⟩
  have X0 : Stand p l e ({ frames := 2, cells := 2, slots := 92, locals := 28 } : Room) (s.setVm s.vm) m #[(.ref a2), (.ref a1)] below meth c s₁ [] 0 0 := X0
  have hS0 : s.Since s.vm hE.size := (State.WarmedH.refl s).since _
  have hk0 : hE.size ≤ hE.size := Nat.le_refl _
  have C : Ctx p (s.setVm s.vm) m meth c Z a0 "com/example/wirelace/wirelace/codec/WireReader" prog_18_method_1_code 2 none "<init>" := C
  refine RunsW.via (fun t k => castTop (ef_1 m a1 a2) k) (b1_0 C X0 e0 (Fr.nil n0) (by show 0 ≤ 0; omega) (by show 0 ≤ 0; omega) Z0 hS0 hk0 (Keep.refl hE [a2]) (by omega) (by omega) q_a2_packedOuterLimit q_a2_limit q_a2_maxDepth A_a1_0 E_a2_0 F_a2_packedOuterLimit_0 F_a2_message_0 F_a2_limit_0 F_a2_maxDepth_0 F_a2_position_0 hr)
theorem pd_3 : parseMethodDescriptor "([B)V" = some ⟨[(.array .byte)], none⟩ := by decide +kernel
theorem d7_0 : decode prog_18_method_11_code 0 = .ok (.aload_n 0, 1) := by decide +kernel
theorem d7_1 : decode prog_18_method_11_code 1 = .ok (.getfield 39, 3) := by decide +kernel
theorem d7_4 : decode prog_18_method_11_code 4 = .ok (.aload_n 0, 1) := by decide +kernel
theorem d7_5 : decode prog_18_method_11_code 5 = .ok (.getfield 29, 3) := by decide +kernel
theorem d7_8 : decode prog_18_method_11_code 8 = .ok (.if_icmp .ge 33, 3) := by decide +kernel
theorem d7_11 : decode prog_18_method_11_code 11 = .ok (.aload_n 0, 1) := by decide +kernel
theorem d7_12 : decode prog_18_method_11_code 12 = .ok (.getfield 26, 3) := by decide +kernel
theorem d7_15 : decode prog_18_method_11_code 15 = .ok (.aload_n 0, 1) := by decide +kernel
theorem d7_16 : decode prog_18_method_11_code 16 = .ok (.getfield 39, 3) := by decide +kernel
theorem d7_19 : decode prog_18_method_11_code 19 = .ok (.baload, 1) := by decide +kernel
theorem d7_20 : decode prog_18_method_11_code 20 = .ok (.ifCond .lt 21, 3) := by decide +kernel
theorem d7_23 : decode prog_18_method_11_code 23 = .ok (.aload_n 0, 1) := by decide +kernel
theorem d7_24 : decode prog_18_method_11_code 24 = .ok (.getfield 26, 3) := by decide +kernel
theorem d7_27 : decode prog_18_method_11_code 27 = .ok (.aload_n 0, 1) := by decide +kernel
theorem d7_28 : decode prog_18_method_11_code 28 = .ok (.dup, 1) := by decide +kernel
theorem d7_29 : decode prog_18_method_11_code 29 = .ok (.getfield 39, 3) := by decide +kernel
theorem d7_32 : decode prog_18_method_11_code 32 = .ok (.dup_x1, 1) := by decide +kernel
theorem d7_33 : decode prog_18_method_11_code 33 = .ok (.iconst 1, 1) := by decide +kernel
theorem d7_34 : decode prog_18_method_11_code 34 = .ok (.iadd, 1) := by decide +kernel
theorem d7_35 : decode prog_18_method_11_code 35 = .ok (.putfield 39, 3) := by decide +kernel
theorem d7_38 : decode prog_18_method_11_code 38 = .ok (.baload, 1) := by decide +kernel
theorem d7_39 : decode prog_18_method_11_code 39 = .ok (.i2l, 1) := by decide +kernel
theorem d7_40 : decode prog_18_method_11_code 40 = .ok (.lreturn, 1) := by decide +kernel
theorem d7_41 : decode prog_18_method_11_code 41 = .ok (.aload_n 0, 1) := by decide +kernel
theorem d7_42 : decode prog_18_method_11_code 42 = .ok (.invokevirtual 99, 3) := by decide +kernel
theorem d7_45 : decode prog_18_method_11_code 45 = .ok (.lreturn, 1) := by decide +kernel
def P7 (Z : State) (hE : Heap) (a1 : Addr) (a2 : Addr) (q_a1 : List Int32) (q_a2_packedOuterLimit : Int32) (q_a2_limit : Int32) (q_a2_maxDepth : Int32) (q_a2_position : Int32) (n0 : Nat) (r : Int64 × Int32) (v : Option Value) (h : Heap) (L : List Loc) : Prop := v = some (.long r.1) ∧ Fr n0 L ∧ Keep hE h [a2] ∧ Exa Z h a2 "com/example/wirelace/wirelace/codec/WireReader" ∧ Fld Z h a2 "com/example/wirelace/wirelace/codec/WireReader" "packedOuterLimit" "I" (.int q_a2_packedOuterLimit) ∧ Fld Z h a2 "com/example/wirelace/wirelace/codec/WireReader" "message" "[B" (.ref a1) ∧ Fld Z h a2 "com/example/wirelace/wirelace/codec/WireReader" "limit" "I" (.int q_a2_limit) ∧ Fld Z h a2 "com/example/wirelace/wirelace/codec/WireReader" "maxDepth" "I" (.int q_a2_maxDepth) ∧ Fld Z h a2 "com/example/wirelace/wirelace/codec/WireReader" "position" "I" (.int r.2)
def g7_41 (q_a1 : List Int32) (q_a2_packedOuterLimit : Int32) (q_a2_limit : Int32) (q_a2_maxDepth : Int32) (q_a2_position : Int32) : Option (Int64 × Int32) := none
set_option maxRecDepth 65536 in
set_option maxHeartbeats 4000000 in
theorem b7_41 {hE : Heap} {a1 : Addr} {a2 : Addr} {q_a1 : List Int32} {q_a2_packedOuterLimit : Int32} {q_a2_limit : Int32} {q_a2_maxDepth : Int32} {q_a2_position₀ : Int32} {r : Int64 × Int32} (C : Ctx p s m meth c Z a0 "com/example/wirelace/wirelace/codec/WireReader" prog_18_method_11_code 1 (some .long) "readVarint") (X0 : Stand p l e ({ frames := 0, cells := 0, slots := 0, locals := 0 } : Room) s m args below meth c T0 locs cells slots) (e0 : T0.heap = h0) (N0 : Fr n0 locs) (hk : cells ≤ 0) (hn : slots ≤ 0) (Z1 : n0 ≤ h0.size) (KE : Keep hE h0 [a2]) (o0 : n0 ≤ a1) (o1 : @LT.lt Nat instLTNat a1 a2) (q_a2_position : Int32) (A_a1_0 : AI Z h0 a1 .byte q_a1) (E_a2_0 : Exa Z h0 a2 "com/example/wirelace/wirelace/codec/WireReader") (F_a2_packedOuterLimit_0 : Fld Z h0 a2 "com/example/wirelace/wirelace/codec/WireReader" "packedOuterLimit" "I" (.int q_a2_packedOuterLimit)) (F_a2_message_0 : Fld Z h0 a2 "com/example/wirelace/wirelace/codec/WireReader" "message" "[B" (.ref a1)) (F_a2_limit_0 : Fld Z h0 a2 "com/example/wirelace/wirelace/codec/WireReader" "limit" "I" (.int q_a2_limit)) (F_a2_maxDepth_0 : Fld Z h0 a2 "com/example/wirelace/wirelace/codec/WireReader" "maxDepth" "I" (.int q_a2_maxDepth)) (F_a2_position_0 : Fld Z h0 a2 "com/example/wirelace/wirelace/codec/WireReader" "position" "I" (.int q_a2_position)) (hr : g7_41 q_a1 q_a2_packedOuterLimit q_a2_limit q_a2_maxDepth q_a2_position = some r) :
    Runs p e below s (P7 Z hE a1 a2 q_a1 q_a2_packedOuterLimit q_a2_limit q_a2_maxDepth q_a2_position₀ n0 r) 0 0 T0 (mkF m 41 #[.val (.ref a2)] []) := by
  unfold g7_41 at hr
  have ⟨hx, hZ, hw, hby, hml, hown, hret, hlk, hnm⟩ := C
  refine Runs.via (T' := T0) (g' := (mkF m 42 #[.val (.ref a2)] [(.ref a2)])) (fun t k => ?_) ?_
  · show Steps p.tables e below (T0.setTop (mkF m 41 #[.val (.ref a2)] [])) t
    refine XS.aloadN X0.here hx rfl (hb hby d7_41) rfl rfl ?_
    exact k
  exact nomatch hr
def g7_0 (q_a1 : List Int32) (q_a2_packedOuterLimit : Int32) (q_a2_limit : Int32) (q_a2_maxDepth : Int32) (q_a2_position : Int32) : Option (Int64 × Int32) := (if q_a2_position < q_a2_limit then ((rdO q_a1 q_a2_position).bind fun v6 => (if v6 < (0 : Int32) then (g7_41 q_a1 q_a2_packedOuterLimit q_a2_limit q_a2_maxDepth q_a2_position) else (letO (q_a2_position + (1 : Int32)) fun v10 => ((rdO q_a1 q_a2_position).bind fun v12 => some ((Int32.toInt64 v12), v10))))) else (g7_41 q_a1 q_a2_packedOuterLimit q_a2_limit q_a2_maxDepth q_a2_position))
set_option maxRecDepth 65536 in
set_option maxHeartbeats 4000000 in
theorem b7_0 {hE : Heap} {a1 : Addr} {a2 : Addr} {q_a1 : List Int32} {q_a2_packedOuterLimit : Int32} {q_a2_limit : Int32} {q_a2_maxDepth : Int32} {q_a2_position₀ : Int32} {r : Int64 × Int32} (C : Ctx p s m meth c Z a0 "com/example/wirelace/wirelace/codec/WireReader" prog_18_method_11_code 1 (some .long) "readVarint") (X0 : Stand p l e ({ frames := 0, cells := 0, slots := 0, locals := 0 } : Room) s m args below meth c T0 locs cells slots) (e0 : T0.heap = h0) (N0 : Fr n0 locs) (hk : cells ≤ 0) (hn : slots ≤ 0) (Z1 : n0 ≤ h0.size) (KE : Keep hE h0 [a2]) (o0 : n0 ≤ a1) (o1 : @LT.lt Nat instLTNat a1 a2) (q_a2_position : Int32) (A_a1_0 : AI Z h0 a1 .byte q_a1) (E_a2_0 : Exa Z h0 a2 "com/example/wirelace/wirelace/codec/WireReader") (F_a2_packedOuterLimit_0 : Fld Z h0 a2 "com/example/wirelace/wirelace/codec/WireReader" "packedOuterLimit" "I" (.int q_a2_packedOuterLimit)) (F_a2_message_0 : Fld Z h0 a2 "com/example/wirelace/wirelace/codec/WireReader" "message" "[B" (.ref a1)) (F_a2_limit_0 : Fld Z h0 a2 "com/example/wirelace/wirelace/codec/WireReader" "limit" "I" (.int q_a2_limit)) (F_a2_maxDepth_0 : Fld Z h0 a2 "com/example/wirelace/wirelace/codec/WireReader" "maxDepth" "I" (.int q_a2_maxDepth)) (F_a2_position_0 : Fld Z h0 a2 "com/example/wirelace/wirelace/codec/WireReader" "position" "I" (.int q_a2_position)) (hr : g7_0 q_a1 q_a2_packedOuterLimit q_a2_limit q_a2_maxDepth q_a2_position = some r) :
    Runs p e below s (P7 Z hE a1 a2 q_a1 q_a2_packedOuterLimit q_a2_limit q_a2_maxDepth q_a2_position₀ n0 r) 0 0 T0 (mkF m 0 #[.val (.ref a2)] []) := by
  unfold g7_0 at hr
  have ⟨hx, hZ, hw, hby, hml, hown, hret, hlk, hnm⟩ := C
  refine Runs.via (T' := T0) (g' := (mkF m 1 #[.val (.ref a2)] [(.ref a2)])) (fun t k => ?_) ?_
  · show Steps p.tables e below (T0.setTop (mkF m 0 #[.val (.ref a2)] [])) t
    refine XS.aloadN X0.here hx rfl (hb hby d7_0) rfl rfl ?_
    exact k
  obtain ⟨T1, X1, e1, st1⟩ := getF X0 hx hZ hown (host := "") (Or.inl (hw _ (List.mem_of_getElem? (i := 47) rfl))) Via.refl e0 F_a2_position_0 (g := (mkF m 1 #[.val (.ref a2)] [(.ref a2)])) rfl rfl (hb hby d7_1)
  refine Runs.via (T' := T1) (g' := (mkF m 4 #[.val (.ref a2)] [(.int q_a2_position)])) (fun t k => st1 _ k) ?_
  refine Runs.via (T' := T1) (g' := (mkF m 5 #[.val (.ref a2)] [(.ref a2), (.int q_a2_position)])) (fun t k => ?_) ?_
  · show Steps p.tables e below (T1.setTop (mkF m 4 #[.val (.ref a2)] [(.int q_a2_position)])) t
    refine XS.aloadN X1.here hx rfl (hb hby d7_4) rfl rfl ?_
    exact k
  obtain ⟨T2, X2, e2, st2⟩ := getF X1 hx hZ hown (host := "") (Or.inl (hw _ (List.mem_of_getElem? (i := 31) rfl))) Via.refl e1 F_a2_limit_0 (g := (mkF m 5 #[.val (.ref a2)] [(.ref a2), (.int q_a2_position)])) rfl rfl (hb hby d7_5)
  refine Runs.via (T' := T2) (g' := (mkF m 8 #[.val (.ref a2)] [(.int q_a2_limit), (.int q_a2_position)])) (fun t k => st2 _ k) ?_
  refine iteE hr (fun hc3 hr => ?_) (fun hc3 hr => ?_)
  · refine Runs.via (T' := T2) (g' := (mkF m 11 #[.val (.ref a2)] [])) (fun t k => ?_) ?_
    · show Steps p.tables e below (T2.setTop (mkF m 8 #[.val (.ref a2)] [(.int q_a2_limit), (.int q_a2_position)])) t
      exact XS.icmpNo X2.here hx rfl (hb hby d7_8) rfl (tlt hc3).2.1 k
    refine Runs.via (T' := T2) (g' := (mkF m 12 #[.val (.ref a2)] [(.ref a2)])) (fun t k => ?_) ?_
    · show Steps p.tables e below (T2.setTop (mkF m 11 #[.val (.ref a2)] [])) t
      refine XS.aloadN X2.here hx rfl (hb hby d7_11) rfl rfl ?_
      exact k
    obtain ⟨T4, X4, e4, st4⟩ := getF X2 hx hZ hown (host := "") (Or.inl (hw _ (List.mem_of_getElem? (i := 29) rfl))) Via.refl e2 F_a2_message_0 (g := (mkF m 12 #[.val (.ref a2)] [(.ref a2)])) rfl rfl (hb hby d7_12)
    refine Runs.via (T' := T4) (g' := (mkF m 15 #[.val (.ref a2)] [(.ref a1)])) (fun t k => st4 _ k) ?_
    refine Runs.via (T' := T4) (g' := (mkF m 16 #[.val (.ref a2)] [(.ref a2), (.ref a1)])) (fun t k => ?_) ?_
    · show Steps p.tables e below (T4.setTop (mkF m 15 #[.val (.ref a2)] [(.ref a1)])) t
      refine XS.aloadN X4.here hx rfl (hb hby d7_15) rfl rfl ?_
      exact k
    obtain ⟨T5, X5, e5, st5⟩ := getF X4 hx hZ hown (host := "") (Or.inl (hw _ (List.mem_of_getElem? (i := 47) rfl))) Via.refl e4 F_a2_position_0 (g := (mkF m 16 #[.val (.ref a2)] [(.ref a2), (.ref a1)])) rfl rfl (hb hby d7_16)
    refine Runs.via (T' := T5) (g' := (mkF m 19 #[.val (.ref a2)] [(.int q_a2_position), (.ref a1)])) (fun t k => st5 _ k) ?_
    refine bindE hr ?_; intro v6 hv6 hr
    refine Runs.via (T' := T5) (g' := (mkF m 20 #[.val (.ref a2)] [(.int v6)])) (fun t k => ldB X5 hx hZ e5 A_a1_0 hv6 (g := (mkF m 19 #[.val (.ref a2)] [(.int q_a2_position), (.ref a1)])) rfl rfl (hb hby d7_19) _ k) ?_
    refine iteE hr (fun hc7 hr => ?_) (fun hc7 hr => ?_)
    · refine Runs.via (T' := T5) (g' := (mkF m 41 #[.val (.ref a2)] [])) (fun t k => ?_) ?_
      · show Steps p.tables e below (T5.setTop (mkF m 20 #[.val (.ref a2)] [(.int v6)])) t
        exact XS.ifYes X5.here hx rfl (pc0 := 20) (pc' := 41) rfl (hb hby d7_20) rfl ((if0 _ _).trans (tlt hc7).1) (by decide) (by decide) k
      exact b7_41 C X5 e5 N0 (by show cells ≤ 0; omega) (by show slots ≤ 0; omega) Z1 KE (by omega) (by omega) q_a2_position A_a1_0 E_a2_0 F_a2_packedOuterLimit_0 F_a2_message_0 F_a2_limit_0 F_a2_maxDepth_0 F_a2_position_0 hr
    · refine Runs.via (T' := T5) (g' := (mkF m 23 #[.val (.ref a2)] [])) (fun t k => ?_) ?_
      · show Steps p.tables e below (T5.setTop (mkF m 20 #[.val (.ref a2)] [(.int v6)])) t
        exact XS.ifNo X5.here hx rfl (hb hby d7_20) rfl ((if0 _ _).trans (flt hc7).1) k
      refine Runs.via (T' := T5) (g' := (mkF m 24 #[.val (.ref a2)] [(.ref a2)])) (fun t k => ?_) ?_
      · show Steps p.tables e below (T5.setTop (mkF m 23 #[.val (.ref a2)] [])) t
        refine XS.aloadN X5.here hx rfl (hb hby d7_23) rfl rfl ?_
        exact k
      obtain ⟨T8, X8, e8, st8⟩ := getF X5 hx hZ hown (host := "") (Or.inl (hw _ (List.mem_of_getElem? (i := 29) rfl))) Via.refl e5 F_a2_message_0 (g := (mkF m 24 #[.val (.ref a2)] [(.ref a2)])) rfl rfl (hb hby d7_24)
      refine Runs.via (T' := T8) (g' := (mkF m 27 #[.val (.ref a2)] [(.ref a1)])) (fun t k => st8 _ k) ?_
      refine Runs.via (T' := T8) (g' := (mkF m 29 #[.val (.ref a2)] [(.ref a2), (.ref a2), (.ref a1)])) (fun t k => ?_) ?_
      · show Steps p.tables e below (T8.setTop (mkF m 27 #[.val (.ref a2)] [(.ref a1)])) t
        refine XS.aloadN X8.here hx rfl (hb hby d7_27) rfl rfl ?_
        show Steps p.tables e below (T8.setTop (mkF m 28 #[.val (.ref a2)] [(.ref a2), (.ref a1)])) t
        refine XS.dup X8.here hx rfl (hb hby d7_28) rfl rfl ?_
        exact k
      obtain ⟨T9, X9, e9, st9⟩ := getF X8 hx hZ hown (host := "") (Or.inl (hw _ (List.mem_of_getElem? (i := 47) rfl))) Via.refl e8 F_a2_position_0 (g := (mkF m 29 #[.val (.ref a2)] [(.ref a2), (.ref a2), (.ref a1)])) rfl rfl (hb hby d7_29)
      refine Runs.via (T' := T9) (g' := (mkF m 32 #[.val (.ref a2)] [(.int q_a2_position), (.ref a2), (.ref a1)])) (fun t k => st9 _ k) ?_
      refine Runs.via (T' := T9) (g' := (mkF m 35 #[.val (.ref a2)] [(.int (q_a2_position + (1 : Int32))), (.ref a2), (.int q_a2_position), (.ref a1)])) (fun t k => ?_) ?_
      · show Steps p.tables e below (T9.setTop (mkF m 32 #[.val (.ref a2)] [(.int q_a2_position), (.ref a2), (.ref a1)])) t
        refine XS.dupX1 X9.here hx rfl (hb hby d7_32) rfl rfl rfl ?_
        show Steps p.tables e below (T9.setTop (mkF m 33 #[.val (.ref a2)] [(.int q_a2_position), (.ref a2), (.int q_a2_position), (.ref a1)])) t
        refine XS.iconst X9.here hx rfl (hb hby d7_33) ?_
        show Steps p.tables e below (T9.setTop (mkF m 34 #[.val (.ref a2)] [(.int (1 : Int32)), (.int q_a2_position), (.ref a2), (.int q_a2_position), (.ref a1)])) t
        refine XS.iadd X9.here hx rfl (hb hby d7_34) rfl ?_
        exact k
      refine letE hr ?_; intro v10 hv10 hr
      rw [← hv10]
      obtain ⟨T11, h11, X11, e11, W11, st11⟩ := putF X9 hx hZ hown (host := "") (Or.inl (hw _ (List.mem_of_getElem? (i := 47) rfl))) Via.refl e9 F_a2_position_0 E_a2_0 (Or.inl (hw _ (List.mem_of_getElem? (i := 48) rfl))) (hw _ (List.mem_of_getElem? (i := 3) rfl)) (ty := .int) (by decide) rfl rfl (g := (mkF m 35 #[.val (.ref a2)] [(.int v10), (.ref a2), (.int q_a2_position), (.ref a1)])) rfl rfl (hb hby d7_35)
      have A_a1_11 : AI Z h11 a1 .byte q_a1 := A_a1_0.other W11 (by omega : @Ne Nat a1 a2)
      have E_a2_11 : Exa Z h11 a2 "com/example/wirelace/wirelace/codec/WireReader" := E_a2_0.wr W11
      have F_a2_packedOuterLimit_11 : Fld Z h11 a2 "com/example/wirelace/wirelace/codec/WireReader" "packedOuterLimit" "I" (.int q_a2_packedOuterLimit) := F_a2_packedOuterLimit_0.other W11 (Or.inr (slot_ne (Or.inl (hw _ (List.mem_of_getElem? (i := 15) rfl))) (Or.inl (hw _ (List.mem_of_getElem? (i := 48) rfl))) (by decide) (t := .int) (t' := .int) (by decide) (by decide)))
      have F_a2_message_11 : Fld Z h11 a2 "com/example/wirelace/wirelace/codec/WireReader" "message" "[B" (.ref a1) := F_a2_message_0.other W11 (Or.inr (slot_ne (Or.inr (hw _ (List.mem_of_getElem? (i := 30) rfl))) (Or.inl (hw _ (List.mem_of_getElem? (i := 48) rfl))) (by decide) (t := (.array .byte)) (t' := .int) (by decide) (by decide)))
      have F_a2_limit_11 : Fld Z h11 a2 "com/example/wirelace/wirelace/codec/WireReader" "limit" "I" (.int q_a2_limit) := F_a2_limit_0.other W11 (Or.inr (slot_ne (Or.inl (hw _ (List.mem_of_getElem? (i := 32) rfl))) (Or.inl (hw _ (List.mem_of_getElem? (i := 48) rfl))) (by decide) (t := .int) (t' := .int) (by decide) (by decide)))
      have F_a2_maxDepth_11 : Fld Z h11 a2 "com/example/wirelace/wirelace/codec/WireReader" "maxDepth" "I" (.int q_a2_maxDepth) := F_a2_maxDepth_0.other W11 (Or.inr (slot_ne (Or.inr (hw _ (List.mem_of_getElem? (i := 37) rfl))) (Or.inl (hw _ (List.mem_of_getElem? (i := 48) rfl))) (by decide) (t := .int) (t' := .int) (by decide) (by decide)))
      have F_a2_position_11 : Fld Z h11 a2 "com/example/wirelace/wirelace/codec/WireReader" "position" "I" (.int v10) := F_a2_position_0.same W11
      have N11 := Fr.snoc X11 N0 (by omega : n0 ≤ a2)
      have zz11 : n0 ≤ h11.size := Nat.le_trans Z1 (Keep.of_wr W11).1
      have K11 := KE.wr W11 (Or.inl (List.mem_of_getElem? (i := 0) rfl))
      refine Runs.via (T' := T11) (g' := (mkF m 38 #[.val (.ref a2)] [(.int q_a2_position), (.ref a1)])) (fun t k => st11 _ k) ?_
      refine bindE hr ?_; intro v12 hv12 hr
      refine Runs.via (T' := T11) (g' := (mkF m 39 #[.val (.ref a2)] [(.int v12)])) (fun t k => ldB X11 hx hZ e11 A_a1_11 hv12 (g := (mkF m 38 #[.val (.ref a2)] [(.int q_a2_position), (.ref a1)])) rfl rfl (hb hby d7_38) _ k) ?_
      refine Runs.via (T' := T11) (g' := (mkF m 40 #[.val (.ref a2)] [(.long (Int32.toInt64 v12))])) (fun t k => ?_) ?_
      · show Steps p.tables e below (T11.setTop (mkF m 39 #[.val (.ref a2)] [(.int v12)])) t
        refine XS.i2l X11.here hx rfl (hb hby d7_39) rfl ?_
        exact k
      obtain rfl := Option.some.inj hr
      exact own_retJ X11 hx hlk hret (hb hby d7_40) (by show cells ≤ 0; omega) (by show slots ≤ 0; omega) ⟨rfl, N11, (by rw [e11]; exact K11), (by rw [e11]; exact E_a2_11), (by rw [e11]; exact F_a2_packedOuterLimit_11), (by rw [e11]; exact F_a2_message_11), (by rw [e11]; exact F_a2_limit_11), (by rw [e11]; exact F_a2_maxDepth_11), (by rw [e11]; exact F_a2_position_11)⟩
  · refine Runs.via (T' := T2) (g' := (mkF m 41 #[.val (.ref a2)] [])) (fun t k => ?_) ?_
    · show Steps p.tables e below (T2.setTop (mkF m 8 #[.val (.ref a2)] [(.int q_a2_limit), (.int q_a2_position)])) t
      exact XS.icmpYes X2.here hx rfl (pc0 := 8) (pc' := 41) rfl (hb hby d7_8) rfl (flt hc3).2.1 (by decide) (by decide) k
    exact b7_41 C X2 e2 N0 (by show cells ≤ 0; omega) (by show slots ≤ 0; omega) Z1 KE (by omega) (by omega) q_a2_position A_a1_0 E_a2_0 F_a2_packedOuterLimit_0 F_a2_message_0 F_a2_limit_0 F_a2_maxDepth_0 F_a2_position_0 hr
def f7 (q_a1 : List Int32) (q_a2_packedOuterLimit : Int32) (q_a2_limit : Int32) (q_a2_maxDepth : Int32) (q_a2_position : Int32) : Option (Int64 × Int32) := g7_0 q_a1 q_a2_packedOuterLimit q_a2_limit q_a2_maxDepth q_a2_position
theorem pn_7 : plainName "com/example/wirelace/wirelace/codec/WireReader" = true := by first | (simp [plainName, overriddenIn]; done) | decide +kernel
theorem ef_7 (m : MethodId) (a1 : Addr) (a2 : Addr) : entryFrame m #[(.ref a2)] 1 = mkF m 0 #[.val (.ref a2)] [] := by first | (simp [entryFrame, mkF, argsToLocals, Value.category]; done) | rfl
set_option maxRecDepth 65536 in
set_option maxHeartbeats 4000000 in
theorem rm7 (l : Launch) (Z : State) (a0 : Array Value) (hw : ∀ d ∈ tables_1, d.before a0 Z = true) (ws : List Jvm.Cond) (a1 : Addr) (a2 : Addr) (q_a1 : List Int32) (q_a2_packedOuterLimit : Int32) (q_a2_limit : Int32) (q_a2_maxDepth : Int32) (q_a2_position : Int32) (hE : Heap) (n0 : Nat) (Z0 : n0 ≤ hE.size) (o0 : n0 ≤ a1) (o1 : @LT.lt Nat instLTNat a1 a2) (A_a1_0 : AI Z hE a1 .byte q_a1) (E_a2_0 : Exa Z hE a2 "com/example/wirelace/wirelace/codec/WireReader") (F_a2_packedOuterLimit_0 : Fld Z hE a2 "com/example/wirelace/wirelace/codec/WireReader" "packedOuterLimit" "I" (.int q_a2_packedOuterLimit)) (F_a2_message_0 : Fld Z hE a2 "com/example/wirelace/wirelace/codec/WireReader" "message" "[B" (.ref a1)) (F_a2_limit_0 : Fld Z hE a2 "com/example/wirelace/wirelace/codec/WireReader" "limit" "I" (.int q_a2_limit)) (F_a2_maxDepth_0 : Fld Z hE a2 "com/example/wirelace/wirelace/codec/WireReader" "maxDepth" "I" (.int q_a2_maxDepth)) (F_a2_position_0 : Fld Z hE a2 "com/example/wirelace/wirelace/codec/WireReader" "position" "I" (.int q_a2_position)) (r : Int64 × Int32) (hr : f7 q_a1 q_a2_packedOuterLimit q_a2_limit q_a2_maxDepth q_a2_position = some r) :
    MetFree l (⟨"com/example/wirelace/wirelace/codec/WireReader", "readVarint", "()J"⟩ : MethodName) (head1 (Jvm.Cond.code (⟨"com/example/wirelace/wirelace/codec/WireReader", "readVarint", "()J"⟩ : MethodName) prog_18_method_11_code 1 (some .long) :: ws) ({ frames := 0, cells := 0, slots := 0, locals := 0 } : Room)) (fun a U => a = #[(.ref a2)] ∧ Z.Warmed39 U.vm ∧ U.heap = hE) (fun _ _ _ _ _ => True) (fun _ U o U' => ∃ v L, o = .returned v ∧ (P7 Z hE a1 a2 q_a1 q_a2_packedOuterLimit q_a2_limit q_a2_maxDepth q_a2_position n0 r v U'.heap L) ∧ FrameEnd U o U' L ({ frames := 0, cells := 0, slots := 0, locals := 0 } : Room).cells ({ frames := 0, cells := 0, slots := 0, locals := 0 } : Room).slots) := by
  refine MetFree.of_bodySF (plainFor_of_name pn_7) hisR ?_
  intro p e s m args below meth c s₁ Bd hml0 hP hK
  obtain ⟨rfl, hZ, hh⟩ := hP
  have X0 : Stand p l e ({ frames := 0, cells := 0, slots := 0, locals := 0 } : Room) s m #[(.ref a2)] below meth c s₁ [] 0 0 := Stand.of_body Bd
  have e0 : s₁.heap = hE := by rw [← hh, Bd.state]; rfl
  have C : Ctx p s m meth c Z a0 "com/example/wirelace/wirelace/codec/WireReader" prog_18_method_11_code 1 (some .long) "readVarint" := ⟨Bd.exec, hZ, hw, Bd.bytes, hml0, findClass_of_methodNamed Bd.named, Bd.returns, BodyLoose.notSynchronized Bd, (name_of_methodNamed Bd.named Bd.method).1⟩
  refine Runs.via (fun t k => castTop (ef_7 m a1 a2) k) (b7_0 C X0 e0 (Fr.nil n0) (by show 0 ≤ 0; omega) (by show 0 ≤ 0; omega) Z0 (Keep.refl hE [a2]) (by omega) (by omega) q_a2_position A_a1_0 E_a2_0 F_a2_packedOuterLimit_0 F_a2_message_0 F_a2_limit_0 F_a2_maxDepth_0 F_a2_position_0 hr)
theorem pd_4 : parseMethodDescriptor "()J" = some ⟨[], some .long⟩ := by decide +kernel
theorem d6_0 : decode method_2_code 0 = .ok (.iload_n 1, 1) := by decide +kernel
theorem d6_1 : decode method_2_code 1 = .ok (.iconst 1, 1) := by decide +kernel
theorem d6_2 : decode method_2_code 2 = .ok (.if_icmp .lt 8, 3) := by decide +kernel
theorem d6_5 : decode method_2_code 5 = .ok (.aload_n 0, 1) := by decide +kernel
theorem d6_6 : decode method_2_code 6 = .ok (.invokevirtual 7, 3) := by decide +kernel
theorem d6_9 : decode method_2_code 9 = .ok (.pop2, 1) := by decide +kernel
theorem d6_10 : decode method_2_code 10 = .ok (.iload_n 1, 1) := by decide +kernel
theorem d6_11 : decode method_2_code 11 = .ok (.iconst 2, 1) := by decide +kernel
theorem d6_12 : decode method_2_code 12 = .ok (.if_icmp .lt 8, 3) := by decide +kernel
theorem d6_15 : decode method_2_code 15 = .ok (.aload_n 0, 1) := by decide +kernel
theorem d6_16 : decode method_2_code 16 = .ok (.invokevirtual 7, 3) := by decide +kernel
theorem d6_19 : decode method_2_code 19 = .ok (.pop2, 1) := by decide +kernel
theorem d6_20 : decode method_2_code 20 = .ok (.iload_n 1, 1) := by decide +kernel
theorem d6_21 : decode method_2_code 21 = .ok (.iconst 3, 1) := by decide +kernel
theorem d6_22 : decode method_2_code 22 = .ok (.if_icmp .lt 8, 3) := by decide +kernel
theorem d6_25 : decode method_2_code 25 = .ok (.aload_n 0, 1) := by decide +kernel
theorem d6_26 : decode method_2_code 26 = .ok (.invokevirtual 7, 3) := by decide +kernel
theorem d6_29 : decode method_2_code 29 = .ok (.pop2, 1) := by decide +kernel
theorem d6_30 : decode method_2_code 30 = .ok (.iload_n 1, 1) := by decide +kernel
theorem d6_31 : decode method_2_code 31 = .ok (.iconst 4, 1) := by decide +kernel
theorem d6_32 : decode method_2_code 32 = .ok (.if_icmp .lt 8, 3) := by decide +kernel
theorem d6_35 : decode method_2_code 35 = .ok (.aload_n 0, 1) := by decide +kernel
theorem d6_36 : decode method_2_code 36 = .ok (.invokevirtual 7, 3) := by decide +kernel
theorem d6_39 : decode method_2_code 39 = .ok (.pop2, 1) := by decide +kernel
theorem d6_40 : decode method_2_code 40 = .ok (.return_, 1) := by decide +kernel
def P6 (Z : State) (hE : Heap) (a1 : Addr) (a2 : Addr) (q_a1 : List Int32) (q_a2_packedOuterLimit : Int32) (q_a2_limit : Int32) (q_a2_maxDepth : Int32) (q_a2_position : Int32) (n0 : Nat) (r : Int32) (v : Option Value) (h : Heap) (L : List Loc) : Prop := v = none ∧ Fr n0 L ∧ Keep hE h [a2] ∧ Exa Z h a2 "com/example/wirelace/wirelace/codec/WireReader" ∧ Fld Z h a2 "com/example/wirelace/wirelace/codec/WireReader" "packedOuterLimit" "I" (.int q_a2_packedOuterLimit) ∧ Fld Z h a2 "com/example/wirelace/wirelace/codec/WireReader" "message" "[B" (.ref a1) ∧ Fld Z h a2 "com/example/wirelace/wirelace/codec/WireReader" "limit" "I" (.int q_a2_limit) ∧ Fld Z h a2 "com/example/wirelace/wirelace/codec/WireReader" "maxDepth" "I" (.int q_a2_maxDepth) ∧ Fld Z h a2 "com/example/wirelace/wirelace/codec/WireReader" "position" "I" (.int r)
def g6_30 (x1 : Int32) (q_a1 : List Int32) (q_a2_packedOuterLimit : Int32) (q_a2_limit : Int32) (q_a2_maxDepth : Int32) (q_a2_position : Int32) : Option (Int32) := (if x1 < (4 : Int32) then some q_a2_position else ((f7 q_a1 q_a2_packedOuterLimit q_a2_limit q_a2_maxDepth q_a2_position).bind fun r2 => some r2.2))
set_option maxRecDepth 65536 in
set_option maxHeartbeats 4000000 in
theorem b6_30 {hE : Heap} {a1 : Addr} {a2 : Addr} {q_a1 : List Int32} {q_a2_packedOuterLimit : Int32} {q_a2_limit : Int32} {q_a2_maxDepth : Int32} {q_a2_position₀ : Int32} {r : Int32} (C : Ctx p s m meth c Z a0 "com/example/wirelace/wirelace/codec/WireReaderHasRemainingPinLaw" method_2_code 2 none "readN") (X0 : Stand p l e ({ frames := 1, cells := 0, slots := 0, locals := 12 } : Room) s m args below meth c T0 locs cells slots) (e0 : T0.heap = h0) (N0 : Fr n0 locs) (hk : cells ≤ 0) (hn : slots ≤ 0) (Z1 : n0 ≤ h0.size) (KE : Keep hE h0 [a2]) (o0 : n0 ≤ a1) (o1 : @LT.lt Nat instLTNat a1 a2) (q_a2_position : Int32) (x1 : Int32) (A_a1_0 : AI Z h0 a1 .byte q_a1) (E_a2_0 : Exa Z h0 a2 "com/example/wirelace/wirelace/codec/WireReader") (F_a2_packedOuterLimit_0 : Fld Z h0 a2 "com/example/wirelace/wirelace/codec/WireReader" "packedOuterLimit" "I" (.int q_a2_packedOuterLimit)) (F_a2_message_0 : Fld Z h0 a2 "com/example/wirelace/wirelace/codec/WireReader" "message" "[B" (.ref a1)) (F_a2_limit_0 : Fld Z h0 a2 "com/example/wirelace/wirelace/codec/WireReader" "limit" "I" (.int q_a2_limit)) (F_a2_maxDepth_0 : Fld Z h0 a2 "com/example/wirelace/wirelace/codec/WireReader" "maxDepth" "I" (.int q_a2_maxDepth)) (F_a2_position_0 : Fld Z h0 a2 "com/example/wirelace/wirelace/codec/WireReader" "position" "I" (.int q_a2_position)) (hr : g6_30 x1 q_a1 q_a2_packedOuterLimit q_a2_limit q_a2_maxDepth q_a2_position = some r) :
    Runs p e below s (P6 Z hE a1 a2 q_a1 q_a2_packedOuterLimit q_a2_limit q_a2_maxDepth q_a2_position₀ n0 r) 0 0 T0 (mkF m 30 #[.val (.ref a2), .val (.int x1)] []) := by
  unfold g6_30 at hr
  have ⟨hx, hZ, hw, hby, hml, hown, hret, hlk, hnm⟩ := C
  refine Runs.via (T' := T0) (g' := (mkF m 32 #[.val (.ref a2), .val (.int x1)] [(.int (4 : Int32)), (.int x1)])) (fun t k => ?_) ?_
  · show Steps p.tables e below (T0.setTop (mkF m 30 #[.val (.ref a2), .val (.int x1)] [])) t
    refine XS.iloadN X0.here hx rfl (hb hby d6_30) rfl ?_
    show Steps p.tables e below (T0.setTop (mkF m 31 #[.val (.ref a2), .val (.int x1)] [(.int x1)])) t
    refine XS.iconst X0.here hx rfl (hb hby d6_31) ?_
    exact k
  refine iteE hr (fun hc1 hr => ?_) (fun hc1 hr => ?_)
  · refine Runs.via (T' := T0) (g' := (mkF m 40 #[.val (.ref a2), .val (.int x1)] [])) (fun t k => ?_) ?_
    · show Steps p.tables e below (T0.setTop (mkF m 32 #[.val (.ref a2), .val (.int x1)] [(.int (4 : Int32)), (.int x1)])) t
      exact XS.icmpYes X0.here hx rfl (pc0 := 32) (pc' := 40) rfl (hb hby d6_32) rfl (tlt hc1).1 (by decide) (by decide) k
    obtain rfl := Option.some.inj hr
    exact own_retV X0 hx hlk hret (hb hby d6_40) (by show cells ≤ 0; omega) (by show slots ≤ 0; omega) ⟨rfl, N0, (by rw [e0]; exact KE), (by rw [e0]; exact E_a2_0), (by rw [e0]; exact F_a2_packedOuterLimit_0), (by rw [e0]; exact F_a2_message_0), (by rw [e0]; exact F_a2_limit_0), (by rw [e0]; exact F_a2_maxDepth_0), (by rw [e0]; exact F_a2_position_0)⟩
  · refine Runs.via (T' := T0) (g' := (mkF m 35 #[.val (.ref a2), .val (.int x1)] [])) (fun t k => ?_) ?_
    · show Steps p.tables e below (T0.setTop (mkF m 32 #[.val (.ref a2), .val (.int x1)] [(.int (4 : Int32)), (.int x1)])) t
      exact XS.icmpNo X0.here hx rfl (hb hby d6_32) rfl (flt hc1).1 k
    refine Runs.via (T' := T0) (g' := (mkF m 36 #[.val (.ref a2), .val (.int x1)] [(.ref a2)])) (fun t k => ?_) ?_
    · show Steps p.tables e below (T0.setTop (mkF m 35 #[.val (.ref a2), .val (.int x1)] [])) t
      refine XS.aloadN X0.here hx rfl (hb hby d6_35) rfl rfl ?_
      exact k
    refine bindE hr ?_; intro r2 hr2m hr
    obtain ⟨cq2, kq2, q2a, q2b, q2c⟩ := isOf hZ e0 E_a2_0
    obtain ⟨_, _, ⟨T2, L2, k2, n2⟩, -, X2, ⟨Lc2, hQ2, l2, y2, z2⟩, st2⟩ := X0.virtualBack hx (y := (⟨"com/example/wirelace/wirelace/codec/WireReader", "readVarint", "()J"⟩ : MethodName)) (z := (⟨"com/example/wirelace/wirelace/codec/WireReader", "readVarint", "()J"⟩ : MethodName)) hown (mvT hZ (hw _ (List.mem_of_getElem? (i := 42) rfl))) (mvT hZ (hw _ (List.mem_of_getElem? (i := 43) rfl))) (notFace_of_selects (args := #[]) (mvT hZ (hw _ (List.mem_of_getElem? (i := 45) rfl)))) (mvT hZ (hw _ (List.mem_of_getElem? (i := 45) rfl))) (mvT hZ (hw _ (List.mem_of_getElem? (i := 44) rfl))) (by decide) (backOf (W := 0) (rm7 l Z a0 hw [] a1 a2 q_a1 q_a2_packedOuterLimit q_a2_limit q_a2_maxDepth q_a2_position h0 n0 Z1 (by omega) (by omega) A_a1_0 E_a2_0 F_a2_packedOuterLimit_0 F_a2_message_0 F_a2_limit_0 F_a2_maxDepth_0 F_a2_position_0 r2 hr2m) hZ (hw _ (List.mem_of_getElem? (i := 46) rfl)) (hw _ (List.mem_of_getElem? (i := 4) rfl)) (by decide) (by decide)) q2a q2c (g := (mkF m 36 #[.val (.ref a2), .val (.int x1)] [(.ref a2)])) rfl (by rw [hml]; rfl) (Steps.refl _) (argsL := []) (rest := []) (lenOf pd_4 rfl) rfl (by show 2 * 0 + _ ≤ _; exact Nat.le_of_eq rfl) (hb hby d6_36) (fun _ _ => ⟨rfl, e0, (by show cells + 0 ≤ 0; omega), (by show slots + 0 ≤ 0; omega)⟩)
    dsimp only [Pt.U, Pt.locs, Pt.cells, Pt.slots] at X2 l2 y2 z2 st2 hQ2
    replace y2 := y2.symm; replace z2 := z2.symm; subst l2 y2 z2
    obtain ⟨h2, e2⟩ : ∃ z, T2.heap = z := ⟨_, rfl⟩
    rw [e2] at hQ2
    obtain ⟨rfl, N2q, K2q, E_a2_2, F_a2_packedOuterLimit_2, F_a2_message_2, F_a2_limit_2, F_a2_maxDepth_2, F_a2_position_2⟩ := hQ2
    have N2 := Fr.app N0 N2q
    have A_a1_2 := A_a1_0.keep K2q (ninS (by omega : @Ne Nat a1 a2) nin0)
    have K2 := KE.trans K2q (allS (Or.inl (List.mem_of_getElem? (i := 0) rfl)) all0)
    have zz2 : n0 ≤ h2.size := Nat.le_trans Z1 K2q.1
    refine Runs.via (T' := T2) (g' := (mkF m 39 #[.val (.ref a2), .val (.int x1)] [(.long r2.1)])) (fun t k => st2.trans k) ?_
    refine Runs.via (T' := T2) (g' := (mkF m 40 #[.val (.ref a2), .val (.int x1)] [])) (fun t k => ?_) ?_
    · show Steps p.tables e below (T2.setTop (mkF m 39 #[.val (.ref a2), .val (.int x1)] [(.long r2.1)])) t
      jvm_step X2.here [X2.here.top, hx, (hb hby d6_39), Value.category]
      exact k
    obtain rfl := Option.some.inj hr
    exact own_retV X2 hx hlk hret (hb hby d6_40) (by show (cells + 0) ≤ 0; omega) (by show (slots + 0) ≤ 0; omega) ⟨rfl, N2, (by rw [e2]; exact K2), (by rw [e2]; exact E_a2_2), (by rw [e2]; exact F_a2_packedOuterLimit_2), (by rw [e2]; exact F_a2_message_2), (by rw [e2]; exact F_a2_limit_2), (by rw [e2]; exact F_a2_maxDepth_2), (by rw [e2]; exact F_a2_position_2)⟩
def g6_20 (x1 : Int32) (q_a1 : List Int32) (q_a2_packedOuterLimit : Int32) (q_a2_limit : Int32) (q_a2_maxDepth : Int32) (q_a2_position : Int32) : Option (Int32) := (if x1 < (3 : Int32) then (g6_30 x1 q_a1 q_a2_packedOuterLimit q_a2_limit q_a2_maxDepth q_a2_position) else ((f7 q_a1 q_a2_packedOuterLimit q_a2_limit q_a2_maxDepth q_a2_position).bind fun r2 => (g6_30 x1 q_a1 q_a2_packedOuterLimit q_a2_limit q_a2_maxDepth r2.2)))
set_option maxRecDepth 65536 in
set_option maxHeartbeats 4000000 in
theorem b6_20 {hE : Heap} {a1 : Addr} {a2 : Addr} {q_a1 : List Int32} {q_a2_packedOuterLimit : Int32} {q_a2_limit : Int32} {q_a2_maxDepth : Int32} {q_a2_position₀ : Int32} {r : Int32} (C : Ctx p s m meth c Z a0 "com/example/wirelace/wirelace/codec/WireReaderHasRemainingPinLaw" method_2_code 2 none "readN") (X0 : Stand p l e ({ frames := 1, cells := 0, slots := 0, locals := 12 } : Room) s m args below meth c T0 locs cells slots) (e0 : T0.heap = h0) (N0 : Fr n0 locs) (hk : cells ≤ 0) (hn : slots ≤ 0) (Z1 : n0 ≤ h0.size) (KE : Keep hE h0 [a2]) (o0 : n0 ≤ a1) (o1 : @LT.lt Nat instLTNat a1 a2) (q_a2_position : Int32) (x1 : Int32) (A_a1_0 : AI Z h0 a1 .byte q_a1) (E_a2_0 : Exa Z h0 a2 "com/example/wirelace/wirelace/codec/WireReader") (F_a2_packedOuterLimit_0 : Fld Z h0 a2 "com/example/wirelace/wirelace/codec/WireReader" "packedOuterLimit" "I" (.int q_a2_packedOuterLimit)) (F_a2_message_0 : Fld Z h0 a2 "com/example/wirelace/wirelace/codec/WireReader" "message" "[B" (.ref a1)) (F_a2_limit_0 : Fld Z h0 a2 "com/example/wirelace/wirelace/codec/WireReader" "limit" "I" (.int q_a2_limit)) (F_a2_maxDepth_0 : Fld Z h0 a2 "com/example/wirelace/wirelace/codec/WireReader" "maxDepth" "I" (.int q_a2_maxDepth)) (F_a2_position_0 : Fld Z h0 a2 "com/example/wirelace/wirelace/codec/WireReader" "position" "I" (.int q_a2_position)) (hr : g6_20 x1 q_a1 q_a2_packedOuterLimit q_a2_limit q_a2_maxDepth q_a2_position = some r) :
    Runs p e below s (P6 Z hE a1 a2 q_a1 q_a2_packedOuterLimit q_a2_limit q_a2_maxDepth q_a2_position₀ n0 r) 0 0 T0 (mkF m 20 #[.val (.ref a2), .val (.int x1)] []) := by
  unfold g6_20 at hr
  have ⟨hx, hZ, hw, hby, hml, hown, hret, hlk, hnm⟩ := C
  refine Runs.via (T' := T0) (g' := (mkF m 22 #[.val (.ref a2), .val (.int x1)] [(.int (3 : Int32)), (.int x1)])) (fun t k => ?_) ?_
  · show Steps p.tables e below (T0.setTop (mkF m 20 #[.val (.ref a2), .val (.int x1)] [])) t
    refine XS.iloadN X0.here hx rfl (hb hby d6_20) rfl ?_
    show Steps p.tables e below (T0.setTop (mkF m 21 #[.val (.ref a2), .val (.int x1)] [(.int x1)])) t
    refine XS.iconst X0.here hx rfl (hb hby d6_21) ?_
    exact k
  refine iteE hr (fun hc1 hr => ?_) (fun hc1 hr => ?_)
  · refine Runs.via (T' := T0) (g' := (mkF m 30 #[.val (.ref a2), .val (.int x1)] [])) (fun t k => ?_) ?_
    · show Steps p.tables e below (T0.setTop (mkF m 22 #[.val (.ref a2), .val (.int x1)] [(.int (3 : Int32)), (.int x1)])) t
      exact XS.icmpYes X0.here hx rfl (pc0 := 22) (pc' := 30) rfl (hb hby d6_22) rfl (tlt hc1).1 (by decide) (by decide) k
    exact b6_30 C X0 e0 N0 (by show cells ≤ 0; omega) (by show slots ≤ 0; omega) Z1 KE (by omega) (by omega) q_a2_position x1 A_a1_0 E_a2_0 F_a2_packedOuterLimit_0 F_a2_message_0 F_a2_limit_0 F_a2_maxDepth_0 F_a2_position_0 hr
  · refine Runs.via (T' := T0) (g' := (mkF m 25 #[.val (.ref a2), .val (.int x1)] [])) (fun t k => ?_) ?_
    · show Steps p.tables e below (T0.setTop (mkF m 22 #[.val (.ref a2), .val (.int x1)] [(.int (3 : Int32)), (.int x1)])) t
      exact XS.icmpNo X0.here hx rfl (hb hby d6_22) rfl (flt hc1).1 k
    refine Runs.via (T' := T0) (g' := (mkF m 26 #[.val (.ref a2), .val (.int x1)] [(.ref a2)])) (fun t k => ?_) ?_
    · show Steps p.tables e below (T0.setTop (mkF m 25 #[.val (.ref a2), .val (.int x1)] [])) t
      refine XS.aloadN X0.here hx rfl (hb hby d6_25) rfl rfl ?_
      exact k
    refine bindE hr ?_; intro r2 hr2m hr
    obtain ⟨cq2, kq2, q2a, q2b, q2c⟩ := isOf hZ e0 E_a2_0
    obtain ⟨_, _, ⟨T2, L2, k2, n2⟩, -, X2, ⟨Lc2, hQ2, l2, y2, z2⟩, st2⟩ := X0.virtualBack hx (y := (⟨"com/example/wirelace/wirelace/codec/WireReader", "readVarint", "()J"⟩ : MethodName)) (z := (⟨"com/example/wirelace/wirelace/codec/WireReader", "readVarint", "()J"⟩ : MethodName)) hown (mvT hZ (hw _ (List.mem_of_getElem? (i := 42) rfl))) (mvT hZ (hw _ (List.mem_of_getElem? (i := 43) rfl))) (notFace_of_selects (args := #[]) (mvT hZ (hw _ (List.mem_of_getElem? (i := 45) rfl)))) (mvT hZ (hw _ (List.mem_of_getElem? (i := 45) rfl))) (mvT hZ (hw _ (List.mem_of_getElem? (i := 44) rfl))) (by decide) (backOf (W := 0) (rm7 l Z a0 hw [] a1 a2 q_a1 q_a2_packedOuterLimit q_a2_limit q_a2_maxDepth q_a2_position h0 n0 Z1 (by omega) (by omega) A_a1_0 E_a2_0 F_a2_packedOuterLimit_0 F_a2_message_0 F_a2_limit_0 F_a2_maxDepth_0 F_a2_position_0 r2 hr2m) hZ (hw _ (List.mem_of_getElem? (i := 46) rfl)) (hw _ (List.mem_of_getElem? (i := 4) rfl)) (by decide) (by decide)) q2a q2c (g := (mkF m 26 #[.val (.ref a2), .val (.int x1)] [(.ref a2)])) rfl (by rw [hml]; rfl) (Steps.refl _) (argsL := []) (rest := []) (lenOf pd_4 rfl) rfl (by show 2 * 0 + _ ≤ _; exact Nat.le_of_eq rfl) (hb hby d6_26) (fun _ _ => ⟨rfl, e0, (by show cells + 0 ≤ 0; omega), (by show slots + 0 ≤ 0; omega)⟩)
    dsimp only [Pt.U, Pt.locs, Pt.cells, Pt.slots] at X2 l2 y2 z2 st2 hQ2
    replace y2 := y2.symm; replace z2 := z2.symm; subst l2 y2 z2
    obtain ⟨h2, e2⟩ : ∃ z, T2.heap = z := ⟨_, rfl⟩
    rw [e2] at hQ2
    obtain ⟨rfl, N2q, K2q, E_a2_2, F_a2_packedOuterLimit_2, F_a2_message_2, F_a2_limit_2, F_a2_maxDepth_2, F_a2_position_2⟩ := hQ2
    have N2 := Fr.app N0 N2q
    have A_a1_2 := A_a1_0.keep K2q (ninS (by omega : @Ne Nat a1 a2) nin0)
    have K2 := KE.trans K2q (allS (Or.inl (List.mem_of_getElem? (i := 0) rfl)) all0)
    have zz2 : n0 ≤ h2.size := Nat.le_trans Z1 K2q.1
    refine Runs.via (T' := T2) (g' := (mkF m 29 #[.val (.ref a2), .val (.int x1)] [(.long r2.1)])) (fun t k => st2.trans k) ?_
    refine Runs.via (T' := T2) (g' := (mkF m 30 #[.val (.ref a2), .val (.int x1)] [])) (fun t k => ?_) ?_
    · show Steps p.tables e below (T2.setTop (mkF m 29 #[.val (.ref a2), .val (.int x1)] [(.long r2.1)])) t
      jvm_step X2.here [X2.here.top, hx, (hb hby d6_29), Value.category]
      exact k
    exact b6_30 C X2 e2 N2 (by show (cells + 0) ≤ 0; omega) (by show (slots + 0) ≤ 0; omega) zz2 K2 (by omega) (by omega) r2.2 x1 A_a1_2 E_a2_2 F_a2_packedOuterLimit_2 F_a2_message_2 F_a2_limit_2 F_a2_maxDepth_2 F_a2_position_2 hr
def g6_10 (x1 : Int32) (q_a1 : List Int32) (q_a2_packedOuterLimit : Int32) (q_a2_limit : Int32) (q_a2_maxDepth : Int32) (q_a2_position : Int32) : Option (Int32) := (if x1 < (2 : Int32) then (g6_20 x1 q_a1 q_a2_packedOuterLimit q_a2_limit q_a2_maxDepth q_a2_position) else ((f7 q_a1 q_a2_packedOuterLimit q_a2_limit q_a2_maxDepth q_a2_position).bind fun r2 => (g6_20 x1 q_a1 q_a2_packedOuterLimit q_a2_limit q_a2_maxDepth r2.2)))
set_option maxRecDepth 65536 in
set_option maxHeartbeats 4000000 in
theorem b6_10 {hE : Heap} {a1 : Addr} {a2 : Addr} {q_a1 : List Int32} {q_a2_packedOuterLimit : Int32} {q_a2_limit : Int32} {q_a2_maxDepth : Int32} {q_a2_position₀ : Int32} {r : Int32} (C : Ctx p s m meth c Z a0 "com/example/wirelace/wirelace/codec/WireReaderHasRemainingPinLaw" method_2_code 2 none "readN") (X0 : Stand p l e ({ frames := 1, cells := 0, slots := 0, locals := 12 } : Room) s m args below meth c T0 locs cells slots) (e0 : T0.heap = h0) (N0 : Fr n0 locs) (hk : cells ≤ 0) (hn : slots ≤ 0) (Z1 : n0 ≤ h0.size) (KE : Keep hE h0 [a2]) (o0 : n0 ≤ a1) (o1 : @LT.lt Nat instLTNat a1 a2) (q_a2_position : Int32) (x1 : Int32) (A_a1_0 : AI Z h0 a1 .byte q_a1) (E_a2_0 : Exa Z h0 a2 "com/example/wirelace/wirelace/codec/WireReader") (F_a2_packedOuterLimit_0 : Fld Z h0 a2 "com/example/wirelace/wirelace/codec/WireReader" "packedOuterLimit" "I" (.int q_a2_packedOuterLimit)) (F_a2_message_0 : Fld Z h0 a2 "com/example/wirelace/wirelace/codec/WireReader" "message" "[B" (.ref a1)) (F_a2_limit_0 : Fld Z h0 a2 "com/example/wirelace/wirelace/codec/WireReader" "limit" "I" (.int q_a2_limit)) (F_a2_maxDepth_0 : Fld Z h0 a2 "com/example/wirelace/wirelace/codec/WireReader" "maxDepth" "I" (.int q_a2_maxDepth)) (F_a2_position_0 : Fld Z h0 a2 "com/example/wirelace/wirelace/codec/WireReader" "position" "I" (.int q_a2_position)) (hr : g6_10 x1 q_a1 q_a2_packedOuterLimit q_a2_limit q_a2_maxDepth q_a2_position = some r) :
    Runs p e below s (P6 Z hE a1 a2 q_a1 q_a2_packedOuterLimit q_a2_limit q_a2_maxDepth q_a2_position₀ n0 r) 0 0 T0 (mkF m 10 #[.val (.ref a2), .val (.int x1)] []) := by
  unfold g6_10 at hr
  have ⟨hx, hZ, hw, hby, hml, hown, hret, hlk, hnm⟩ := C
  refine Runs.via (T' := T0) (g' := (mkF m 12 #[.val (.ref a2), .val (.int x1)] [(.int (2 : Int32)), (.int x1)])) (fun t k => ?_) ?_
  · show Steps p.tables e below (T0.setTop (mkF m 10 #[.val (.ref a2), .val (.int x1)] [])) t
    refine XS.iloadN X0.here hx rfl (hb hby d6_10) rfl ?_
    show Steps p.tables e below (T0.setTop (mkF m 11 #[.val (.ref a2), .val (.int x1)] [(.int x1)])) t
    refine XS.iconst X0.here hx rfl (hb hby d6_11) ?_
    exact k
  refine iteE hr (fun hc1 hr => ?_) (fun hc1 hr => ?_)
  · refine Runs.via (T' := T0) (g' := (mkF m 20 #[.val (.ref a2), .val (.int x1)] [])) (fun t k => ?_) ?_
    · show Steps p.tables e below (T0.setTop (mkF m 12 #[.val (.ref a2), .val (.int x1)] [(.int (2 : Int32)), (.int x1)])) t
      exact XS.icmpYes X0.here hx rfl (pc0 := 12) (pc' := 20) rfl (hb hby d6_12) rfl (tlt hc1).1 (by decide) (by decide) k
    exact b6_20 C X0 e0 N0 (by show cells ≤ 0; omega) (by show slots ≤ 0; omega) Z1 KE (by omega) (by omega) q_a2_position x1 A_a1_0 E_a2_0 F_a2_packedOuterLimit_0 F_a2_message_0 F_a2_limit_0 F_a2_maxDepth_0 F_a2_position_0 hr
  · refine Runs.via (T' := T0) (g' := (mkF m 15 #[.val (.ref a2), .val (.int x1)] [])) (fun t k => ?_) ?_
    · show Steps p.tables e below (T0.setTop (mkF m 12 #[.val (.ref a2), .val (.int x1)] [(.int (2 : Int32)), (.int x1)])) t
      exact XS.icmpNo X0.here hx rfl (hb hby d6_12) rfl (flt hc1).1 k
    refine Runs.via (T' := T0) (g' := (mkF m 16 #[.val (.ref a2), .val (.int x1)] [(.ref a2)])) (fun t k => ?_) ?_
    · show Steps p.tables e below (T0.setTop (mkF m 15 #[.val (.ref a2), .val (.int x1)] [])) t
      refine XS.aloadN X0.here hx rfl (hb hby d6_15) rfl rfl ?_
      exact k
    refine bindE hr ?_; intro r2 hr2m hr
    obtain ⟨cq2, kq2, q2a, q2b, q2c⟩ := isOf hZ e0 E_a2_0
    obtain ⟨_, _, ⟨T2, L2, k2, n2⟩, -, X2, ⟨Lc2, hQ2, l2, y2, z2⟩, st2⟩ := X0.virtualBack hx (y := (⟨"com/example/wirelace/wirelace/codec/WireReader", "readVarint", "()J"⟩ : MethodName)) (z := (⟨"com/example/wirelace/wirelace/codec/WireReader", "readVarint", "()J"⟩ : MethodName)) hown (mvT hZ (hw _ (List.mem_of_getElem? (i := 42) rfl))) (mvT hZ (hw _ (List.mem_of_getElem? (i := 43) rfl))) (notFace_of_selects (args := #[]) (mvT hZ (hw _ (List.mem_of_getElem? (i := 45) rfl)))) (mvT hZ (hw _ (List.mem_of_getElem? (i := 45) rfl))) (mvT hZ (hw _ (List.mem_of_getElem? (i := 44) rfl))) (by decide) (backOf (W := 0) (rm7 l Z a0 hw [] a1 a2 q_a1 q_a2_packedOuterLimit q_a2_limit q_a2_maxDepth q_a2_position h0 n0 Z1 (by omega) (by omega) A_a1_0 E_a2_0 F_a2_packedOuterLimit_0 F_a2_message_0 F_a2_limit_0 F_a2_maxDepth_0 F_a2_position_0 r2 hr2m) hZ (hw _ (List.mem_of_getElem? (i := 46) rfl)) (hw _ (List.mem_of_getElem? (i := 4) rfl)) (by decide) (by decide)) q2a q2c (g := (mkF m 16 #[.val (.ref a2), .val (.int x1)] [(.ref a2)])) rfl (by rw [hml]; rfl) (Steps.refl _) (argsL := []) (rest := []) (lenOf pd_4 rfl) rfl (by show 2 * 0 + _ ≤ _; exact Nat.le_of_eq rfl) (hb hby d6_16) (fun _ _ => ⟨rfl, e0, (by show cells + 0 ≤ 0; omega), (by show slots + 0 ≤ 0; omega)⟩)
    dsimp only [Pt.U, Pt.locs, Pt.cells, Pt.slots] at X2 l2 y2 z2 st2 hQ2
    replace y2 := y2.symm; replace z2 := z2.symm; subst l2 y2 z2
    obtain ⟨h2, e2⟩ : ∃ z, T2.heap = z := ⟨_, rfl⟩
    rw [e2] at hQ2
    obtain ⟨rfl, N2q, K2q, E_a2_2, F_a2_packedOuterLimit_2, F_a2_message_2, F_a2_limit_2, F_a2_maxDepth_2, F_a2_position_2⟩ := hQ2
    have N2 := Fr.app N0 N2q
    have A_a1_2 := A_a1_0.keep K2q (ninS (by omega : @Ne Nat a1 a2) nin0)
    have K2 := KE.trans K2q (allS (Or.inl (List.mem_of_getElem? (i := 0) rfl)) all0)
    have zz2 : n0 ≤ h2.size := Nat.le_trans Z1 K2q.1
    refine Runs.via (T' := T2) (g' := (mkF m 19 #[.val (.ref a2), .val (.int x1)] [(.long r2.1)])) (fun t k => st2.trans k) ?_
    refine Runs.via (T' := T2) (g' := (mkF m 20 #[.val (.ref a2), .val (.int x1)] [])) (fun t k => ?_) ?_
    · show Steps p.tables e below (T2.setTop (mkF m 19 #[.val (.ref a2), .val (.int x1)] [(.long r2.1)])) t
      jvm_step X2.here [X2.here.top, hx, (hb hby d6_19), Value.category]
      exact k
    exact b6_20 C X2 e2 N2 (by show (cells + 0) ≤ 0; omega) (by show (slots + 0) ≤ 0; omega) zz2 K2 (by omega) (by omega) r2.2 x1 A_a1_2 E_a2_2 F_a2_packedOuterLimit_2 F_a2_message_2 F_a2_limit_2 F_a2_maxDepth_2 F_a2_position_2 hr
def g6_0 (x1 : Int32) (q_a1 : List Int32) (q_a2_packedOuterLimit : Int32) (q_a2_limit : Int32) (q_a2_maxDepth : Int32) (q_a2_position : Int32) : Option (Int32) := (if x1 < (1 : Int32) then (g6_10 x1 q_a1 q_a2_packedOuterLimit q_a2_limit q_a2_maxDepth q_a2_position) else ((f7 q_a1 q_a2_packedOuterLimit q_a2_limit q_a2_maxDepth q_a2_position).bind fun r2 => (g6_10 x1 q_a1 q_a2_packedOuterLimit q_a2_limit q_a2_maxDepth r2.2)))
set_option maxRecDepth 65536 in
set_option maxHeartbeats 4000000 in
theorem b6_0 {hE : Heap} {a1 : Addr} {a2 : Addr} {q_a1 : List Int32} {q_a2_packedOuterLimit : Int32} {q_a2_limit : Int32} {q_a2_maxDepth : Int32} {q_a2_position₀ : Int32} {r : Int32} (C : Ctx p s m meth c Z a0 "com/example/wirelace/wirelace/codec/WireReaderHasRemainingPinLaw" method_2_code 2 none "readN") (X0 : Stand p l e ({ frames := 1, cells := 0, slots := 0, locals := 12 } : Room) s m args below meth c T0 locs cells slots) (e0 : T0.heap = h0) (N0 : Fr n0 locs) (hk : cells ≤ 0) (hn : slots ≤ 0) (Z1 : n0 ≤ h0.size) (KE : Keep hE h0 [a2]) (o0 : n0 ≤ a1) (o1 : @LT.lt Nat instLTNat a1 a2) (q_a2_position : Int32) (x1 : Int32) (A_a1_0 : AI Z h0 a1 .byte q_a1) (E_a2_0 : Exa Z h0 a2 "com/example/wirelace/wirelace/codec/WireReader") (F_a2_packedOuterLimit_0 : Fld Z h0 a2 "com/example/wirelace/wirelace/codec/WireReader" "packedOuterLimit" "I" (.int q_a2_packedOuterLimit)) (F_a2_message_0 : Fld Z h0 a2 "com/example/wirelace/wirelace/codec/WireReader" "message" "[B" (.ref a1)) (F_a2_limit_0 : Fld Z h0 a2 "com/example/wirelace/wirelace/codec/WireReader" "limit" "I" (.int q_a2_limit)) (F_a2_maxDepth_0 : Fld Z h0 a2 "com/example/wirelace/wirelace/codec/WireReader" "maxDepth" "I" (.int q_a2_maxDepth)) (F_a2_position_0 : Fld Z h0 a2 "com/example/wirelace/wirelace/codec/WireReader" "position" "I" (.int q_a2_position)) (hr : g6_0 x1 q_a1 q_a2_packedOuterLimit q_a2_limit q_a2_maxDepth q_a2_position = some r) :
    Runs p e below s (P6 Z hE a1 a2 q_a1 q_a2_packedOuterLimit q_a2_limit q_a2_maxDepth q_a2_position₀ n0 r) 0 0 T0 (mkF m 0 #[.val (.ref a2), .val (.int x1)] []) := by
  unfold g6_0 at hr
  have ⟨hx, hZ, hw, hby, hml, hown, hret, hlk, hnm⟩ := C
  refine Runs.via (T' := T0) (g' := (mkF m 2 #[.val (.ref a2), .val (.int x1)] [(.int (1 : Int32)), (.int x1)])) (fun t k => ?_) ?_
  · show Steps p.tables e below (T0.setTop (mkF m 0 #[.val (.ref a2), .val (.int x1)] [])) t
    refine XS.iloadN X0.here hx rfl (hb hby d6_0) rfl ?_
    show Steps p.tables e below (T0.setTop (mkF m 1 #[.val (.ref a2), .val (.int x1)] [(.int x1)])) t
    refine XS.iconst X0.here hx rfl (hb hby d6_1) ?_
    exact k
  refine iteE hr (fun hc1 hr => ?_) (fun hc1 hr => ?_)
  · refine Runs.via (T' := T0) (g' := (mkF m 10 #[.val (.ref a2), .val (.int x1)] [])) (fun t k => ?_) ?_
    · show Steps p.tables e below (T0.setTop (mkF m 2 #[.val (.ref a2), .val (.int x1)] [(.int (1 : Int32)), (.int x1)])) t
      exact XS.icmpYes X0.here hx rfl (pc0 := 2) (pc' := 10) rfl (hb hby d6_2) rfl (tlt hc1).1 (by decide) (by decide) k
    exact b6_10 C X0 e0 N0 (by show cells ≤ 0; omega) (by show slots ≤ 0; omega) Z1 KE (by omega) (by omega) q_a2_position x1 A_a1_0 E_a2_0 F_a2_packedOuterLimit_0 F_a2_message_0 F_a2_limit_0 F_a2_maxDepth_0 F_a2_position_0 hr
  · refine Runs.via (T' := T0) (g' := (mkF m 5 #[.val (.ref a2), .val (.int x1)] [])) (fun t k => ?_) ?_
    · show Steps p.tables e below (T0.setTop (mkF m 2 #[.val (.ref a2), .val (.int x1)] [(.int (1 : Int32)), (.int x1)])) t
      exact XS.icmpNo X0.here hx rfl (hb hby d6_2) rfl (flt hc1).1 k
    refine Runs.via (T' := T0) (g' := (mkF m 6 #[.val (.ref a2), .val (.int x1)] [(.ref a2)])) (fun t k => ?_) ?_
    · show Steps p.tables e below (T0.setTop (mkF m 5 #[.val (.ref a2), .val (.int x1)] [])) t
      refine XS.aloadN X0.here hx rfl (hb hby d6_5) rfl rfl ?_
      exact k
    refine bindE hr ?_; intro r2 hr2m hr
    obtain ⟨cq2, kq2, q2a, q2b, q2c⟩ := isOf hZ e0 E_a2_0
    obtain ⟨_, _, ⟨T2, L2, k2, n2⟩, -, X2, ⟨Lc2, hQ2, l2, y2, z2⟩, st2⟩ := X0.virtualBack hx (y := (⟨"com/example/wirelace/wirelace/codec/WireReader", "readVarint", "()J"⟩ : MethodName)) (z := (⟨"com/example/wirelace/wirelace/codec/WireReader", "readVarint", "()J"⟩ : MethodName)) hown (mvT hZ (hw _ (List.mem_of_getElem? (i := 42) rfl))) (mvT hZ (hw _ (List.mem_of_getElem? (i := 43) rfl))) (notFace_of_selects (args := #[]) (mvT hZ (hw _ (List.mem_of_getElem? (i := 45) rfl)))) (mvT hZ (hw _ (List.mem_of_getElem? (i := 45) rfl))) (mvT hZ (hw _ (List.mem_of_getElem? (i := 44) rfl))) (by decide) (backOf (W := 0) (rm7 l Z a0 hw [] a1 a2 q_a1 q_a2_packedOuterLimit q_a2_limit q_a2_maxDepth q_a2_position h0 n0 Z1 (by omega) (by omega) A_a1_0 E_a2_0 F_a2_packedOuterLimit_0 F_a2_message_0 F_a2_limit_0 F_a2_maxDepth_0 F_a2_position_0 r2 hr2m) hZ (hw _ (List.mem_of_getElem? (i := 46) rfl)) (hw _ (List.mem_of_getElem? (i := 4) rfl)) (by decide) (by decide)) q2a q2c (g := (mkF m 6 #[.val (.ref a2), .val (.int x1)] [(.ref a2)])) rfl (by rw [hml]; rfl) (Steps.refl _) (argsL := []) (rest := []) (lenOf pd_4 rfl) rfl (by show 2 * 0 + _ ≤ _; exact Nat.le_of_eq rfl) (hb hby d6_6) (fun _ _ => ⟨rfl, e0, (by show cells + 0 ≤ 0; omega), (by show slots + 0 ≤ 0; omega)⟩)
    dsimp only [Pt.U, Pt.locs, Pt.cells, Pt.slots] at X2 l2 y2 z2 st2 hQ2
    replace y2 := y2.symm; replace z2 := z2.symm; subst l2 y2 z2
    obtain ⟨h2, e2⟩ : ∃ z, T2.heap = z := ⟨_, rfl⟩
    rw [e2] at hQ2
    obtain ⟨rfl, N2q, K2q, E_a2_2, F_a2_packedOuterLimit_2, F_a2_message_2, F_a2_limit_2, F_a2_maxDepth_2, F_a2_position_2⟩ := hQ2
    have N2 := Fr.app N0 N2q
    have A_a1_2 := A_a1_0.keep K2q (ninS (by omega : @Ne Nat a1 a2) nin0)
    have K2 := KE.trans K2q (allS (Or.inl (List.mem_of_getElem? (i := 0) rfl)) all0)
    have zz2 : n0 ≤ h2.size := Nat.le_trans Z1 K2q.1
    refine Runs.via (T' := T2) (g' := (mkF m 9 #[.val (.ref a2), .val (.int x1)] [(.long r2.1)])) (fun t k => st2.trans k) ?_
    refine Runs.via (T' := T2) (g' := (mkF m 10 #[.val (.ref a2), .val (.int x1)] [])) (fun t k => ?_) ?_
    · show Steps p.tables e below (T2.setTop (mkF m 9 #[.val (.ref a2), .val (.int x1)] [(.long r2.1)])) t
      jvm_step X2.here [X2.here.top, hx, (hb hby d6_9), Value.category]
      exact k
    exact b6_10 C X2 e2 N2 (by show (cells + 0) ≤ 0; omega) (by show (slots + 0) ≤ 0; omega) zz2 K2 (by omega) (by omega) r2.2 x1 A_a1_2 E_a2_2 F_a2_packedOuterLimit_2 F_a2_message_2 F_a2_limit_2 F_a2_maxDepth_2 F_a2_position_2 hr
def f6 (x1 : Int32) (q_a1 : List Int32) (q_a2_packedOuterLimit : Int32) (q_a2_limit : Int32) (q_a2_maxDepth : Int32) (q_a2_position : Int32) : Option (Int32) := g6_0 x1 q_a1 q_a2_packedOuterLimit q_a2_limit q_a2_maxDepth q_a2_position
theorem pn_6 : plainName "com/example/wirelace/wirelace/codec/WireReaderHasRemainingPinLaw" = true := by first | (simp [plainName, overriddenIn]; done) | decide +kernel
theorem ef_6 (m : MethodId) (x1 : Int32) (a1 : Addr) (a2 : Addr) : entryFrame m #[(.ref a2), (.int x1)] 2 = mkF m 0 #[.val (.ref a2), .val (.int x1)] [] := by first | (simp [entryFrame, mkF, argsToLocals, Value.category]; done) | rfl
set_option maxRecDepth 65536 in
set_option maxHeartbeats 4000000 in
theorem rm6 (l : Launch) (Z : State) (a0 : Array Value) (hw : ∀ d ∈ tables_1, d.before a0 Z = true) (ws : List Jvm.Cond) (x1 : Int32) (a1 : Addr) (a2 : Addr) (q_a1 : List Int32) (q_a2_packedOuterLimit : Int32) (q_a2_limit : Int32) (q_a2_maxDepth : Int32) (q_a2_position : Int32) (hE : Heap) (n0 : Nat) (Z0 : n0 ≤ hE.size) (o0 : n0 ≤ a1) (o1 : @LT.lt Nat instLTNat a1 a2) (A_a1_0 : AI Z hE a1 .byte q_a1) (E_a2_0 : Exa Z hE a2 "com/example/wirelace/wirelace/codec/WireReader") (F_a2_packedOuterLimit_0 : Fld Z hE a2 "com/example/wirelace/wirelace/codec/WireReader" "packedOuterLimit" "I" (.int q_a2_packedOuterLimit)) (F_a2_message_0 : Fld Z hE a2 "com/example/wirelace/wirelace/codec/WireReader" "message" "[B" (.ref a1)) (F_a2_limit_0 : Fld Z hE a2 "com/example/wirelace/wirelace/codec/WireReader" "limit" "I" (.int q_a2_limit)) (F_a2_maxDepth_0 : Fld Z hE a2 "com/example/wirelace/wirelace/codec/WireReader" "maxDepth" "I" (.int q_a2_maxDepth)) (F_a2_position_0 : Fld Z hE a2 "com/example/wirelace/wirelace/codec/WireReader" "position" "I" (.int q_a2_position)) (r : Int32) (hr : f6 x1 q_a1 q_a2_packedOuterLimit q_a2_limit q_a2_maxDepth q_a2_position = some r) :
    MetFree l (⟨"com/example/wirelace/wirelace/codec/WireReaderHasRemainingPinLaw", "readN", "(Lcom/example/wirelace/wirelace/codec/WireReader;I)V"⟩ : MethodName) (head1 (Jvm.Cond.code (⟨"com/example/wirelace/wirelace/codec/WireReaderHasRemainingPinLaw", "readN", "(Lcom/example/wirelace/wirelace/codec/WireReader;I)V"⟩ : MethodName) method_2_code 2 none :: ws) ({ frames := 1, cells := 0, slots := 0, locals := 12 } : Room)) (fun a U => a = #[(.ref a2), (.int x1)] ∧ Z.Warmed39 U.vm ∧ U.heap = hE) (fun _ _ _ _ _ => True) (fun _ U o U' => ∃ v L, o = .returned v ∧ (P6 Z hE a1 a2 q_a1 q_a2_packedOuterLimit q_a2_limit q_a2_maxDepth q_a2_position n0 r v U'.heap L) ∧ FrameEnd U o U' L ({ frames := 1, cells := 0, slots := 0, locals := 12 } : Room).cells ({ frames := 1, cells := 0, slots := 0, locals := 12 } : Room).slots) := by
  refine MetFree.of_bodySF (plainFor_of_name pn_6) hisR ?_
  intro p e s m args below meth c s₁ Bd hml0 hP hK
  obtain ⟨rfl, hZ, hh⟩ := hP
  have X0 : Stand p l e ({ frames := 1, cells := 0, slots := 0, locals := 12 } : Room) s m #[(.ref a2), (.int x1)] below meth c s₁ [] 0 0 := Stand.of_body Bd
  have e0 : s₁.heap = hE := by rw [← hh, Bd.state]; rfl
  have C : Ctx p s m meth c Z a0 "com/example/wirelace/wirelace/codec/WireReaderHasRemainingPinLaw" method_2_code 2 none "readN" := ⟨Bd.exec, hZ, hw, Bd.bytes, hml0, findClass_of_methodNamed Bd.named, Bd.returns, BodyLoose.notSynchronized Bd, (name_of_methodNamed Bd.named Bd.method).1⟩
  refine Runs.via (fun t k => castTop (ef_6 m x1 a1 a2) k) (b6_0 C X0 e0 (Fr.nil n0) (by show 0 ≤ 0; omega) (by show 0 ≤ 0; omega) Z0 (Keep.refl hE [a2]) (by omega) (by omega) q_a2_position x1 A_a1_0 E_a2_0 F_a2_packedOuterLimit_0 F_a2_message_0 F_a2_limit_0 F_a2_maxDepth_0 F_a2_position_0 hr)
theorem pd_5 : parseMethodDescriptor "(Lcom/example/wirelace/wirelace/codec/WireReader;I)V" = some ⟨[(.object "com/example/wirelace/wirelace/codec/WireReader"), .int], none⟩ := by decide +kernel
theorem d13_0 : decode jdk_35_method_42_code 0 = .ok (.lload_n 0, 1) := by decide +kernel
theorem d13_1 : decode jdk_35_method_42_code 1 = .ok (.lload_n 2, 1) := by decide +kernel
theorem d13_2 : decode jdk_35_method_42_code 2 = .ok (.lcmp, 1) := by decide +kernel
theorem d13_3 : decode jdk_35_method_42_code 3 = .ok (.ifCond .ge 7, 3) := by decide +kernel
theorem d13_6 : decode jdk_35_method_42_code 6 = .ok (.iconst (-1), 1) := by decide +kernel
theorem d13_7 : decode jdk_35_method_42_code 7 = .ok (.goto 14, 3) := by decide +kernel
theorem d13_10 : decode jdk_35_method_42_code 10 = .ok (.lload_n 0, 1) := by decide +kernel
theorem d13_11 : decode jdk_35_method_42_code 11 = .ok (.lload_n 2, 1) := by decide +kernel
theorem d13_12 : decode jdk_35_method_42_code 12 = .ok (.lcmp, 1) := by decide +kernel
theorem d13_13 : decode jdk_35_method_42_code 13 = .ok (.ifCond .ne 7, 3) := by decide +kernel
theorem d13_16 : decode jdk_35_method_42_code 16 = .ok (.iconst 0, 1) := by decide +kernel
theorem d13_17 : decode jdk_35_method_42_code 17 = .ok (.goto 4, 3) := by decide +kernel
theorem d13_20 : decode jdk_35_method_42_code 20 = .ok (.iconst 1, 1) := by decide +kernel
theorem d13_21 : decode jdk_35_method_42_code 21 = .ok (.ireturn, 1) := by decide +kernel
def g13_0 (y0 : Int64) (y2 : Int64) : Int32 := (if y0 < y2 then (-1 : Int32) else (if y0 = y2 then (0 : Int32) else (1 : Int32)))
set_option maxRecDepth 65536 in
set_option maxHeartbeats 4000000 in
theorem b13_0 (C : Ctx p s m meth c Z a0 "java/lang/Long" jdk_35_method_42_code 4 (some .int) "compare") (X0 : Stand p l e ({ frames := 0, cells := 0, slots := 0, locals := 0 } : Room) s m args below meth c T0 locs cells slots) (e0 : T0.heap = h0) (N0 : Fr n0 locs) (hk : cells ≤ 0) (hn : slots ≤ 0) (y0 : Int64) (y2 : Int64) :
    Runs p e below s (QP (some (.int (g13_0 y0 y2))) h0 n0) 0 0 T0 (mkF m 0 #[.val (.long y0), .second, .val (.long y2), .second] []) := by
  have ⟨hx, hZ, hw, hby, hml, hown, hret, hlk, hnm⟩ := C
  refine Runs.via (T' := T0) (g' := (mkF m 3 #[.val (.long y0), .second, .val (.long y2), .second] [(.int (lcmpW y0 y2))])) (fun t k => ?_) ?_
  · show Steps p.tables e below (T0.setTop (mkF m 0 #[.val (.long y0), .second, .val (.long y2), .second] [])) t
    refine XS.lloadN X0.here hx rfl (hb hby d13_0) rfl ?_
    show Steps p.tables e below (T0.setTop (mkF m 1 #[.val (.long y0), .second, .val (.long y2), .second] [(.long y0)])) t
    refine XS.lloadN X0.here hx rfl (hb hby d13_1) rfl ?_
    show Steps p.tables e below (T0.setTop (mkF m 2 #[.val (.long y0), .second, .val (.long y2), .second] [(.long y2), (.long y0)])) t
    refine XS.lcmp X0.here hx rfl (hb hby d13_2) rfl ?_
    exact k
  by_cases hc1 : y0 < y2
  · refine Runs.via (T' := T0) (g' := (mkF m 6 #[.val (.long y0), .second, .val (.long y2), .second] [])) (fun t k => ?_) ?_
    · show Steps p.tables e below (T0.setTop (mkF m 3 #[.val (.long y0), .second, .val (.long y2), .second] [(.int (lcmpW y0 y2))])) t
      exact XS.ifNo X0.here hx rfl (hb hby d13_3) rfl ((if0 _ _).trans (tlt ((lw_lt _ _).mpr hc1)).2.1) k
    refine Runs.via (T' := T0) (g' := (mkF m 21 #[.val (.long y0), .second, .val (.long y2), .second] [(.int (-1 : Int32))])) (fun t k => ?_) ?_
    · show Steps p.tables e below (T0.setTop (mkF m 6 #[.val (.long y0), .second, .val (.long y2), .second] [])) t
      refine XS.iconst X0.here hx rfl (hb hby d13_6) ?_
      show Steps p.tables e below (T0.setTop (mkF m 7 #[.val (.long y0), .second, .val (.long y2), .second] [(.int (-1 : Int32))])) t
      refine XS.goto X0.here hx rfl (pc0 := 7) (pc' := 21) rfl (hb hby d13_7) (by decide) (by decide) ?_
      exact k
    refine QP.cast (congrArg (fun z => some (Value.int z)) (show (g13_0 y0 y2) = (-1 : Int32) from (if_pos hc1))) ?_
    exact own_retI X0 hx hlk hret (hb hby d13_21) hk hn ⟨rfl, N0, e0⟩
  · refine Runs.via (T' := T0) (g' := (mkF m 10 #[.val (.long y0), .second, .val (.long y2), .second] [])) (fun t k => ?_) ?_
    · show Steps p.tables e below (T0.setTop (mkF m 3 #[.val (.long y0), .second, .val (.long y2), .second] [(.int (lcmpW y0 y2))])) t
      exact XS.ifYes X0.here hx rfl (pc0 := 3) (pc' := 10) rfl (hb hby d13_3) rfl ((if0 _ _).trans (flt (fun q => hc1 ((lw_lt _ _).mp q))).2.1) (by decide) (by decide) k
    refine Runs.via (T' := T0) (g' := (mkF m 13 #[.val (.long y0), .second, .val (.long y2), .second] [(.int (lcmpW y0 y2))])) (fun t k => ?_) ?_
    · show Steps p.tables e below (T0.setTop (mkF m 10 #[.val (.long y0), .second, .val (.long y2), .second] [])) t
      refine XS.lloadN X0.here hx rfl (hb hby d13_10) rfl ?_
      show Steps p.tables e below (T0.setTop (mkF m 11 #[.val (.long y0), .second, .val (.long y2), .second] [(.long y0)])) t
      refine XS.lloadN X0.here hx rfl (hb hby d13_11) rfl ?_
      show Steps p.tables e below (T0.setTop (mkF m 12 #[.val (.long y0), .second, .val (.long y2), .second] [(.long y2), (.long y0)])) t
      refine XS.lcmp X0.here hx rfl (hb hby d13_12) rfl ?_
      exact k
    by_cases hc2 : y0 = y2
    · refine Runs.via (T' := T0) (g' := (mkF m 16 #[.val (.long y0), .second, .val (.long y2), .second] [])) (fun t k => ?_) ?_
      · show Steps p.tables e below (T0.setTop (mkF m 13 #[.val (.long y0), .second, .val (.long y2), .second] [(.int (lcmpW y0 y2))])) t
        exact XS.ifNo X0.here hx rfl (hb hby d13_13) rfl ((if0 _ _).trans (teq ((lw_eq _ _).mpr hc2)).2) k
      refine Runs.via (T' := T0) (g' := (mkF m 21 #[.val (.long y0), .second, .val (.long y2), .second] [(.int (0 : Int32))])) (fun t k => ?_) ?_
      · show Steps p.tables e below (T0.setTop (mkF m 16 #[.val (.long y0), .second, .val (.long y2), .second] [])) t
        refine XS.iconst X0.here hx rfl (hb hby d13_16) ?_
        show Steps p.tables e below (T0.setTop (mkF m 17 #[.val (.long y0), .second, .val (.long y2), .second] [(.int (0 : Int32))])) t
        refine XS.goto X0.here hx rfl (pc0 := 17) (pc' := 21) rfl (hb hby d13_17) (by decide) (by decide) ?_
        exact k
      refine QP.cast (congrArg (fun z => some (Value.int z)) (show (g13_0 y0 y2) = (0 : Int32) from ((if_neg hc1).trans (if_pos hc2)))) ?_
      exact own_retI X0 hx hlk hret (hb hby d13_21) hk hn ⟨rfl, N0, e0⟩
    · refine Runs.via (T' := T0) (g' := (mkF m 20 #[.val (.long y0), .second, .val (.long y2), .second] [])) (fun t k => ?_) ?_
      · show Steps p.tables e below (T0.setTop (mkF m 13 #[.val (.long y0), .second, .val (.long y2), .second] [(.int (lcmpW y0 y2))])) t
        exact XS.ifYes X0.here hx rfl (pc0 := 13) (pc' := 20) rfl (hb hby d13_13) rfl ((if0 _ _).trans (feq (fun q => hc2 ((lw_eq _ _).mp q))).2) (by decide) (by decide) k
      refine Runs.via (T' := T0) (g' := (mkF m 21 #[.val (.long y0), .second, .val (.long y2), .second] [(.int (1 : Int32))])) (fun t k => ?_) ?_
      · show Steps p.tables e below (T0.setTop (mkF m 20 #[.val (.long y0), .second, .val (.long y2), .second] [])) t
        refine XS.iconst X0.here hx rfl (hb hby d13_20) ?_
        exact k
      refine QP.cast (congrArg (fun z => some (Value.int z)) (show (g13_0 y0 y2) = (1 : Int32) from ((if_neg hc1).trans (if_neg hc2)))) ?_
      exact own_retI X0 hx hlk hret (hb hby d13_21) hk hn ⟨rfl, N0, e0⟩
def f13 (y0 : Int64) (y2 : Int64) : Int32 := g13_0 y0 y2
theorem pn_13 : plainName "java/lang/Long" = true := by first | (simp [plainName, overriddenIn]; done) | decide +kernel
theorem ef_13 (m : MethodId) (y0 : Int64) (y2 : Int64) : entryFrame m #[(.long y0), (.long y2)] 4 = mkF m 0 #[.val (.long y0), .second, .val (.long y2), .second] [] := by first | (simp [entryFrame, mkF, argsToLocals, Value.category]; done) | rfl
set_option maxRecDepth 65536 in
set_option maxHeartbeats 4000000 in
theorem rm13 (l : Launch) (Z : State) (a0 : Array Value) (hw : ∀ d ∈ tables_1, d.before a0 Z = true) (ws : List Jvm.Cond) (y0 : Int64) (y2 : Int64) (h0 : Heap) (n0 : Nat) :
    MetFree l (⟨"java/lang/Long", "compare", "(JJ)I"⟩ : MethodName) (head1 (Jvm.Cond.code (⟨"java/lang/Long", "compare", "(JJ)I"⟩ : MethodName) jdk_35_method_42_code 4 (some .int) :: ws) ({ frames := 0, cells := 0, slots := 0, locals := 0 } : Room)) (fun a U => a = #[(.long y0), (.long y2)] ∧ Z.Warmed39 U.vm ∧ U.heap = h0) (fun _ _ _ _ _ => True) (fun _ U o U' => ∃ v L, o = .returned v ∧ QP (some (.int (f13 y0 y2))) h0 n0 v U'.heap L ∧ FrameEnd U o U' L ({ frames := 0, cells := 0, slots := 0, locals := 0 } : Room).cells ({ frames := 0, cells := 0, slots := 0, locals := 0 } : Room).slots) := by
  refine MetFree.of_bodySF (plainFor_of_name pn_13) hisR ?_
  intro p e s m args below meth c s₁ Bd hml0 hP hK
  obtain ⟨rfl, hZ, hh⟩ := hP
  have X0 : Stand p l e ({ frames := 0, cells := 0, slots := 0, locals := 0 } : Room) s m #[(.long y0), (.long y2)] below meth c s₁ [] 0 0 := Stand.of_body Bd
  have e0 : s₁.heap = h0 := by rw [← hh, Bd.state]; rfl
  have C : Ctx p s m meth c Z a0 "java/lang/Long" jdk_35_method_42_code 4 (some .int) "compare" := ⟨Bd.exec, hZ, hw, Bd.bytes, hml0, findClass_of_methodNamed Bd.named, Bd.returns, BodyLoose.notSynchronized Bd, (name_of_methodNamed Bd.named Bd.method).1⟩
  refine Runs.via (fun t k => castTop (ef_13 m y0 y2) k) (b13_0 C X0 e0 (Fr.nil n0) (Nat.le_refl 0) (Nat.le_refl 0) y0 y2)
theorem pd_6 : parseMethodDescriptor "(JJ)I" = some ⟨[.long, .long], some .int⟩ := by decide +kernel
theorem d12_0 : decode jdk_35_method_43_code 0 = .ok (.lload_n 0, 1) := by decide +kernel
theorem d12_1 : decode jdk_35_method_43_code 1 = .ok (.ldc2_w 168, 3) := by decide +kernel
theorem d12_4 : decode jdk_35_method_43_code 4 = .ok (.ladd, 1) := by decide +kernel
theorem d12_5 : decode jdk_35_method_43_code 5 = .ok (.lload_n 2, 1) := by decide +kernel
theorem d12_6 : decode jdk_35_method_43_code 6 = .ok (.ldc2_w 168, 3) := by decide +kernel
theorem d12_9 : decode jdk_35_method_43_code 9 = .ok (.ladd, 1) := by decide +kernel
theorem d12_10 : decode jdk_35_method_43_code 10 = .ok (.invokestatic 302, 3) := by decide +kernel
theorem d12_13 : decode jdk_35_method_43_code 13 = .ok (.ireturn, 1) := by decide +kernel
def g12_0 (y0 : Int64) (y2 : Int64) : Int32 := (f13 (y0 + (-9223372036854775808 : Int64)) (y2 + (-9223372036854775808 : Int64)))
set_option maxRecDepth 65536 in
set_option maxHeartbeats 4000000 in
theorem b12_0 (C : Ctx p s m meth c Z a0 "java/lang/Long" jdk_35_method_43_code 4 (some .int) "compareUnsigned") (X0 : Stand p l e ({ frames := 1, cells := 0, slots := 0, locals := 15 } : Room) s m args below meth c T0 locs cells slots) (e0 : T0.heap = h0) (N0 : Fr n0 locs) (hk : cells ≤ 0) (hn : slots ≤ 0) (y0 : Int64) (y2 : Int64) :
    Runs p e below s (QP (some (.int (g12_0 y0 y2))) h0 n0) 0 0 T0 (mkF m 0 #[.val (.long y0), .second, .val (.long y2), .second] []) := by
  have ⟨hx, hZ, hw, hby, hml, hown, hret, hlk, hnm⟩ := C
  refine Runs.via (T' := T0) (g' := (mkF m 10 #[.val (.long y0), .second, .val (.long y2), .second] [(.long (y2 + (-9223372036854775808 : Int64))), (.long (y0 + (-9223372036854775808 : Int64)))])) (fun t k => ?_) ?_
  · show Steps p.tables e below (T0.setTop (mkF m 0 #[.val (.long y0), .second, .val (.long y2), .second] [])) t
    refine XS.lloadN X0.here hx rfl (hb hby d12_0) rfl ?_
    show Steps p.tables e below (T0.setTop (mkF m 1 #[.val (.long y0), .second, .val (.long y2), .second] [(.long y0)])) t
    refine X0.ldc2Long hx hown (mvT hZ (hw _ (List.mem_of_getElem? (i := 73) rfl))) (g := (mkF m 1 #[.val (.long y0), .second, .val (.long y2), .second] [(.long y0)])) rfl (hb hby d12_1) _ ?_
    show Steps p.tables e below (T0.setTop (mkF m 4 #[.val (.long y0), .second, .val (.long y2), .second] [(.long (-9223372036854775808 : Int64)), (.long y0)])) t
    refine XS.ladd X0.here hx rfl (hb hby d12_4) rfl ?_
    show Steps p.tables e below (T0.setTop (mkF m 5 #[.val (.long y0), .second, .val (.long y2), .second] [(.long (y0 + (-9223372036854775808 : Int64)))])) t
    refine XS.lloadN X0.here hx rfl (hb hby d12_5) rfl ?_
    show Steps p.tables e below (T0.setTop (mkF m 6 #[.val (.long y0), .second, .val (.long y2), .second] [(.long y2), (.long (y0 + (-9223372036854775808 : Int64)))])) t
    refine X0.ldc2Long hx hown (mvT hZ (hw _ (List.mem_of_getElem? (i := 73) rfl))) (g := (mkF m 6 #[.val (.long y0), .second, .val (.long y2), .second] [(.long y2), (.long (y0 + (-9223372036854775808 : Int64)))])) rfl (hb hby d12_6) _ ?_
    show Steps p.tables e below (T0.setTop (mkF m 9 #[.val (.long y0), .second, .val (.long y2), .second] [(.long (-9223372036854775808 : Int64)), (.long y2), (.long (y0 + (-9223372036854775808 : Int64)))])) t
    refine XS.ladd X0.here hx rfl (hb hby d12_9) rfl ?_
    exact k
  obtain ⟨_, _, ⟨T1, L1, k1, n1⟩, -, X1, ⟨Lc1, hQ1, l1, y1, z1⟩, st1⟩ := Jvm.LawKit.callS X0 hx (y := (⟨"java/lang/Long", "compare", "(JJ)I"⟩ : MethodName)) hown (mvT hZ (hw _ (List.mem_of_getElem? (i := 74) rfl))) (mvT hZ (hw _ (List.mem_of_getElem? (i := 75) rfl))) (mvT hZ (hw _ (List.mem_of_getElem? (i := 71) rfl))) (mvT hZ (hw _ (List.mem_of_getElem? (i := 76) rfl))) (by decide) (backOf (W := 0) (rm13 l Z a0 hw [] (y0 + (-9223372036854775808 : Int64)) (y2 + (-9223372036854775808 : Int64)) h0 n0) hZ (hw _ (List.mem_of_getElem? (i := 76) rfl)) (hw _ (List.mem_of_getElem? (i := 71) rfl)) (by decide) (by decide)) (g := (mkF m 10 #[.val (.long y0), .second, .val (.long y2), .second] [(.long (y2 + (-9223372036854775808 : Int64))), (.long (y0 + (-9223372036854775808 : Int64)))])) rfl (by rw [hml]; rfl) (argsL := [(.long (y0 + (-9223372036854775808 : Int64))), (.long (y2 + (-9223372036854775808 : Int64)))]) (rest := []) (lenOf pd_6 rfl) rfl (by show 2 * 0 + _ ≤ _; exact Nat.le_of_eq rfl) (hb hby d12_10) (fun _ _ => ⟨rfl, e0, (Nat.le_trans hk (by decide)), (Nat.le_trans hn (by decide))⟩)
  dsimp only [Pt.U, Pt.locs, Pt.cells, Pt.slots] at X1 l1 y1 z1 st1 hQ1
  subst l1 y1 z1
  obtain ⟨rfl, N1q, e1⟩ := hQ1
  have N1 := Fr.app N0 N1q
  refine Runs.via (T' := T1) (g' := (mkF m 13 #[.val (.long y0), .second, .val (.long y2), .second] [(.int (f13 (y0 + (-9223372036854775808 : Int64)) (y2 + (-9223372036854775808 : Int64))))])) (fun t k => st1 _ k) ?_
  refine QP.cast (congrArg (fun z => some (Value.int z)) (rfl : (g12_0 y0 y2) = (f13 (y0 + (-9223372036854775808 : Int64)) (y2 + (-9223372036854775808 : Int64))))) ?_
  exact own_retI X1 hx hlk hret (hb hby d12_13) hk hn ⟨rfl, N1, e1⟩
def f12 (y0 : Int64) (y2 : Int64) : Int32 := g12_0 y0 y2
theorem pn_12 : plainName "java/lang/Long" = true := by first | (simp [plainName, overriddenIn]; done) | decide +kernel
theorem ef_12 (m : MethodId) (y0 : Int64) (y2 : Int64) : entryFrame m #[(.long y0), (.long y2)] 4 = mkF m 0 #[.val (.long y0), .second, .val (.long y2), .second] [] := by first | (simp [entryFrame, mkF, argsToLocals, Value.category]; done) | rfl
set_option maxRecDepth 65536 in
set_option maxHeartbeats 4000000 in
theorem rm12 (l : Launch) (Z : State) (a0 : Array Value) (hw : ∀ d ∈ tables_1, d.before a0 Z = true) (ws : List Jvm.Cond) (y0 : Int64) (y2 : Int64) (h0 : Heap) (n0 : Nat) :
    MetFree l (⟨"java/lang/Long", "compareUnsigned", "(JJ)I"⟩ : MethodName) (head1 (Jvm.Cond.code (⟨"java/lang/Long", "compareUnsigned", "(JJ)I"⟩ : MethodName) jdk_35_method_43_code 4 (some .int) :: ws) ({ frames := 1, cells := 0, slots := 0, locals := 15 } : Room)) (fun a U => a = #[(.long y0), (.long y2)] ∧ Z.Warmed39 U.vm ∧ U.heap = h0) (fun _ _ _ _ _ => True) (fun _ U o U' => ∃ v L, o = .returned v ∧ QP (some (.int (f12 y0 y2))) h0 n0 v U'.heap L ∧ FrameEnd U o U' L ({ frames := 1, cells := 0, slots := 0, locals := 15 } : Room).cells ({ frames := 1, cells := 0, slots := 0, locals := 15 } : Room).slots) := by
  refine MetFree.of_bodySF (plainFor_of_name pn_12) hisR ?_
  intro p e s m args below meth c s₁ Bd hml0 hP hK
  obtain ⟨rfl, hZ, hh⟩ := hP
  have X0 : Stand p l e ({ frames := 1, cells := 0, slots := 0, locals := 15 } : Room) s m #[(.long y0), (.long y2)] below meth c s₁ [] 0 0 := Stand.of_body Bd
  have e0 : s₁.heap = h0 := by rw [← hh, Bd.state]; rfl
  have C : Ctx p s m meth c Z a0 "java/lang/Long" jdk_35_method_43_code 4 (some .int) "compareUnsigned" := ⟨Bd.exec, hZ, hw, Bd.bytes, hml0, findClass_of_methodNamed Bd.named, Bd.returns, BodyLoose.notSynchronized Bd, (name_of_methodNamed Bd.named Bd.method).1⟩
  refine Runs.via (fun t k => castTop (ef_12 m y0 y2) k) (b12_0 C X0 e0 (Fr.nil n0) (Nat.le_refl 0) (Nat.le_refl 0) y0 y2)
theorem d11_0 : decode prog_18_method_27_code 0 = .ok (.lload_n 3, 1) := by decide +kernel
theorem d11_1 : decode prog_18_method_27_code 1 = .ok (.aload_n 0, 1) := by decide +kernel
theorem d11_2 : decode prog_18_method_27_code 2 = .ok (.getfield 29, 3) := by decide +kernel
theorem d11_5 : decode prog_18_method_27_code 5 = .ok (.aload_n 0, 1) := by decide +kernel
theorem d11_6 : decode prog_18_method_27_code 6 = .ok (.getfield 39, 3) := by decide +kernel
theorem d11_9 : decode prog_18_method_27_code 9 = .ok (.isub, 1) := by decide +kernel
theorem d11_10 : decode prog_18_method_27_code 10 = .ok (.i2l, 1) := by decide +kernel
theorem d11_11 : decode prog_18_method_27_code 11 = .ok (.invokestatic 257, 3) := by decide +kernel
theorem d11_14 : decode prog_18_method_27_code 14 = .ok (.ifCond .le 11, 3) := by decide +kernel
theorem d11_17 : decode prog_18_method_27_code 17 = .ok (.aload_n 0, 1) := by decide +kernel
theorem d11_18 : decode prog_18_method_27_code 18 = .ok (.iload_n 1, 1) := by decide +kernel
theorem d11_19 : decode prog_18_method_27_code 19 = .ok (.aload_n 2, 1) := by decide +kernel
theorem d11_20 : decode prog_18_method_27_code 20 = .ok (.lload_n 3, 1) := by decide +kernel
theorem d11_21 : decode prog_18_method_27_code 21 = .ok (.invokevirtual 261, 3) := by decide +kernel
theorem d11_24 : decode prog_18_method_27_code 24 = .ok (.athrow, 1) := by decide +kernel
theorem d11_25 : decode prog_18_method_27_code 25 = .ok (.return_, 1) := by decide +kernel
def P11 (Z : State) (hE : Heap) (a1 : Addr) (a2 : Addr) (q_a1 : List Int32) (q_a2_packedOuterLimit : Int32) (q_a2_limit : Int32) (q_a2_maxDepth : Int32) (q_a2_position : Int32) (n0 : Nat) (r : Unit) (v : Option Value) (h : Heap) (L : List Loc) : Prop := v = none ∧ Fr n0 L ∧ h = hE
def g11_0 (x1 : Int32) (y3 : Int64) (q_a1 : List Int32) (q_a2_packedOuterLimit : Int32) (q_a2_limit : Int32) (q_a2_maxDepth : Int32) (q_a2_position : Int32) : Option (Unit) := (if (0 : Int32) < (f12 y3 (Int32.toInt64 (q_a2_limit - q_a2_position))) then none else some ())
set_option maxRecDepth 65536 in
set_option maxHeartbeats 4000000 in
theorem b11_0 {hE : Heap} {a1 : Addr} {a2 : Addr} {z0 : Addr} {q_a1 : List Int32} {q_a2_packedOuterLimit : Int32} {q_a2_limit : Int32} {q_a2_maxDepth : Int32} {q_a2_position : Int32} {r : Unit} (C : Ctx p s m meth c Z a0 "com/example/wirelace/wirelace/codec/WireReader" prog_18_method_27_code 5 none "requireRemaining") (X0 : Stand p l e ({ frames := 2, cells := 0, slots := 0, locals := 30 } : Room) s m args below meth c T0 locs cells slots) (e0 : T0.heap = hE) (N0 : Fr n0 locs) (hk : cells ≤ 0) (hn : slots ≤ 0) (Z1 : n0 ≤ hE.size) (o0 : n0 ≤ a1) (o1 : @LT.lt Nat instLTNat a1 a2) (x1 : Int32) (y3 : Int64) (A_a1_0 : AI Z hE a1 .byte q_a1) (E_a2_0 : Exa Z hE a2 "com/example/wirelace/wirelace/codec/WireReader") (F_a2_packedOuterLimit_0 : Fld Z hE a2 "com/example/wirelace/wirelace/codec/WireReader" "packedOuterLimit" "I" (.int q_a2_packedOuterLimit)) (F_a2_message_0 : Fld Z hE a2 "com/example/wirelace/wirelace/codec/WireReader" "message" "[B" (.ref a1)) (F_a2_limit_0 : Fld Z hE a2 "com/example/wirelace/wirelace/codec/WireReader" "limit" "I" (.int q_a2_limit)) (F_a2_maxDepth_0 : Fld Z hE a2 "com/example/wirelace/wirelace/codec/WireReader" "maxDepth" "I" (.int q_a2_maxDepth)) (F_a2_position_0 : Fld Z hE a2 "com/example/wirelace/wirelace/codec/WireReader" "position" "I" (.int q_a2_position)) (hr : g11_0 x1 y3 q_a1 q_a2_packedOuterLimit q_a2_limit q_a2_maxDepth q_a2_position = some r) :
    Runs p e below s (P11 Z hE a1 a2 q_a1 q_a2_packedOuterLimit q_a2_limit q_a2_maxDepth q_a2_position n0 r) 0 0 T0 (mkF m 0 #[.val (.ref a2), .val (.int x1), .val (.ref z0), .val (.long y3), .second] []) := by
  unfold g11_0 at hr
  have ⟨hx, hZ, hw, hby, hml, hown, hret, hlk, hnm⟩ := C
  refine Runs.via (T' := T0) (g' := (mkF m 2 #[.val (.ref a2), .val (.int x1), .val (.ref z0), .val (.long y3), .second] [(.ref a2), (.long y3)])) (fun t k => ?_) ?_
  · show Steps p.tables e below (T0.setTop (mkF m 0 #[.val (.ref a2), .val (.int x1), .val (.ref z0), .val (.long y3), .second] [])) t
    refine XS.lloadN X0.here hx rfl (hb hby d11_0) rfl ?_
    show Steps p.tables e below (T0.setTop (mkF m 1 #[.val (.ref a2), .val (.int x1), .val (.ref z0), .val (.long y3), .second] [(.long y3)])) t
    refine XS.aloadN X0.here hx rfl (hb hby d11_1) rfl rfl ?_
    exact k
  obtain ⟨T1, X1, e1, st1⟩ := getF X0 hx hZ hown (host := "") (Or.inl (hw _ (List.mem_of_getElem? (i := 31) rfl))) Via.refl e0 F_a2_limit_0 (g := (mkF m 2 #[.val (.ref a2), .val (.int x1), .val (.ref z0), .val (.long y3), .second] [(.ref a2), (.long y3)])) rfl rfl (hb hby d11_2)
  refine Runs.via (T' := T1) (g' := (mkF m 5 #[.val (.ref a2), .val (.int x1), .val (.ref z0), .val (.long y3), .second] [(.int q_a2_limit), (.long y3)])) (fun t k => st1 _ k) ?_
  refine Runs.via (T' := T1) (g' := (mkF m 6 #[.val (.ref a2), .val (.int x1), .val (.ref z0), .val (.long y3), .second] [(.ref a2), (.int q_a2_limit), (.long y3)])) (fun t k => ?_) ?_
  · show Steps p.tables e below (T1.setTop (mkF m 5 #[.val (.ref a2), .val (.int x1), .val (.ref z0), .val (.long y3), .second] [(.int q_a2_limit), (.long y3)])) t
    refine XS.aloadN X1.here hx rfl (hb hby d11_5) rfl rfl ?_
    exact k
  obtain ⟨T2, X2, e2, st2⟩ := getF X1 hx hZ hown (host := "") (Or.inl (hw _ (List.mem_of_getElem? (i := 47) rfl))) Via.refl e1 F_a2_position_0 (g := (mkF m 6 #[.val (.ref a2), .val (.int x1), .val (.ref z0), .val (.long y3), .second] [(.ref a2), (.int q_a2_limit), (.long y3)])) rfl rfl (hb hby d11_6)
  refine Runs.via (T' := T2) (g' := (mkF m 9 #[.val (.ref a2), .val (.int x1), .val (.ref z0), .val (.long y3), .second] [(.int q_a2_position), (.int q_a2_limit), (.long y3)])) (fun t k => st2 _ k) ?_
  refine Runs.via (T' := T2) (g' := (mkF m 11 #[.val (.ref a2), .val (.int x1), .val (.ref z0), .val (.long y3), .second] [(.long (Int32.toInt64 (q_a2_limit - q_a2_position))), (.long y3)])) (fun t k => ?_) ?_
  · show Steps p.tables e below (T2.setTop (mkF m 9 #[.val (.ref a2), .val (.int x1), .val (.ref z0), .val (.long y3), .second] [(.int q_a2_position), (.int q_a2_limit), (.long y3)])) t
    refine XS.isub X2.here hx rfl (hb hby d11_9) rfl ?_
    show Steps p.tables e below (T2.setTop (mkF m 10 #[.val (.ref a2), .val (.int x1), .val (.ref z0), .val (.long y3), .second] [(.int (q_a2_limit - q_a2_position)), (.long y3)])) t
    refine XS.i2l X2.here hx rfl (hb hby d11_10) rfl ?_
    exact k
  obtain ⟨_, _, ⟨T3, L3, k3, n3⟩, -, X3, ⟨Lc3, hQ3, l3, y3, z3⟩, st3⟩ := Jvm.LawKit.callS X2 hx (y := (⟨"java/lang/Long", "compareUnsigned", "(JJ)I"⟩ : MethodName)) hown (mvT hZ (hw _ (List.mem_of_getElem? (i := 69) rfl))) (mvT hZ (hw _ (List.mem_of_getElem? (i := 70) rfl))) (mvT hZ (hw _ (List.mem_of_getElem? (i := 71) rfl))) (mvT hZ (hw _ (List.mem_of_getElem? (i := 72) rfl))) (by decide) (backOf (W := 0) (rm12 l Z a0 hw [] y3 (Int32.toInt64 (q_a2_limit - q_a2_position)) hE n0) hZ (hw _ (List.mem_of_getElem? (i := 72) rfl)) (hw _ (List.mem_of_getElem? (i := 71) rfl)) (by decide) (by decide)) (g := (mkF m 11 #[.val (.ref a2), .val (.int x1), .val (.ref z0), .val (.long y3), .second] [(.long (Int32.toInt64 (q_a2_limit - q_a2_position))), (.long y3)])) rfl (by rw [hml]; rfl) (argsL := [(.long y3), (.long (Int32.toInt64 (q_a2_limit - q_a2_position)))]) (rest := []) (lenOf pd_6 rfl) rfl (by show 2 * 0 + _ ≤ _; exact Nat.le_of_eq rfl) (hb hby d11_11) (fun _ _ => ⟨rfl, e2, (by show cells + 0 ≤ 0; omega), (by show slots + 0 ≤ 0; omega)⟩)
  dsimp only [Pt.U, Pt.locs, Pt.cells, Pt.slots] at X3 l3 y3 z3 st3 hQ3
  replace y3 := y3.symm; replace z3 := z3.symm; subst l3 y3 z3
  obtain ⟨rfl, N3q, e3⟩ := hQ3
  have N3 := Fr.app N0 N3q
  refine Runs.via (T' := T3) (g' := (mkF m 14 #[.val (.ref a2), .val (.int x1), .val (.ref z0), .val (.long y3), .second] [(.int (f12 y3 (Int32.toInt64 (q_a2_limit - q_a2_position))))])) (fun t k => st3 _ k) ?_
  refine iteE hr (fun hc4 hr => ?_) (fun hc4 hr => ?_)
  · refine Runs.via (T' := T3) (g' := (mkF m 17 #[.val (.ref a2), .val (.int x1), .val (.ref z0), .val (.long y3), .second] [])) (fun t k => ?_) ?_
    · show Steps p.tables e below (T3.setTop (mkF m 14 #[.val (.ref a2), .val (.int x1), .val (.ref z0), .val (.long y3), .second] [(.int (f12 y3 (Int32.toInt64 (q_a2_limit - q_a2_position))))])) t
      exact XS.ifNo X3.here hx rfl (hb hby d11_14) rfl ((if0 _ _).trans (tlt hc4).2.2.2) k
    refine Runs.via (T' := T3) (g' := (mkF m 21 #[.val (.ref a2), .val (.int x1), .val (.ref z0), .val (.long y3), .second] [(.long y3), (.ref z0), (.int x1), (.ref a2)])) (fun t k => ?_) ?_
    · show Steps p.tables e below (T3.setTop (mkF m 17 #[.val (.ref a2), .val (.int x1), .val (.ref z0), .val (.long y3), .second] [])) t
      refine XS.aloadN X3.here hx rfl (hb hby d11_17) rfl rfl ?_
      show Steps p.tables e below (T3.setTop (mkF m 18 #[.val (.ref a2), .val (.int x1), .val (.ref z0), .val (.long y3), .second] [(.ref a2)])) t
      refine XS.iloadN X3.here hx rfl (hb hby d11_18) rfl ?_
      show Steps p.tables e below (T3.setTop (mkF m 19 #[.val (.ref a2), .val (.int x1), .val (.ref z0), .val (.long y3), .second] [(.int x1), (.ref a2)])) t
      refine XS.aloadN X3.here hx rfl (hb hby d11_19) rfl rfl ?_
      show Steps p.tables e below (T3.setTop (mkF m 20 #[.val (.ref a2), .val (.int x1), .val (.ref z0), .val (.long y3), .second] [(.ref z0), (.int x1), (.ref a2)])) t
      refine XS.lloadN X3.here hx rfl (hb hby d11_20) rfl ?_
      exact k
    exact nomatch hr
  · refine Runs.via (T' := T3) (g' := (mkF m 25 #[.val (.ref a2), .val (.int x1), .val (.ref z0), .val (.long y3), .second] [])) (fun t k => ?_) ?_
    · show Steps p.tables e below (T3.setTop (mkF m 14 #[.val (.ref a2), .val (.int x1), .val (.ref z0), .val (.long y3), .second] [(.int (f12 y3 (Int32.toInt64 (q_a2_limit - q_a2_position))))])) t
      exact XS.ifYes X3.here hx rfl (pc0 := 14) (pc' := 25) rfl (hb hby d11_14) rfl ((if0 _ _).trans (flt hc4).2.2.2) (by decide) (by decide) k
    obtain rfl := Option.some.inj hr
    exact own_retV X3 hx hlk hret (hb hby d11_25) (by show (cells + 0) ≤ 0; omega) (by show (slots + 0) ≤ 0; omega) ⟨rfl, N3, e3⟩
def f11 (x1 : Int32) (y3 : Int64) (q_a1 : List Int32) (q_a2_packedOuterLimit : Int32) (q_a2_limit : Int32) (q_a2_maxDepth : Int32) (q_a2_position : Int32) : Option (Unit) := g11_0 x1 y3 q_a1 q_a2_packedOuterLimit q_a2_limit q_a2_maxDepth q_a2_position
theorem pn_11 : plainName "com/example/wirelace/wirelace/codec/WireReader" = true := by first | (simp [plainName, overriddenIn]; done) | decide +kernel
theorem ef_11 (m : MethodId) (x1 : Int32) (y3 : Int64) (a1 : Addr) (a2 : Addr) (z0 : Addr) : entryFrame m #[(.ref a2), (.int x1), (.ref z0), (.long y3)] 5 = mkF m 0 #[.val (.ref a2), .val (.int x1), .val (.ref z0), .val (.long y3), .second] [] := by first | (simp [entryFrame, mkF, argsToLocals, Value.category]; done) | rfl
set_option maxRecDepth 65536 in
set_option maxHeartbeats 4000000 in
theorem rm11 (l : Launch) (Z : State) (a0 : Array Value) (hw : ∀ d ∈ tables_1, d.before a0 Z = true) (ws : List Jvm.Cond) (x1 : Int32) (y3 : Int64) (a1 : Addr) (a2 : Addr) (z0 : Addr) (q_a1 : List Int32) (q_a2_packedOuterLimit : Int32) (q_a2_limit : Int32) (q_a2_maxDepth : Int32) (q_a2_position : Int32) (hE : Heap) (n0 : Nat) (Z0 : n0 ≤ hE.size) (o0 : n0 ≤ a1) (o1 : @LT.lt Nat instLTNat a1 a2) (A_a1_0 : AI Z hE a1 .byte q_a1) (E_a2_0 : Exa Z hE a2 "com/example/wirelace/wirelace/codec/WireReader") (F_a2_packedOuterLimit_0 : Fld Z hE a2 "com/example/wirelace/wirelace/codec/WireReader" "packedOuterLimit" "I" (.int q_a2_packedOuterLimit)) (F_a2_message_0 : Fld Z hE a2 "com/example/wirelace/wirelace/codec/WireReader" "message" "[B" (.ref a1)) (F_a2_limit_0 : Fld Z hE a2 "com/example/wirelace/wirelace/codec/WireReader" "limit" "I" (.int q_a2_limit)) (F_a2_maxDepth_0 : Fld Z hE a2 "com/example/wirelace/wirelace/codec/WireReader" "maxDepth" "I" (.int q_a2_maxDepth)) (F_a2_position_0 : Fld Z hE a2 "com/example/wirelace/wirelace/codec/WireReader" "position" "I" (.int q_a2_position)) (r : Unit) (hr : f11 x1 y3 q_a1 q_a2_packedOuterLimit q_a2_limit q_a2_maxDepth q_a2_position = some r) :
    MetFree l (⟨"com/example/wirelace/wirelace/codec/WireReader", "requireRemaining", "(ILjava/lang/String;J)V"⟩ : MethodName) (head1 (Jvm.Cond.code (⟨"com/example/wirelace/wirelace/codec/WireReader", "requireRemaining", "(ILjava/lang/String;J)V"⟩ : MethodName) prog_18_method_27_code 5 none :: ws) ({ frames := 2, cells := 0, slots := 0, locals := 30 } : Room)) (fun a U => a = #[(.ref a2), (.int x1), (.ref z0), (.long y3)] ∧ Z.Warmed39 U.vm ∧ U.heap = hE) (fun _ _ _ _ _ => True) (fun _ U o U' => ∃ v L, o = .returned v ∧ (P11 Z hE a1 a2 q_a1 q_a2_packedOuterLimit q_a2_limit q_a2_maxDepth q_a2_position n0 r v U'.heap L) ∧ FrameEnd U o U' L ({ frames := 2, cells := 0, slots := 0, locals := 30 } : Room).cells ({ frames := 2, cells := 0, slots := 0, locals := 30 } : Room).slots) := by
  refine MetFree.of_bodySF (plainFor_of_name pn_11) hisR ?_
  intro p e s m args below meth c s₁ Bd hml0 hP hK
  obtain ⟨rfl, hZ, hh⟩ := hP
  have X0 : Stand p l e ({ frames := 2, cells := 0, slots := 0, locals := 30 } : Room) s m #[(.ref a2), (.int x1), (.ref z0), (.long y3)] below meth c s₁ [] 0 0 := Stand.of_body Bd
  have e0 : s₁.heap = hE := by rw [← hh, Bd.state]; rfl
  have C : Ctx p s m meth c Z a0 "com/example/wirelace/wirelace/codec/WireReader" prog_18_method_27_code 5 none "requireRemaining" := ⟨Bd.exec, hZ, hw, Bd.bytes, hml0, findClass_of_methodNamed Bd.named, Bd.returns, BodyLoose.notSynchronized Bd, (name_of_methodNamed Bd.named Bd.method).1⟩
  refine Runs.via (fun t k => castTop (ef_11 m x1 y3 a1 a2 z0) k) (b11_0 C X0 e0 (Fr.nil n0) (by show 0 ≤ 0; omega) (by show 0 ≤ 0; omega) Z0 (by omega) (by omega) x1 y3 A_a1_0 E_a2_0 F_a2_packedOuterLimit_0 F_a2_message_0 F_a2_limit_0 F_a2_maxDepth_0 F_a2_position_0 hr)
theorem pd_7 : parseMethodDescriptor "(ILjava/lang/String;J)V" = some ⟨[.int, (.object "java/lang/String"), .long], none⟩ := by decide +kernel
theorem d10_0 : decode prog_18_method_24_code 0 = .ok (.aload_n 0, 1) := by decide +kernel
theorem d10_1 : decode prog_18_method_24_code 1 = .ok (.getfield 39, 3) := by decide +kernel
theorem d10_4 : decode prog_18_method_24_code 4 = .ok (.istore_n 1, 1) := by decide +kernel
theorem d10_5 : decode prog_18_method_24_code 5 = .ok (.aload_n 0, 1) := by decide +kernel
theorem d10_6 : decode prog_18_method_24_code 6 = .ok (.invokevirtual 64, 3) := by decide +kernel
theorem d10_9 : decode prog_18_method_24_code 9 = .ok (.lstore_n 2, 1) := by decide +kernel
theorem d10_10 : decode prog_18_method_24_code 10 = .ok (.aload_n 0, 1) := by decide +kernel
theorem d10_11 : decode prog_18_method_24_code 11 = .ok (.iload_n 1, 1) := by decide +kernel
theorem d10_12 : decode prog_18_method_24_code 12 = .ok (.ldc 236, 2) := by decide +kernel
theorem d10_14 : decode prog_18_method_24_code 14 = .ok (.lload_n 2, 1) := by decide +kernel
theorem d10_15 : decode prog_18_method_24_code 15 = .ok (.invokevirtual 118, 3) := by decide +kernel
theorem d10_18 : decode prog_18_method_24_code 18 = .ok (.aload_n 0, 1) := by decide +kernel
theorem d10_19 : decode prog_18_method_24_code 19 = .ok (.getfield 39, 3) := by decide +kernel
theorem d10_22 : decode prog_18_method_24_code 22 = .ok (.istore 4, 2) := by decide +kernel
theorem d10_24 : decode prog_18_method_24_code 24 = .ok (.aload_n 0, 1) := by decide +kernel
theorem d10_25 : decode prog_18_method_24_code 25 = .ok (.dup, 1) := by decide +kernel
theorem d10_26 : decode prog_18_method_24_code 26 = .ok (.getfield 39, 3) := by decide +kernel
theorem d10_29 : decode prog_18_method_24_code 29 = .ok (.lload_n 2, 1) := by decide +kernel
theorem d10_30 : decode prog_18_method_24_code 30 = .ok (.l2i, 1) := by decide +kernel
theorem d10_31 : decode prog_18_method_24_code 31 = .ok (.iadd, 1) := by decide +kernel
theorem d10_32 : decode prog_18_method_24_code 32 = .ok (.putfield 39, 3) := by decide +kernel
theorem d10_35 : decode prog_18_method_24_code 35 = .ok (.iload 4, 2) := by decide +kernel
theorem d10_37 : decode prog_18_method_24_code 37 = .ok (.ireturn, 1) := by decide +kernel
def P10 (Z : State) (hE : Heap) (a1 : Addr) (a2 : Addr) (q_a1 : List Int32) (q_a2_packedOuterLimit : Int32) (q_a2_limit : Int32) (q_a2_maxDepth : Int32) (q_a2_position : Int32) (n0 : Nat) (r : Int32 × Int32) (v : Option Value) (h : Heap) (L : List Loc) : Prop := v = some (.int r.1) ∧ Fr n0 L ∧ Keep hE h [a2] ∧ Exa Z h a2 "com/example/wirelace/wirelace/codec/WireReader" ∧ Fld Z h a2 "com/example/wirelace/wirelace/codec/WireReader" "packedOuterLimit" "I" (.int q_a2_packedOuterLimit) ∧ Fld Z h a2 "com/example/wirelace/wirelace/codec/WireReader" "message" "[B" (.ref a1) ∧ Fld Z h a2 "com/example/wirelace/wirelace/codec/WireReader" "limit" "I" (.int q_a2_limit) ∧ Fld Z h a2 "com/example/wirelace/wirelace/codec/WireReader" "maxDepth" "I" (.int q_a2_maxDepth) ∧ Fld Z h a2 "com/example/wirelace/wirelace/codec/WireReader" "position" "I" (.int r.2)
def g10_0 (q_a1 : List Int32) (q_a2_packedOuterLimit : Int32) (q_a2_limit : Int32) (q_a2_maxDepth : Int32) (q_a2_position : Int32) : Option (Int32 × Int32) := ((f7 q_a1 q_a2_packedOuterLimit q_a2_limit q_a2_maxDepth q_a2_position).bind fun r2 => ((f11 q_a2_position r2.1 q_a1 q_a2_packedOuterLimit q_a2_limit q_a2_maxDepth r2.2).bind fun r4 => (letO (r2.2 + (Int64.toInt32 r2.1)) fun v7 => some (r2.2, v7))))
set_option maxRecDepth 65536 in
set_option maxHeartbeats 4000000 in
theorem b10_0 {hE : Heap} {vm0 : Vm} {k0 : Nat} {a1 : Addr} {a2 : Addr} {q_a1 : List Int32} {q_a2_packedOuterLimit : Int32} {q_a2_limit : Int32} {q_a2_maxDepth : Int32} {q_a2_position₀ : Int32} {r : Int32 × Int32} (C : Ctx p (s.setVm vm0) m meth c Z a0 "com/example/wirelace/wirelace/codec/WireReader" prog_18_method_24_code 5 (some .int) "skipPayload") (X0 : Stand p l e ({ frames := 3, cells := 2, slots := 36, locals := 46 } : Room) (s.setVm vm0) m args below meth c T0 locs cells slots) (e0 : T0.heap = h0) (N0 : Fr n0 locs) (hk : cells ≤ 0) (hn : slots ≤ 0) (Z1 : n0 ≤ h0.size) (hS0 : s.Since vm0 k0) (hk0 : k0 ≤ h0.size) (KE : Keep hE h0 [a2]) (o0 : n0 ≤ a1) (o1 : @LT.lt Nat instLTNat a1 a2) (q_a2_position : Int32) (A_a1_0 : AI Z h0 a1 .byte q_a1) (E_a2_0 : Exa Z h0 a2 "com/example/wirelace/wirelace/codec/WireReader") (F_a2_packedOuterLimit_0 : Fld Z h0 a2 "com/example/wirelace/wirelace/codec/WireReader" "packedOuterLimit" "I" (.int q_a2_packedOuterLimit)) (F_a2_message_0 : Fld Z h0 a2 "com/example/wirelace/wirelace/codec/WireReader" "message" "[B" (.ref a1)) (F_a2_limit_0 : Fld Z h0 a2 "com/example/wirelace/wirelace/codec/WireReader" "limit" "I" (.int q_a2_limit)) (F_a2_maxDepth_0 : Fld Z h0 a2 "com/example/wirelace/wirelace/codec/WireReader" "maxDepth" "I" (.int q_a2_maxDepth)) (F_a2_position_0 : Fld Z h0 a2 "com/example/wirelace/wirelace/codec/WireReader" "position" "I" (.int q_a2_position)) (hr : g10_0 q_a1 q_a2_packedOuterLimit q_a2_limit q_a2_maxDepth q_a2_position = some r) :
    RunsW p e below s (P10 Z hE a1 a2 q_a1 q_a2_packedOuterLimit q_a2_limit q_a2_maxDepth q_a2_position₀ n0 r) 2 36 T0 (mkF m 0 #[.val (.ref a2), .unset, .unset, .unset, .unset] []) := by
  unfold g10_0 at hr
  have ⟨hx, hZ, hw, hby, hml, hown, hret, hlk, hnm⟩ := C
  refine RunsW.via (T' := T0) (g' := (mkF m 1 #[.val (.ref a2), .unset, .unset, .unset, .unset] [(.ref a2)])) (fun t k => ?_) ?_
  · show Steps p.tables e below (T0.setTop (mkF m 0 #[.val (.ref a2), .unset, .unset, .unset, .unset] [])) t
    refine XS.aloadN X0.here hx rfl (hb hby d10_0) rfl rfl ?_
    exact k
  obtain ⟨T1, X1, e1, st1⟩ := getF X0 hx hZ hown (host := "") (Or.inl (hw _ (List.mem_of_getElem? (i := 47) rfl))) Via.refl e0 F_a2_position_0 (g := (mkF m 1 #[.val (.ref a2), .unset, .unset, .unset, .unset] [(.ref a2)])) rfl rfl (hb hby d10_1)
  refine RunsW.via (T' := T1) (g' := (mkF m 4 #[.val (.ref a2), .unset, .unset, .unset, .unset] [(.int q_a2_position)])) (fun t k => st1 _ k) ?_
  refine RunsW.via (T' := T1) (g' := (mkF m 6 #[.val (.ref a2), .val (.int q_a2_position), .unset, .unset, .unset] [(.ref a2)])) (fun t k => ?_) ?_
  · show Steps p.tables e below (T1.setTop (mkF m 4 #[.val (.ref a2), .unset, .unset, .unset, .unset] [(.int q_a2_position)])) t
    refine XS.istoreN X1.here hx rfl (hb hby d10_4) rfl (l' := #[.val (.ref a2), .val (.int q_a2_position), .unset, .unset, .unset]) rfl ?_
    show Steps p.tables e below (T1.setTop (mkF m 5 #[.val (.ref a2), .val (.int q_a2_position), .unset, .unset, .unset] [])) t
    refine XS.aloadN X1.here hx rfl (hb hby d10_5) rfl rfl ?_
    exact k
  refine bindE hr ?_; intro r2 hr2m hr
  obtain ⟨cq2, kq2, q2a, q2b, q2c⟩ := isOf hZ e1 E_a2_0
  obtain ⟨_, _, ⟨T2, L2, k2, n2⟩, -, X2, ⟨Lc2, hQ2, l2, y2, z2⟩, st2⟩ := X1.virtualBack hx (y := (⟨"com/example/wirelace/wirelace/codec/WireReader", "readVarint", "()J"⟩ : MethodName)) (z := (⟨"com/example/wirelace/wirelace/codec/WireReader", "readVarint", "()J"⟩ : MethodName)) hown (mvT hZ (hw _ (List.mem_of_getElem? (i := 63) rfl))) (mvT hZ (hw _ (List.mem_of_getElem? (i := 43) rfl))) (notFace_of_selects (args := #[]) (mvT hZ (hw _ (List.mem_of_getElem? (i := 45) rfl)))) (mvT hZ (hw _ (List.mem_of_getElem? (i := 45) rfl))) (mvT hZ (hw _ (List.mem_of_getElem? (i := 44) rfl))) (by decide) (backOf (W := 0) (rm7 l Z a0 hw [] a1 a2 q_a1 q_a2_packedOuterLimit q_a2_limit q_a2_maxDepth q_a2_position h0 n0 Z1 (by omega) (by omega) A_a1_0 E_a2_0 F_a2_packedOuterLimit_0 F_a2_message_0 F_a2_limit_0 F_a2_maxDepth_0 F_a2_position_0 r2 hr2m) hZ (hw _ (List.mem_of_getElem? (i := 46) rfl)) (hw _ (List.mem_of_getElem? (i := 4) rfl)) (by decide) (by decide)) q2a q2c (g := (mkF m 6 #[.val (.ref a2), .val (.int q_a2_position), .unset, .unset, .unset] [(.ref a2)])) rfl (by rw [hml]; rfl) (Steps.refl _) (argsL := []) (rest := []) (lenOf pd_4 rfl) rfl (by show 2 * 0 + _ ≤ _; exact Nat.le_of_eq rfl) (hb hby d10_6) (fun _ _ => ⟨rfl, e1, (by show cells + 0 ≤ 2; omega), (by show slots + 0 ≤ 36; omega)⟩)
  dsimp only [Pt.U, Pt.locs, Pt.cells, Pt.slots] at X2 l2 y2 z2 st2 hQ2
  replace y2 := y2.symm; replace z2 := z2.symm; subst l2 y2 z2
  obtain ⟨h2, e2⟩ : ∃ z, T2.heap = z := ⟨_, rfl⟩
  rw [e2] at hQ2
  obtain ⟨rfl, N2q, K2q, E_a2_2, F_a2_packedOuterLimit_2, F_a2_message_2, F_a2_limit_2, F_a2_maxDepth_2, F_a2_position_2⟩ := hQ2
  have N2 := Fr.app N0 N2q
  have A_a1_2 := A_a1_0.keep K2q (ninS (by omega : @Ne Nat a1 a2) nin0)
  have K2 := KE.trans K2q (allS (Or.inl (List.mem_of_getElem? (i := 0) rfl)) all0)
  have zz2 : n0 ≤ h2.size := Nat.le_trans Z1 K2q.1
  have kk2 := Nat.le_trans hk0 K2q.1
  refine RunsW.via (T' := T2) (g' := (mkF m 9 #[.val (.ref a2), .val (.int q_a2_position), .unset, .unset, .unset] [(.long r2.1)])) (fun t k => st2.trans k) ?_
  refine RunsW.via (T' := T2) (g' := (mkF m 12 #[.val (.ref a2), .val (.int q_a2_position), .val (.long r2.1), .second, .unset] [(.int q_a2_position), (.ref a2)])) (fun t k => ?_) ?_
  · show Steps p.tables e below (T2.setTop (mkF m 9 #[.val (.ref a2), .val (.int q_a2_position), .unset, .unset, .unset] [(.long r2.1)])) t
    refine XS.lstoreN X2.here hx rfl (hb hby d10_9) rfl (l' := #[.val (.ref a2), .val (.int q_a2_position), .val (.long r2.1), .second, .unset]) rfl ?_
    show Steps p.tables e below (T2.setTop (mkF m 10 #[.val (.ref a2), .val (.int q_a2_position), .val (.long r2.1), .second, .unset] [])) t
    refine XS.aloadN X2.here hx rfl (hb hby d10_10) rfl rfl ?_
    show Steps p.tables e below (T2.setTop (mkF m 11 #[.val (.ref a2), .val (.int q_a2_position), .val (.long r2.1), .second, .unset] [(.ref a2)])) t
    refine XS.iloadN X2.here hx rfl (hb hby d10_11) rfl ?_
    exact k
  obtain ⟨zs12, T3, h3, ks3, X3, e3, E3, hS3, kk3, hZ, hown, st3⟩ := ldcS X2 hx hZ hown (hw _ (List.mem_of_getElem? (i := 64) rfl)) (fun d hd => hw d ((by decide +kernel : ∀ d ∈ Bundle.stringAtoms, d ∈ tables_1) d hd)) e2 hS0 kk2 (g := (mkF m 12 #[.val (.ref a2), .val (.int q_a2_position), .val (.long r2.1), .second, .unset] [(.int q_a2_position), (.ref a2)])) rfl (hb hby d10_12) (n := 32) (by decide) (by decide) (by show (cells + 0) + 2 ≤ 2; omega) (by show (slots + 0) + 36 ≤ 36; omega)
  have i3 := E3.1
  have A_a1_3 := A_a1_2.ext E3
  have E_a2_3 := E_a2_2.ext E3
  have F_a2_packedOuterLimit_3 := F_a2_packedOuterLimit_2.ext E3
  have F_a2_message_3 := F_a2_message_2.ext E3
  have F_a2_limit_3 := F_a2_limit_2.ext E3
  have F_a2_maxDepth_3 := F_a2_maxDepth_2.ext E3
  have F_a2_position_3 := F_a2_position_2.ext E3
  have K3 := K2.ext E3
  have zz3 : n0 ≤ h3.size := Nat.le_trans zz2 i3
  have C : Ctx p (s.setVm T3.vm) m meth c Z a0 "com/example/wirelace/wirelace/codec/WireReader" prog_18_method_24_code 5 (some .int) "skipPayload" := ⟨hx, hZ, hw, hby, hml, hown, hret, hlk, hnm⟩
  refine RunsW.via (T' := T3) (g' := (mkF m 14 #[.val (.ref a2), .val (.int q_a2_position), .val (.long r2.1), .second, .unset] [(.ref zs12), (.int q_a2_position), (.ref a2)])) (fun t k => st3 _ k) ?_
  refine RunsW.via (T' := T3) (g' := (mkF m 15 #[.val (.ref a2), .val (.int q_a2_position), .val (.long r2.1), .second, .unset] [(.long r2.1), (.ref zs12), (.int q_a2_position), (.ref a2)])) (fun t k => ?_) ?_
  · show Steps p.tables e below (T3.setTop (mkF m 14 #[.val (.ref a2), .val (.int q_a2_position), .val (.long r2.1), .second, .unset] [(.ref zs12), (.int q_a2_position), (.ref a2)])) t
    refine XS.lloadN X3.here hx rfl (hb hby d10_14) rfl ?_
    exact k
  refine bindE hr ?_; intro r4 hr4m hr
  obtain ⟨cq4, q4, q4'⟩ := E_a2_3.cell
  obtain ⟨_, _, ⟨T4, L4, k4, n4⟩, -, X4, ⟨Lc4, hQ4, l4, y4, z4⟩, st4⟩ := X3.privateBack hx (y := (⟨"com/example/wirelace/wirelace/codec/WireReader", "requireRemaining", "(ILjava/lang/String;J)V"⟩ : MethodName)) hown (mvT hZ (hw _ (List.mem_of_getElem? (i := 65) rfl))) (mvT hZ (hw _ (List.mem_of_getElem? (i := 66) rfl))) (own_privSel (mvT hZ (hw _ (List.mem_of_getElem? (i := 3) rfl))) (mvP hZ (hw _ (List.mem_of_getElem? (i := 67) rfl))) (mvT hZ (hw _ (List.mem_of_getElem? (i := 66) rfl))) (by decide)) (Cond.privateMethod_at (mvP hZ (hw _ (List.mem_of_getElem? (i := 67) rfl)) (args := #[]))) (mvT hZ (hw _ (List.mem_of_getElem? (i := 68) rfl))) (by decide) (backOf (W := 0) (rm11 l Z a0 hw [] q_a2_position r2.1 a1 a2 zs12 q_a1 q_a2_packedOuterLimit q_a2_limit q_a2_maxDepth r2.2 h3 n0 zz3 (by omega) (by omega) A_a1_3 E_a2_3 F_a2_packedOuterLimit_3 F_a2_message_3 F_a2_limit_3 F_a2_maxDepth_3 F_a2_position_3 r4 hr4m) hZ (hw _ (List.mem_of_getElem? (i := 68) rfl)) (hw _ (List.mem_of_getElem? (i := 4) rfl)) (by decide) (by decide)) (g := (mkF m 15 #[.val (.ref a2), .val (.int q_a2_position), .val (.long r2.1), .second, .unset] [(.long r2.1), (.ref zs12), (.int q_a2_position), (.ref a2)])) rfl (by rw [hml]; rfl) (Steps.refl _) (a := a2) (by rw [e3]; exact q4) q4' (argsL := [(.int q_a2_position), (.ref zs12), (.long r2.1)]) (rest := []) (lenOf pd_7 rfl) rfl (by show 2 * 0 + _ ≤ _; exact Nat.le_of_eq rfl) (hb hby d10_15) (fun _ _ => ⟨rfl, e3, (by show ((cells + 0) + 2) + 0 ≤ 2; omega), (by show ((slots + 0) + 36) + 0 ≤ 36; omega)⟩)
  dsimp only [Pt.U, Pt.locs, Pt.cells, Pt.slots] at X4 l4 y4 z4 st4 hQ4
  replace y4 := y4.symm; replace z4 := z4.symm; subst l4 y4 z4
  obtain ⟨rfl, N4q, e4⟩ := hQ4
  have N4 := Fr.app N2 N4q
  refine RunsW.via (T' := T4) (g' := (mkF m 18 #[.val (.ref a2), .val (.int q_a2_position), .val (.long r2.1), .second, .unset] [])) (fun t k => st4.trans k) ?_
  refine RunsW.via (T' := T4) (g' := (mkF m 19 #[.val (.ref a2), .val (.int q_a2_position), .val (.long r2.1), .second, .unset] [(.ref a2)])) (fun t k => ?_) ?_
  · show Steps p.tables e below (T4.setTop (mkF m 18 #[.val (.ref a2), .val (.int q_a2_position), .val (.long r2.1), .second, .unset] [])) t
    refine XS.aloadN X4.here hx rfl (hb hby d10_18) rfl rfl ?_
    exact k
  obtain ⟨T5, X5, e5, st5⟩ := getF X4 hx hZ hown (host := "") (Or.inl (hw _ (List.mem_of_getElem? (i := 47) rfl))) Via.refl e4 F_a2_position_3 (g := (mkF m 19 #[.val (.ref a2), .val (.int q_a2_position), .val (.long r2.1), .second, .unset] [(.ref a2)])) rfl rfl (hb hby d10_19)
  refine RunsW.via (T' := T5) (g' := (mkF m 22 #[.val (.ref a2), .val (.int q_a2_position), .val (.long r2.1), .second, .unset] [(.int r2.2)])) (fun t k => st5 _ k) ?_
  refine RunsW.via (T' := T5) (g' := (mkF m 26 #[.val (.ref a2), .val (.int q_a2_position), .val (.long r2.1), .second, .val (.int r2.2)] [(.ref a2), (.ref a2)])) (fun t k => ?_) ?_
  · show Steps p.tables e below (T5.setTop (mkF m 22 #[.val (.ref a2), .val (.int q_a2_position), .val (.long r2.1), .second, .unset] [(.int r2.2)])) t
    refine XS.istore X5.here hx rfl (hb hby d10_22) rfl (l' := #[.val (.ref a2), .val (.int q_a2_position), .val (.long r2.1), .second, .val (.int r2.2)]) rfl ?_
    show Steps p.tables e below (T5.setTop (mkF m 24 #[.val (.ref a2), .val (.int q_a2_position), .val (.long r2.1), .second, .val (.int r2.2)] [])) t
    refine XS.aloadN X5.here hx rfl (hb hby d10_24) rfl rfl ?_
    show Steps p.tables e below (T5.setTop (mkF m 25 #[.val (.ref a2), .val (.int q_a2_position), .val (.long r2.1), .second, .val (.int r2.2)] [(.ref a2)])) t
    refine XS.dup X5.here hx rfl (hb hby d10_25) rfl rfl ?_
    exact k
  obtain ⟨T6, X6, e6, st6⟩ := getF X5 hx hZ hown (host := "") (Or.inl (hw _ (List.mem_of_getElem? (i := 47) rfl))) Via.refl e5 F_a2_position_3 (g := (mkF m 26 #[.val (.ref a2), .val (.int q_a2_position), .val (.long r2.1), .second, .val (.int r2.2)] [(.ref a2), (.ref a2)])) rfl rfl (hb hby d10_26)
  refine RunsW.via (T' := T6) (g' := (mkF m 29 #[.val (.ref a2), .val (.int q_a2_position), .val (.long r2.1), .second, .val (.int r2.2)] [(.int r2.2), (.ref a2)])) (fun t k => st6 _ k) ?_
  refine RunsW.via (T' := T6) (g' := (mkF m 32 #[.val (.ref a2), .val (.int q_a2_position), .val (.long r2.1), .second, .val (.int r2.2)] [(.int (r2.2 + (Int64.toInt32 r2.1))), (.ref a2)])) (fun t k => ?_) ?_
  · show Steps p.tables e below (T6.setTop (mkF m 29 #[.val (.ref a2), .val (.int q_a2_position), .val (.long r2.1), .second, .val (.int r2.2)] [(.int r2.2), (.ref a2)])) t
    refine XS.lloadN X6.here hx rfl (hb hby d10_29) rfl ?_
    show Steps p.tables e below (T6.setTop (mkF m 30 #[.val (.ref a2), .val (.int q_a2_position), .val (.long r2.1), .second, .val (.int r2.2)] [(.long r2.1), (.int r2.2), (.ref a2)])) t
    refine XS.l2i X6.here hx rfl (hb hby d10_30) rfl ?_
    show Steps p.tables e below (T6.setTop (mkF m 31 #[.val (.ref a2), .val (.int q_a2_position), .val (.long r2.1), .second, .val (.int r2.2)] [(.int (Int64.toInt32 r2.1)), (.int r2.2), (.ref a2)])) t
    refine XS.iadd X6.here hx rfl (hb hby d10_31) rfl ?_
    exact k
  refine letE hr ?_; intro v7 hv7 hr
  rw [← hv7]
  obtain ⟨T8, h8, X8, e8, W8, st8⟩ := putF X6 hx hZ hown (host := "") (Or.inl (hw _ (List.mem_of_getElem? (i := 47) rfl))) Via.refl e6 F_a2_position_3 E_a2_3 (Or.inl (hw _ (List.mem_of_getElem? (i := 48) rfl))) (hw _ (List.mem_of_getElem? (i := 3) rfl)) (ty := .int) (by decide) rfl rfl (g := (mkF m 32 #[.val (.ref a2), .val (.int q_a2_position), .val (.long r2.1), .second, .val (.int r2.2)] [(.int v7), (.ref a2)])) rfl rfl (hb hby d10_32)
  have A_a1_8 : AI Z h8 a1 .byte q_a1 := A_a1_3.other W8 (by omega : @Ne Nat a1 a2)
  have E_a2_8 : Exa Z h8 a2 "com/example/wirelace/wirelace/codec/WireReader" := E_a2_3.wr W8
  have F_a2_packedOuterLimit_8 : Fld Z h8 a2 "com/example/wirelace/wirelace/codec/WireReader" "packedOuterLimit" "I" (.int q_a2_packedOuterLimit) := F_a2_packedOuterLimit_3.other W8 (Or.inr (slot_ne (Or.inl (hw _ (List.mem_of_getElem? (i := 15) rfl))) (Or.inl (hw _ (List.mem_of_getElem? (i := 48) rfl))) (by decide) (t := .int) (t' := .int) (by decide) (by decide)))
  have F_a2_message_8 : Fld Z h8 a2 "com/example/wirelace/wirelace/codec/WireReader" "message" "[B" (.ref a1) := F_a2_message_3.other W8 (Or.inr (slot_ne (Or.inr (hw _ (List.mem_of_getElem? (i := 30) rfl))) (Or.inl (hw _ (List.mem_of_getElem? (i := 48) rfl))) (by decide) (t := (.array .byte)) (t' := .int) (by decide) (by decide)))
  have F_a2_limit_8 : Fld Z h8 a2 "com/example/wirelace/wirelace/codec/WireReader" "limit" "I" (.int q_a2_limit) := F_a2_limit_3.other W8 (Or.inr (slot_ne (Or.inl (hw _ (List.mem_of_getElem? (i := 32) rfl))) (Or.inl (hw _ (List.mem_of_getElem? (i := 48) rfl))) (by decide) (t := .int) (t' := .int) (by decide) (by decide)))
  have F_a2_maxDepth_8 : Fld Z h8 a2 "com/example/wirelace/wirelace/codec/WireReader" "maxDepth" "I" (.int q_a2_maxDepth) := F_a2_maxDepth_3.other W8 (Or.inr (slot_ne (Or.inr (hw _ (List.mem_of_getElem? (i := 37) rfl))) (Or.inl (hw _ (List.mem_of_getElem? (i := 48) rfl))) (by decide) (t := .int) (t' := .int) (by decide) (by decide)))
  have F_a2_position_8 : Fld Z h8 a2 "com/example/wirelace/wirelace/codec/WireReader" "position" "I" (.int v7) := F_a2_position_3.same W8
  have N8 := Fr.snoc X8 N4 (by omega : n0 ≤ a2)
  have zz8 : n0 ≤ h8.size := Nat.le_trans zz3 (Keep.of_wr W8).1
  have kk8 := Nat.le_trans kk3 (Keep.of_wr W8).1
  have K8 := K3.wr W8 (Or.inl (List.mem_of_getElem? (i := 0) rfl))
  refine RunsW.via (T' := T8) (g' := (mkF m 35 #[.val (.ref a2), .val (.int q_a2_position), .val (.long r2.1), .second, .val (.int r2.2)] [])) (fun t k => st8 _ k) ?_
  refine RunsW.via (T' := T8) (g' := (mkF m 37 #[.val (.ref a2), .val (.int q_a2_position), .val (.long r2.1), .second, .val (.int r2.2)] [(.int r2.2)])) (fun t k => ?_) ?_
  · show Steps p.tables e below (T8.setTop (mkF m 35 #[.val (.ref a2), .val (.int q_a2_position), .val (.long r2.1), .second, .val (.int r2.2)] [])) t
    refine XS.iload X8.here hx rfl (hb hby d10_35) rfl ?_
    exact k
  obtain rfl := Option.some.inj hr
  exact own_retIW X8 hx hlk hret (hb hby d10_37) hS3 (by first | (rw [e8]; exact kk8) | exact Nat.le_refl _) (by show (((cells + 0) + 2) + 0) ≤ 2; omega) (by show (((slots + 0) + 36) + 0) ≤ 36; omega) ⟨rfl, N8, (by rw [e8]; exact K8), (by rw [e8]; exact E_a2_8), (by rw [e8]; exact F_a2_packedOuterLimit_8), (by rw [e8]; exact F_a2_message_8), (by rw [e8]; exact F_a2_limit_8), (by rw [e8]; exact F_a2_maxDepth_8), (by rw [e8]; exact F_a2_position_8)⟩
def f10 (q_a1 : List Int32) (q_a2_packedOuterLimit : Int32) (q_a2_limit : Int32) (q_a2_maxDepth : Int32) (q_a2_position : Int32) : Option (Int32 × Int32) := g10_0 q_a1 q_a2_packedOuterLimit q_a2_limit q_a2_maxDepth q_a2_position
theorem pn_10 : plainName "com/example/wirelace/wirelace/codec/WireReader" = true := by first | (simp [plainName, overriddenIn]; done) | decide +kernel
theorem ef_10 (m : MethodId) (a1 : Addr) (a2 : Addr) : entryFrame m #[(.ref a2)] 5 = mkF m 0 #[.val (.ref a2), .unset, .unset, .unset, .unset] [] := by first | (simp [entryFrame, mkF, argsToLocals, Value.category]; done) | rfl
set_option maxRecDepth 65536 in
set_option maxHeartbeats 4000000 in
theorem rm10 (l : Launch) (Z : State) (a0 : Array Value) (hw : ∀ d ∈ tables_1, d.before a0 Z = true) (ws : List Jvm.Cond) (a1 : Addr) (a2 : Addr) (q_a1 : List Int32) (q_a2_packedOuterLimit : Int32) (q_a2_limit : Int32) (q_a2_maxDepth : Int32) (q_a2_position : Int32) (hE : Heap) (n0 : Nat) (Z0 : n0 ≤ hE.size) (o0 : n0 ≤ a1) (o1 : @LT.lt Nat instLTNat a1 a2) (A_a1_0 : AI Z hE a1 .byte q_a1) (E_a2_0 : Exa Z hE a2 "com/example/wirelace/wirelace/codec/WireReader") (F_a2_packedOuterLimit_0 : Fld Z hE a2 "com/example/wirelace/wirelace/codec/WireReader" "packedOuterLimit" "I" (.int q_a2_packedOuterLimit)) (F_a2_message_0 : Fld Z hE a2 "com/example/wirelace/wirelace/codec/WireReader" "message" "[B" (.ref a1)) (F_a2_limit_0 : Fld Z hE a2 "com/example/wirelace/wirelace/codec/WireReader" "limit" "I" (.int q_a2_limit)) (F_a2_maxDepth_0 : Fld Z hE a2 "com/example/wirelace/wirelace/codec/WireReader" "maxDepth" "I" (.int q_a2_maxDepth)) (F_a2_position_0 : Fld Z hE a2 "com/example/wirelace/wirelace/codec/WireReader" "position" "I" (.int q_a2_position)) (r : Int32 × Int32) (hr : f10 q_a1 q_a2_packedOuterLimit q_a2_limit q_a2_maxDepth q_a2_position = some r) :
    MetFree l (⟨"com/example/wirelace/wirelace/codec/WireReader", "skipPayload", "()I"⟩ : MethodName) (head1 (Jvm.Cond.code (⟨"com/example/wirelace/wirelace/codec/WireReader", "skipPayload", "()I"⟩ : MethodName) prog_18_method_24_code 5 (some .int) :: ws) ({ frames := 3, cells := 2, slots := 36, locals := 46 } : Room)) (fun a U => a = #[(.ref a2)] ∧ Z.Warmed39 U.vm ∧ U.heap = hE) (fun _ _ _ _ _ => True) (fun _ U o U' => ∃ v L, o = .returned v ∧ (P10 Z hE a1 a2 q_a1 q_a2_packedOuterLimit q_a2_limit q_a2_maxDepth q_a2_position n0 r v U'.heap L) ∧ ReturnedEndW U o U' L ({ frames := 3, cells := 2, slots := 36, locals := 46 } : Room).cells ({ frames := 3, cells := 2, slots := 36, locals := 46 } : Room).slots) := by
  refine MetFree.of_bodySF (plainFor_of_name pn_10) hisR ?_
  intro p e s m args below meth c s₁ Bd hml0 hP hK
  obtain ⟨rfl, hZ, hh⟩ := hP
  have X0 : Stand p l e ({ frames := 3, cells := 2, slots := 36, locals := 46 } : Room) s m #[(.ref a2)] below meth c s₁ [] 0 0 := Stand.of_body Bd
  have e0 : s₁.heap = hE := by rw [← hh, Bd.state]; rfl
  have C : Ctx p s m meth c Z a0 "com/example/wirelace/wirelace/codec/WireReader" prog_18_method_24_code 5 (some .int) "skipPayload" := ⟨Bd.exec, hZ, hw, Bd.bytes, hml0, findClass_of_methodNamed Bd.named, Bd.returns, BodyLoose.notSynchronized Bd, (name_of_methodNamed Bd.named Bd.method).1⟩
  have X0 : Stand p l e ({ frames := 3, cells := 2, slots := 36, locals := 46 } : Room) (s.setVm s.vm) m #[(.ref a2)] below meth c s₁ [] 0 0 := X0
  have hS0 : s.Since s.vm hE.size := (State.WarmedH.refl s).since _
  have hk0 : hE.size ≤ hE.size := Nat.le_refl _
  have C : Ctx p (s.setVm s.vm) m meth c Z a0 "com/example/wirelace/wirelace/codec/WireReader" prog_18_method_24_code 5 (some .int) "skipPayload" := C
  refine RunsW.via (fun t k => castTop (ef_10 m a1 a2) k) (b10_0 C X0 e0 (Fr.nil n0) (by show 0 ≤ 0; omega) (by show 0 ≤ 0; omega) Z0 hS0 hk0 (Keep.refl hE [a2]) (by omega) (by omega) q_a2_position A_a1_0 E_a2_0 F_a2_packedOuterLimit_0 F_a2_message_0 F_a2_limit_0 F_a2_maxDepth_0 F_a2_position_0 hr)
theorem pd_8 : parseMethodDescriptor "()I" = some ⟨[], some .int⟩ := by decide +kernel
theorem d9_0 : decode prog_18_method_18_code 0 = .ok (.aload_n 0, 1) := by decide +kernel
theorem d9_1 : decode prog_18_method_18_code 1 = .ok (.getfield 12, 3) := by decide +kernel
theorem d9_4 : decode prog_18_method_18_code 4 = .ok (.ifCond .lt 13, 3) := by decide +kernel
theorem d9_7 : decode prog_18_method_18_code 7 = .ok (.new 178, 3) := by decide +kernel
theorem d9_10 : decode prog_18_method_18_code 10 = .ok (.dup, 1) := by decide +kernel
theorem d9_11 : decode prog_18_method_18_code 11 = .ok (.ldc 180, 2) := by decide +kernel
theorem d9_13 : decode prog_18_method_18_code 13 = .ok (.invokespecial 182, 3) := by decide +kernel
theorem d9_16 : decode prog_18_method_18_code 16 = .ok (.athrow, 1) := by decide +kernel
theorem d9_17 : decode prog_18_method_18_code 17 = .ok (.aload_n 0, 1) := by decide +kernel
theorem d9_18 : decode prog_18_method_18_code 18 = .ok (.invokevirtual 142, 3) := by decide +kernel
theorem d9_21 : decode prog_18_method_18_code 21 = .ok (.istore_n 1, 1) := by decide +kernel
theorem d9_22 : decode prog_18_method_18_code 22 = .ok (.aload_n 0, 1) := by decide +kernel
theorem d9_23 : decode prog_18_method_18_code 23 = .ok (.aload_n 0, 1) := by decide +kernel
theorem d9_24 : decode prog_18_method_18_code 24 = .ok (.getfield 29, 3) := by decide +kernel
theorem d9_27 : decode prog_18_method_18_code 27 = .ok (.putfield 12, 3) := by decide +kernel
theorem d9_30 : decode prog_18_method_18_code 30 = .ok (.aload_n 0, 1) := by decide +kernel
theorem d9_31 : decode prog_18_method_18_code 31 = .ok (.aload_n 0, 1) := by decide +kernel
theorem d9_32 : decode prog_18_method_18_code 32 = .ok (.getfield 39, 3) := by decide +kernel
theorem d9_35 : decode prog_18_method_18_code 35 = .ok (.putfield 29, 3) := by decide +kernel
theorem d9_38 : decode prog_18_method_18_code 38 = .ok (.aload_n 0, 1) := by decide +kernel
theorem d9_39 : decode prog_18_method_18_code 39 = .ok (.iload_n 1, 1) := by decide +kernel
theorem d9_40 : decode prog_18_method_18_code 40 = .ok (.putfield 39, 3) := by decide +kernel
theorem d9_43 : decode prog_18_method_18_code 43 = .ok (.return_, 1) := by decide +kernel
def P9 (Z : State) (hE : Heap) (a1 : Addr) (a2 : Addr) (q_a1 : List Int32) (q_a2_packedOuterLimit : Int32) (q_a2_limit : Int32) (q_a2_maxDepth : Int32) (q_a2_position : Int32) (n0 : Nat) (r : Int32 × Int32 × Int32) (v : Option Value) (h : Heap) (L : List Loc) : Prop := v = none ∧ Fr n0 L ∧ Keep hE h [a2] ∧ Exa Z h a2 "com/example/wirelace/wirelace/codec/WireReader" ∧ Fld Z h a2 "com/example/wirelace/wirelace/codec/WireReader" "packedOuterLimit" "I" (.int r.1) ∧ Fld Z h a2 "com/example/wirelace/wirelace/codec/WireReader" "message" "[B" (.ref a1) ∧ Fld Z h a2 "com/example/wirelace/wirelace/codec/WireReader" "limit" "I" (.int r.2.1) ∧ Fld Z h a2 "com/example/wirelace/wirelace/codec/WireReader" "maxDepth" "I" (.int q_a2_maxDepth) ∧ Fld Z h a2 "com/example/wirelace/wirelace/codec/WireReader" "position" "I" (.int r.2.2)
def g9_0 (q_a1 : List Int32) (q_a2_packedOuterLimit : Int32) (q_a2_limit : Int32) (q_a2_maxDepth : Int32) (q_a2_position : Int32) : Option (Int32 × Int32 × Int32) := (if q_a2_packedOuterLimit < (0 : Int32) then ((f10 q_a1 q_a2_packedOuterLimit q_a2_limit q_a2_maxDepth q_a2_position).bind fun r3 => some (q_a2_limit, r3.2, r3.1)) else none)
set_option maxRecDepth 65536 in
set_option maxHeartbeats 4000000 in
theorem b9_0 {hE : Heap} {vm0 : Vm} {k0 : Nat} {a1 : Addr} {a2 : Addr} {q_a1 : List Int32} {q_a2_maxDepth : Int32} {q_a2_packedOuterLimit₀ : Int32} {q_a2_limit₀ : Int32} {q_a2_position₀ : Int32} {r : Int32 × Int32 × Int32} (C : Ctx p (s.setVm vm0) m meth c Z a0 "com/example/wirelace/wirelace/codec/WireReader" prog_18_method_18_code 2 none "enterPacked") (X0 : Stand p l e ({ frames := 4, cells := 2, slots := 36, locals := 62 } : Room) (s.setVm vm0) m args below meth c T0 locs cells slots) (e0 : T0.heap = h0) (N0 : Fr n0 locs) (hk : cells ≤ 0) (hn : slots ≤ 0) (Z1 : n0 ≤ h0.size) (hS0 : s.Since vm0 k0) (hk0 : k0 ≤ h0.size) (KE : Keep hE h0 [a2]) (o0 : n0 ≤ a1) (o1 : @LT.lt Nat instLTNat a1 a2) (q_a2_packedOuterLimit : Int32) (q_a2_limit : Int32) (q_a2_position : Int32) (A_a1_0 : AI Z h0 a1 .byte q_a1) (E_a2_0 : Exa Z h0 a2 "com/example/wirelace/wirelace/codec/WireReader") (F_a2_packedOuterLimit_0 : Fld Z h0 a2 "com/example/wirelace/wirelace/codec/WireReader" "packedOuterLimit" "I" (.int q_a2_packedOuterLimit)) (F_a2_message_0 : Fld Z h0 a2 "com/example/wirelace/wirelace/codec/WireReader" "message" "[B" (.ref a1)) (F_a2_limit_0 : Fld Z h0 a2 "com/example/wirelace/wirelace/codec/WireReader" "limit" "I" (.int q_a2_limit)) (F_a2_maxDepth_0 : Fld Z h0 a2 "com/example/wirelace/wirelace/codec/WireReader" "maxDepth" "I" (.int q_a2_maxDepth)) (F_a2_position_0 : Fld Z h0 a2 "com/example/wirelace/wirelace/codec/WireReader" "position" "I" (.int q_a2_position)) (hr : g9_0 q_a1 q_a2_packedOuterLimit q_a2_limit q_a2_maxDepth q_a2_position = some r) :
    RunsW p e below s (P9 Z hE a1 a2 q_a1 q_a2_packedOuterLimit₀ q_a2_limit₀ q_a2_maxDepth q_a2_position₀ n0 r) 2 36 T0 (mkF m 0 #[.val (.ref a2), .unset] []) := by
  unfold g9_0 at hr
  have ⟨hx, hZ, hw, hby, hml, hown, hret, hlk, hnm⟩ := C
  refine RunsW.via (T' := T0) (g' := (mkF m 1 #[.val (.ref a2), .unset] [(.ref a2)])) (fun t k => ?_) ?_
  · show Steps p.tables e below (T0.setTop (mkF m 0 #[.val (.ref a2), .unset] [])) t
    refine XS.aloadN X0.here hx rfl (hb hby d9_0) rfl rfl ?_
    exact k
  obtain ⟨T1, X1, e1, st1⟩ := getF X0 hx hZ hown (host := "") (Or.inl (hw _ (List.mem_of_getElem? (i := 14) rfl))) Via.refl e0 F_a2_packedOuterLimit_0 (g := (mkF m 1 #[.val (.ref a2), .unset] [(.ref a2)])) rfl rfl (hb hby d9_1)
  refine RunsW.via (T' := T1) (g' := (mkF m 4 #[.val (.ref a2), .unset] [(.int q_a2_packedOuterLimit)])) (fun t k => st1 _ k) ?_
  refine iteE hr (fun hc2 hr => ?_) (fun hc2 hr => ?_)
  · refine RunsW.via (T' := T1) (g' := (mkF m 17 #[.val (.ref a2), .unset] [])) (fun t k => ?_) ?_
    · show Steps p.tables e below (T1.setTop (mkF m 4 #[.val (.ref a2), .unset] [(.int q_a2_packedOuterLimit)])) t
      exact XS.ifYes X1.here hx rfl (pc0 := 4) (pc' := 17) rfl (hb hby d9_4) rfl ((if0 _ _).trans (tlt hc2).1) (by decide) (by decide) k
    refine RunsW.via (T' := T1) (g' := (mkF m 18 #[.val (.ref a2), .unset] [(.ref a2)])) (fun t k => ?_) ?_
    · show Steps p.tables e below (T1.setTop (mkF m 17 #[.val (.ref a2), .unset] [])) t
      refine XS.aloadN X1.here hx rfl (hb hby d9_17) rfl rfl ?_
      exact k
    refine bindE hr ?_; intro r3 hr3m hr
    obtain ⟨cq3, q3, q3'⟩ := E_a2_0.cell
    obtain ⟨_, _, ⟨T3, L3, k3, n3⟩, -, X3, hS3q, gr3, ⟨Lc3, hQ3, l3, y3, z3⟩, st3⟩ := X1.privateBackS hx (y := (⟨"com/example/wirelace/wirelace/codec/WireReader", "skipPayload", "()I"⟩ : MethodName)) hown (mvT hZ (hw _ (List.mem_of_getElem? (i := 59) rfl))) (mvT hZ (hw _ (List.mem_of_getElem? (i := 60) rfl))) (own_privSel (mvT hZ (hw _ (List.mem_of_getElem? (i := 3) rfl))) (mvP hZ (hw _ (List.mem_of_getElem? (i := 61) rfl))) (mvT hZ (hw _ (List.mem_of_getElem? (i := 60) rfl))) (by decide)) (Cond.privateMethod_at (mvP hZ (hw _ (List.mem_of_getElem? (i := 61) rfl)) (args := #[]))) (mvT hZ (hw _ (List.mem_of_getElem? (i := 62) rfl))) (by decide) (backOfS (W := 0) (rm10 l Z a0 hw [] a1 a2 q_a1 q_a2_packedOuterLimit q_a2_limit q_a2_maxDepth q_a2_position h0 n0 Z1 (by omega) (by omega) A_a1_0 E_a2_0 F_a2_packedOuterLimit_0 F_a2_message_0 F_a2_limit_0 F_a2_maxDepth_0 F_a2_position_0 r3 hr3m) hZ (hw _ (List.mem_of_getElem? (i := 62) rfl)) (hw _ (List.mem_of_getElem? (i := 4) rfl)) (by decide) (by decide)) (g := (mkF m 18 #[.val (.ref a2), .unset] [(.ref a2)])) rfl (by rw [hml]; rfl) (Steps.refl _) (a := a2) (by rw [e1]; exact q3) q3' (argsL := []) (rest := []) (lenOf pd_8 rfl) rfl (by show 2 * 0 + _ ≤ _; exact Nat.le_of_eq rfl) (hb hby d9_18) (fun _ _ => ⟨rfl, e1, (by show cells + 2 ≤ 2; omega), (by show slots + 36 ≤ 36; omega)⟩)
    dsimp only [Pt.U, Pt.locs, Pt.cells, Pt.slots] at X3 hS3q gr3 l3 y3 z3 st3 hQ3
    replace y3 := y3.symm; replace z3 := z3.symm; subst l3 y3 z3
    obtain ⟨X3, hS3, hZ, hown⟩ := rebS hS0 (by first | (rw [e1]; exact hk0) | exact Nat.le_refl _) X3 hS3q gr3 hZ hown
    have C : Ctx p (s.setVm T3.vm) m meth c Z a0 "com/example/wirelace/wirelace/codec/WireReader" prog_18_method_18_code 2 none "enterPacked" := ⟨hx, hZ, hw, hby, hml, hown, hret, hlk, hnm⟩
    obtain ⟨h3, e3⟩ : ∃ z, T3.heap = z := ⟨_, rfl⟩
    rw [e3] at hQ3
    obtain ⟨rfl, N3q, K3q, E_a2_3, F_a2_packedOuterLimit_3, F_a2_message_3, F_a2_limit_3, F_a2_maxDepth_3, F_a2_position_3⟩ := hQ3
    have N3 := Fr.app N0 N3q
    have A_a1_3 := A_a1_0.keep K3q (ninS (by omega : @Ne Nat a1 a2) nin0)
    have K3 := KE.trans K3q (allS (Or.inl (List.mem_of_getElem? (i := 0) rfl)) all0)
    have zz3 : n0 ≤ h3.size := Nat.le_trans Z1 K3q.1
    have kk3 : T3.heap.size ≤ h3.size := Nat.le_of_eq (by rw [e3])
    refine RunsW.via (T' := T3) (g' := (mkF m 21 #[.val (.ref a2), .unset] [(.int r3.1)])) (fun t k => st3.trans k) ?_
    refine RunsW.via (T' := T3) (g' := (mkF m 24 #[.val (.ref a2), .val (.int r3.1)] [(.ref a2), (.ref a2)])) (fun t k => ?_) ?_
    · show Steps p.tables e below (T3.setTop (mkF m 21 #[.val (.ref a2), .unset] [(.int r3.1)])) t
      refine XS.istoreN X3.here hx rfl (hb hby d9_21) rfl (l' := #[.val (.ref a2), .val (.int r3.1)]) rfl ?_
      show Steps p.tables e below (T3.setTop (mkF m 22 #[.val (.ref a2), .val (.int r3.1)] [])) t
      refine XS.aloadN X3.here hx rfl (hb hby d9_22) rfl rfl ?_
      show Steps p.tables e below (T3.setTop (mkF m 23 #[.val (.ref a2), .val (.int r3.1)] [(.ref a2)])) t
      refine XS.aloadN X3.here hx rfl (hb hby d9_23) rfl rfl ?_
      exact k
    obtain ⟨T4, X4, e4, st4⟩ := getF X3 hx hZ hown (host := "") (Or.inl (hw _ (List.mem_of_getElem? (i := 31) rfl))) Via.refl e3 F_a2_limit_3 (g := (mkF m 24 #[.val (.ref a2), .val (.int r3.1)] [(.ref a2), (.ref a2)])) rfl rfl (hb hby d9_24)
    refine RunsW.via (T' := T4) (g' := (mkF m 27 #[.val (.ref a2), .val (.int r3.1)] [(.int q_a2_limit), (.ref a2)])) (fun t k => st4 _ k) ?_
    obtain ⟨T5, h5, X5, e5, W5, st5⟩ := putF X4 hx hZ hown (host := "") (Or.inl (hw _ (List.mem_of_getElem? (i := 14) rfl))) Via.refl e4 F_a2_packedOuterLimit_3 E_a2_3 (Or.inl (hw _ (List.mem_of_getElem? (i := 15) rfl))) (hw _ (List.mem_of_getElem? (i := 3) rfl)) (ty := .int) (by decide) rfl rfl (g := (mkF m 27 #[.val (.ref a2), .val (.int r3.1)] [(.int q_a2_limit), (.ref a2)])) rfl rfl (hb hby d9_27)
    have A_a1_5 : AI Z h5 a1 .byte q_a1 := A_a1_3.other W5 (by omega : @Ne Nat a1 a2)
    have E_a2_5 : Exa Z h5 a2 "com/example/wirelace/wirelace/codec/WireReader" := E_a2_3.wr W5
    have F_a2_packedOuterLimit_5 : Fld Z h5 a2 "com/example/wirelace/wirelace/codec/WireReader" "packedOuterLimit" "I" (.int q_a2_limit) := F_a2_packedOuterLimit_3.same W5
    have F_a2_message_5 : Fld Z h5 a2 "com/example/wirelace/wirelace/codec/WireReader" "message" "[B" (.ref a1) := F_a2_message_3.other W5 (Or.inr (slot_ne (Or.inr (hw _ (List.mem_of_getElem? (i := 30) rfl))) (Or.inl (hw _ (List.mem_of_getElem? (i := 15) rfl))) (by decide) (t := (.array .byte)) (t' := .int) (by decide) (by decide)))
    have F_a2_limit_5 : Fld Z h5 a2 "com/example/wirelace/wirelace/codec/WireReader" "limit" "I" (.int q_a2_limit) := F_a2_limit_3.other W5 (Or.inr (slot_ne (Or.inl (hw _ (List.mem_of_getElem? (i := 32) rfl))) (Or.inl (hw _ (List.mem_of_getElem? (i := 15) rfl))) (by decide) (t := .int) (t' := .int) (by decide) (by decide)))
    have F_a2_maxDepth_5 : Fld Z h5 a2 "com/example/wirelace/wirelace/codec/WireReader" "maxDepth" "I" (.int q_a2_maxDepth) := F_a2_maxDepth_3.other W5 (Or.inr (slot_ne (Or.inr (hw _ (List.mem_of_getElem? (i := 37) rfl))) (Or.inl (hw _ (List.mem_of_getElem? (i := 15) rfl))) (by decide) (t := .int) (t' := .int) (by decide) (by decide)))
    have F_a2_position_5 : Fld Z h5 a2 "com/example/wirelace/wirelace/codec/WireReader" "position" "I" (.int r3.2) := F_a2_position_3.other W5 (Or.inr (slot_ne (Or.inl (hw _ (List.mem_of_getElem? (i := 48) rfl))) (Or.inl (hw _ (List.mem_of_getElem? (i := 15) rfl))) (by decide) (t := .int) (t' := .int) (by decide) (by decide)))
    have N5 := Fr.snoc X5 N3 (by omega : n0 ≤ a2)
    have zz5 : n0 ≤ h5.size := Nat.le_trans zz3 (Keep.of_wr W5).1
    have kk5 := Nat.le_trans kk3 (Keep.of_wr W5).1
    have K5 := K3.wr W5 (Or.inl (List.mem_of_getElem? (i := 0) rfl))
    refine RunsW.via (T' := T5) (g' := (mkF m 30 #[.val (.ref a2), .val (.int r3.1)] [])) (fun t k => st5 _ k) ?_
    refine RunsW.via (T' := T5) (g' := (mkF m 32 #[.val (.ref a2), .val (.int r3.1)] [(.ref a2), (.ref a2)])) (fun t k => ?_) ?_
    · show Steps p.tables e below (T5.setTop (mkF m 30 #[.val (.ref a2), .val (.int r3.1)] [])) t
      refine XS.aloadN X5.here hx rfl (hb hby d9_30) rfl rfl ?_
      show Steps p.tables e below (T5.setTop (mkF m 31 #[.val (.ref a2), .val (.int r3.1)] [(.ref a2)])) t
      refine XS.aloadN X5.here hx rfl (hb hby d9_31) rfl rfl ?_
      exact k
    obtain ⟨T6, X6, e6, st6⟩ := getF X5 hx hZ hown (host := "") (Or.inl (hw _ (List.mem_of_getElem? (i := 47) rfl))) Via.refl e5 F_a2_position_5 (g := (mkF m 32 #[.val (.ref a2), .val (.int r3.1)] [(.ref a2), (.ref a2)])) rfl rfl (hb hby d9_32)
    refine RunsW.via (T' := T6) (g' := (mkF m 35 #[.val (.ref a2), .val (.int r3.1)] [(.int r3.2), (.ref a2)])) (fun t k => st6 _ k) ?_
    obtain ⟨T7, h7, X7, e7, W7, st7⟩ := putF X6 hx hZ hown (host := "") (Or.inl (hw _ (List.mem_of_getElem? (i := 31) rfl))) Via.refl e6 F_a2_limit_5 E_a2_5 (Or.inl (hw _ (List.mem_of_getElem? (i := 32) rfl))) (hw _ (List.mem_of_getElem? (i := 3) rfl)) (ty := .int) (by decide) rfl rfl (g := (mkF m 35 #[.val (.ref a2), .val (.int r3.1)] [(.int r3.2), (.ref a2)])) rfl rfl (hb hby d9_35)
    have A_a1_7 : AI Z h7 a1 .byte q_a1 := A_a1_5.other W7 (by omega : @Ne Nat a1 a2)
    have E_a2_7 : Exa Z h7 a2 "com/example/wirelace/wirelace/codec/WireReader" := E_a2_5.wr W7
    have F_a2_packedOuterLimit_7 : Fld Z h7 a2 "com/example/wirelace/wirelace/codec/WireReader" "packedOuterLimit" "I" (.int q_a2_limit) := F_a2_packedOuterLimit_5.other W7 (Or.inr (slot_ne (Or.inl (hw _ (List.mem_of_getElem? (i := 15) rfl))) (Or.inl (hw _ (List.mem_of_getElem? (i := 32) rfl))) (by decide) (t := .int) (t' := .int) (by decide) (by decide)))
    have F_a2_message_7 : Fld Z h7 a2 "com/example/wirelace/wirelace/codec/WireReader" "message" "[B" (.ref a1) := F_a2_message_5.other W7 (Or.inr (slot_ne (Or.inr (hw _ (List.mem_of_getElem? (i := 30) rfl))) (Or.inl (hw _ (List.mem_of_getElem? (i := 32) rfl))) (by decide) (t := (.array .byte)) (t' := .int) (by decide) (by decide)))
    have F_a2_limit_7 : Fld Z h7 a2 "com/example/wirelace/wirelace/codec/WireReader" "limit" "I" (.int r3.2) := F_a2_limit_5.same W7
    have F_a2_maxDepth_7 : Fld Z h7 a2 "com/example/wirelace/wirelace/codec/WireReader" "maxDepth" "I" (.int q_a2_maxDepth) := F_a2_maxDepth_5.other W7 (Or.inr (slot_ne (Or.inr (hw _ (List.mem_of_getElem? (i := 37) rfl))) (Or.inl (hw _ (List.mem_of_getElem? (i := 32) rfl))) (by decide) (t := .int) (t' := .int) (by decide) (by decide)))
    have F_a2_position_7 : Fld Z h7 a2 "com/example/wirelace/wirelace/codec/WireReader" "position" "I" (.int r3.2) := F_a2_position_5.other W7 (Or.inr (slot_ne (Or.inl (hw _ (List.mem_of_getElem? (i := 48) rfl))) (Or.inl (hw _ (List.mem_of_getElem? (i := 32) rfl))) (by decide) (t := .int) (t' := .int) (by decide) (by decide)))
    have N7 := Fr.snoc X7 N5 (by omega : n0 ≤ a2)
    have zz7 : n0 ≤ h7.size := Nat.le_trans zz5 (Keep.of_wr W7).1
    have kk7 := Nat.le_trans kk5 (Keep.of_wr W7).1
    have K7 := K5.wr W7 (Or.inl (List.mem_of_getElem? (i := 0) rfl))
    refine RunsW.via (T' := T7) (g' := (mkF m 38 #[.val (.ref a2), .val (.int r3.1)] [])) (fun t k => st7 _ k) ?_
    refine RunsW.via (T' := T7) (g' := (mkF m 40 #[.val (.ref a2), .val (.int r3.1)] [(.int r3.1), (.ref a2)])) (fun t k => ?_) ?_
    · show Steps p.tables e below (T7.setTop (mkF m 38 #[.val (.ref a2), .val (.int r3.1)] [])) t
      refine XS.aloadN X7.here hx rfl (hb hby d9_38) rfl rfl ?_
      show Steps p.tables e below (T7.setTop (mkF m 39 #[.val (.ref a2), .val (.int r3.1)] [(.ref a2)])) t
      refine XS.iloadN X7.here hx rfl (hb hby d9_39) rfl ?_
      exact k
    obtain ⟨T8, h8, X8, e8, W8, st8⟩ := putF X7 hx hZ hown (host := "") (Or.inl (hw _ (List.mem_of_getElem? (i := 47) rfl))) Via.refl e7 F_a2_position_7 E_a2_7 (Or.inl (hw _ (List.mem_of_getElem? (i := 48) rfl))) (hw _ (List.mem_of_getElem? (i := 3) rfl)) (ty := .int) (by decide) rfl rfl (g := (mkF m 40 #[.val (.ref a2), .val (.int r3.1)] [(.int r3.1), (.ref a2)])) rfl rfl (hb hby d9_40)
    have A_a1_8 : AI Z h8 a1 .byte q_a1 := A_a1_7.other W8 (by omega : @Ne Nat a1 a2)
    have E_a2_8 : Exa Z h8 a2 "com/example/wirelace/wirelace/codec/WireReader" := E_a2_7.wr W8
    have F_a2_packedOuterLimit_8 : Fld Z h8 a2 "com/example/wirelace/wirelace/codec/WireReader" "packedOuterLimit" "I" (.int q_a2_limit) := F_a2_packedOuterLimit_7.other W8 (Or.inr (slot_ne (Or.inl (hw _ (List.mem_of_getElem? (i := 15) rfl))) (Or.inl (hw _ (List.mem_of_getElem? (i := 48) rfl))) (by decide) (t := .int) (t' := .int) (by decide) (by decide)))
    have F_a2_message_8 : Fld Z h8 a2 "com/example/wirelace/wirelace/codec/WireReader" "message" "[B" (.ref a1) := F_a2_message_7.other W8 (Or.inr (slot_ne (Or.inr (hw _ (List.mem_of_getElem? (i := 30) rfl))) (Or.inl (hw _ (List.mem_of_getElem? (i := 48) rfl))) (by decide) (t := (.array .byte)) (t' := .int) (by decide) (by decide)))
    have F_a2_limit_8 : Fld Z h8 a2 "com/example/wirelace/wirelace/codec/WireReader" "limit" "I" (.int r3.2) := F_a2_limit_7.other W8 (Or.inr (slot_ne (Or.inl (hw _ (List.mem_of_getElem? (i := 32) rfl))) (Or.inl (hw _ (List.mem_of_getElem? (i := 48) rfl))) (by decide) (t := .int) (t' := .int) (by decide) (by decide)))
    have F_a2_maxDepth_8 : Fld Z h8 a2 "com/example/wirelace/wirelace/codec/WireReader" "maxDepth" "I" (.int q_a2_maxDepth) := F_a2_maxDepth_7.other W8 (Or.inr (slot_ne (Or.inr (hw _ (List.mem_of_getElem? (i := 37) rfl))) (Or.inl (hw _ (List.mem_of_getElem? (i := 48) rfl))) (by decide) (t := .int) (t' := .int) (by decide) (by decide)))
    have F_a2_position_8 : Fld Z h8 a2 "com/example/wirelace/wirelace/codec/WireReader" "position" "I" (.int r3.1) := F_a2_position_7.same W8
    have N8 := Fr.snoc X8 N7 (by omega : n0 ≤ a2)
    have zz8 : n0 ≤ h8.size := Nat.le_trans zz7 (Keep.of_wr W8).1
    have kk8 := Nat.le_trans kk7 (Keep.of_wr W8).1
    have K8 := K7.wr W8 (Or.inl (List.mem_of_getElem? (i := 0) rfl))
    refine RunsW.via (T' := T8) (g' := (mkF m 43 #[.val (.ref a2), .val (.int r3.1)] [])) (fun t k => st8 _ k) ?_
    obtain rfl := Option.some.inj hr
    exact own_retVW X8 hx hlk hret (hb hby d9_43) hS3 (by first | (rw [e8]; exact kk8) | exact Nat.le_refl _) (by show (cells + 2) ≤ 2; omega) (by show (slots + 36) ≤ 36; omega) ⟨rfl, N8, (by rw [e8]; exact K8), (by rw [e8]; exact E_a2_8), (by rw [e8]; exact F_a2_packedOuterLimit_8), (by rw [e8]; exact F_a2_message_8), (by rw [e8]; exact F_a2_limit_8), (by rw [e8]; exact F_a2_maxDepth_8), (by rw [e8]; exact F_a2_position_8)⟩
  · refine RunsW.via (T' := T1) (g' := (mkF m 7 #[.val (.ref a2), .unset] [])) (fun t k => ?_) ?_
    · show Steps p.tables e below (T1.setTop (mkF m 4 #[.val (.ref a2), .unset] [(.int q_a2_packedOuterLimit)])) t
      exact XS.ifNo X1.here hx rfl (hb hby d9_4) rfl ((if0 _ _).trans (flt hc2).1) k
    exact nomatch hr
def f9 (q_a1 : List Int32) (q_a2_packedOuterLimit : Int32) (q_a2_limit : Int32) (q_a2_maxDepth : Int32) (q_a2_position : Int32) : Option (Int32 × Int32 × Int32) := g9_0 q_a1 q_a2_packedOuterLimit q_a2_limit q_a2_maxDepth q_a2_position
theorem pn_9 : plainName "com/example/wirelace/wirelace/codec/WireReader" = true := by first | (simp [plainName, overriddenIn]; done) | decide +kernel
theorem ef_9 (m : MethodId) (a1 : Addr) (a2 : Addr) : entryFrame m #[(.ref a2)] 2 = mkF m 0 #[.val (.ref a2), .unset] [] := by first | (simp [entryFrame, mkF, argsToLocals, Value.category]; done) | rfl
set_option maxRecDepth 65536 in
set_option maxHeartbeats 4000000 in
theorem rm9 (l : Launch) (Z : State) (a0 : Array Value) (hw : ∀ d ∈ tables_1, d.before a0 Z = true) (ws : List Jvm.Cond) (a1 : Addr) (a2 : Addr) (q_a1 : List Int32) (q_a2_packedOuterLimit : Int32) (q_a2_limit : Int32) (q_a2_maxDepth : Int32) (q_a2_position : Int32) (hE : Heap) (n0 : Nat) (Z0 : n0 ≤ hE.size) (o0 : n0 ≤ a1) (o1 : @LT.lt Nat instLTNat a1 a2) (A_a1_0 : AI Z hE a1 .byte q_a1) (E_a2_0 : Exa Z hE a2 "com/example/wirelace/wirelace/codec/WireReader") (F_a2_packedOuterLimit_0 : Fld Z hE a2 "com/example/wirelace/wirelace/codec/WireReader" "packedOuterLimit" "I" (.int q_a2_packedOuterLimit)) (F_a2_message_0 : Fld Z hE a2 "com/example/wirelace/wirelace/codec/WireReader" "message" "[B" (.ref a1)) (F_a2_limit_0 : Fld Z hE a2 "com/example/wirelace/wirelace/codec/WireReader" "limit" "I" (.int q_a2_limit)) (F_a2_maxDepth_0 : Fld Z hE a2 "com/example/wirelace/wirelace/codec/WireReader" "maxDepth" "I" (.int q_a2_maxDepth)) (F_a2_position_0 : Fld Z hE a2 "com/example/wirelace/wirelace/codec/WireReader" "position" "I" (.int q_a2_position)) (r : Int32 × Int32 × Int32) (hr : f9 q_a1 q_a2_packedOuterLimit q_a2_limit q_a2_maxDepth q_a2_position = some r) :
    MetFree l (⟨"com/example/wirelace/wirelace/codec/WireReader", "enterPacked", "()V"⟩ : MethodName) (head1 (Jvm.Cond.code (⟨"com/example/wirelace/wirelace/codec/WireReader", "enterPacked", "()V"⟩ : MethodName) prog_18_method_18_code 2 none :: ws) ({ frames := 4, cells := 2, slots := 36, locals := 62 } : Room)) (fun a U => a = #[(.ref a2)] ∧ Z.Warmed39 U.vm ∧ U.heap = hE) (fun _ _ _ _ _ => True) (fun _ U o U' => ∃ v L, o = .returned v ∧ (P9 Z hE a1 a2 q_a1 q_a2_packedOuterLimit q_a2_limit q_a2_maxDepth q_a2_position n0 r v U'.heap L) ∧ ReturnedEndW U o U' L ({ frames := 4, cells := 2, slots := 36, locals := 62 } : Room).cells ({ frames := 4, cells := 2, slots := 36, locals := 62 } : Room).slots) := by
  refine MetFree.of_bodySF (plainFor_of_name pn_9) hisR ?_
  intro p e s m args below meth c s₁ Bd hml0 hP hK
  obtain ⟨rfl, hZ, hh⟩ := hP
  have X0 : Stand p l e ({ frames := 4, cells := 2, slots := 36, locals := 62 } : Room) s m #[(.ref a2)] below meth c s₁ [] 0 0 := Stand.of_body Bd
  have e0 : s₁.heap = hE := by rw [← hh, Bd.state]; rfl
  have C : Ctx p s m meth c Z a0 "com/example/wirelace/wirelace/codec/WireReader" prog_18_method_18_code 2 none "enterPacked" := ⟨Bd.exec, hZ, hw, Bd.bytes, hml0, findClass_of_methodNamed Bd.named, Bd.returns, BodyLoose.notSynchronized Bd, (name_of_methodNamed Bd.named Bd.method).1⟩
  have X0 : Stand p l e ({ frames := 4, cells := 2, slots := 36, locals := 62 } : Room) (s.setVm s.vm) m #[(.ref a2)] below meth c s₁ [] 0 0 := X0
  have hS0 : s.Since s.vm hE.size := (State.WarmedH.refl s).since _
  have hk0 : hE.size ≤ hE.size := Nat.le_refl _
  have C : Ctx p (s.setVm s.vm) m meth c Z a0 "com/example/wirelace/wirelace/codec/WireReader" prog_18_method_18_code 2 none "enterPacked" := C
  refine RunsW.via (fun t k => castTop (ef_9 m a1 a2) k) (b9_0 C X0 e0 (Fr.nil n0) (by show 0 ≤ 0; omega) (by show 0 ≤ 0; omega) Z0 hS0 hk0 (Keep.refl hE [a2]) (by omega) (by omega) q_a2_packedOuterLimit q_a2_limit q_a2_position A_a1_0 E_a2_0 F_a2_packedOuterLimit_0 F_a2_message_0 F_a2_limit_0 F_a2_maxDepth_0 F_a2_position_0 hr)
theorem pd_9 : parseMethodDescriptor "()V" = some ⟨[], none⟩ := by decide +kernel
theorem d14_0 : decode jdk_29_method_69_code 0 = .ok (.iload_n 0, 1) := by decide +kernel
theorem d14_1 : decode jdk_29_method_69_code 1 = .ok (.iload_n 1, 1) := by decide +kernel
theorem d14_2 : decode jdk_29_method_69_code 2 = .ok (.if_icmp .gt 7, 3) := by decide +kernel
theorem d14_5 : decode jdk_29_method_69_code 5 = .ok (.iload_n 0, 1) := by decide +kernel
theorem d14_6 : decode jdk_29_method_69_code 6 = .ok (.goto 4, 3) := by decide +kernel
theorem d14_9 : decode jdk_29_method_69_code 9 = .ok (.iload_n 1, 1) := by decide +kernel
theorem d14_10 : decode jdk_29_method_69_code 10 = .ok (.ireturn, 1) := by decide +kernel
def g14_0 (x0 : Int32) (x1 : Int32) : Int32 := (if x1 < x0 then x1 else x0)
set_option maxRecDepth 65536 in
set_option maxHeartbeats 4000000 in
theorem b14_0 (C : Ctx p s m meth c Z a0 "java/lang/Math" jdk_29_method_69_code 2 (some .int) "min") (X0 : Stand p l e ({ frames := 0, cells := 0, slots := 0, locals := 0 } : Room) s m args below meth c T0 locs cells slots) (e0 : T0.heap = h0) (N0 : Fr n0 locs) (hk : cells ≤ 0) (hn : slots ≤ 0) (x0 : Int32) (x1 : Int32) :
    Runs p e below s (QP (some (.int (g14_0 x0 x1))) h0 n0) 0 0 T0 (mkF m 0 #[.val (.int x0), .val (.int x1)] []) := by
  have ⟨hx, hZ, hw, hby, hml, hown, hret, hlk, hnm⟩ := C
  refine Runs.via (T' := T0) (g' := (mkF m 2 #[.val (.int x0), .val (.int x1)] [(.int x1), (.int x0)])) (fun t k => ?_) ?_
  · show Steps p.tables e below (T0.setTop (mkF m 0 #[.val (.int x0), .val (.int x1)] [])) t
    refine XS.iloadN X0.here hx rfl (hb hby d14_0) rfl ?_
    show Steps p.tables e below (T0.setTop (mkF m 1 #[.val (.int x0), .val (.int x1)] [(.int x0)])) t
    refine XS.iloadN X0.here hx rfl (hb hby d14_1) rfl ?_
    exact k
  by_cases hc1 : x1 < x0
  · refine Runs.via (T' := T0) (g' := (mkF m 9 #[.val (.int x0), .val (.int x1)] [])) (fun t k => ?_) ?_
    · show Steps p.tables e below (T0.setTop (mkF m 2 #[.val (.int x0), .val (.int x1)] [(.int x1), (.int x0)])) t
      exact XS.icmpYes X0.here hx rfl (pc0 := 2) (pc' := 9) rfl (hb hby d14_2) rfl (tlt hc1).2.2.1 (by decide) (by decide) k
    refine Runs.via (T' := T0) (g' := (mkF m 10 #[.val (.int x0), .val (.int x1)] [(.int x1)])) (fun t k => ?_) ?_
    · show Steps p.tables e below (T0.setTop (mkF m 9 #[.val (.int x0), .val (.int x1)] [])) t
      refine XS.iloadN X0.here hx rfl (hb hby d14_9) rfl ?_
      exact k
    refine QP.cast (congrArg (fun z => some (Value.int z)) (show (g14_0 x0 x1) = x1 from (if_pos hc1))) ?_
    exact own_retI X0 hx hlk hret (hb hby d14_10) hk hn ⟨rfl, N0, e0⟩
  · refine Runs.via (T' := T0) (g' := (mkF m 5 #[.val (.int x0), .val (.int x1)] [])) (fun t k => ?_) ?_
    · show Steps p.tables e below (T0.setTop (mkF m 2 #[.val (.int x0), .val (.int x1)] [(.int x1), (.int x0)])) t
      exact XS.icmpNo X0.here hx rfl (hb hby d14_2) rfl (flt hc1).2.2.1 k
    refine Runs.via (T' := T0) (g' := (mkF m 10 #[.val (.int x0), .val (.int x1)] [(.int x0)])) (fun t k => ?_) ?_
    · show Steps p.tables e below (T0.setTop (mkF m 5 #[.val (.int x0), .val (.int x1)] [])) t
      refine XS.iloadN X0.here hx rfl (hb hby d14_5) rfl ?_
      show Steps p.tables e below (T0.setTop (mkF m 6 #[.val (.int x0), .val (.int x1)] [(.int x0)])) t
      refine XS.goto X0.here hx rfl (pc0 := 6) (pc' := 10) rfl (hb hby d14_6) (by decide) (by decide) ?_
      exact k
    refine QP.cast (congrArg (fun z => some (Value.int z)) (show (g14_0 x0 x1) = x0 from (if_neg hc1))) ?_
    exact own_retI X0 hx hlk hret (hb hby d14_10) hk hn ⟨rfl, N0, e0⟩
def f14 (x0 : Int32) (x1 : Int32) : Int32 := g14_0 x0 x1
theorem ef_14 (m : MethodId) (x0 : Int32) (x1 : Int32) : entryFrame m #[(.int x0), (.int x1)] 2 = mkF m 0 #[.val (.int x0), .val (.int x1)] [] := by first | (simp [entryFrame, mkF, argsToLocals, Value.category]; done) | rfl
set_option maxRecDepth 65536 in
set_option maxHeartbeats 4000000 in
theorem rm14 (l : Launch) (Z : State) (a0 : Array Value) (hw : ∀ d ∈ tables_1, d.before a0 Z = true) (ws : List Jvm.Cond) (x0 : Int32) (x1 : Int32) (h0 : Heap) (n0 : Nat) :
    MetFree l (⟨"java/lang/Math", "min", "(II)I"⟩ : MethodName) (head1 (Jvm.Cond.code (⟨"java/lang/Math", "min", "(II)I"⟩ : MethodName) jdk_29_method_69_code 2 (some .int) :: ws) ({ frames := 0, cells := 0, slots := 0, locals := 0 } : Room)) (fun a U => a = #[(.int x0), (.int x1)] ∧ Z.Warmed39 U.vm ∧ U.heap = h0) (fun _ _ _ _ _ => True) (fun _ U o U' => ∃ v L, o = .returned v ∧ QP (some (.int (f14 x0 x1))) h0 n0 v U'.heap L ∧ FrameEnd U o U' L ({ frames := 0, cells := 0, slots := 0, locals := 0 } : Room).cells ({ frames := 0, cells := 0, slots := 0, locals := 0 } : Room).slots) := by
  refine MetFree.of_bodySF (Jvm.Free.JP.mathPlain rfl (by decide +kernel)) hisR ?_
  intro p e s m args below meth c s₁ Bd hml0 hP hK
  obtain ⟨rfl, hZ, hh⟩ := hP
  have X0 : Stand p l e ({ frames := 0, cells := 0, slots := 0, locals := 0 } : Room) s m #[(.int x0), (.int x1)] below meth c s₁ [] 0 0 := Stand.of_body Bd
  have e0 : s₁.heap = h0 := by rw [← hh, Bd.state]; rfl
  have C : Ctx p s m meth c Z a0 "java/lang/Math" jdk_29_method_69_code 2 (some .int) "min" := ⟨Bd.exec, hZ, hw, Bd.bytes, hml0, findClass_of_methodNamed Bd.named, Bd.returns, BodyLoose.notSynchronized Bd, (name_of_methodNamed Bd.named Bd.method).1⟩
  refine Runs.via (fun t k => castTop (ef_14 m x0 x1) k) (b14_0 C X0 e0 (Fr.nil n0) (Nat.le_refl 0) (Nat.le_refl 0) x0 x1)
theorem pd_10 : parseMethodDescriptor "(II)I" = some ⟨[.int, .int], some .int⟩ := by decide +kernel
theorem d15_0 : decode prog_18_method_19_code 0 = .ok (.aload_n 0, 1) := by decide +kernel
theorem d15_1 : decode prog_18_method_19_code 1 = .ok (.getfield 12, 3) := by decide +kernel
theorem d15_4 : decode prog_18_method_19_code 4 = .ok (.ifCond .ge 13, 3) := by decide +kernel
theorem d15_7 : decode prog_18_method_19_code 7 = .ok (.new 178, 3) := by decide +kernel
theorem d15_10 : decode prog_18_method_19_code 10 = .ok (.dup, 1) := by decide +kernel
theorem d15_11 : decode prog_18_method_19_code 11 = .ok (.ldc 185, 2) := by decide +kernel
theorem d15_13 : decode prog_18_method_19_code 13 = .ok (.invokespecial 182, 3) := by decide +kernel
theorem d15_16 : decode prog_18_method_19_code 16 = .ok (.athrow, 1) := by decide +kernel
theorem d15_17 : decode prog_18_method_19_code 17 = .ok (.aload_n 0, 1) := by decide +kernel
theorem d15_18 : decode prog_18_method_19_code 18 = .ok (.aload_n 0, 1) := by decide +kernel
theorem d15_19 : decode prog_18_method_19_code 19 = .ok (.getfield 29, 3) := by decide +kernel
theorem d15_22 : decode prog_18_method_19_code 22 = .ok (.putfield 39, 3) := by decide +kernel
theorem d15_25 : decode prog_18_method_19_code 25 = .ok (.aload_n 0, 1) := by decide +kernel
theorem d15_26 : decode prog_18_method_19_code 26 = .ok (.aload_n 0, 1) := by decide +kernel
theorem d15_27 : decode prog_18_method_19_code 27 = .ok (.getfield 12, 3) := by decide +kernel
theorem d15_30 : decode prog_18_method_19_code 30 = .ok (.putfield 29, 3) := by decide +kernel
theorem d15_33 : decode prog_18_method_19_code 33 = .ok (.aload_n 0, 1) := by decide +kernel
theorem d15_34 : decode prog_18_method_19_code 34 = .ok (.iconst (-1), 1) := by decide +kernel
theorem d15_35 : decode prog_18_method_19_code 35 = .ok (.putfield 12, 3) := by decide +kernel
theorem d15_38 : decode prog_18_method_19_code 38 = .ok (.return_, 1) := by decide +kernel
def P15 (Z : State) (hE : Heap) (a1 : Addr) (a2 : Addr) (q_a1 : List Int32) (q_a2_packedOuterLimit : Int32) (q_a2_limit : Int32) (q_a2_maxDepth : Int32) (q_a2_position : Int32) (n0 : Nat) (r : Int32 × Int32 × Int32) (v : Option Value) (h : Heap) (L : List Loc) : Prop := v = none ∧ Fr n0 L ∧ Keep hE h [a2] ∧ Exa Z h a2 "com/example/wirelace/wirelace/codec/WireReader" ∧ Fld Z h a2 "com/example/wirelace/wirelace/codec/WireReader" "packedOuterLimit" "I" (.int r.1) ∧ Fld Z h a2 "com/example/wirelace/wirelace/codec/WireReader" "message" "[B" (.ref a1) ∧ Fld Z h a2 "com/example/wirelace/wirelace/codec/WireReader" "limit" "I" (.int r.2.1) ∧ Fld Z h a2 "com/example/wirelace/wirelace/codec/WireReader" "maxDepth" "I" (.int q_a2_maxDepth) ∧ Fld Z h a2 "com/example/wirelace/wirelace/codec/WireReader" "position" "I" (.int r.2.2)
def g15_0 (q_a1 : List Int32) (q_a2_packedOuterLimit : Int32) (q_a2_limit : Int32) (q_a2_maxDepth : Int32) (q_a2_position : Int32) : Option (Int32 × Int32 × Int32) := (if q_a2_packedOuterLimit < (0 : Int32) then none else some ((-1 : Int32), q_a2_packedOuterLimit, q_a2_limit))
set_option maxRecDepth 65536 in
set_option maxHeartbeats 4000000 in
theorem b15_0 {hE : Heap} {a1 : Addr} {a2 : Addr} {q_a1 : List Int32} {q_a2_maxDepth : Int32} {q_a2_packedOuterLimit₀ : Int32} {q_a2_limit₀ : Int32} {q_a2_position₀ : Int32} {r : Int32 × Int32 × Int32} (C : Ctx p s m meth c Z a0 "com/example/wirelace/wirelace/codec/WireReader" prog_18_method_19_code 1 none "exitPacked") (X0 : Stand p l e ({ frames := 0, cells := 0, slots := 0, locals := 0 } : Room) s m args below meth c T0 locs cells slots) (e0 : T0.heap = h0) (N0 : Fr n0 locs) (hk : cells ≤ 0) (hn : slots ≤ 0) (Z1 : n0 ≤ h0.size) (KE : Keep hE h0 [a2]) (o0 : n0 ≤ a1) (o1 : @LT.lt Nat instLTNat a1 a2) (q_a2_packedOuterLimit : Int32) (q_a2_limit : Int32) (q_a2_position : Int32) (A_a1_0 : AI Z h0 a1 .byte q_a1) (E_a2_0 : Exa Z h0 a2 "com/example/wirelace/wirelace/codec/WireReader") (F_a2_packedOuterLimit_0 : Fld Z h0 a2 "com/example/wirelace/wirelace/codec/WireReader" "packedOuterLimit" "I" (.int q_a2_packedOuterLimit)) (F_a2_message_0 : Fld Z h0 a2 "com/example/wirelace/wirelace/codec/WireReader" "message" "[B" (.ref a1)) (F_a2_limit_0 : Fld Z h0 a2 "com/example/wirelace/wirelace/codec/WireReader" "limit" "I" (.int q_a2_limit)) (F_a2_maxDepth_0 : Fld Z h0 a2 "com/example/wirelace/wirelace/codec/WireReader" "maxDepth" "I" (.int q_a2_maxDepth)) (F_a2_position_0 : Fld Z h0 a2 "com/example/wirelace/wirelace/codec/WireReader" "position" "I" (.int q_a2_position)) (hr : g15_0 q_a1 q_a2_packedOuterLimit q_a2_limit q_a2_maxDepth q_a2_position = some r) :
    Runs p e below s (P15 Z hE a1 a2 q_a1 q_a2_packedOuterLimit₀ q_a2_limit₀ q_a2_maxDepth q_a2_position₀ n0 r) 0 0 T0 (mkF m 0 #[.val (.ref a2)] []) := by
  unfold g15_0 at hr
  have ⟨hx, hZ, hw, hby, hml, hown, hret, hlk, hnm⟩ := C
  refine Runs.via (T' := T0) (g' := (mkF m 1 #[.val (.ref a2)] [(.ref a2)])) (fun t k => ?_) ?_
  · show Steps p.tables e below (T0.setTop (mkF m 0 #[.val (.ref a2)] [])) t
    refine XS.aloadN X0.here hx rfl (hb hby d15_0) rfl rfl ?_
    exact k
  obtain ⟨T1, X1, e1, st1⟩ := getF X0 hx hZ hown (host := "") (Or.inl (hw _ (List.mem_of_getElem? (i := 14) rfl))) Via.refl e0 F_a2_packedOuterLimit_0 (g := (mkF m 1 #[.val (.ref a2)] [(.ref a2)])) rfl rfl (hb hby d15_1)
  refine Runs.via (T' := T1) (g' := (mkF m 4 #[.val (.ref a2)] [(.int q_a2_packedOuterLimit)])) (fun t k => st1 _ k) ?_
  refine iteE hr (fun hc2 hr => ?_) (fun hc2 hr => ?_)
  · refine Runs.via (T' := T1) (g' := (mkF m 7 #[.val (.ref a2)] [])) (fun t k => ?_) ?_
    · show Steps p.tables e below (T1.setTop (mkF m 4 #[.val (.ref a2)] [(.int q_a2_packedOuterLimit)])) t
      exact XS.ifNo X1.here hx rfl (hb hby d15_4) rfl ((if0 _ _).trans (tlt hc2).2.1) k
    exact nomatch hr
  · refine Runs.via (T' := T1) (g' := (mkF m 17 #[.val (.ref a2)] [])) (fun t k => ?_) ?_
    · show Steps p.tables e below (T1.setTop (mkF m 4 #[.val (.ref a2)] [(.int q_a2_packedOuterLimit)])) t
      exact XS.ifYes X1.here hx rfl (pc0 := 4) (pc' := 17) rfl (hb hby d15_4) rfl ((if0 _ _).trans (flt hc2).2.1) (by decide) (by decide) k
    refine Runs.via (T' := T1) (g' := (mkF m 19 #[.val (.ref a2)] [(.ref a2), (.ref a2)])) (fun t k => ?_) ?_
    · show Steps p.tables e below (T1.setTop (mkF m 17 #[.val (.ref a2)] [])) t
      refine XS.aloadN X1.here hx rfl (hb hby d15_17) rfl rfl ?_
      show Steps p.tables e below (T1.setTop (mkF m 18 #[.val (.ref a2)] [(.ref a2)])) t
      refine XS.aloadN X1.here hx rfl (hb hby d15_18) rfl rfl ?_
      exact k
    obtain ⟨T3, X3, e3, st3⟩ := getF X1 hx hZ hown (host := "") (Or.inl (hw _ (List.mem_of_getElem? (i := 31) rfl))) Via.refl e1 F_a2_limit_0 (g := (mkF m 19 #[.val (.ref a2)] [(.ref a2), (.ref a2)])) rfl rfl (hb hby d15_19)
    refine Runs.via (T' := T3) (g' := (mkF m 22 #[.val (.ref a2)] [(.int q_a2_limit), (.ref a2)])) (fun t k => st3 _ k) ?_
    obtain ⟨T4, h4, X4, e4, W4, st4⟩ := putF X3 hx hZ hown (host := "") (Or.inl (hw _ (List.mem_of_getElem? (i := 47) rfl))) Via.refl e3 F_a2_position_0 E_a2_0 (Or.inl (hw _ (List.mem_of_getElem? (i := 48) rfl))) (hw _ (List.mem_of_getElem? (i := 3) rfl)) (ty := .int) (by decide) rfl rfl (g := (mkF m 22 #[.val (.ref a2)] [(.int q_a2_limit), (.ref a2)])) rfl rfl (hb hby d15_22)
    have A_a1_4 : AI Z h4 a1 .byte q_a1 := A_a1_0.other W4 (by omega : @Ne Nat a1 a2)
    have E_a2_4 : Exa Z h4 a2 "com/example/wirelace/wirelace/codec/WireReader" := E_a2_0.wr W4
    have F_a2_packedOuterLimit_4 : Fld Z h4 a2 "com/example/wirelace/wirelace/codec/WireReader" "packedOuterLimit" "I" (.int q_a2_packedOuterLimit) := F_a2_packedOuterLimit_0.other W4 (Or.inr (slot_ne (Or.inl (hw _ (List.mem_of_getElem? (i := 15) rfl))) (Or.inl (hw _ (List.mem_of_getElem? (i := 48) rfl))) (by decide) (t := .int) (t' := .int) (by decide) (by decide)))
    have F_a2_message_4 : Fld Z h4 a2 "com/example/wirelace/wirelace/codec/WireReader" "message" "[B" (.ref a1) := F_a2_message_0.other W4 (Or.inr (slot_ne (Or.inr (hw _ (List.mem_of_getElem? (i := 30) rfl))) (Or.inl (hw _ (List.mem_of_getElem? (i := 48) rfl))) (by decide) (t := (.array .byte)) (t' := .int) (by decide) (by decide)))
    have F_a2_limit_4 : Fld Z h4 a2 "com/example/wirelace/wirelace/codec/WireReader" "limit" "I" (.int q_a2_limit) := F_a2_limit_0.other W4 (Or.inr (slot_ne (Or.inl (hw _ (List.mem_of_getElem? (i := 32) rfl))) (Or.inl (hw _ (List.mem_of_getElem? (i := 48) rfl))) (by decide) (t := .int) (t' := .int) (by decide) (by decide)))
    have F_a2_maxDepth_4 : Fld Z h4 a2 "com/example/wirelace/wirelace/codec/WireReader" "maxDepth" "I" (.int q_a2_maxDepth) := F_a2_maxDepth_0.other W4 (Or.inr (slot_ne (Or.inr (hw _ (List.mem_of_getElem? (i := 37) rfl))) (Or.inl (hw _ (List.mem_of_getElem? (i := 48) rfl))) (by decide) (t := .int) (t' := .int) (by decide) (by decide)))
    have F_a2_position_4 : Fld Z h4 a2 "com/example/wirelace/wirelace/codec/WireReader" "position" "I" (.int q_a2_limit) := F_a2_position_0.same W4
    have N4 := Fr.snoc X4 N0 (by omega : n0 ≤ a2)
    have zz4 : n0 ≤ h4.size := Nat.le_trans Z1 (Keep.of_wr W4).1
    have K4 := KE.wr W4 (Or.inl (List.mem_of_getElem? (i := 0) rfl))
    refine Runs.via (T' := T4) (g' := (mkF m 25 #[.val (.ref a2)] [])) (fun t k => st4 _ k) ?_
    refine Runs.via (T' := T4) (g' := (mkF m 27 #[.val (.ref a2)] [(.ref a2), (.ref a2)])) (fun t k => ?_) ?_
    · show Steps p.tables e below (T4.setTop (mkF m 25 #[.val (.ref a2)] [])) t
      refine XS.aloadN X4.here hx rfl (hb hby d15_25) rfl rfl ?_
      show Steps p.tables e below (T4.setTop (mkF m 26 #[.val (.ref a2)] [(.ref a2)])) t
      refine XS.aloadN X4.here hx rfl (hb hby d15_26) rfl rfl ?_
      exact k
    obtain ⟨T5, X5, e5, st5⟩ := getF X4 hx hZ hown (host := "") (Or.inl (hw _ (List.mem_of_getElem? (i := 14) rfl))) Via.refl e4 F_a2_packedOuterLimit_4 (g := (mkF m 27 #[.val (.ref a2)] [(.ref a2), (.ref a2)])) rfl rfl (hb hby d15_27)
    refine Runs.via (T' := T5) (g' := (mkF m 30 #[.val (.ref a2)] [(.int q_a2_packedOuterLimit), (.ref a2)])) (fun t k => st5 _ k) ?_
    obtain ⟨T6, h6, X6, e6, W6, st6⟩ := putF X5 hx hZ hown (host := "") (Or.inl (hw _ (List.mem_of_getElem? (i := 31) rfl))) Via.refl e5 F_a2_limit_4 E_a2_4 (Or.inl (hw _ (List.mem_of_getElem? (i := 32) rfl))) (hw _ (List.mem_of_getElem? (i := 3) rfl)) (ty := .int) (by decide) rfl rfl (g := (mkF m 30 #[.val (.ref a2)] [(.int q_a2_packedOuterLimit), (.ref a2)])) rfl rfl (hb hby d15_30)
    have A_a1_6 : AI Z h6 a1 .byte q_a1 := A_a1_4.other W6 (by omega : @Ne Nat a1 a2)
    have E_a2_6 : Exa Z h6 a2 "com/example/wirelace/wirelace/codec/WireReader" := E_a2_4.wr W6
    have F_a2_packedOuterLimit_6 : Fld Z h6 a2 "com/example/wirelace/wirelace/codec/WireReader" "packedOuterLimit" "I" (.int q_a2_packedOuterLimit) := F_a2_packedOuterLimit_4.other W6 (Or.inr (slot_ne (Or.inl (hw _ (List.mem_of_getElem? (i := 15) rfl))) (Or.inl (hw _ (List.mem_of_getElem? (i := 32) rfl))) (by decide) (t := .int) (t' := .int) (by decide) (by decide)))
    have F_a2_message_6 : Fld Z h6 a2 "com/example/wirelace/wirelace/codec/WireReader" "message" "[B" (.ref a1) := F_a2_message_4.other W6 (Or.inr (slot_ne (Or.inr (hw _ (List.mem_of_getElem? (i := 30) rfl))) (Or.inl (hw _ (List.mem_of_getElem? (i := 32) rfl))) (by decide) (t := (.array .byte)) (t' := .int) (by decide) (by decide)))
    have F_a2_limit_6 : Fld Z h6 a2 "com/example/wirelace/wirelace/codec/WireReader" "limit" "I" (.int q_a2_packedOuterLimit) := F_a2_limit_4.same W6
    have F_a2_maxDepth_6 : Fld Z h6 a2 "com/example/wirelace/wirelace/codec/WireReader" "maxDepth" "I" (.int q_a2_maxDepth) := F_a2_maxDepth_4.other W6 (Or.inr (slot_ne (Or.inr (hw _ (List.mem_of_getElem? (i := 37) rfl))) (Or.inl (hw _ (List.mem_of_getElem? (i := 32) rfl))) (by decide) (t := .int) (t' := .int) (by decide) (by decide)))
    have F_a2_position_6 : Fld Z h6 a2 "com/example/wirelace/wirelace/codec/WireReader" "position" "I" (.int q_a2_limit) := F_a2_position_4.other W6 (Or.inr (slot_ne (Or.inl (hw _ (List.mem_of_getElem? (i := 48) rfl))) (Or.inl (hw _ (List.mem_of_getElem? (i := 32) rfl))) (by decide) (t := .int) (t' := .int) (by decide) (by decide)))
    have N6 := Fr.snoc X6 N4 (by omega : n0 ≤ a2)
    have zz6 : n0 ≤ h6.size := Nat.le_trans zz4 (Keep.of_wr W6).1
    have K6 := K4.wr W6 (Or.inl (List.mem_of_getElem? (i := 0) rfl))
    refine Runs.via (T' := T6) (g' := (mkF m 33 #[.val (.ref a2)] [])) (fun t k => st6 _ k) ?_
    refine Runs.via (T' := T6) (g' := (mkF m 35 #[.val (.ref a2)] [(.int (-1 : Int32)), (.ref a2)])) (fun t k => ?_) ?_
    · show Steps p.tables e below (T6.setTop (mkF m 33 #[.val (.ref a2)] [])) t
      refine XS.aloadN X6.here hx rfl (hb hby d15_33) rfl rfl ?_
      show Steps p.tables e below (T6.setTop (mkF m 34 #[.val (.ref a2)] [(.ref a2)])) t
      refine XS.iconst X6.here hx rfl (hb hby d15_34) ?_
      exact k
    obtain ⟨T7, h7, X7, e7, W7, st7⟩ := putF X6 hx hZ hown (host := "") (Or.inl (hw _ (List.mem_of_getElem? (i := 14) rfl))) Via.refl e6 F_a2_packedOuterLimit_6 E_a2_6 (Or.inl (hw _ (List.mem_of_getElem? (i := 15) rfl))) (hw _ (List.mem_of_getElem? (i := 3) rfl)) (ty := .int) (by decide) rfl rfl (g := (mkF m 35 #[.val (.ref a2)] [(.int (-1 : Int32)), (.ref a2)])) rfl rfl (hb hby d15_35)
    have A_a1_7 : AI Z h7 a1 .byte q_a1 := A_a1_6.other W7 (by omega : @Ne Nat a1 a2)
    have E_a2_7 : Exa Z h7 a2 "com/example/wirelace/wirelace/codec/WireReader" := E_a2_6.wr W7
    have F_a2_packedOuterLimit_7 : Fld Z h7 a2 "com/example/wirelace/wirelace/codec/WireReader" "packedOuterLimit" "I" (.int (-1 : Int32)) := F_a2_packedOuterLimit_6.same W7
    have F_a2_message_7 : Fld Z h7 a2 "com/example/wirelace/wirelace/codec/WireReader" "message" "[B" (.ref a1) := F_a2_message_6.other W7 (Or.inr (slot_ne (Or.inr (hw _ (List.mem_of_getElem? (i := 30) rfl))) (Or.inl (hw _ (List.mem_of_getElem? (i := 15) rfl))) (by decide) (t := (.array .byte)) (t' := .int) (by decide) (by decide)))
    have F_a2_limit_7 : Fld Z h7 a2 "com/example/wirelace/wirelace/codec/WireReader" "limit" "I" (.int q_a2_packedOuterLimit) := F_a2_limit_6.other W7 (Or.inr (slot_ne (Or.inl (hw _ (List.mem_of_getElem? (i := 32) rfl))) (Or.inl (hw _ (List.mem_of_getElem? (i := 15) rfl))) (by decide) (t := .int) (t' := .int) (by decide) (by decide)))
    have F_a2_maxDepth_7 : Fld Z h7 a2 "com/example/wirelace/wirelace/codec/WireReader" "maxDepth" "I" (.int q_a2_maxDepth) := F_a2_maxDepth_6.other W7 (Or.inr (slot_ne (Or.inr (hw _ (List.mem_of_getElem? (i := 37) rfl))) (Or.inl (hw _ (List.mem_of_getElem? (i := 15) rfl))) (by decide) (t := .int) (t' := .int) (by decide) (by decide)))
    have F_a2_position_7 : Fld Z h7 a2 "com/example/wirelace/wirelace/codec/WireReader" "position" "I" (.int q_a2_limit) := F_a2_position_6.other W7 (Or.inr (slot_ne (Or.inl (hw _ (List.mem_of_getElem? (i := 48) rfl))) (Or.inl (hw _ (List.mem_of_getElem? (i := 15) rfl))) (by decide) (t := .int) (t' := .int) (by decide) (by decide)))
    have N7 := Fr.snoc X7 N6 (by omega : n0 ≤ a2)
    have zz7 : n0 ≤ h7.size := Nat.le_trans zz6 (Keep.of_wr W7).1
    have K7 := K6.wr W7 (Or.inl (List.mem_of_getElem? (i := 0) rfl))
    refine Runs.via (T' := T7) (g' := (mkF m 38 #[.val (.ref a2)] [])) (fun t k => st7 _ k) ?_
    obtain rfl := Option.some.inj hr
    exact own_retV X7 hx hlk hret (hb hby d15_38) (by show cells ≤ 0; omega) (by show slots ≤ 0; omega) ⟨rfl, N7, (by rw [e7]; exact K7), (by rw [e7]; exact E_a2_7), (by rw [e7]; exact F_a2_packedOuterLimit_7), (by rw [e7]; exact F_a2_message_7), (by rw [e7]; exact F_a2_limit_7), (by rw [e7]; exact F_a2_maxDepth_7), (by rw [e7]; exact F_a2_position_7)⟩
def f15 (q_a1 : List Int32) (q_a2_packedOuterLimit : Int32) (q_a2_limit : Int32) (q_a2_maxDepth : Int32) (q_a2_position : Int32) : Option (Int32 × Int32 × Int32) := g15_0 q_a1 q_a2_packedOuterLimit q_a2_limit q_a2_maxDepth q_a2_position
theorem pn_15 : plainName "com/example/wirelace/wirelace/codec/WireReader" = true := by first | (simp [plainName, overriddenIn]; done) | decide +kernel
theorem ef_15 (m : MethodId) (a1 : Addr) (a2 : Addr) : entryFrame m #[(.ref a2)] 1 = mkF m 0 #[.val (.ref a2)] [] := by first | (simp [entryFrame, mkF, argsToLocals, Value.category]; done) | rfl
set_option maxRecDepth 65536 in
set_option maxHeartbeats 4000000 in
theorem rm15 (l : Launch) (Z : State) (a0 : Array Value) (hw : ∀ d ∈ tables_1, d.before a0 Z = true) (ws : List Jvm.Cond) (a1 : Addr) (a2 : Addr) (q_a1 : List Int32) (q_a2_packedOuterLimit : Int32) (q_a2_limit : Int32) (q_a2_maxDepth : Int32) (q_a2_position : Int32) (hE : Heap) (n0 : Nat) (Z0 : n0 ≤ hE.size) (o0 : n0 ≤ a1) (o1 : @LT.lt Nat instLTNat a1 a2) (A_a1_0 : AI Z hE a1 .byte q_a1) (E_a2_0 : Exa Z hE a2 "com/example/wirelace/wirelace/codec/WireReader") (F_a2_packedOuterLimit_0 : Fld Z hE a2 "com/example/wirelace/wirelace/codec/WireReader" "packedOuterLimit" "I" (.int q_a2_packedOuterLimit)) (F_a2_message_0 : Fld Z hE a2 "com/example/wirelace/wirelace/codec/WireReader" "message" "[B" (.ref a1)) (F_a2_limit_0 : Fld Z hE a2 "com/example/wirelace/wirelace/codec/WireReader" "limit" "I" (.int q_a2_limit)) (F_a2_maxDepth_0 : Fld Z hE a2 "com/example/wirelace/wirelace/codec/WireReader" "maxDepth" "I" (.int q_a2_maxDepth)) (F_a2_position_0 : Fld Z hE a2 "com/example/wirelace/wirelace/codec/WireReader" "position" "I" (.int q_a2_position)) (r : Int32 × Int32 × Int32) (hr : f15 q_a1 q_a2_packedOuterLimit q_a2_limit q_a2_maxDepth q_a2_position = some r) :
    MetFree l (⟨"com/example/wirelace/wirelace/codec/WireReader", "exitPacked", "()V"⟩ : MethodName) (head1 (Jvm.Cond.code (⟨"com/example/wirelace/wirelace/codec/WireReader", "exitPacked", "()V"⟩ : MethodName) prog_18_method_19_code 1 none :: ws) ({ frames := 0, cells := 0, slots := 0, locals := 0 } : Room)) (fun a U => a = #[(.ref a2)] ∧ Z.Warmed39 U.vm ∧ U.heap = hE) (fun _ _ _ _ _ => True) (fun _ U o U' => ∃ v L, o = .returned v ∧ (P15 Z hE a1 a2 q_a1 q_a2_packedOuterLimit q_a2_limit q_a2_maxDepth q_a2_position n0 r v U'.heap L) ∧ FrameEnd U o U' L ({ frames := 0, cells := 0, slots := 0, locals := 0 } : Room).cells ({ frames := 0, cells := 0, slots := 0, locals := 0 } : Room).slots) := by
  refine MetFree.of_bodySF (plainFor_of_name pn_15) hisR ?_
  intro p e s m args below meth c s₁ Bd hml0 hP hK
  obtain ⟨rfl, hZ, hh⟩ := hP
  have X0 : Stand p l e ({ frames := 0, cells := 0, slots := 0, locals := 0 } : Room) s m #[(.ref a2)] below meth c s₁ [] 0 0 := Stand.of_body Bd
  have e0 : s₁.heap = hE := by rw [← hh, Bd.state]; rfl
  have C : Ctx p s m meth c Z a0 "com/example/wirelace/wirelace/codec/WireReader" prog_18_method_19_code 1 none "exitPacked" := ⟨Bd.exec, hZ, hw, Bd.bytes, hml0, findClass_of_methodNamed Bd.named, Bd.returns, BodyLoose.notSynchronized Bd, (name_of_methodNamed Bd.named Bd.method).1⟩
  refine Runs.via (fun t k => castTop (ef_15 m a1 a2) k) (b15_0 C X0 e0 (Fr.nil n0) (by show 0 ≤ 0; omega) (by show 0 ≤ 0; omega) Z0 (Keep.refl hE [a2]) (by omega) (by omega) q_a2_packedOuterLimit q_a2_limit q_a2_position A_a1_0 E_a2_0 F_a2_packedOuterLimit_0 F_a2_message_0 F_a2_limit_0 F_a2_maxDepth_0 F_a2_position_0 hr)
theorem d8_0 : decode prog_18_method_9_code 0 = .ok (.aload_n 0, 1) := by decide +kernel
theorem d8_1 : decode prog_18_method_9_code 1 = .ok (.getfield 39, 3) := by decide +kernel
theorem d8_4 : decode prog_18_method_9_code 4 = .ok (.aload_n 0, 1) := by decide +kernel
theorem d8_5 : decode prog_18_method_9_code 5 = .ok (.getfield 29, 3) := by decide +kernel
theorem d8_8 : decode prog_18_method_9_code 8 = .ok (.if_icmp .ge 7, 3) := by decide +kernel
theorem d8_11 : decode prog_18_method_9_code 11 = .ok (.iconst 1, 1) := by decide +kernel
theorem d8_12 : decode prog_18_method_9_code 12 = .ok (.goto 4, 3) := by decide +kernel
theorem d8_15 : decode prog_18_method_9_code 15 = .ok (.iconst 0, 1) := by decide +kernel
theorem d8_16 : decode prog_18_method_9_code 16 = .ok (.ireturn, 1) := by decide +kernel
def P8 (Z : State) (hE : Heap) (a1 : Addr) (a2 : Addr) (q_a1 : List Int32) (q_a2_packedOuterLimit : Int32) (q_a2_limit : Int32) (q_a2_maxDepth : Int32) (q_a2_position : Int32) (n0 : Nat) (r : Int32) (v : Option Value) (h : Heap) (L : List Loc) : Prop := v = some (.int r) ∧ Fr n0 L ∧ h = hE
def g8_0 (q_a1 : List Int32) (q_a2_packedOuterLimit : Int32) (q_a2_limit : Int32) (q_a2_maxDepth : Int32) (q_a2_position : Int32) : Option (Int32) := (if q_a2_position < q_a2_limit then some (1 : Int32) else some (0 : Int32))
set_option maxRecDepth 65536 in
set_option maxHeartbeats 4000000 in
theorem b8_0 {hE : Heap} {a1 : Addr} {a2 : Addr} {q_a1 : List Int32} {q_a2_packedOuterLimit : Int32} {q_a2_limit : Int32} {q_a2_maxDepth : Int32} {q_a2_position : Int32} {r : Int32} (C : Ctx p s m meth c Z a0 "com/example/wirelace/wirelace/codec/WireReader" prog_18_method_9_code 1 (some .boolean) "hasRemaining") (X0 : Stand p l e ({ frames := 0, cells := 0, slots := 0, locals := 0 } : Room) s m args below meth c T0 locs cells slots) (e0 : T0.heap = hE) (N0 : Fr n0 locs) (hk : cells ≤ 0) (hn : slots ≤ 0) (Z1 : n0 ≤ hE.size) (o0 : n0 ≤ a1) (o1 : @LT.lt Nat instLTNat a1 a2) (A_a1_0 : AI Z hE a1 .byte q_a1) (E_a2_0 : Exa Z hE a2 "com/example/wirelace/wirelace/codec/WireReader") (F_a2_packedOuterLimit_0 : Fld Z hE a2 "com/example/wirelace/wirelace/codec/WireReader" "packedOuterLimit" "I" (.int q_a2_packedOuterLimit)) (F_a2_message_0 : Fld Z hE a2 "com/example/wirelace/wirelace/codec/WireReader" "message" "[B" (.ref a1)) (F_a2_limit_0 : Fld Z hE a2 "com/example/wirelace/wirelace/codec/WireReader" "limit" "I" (.int q_a2_limit)) (F_a2_maxDepth_0 : Fld Z hE a2 "com/example/wirelace/wirelace/codec/WireReader" "maxDepth" "I" (.int q_a2_maxDepth)) (F_a2_position_0 : Fld Z hE a2 "com/example/wirelace/wirelace/codec/WireReader" "position" "I" (.int q_a2_position)) (hr : g8_0 q_a1 q_a2_packedOuterLimit q_a2_limit q_a2_maxDepth q_a2_position = some r) :
    Runs p e below s (P8 Z hE a1 a2 q_a1 q_a2_packedOuterLimit q_a2_limit q_a2_maxDepth q_a2_position n0 r) 0 0 T0 (mkF m 0 #[.val (.ref a2)] []) := by
  unfold g8_0 at hr
  have ⟨hx, hZ, hw, hby, hml, hown, hret, hlk, hnm⟩ := C
  refine Runs.via (T' := T0) (g' := (mkF m 1 #[.val (.ref a2)] [(.ref a2)])) (fun t k => ?_) ?_
  · show Steps p.tables e below (T0.setTop (mkF m 0 #[.val (.ref a2)] [])) t
    refine XS.aloadN X0.here hx rfl (hb hby d8_0) rfl rfl ?_
    exact k
  obtain ⟨T1, X1, e1, st1⟩ := getF X0 hx hZ hown (host := "") (Or.inl (hw _ (List.mem_of_getElem? (i := 47) rfl))) Via.refl e0 F_a2_position_0 (g := (mkF m 1 #[.val (.ref a2)] [(.ref a2)])) rfl rfl (hb hby d8_1)
  refine Runs.via (T' := T1) (g' := (mkF m 4 #[.val (.ref a2)] [(.int q_a2_position)])) (fun t k => st1 _ k) ?_
  refine Runs.via (T' := T1) (g' := (mkF m 5 #[.val (.ref a2)] [(.ref a2), (.int q_a2_position)])) (fun t k => ?_) ?_
  · show Steps p.tables e below (T1.setTop (mkF m 4 #[.val (.ref a2)] [(.int q_a2_position)])) t
    refine XS.aloadN X1.here hx rfl (hb hby d8_4) rfl rfl ?_
    exact k
  obtain ⟨T2, X2, e2, st2⟩ := getF X1 hx hZ hown (host := "") (Or.inl (hw _ (List.mem_of_getElem? (i := 31) rfl))) Via.refl e1 F_a2_limit_0 (g := (mkF m 5 #[.val (.ref a2)] [(.ref a2), (.int q_a2_position)])) rfl rfl (hb hby d8_5)
  refine Runs.via (T' := T2) (g' := (mkF m 8 #[.val (.ref a2)] [(.int q_a2_limit), (.int q_a2_position)])) (fun t k => st2 _ k) ?_
  refine iteE hr (fun hc3 hr => ?_) (fun hc3 hr => ?_)
  · refine Runs.via (T' := T2) (g' := (mkF m 11 #[.val (.ref a2)] [])) (fun t k => ?_) ?_
    · show Steps p.tables e below (T2.setTop (mkF m 8 #[.val (.ref a2)] [(.int q_a2_limit), (.int q_a2_position)])) t
      exact XS.icmpNo X2.here hx rfl (hb hby d8_8) rfl (tlt hc3).2.1 k
    refine Runs.via (T' := T2) (g' := (mkF m 16 #[.val (.ref a2)] [(.int (1 : Int32))])) (fun t k => ?_) ?_
    · show Steps p.tables e below (T2.setTop (mkF m 11 #[.val (.ref a2)] [])) t
      refine XS.iconst X2.here hx rfl (hb hby d8_11) ?_
      show Steps p.tables e below (T2.setTop (mkF m 12 #[.val (.ref a2)] [(.int (1 : Int32))])) t
      refine XS.goto X2.here hx rfl (pc0 := 12) (pc' := 16) rfl (hb hby d8_12) (by decide) (by decide) ?_
      exact k
    obtain rfl := Option.some.inj hr
    exact own_retN X2 hx hlk (t := .boolean) hret (by simp) (hb hby d8_16) (by show cells ≤ 0; omega) (by show slots ≤ 0; omega) ⟨rfl, N0, e2⟩
  · refine Runs.via (T' := T2) (g' := (mkF m 15 #[.val (.ref a2)] [])) (fun t k => ?_) ?_
    · show Steps p.tables e below (T2.setTop (mkF m 8 #[.val (.ref a2)] [(.int q_a2_limit), (.int q_a2_position)])) t
      exact XS.icmpYes X2.here hx rfl (pc0 := 8) (pc' := 15) rfl (hb hby d8_8) rfl (flt hc3).2.1 (by decide) (by decide) k
    refine Runs.via (T' := T2) (g' := (mkF m 16 #[.val (.ref a2)] [(.int (0 : Int32))])) (fun t k => ?_) ?_
    · show Steps p.tables e below (T2.setTop (mkF m 15 #[.val (.ref a2)] [])) t
      refine XS.iconst X2.here hx rfl (hb hby d8_15) ?_
      exact k
    obtain rfl := Option.some.inj hr
    exact own_retN X2 hx hlk (t := .boolean) hret (by simp) (hb hby d8_16) (by show cells ≤ 0; omega) (by show slots ≤ 0; omega) ⟨rfl, N0, e2⟩
def f8 (q_a1 : List Int32) (q_a2_packedOuterLimit : Int32) (q_a2_limit : Int32) (q_a2_maxDepth : Int32) (q_a2_position : Int32) : Option (Int32) := g8_0 q_a1 q_a2_packedOuterLimit q_a2_limit q_a2_maxDepth q_a2_position
theorem pn_8 : plainName "com/example/wirelace/wirelace/codec/WireReader" = true := by first | (simp [plainName, overriddenIn]; done) | decide +kernel
theorem ef_8 (m : MethodId) (a1 : Addr) (a2 : Addr) : entryFrame m #[(.ref a2)] 1 = mkF m 0 #[.val (.ref a2)] [] := by first | (simp [entryFrame, mkF, argsToLocals, Value.category]; done) | rfl
set_option maxRecDepth 65536 in
set_option maxHeartbeats 4000000 in
theorem rm8 (l : Launch) (Z : State) (a0 : Array Value) (hw : ∀ d ∈ tables_1, d.before a0 Z = true) (ws : List Jvm.Cond) (a1 : Addr) (a2 : Addr) (q_a1 : List Int32) (q_a2_packedOuterLimit : Int32) (q_a2_limit : Int32) (q_a2_maxDepth : Int32) (q_a2_position : Int32) (hE : Heap) (n0 : Nat) (Z0 : n0 ≤ hE.size) (o0 : n0 ≤ a1) (o1 : @LT.lt Nat instLTNat a1 a2) (A_a1_0 : AI Z hE a1 .byte q_a1) (E_a2_0 : Exa Z hE a2 "com/example/wirelace/wirelace/codec/WireReader") (F_a2_packedOuterLimit_0 : Fld Z hE a2 "com/example/wirelace/wirelace/codec/WireReader" "packedOuterLimit" "I" (.int q_a2_packedOuterLimit)) (F_a2_message_0 : Fld Z hE a2 "com/example/wirelace/wirelace/codec/WireReader" "message" "[B" (.ref a1)) (F_a2_limit_0 : Fld Z hE a2 "com/example/wirelace/wirelace/codec/WireReader" "limit" "I" (.int q_a2_limit)) (F_a2_maxDepth_0 : Fld Z hE a2 "com/example/wirelace/wirelace/codec/WireReader" "maxDepth" "I" (.int q_a2_maxDepth)) (F_a2_position_0 : Fld Z hE a2 "com/example/wirelace/wirelace/codec/WireReader" "position" "I" (.int q_a2_position)) (r : Int32) (hr : f8 q_a1 q_a2_packedOuterLimit q_a2_limit q_a2_maxDepth q_a2_position = some r) :
    MetFree l (⟨"com/example/wirelace/wirelace/codec/WireReader", "hasRemaining", "()Z"⟩ : MethodName) (head1 (Jvm.Cond.code (⟨"com/example/wirelace/wirelace/codec/WireReader", "hasRemaining", "()Z"⟩ : MethodName) prog_18_method_9_code 1 (some .boolean) :: ws) ({ frames := 0, cells := 0, slots := 0, locals := 0 } : Room)) (fun a U => a = #[(.ref a2)] ∧ Z.Warmed39 U.vm ∧ U.heap = hE) (fun _ _ _ _ _ => True) (fun _ U o U' => ∃ v L, o = .returned v ∧ (P8 Z hE a1 a2 q_a1 q_a2_packedOuterLimit q_a2_limit q_a2_maxDepth q_a2_position n0 r v U'.heap L) ∧ FrameEnd U o U' L ({ frames := 0, cells := 0, slots := 0, locals := 0 } : Room).cells ({ frames := 0, cells := 0, slots := 0, locals := 0 } : Room).slots) := by
  refine MetFree.of_bodySF (plainFor_of_name pn_8) hisR ?_
  intro p e s m args below meth c s₁ Bd hml0 hP hK
  obtain ⟨rfl, hZ, hh⟩ := hP
  have X0 : Stand p l e ({ frames := 0, cells := 0, slots := 0, locals := 0 } : Room) s m #[(.ref a2)] below meth c s₁ [] 0 0 := Stand.of_body Bd
  have e0 : s₁.heap = hE := by rw [← hh, Bd.state]; rfl
  have C : Ctx p s m meth c Z a0 "com/example/wirelace/wirelace/codec/WireReader" prog_18_method_9_code 1 (some .boolean) "hasRemaining" := ⟨Bd.exec, hZ, hw, Bd.bytes, hml0, findClass_of_methodNamed Bd.named, Bd.returns, BodyLoose.notSynchronized Bd, (name_of_methodNamed Bd.named Bd.method).1⟩
  refine Runs.via (fun t k => castTop (ef_8 m a1 a2) k) (b8_0 C X0 e0 (Fr.nil n0) (by show 0 ≤ 0; omega) (by show 0 ≤ 0; omega) Z0 (by omega) (by omega) A_a1_0 E_a2_0 F_a2_packedOuterLimit_0 F_a2_message_0 F_a2_limit_0 F_a2_maxDepth_0 F_a2_position_0 hr)
theorem pd_11 : parseMethodDescriptor "()Z" = some ⟨[], some .boolean⟩ := by decide +kernel
def P0 (n0 : Nat) (r : Int32) (v : Option Value) (h : Heap) (L : List Loc) : Prop := v = some (.int r) ∧ Fr n0 L
def g0_198 (x12 : Int32) (q_n0_0 : List Int32) (q_n1_0_packedOuterLimit : Int32) (q_n1_0_limit : Int32) (q_n1_0_maxDepth : Int32) (q_n1_0_position : Int32) : Option (Int32) := ((f8 q_n0_0 q_n1_0_packedOuterLimit q_n1_0_limit q_n1_0_maxDepth q_n1_0_position).bind fun r1 => (if r1 = x12 then some (1 : Int32) else some (0 : Int32)))
set_option maxRecDepth 65536 in
set_option maxHeartbeats 4000000 in
theorem b0_198 {vm0 : Vm} {k0 : Nat} {r : Int32} (C : Ctx p (s.setVm vm0) m meth c Z a0 "com/example/wirelace/wirelace/codec/WireReaderHasRemainingPinLaw" code 14 (some .boolean) "law") (X0 : Stand p l e room_1 (s.setVm vm0) m args below meth c T0 locs cells slots) (e0 : T0.heap = h0) (N0 : Fr n0 locs) (hk : cells ≤ 4) (hn : slots ≤ 110) (Z1 : n0 ≤ h0.size) (hS0 : s.Since vm0 k0) (hk0 : k0 ≤ h0.size) (n0_0 : Addr) (n1_0 : Addr) (o0 : n0 ≤ n0_0) (o1 : @LT.lt Nat instLTNat n0_0 n1_0) (q_n0_0 : List Int32) (q_n1_0_packedOuterLimit : Int32) (q_n1_0_limit : Int32) (q_n1_0_maxDepth : Int32) (q_n1_0_position : Int32) (x0 : Int32) (x1 : Int32) (x2 : Int32) (x3 : Int32) (x4 : Int32) (x5 : Int32) (x6 : Int32) (x7 : Int32) (x8 : Int32) (x9 : Int32) (x12 : Int32) (A_n0_0_0 : AI Z h0 n0_0 .byte q_n0_0) (E_n1_0_0 : Exa Z h0 n1_0 "com/example/wirelace/wirelace/codec/WireReader") (F_n1_0_packedOuterLimit_0 : Fld Z h0 n1_0 "com/example/wirelace/wirelace/codec/WireReader" "packedOuterLimit" "I" (.int q_n1_0_packedOuterLimit)) (F_n1_0_message_0 : Fld Z h0 n1_0 "com/example/wirelace/wirelace/codec/WireReader" "message" "[B" (.ref n0_0)) (F_n1_0_limit_0 : Fld Z h0 n1_0 "com/example/wirelace/wirelace/codec/WireReader" "limit" "I" (.int q_n1_0_limit)) (F_n1_0_maxDepth_0 : Fld Z h0 n1_0 "com/example/wirelace/wirelace/codec/WireReader" "maxDepth" "I" (.int q_n1_0_maxDepth)) (F_n1_0_position_0 : Fld Z h0 n1_0 "com/example/wirelace/wirelace/codec/WireReader" "position" "I" (.int q_n1_0_position)) (hr : g0_198 x12 q_n0_0 q_n1_0_packedOuterLimit q_n1_0_limit q_n1_0_maxDepth q_n1_0_position = some r) :
    RunsW p e below s (P0 n0 r) 6 146 T0 (mkF m 198 #[.val (.int x0), .val (.int x1), .val (.int x2), .val (.int x3), .val (.int x4), .val (.int x5), .val (.int x6), .val (.int x7), .val (.int x8), .val (.int x9), .val (.ref n0_0), .val (.ref n1_0), .val (.int x12), .unset] []) := by
  unfold g0_198 at hr
  have ⟨hx, hZ, hw, hby, hml, hown, hret, hlk, hnm⟩ := C
  refine RunsW.via (T' := T0) (g' := (mkF m 200 #[.val (.int x0), .val (.int x1), .val (.int x2), .val (.int x3), .val (.int x4), .val (.int x5), .val (.int x6), .val (.int x7), .val (.int x8), .val (.int x9), .val (.ref n0_0), .val (.ref n1_0), .val (.int x12), .unset] [(.ref n1_0)])) (fun t k => ?_) ?_
  · show Steps p.tables e below (T0.setTop (mkF m 198 #[.val (.int x0), .val (.int x1), .val (.int x2), .val (.int x3), .val (.int x4), .val (.int x5), .val (.int x6), .val (.int x7), .val (.int x8), .val (.int x9), .val (.ref n0_0), .val (.ref n1_0), .val (.int x12), .unset] [])) t
    refine XS.aload X0.here hx rfl (hb hby at_198) rfl rfl ?_
    exact k
  refine bindE hr ?_; intro r1 hr1m hr
  obtain ⟨cq1, kq1, q1a, q1b, q1c⟩ := isOf hZ e0 E_n1_0_0
  obtain ⟨_, _, ⟨T1, L1, k1, n1⟩, -, X1, ⟨Lc1, hQ1, l1, y1, z1⟩, st1⟩ := X0.virtualBack hx (y := (⟨"com/example/wirelace/wirelace/codec/WireReader", "hasRemaining", "()Z"⟩ : MethodName)) (z := (⟨"com/example/wirelace/wirelace/codec/WireReader", "hasRemaining", "()Z"⟩ : MethodName)) hown (mvT hZ (hw _ (List.mem_of_getElem? (i := 49) rfl))) (mvT hZ (hw _ (List.mem_of_getElem? (i := 50) rfl))) (notFace_of_selects (args := #[]) (mvT hZ (hw _ (List.mem_of_getElem? (i := 52) rfl)))) (mvT hZ (hw _ (List.mem_of_getElem? (i := 52) rfl))) (mvT hZ (hw _ (List.mem_of_getElem? (i := 51) rfl))) (by decide) (backOf (W := 0) (rm8 l Z a0 hw [] n0_0 n1_0 q_n0_0 q_n1_0_packedOuterLimit q_n1_0_limit q_n1_0_maxDepth q_n1_0_position h0 n0 Z1 (by omega) (by omega) A_n0_0_0 E_n1_0_0 F_n1_0_packedOuterLimit_0 F_n1_0_message_0 F_n1_0_limit_0 F_n1_0_maxDepth_0 F_n1_0_position_0 r1 hr1m) hZ (hw _ (List.mem_of_getElem? (i := 53) rfl)) (hw _ (List.mem_of_getElem? (i := 4) rfl)) (by decide) (by decide)) q1a q1c (g := (mkF m 200 #[.val (.int x0), .val (.int x1), .val (.int x2), .val (.int x3), .val (.int x4), .val (.int x5), .val (.int x6), .val (.int x7), .val (.int x8), .val (.int x9), .val (.ref n0_0), .val (.ref n1_0), .val (.int x12), .unset] [(.ref n1_0)])) rfl (by rw [hml]; rfl) (Steps.refl _) (argsL := []) (rest := []) (lenOf pd_11 rfl) rfl (by show 2 * 0 + _ ≤ _; exact Nat.le_of_eq rfl) (hb hby at_200) (fun _ _ => ⟨rfl, e0, (by show cells + 0 ≤ 16; omega), (by show slots + 0 ≤ 2176; omega)⟩)
  dsimp only [Pt.U, Pt.locs, Pt.cells, Pt.slots] at X1 l1 y1 z1 st1 hQ1
  replace y1 := y1.symm; replace z1 := z1.symm; subst l1 y1 z1
  obtain ⟨rfl, N1q, e1⟩ := hQ1
  have N1 := Fr.app N0 N1q
  refine RunsW.via (T' := T1) (g' := (mkF m 203 #[.val (.int x0), .val (.int x1), .val (.int x2), .val (.int x3), .val (.int x4), .val (.int x5), .val (.int x6), .val (.int x7), .val (.int x8), .val (.int x9), .val (.ref n0_0), .val (.ref n1_0), .val (.int x12), .unset] [(.int r1)])) (fun t k => st1.trans k) ?_
  refine RunsW.via (T' := T1) (g' := (mkF m 205 #[.val (.int x0), .val (.int x1), .val (.int x2), .val (.int x3), .val (.int x4), .val (.int x5), .val (.int x6), .val (.int x7), .val (.int x8), .val (.int x9), .val (.ref n0_0), .val (.ref n1_0), .val (.int x12), .unset] [(.int x12), (.int r1)])) (fun t k => ?_) ?_
  · show Steps p.tables e below (T1.setTop (mkF m 203 #[.val (.int x0), .val (.int x1), .val (.int x2), .val (.int x3), .val (.int x4), .val (.int x5), .val (.int x6), .val (.int x7), .val (.int x8), .val (.int x9), .val (.ref n0_0), .val (.ref n1_0), .val (.int x12), .unset] [(.int r1)])) t
    refine XS.iload X1.here hx rfl (hb hby at_203) rfl ?_
    exact k
  refine iteE hr (fun hc2 hr => ?_) (fun hc2 hr => ?_)
  · refine RunsW.via (T' := T1) (g' := (mkF m 208 #[.val (.int x0), .val (.int x1), .val (.int x2), .val (.int x3), .val (.int x4), .val (.int x5), .val (.int x6), .val (.int x7), .val (.int x8), .val (.int x9), .val (.ref n0_0), .val (.ref n1_0), .val (.int x12), .unset] [])) (fun t k => ?_) ?_
    · show Steps p.tables e below (T1.setTop (mkF m 205 #[.val (.int x0), .val (.int x1), .val (.int x2), .val (.int x3), .val (.int x4), .val (.int x5), .val (.int x6), .val (.int x7), .val (.int x8), .val (.int x9), .val (.ref n0_0), .val (.ref n1_0), .val (.int x12), .unset] [(.int x12), (.int r1)])) t
      exact XS.icmpNo X1.here hx rfl (hb hby at_205) rfl (teq hc2).2 k
    refine RunsW.via (T' := T1) (g' := (mkF m 213 #[.val (.int x0), .val (.int x1), .val (.int x2), .val (.int x3), .val (.int x4), .val (.int x5), .val (.int x6), .val (.int x7), .val (.int x8), .val (.int x9), .val (.ref n0_0), .val (.ref n1_0), .val (.int x12), .unset] [(.int (1 : Int32))])) (fun t k => ?_) ?_
    · show Steps p.tables e below (T1.setTop (mkF m 208 #[.val (.int x0), .val (.int x1), .val (.int x2), .val (.int x3), .val (.int x4), .val (.int x5), .val (.int x6), .val (.int x7), .val (.int x8), .val (.int x9), .val (.ref n0_0), .val (.ref n1_0), .val (.int x12), .unset] [])) t
      refine XS.iconst X1.here hx rfl (hb hby at_208) ?_
      show Steps p.tables e below (T1.setTop (mkF m 209 #[.val (.int x0), .val (.int x1), .val (.int x2), .val (.int x3), .val (.int x4), .val (.int x5), .val (.int x6), .val (.int x7), .val (.int x8), .val (.int x9), .val (.ref n0_0), .val (.ref n1_0), .val (.int x12), .unset] [(.int (1 : Int32))])) t
      refine XS.goto X1.here hx rfl (pc0 := 209) (pc' := 213) rfl (hb hby at_209) (by decide) (by decide) ?_
      exact k
    obtain rfl := Option.some.inj hr
    exact own_retNW X1 hx hlk (t := .boolean) hret (by simp) (hb hby at_213) hS0 (by first | (rw [e1]; exact hk0) | exact Nat.le_refl _) (by show (cells + 0) ≤ 6; omega) (by show (slots + 0) ≤ 146; omega) ⟨rfl, N1⟩
  · refine RunsW.via (T' := T1) (g' := (mkF m 212 #[.val (.int x0), .val (.int x1), .val (.int x2), .val (.int x3), .val (.int x4), .val (.int x5), .val (.int x6), .val (.int x7), .val (.int x8), .val (.int x9), .val (.ref n0_0), .val (.ref n1_0), .val (.int x12), .unset] [])) (fun t k => ?_) ?_
    · show Steps p.tables e below (T1.setTop (mkF m 205 #[.val (.int x0), .val (.int x1), .val (.int x2), .val (.int x3), .val (.int x4), .val (.int x5), .val (.int x6), .val (.int x7), .val (.int x8), .val (.int x9), .val (.ref n0_0), .val (.ref n1_0), .val (.int x12), .unset] [(.int x12), (.int r1)])) t
      exact XS.icmpYes X1.here hx rfl (pc0 := 205) (pc' := 212) rfl (hb hby at_205) rfl (feq hc2).2 (by decide) (by decide) k
    refine RunsW.via (T' := T1) (g' := (mkF m 213 #[.val (.int x0), .val (.int x1), .val (.int x2), .val (.int x3), .val (.int x4), .val (.int x5), .val (.int x6), .val (.int x7), .val (.int x8), .val (.int x9), .val (.ref n0_0), .val (.ref n1_0), .val (.int x12), .unset] [(.int (0 : Int32))])) (fun t k => ?_) ?_
    · show Steps p.tables e below (T1.setTop (mkF m 212 #[.val (.int x0), .val (.int x1), .val (.int x2), .val (.int x3), .val (.int x4), .val (.int x5), .val (.int x6), .val (.int x7), .val (.int x8), .val (.int x9), .val (.ref n0_0), .val (.ref n1_0), .val (.int x12), .unset] [])) t
      refine XS.iconst X1.here hx rfl (hb hby at_212) ?_
      exact k
    obtain rfl := Option.some.inj hr
    exact own_retNW X1 hx hlk (t := .boolean) hret (by simp) (hb hby at_213) hS0 (by first | (rw [e1]; exact hk0) | exact Nat.le_refl _) (by show (cells + 0) ≤ 6; omega) (by show (slots + 0) ≤ 146; omega) ⟨rfl, N1⟩
set_option maxRecDepth 65536 in
set_option maxHeartbeats 4000000 in
theorem b0_198w1 {vm0 : Vm} {k0 : Nat} {r : Int32} (C : Ctx p (s.setVm vm0) m meth c Z a0 "com/example/wirelace/wirelace/codec/WireReaderHasRemainingPinLaw" code 14 (some .boolean) "law") (X0 : Stand p l e room_1 (s.setVm vm0) m args below meth c T0 locs cells slots) (e0 : T0.heap = h0) (N0 : Fr n0 locs) (hk : cells ≤ 6) (hn : slots ≤ 146) (Z1 : n0 ≤ h0.size) (hS0 : s.Since vm0 k0) (hk0 : k0 ≤ h0.size) (n0_0 : Addr) (n1_0 : Addr) (o0 : n0 ≤ n0_0) (o1 : @LT.lt Nat instLTNat n0_0 n1_0) (q_n0_0 : List Int32) (q_n1_0_packedOuterLimit : Int32) (q_n1_0_limit : Int32) (q_n1_0_maxDepth : Int32) (q_n1_0_position : Int32) (x0 : Int32) (x1 : Int32) (x2 : Int32) (x3 : Int32) (x4 : Int32) (x5 : Int32) (x6 : Int32) (x7 : Int32) (x8 : Int32) (x9 : Int32) (x12 : Int32) (x13 : Int32) (A_n0_0_0 : AI Z h0 n0_0 .byte q_n0_0) (E_n1_0_0 : Exa Z h0 n1_0 "com/example/wirelace/wirelace/codec/WireReader") (F_n1_0_packedOuterLimit_0 : Fld Z h0 n1_0 "com/example/wirelace/wirelace/codec/WireReader" "packedOuterLimit" "I" (.int q_n1_0_packedOuterLimit)) (F_n1_0_message_0 : Fld Z h0 n1_0 "com/example/wirelace/wirelace/codec/WireReader" "message" "[B" (.ref n0_0)) (F_n1_0_limit_0 : Fld Z h0 n1_0 "com/example/wirelace/wirelace/codec/WireReader" "limit" "I" (.int q_n1_0_limit)) (F_n1_0_maxDepth_0 : Fld Z h0 n1_0 "com/example/wirelace/wirelace/codec/WireReader" "maxDepth" "I" (.int q_n1_0_maxDepth)) (F_n1_0_position_0 : Fld Z h0 n1_0 "com/example/wirelace/wirelace/codec/WireReader" "position" "I" (.int q_n1_0_position)) (hr : g0_198 x12 q_n0_0 q_n1_0_packedOuterLimit q_n1_0_limit q_n1_0_maxDepth q_n1_0_position = some r) :
    RunsW p e below s (P0 n0 r) 6 146 T0 (mkF m 198 #[.val (.int x0), .val (.int x1), .val (.int x2), .val (.int x3), .val (.int x4), .val (.int x5), .val (.int x6), .val (.int x7), .val (.int x8), .val (.int x9), .val (.ref n0_0), .val (.ref n1_0), .val (.int x12), .val (.int x13)] []) := by
  unfold g0_198 at hr
  have ⟨hx, hZ, hw, hby, hml, hown, hret, hlk, hnm⟩ := C
  refine RunsW.via (T' := T0) (g' := (mkF m 200 #[.val (.int x0), .val (.int x1), .val (.int x2), .val (.int x3), .val (.int x4), .val (.int x5), .val (.int x6), .val (.int x7), .val (.int x8), .val (.int x9), .val (.ref n0_0), .val (.ref n1_0), .val (.int x12), .val (.int x13)] [(.ref n1_0)])) (fun t k => ?_) ?_
  · show Steps p.tables e below (T0.setTop (mkF m 198 #[.val (.int x0), .val (.int x1), .val (.int x2), .val (.int x3), .val (.int x4), .val (.int x5), .val (.int x6), .val (.int x7), .val (.int x8), .val (.int x9), .val (.ref n0_0), .val (.ref n1_0), .val (.int x12), .val (.int x13)] [])) t
    refine XS.aload X0.here hx rfl (hb hby at_198) rfl rfl ?_
    exact k
  refine bindE hr ?_; intro r1 hr1m hr
  obtain ⟨cq1, kq1, q1a, q1b, q1c⟩ := isOf hZ e0 E_n1_0_0
  obtain ⟨_, _, ⟨T1, L1, k1, n1⟩, -, X1, ⟨Lc1, hQ1, l1, y1, z1⟩, st1⟩ := X0.virtualBack hx (y := (⟨"com/example/wirelace/wirelace/codec/WireReader", "hasRemaining", "()Z"⟩ : MethodName)) (z := (⟨"com/example/wirelace/wirelace/codec/WireReader", "hasRemaining", "()Z"⟩ : MethodName)) hown (mvT hZ (hw _ (List.mem_of_getElem? (i := 49) rfl))) (mvT hZ (hw _ (List.mem_of_getElem? (i := 50) rfl))) (notFace_of_selects (args := #[]) (mvT hZ (hw _ (List.mem_of_getElem? (i := 52) rfl)))) (mvT hZ (hw _ (List.mem_of_getElem? (i := 52) rfl))) (mvT hZ (hw _ (List.mem_of_getElem? (i := 51) rfl))) (by decide) (backOf (W := 0) (rm8 l Z a0 hw [] n0_0 n1_0 q_n0_0 q_n1_0_packedOuterLimit q_n1_0_limit q_n1_0_maxDepth q_n1_0_position h0 n0 Z1 (by omega) (by omega) A_n0_0_0 E_n1_0_0 F_n1_0_packedOuterLimit_0 F_n1_0_message_0 F_n1_0_limit_0 F_n1_0_maxDepth_0 F_n1_0_position_0 r1 hr1m) hZ (hw _ (List.mem_of_getElem? (i := 53) rfl)) (hw _ (List.mem_of_getElem? (i := 4) rfl)) (by decide) (by decide)) q1a q1c (g := (mkF m 200 #[.val (.int x0), .val (.int x1), .val (.int x2), .val (.int x3), .val (.int x4), .val (.int x5), .val (.int x6), .val (.int x7), .val (.int x8), .val (.int x9), .val (.ref n0_0), .val (.ref n1_0), .val (.int x12), .val (.int x13)] [(.ref n1_0)])) rfl (by rw [hml]; rfl) (Steps.refl _) (argsL := []) (rest := []) (lenOf pd_11 rfl) rfl (by show 2 * 0 + _ ≤ _; exact Nat.le_of_eq rfl) (hb hby at_200) (fun _ _ => ⟨rfl, e0, (by show cells + 0 ≤ 16; omega), (by show slots + 0 ≤ 2176; omega)⟩)
  dsimp only [Pt.U, Pt.locs, Pt.cells, Pt.slots] at X1 l1 y1 z1 st1 hQ1
  replace y1 := y1.symm; replace z1 := z1.symm; subst l1 y1 z1
  obtain ⟨rfl, N1q, e1⟩ := hQ1
  have N1 := Fr.app N0 N1q
  refine RunsW.via (T' := T1) (g' := (mkF m 203 #[.val (.int x0), .val (.int x1), .val (.int x2), .val (.int x3), .val (.int x4), .val (.int x5), .val (.int x6), .val (.int x7), .val (.int x8), .val (.int x9), .val (.ref n0_0), .val (.ref n1_0), .val (.int x12), .val (.int x13)] [(.int r1)])) (fun t k => st1.trans k) ?_
  refine RunsW.via (T' := T1) (g' := (mkF m 205 #[.val (.int x0), .val (.int x1), .val (.int x2), .val (.int x3), .val (.int x4), .val (.int x5), .val (.int x6), .val (.int x7), .val (.int x8), .val (.int x9), .val (.ref n0_0), .val (.ref n1_0), .val (.int x12), .val (.int x13)] [(.int x12), (.int r1)])) (fun t k => ?_) ?_
  · show Steps p.tables e below (T1.setTop (mkF m 203 #[.val (.int x0), .val (.int x1), .val (.int x2), .val (.int x3), .val (.int x4), .val (.int x5), .val (.int x6), .val (.int x7), .val (.int x8), .val (.int x9), .val (.ref n0_0), .val (.ref n1_0), .val (.int x12), .val (.int x13)] [(.int r1)])) t
    refine XS.iload X1.here hx rfl (hb hby at_203) rfl ?_
    exact k
  refine iteE hr (fun hc2 hr => ?_) (fun hc2 hr => ?_)
  · refine RunsW.via (T' := T1) (g' := (mkF m 208 #[.val (.int x0), .val (.int x1), .val (.int x2), .val (.int x3), .val (.int x4), .val (.int x5), .val (.int x6), .val (.int x7), .val (.int x8), .val (.int x9), .val (.ref n0_0), .val (.ref n1_0), .val (.int x12), .val (.int x13)] [])) (fun t k => ?_) ?_
    · show Steps p.tables e below (T1.setTop (mkF m 205 #[.val (.int x0), .val (.int x1), .val (.int x2), .val (.int x3), .val (.int x4), .val (.int x5), .val (.int x6), .val (.int x7), .val (.int x8), .val (.int x9), .val (.ref n0_0), .val (.ref n1_0), .val (.int x12), .val (.int x13)] [(.int x12), (.int r1)])) t
      exact XS.icmpNo X1.here hx rfl (hb hby at_205) rfl (teq hc2).2 k
    refine RunsW.via (T' := T1) (g' := (mkF m 213 #[.val (.int x0), .val (.int x1), .val (.int x2), .val (.int x3), .val (.int x4), .val (.int x5), .val (.int x6), .val (.int x7), .val (.int x8), .val (.int x9), .val (.ref n0_0), .val (.ref n1_0), .val (.int x12), .val (.int x13)] [(.int (1 : Int32))])) (fun t k => ?_) ?_
    · show Steps p.tables e below (T1.setTop (mkF m 208 #[.val (.int x0), .val (.int x1), .val (.int x2), .val (.int x3), .val (.int x4), .val (.int x5), .val (.int x6), .val (.int x7), .val (.int x8), .val (.int x9), .val (.ref n0_0), .val (.ref n1_0), .val (.int x12), .val (.int x13)] [])) t
      refine XS.iconst X1.here hx rfl (hb hby at_208) ?_
      show Steps p.tables e below (T1.setTop (mkF m 209 #[.val (.int x0), .val (.int x1), .val (.int x2), .val (.int x3), .val (.int x4), .val (.int x5), .val (.int x6), .val (.int x7), .val (.int x8), .val (.int x9), .val (.ref n0_0), .val (.ref n1_0), .val (.int x12), .val (.int x13)] [(.int (1 : Int32))])) t
      refine XS.goto X1.here hx rfl (pc0 := 209) (pc' := 213) rfl (hb hby at_209) (by decide) (by decide) ?_
      exact k
    obtain rfl := Option.some.inj hr
    exact own_retNW X1 hx hlk (t := .boolean) hret (by simp) (hb hby at_213) hS0 (by first | (rw [e1]; exact hk0) | exact Nat.le_refl _) (by show (cells + 0) ≤ 6; omega) (by show (slots + 0) ≤ 146; omega) ⟨rfl, N1⟩
  · refine RunsW.via (T' := T1) (g' := (mkF m 212 #[.val (.int x0), .val (.int x1), .val (.int x2), .val (.int x3), .val (.int x4), .val (.int x5), .val (.int x6), .val (.int x7), .val (.int x8), .val (.int x9), .val (.ref n0_0), .val (.ref n1_0), .val (.int x12), .val (.int x13)] [])) (fun t k => ?_) ?_
    · show Steps p.tables e below (T1.setTop (mkF m 205 #[.val (.int x0), .val (.int x1), .val (.int x2), .val (.int x3), .val (.int x4), .val (.int x5), .val (.int x6), .val (.int x7), .val (.int x8), .val (.int x9), .val (.ref n0_0), .val (.ref n1_0), .val (.int x12), .val (.int x13)] [(.int x12), (.int r1)])) t
      exact XS.icmpYes X1.here hx rfl (pc0 := 205) (pc' := 212) rfl (hb hby at_205) rfl (feq hc2).2 (by decide) (by decide) k
    refine RunsW.via (T' := T1) (g' := (mkF m 213 #[.val (.int x0), .val (.int x1), .val (.int x2), .val (.int x3), .val (.int x4), .val (.int x5), .val (.int x6), .val (.int x7), .val (.int x8), .val (.int x9), .val (.ref n0_0), .val (.ref n1_0), .val (.int x12), .val (.int x13)] [(.int (0 : Int32))])) (fun t k => ?_) ?_
    · show Steps p.tables e below (T1.setTop (mkF m 212 #[.val (.int x0), .val (.int x1), .val (.int x2), .val (.int x3), .val (.int x4), .val (.int x5), .val (.int x6), .val (.int x7), .val (.int x8), .val (.int x9), .val (.ref n0_0), .val (.ref n1_0), .val (.int x12), .val (.int x13)] [])) t
      refine XS.iconst X1.here hx rfl (hb hby at_212) ?_
      exact k
    obtain rfl := Option.some.inj hr
    exact own_retNW X1 hx hlk (t := .boolean) hret (by simp) (hb hby at_213) hS0 (by first | (rw [e1]; exact hk0) | exact Nat.le_refl _) (by show (cells + 0) ≤ 6; omega) (by show (slots + 0) ≤ 146; omega) ⟨rfl, N1⟩
def g0_196 (u0 : Int32) (q_n0_0 : List Int32) (q_n1_0_packedOuterLimit : Int32) (q_n1_0_limit : Int32) (q_n1_0_maxDepth : Int32) (q_n1_0_position : Int32) : Option (Int32) := (g0_198 u0 q_n0_0 q_n1_0_packedOuterLimit q_n1_0_limit q_n1_0_maxDepth q_n1_0_position)
set_option maxRecDepth 65536 in
set_option maxHeartbeats 4000000 in
theorem b0_196 {vm0 : Vm} {k0 : Nat} {r : Int32} (C : Ctx p (s.setVm vm0) m meth c Z a0 "com/example/wirelace/wirelace/codec/WireReaderHasRemainingPinLaw" code 14 (some .boolean) "law") (X0 : Stand p l e room_1 (s.setVm vm0) m args below meth c T0 locs cells slots) (e0 : T0.heap = h0) (N0 : Fr n0 locs) (hk : cells ≤ 6) (hn : slots ≤ 146) (Z1 : n0 ≤ h0.size) (hS0 : s.Since vm0 k0) (hk0 : k0 ≤ h0.size) (n0_0 : Addr) (n1_0 : Addr) (o0 : n0 ≤ n0_0) (o1 : @LT.lt Nat instLTNat n0_0 n1_0) (q_n0_0 : List Int32) (q_n1_0_packedOuterLimit : Int32) (q_n1_0_limit : Int32) (q_n1_0_maxDepth : Int32) (q_n1_0_position : Int32) (x0 : Int32) (x1 : Int32) (x2 : Int32) (x3 : Int32) (x4 : Int32) (x5 : Int32) (x6 : Int32) (x7 : Int32) (x8 : Int32) (x9 : Int32) (x13 : Int32) (u0 : Int32) (A_n0_0_0 : AI Z h0 n0_0 .byte q_n0_0) (E_n1_0_0 : Exa Z h0 n1_0 "com/example/wirelace/wirelace/codec/WireReader") (F_n1_0_packedOuterLimit_0 : Fld Z h0 n1_0 "com/example/wirelace/wirelace/codec/WireReader" "packedOuterLimit" "I" (.int q_n1_0_packedOuterLimit)) (F_n1_0_message_0 : Fld Z h0 n1_0 "com/example/wirelace/wirelace/codec/WireReader" "message" "[B" (.ref n0_0)) (F_n1_0_limit_0 : Fld Z h0 n1_0 "com/example/wirelace/wirelace/codec/WireReader" "limit" "I" (.int q_n1_0_limit)) (F_n1_0_maxDepth_0 : Fld Z h0 n1_0 "com/example/wirelace/wirelace/codec/WireReader" "maxDepth" "I" (.int q_n1_0_maxDepth)) (F_n1_0_position_0 : Fld Z h0 n1_0 "com/example/wirelace/wirelace/codec/WireReader" "position" "I" (.int q_n1_0_position)) (hr : g0_196 u0 q_n0_0 q_n1_0_packedOuterLimit q_n1_0_limit q_n1_0_maxDepth q_n1_0_position = some r) :
    RunsW p e below s (P0 n0 r) 6 146 T0 (mkF m 196 #[.val (.int x0), .val (.int x1), .val (.int x2), .val (.int x3), .val (.int x4), .val (.int x5), .val (.int x6), .val (.int x7), .val (.int x8), .val (.int x9), .val (.ref n0_0), .val (.ref n1_0), .unset, .val (.int x13)] [(.int u0)]) := by
  unfold g0_196 at hr
  have ⟨hx, hZ, hw, hby, hml, hown, hret, hlk, hnm⟩ := C
  refine RunsW.via (T' := T0) (g' := (mkF m 198 #[.val (.int x0), .val (.int x1), .val (.int x2), .val (.int x3), .val (.int x4), .val (.int x5), .val (.int x6), .val (.int x7), .val (.int x8), .val (.int x9), .val (.ref n0_0), .val (.ref n1_0), .val (.int u0), .val (.int x13)] [])) (fun t k => ?_) ?_
  · show Steps p.tables e below (T0.setTop (mkF m 196 #[.val (.int x0), .val (.int x1), .val (.int x2), .val (.int x3), .val (.int x4), .val (.int x5), .val (.int x6), .val (.int x7), .val (.int x8), .val (.int x9), .val (.ref n0_0), .val (.ref n1_0), .unset, .val (.int x13)] [(.int u0)])) t
    refine XS.istore X0.here hx rfl (hb hby at_196) rfl (l' := #[.val (.int x0), .val (.int x1), .val (.int x2), .val (.int x3), .val (.int x4), .val (.int x5), .val (.int x6), .val (.int x7), .val (.int x8), .val (.int x9), .val (.ref n0_0), .val (.ref n1_0), .val (.int u0), .val (.int x13)]) rfl ?_
    exact k
  exact b0_198w1 C X0 e0 N0 (by show cells ≤ 6; omega) (by show slots ≤ 146; omega) Z1 hS0 hk0 n0_0 n1_0 (by omega) (by omega) q_n0_0 q_n1_0_packedOuterLimit q_n1_0_limit q_n1_0_maxDepth q_n1_0_position x0 x1 x2 x3 x4 x5 x6 x7 x8 x9 u0 x13 A_n0_0_0 E_n1_0_0 F_n1_0_packedOuterLimit_0 F_n1_0_message_0 F_n1_0_limit_0 F_n1_0_maxDepth_0 F_n1_0_position_0 hr
def g0_179 (u0 : Int32) (q_n0_0 : List Int32) (q_n1_0_packedOuterLimit : Int32) (q_n1_0_limit : Int32) (q_n1_0_maxDepth : Int32) (q_n1_0_position : Int32) : Option (Int32) := (g0_198 u0 q_n0_0 q_n1_0_packedOuterLimit q_n1_0_limit q_n1_0_maxDepth q_n1_0_position)
set_option maxRecDepth 65536 in
set_option maxHeartbeats 4000000 in
theorem b0_179 {vm0 : Vm} {k0 : Nat} {r : Int32} (C : Ctx p (s.setVm vm0) m meth c Z a0 "com/example/wirelace/wirelace/codec/WireReaderHasRemainingPinLaw" code 14 (some .boolean) "law") (X0 : Stand p l e room_1 (s.setVm vm0) m args below meth c T0 locs cells slots) (e0 : T0.heap = h0) (N0 : Fr n0 locs) (hk : cells ≤ 6) (hn : slots ≤ 146) (Z1 : n0 ≤ h0.size) (hS0 : s.Since vm0 k0) (hk0 : k0 ≤ h0.size) (n0_0 : Addr) (n1_0 : Addr) (o0 : n0 ≤ n0_0) (o1 : @LT.lt Nat instLTNat n0_0 n1_0) (q_n0_0 : List Int32) (q_n1_0_packedOuterLimit : Int32) (q_n1_0_limit : Int32) (q_n1_0_maxDepth : Int32) (q_n1_0_position : Int32) (x0 : Int32) (x1 : Int32) (x2 : Int32) (x3 : Int32) (x4 : Int32) (x5 : Int32) (x6 : Int32) (x7 : Int32) (x8 : Int32) (x9 : Int32) (x13 : Int32) (u0 : Int32) (A_n0_0_0 : AI Z h0 n0_0 .byte q_n0_0) (E_n1_0_0 : Exa Z h0 n1_0 "com/example/wirelace/wirelace/codec/WireReader") (F_n1_0_packedOuterLimit_0 : Fld Z h0 n1_0 "com/example/wirelace/wirelace/codec/WireReader" "packedOuterLimit" "I" (.int q_n1_0_packedOuterLimit)) (F_n1_0_message_0 : Fld Z h0 n1_0 "com/example/wirelace/wirelace/codec/WireReader" "message" "[B" (.ref n0_0)) (F_n1_0_limit_0 : Fld Z h0 n1_0 "com/example/wirelace/wirelace/codec/WireReader" "limit" "I" (.int q_n1_0_limit)) (F_n1_0_maxDepth_0 : Fld Z h0 n1_0 "com/example/wirelace/wirelace/codec/WireReader" "maxDepth" "I" (.int q_n1_0_maxDepth)) (F_n1_0_position_0 : Fld Z h0 n1_0 "com/example/wirelace/wirelace/codec/WireReader" "position" "I" (.int q_n1_0_position)) (hr : g0_179 u0 q_n0_0 q_n1_0_packedOuterLimit q_n1_0_limit q_n1_0_maxDepth q_n1_0_position = some r) :
    RunsW p e below s (P0 n0 r) 6 146 T0 (mkF m 179 #[.val (.int x0), .val (.int x1), .val (.int x2), .val (.int x3), .val (.int x4), .val (.int x5), .val (.int x6), .val (.int x7), .val (.int x8), .val (.int x9), .val (.ref n0_0), .val (.ref n1_0), .unset, .val (.int x13)] [(.int u0)]) := by
  unfold g0_179 at hr
  have ⟨hx, hZ, hw, hby, hml, hown, hret, hlk, hnm⟩ := C
  refine RunsW.via (T' := T0) (g' := (mkF m 198 #[.val (.int x0), .val (.int x1), .val (.int x2), .val (.int x3), .val (.int x4), .val (.int x5), .val (.int x6), .val (.int x7), .val (.int x8), .val (.int x9), .val (.ref n0_0), .val (.ref n1_0), .val (.int u0), .val (.int x13)] [])) (fun t k => ?_) ?_
  · show Steps p.tables e below (T0.setTop (mkF m 179 #[.val (.int x0), .val (.int x1), .val (.int x2), .val (.int x3), .val (.int x4), .val (.int x5), .val (.int x6), .val (.int x7), .val (.int x8), .val (.int x9), .val (.ref n0_0), .val (.ref n1_0), .unset, .val (.int x13)] [(.int u0)])) t
    refine XS.istore X0.here hx rfl (hb hby at_179) rfl (l' := #[.val (.int x0), .val (.int x1), .val (.int x2), .val (.int x3), .val (.int x4), .val (.int x5), .val (.int x6), .val (.int x7), .val (.int x8), .val (.int x9), .val (.ref n0_0), .val (.ref n1_0), .val (.int u0), .val (.int x13)]) rfl ?_
    show Steps p.tables e below (T0.setTop (mkF m 181 #[.val (.int x0), .val (.int x1), .val (.int x2), .val (.int x3), .val (.int x4), .val (.int x5), .val (.int x6), .val (.int x7), .val (.int x8), .val (.int x9), .val (.ref n0_0), .val (.ref n1_0), .val (.int u0), .val (.int x13)] [])) t
    refine XS.goto X0.here hx rfl (pc0 := 181) (pc' := 198) rfl (hb hby at_181) (by decide) (by decide) ?_
    exact k
  exact b0_198w1 C X0 e0 N0 (by show cells ≤ 6; omega) (by show slots ≤ 146; omega) Z1 hS0 hk0 n0_0 n1_0 (by omega) (by omega) q_n0_0 q_n1_0_packedOuterLimit q_n1_0_limit q_n1_0_maxDepth q_n1_0_position x0 x1 x2 x3 x4 x5 x6 x7 x8 x9 u0 x13 A_n0_0_0 E_n1_0_0 F_n1_0_packedOuterLimit_0 F_n1_0_message_0 F_n1_0_limit_0 F_n1_0_maxDepth_0 F_n1_0_position_0 hr
def g0_130 (u0 : Int32) (q_n0_0 : List Int32) (q_n1_0_packedOuterLimit : Int32) (q_n1_0_limit : Int32) (q_n1_0_maxDepth : Int32) (q_n1_0_position : Int32) : Option (Int32) := (g0_198 u0 q_n0_0 q_n1_0_packedOuterLimit q_n1_0_limit q_n1_0_maxDepth q_n1_0_position)
set_option maxRecDepth 65536 in
set_option maxHeartbeats 4000000 in
theorem b0_130 {vm0 : Vm} {k0 : Nat} {r : Int32} (C : Ctx p (s.setVm vm0) m meth c Z a0 "com/example/wirelace/wirelace/codec/WireReaderHasRemainingPinLaw" code 14 (some .boolean) "law") (X0 : Stand p l e room_1 (s.setVm vm0) m args below meth c T0 locs cells slots) (e0 : T0.heap = h0) (N0 : Fr n0 locs) (hk : cells ≤ 4) (hn : slots ≤ 110) (Z1 : n0 ≤ h0.size) (hS0 : s.Since vm0 k0) (hk0 : k0 ≤ h0.size) (n0_0 : Addr) (n1_0 : Addr) (o0 : n0 ≤ n0_0) (o1 : @LT.lt Nat instLTNat n0_0 n1_0) (q_n0_0 : List Int32) (q_n1_0_packedOuterLimit : Int32) (q_n1_0_limit : Int32) (q_n1_0_maxDepth : Int32) (q_n1_0_position : Int32) (x0 : Int32) (x1 : Int32) (x2 : Int32) (x3 : Int32) (x4 : Int32) (x5 : Int32) (x6 : Int32) (x7 : Int32) (x8 : Int32) (x9 : Int32) (u0 : Int32) (A_n0_0_0 : AI Z h0 n0_0 .byte q_n0_0) (E_n1_0_0 : Exa Z h0 n1_0 "com/example/wirelace/wirelace/codec/WireReader") (F_n1_0_packedOuterLimit_0 : Fld Z h0 n1_0 "com/example/wirelace/wirelace/codec/WireReader" "packedOuterLimit" "I" (.int q_n1_0_packedOuterLimit)) (F_n1_0_message_0 : Fld Z h0 n1_0 "com/example/wirelace/wirelace/codec/WireReader" "message" "[B" (.ref n0_0)) (F_n1_0_limit_0 : Fld Z h0 n1_0 "com/example/wirelace/wirelace/codec/WireReader" "limit" "I" (.int q_n1_0_limit)) (F_n1_0_maxDepth_0 : Fld Z h0 n1_0 "com/example/wirelace/wirelace/codec/WireReader" "maxDepth" "I" (.int q_n1_0_maxDepth)) (F_n1_0_position_0 : Fld Z h0 n1_0 "com/example/wirelace/wirelace/codec/WireReader" "position" "I" (.int q_n1_0_position)) (hr : g0_130 u0 q_n0_0 q_n1_0_packedOuterLimit q_n1_0_limit q_n1_0_maxDepth q_n1_0_position = some r) :
    RunsW p e below s (P0 n0 r) 6 146 T0 (mkF m 130 #[.val (.int x0), .val (.int x1), .val (.int x2), .val (.int x3), .val (.int x4), .val (.int x5), .val (.int x6), .val (.int x7), .val (.int x8), .val (.int x9), .val (.ref n0_0), .val (.ref n1_0), .unset, .unset] [(.int u0)]) := by
  unfold g0_130 at hr
  have ⟨hx, hZ, hw, hby, hml, hown, hret, hlk, hnm⟩ := C
  refine RunsW.via (T' := T0) (g' := (mkF m 198 #[.val (.int x0), .val (.int x1), .val (.int x2), .val (.int x3), .val (.int x4), .val (.int x5), .val (.int x6), .val (.int x7), .val (.int x8), .val (.int x9), .val (.ref n0_0), .val (.ref n1_0), .val (.int u0), .unset] [])) (fun t k => ?_) ?_
  · show Steps p.tables e below (T0.setTop (mkF m 130 #[.val (.int x0), .val (.int x1), .val (.int x2), .val (.int x3), .val (.int x4), .val (.int x5), .val (.int x6), .val (.int x7), .val (.int x8), .val (.int x9), .val (.ref n0_0), .val (.ref n1_0), .unset, .unset] [(.int u0)])) t
    refine XS.istore X0.here hx rfl (hb hby at_130) rfl (l' := #[.val (.int x0), .val (.int x1), .val (.int x2), .val (.int x3), .val (.int x4), .val (.int x5), .val (.int x6), .val (.int x7), .val (.int x8), .val (.int x9), .val (.ref n0_0), .val (.ref n1_0), .val (.int u0), .unset]) rfl ?_
    show Steps p.tables e below (T0.setTop (mkF m 132 #[.val (.int x0), .val (.int x1), .val (.int x2), .val (.int x3), .val (.int x4), .val (.int x5), .val (.int x6), .val (.int x7), .val (.int x8), .val (.int x9), .val (.ref n0_0), .val (.ref n1_0), .val (.int u0), .unset] [])) t
    refine XS.goto X0.here hx rfl (pc0 := 132) (pc' := 198) rfl (hb hby at_132) (by decide) (by decide) ?_
    exact k
  exact b0_198 C X0 e0 N0 (by show cells ≤ 4; omega) (by show slots ≤ 110; omega) Z1 hS0 hk0 n0_0 n1_0 (by omega) (by omega) q_n0_0 q_n1_0_packedOuterLimit q_n1_0_limit q_n1_0_maxDepth q_n1_0_position x0 x1 x2 x3 x4 x5 x6 x7 x8 x9 u0 A_n0_0_0 E_n1_0_0 F_n1_0_packedOuterLimit_0 F_n1_0_message_0 F_n1_0_limit_0 F_n1_0_maxDepth_0 F_n1_0_position_0 hr
def g0_66 (x3 : Int32) (x4 : Int32) (x5 : Int32) (x6 : Int32) (x7 : Int32) (x8 : Int32) (x9 : Int32) (u0 : Int32) (u1 : Int32) (q_n0_0 : List Int32) : Option (Int32) := ((wrO q_n0_0 u1 (u0.toInt8.toInt32)).bind fun v1 => ((wrO v1 (1 : Int32) (((x3 &&& (127 : Int32)).toInt8.toInt32).toInt8.toInt32)).bind fun v2 => ((wrO v2 (2 : Int32) (((x4 &&& (127 : Int32)).toInt8.toInt32).toInt8.toInt32)).bind fun v3 => ((wrO v3 (3 : Int32) (((x5 &&& (127 : Int32)).toInt8.toInt32).toInt8.toInt32)).bind fun v4 => ((f1 v4 (0 : Int32) (0 : Int32) (0 : Int32) (0 : Int32)).bind fun r6 => (if x6 = (0 : Int32) then ((f6 x8 v4 r6.1 r6.2.1 r6.2.2 (0 : Int32)).bind fun r8 => (if x8 < (4 : Int32) then (g0_130 (1 : Int32) v4 r6.1 r6.2.1 r6.2.2 r8) else (g0_130 (0 : Int32) v4 r6.1 r6.2.1 r6.2.2 r8))) else ((f9 v4 r6.1 r6.2.1 r6.2.2 (0 : Int32)).bind fun r10 => (letO (f14 x8 x9) fun v12 => ((f6 v12 v4 r10.1 r10.2.1 r6.2.2 r10.2.2).bind fun r13 => (if x7 = (0 : Int32) then (if v12 < x9 then (g0_196 (1 : Int32) v4 r10.1 r10.2.1 r6.2.2 r13) else (g0_196 (0 : Int32) v4 r10.1 r10.2.1 r6.2.2 r13)) else ((f15 v4 r10.1 r10.2.1 r6.2.2 r13).bind fun r16 => (if ((1 : Int32) + x9) < (4 : Int32) then (g0_179 (1 : Int32) v4 r16.1 r16.2.1 r6.2.2 r16.2.2) else (g0_179 (0 : Int32) v4 r16.1 r16.2.1 r6.2.2 r16.2.2)))))))))))))
set_option maxRecDepth 65536 in
set_option maxHeartbeats 4000000 in
theorem b0_66 {vm0 : Vm} {k0 : Nat} {r : Int32} (C : Ctx p (s.setVm vm0) m meth c Z a0 "com/example/wirelace/wirelace/codec/WireReaderHasRemainingPinLaw" code 14 (some .boolean) "law") (X0 : Stand p l e room_1 (s.setVm vm0) m args below meth c T0 locs cells slots) (e0 : T0.heap = h0) (N0 : Fr n0 locs) (hk : cells ≤ 1) (hn : slots ≤ 4) (Z1 : n0 ≤ h0.size) (hS0 : s.Since vm0 k0) (hk0 : k0 ≤ h0.size) (n0_0 : Addr) (o0 : n0 ≤ n0_0) (q_n0_0 : List Int32) (x0 : Int32) (x1 : Int32) (x2 : Int32) (x3 : Int32) (x4 : Int32) (x5 : Int32) (x6 : Int32) (x7 : Int32) (x8 : Int32) (x9 : Int32) (u0 : Int32) (u1 : Int32) (A_n0_0_0 : AI Z h0 n0_0 .byte q_n0_0) (hr : g0_66 x3 x4 x5 x6 x7 x8 x9 u0 u1 q_n0_0 = some r) :
    RunsW p e below s (P0 n0 r) 6 146 T0 (mkF m 66 #[.val (.int x0), .val (.int x1), .val (.int x2), .val (.int x3), .val (.int x4), .val (.int x5), .val (.int x6), .val (.int x7), .val (.int x8), .val (.int x9), .val (.ref n0_0), .unset, .unset, .unset] [(.int u0), (.int u1), (.ref n0_0)]) := by
  unfold g0_66 at hr
  have ⟨hx, hZ, hw, hby, hml, hown, hret, hlk, hnm⟩ := C
  refine bindE hr ?_; intro v1 hv1 hr
  obtain ⟨T1, h1, X1, e1, W1, A1, st1⟩ := soB X0 hx hZ e0 A_n0_0_0 hv1 (g := (mkF m 66 #[.val (.int x0), .val (.int x1), .val (.int x2), .val (.int x3), .val (.int x4), .val (.int x5), .val (.int x6), .val (.int x7), .val (.int x8), .val (.int x9), .val (.ref n0_0), .unset, .unset, .unset] [(.int u0), (.int u1), (.ref n0_0)])) rfl rfl (hb hby at_66)
  have A_n0_0_1 : AI Z h1 n0_0 .byte v1 := A1
  have N1 := Fr.snoc X1 N0 (by omega : n0 ≤ n0_0)
  have zz1 : n0 ≤ h1.size := Nat.le_trans Z1 (Keep.of_wr W1).1
  have kk1 := Nat.le_trans hk0 (Keep.of_wr W1).1
  refine RunsW.via (T' := T1) (g' := (mkF m 67 #[.val (.int x0), .val (.int x1), .val (.int x2), .val (.int x3), .val (.int x4), .val (.int x5), .val (.int x6), .val (.int x7), .val (.int x8), .val (.int x9), .val (.ref n0_0), .unset, .unset, .unset] [])) (fun t k => st1 _ k) ?_
  refine RunsW.via (T' := T1) (g' := (mkF m 75 #[.val (.int x0), .val (.int x1), .val (.int x2), .val (.int x3), .val (.int x4), .val (.int x5), .val (.int x6), .val (.int x7), .val (.int x8), .val (.int x9), .val (.ref n0_0), .unset, .unset, .unset] [(.int ((x3 &&& (127 : Int32)).toInt8.toInt32)), (.int (1 : Int32)), (.ref n0_0)])) (fun t k => ?_) ?_
  · show Steps p.tables e below (T1.setTop (mkF m 67 #[.val (.int x0), .val (.int x1), .val (.int x2), .val (.int x3), .val (.int x4), .val (.int x5), .val (.int x6), .val (.int x7), .val (.int x8), .val (.int x9), .val (.ref n0_0), .unset, .unset, .unset] [])) t
    refine XS.aload X1.here hx rfl (hb hby at_67) rfl rfl ?_
    show Steps p.tables e below (T1.setTop (mkF m 69 #[.val (.int x0), .val (.int x1), .val (.int x2), .val (.int x3), .val (.int x4), .val (.int x5), .val (.int x6), .val (.int x7), .val (.int x8), .val (.int x9), .val (.ref n0_0), .unset, .unset, .unset] [(.ref n0_0)])) t
    refine XS.iconst X1.here hx rfl (hb hby at_69) ?_
    show Steps p.tables e below (T1.setTop (mkF m 70 #[.val (.int x0), .val (.int x1), .val (.int x2), .val (.int x3), .val (.int x4), .val (.int x5), .val (.int x6), .val (.int x7), .val (.int x8), .val (.int x9), .val (.ref n0_0), .unset, .unset, .unset] [(.int (1 : Int32)), (.ref n0_0)])) t
    refine XS.iloadN X1.here hx rfl (hb hby at_70) rfl ?_
    show Steps p.tables e below (T1.setTop (mkF m 71 #[.val (.int x0), .val (.int x1), .val (.int x2), .val (.int x3), .val (.int x4), .val (.int x5), .val (.int x6), .val (.int x7), .val (.int x8), .val (.int x9), .val (.ref n0_0), .unset, .unset, .unset] [(.int x3), (.int (1 : Int32)), (.ref n0_0)])) t
    refine XS.bipush X1.here hx rfl (hb hby at_71) ?_
    show Steps p.tables e below (T1.setTop (mkF m 73 #[.val (.int x0), .val (.int x1), .val (.int x2), .val (.int x3), .val (.int x4), .val (.int x5), .val (.int x6), .val (.int x7), .val (.int x8), .val (.int x9), .val (.ref n0_0), .unset, .unset, .unset] [(.int (127 : Int32)), (.int x3), (.int (1 : Int32)), (.ref n0_0)])) t
    refine XS.iand X1.here hx rfl (hb hby at_73) rfl ?_
    show Steps p.tables e below (T1.setTop (mkF m 74 #[.val (.int x0), .val (.int x1), .val (.int x2), .val (.int x3), .val (.int x4), .val (.int x5), .val (.int x6), .val (.int x7), .val (.int x8), .val (.int x9), .val (.ref n0_0), .unset, .unset, .unset] [(.int (x3 &&& (127 : Int32))), (.int (1 : Int32)), (.ref n0_0)])) t
    refine XS.i2b X1.here hx rfl (hb hby at_74) rfl ?_
    exact k
  refine bindE hr ?_; intro v2 hv2 hr
  obtain ⟨T2, h2, X2, e2, W2, A2, st2⟩ := soB X1 hx hZ e1 A_n0_0_1 hv2 (g := (mkF m 75 #[.val (.int x0), .val (.int x1), .val (.int x2), .val (.int x3), .val (.int x4), .val (.int x5), .val (.int x6), .val (.int x7), .val (.int x8), .val (.int x9), .val (.ref n0_0), .unset, .unset, .unset] [(.int ((x3 &&& (127 : Int32)).toInt8.toInt32)), (.int (1 : Int32)), (.ref n0_0)])) rfl rfl (hb hby at_75)
  have A_n0_0_2 : AI Z h2 n0_0 .byte v2 := A2
  have N2 := Fr.snoc X2 N1 (by omega : n0 ≤ n0_0)
  have zz2 : n0 ≤ h2.size := Nat.le_trans zz1 (Keep.of_wr W2).1
  have kk2 := Nat.le_trans kk1 (Keep.of_wr W2).1
  refine RunsW.via (T' := T2) (g' := (mkF m 76 #[.val (.int x0), .val (.int x1), .val (.int x2), .val (.int x3), .val (.int x4), .val (.int x5), .val (.int x6), .val (.int x7), .val (.int x8), .val (.int x9), .val (.ref n0_0), .unset, .unset, .unset] [])) (fun t k => st2 _ k) ?_
  refine RunsW.via (T' := T2) (g' := (mkF m 85 #[.val (.int x0), .val (.int x1), .val (.int x2), .val (.int x3), .val (.int x4), .val (.int x5), .val (.int x6), .val (.int x7), .val (.int x8), .val (.int x9), .val (.ref n0_0), .unset, .unset, .unset] [(.int ((x4 &&& (127 : Int32)).toInt8.toInt32)), (.int (2 : Int32)), (.ref n0_0)])) (fun t k => ?_) ?_
  · show Steps p.tables e below (T2.setTop (mkF m 76 #[.val (.int x0), .val (.int x1), .val (.int x2), .val (.int x3), .val (.int x4), .val (.int x5), .val (.int x6), .val (.int x7), .val (.int x8), .val (.int x9), .val (.ref n0_0), .unset, .unset, .unset] [])) t
    refine XS.aload X2.here hx rfl (hb hby at_76) rfl rfl ?_
    show Steps p.tables e below (T2.setTop (mkF m 78 #[.val (.int x0), .val (.int x1), .val (.int x2), .val (.int x3), .val (.int x4), .val (.int x5), .val (.int x6), .val (.int x7), .val (.int x8), .val (.int x9), .val (.ref n0_0), .unset, .unset, .unset] [(.ref n0_0)])) t
    refine XS.iconst X2.here hx rfl (hb hby at_78) ?_
    show Steps p.tables e below (T2.setTop (mkF m 79 #[.val (.int x0), .val (.int x1), .val (.int x2), .val (.int x3), .val (.int x4), .val (.int x5), .val (.int x6), .val (.int x7), .val (.int x8), .val (.int x9), .val (.ref n0_0), .unset, .unset, .unset] [(.int (2 : Int32)), (.ref n0_0)])) t
    refine XS.iload X2.here hx rfl (hb hby at_79) rfl ?_
    show Steps p.tables e below (T2.setTop (mkF m 81 #[.val (.int x0), .val (.int x1), .val (.int x2), .val (.int x3), .val (.int x4), .val (.int x5), .val (.int x6), .val (.int x7), .val (.int x8), .val (.int x9), .val (.ref n0_0), .unset, .unset, .unset] [(.int x4), (.int (2 : Int32)), (.ref n0_0)])) t
    refine XS.bipush X2.here hx rfl (hb hby at_81) ?_
    show Steps p.tables e below (T2.setTop (mkF m 83 #[.val (.int x0), .val (.int x1), .val (.int x2), .val (.int x3), .val (.int x4), .val (.int x5), .val (.int x6), .val (.int x7), .val (.int x8), .val (.int x9), .val (.ref n0_0), .unset, .unset, .unset] [(.int (127 : Int32)), (.int x4), (.int (2 : Int32)), (.ref n0_0)])) t
    refine XS.iand X2.here hx rfl (hb hby at_83) rfl ?_
    show Steps p.tables e below (T2.setTop (mkF m 84 #[.val (.int x0), .val (.int x1), .val (.int x2), .val (.int x3), .val (.int x4), .val (.int x5), .val (.int x6), .val (.int x7), .val (.int x8), .val (.int x9), .val (.ref n0_0), .unset, .unset, .unset] [(.int (x4 &&& (127 : Int32))), (.int (2 : Int32)), (.ref n0_0)])) t
    refine XS.i2b X2.here hx rfl (hb hby at_84) rfl ?_
    exact k
  refine bindE hr ?_; intro v3 hv3 hr
  obtain ⟨T3, h3, X3, e3, W3, A3, st3⟩ := soB X2 hx hZ e2 A_n0_0_2 hv3 (g := (mkF m 85 #[.val (.int x0), .val (.int x1), .val (.int x2), .val (.int x3), .val (.int x4), .val (.int x5), .val (.int x6), .val (.int x7), .val (.int x8), .val (.int x9), .val (.ref n0_0), .unset, .unset, .unset] [(.int ((x4 &&& (127 : Int32)).toInt8.toInt32)), (.int (2 : Int32)), (.ref n0_0)])) rfl rfl (hb hby at_85)
  have A_n0_0_3 : AI Z h3 n0_0 .byte v3 := A3
  have N3 := Fr.snoc X3 N2 (by omega : n0 ≤ n0_0)
  have zz3 : n0 ≤ h3.size := Nat.le_trans zz2 (Keep.of_wr W3).1
  have kk3 := Nat.le_trans kk2 (Keep.of_wr W3).1
  refine RunsW.via (T' := T3) (g' := (mkF m 86 #[.val (.int x0), .val (.int x1), .val (.int x2), .val (.int x3), .val (.int x4), .val (.int x5), .val (.int x6), .val (.int x7), .val (.int x8), .val (.int x9), .val (.ref n0_0), .unset, .unset, .unset] [])) (fun t k => st3 _ k) ?_
  refine RunsW.via (T' := T3) (g' := (mkF m 95 #[.val (.int x0), .val (.int x1), .val (.int x2), .val (.int x3), .val (.int x4), .val (.int x5), .val (.int x6), .val (.int x7), .val (.int x8), .val (.int x9), .val (.ref n0_0), .unset, .unset, .unset] [(.int ((x5 &&& (127 : Int32)).toInt8.toInt32)), (.int (3 : Int32)), (.ref n0_0)])) (fun t k => ?_) ?_
  · show Steps p.tables e below (T3.setTop (mkF m 86 #[.val (.int x0), .val (.int x1), .val (.int x2), .val (.int x3), .val (.int x4), .val (.int x5), .val (.int x6), .val (.int x7), .val (.int x8), .val (.int x9), .val (.ref n0_0), .unset, .unset, .unset] [])) t
    refine XS.aload X3.here hx rfl (hb hby at_86) rfl rfl ?_
    show Steps p.tables e below (T3.setTop (mkF m 88 #[.val (.int x0), .val (.int x1), .val (.int x2), .val (.int x3), .val (.int x4), .val (.int x5), .val (.int x6), .val (.int x7), .val (.int x8), .val (.int x9), .val (.ref n0_0), .unset, .unset, .unset] [(.ref n0_0)])) t
    refine XS.iconst X3.here hx rfl (hb hby at_88) ?_
    show Steps p.tables e below (T3.setTop (mkF m 89 #[.val (.int x0), .val (.int x1), .val (.int x2), .val (.int x3), .val (.int x4), .val (.int x5), .val (.int x6), .val (.int x7), .val (.int x8), .val (.int x9), .val (.ref n0_0), .unset, .unset, .unset] [(.int (3 : Int32)), (.ref n0_0)])) t
    refine XS.iload X3.here hx rfl (hb hby at_89) rfl ?_
    show Steps p.tables e below (T3.setTop (mkF m 91 #[.val (.int x0), .val (.int x1), .val (.int x2), .val (.int x3), .val (.int x4), .val (.int x5), .val (.int x6), .val (.int x7), .val (.int x8), .val (.int x9), .val (.ref n0_0), .unset, .unset, .unset] [(.int x5), (.int (3 : Int32)), (.ref n0_0)])) t
    refine XS.bipush X3.here hx rfl (hb hby at_91) ?_
    show Steps p.tables e below (T3.setTop (mkF m 93 #[.val (.int x0), .val (.int x1), .val (.int x2), .val (.int x3), .val (.int x4), .val (.int x5), .val (.int x6), .val (.int x7), .val (.int x8), .val (.int x9), .val (.ref n0_0), .unset, .unset, .unset] [(.int (127 : Int32)), (.int x5), (.int (3 : Int32)), (.ref n0_0)])) t
    refine XS.iand X3.here hx rfl (hb hby at_93) rfl ?_
    show Steps p.tables e below (T3.setTop (mkF m 94 #[.val (.int x0), .val (.int x1), .val (.int x2), .val (.int x3), .val (.int x4), .val (.int x5), .val (.int x6), .val (.int x7), .val (.int x8), .val (.int x9), .val (.ref n0_0), .unset, .unset, .unset] [(.int (x5 &&& (127 : Int32))), (.int (3 : Int32)), (.ref n0_0)])) t
    refine XS.i2b X3.here hx rfl (hb hby at_94) rfl ?_
    exact k
  refine bindE hr ?_; intro v4 hv4 hr
  obtain ⟨T4, h4, X4, e4, W4, A4, st4⟩ := soB X3 hx hZ e3 A_n0_0_3 hv4 (g := (mkF m 95 #[.val (.int x0), .val (.int x1), .val (.int x2), .val (.int x3), .val (.int x4), .val (.int x5), .val (.int x6), .val (.int x7), .val (.int x8), .val (.int x9), .val (.ref n0_0), .unset, .unset, .unset] [(.int ((x5 &&& (127 : Int32)).toInt8.toInt32)), (.int (3 : Int32)), (.ref n0_0)])) rfl rfl (hb hby at_95)
  have A_n0_0_4 : AI Z h4 n0_0 .byte v4 := A4
  have N4 := Fr.snoc X4 N3 (by omega : n0 ≤ n0_0)
  have zz4 : n0 ≤ h4.size := Nat.le_trans zz3 (Keep.of_wr W4).1
  have kk4 := Nat.le_trans kk3 (Keep.of_wr W4).1
  refine RunsW.via (T' := T4) (g' := (mkF m 96 #[.val (.int x0), .val (.int x1), .val (.int x2), .val (.int x3), .val (.int x4), .val (.int x5), .val (.int x6), .val (.int x7), .val (.int x8), .val (.int x9), .val (.ref n0_0), .unset, .unset, .unset] [])) (fun t k => st4 _ k) ?_
  obtain ⟨T5, h5, X5, e5, E5, A5, D5, -, st5⟩ := newO X4 hx hZ hown (hw _ (List.mem_of_getElem? (i := 2) rfl)) (hw _ (List.mem_of_getElem? (i := 3) rfl)) (hw _ (List.mem_of_getElem? (i := 4) rfl)) e4 (g := (mkF m 96 #[.val (.int x0), .val (.int x1), .val (.int x2), .val (.int x3), .val (.int x4), .val (.int x5), .val (.int x6), .val (.int x7), .val (.int x8), .val (.int x9), .val (.ref n0_0), .unset, .unset, .unset] [])) rfl (hb hby at_96) (by show cells + 1 ≤ 16; omega) (by show slots + 14 ≤ 2176; omega)
  obtain ⟨b96, g5⟩ : ∃ z, z = h4.size := ⟨_, rfl⟩
  rw [← g5] at A5 D5 st5
  have i5 := E5.1
  have A_n0_0_5 := A_n0_0_4.ext E5
  have kk5 := Nat.le_trans kk4 i5
  have zz5 : n0 ≤ h5.size := Nat.le_trans zz4 i5
  have E_b96_5 := A5
  have F_b96_packedOuterLimit_5 : Fld Z h5 b96 "com/example/wirelace/wirelace/codec/WireReader" "packedOuterLimit" "I" (.int (0 : Int32)) := D5 (Or.inl (hw _ (List.mem_of_getElem? (i := 15) rfl))) (ty := .int) (by decide)
  have F_b96_message_5 : Fld Z h5 b96 "com/example/wirelace/wirelace/codec/WireReader" "message" "[B" .null := D5 (Or.inr (hw _ (List.mem_of_getElem? (i := 30) rfl))) (ty := (.array .byte)) (by decide)
  have F_b96_limit_5 : Fld Z h5 b96 "com/example/wirelace/wirelace/codec/WireReader" "limit" "I" (.int (0 : Int32)) := D5 (Or.inl (hw _ (List.mem_of_getElem? (i := 32) rfl))) (ty := .int) (by decide)
  have F_b96_maxDepth_5 : Fld Z h5 b96 "com/example/wirelace/wirelace/codec/WireReader" "maxDepth" "I" (.int (0 : Int32)) := D5 (Or.inr (hw _ (List.mem_of_getElem? (i := 37) rfl))) (ty := .int) (by decide)
  have F_b96_position_5 : Fld Z h5 b96 "com/example/wirelace/wirelace/codec/WireReader" "position" "I" (.int (0 : Int32)) := D5 (Or.inl (hw _ (List.mem_of_getElem? (i := 48) rfl))) (ty := .int) (by decide)
  have pb96 : @LT.lt Nat instLTNat n0_0 b96 := by have : @LT.lt Nat instLTNat _ _ := A_n0_0_4.lt; omega
  have sb96 : n0 ≤ b96 := by omega
  refine RunsW.via (T' := T5) (g' := (mkF m 99 #[.val (.int x0), .val (.int x1), .val (.int x2), .val (.int x3), .val (.int x4), .val (.int x5), .val (.int x6), .val (.int x7), .val (.int x8), .val (.int x9), .val (.ref n0_0), .unset, .unset, .unset] [(.ref b96)])) (fun t k => st5 _ k) ?_
  refine RunsW.via (T' := T5) (g' := (mkF m 102 #[.val (.int x0), .val (.int x1), .val (.int x2), .val (.int x3), .val (.int x4), .val (.int x5), .val (.int x6), .val (.int x7), .val (.int x8), .val (.int x9), .val (.ref n0_0), .unset, .unset, .unset] [(.ref n0_0), (.ref b96), (.ref b96)])) (fun t k => ?_) ?_
  · show Steps p.tables e below (T5.setTop (mkF m 99 #[.val (.int x0), .val (.int x1), .val (.int x2), .val (.int x3), .val (.int x4), .val (.int x5), .val (.int x6), .val (.int x7), .val (.int x8), .val (.int x9), .val (.ref n0_0), .unset, .unset, .unset] [(.ref b96)])) t
    refine XS.dup X5.here hx rfl (hb hby at_99) rfl rfl ?_
    show Steps p.tables e below (T5.setTop (mkF m 100 #[.val (.int x0), .val (.int x1), .val (.int x2), .val (.int x3), .val (.int x4), .val (.int x5), .val (.int x6), .val (.int x7), .val (.int x8), .val (.int x9), .val (.ref n0_0), .unset, .unset, .unset] [(.ref b96), (.ref b96)])) t
    refine XS.aload X5.here hx rfl (hb hby at_100) rfl rfl ?_
    exact k
  refine bindE hr ?_; intro r6 hr6m hr
  obtain ⟨_, _, ⟨T6, L6, k6, n6⟩, -, X6, hS6q, gr6, ⟨Lc6, hQ6, l6, y6, z6⟩, st6⟩ := X5.specialBackS hx (y := (⟨"com/example/wirelace/wirelace/codec/WireReader", "<init>", "([B)V"⟩ : MethodName)) rfl hown (mvT hZ (hw _ (List.mem_of_getElem? (i := 5) rfl))) (mvT hZ (hw _ (List.mem_of_getElem? (i := 6) rfl))) (mvT hZ (hw _ (List.mem_of_getElem? (i := 7) rfl))) (by decide) (backOfS (W := 1) (rm1 l Z a0 hw [] n0_0 b96 v4 (0 : Int32) (0 : Int32) (0 : Int32) (0 : Int32) h5 n0 zz5 (by omega) (by omega) A_n0_0_5 E_b96_5 F_b96_packedOuterLimit_5 F_b96_message_5 F_b96_limit_5 F_b96_maxDepth_5 F_b96_position_5 r6 hr6m) hZ (hw _ (List.mem_of_getElem? (i := 7) rfl)) (hw _ (List.mem_of_getElem? (i := 4) rfl)) (by decide) (by decide)) (g := (mkF m 102 #[.val (.int x0), .val (.int x1), .val (.int x2), .val (.int x3), .val (.int x4), .val (.int x5), .val (.int x6), .val (.int x7), .val (.int x8), .val (.int x9), .val (.ref n0_0), .unset, .unset, .unset] [(.ref n0_0), (.ref b96), (.ref b96)])) rfl (by rw [hml]; rfl) (Steps.refl _) (a := b96) (argsL := [(.ref n0_0)]) (rest := [(.ref b96)]) (lenOf pd_3 rfl) rfl (by show 2 * 0 + _ ≤ _; exact Nat.le_of_eq rfl) (hb hby at_102) (fun _ _ => ⟨rfl, e5, (by show (cells + 1) + 2 ≤ 16; omega), (by show (slots + 14) + 92 ≤ 2176; omega)⟩)
  dsimp only [Pt.U, Pt.locs, Pt.cells, Pt.slots] at X6 hS6q gr6 l6 y6 z6 st6 hQ6
  replace y6 := y6.symm; replace z6 := z6.symm; subst l6 y6 z6
  obtain ⟨X6, hS6, hZ, hown⟩ := rebS hS0 (by first | (rw [e5]; exact kk5) | exact Nat.le_refl _) X6 hS6q gr6 hZ hown
  have C : Ctx p (s.setVm T6.vm) m meth c Z a0 "com/example/wirelace/wirelace/codec/WireReaderHasRemainingPinLaw" code 14 (some .boolean) "law" := ⟨hx, hZ, hw, hby, hml, hown, hret, hlk, hnm⟩
  obtain ⟨h6, e6⟩ : ∃ z, T6.heap = z := ⟨_, rfl⟩
  rw [e6] at hQ6
  obtain ⟨rfl, N6q, K6q, E_b96_6, F_b96_packedOuterLimit_6, F_b96_message_6, F_b96_limit_6, F_b96_maxDepth_6, F_b96_position_6⟩ := hQ6
  have N6 := Fr.app N4 N6q
  have A_n0_0_6 := A_n0_0_5.keep K6q (ninS (by omega : @Ne Nat n0_0 b96) nin0)
  have zz6 : n0 ≤ h6.size := Nat.le_trans zz5 K6q.1
  have kk6 : T6.heap.size ≤ h6.size := Nat.le_of_eq (by rw [e6])
  refine RunsW.via (T' := T6) (g' := (mkF m 105 #[.val (.int x0), .val (.int x1), .val (.int x2), .val (.int x3), .val (.int x4), .val (.int x5), .val (.int x6), .val (.int x7), .val (.int x8), .val (.int x9), .val (.ref n0_0), .unset, .unset, .unset] [(.ref b96)])) (fun t k => st6.trans k) ?_
  refine RunsW.via (T' := T6) (g' := (mkF m 109 #[.val (.int x0), .val (.int x1), .val (.int x2), .val (.int x3), .val (.int x4), .val (.int x5), .val (.int x6), .val (.int x7), .val (.int x8), .val (.int x9), .val (.ref n0_0), .val (.ref b96), .unset, .unset] [(.int x6)])) (fun t k => ?_) ?_
  · show Steps p.tables e below (T6.setTop (mkF m 105 #[.val (.int x0), .val (.int x1), .val (.int x2), .val (.int x3), .val (.int x4), .val (.int x5), .val (.int x6), .val (.int x7), .val (.int x8), .val (.int x9), .val (.ref n0_0), .unset, .unset, .unset] [(.ref b96)])) t
    refine XS.astore X6.here hx rfl (hb hby at_105) rfl rfl (l' := #[.val (.int x0), .val (.int x1), .val (.int x2), .val (.int x3), .val (.int x4), .val (.int x5), .val (.int x6), .val (.int x7), .val (.int x8), .val (.int x9), .val (.ref n0_0), .val (.ref b96), .unset, .unset]) rfl ?_
    show Steps p.tables e below (T6.setTop (mkF m 107 #[.val (.int x0), .val (.int x1), .val (.int x2), .val (.int x3), .val (.int x4), .val (.int x5), .val (.int x6), .val (.int x7), .val (.int x8), .val (.int x9), .val (.ref n0_0), .val (.ref b96), .unset, .unset] [])) t
    refine XS.iload X6.here hx rfl (hb hby at_107) rfl ?_
    exact k
  refine iteE hr (fun hc7 hr => ?_) (fun hc7 hr => ?_)
  · refine RunsW.via (T' := T6) (g' := (mkF m 112 #[.val (.int x0), .val (.int x1), .val (.int x2), .val (.int x3), .val (.int x4), .val (.int x5), .val (.int x6), .val (.int x7), .val (.int x8), .val (.int x9), .val (.ref n0_0), .val (.ref b96), .unset, .unset] [])) (fun t k => ?_) ?_
    · show Steps p.tables e below (T6.setTop (mkF m 109 #[.val (.int x0), .val (.int x1), .val (.int x2), .val (.int x3), .val (.int x4), .val (.int x5), .val (.int x6), .val (.int x7), .val (.int x8), .val (.int x9), .val (.ref n0_0), .val (.ref b96), .unset, .unset] [(.int x6)])) t
      exact XS.ifNo X6.here hx rfl (hb hby at_109) rfl ((if0 _ _).trans (teq hc7).2) k
    refine RunsW.via (T' := T6) (g' := (mkF m 116 #[.val (.int x0), .val (.int x1), .val (.int x2), .val (.int x3), .val (.int x4), .val (.int x5), .val (.int x6), .val (.int x7), .val (.int x8), .val (.int x9), .val (.ref n0_0), .val (.ref b96), .unset, .unset] [(.int x8), (.ref b96)])) (fun t k => ?_) ?_
    · show Steps p.tables e below (T6.setTop (mkF m 112 #[.val (.int x0), .val (.int x1), .val (.int x2), .val (.int x3), .val (.int x4), .val (.int x5), .val (.int x6), .val (.int x7), .val (.int x8), .val (.int x9), .val (.ref n0_0), .val (.ref b96), .unset, .unset] [])) t
      refine XS.aload X6.here hx rfl (hb hby at_112) rfl rfl ?_
      show Steps p.tables e below (T6.setTop (mkF m 114 #[.val (.int x0), .val (.int x1), .val (.int x2), .val (.int x3), .val (.int x4), .val (.int x5), .val (.int x6), .val (.int x7), .val (.int x8), .val (.int x9), .val (.ref n0_0), .val (.ref b96), .unset, .unset] [(.ref b96)])) t
      refine XS.iload X6.here hx rfl (hb hby at_114) rfl ?_
      exact k
    refine bindE hr ?_; intro r8 hr8m hr
    obtain ⟨_, _, ⟨T8, L8, k8, n8⟩, -, X8, ⟨Lc8, hQ8, l8, y8, z8⟩, st8⟩ := Jvm.LawKit.callS X6 hx (y := (⟨"com/example/wirelace/wirelace/codec/WireReaderHasRemainingPinLaw", "readN", "(Lcom/example/wirelace/wirelace/codec/WireReader;I)V"⟩ : MethodName)) hown (mvT hZ (hw _ (List.mem_of_getElem? (i := 38) rfl))) (mvT hZ (hw _ (List.mem_of_getElem? (i := 39) rfl))) (mvT hZ (hw _ (List.mem_of_getElem? (i := 40) rfl))) (mvT hZ (hw _ (List.mem_of_getElem? (i := 41) rfl))) (by decide) (backOf (W := 0) (rm6 l Z a0 hw [] x8 n0_0 b96 v4 r6.1 r6.2.1 r6.2.2 (0 : Int32) h6 n0 zz6 (by omega) (by omega) A_n0_0_6 E_b96_6 F_b96_packedOuterLimit_6 F_b96_message_6 F_b96_limit_6 F_b96_maxDepth_6 F_b96_position_6 r8 hr8m) hZ (hw _ (List.mem_of_getElem? (i := 41) rfl)) (hw _ (List.mem_of_getElem? (i := 40) rfl)) (by decide) (by decide)) (g := (mkF m 116 #[.val (.int x0), .val (.int x1), .val (.int x2), .val (.int x3), .val (.int x4), .val (.int x5), .val (.int x6), .val (.int x7), .val (.int x8), .val (.int x9), .val (.ref n0_0), .val (.ref b96), .unset, .unset] [(.int x8), (.ref b96)])) rfl (by rw [hml]; rfl) (argsL := [(.ref b96), (.int x8)]) (rest := []) (lenOf pd_5 rfl) rfl (by show 2 * 0 + _ ≤ _; exact Nat.le_of_eq rfl) (hb hby at_116) (fun _ _ => ⟨rfl, e6, (by show ((cells + 1) + 2) + 0 ≤ 16; omega), (by show ((slots + 14) + 92) + 0 ≤ 2176; omega)⟩)
    dsimp only [Pt.U, Pt.locs, Pt.cells, Pt.slots] at X8 l8 y8 z8 st8 hQ8
    replace y8 := y8.symm; replace z8 := z8.symm; subst l8 y8 z8
    obtain ⟨h8, e8⟩ : ∃ z, T8.heap = z := ⟨_, rfl⟩
    rw [e8] at hQ8
    obtain ⟨rfl, N8q, K8q, E_b96_8, F_b96_packedOuterLimit_8, F_b96_message_8, F_b96_limit_8, F_b96_maxDepth_8, F_b96_position_8⟩ := hQ8
    have N8 := Fr.app N6 N8q
    have A_n0_0_8 := A_n0_0_6.keep K8q (ninS (by omega : @Ne Nat n0_0 b96) nin0)
    have zz8 : n0 ≤ h8.size := Nat.le_trans zz6 K8q.1
    have kk8 := Nat.le_trans kk6 K8q.1
    refine RunsW.via (T' := T8) (g' := (mkF m 119 #[.val (.int x0), .val (.int x1), .val (.int x2), .val (.int x3), .val (.int x4), .val (.int x5), .val (.int x6), .val (.int x7), .val (.int x8), .val (.int x9), .val (.ref n0_0), .val (.ref b96), .unset, .unset] [])) (fun t k => st8 _ k) ?_
    refine RunsW.via (T' := T8) (g' := (mkF m 122 #[.val (.int x0), .val (.int x1), .val (.int x2), .val (.int x3), .val (.int x4), .val (.int x5), .val (.int x6), .val (.int x7), .val (.int x8), .val (.int x9), .val (.ref n0_0), .val (.ref b96), .unset, .unset] [(.int (4 : Int32)), (.int x8)])) (fun t k => ?_) ?_
    · show Steps p.tables e below (T8.setTop (mkF m 119 #[.val (.int x0), .val (.int x1), .val (.int x2), .val (.int x3), .val (.int x4), .val (.int x5), .val (.int x6), .val (.int x7), .val (.int x8), .val (.int x9), .val (.ref n0_0), .val (.ref b96), .unset, .unset] [])) t
      refine XS.iload X8.here hx rfl (hb hby at_119) rfl ?_
      show Steps p.tables e below (T8.setTop (mkF m 121 #[.val (.int x0), .val (.int x1), .val (.int x2), .val (.int x3), .val (.int x4), .val (.int x5), .val (.int x6), .val (.int x7), .val (.int x8), .val (.int x9), .val (.ref n0_0), .val (.ref b96), .unset, .unset] [(.int x8)])) t
      refine XS.iconst X8.here hx rfl (hb hby at_121) ?_
      exact k
    refine iteE hr (fun hc9 hr => ?_) (fun hc9 hr => ?_)
    · refine RunsW.via (T' := T8) (g' := (mkF m 125 #[.val (.int x0), .val (.int x1), .val (.int x2), .val (.int x3), .val (.int x4), .val (.int x5), .val (.int x6), .val (.int x7), .val (.int x8), .val (.int x9), .val (.ref n0_0), .val (.ref b96), .unset, .unset] [])) (fun t k => ?_) ?_
      · show Steps p.tables e below (T8.setTop (mkF m 122 #[.val (.int x0), .val (.int x1), .val (.int x2), .val (.int x3), .val (.int x4), .val (.int x5), .val (.int x6), .val (.int x7), .val (.int x8), .val (.int x9), .val (.ref n0_0), .val (.ref b96), .unset, .unset] [(.int (4 : Int32)), (.int x8)])) t
        exact XS.icmpNo X8.here hx rfl (hb hby at_122) rfl (tlt hc9).2.1 k
      refine RunsW.via (T' := T8) (g' := (mkF m 130 #[.val (.int x0), .val (.int x1), .val (.int x2), .val (.int x3), .val (.int x4), .val (.int x5), .val (.int x6), .val (.int x7), .val (.int x8), .val (.int x9), .val (.ref n0_0), .val (.ref b96), .unset, .unset] [(.int (1 : Int32))])) (fun t k => ?_) ?_
      · show Steps p.tables e below (T8.setTop (mkF m 125 #[.val (.int x0), .val (.int x1), .val (.int x2), .val (.int x3), .val (.int x4), .val (.int x5), .val (.int x6), .val (.int x7), .val (.int x8), .val (.int x9), .val (.ref n0_0), .val (.ref b96), .unset, .unset] [])) t
        refine XS.iconst X8.here hx rfl (hb hby at_125) ?_
        show Steps p.tables e below (T8.setTop (mkF m 126 #[.val (.int x0), .val (.int x1), .val (.int x2), .val (.int x3), .val (.int x4), .val (.int x5), .val (.int x6), .val (.int x7), .val (.int x8), .val (.int x9), .val (.ref n0_0), .val (.ref b96), .unset, .unset] [(.int (1 : Int32))])) t
        refine XS.goto X8.here hx rfl (pc0 := 126) (pc' := 130) rfl (hb hby at_126) (by decide) (by decide) ?_
        exact k
      exact b0_130 C X8 e8 N8 (by show (((cells + 1) + 2) + 0) ≤ 4; omega) (by show (((slots + 14) + 92) + 0) ≤ 110; omega) zz8 hS6 kk8 n0_0 b96 (by omega) (by omega) v4 r6.1 r6.2.1 r6.2.2 r8 x0 x1 x2 x3 x4 x5 x6 x7 x8 x9 (1 : Int32) A_n0_0_8 E_b96_8 F_b96_packedOuterLimit_8 F_b96_message_8 F_b96_limit_8 F_b96_maxDepth_8 F_b96_position_8 hr
    · refine RunsW.via (T' := T8) (g' := (mkF m 129 #[.val (.int x0), .val (.int x1), .val (.int x2), .val (.int x3), .val (.int x4), .val (.int x5), .val (.int x6), .val (.int x7), .val (.int x8), .val (.int x9), .val (.ref n0_0), .val (.ref b96), .unset, .unset] [])) (fun t k => ?_) ?_
      · show Steps p.tables e below (T8.setTop (mkF m 122 #[.val (.int x0), .val (.int x1), .val (.int x2), .val (.int x3), .val (.int x4), .val (.int x5), .val (.int x6), .val (.int x7), .val (.int x8), .val (.int x9), .val (.ref n0_0), .val (.ref b96), .unset, .unset] [(.int (4 : Int32)), (.int x8)])) t
        exact XS.icmpYes X8.here hx rfl (pc0 := 122) (pc' := 129) rfl (hb hby at_122) rfl (flt hc9).2.1 (by decide) (by decide) k
      refine RunsW.via (T' := T8) (g' := (mkF m 130 #[.val (.int x0), .val (.int x1), .val (.int x2), .val (.int x3), .val (.int x4), .val (.int x5), .val (.int x6), .val (.int x7), .val (.int x8), .val (.int x9), .val (.ref n0_0), .val (.ref b96), .unset, .unset] [(.int (0 : Int32))])) (fun t k => ?_) ?_
      · show Steps p.tables e below (T8.setTop (mkF m 129 #[.val (.int x0), .val (.int x1), .val (.int x2), .val (.int x3), .val (.int x4), .val (.int x5), .val (.int x6), .val (.int x7), .val (.int x8), .val (.int x9), .val (.ref n0_0), .val (.ref b96), .unset, .unset] [])) t
        refine XS.iconst X8.here hx rfl (hb hby at_129) ?_
        exact k
      exact b0_130 C X8 e8 N8 (by show (((cells + 1) + 2) + 0) ≤ 4; omega) (by show (((slots + 14) + 92) + 0) ≤ 110; omega) zz8 hS6 kk8 n0_0 b96 (by omega) (by omega) v4 r6.1 r6.2.1 r6.2.2 r8 x0 x1 x2 x3 x4 x5 x6 x7 x8 x9 (0 : Int32) A_n0_0_8 E_b96_8 F_b96_packedOuterLimit_8 F_b96_message_8 F_b96_limit_8 F_b96_maxDepth_8 F_b96_position_8 hr
  · refine RunsW.via (T' := T6) (g' := (mkF m 135 #[.val (.int x0), .val (.int x1), .val (.int x2), .val (.int x3), .val (.int x4), .val (.int x5), .val (.int x6), .val (.int x7), .val (.int x8), .val (.int x9), .val (.ref n0_0), .val (.ref b96), .unset, .unset] [])) (fun t k => ?_) ?_
    · show Steps p.tables e below (T6.setTop (mkF m 109 #[.val (.int x0), .val (.int x1), .val (.int x2), .val (.int x3), .val (.int x4), .val (.int x5), .val (.int x6), .val (.int x7), .val (.int x8), .val (.int x9), .val (.ref n0_0), .val (.ref b96), .unset, .unset] [(.int x6)])) t
      exact XS.ifYes X6.here hx rfl (pc0 := 109) (pc' := 135) rfl (hb hby at_109) rfl ((if0 _ _).trans (feq hc7).2) (by decide) (by decide) k
    refine RunsW.via (T' := T6) (g' := (mkF m 137 #[.val (.int x0), .val (.int x1), .val (.int x2), .val (.int x3), .val (.int x4), .val (.int x5), .val (.int x6), .val (.int x7), .val (.int x8), .val (.int x9), .val (.ref n0_0), .val (.ref b96), .unset, .unset] [(.ref b96)])) (fun t k => ?_) ?_
    · show Steps p.tables e below (T6.setTop (mkF m 135 #[.val (.int x0), .val (.int x1), .val (.int x2), .val (.int x3), .val (.int x4), .val (.int x5), .val (.int x6), .val (.int x7), .val (.int x8), .val (.int x9), .val (.ref n0_0), .val (.ref b96), .unset, .unset] [])) t
      refine XS.aload X6.here hx rfl (hb hby at_135) rfl rfl ?_
      exact k
    refine bindE hr ?_; intro r10 hr10m hr
    obtain ⟨cq10, kq10, q10a, q10b, q10c⟩ := isOf hZ e6 E_b96_6
    obtain ⟨_, _, ⟨T10, L10, k10, n10⟩, -, X10, hS10q, gr10, ⟨Lc10, hQ10, l10, y10, z10⟩, st10⟩ := X6.virtualBackS hx (y := (⟨"com/example/wirelace/wirelace/codec/WireReader", "enterPacked", "()V"⟩ : MethodName)) (z := (⟨"com/example/wirelace/wirelace/codec/WireReader", "enterPacked", "()V"⟩ : MethodName)) hown (mvT hZ (hw _ (List.mem_of_getElem? (i := 54) rfl))) (mvT hZ (hw _ (List.mem_of_getElem? (i := 55) rfl))) (notFace_of_selects (args := #[]) (mvT hZ (hw _ (List.mem_of_getElem? (i := 57) rfl)))) (mvT hZ (hw _ (List.mem_of_getElem? (i := 57) rfl))) (mvT hZ (hw _ (List.mem_of_getElem? (i := 56) rfl))) (by decide) (backOfS (W := 0) (rm9 l Z a0 hw [] n0_0 b96 v4 r6.1 r6.2.1 r6.2.2 (0 : Int32) h6 n0 zz6 (by omega) (by omega) A_n0_0_6 E_b96_6 F_b96_packedOuterLimit_6 F_b96_message_6 F_b96_limit_6 F_b96_maxDepth_6 F_b96_position_6 r10 hr10m) hZ (hw _ (List.mem_of_getElem? (i := 58) rfl)) (hw _ (List.mem_of_getElem? (i := 4) rfl)) (by decide) (by decide)) q10a q10c (g := (mkF m 137 #[.val (.int x0), .val (.int x1), .val (.int x2), .val (.int x3), .val (.int x4), .val (.int x5), .val (.int x6), .val (.int x7), .val (.int x8), .val (.int x9), .val (.ref n0_0), .val (.ref b96), .unset, .unset] [(.ref b96)])) rfl (by rw [hml]; rfl) (Steps.refl _) (argsL := []) (rest := []) (lenOf pd_9 rfl) rfl (by show 2 * 0 + _ ≤ _; exact Nat.le_of_eq rfl) (hb hby at_137) (fun _ _ => ⟨rfl, e6, (by show ((cells + 1) + 2) + 2 ≤ 16; omega), (by show ((slots + 14) + 92) + 36 ≤ 2176; omega)⟩)
    dsimp only [Pt.U, Pt.locs, Pt.cells, Pt.slots] at X10 hS10q gr10 l10 y10 z10 st10 hQ10
    replace y10 := y10.symm; replace z10 := z10.symm; subst l10 y10 z10
    obtain ⟨X10, hS10, hZ, hown⟩ := rebS hS6 (by first | (rw [e6]; exact kk6) | exact Nat.le_refl _) X10 hS10q gr10 hZ hown
    have C : Ctx p (s.setVm T10.vm) m meth c Z a0 "com/example/wirelace/wirelace/codec/WireReaderHasRemainingPinLaw" code 14 (some .boolean) "law" := ⟨hx, hZ, hw, hby, hml, hown, hret, hlk, hnm⟩
    obtain ⟨h10, e10⟩ : ∃ z, T10.heap = z := ⟨_, rfl⟩
    rw [e10] at hQ10
    obtain ⟨rfl, N10q, K10q, E_b96_10, F_b96_packedOuterLimit_10, F_b96_message_10, F_b96_limit_10, F_b96_maxDepth_10, F_b96_position_10⟩ := hQ10
    have N10 := Fr.app N6 N10q
    have A_n0_0_10 := A_n0_0_6.keep K10q (ninS (by omega : @Ne Nat n0_0 b96) nin0)
    have zz10 : n0 ≤ h10.size := Nat.le_trans zz6 K10q.1
    have kk10 : T10.heap.size ≤ h10.size := Nat.le_of_eq (by rw [e10])
    refine RunsW.via (T' := T10) (g' := (mkF m 140 #[.val (.int x0), .val (.int x1), .val (.int x2), .val (.int x3), .val (.int x4), .val (.int x5), .val (.int x6), .val (.int x7), .val (.int x8), .val (.int x9), .val (.ref n0_0), .val (.ref b96), .unset, .unset] [])) (fun t k => st10.trans k) ?_
    refine RunsW.via (T' := T10) (g' := (mkF m 144 #[.val (.int x0), .val (.int x1), .val (.int x2), .val (.int x3), .val (.int x4), .val (.int x5), .val (.int x6), .val (.int x7), .val (.int x8), .val (.int x9), .val (.ref n0_0), .val (.ref b96), .unset, .unset] [(.int x9), (.int x8)])) (fun t k => ?_) ?_
    · show Steps p.tables e below (T10.setTop (mkF m 140 #[.val (.int x0), .val (.int x1), .val (.int x2), .val (.int x3), .val (.int x4), .val (.int x5), .val (.int x6), .val (.int x7), .val (.int x8), .val (.int x9), .val (.ref n0_0), .val (.ref b96), .unset, .unset] [])) t
      refine XS.iload X10.here hx rfl (hb hby at_140) rfl ?_
      show Steps p.tables e below (T10.setTop (mkF m 142 #[.val (.int x0), .val (.int x1), .val (.int x2), .val (.int x3), .val (.int x4), .val (.int x5), .val (.int x6), .val (.int x7), .val (.int x8), .val (.int x9), .val (.ref n0_0), .val (.ref b96), .unset, .unset] [(.int x8)])) t
      refine XS.iload X10.here hx rfl (hb hby at_142) rfl ?_
      exact k
    obtain ⟨_, _, ⟨T11, L11, k11, n11⟩, -, X11, ⟨Lc11, hQ11, l11, y11, z11⟩, st11⟩ := Jvm.LawKit.callS X10 hx (y := (⟨"java/lang/Math", "min", "(II)I"⟩ : MethodName)) hown (mvT hZ (hw _ (List.mem_of_getElem? (i := 77) rfl))) (mvT hZ (hw _ (List.mem_of_getElem? (i := 78) rfl))) (mvT hZ (hw _ (List.mem_of_getElem? (i := 79) rfl))) (mvT hZ (hw _ (List.mem_of_getElem? (i := 80) rfl))) (by decide) (backOf (W := 0) (rm14 l Z a0 hw [] x8 x9 h10 n0) hZ (hw _ (List.mem_of_getElem? (i := 80) rfl)) (hw _ (List.mem_of_getElem? (i := 79) rfl)) (by decide) (by decide)) (g := (mkF m 144 #[.val (.int x0), .val (.int x1), .val (.int x2), .val (.int x3), .val (.int x4), .val (.int x5), .val (.int x6), .val (.int x7), .val (.int x8), .val (.int x9), .val (.ref n0_0), .val (.ref b96), .unset, .unset] [(.int x9), (.int x8)])) rfl (by rw [hml]; rfl) (argsL := [(.int x8), (.int x9)]) (rest := []) (lenOf pd_10 rfl) rfl (by show 2 * 0 + _ ≤ _; exact Nat.le_of_eq rfl) (hb hby at_144) (fun _ _ => ⟨rfl, e10, (by show (((cells + 1) + 2) + 2) + 0 ≤ 16; omega), (by show (((slots + 14) + 92) + 36) + 0 ≤ 2176; omega)⟩)
    dsimp only [Pt.U, Pt.locs, Pt.cells, Pt.slots] at X11 l11 y11 z11 st11 hQ11
    replace y11 := y11.symm; replace z11 := z11.symm; subst l11 y11 z11
    obtain ⟨rfl, N11q, e11⟩ := hQ11
    have N11 := Fr.app N10 N11q
    refine RunsW.via (T' := T11) (g' := (mkF m 147 #[.val (.int x0), .val (.int x1), .val (.int x2), .val (.int x3), .val (.int x4), .val (.int x5), .val (.int x6), .val (.int x7), .val (.int x8), .val (.int x9), .val (.ref n0_0), .val (.ref b96), .unset, .unset] [(.int (f14 x8 x9))])) (fun t k => st11 _ k) ?_
    refine letE hr ?_; intro v12 hv12 hr
    rw [← hv12]
    refine RunsW.via (T' := T11) (g' := (mkF m 153 #[.val (.int x0), .val (.int x1), .val (.int x2), .val (.int x3), .val (.int x4), .val (.int x5), .val (.int x6), .val (.int x7), .val (.int x8), .val (.int x9), .val (.ref n0_0), .val (.ref b96), .unset, .val (.int v12)] [(.int v12), (.ref b96)])) (fun t k => ?_) ?_
    · show Steps p.tables e below (T11.setTop (mkF m 147 #[.val (.int x0), .val (.int x1), .val (.int x2), .val (.int x3), .val (.int x4), .val (.int x5), .val (.int x6), .val (.int x7), .val (.int x8), .val (.int x9), .val (.ref n0_0), .val (.ref b96), .unset, .unset] [(.int v12)])) t
      refine XS.istore X11.here hx rfl (hb hby at_147) rfl (l' := #[.val (.int x0), .val (.int x1), .val (.int x2), .val (.int x3), .val (.int x4), .val (.int x5), .val (.int x6), .val (.int x7), .val (.int x8), .val (.int x9), .val (.ref n0_0), .val (.ref b96), .unset, .val (.int v12)]) rfl ?_
      show Steps p.tables e below (T11.setTop (mkF m 149 #[.val (.int x0), .val (.int x1), .val (.int x2), .val (.int x3), .val (.int x4), .val (.int x5), .val (.int x6), .val (.int x7), .val (.int x8), .val (.int x9), .val (.ref n0_0), .val (.ref b96), .unset, .val (.int v12)] [])) t
      refine XS.aload X11.here hx rfl (hb hby at_149) rfl rfl ?_
      show Steps p.tables e below (T11.setTop (mkF m 151 #[.val (.int x0), .val (.int x1), .val (.int x2), .val (.int x3), .val (.int x4), .val (.int x5), .val (.int x6), .val (.int x7), .val (.int x8), .val (.int x9), .val (.ref n0_0), .val (.ref b96), .unset, .val (.int v12)] [(.ref b96)])) t
      refine XS.iload X11.here hx rfl (hb hby at_151) rfl ?_
      exact k
    refine bindE hr ?_; intro r13 hr13m hr
    obtain ⟨_, _, ⟨T13, L13, k13, n13⟩, -, X13, ⟨Lc13, hQ13, l13, y13, z13⟩, st13⟩ := Jvm.LawKit.callS X11 hx (y := (⟨"com/example/wirelace/wirelace/codec/WireReaderHasRemainingPinLaw", "readN", "(Lcom/example/wirelace/wirelace/codec/WireReader;I)V"⟩ : MethodName)) hown (mvT hZ (hw _ (List.mem_of_getElem? (i := 38) rfl))) (mvT hZ (hw _ (List.mem_of_getElem? (i := 39) rfl))) (mvT hZ (hw _ (List.mem_of_getElem? (i := 40) rfl))) (mvT hZ (hw _ (List.mem_of_getElem? (i := 41) rfl))) (by decide) (backOf (W := 0) (rm6 l Z a0 hw [] v12 n0_0 b96 v4 r10.1 r10.2.1 r6.2.2 r10.2.2 h10 n0 zz10 (by omega) (by omega) A_n0_0_10 E_b96_10 F_b96_packedOuterLimit_10 F_b96_message_10 F_b96_limit_10 F_b96_maxDepth_10 F_b96_position_10 r13 hr13m) hZ (hw _ (List.mem_of_getElem? (i := 41) rfl)) (hw _ (List.mem_of_getElem? (i := 40) rfl)) (by decide) (by decide)) (g := (mkF m 153 #[.val (.int x0), .val (.int x1), .val (.int x2), .val (.int x3), .val (.int x4), .val (.int x5), .val (.int x6), .val (.int x7), .val (.int x8), .val (.int x9), .val (.ref n0_0), .val (.ref b96), .unset, .val (.int v12)] [(.int v12), (.ref b96)])) rfl (by rw [hml]; rfl) (argsL := [(.ref b96), (.int v12)]) (rest := []) (lenOf pd_5 rfl) rfl (by show 2 * 0 + _ ≤ _; exact Nat.le_of_eq rfl) (hb hby at_153) (fun _ _ => ⟨rfl, e11, (by show ((((cells + 1) + 2) + 2) + 0) + 0 ≤ 16; omega), (by show ((((slots + 14) + 92) + 36) + 0) + 0 ≤ 2176; omega)⟩)
    dsimp only [Pt.U, Pt.locs, Pt.cells, Pt.slots] at X13 l13 y13 z13 st13 hQ13
    replace y13 := y13.symm; replace z13 := z13.symm; subst l13 y13 z13
    obtain ⟨h13, e13⟩ : ∃ z, T13.heap = z := ⟨_, rfl⟩
    rw [e13] at hQ13
    obtain ⟨rfl, N13q, K13q, E_b96_13, F_b96_packedOuterLimit_13, F_b96_message_13, F_b96_limit_13, F_b96_maxDepth_13, F_b96_position_13⟩ := hQ13
    have N13 := Fr.app N11 N13q
    have A_n0_0_13 := A_n0_0_10.keep K13q (ninS (by omega : @Ne Nat n0_0 b96) nin0)
    have zz13 : n0 ≤ h13.size := Nat.le_trans zz10 K13q.1
    have kk13 := Nat.le_trans kk10 K13q.1
    refine RunsW.via (T' := T13) (g' := (mkF m 156 #[.val (.int x0), .val (.int x1), .val (.int x2), .val (.int x3), .val (.int x4), .val (.int x5), .val (.int x6), .val (.int x7), .val (.int x8), .val (.int x9), .val (.ref n0_0), .val (.ref b96), .unset, .val (.int v12)] [])) (fun t k => st13 _ k) ?_
    refine RunsW.via (T' := T13) (g' := (mkF m 158 #[.val (.int x0), .val (.int x1), .val (.int x2), .val (.int x3), .val (.int x4), .val (.int x5), .val (.int x6), .val (.int x7), .val (.int x8), .val (.int x9), .val (.ref n0_0), .val (.ref b96), .unset, .val (.int v12)] [(.int x7)])) (fun t k => ?_) ?_
    · show Steps p.tables e below (T13.setTop (mkF m 156 #[.val (.int x0), .val (.int x1), .val (.int x2), .val (.int x3), .val (.int x4), .val (.int x5), .val (.int x6), .val (.int x7), .val (.int x8), .val (.int x9), .val (.ref n0_0), .val (.ref b96), .unset, .val (.int v12)] [])) t
      refine XS.iload X13.here hx rfl (hb hby at_156) rfl ?_
      exact k
    refine iteE hr (fun hc14 hr => ?_) (fun hc14 hr => ?_)
    · refine RunsW.via (T' := T13) (g' := (mkF m 184 #[.val (.int x0), .val (.int x1), .val (.int x2), .val (.int x3), .val (.int x4), .val (.int x5), .val (.int x6), .val (.int x7), .val (.int x8), .val (.int x9), .val (.ref n0_0), .val (.ref b96), .unset, .val (.int v12)] [])) (fun t k => ?_) ?_
      · show Steps p.tables e below (T13.setTop (mkF m 158 #[.val (.int x0), .val (.int x1), .val (.int x2), .val (.int x3), .val (.int x4), .val (.int x5), .val (.int x6), .val (.int x7), .val (.int x8), .val (.int x9), .val (.ref n0_0), .val (.ref b96), .unset, .val (.int v12)] [(.int x7)])) t
        exact XS.ifYes X13.here hx rfl (pc0 := 158) (pc' := 184) rfl (hb hby at_158) rfl ((if0 _ _).trans (teq hc14).1) (by decide) (by decide) k
      refine RunsW.via (T' := T13) (g' := (mkF m 188 #[.val (.int x0), .val (.int x1), .val (.int x2), .val (.int x3), .val (.int x4), .val (.int x5), .val (.int x6), .val (.int x7), .val (.int x8), .val (.int x9), .val (.ref n0_0), .val (.ref b96), .unset, .val (.int v12)] [(.int x9), (.int v12)])) (fun t k => ?_) ?_
      · show Steps p.tables e below (T13.setTop (mkF m 184 #[.val (.int x0), .val (.int x1), .val (.int x2), .val (.int x3), .val (.int x4), .val (.int x5), .val (.int x6), .val (.int x7), .val (.int x8), .val (.int x9), .val (.ref n0_0), .val (.ref b96), .unset, .val (.int v12)] [])) t
        refine XS.iload X13.here hx rfl (hb hby at_184) rfl ?_
        show Steps p.tables e below (T13.setTop (mkF m 186 #[.val (.int x0), .val (.int x1), .val (.int x2), .val (.int x3), .val (.int x4), .val (.int x5), .val (.int x6), .val (.int x7), .val (.int x8), .val (.int x9), .val (.ref n0_0), .val (.ref b96), .unset, .val (.int v12)] [(.int v12)])) t
        refine XS.iload X13.here hx rfl (hb hby at_186) rfl ?_
        exact k
      refine iteE hr (fun hc15 hr => ?_) (fun hc15 hr => ?_)
      · refine RunsW.via (T' := T13) (g' := (mkF m 191 #[.val (.int x0), .val (.int x1), .val (.int x2), .val (.int x3), .val (.int x4), .val (.int x5), .val (.int x6), .val (.int x7), .val (.int x8), .val (.int x9), .val (.ref n0_0), .val (.ref b96), .unset, .val (.int v12)] [])) (fun t k => ?_) ?_
        · show Steps p.tables e below (T13.setTop (mkF m 188 #[.val (.int x0), .val (.int x1), .val (.int x2), .val (.int x3), .val (.int x4), .val (.int x5), .val (.int x6), .val (.int x7), .val (.int x8), .val (.int x9), .val (.ref n0_0), .val (.ref b96), .unset, .val (.int v12)] [(.int x9), (.int v12)])) t
          exact XS.icmpNo X13.here hx rfl (hb hby at_188) rfl (tlt hc15).2.1 k
        refine RunsW.via (T' := T13) (g' := (mkF m 196 #[.val (.int x0), .val (.int x1), .val (.int x2), .val (.int x3), .val (.int x4), .val (.int x5), .val (.int x6), .val (.int x7), .val (.int x8), .val (.int x9), .val (.ref n0_0), .val (.ref b96), .unset, .val (.int v12)] [(.int (1 : Int32))])) (fun t k => ?_) ?_
        · show Steps p.tables e below (T13.setTop (mkF m 191 #[.val (.int x0), .val (.int x1), .val (.int x2), .val (.int x3), .val (.int x4), .val (.int x5), .val (.int x6), .val (.int x7), .val (.int x8), .val (.int x9), .val (.ref n0_0), .val (.ref b96), .unset, .val (.int v12)] [])) t
          refine XS.iconst X13.here hx rfl (hb hby at_191) ?_
          show Steps p.tables e below (T13.setTop (mkF m 192 #[.val (.int x0), .val (.int x1), .val (.int x2), .val (.int x3), .val (.int x4), .val (.int x5), .val (.int x6), .val (.int x7), .val (.int x8), .val (.int x9), .val (.ref n0_0), .val (.ref b96), .unset, .val (.int v12)] [(.int (1 : Int32))])) t
          refine XS.goto X13.here hx rfl (pc0 := 192) (pc' := 196) rfl (hb hby at_192) (by decide) (by decide) ?_
          exact k
        exact b0_196 C X13 e13 N13 (by show (((((cells + 1) + 2) + 2) + 0) + 0) ≤ 6; omega) (by show (((((slots + 14) + 92) + 36) + 0) + 0) ≤ 146; omega) zz13 hS10 kk13 n0_0 b96 (by omega) (by omega) v4 r10.1 r10.2.1 r6.2.2 r13 x0 x1 x2 x3 x4 x5 x6 x7 x8 x9 v12 (1 : Int32) A_n0_0_13 E_b96_13 F_b96_packedOuterLimit_13 F_b96_message_13 F_b96_limit_13 F_b96_maxDepth_13 F_b96_position_13 hr
      · refine RunsW.via (T' := T13) (g' := (mkF m 195 #[.val (.int x0), .val (.int x1), .val (.int x2), .val (.int x3), .val (.int x4), .val (.int x5), .val (.int x6), .val (.int x7), .val (.int x8), .val (.int x9), .val (.ref n0_0), .val (.ref b96), .unset, .val (.int v12)] [])) (fun t k => ?_) ?_
        · show Steps p.tables e below (T13.setTop (mkF m 188 #[.val (.int x0), .val (.int x1), .val (.int x2), .val (.int x3), .val (.int x4), .val (.int x5), .val (.int x6), .val (.int x7), .val (.int x8), .val (.int x9), .val (.ref n0_0), .val (.ref b96), .unset, .val (.int v12)] [(.int x9), (.int v12)])) t
          exact XS.icmpYes X13.here hx rfl (pc0 := 188) (pc' := 195) rfl (hb hby at_188) rfl (flt hc15).2.1 (by decide) (by decide) k
        refine RunsW.via (T' := T13) (g' := (mkF m 196 #[.val (.int x0), .val (.int x1), .val (.int x2), .val (.int x3), .val (.int x4), .val (.int x5), .val (.int x6), .val (.int x7), .val (.int x8), .val (.int x9), .val (.ref n0_0), .val (.ref b96), .unset, .val (.int v12)] [(.int (0 : Int32))])) (fun t k => ?_) ?_
        · show Steps p.tables e below (T13.setTop (mkF m 195 #[.val (.int x0), .val (.int x1), .val (.int x2), .val (.int x3), .val (.int x4), .val (.int x5), .val (.int x6), .val (.int x7), .val (.int x8), .val (.int x9), .val (.ref n0_0), .val (.ref b96), .unset, .val (.int v12)] [])) t
          refine XS.iconst X13.here hx rfl (hb hby at_195) ?_
          exact k
        exact b0_196 C X13 e13 N13 (by show (((((cells + 1) + 2) + 2) + 0) + 0) ≤ 6; omega) (by show (((((slots + 14) + 92) + 36) + 0) + 0) ≤ 146; omega) zz13 hS10 kk13 n0_0 b96 (by omega) (by omega) v4 r10.1 r10.2.1 r6.2.2 r13 x0 x1 x2 x3 x4 x5 x6 x7 x8 x9 v12 (0 : Int32) A_n0_0_13 E_b96_13 F_b96_packedOuterLimit_13 F_b96_message_13 F_b96_limit_13 F_b96_maxDepth_13 F_b96_position_13 hr
    · refine RunsW.via (T' := T13) (g' := (mkF m 161 #[.val (.int x0), .val (.int x1), .val (.int x2), .val (.int x3), .val (.int x4), .val (.int x5), .val (.int x6), .val (.int x7), .val (.int x8), .val (.int x9), .val (.ref n0_0), .val (.ref b96), .unset, .val (.int v12)] [])) (fun t k => ?_) ?_
      · show Steps p.tables e below (T13.setTop (mkF m 158 #[.val (.int x0), .val (.int x1), .val (.int x2), .val (.int x3), .val (.int x4), .val (.int x5), .val (.int x6), .val (.int x7), .val (.int x8), .val (.int x9), .val (.ref n0_0), .val (.ref b96), .unset, .val (.int v12)] [(.int x7)])) t
        exact XS.ifNo X13.here hx rfl (hb hby at_158) rfl ((if0 _ _).trans (feq hc14).1) k
      refine RunsW.via (T' := T13) (g' := (mkF m 163 #[.val (.int x0), .val (.int x1), .val (.int x2), .val (.int x3), .val (.int x4), .val (.int x5), .val (.int x6), .val (.int x7), .val (.int x8), .val (.int x9), .val (.ref n0_0), .val (.ref b96), .unset, .val (.int v12)] [(.ref b96)])) (fun t k => ?_) ?_
      · show Steps p.tables e below (T13.setTop (mkF m 161 #[.val (.int x0), .val (.int x1), .val (.int x2), .val (.int x3), .val (.int x4), .val (.int x5), .val (.int x6), .val (.int x7), .val (.int x8), .val (.int x9), .val (.ref n0_0), .val (.ref b96), .unset, .val (.int v12)] [])) t
        refine XS.aload X13.here hx rfl (hb hby at_161) rfl rfl ?_
        exact k
      refine bindE hr ?_; intro r16 hr16m hr
      obtain ⟨cq16, kq16, q16a, q16b, q16c⟩ := isOf hZ e13 E_b96_13
      obtain ⟨_, _, ⟨T16, L16, k16, n16⟩, -, X16, ⟨Lc16, hQ16, l16, y16, z16⟩, st16⟩ := X13.virtualBack hx (y := (⟨"com/example/wirelace/wirelace/codec/WireReader", "exitPacked", "()V"⟩ : MethodName)) (z := (⟨"com/example/wirelace/wirelace/codec/WireReader", "exitPacked", "()V"⟩ : MethodName)) hown (mvT hZ (hw _ (List.mem_of_getElem? (i := 81) rfl))) (mvT hZ (hw _ (List.mem_of_getElem? (i := 82) rfl))) (notFace_of_selects (args := #[]) (mvT hZ (hw _ (List.mem_of_getElem? (i := 84) rfl)))) (mvT hZ (hw _ (List.mem_of_getElem? (i := 84) rfl))) (mvT hZ (hw _ (List.mem_of_getElem? (i := 83) rfl))) (by decide) (backOf (W := 0) (rm15 l Z a0 hw [] n0_0 b96 v4 r10.1 r10.2.1 r6.2.2 r13 h13 n0 zz13 (by omega) (by omega) A_n0_0_13 E_b96_13 F_b96_packedOuterLimit_13 F_b96_message_13 F_b96_limit_13 F_b96_maxDepth_13 F_b96_position_13 r16 hr16m) hZ (hw _ (List.mem_of_getElem? (i := 85) rfl)) (hw _ (List.mem_of_getElem? (i := 4) rfl)) (by decide) (by decide)) q16a q16c (g := (mkF m 163 #[.val (.int x0), .val (.int x1), .val (.int x2), .val (.int x3), .val (.int x4), .val (.int x5), .val (.int x6), .val (.int x7), .val (.int x8), .val (.int x9), .val (.ref n0_0), .val (.ref b96), .unset, .val (.int v12)] [(.ref b96)])) rfl (by rw [hml]; rfl) (Steps.refl _) (argsL := []) (rest := []) (lenOf pd_9 rfl) rfl (by show 2 * 0 + _ ≤ _; exact Nat.le_of_eq rfl) (hb hby at_163) (fun _ _ => ⟨rfl, e13, (by show (((((cells + 1) + 2) + 2) + 0) + 0) + 0 ≤ 16; omega), (by show (((((slots + 14) + 92) + 36) + 0) + 0) + 0 ≤ 2176; omega)⟩)
      dsimp only [Pt.U, Pt.locs, Pt.cells, Pt.slots] at X16 l16 y16 z16 st16 hQ16
      replace y16 := y16.symm; replace z16 := z16.symm; subst l16 y16 z16
      obtain ⟨h16, e16⟩ : ∃ z, T16.heap = z := ⟨_, rfl⟩
      rw [e16] at hQ16
      obtain ⟨rfl, N16q, K16q, E_b96_16, F_b96_packedOuterLimit_16, F_b96_message_16, F_b96_limit_16, F_b96_maxDepth_16, F_b96_position_16⟩ := hQ16
      have N16 := Fr.app N13 N16q
      have A_n0_0_16 := A_n0_0_13.keep K16q (ninS (by omega : @Ne Nat n0_0 b96) nin0)
      have zz16 : n0 ≤ h16.size := Nat.le_trans zz13 K16q.1
      have kk16 := Nat.le_trans kk13 K16q.1
      refine RunsW.via (T' := T16) (g' := (mkF m 166 #[.val (.int x0), .val (.int x1), .val (.int x2), .val (.int x3), .val (.int x4), .val (.int x5), .val (.int x6), .val (.int x7), .val (.int x8), .val (.int x9), .val (.ref n0_0), .val (.ref b96), .unset, .val (.int v12)] [])) (fun t k => st16.trans k) ?_
      refine RunsW.via (T' := T16) (g' := (mkF m 171 #[.val (.int x0), .val (.int x1), .val (.int x2), .val (.int x3), .val (.int x4), .val (.int x5), .val (.int x6), .val (.int x7), .val (.int x8), .val (.int x9), .val (.ref n0_0), .val (.ref b96), .unset, .val (.int v12)] [(.int (4 : Int32)), (.int ((1 : Int32) + x9))])) (fun t k => ?_) ?_
      · show Steps p.tables e below (T16.setTop (mkF m 166 #[.val (.int x0), .val (.int x1), .val (.int x2), .val (.int x3), .val (.int x4), .val (.int x5), .val (.int x6), .val (.int x7), .val (.int x8), .val (.int x9), .val (.ref n0_0), .val (.ref b96), .unset, .val (.int v12)] [])) t
        refine XS.iconst X16.here hx rfl (hb hby at_166) ?_
        show Steps p.tables e below (T16.setTop (mkF m 167 #[.val (.int x0), .val (.int x1), .val (.int x2), .val (.int x3), .val (.int x4), .val (.int x5), .val (.int x6), .val (.int x7), .val (.int x8), .val (.int x9), .val (.ref n0_0), .val (.ref b96), .unset, .val (.int v12)] [(.int (1 : Int32))])) t
        refine XS.iload X16.here hx rfl (hb hby at_167) rfl ?_
        show Steps p.tables e below (T16.setTop (mkF m 169 #[.val (.int x0), .val (.int x1), .val (.int x2), .val (.int x3), .val (.int x4), .val (.int x5), .val (.int x6), .val (.int x7), .val (.int x8), .val (.int x9), .val (.ref n0_0), .val (.ref b96), .unset, .val (.int v12)] [(.int x9), (.int (1 : Int32))])) t
        refine XS.iadd X16.here hx rfl (hb hby at_169) rfl ?_
        show Steps p.tables e below (T16.setTop (mkF m 170 #[.val (.int x0), .val (.int x1), .val (.int x2), .val (.int x3), .val (.int x4), .val (.int x5), .val (.int x6), .val (.int x7), .val (.int x8), .val (.int x9), .val (.ref n0_0), .val (.ref b96), .unset, .val (.int v12)] [(.int ((1 : Int32) + x9))])) t
        refine XS.iconst X16.here hx rfl (hb hby at_170) ?_
        exact k
      refine iteE hr (fun hc17 hr => ?_) (fun hc17 hr => ?_)
      · refine RunsW.via (T' := T16) (g' := (mkF m 174 #[.val (.int x0), .val (.int x1), .val (.int x2), .val (.int x3), .val (.int x4), .val (.int x5), .val (.int x6), .val (.int x7), .val (.int x8), .val (.int x9), .val (.ref n0_0), .val (.ref b96), .unset, .val (.int v12)] [])) (fun t k => ?_) ?_
        · show Steps p.tables e below (T16.setTop (mkF m 171 #[.val (.int x0), .val (.int x1), .val (.int x2), .val (.int x3), .val (.int x4), .val (.int x5), .val (.int x6), .val (.int x7), .val (.int x8), .val (.int x9), .val (.ref n0_0), .val (.ref b96), .unset, .val (.int v12)] [(.int (4 : Int32)), (.int ((1 : Int32) + x9))])) t
          exact XS.icmpNo X16.here hx rfl (hb hby at_171) rfl (tlt hc17).2.1 k
        refine RunsW.via (T' := T16) (g' := (mkF m 179 #[.val (.int x0), .val (.int x1), .val (.int x2), .val (.int x3), .val (.int x4), .val (.int x5), .val (.int x6), .val (.int x7), .val (.int x8), .val (.int x9), .val (.ref n0_0), .val (.ref b96), .unset, .val (.int v12)] [(.int (1 : Int32))])) (fun t k => ?_) ?_
        · show Steps p.tables e below (T16.setTop (mkF m 174 #[.val (.int x0), .val (.int x1), .val (.int x2), .val (.int x3), .val (.int x4), .val (.int x5), .val (.int x6), .val (.int x7), .val (.int x8), .val (.int x9), .val (.ref n0_0), .val (.ref b96), .unset, .val (.int v12)] [])) t
          refine XS.iconst X16.here hx rfl (hb hby at_174) ?_
          show Steps p.tables e below (T16.setTop (mkF m 175 #[.val (.int x0), .val (.int x1), .val (.int x2), .val (.int x3), .val (.int x4), .val (.int x5), .val (.int x6), .val (.int x7), .val (.int x8), .val (.int x9), .val (.ref n0_0), .val (.ref b96), .unset, .val (.int v12)] [(.int (1 : Int32))])) t
          refine XS.goto X16.here hx rfl (pc0 := 175) (pc' := 179) rfl (hb hby at_175) (by decide) (by decide) ?_
          exact k
        exact b0_179 C X16 e16 N16 (by show ((((((cells + 1) + 2) + 2) + 0) + 0) + 0) ≤ 6; omega) (by show ((((((slots + 14) + 92) + 36) + 0) + 0) + 0) ≤ 146; omega) zz16 hS10 kk16 n0_0 b96 (by omega) (by omega) v4 r16.1 r16.2.1 r6.2.2 r16.2.2 x0 x1 x2 x3 x4 x5 x6 x7 x8 x9 v12 (1 : Int32) A_n0_0_16 E_b96_16 F_b96_packedOuterLimit_16 F_b96_message_16 F_b96_limit_16 F_b96_maxDepth_16 F_b96_position_16 hr
      · refine RunsW.via (T' := T16) (g' := (mkF m 178 #[.val (.int x0), .val (.int x1), .val (.int x2), .val (.int x3), .val (.int x4), .val (.int x5), .val (.int x6), .val (.int x7), .val (.int x8), .val (.int x9), .val (.ref n0_0), .val (.ref b96), .unset, .val (.int v12)] [])) (fun t k => ?_) ?_
        · show Steps p.tables e below (T16.setTop (mkF m 171 #[.val (.int x0), .val (.int x1), .val (.int x2), .val (.int x3), .val (.int x4), .val (.int x5), .val (.int x6), .val (.int x7), .val (.int x8), .val (.int x9), .val (.ref n0_0), .val (.ref b96), .unset, .val (.int v12)] [(.int (4 : Int32)), (.int ((1 : Int32) + x9))])) t
          exact XS.icmpYes X16.here hx rfl (pc0 := 171) (pc' := 178) rfl (hb hby at_171) rfl (flt hc17).2.1 (by decide) (by decide) k
        refine RunsW.via (T' := T16) (g' := (mkF m 179 #[.val (.int x0), .val (.int x1), .val (.int x2), .val (.int x3), .val (.int x4), .val (.int x5), .val (.int x6), .val (.int x7), .val (.int x8), .val (.int x9), .val (.ref n0_0), .val (.ref b96), .unset, .val (.int v12)] [(.int (0 : Int32))])) (fun t k => ?_) ?_
        · show Steps p.tables e below (T16.setTop (mkF m 178 #[.val (.int x0), .val (.int x1), .val (.int x2), .val (.int x3), .val (.int x4), .val (.int x5), .val (.int x6), .val (.int x7), .val (.int x8), .val (.int x9), .val (.ref n0_0), .val (.ref b96), .unset, .val (.int v12)] [])) t
          refine XS.iconst X16.here hx rfl (hb hby at_178) ?_
          exact k
        exact b0_179 C X16 e16 N16 (by show ((((((cells + 1) + 2) + 2) + 0) + 0) + 0) ≤ 6; omega) (by show ((((((slots + 14) + 92) + 36) + 0) + 0) + 0) ≤ 146; omega) zz16 hS10 kk16 n0_0 b96 (by omega) (by omega) v4 r16.1 r16.2.1 r6.2.2 r16.2.2 x0 x1 x2 x3 x4 x5 x6 x7 x8 x9 v12 (0 : Int32) A_n0_0_16 E_b96_16 F_b96_packedOuterLimit_16 F_b96_message_16 F_b96_limit_16 F_b96_maxDepth_16 F_b96_position_16 hr
def g0_24 (x1 : Int32) (x2 : Int32) (x3 : Int32) (x4 : Int32) (x5 : Int32) (x6 : Int32) (u0 : Int32) : Option (Int32) := (letO ((x1 &&& (2147483647 : Int32)) - ((x1 &&& (2147483647 : Int32)) / (5 : Int32)) * (5 : Int32)) fun v1 => (letO ((x2 &&& (2147483647 : Int32)) - ((x2 &&& (2147483647 : Int32)) / (4 : Int32)) * (4 : Int32)) fun v2 => ((mkO (4 : Int32) 4).bind fun v3 => (if x6 = (0 : Int32) then (g0_66 x3 x4 x5 x6 u0 v1 v2 ((x2 &&& (127 : Int32)).toInt8.toInt32) (0 : Int32) v3) else (g0_66 x3 x4 x5 x6 u0 v1 v2 (v2.toInt8.toInt32) (0 : Int32) v3)))))
set_option maxRecDepth 65536 in
set_option maxHeartbeats 4000000 in
theorem b0_24 {vm0 : Vm} {k0 : Nat} {r : Int32} (C : Ctx p (s.setVm vm0) m meth c Z a0 "com/example/wirelace/wirelace/codec/WireReaderHasRemainingPinLaw" code 14 (some .boolean) "law") (X0 : Stand p l e room_1 (s.setVm vm0) m args below meth c T0 locs cells slots) (e0 : T0.heap = h0) (N0 : Fr n0 locs) (hk : cells ≤ 0) (hn : slots ≤ 0) (Z1 : n0 ≤ h0.size) (hS0 : s.Since vm0 k0) (hk0 : k0 ≤ h0.size) (x0 : Int32) (x1 : Int32) (x2 : Int32) (x3 : Int32) (x4 : Int32) (x5 : Int32) (x6 : Int32) (u0 : Int32) (hr : g0_24 x1 x2 x3 x4 x5 x6 u0 = some r) :
    RunsW p e below s (P0 n0 r) 6 146 T0 (mkF m 24 #[.val (.int x0), .val (.int x1), .val (.int x2), .val (.int x3), .val (.int x4), .val (.int x5), .val (.int x6), .unset, .unset, .unset, .unset, .unset, .unset, .unset] [(.int u0)]) := by
  unfold g0_24 at hr
  have ⟨hx, hZ, hw, hby, hml, hown, hret, hlk, hnm⟩ := C
  refine RunsW.via (T' := T0) (g' := (mkF m 32 #[.val (.int x0), .val (.int x1), .val (.int x2), .val (.int x3), .val (.int x4), .val (.int x5), .val (.int x6), .val (.int u0), .unset, .unset, .unset, .unset, .unset, .unset] [(.int ((x1 &&& (2147483647 : Int32)) - ((x1 &&& (2147483647 : Int32)) / (5 : Int32)) * (5 : Int32)))])) (fun t k => ?_) ?_
  · show Steps p.tables e below (T0.setTop (mkF m 24 #[.val (.int x0), .val (.int x1), .val (.int x2), .val (.int x3), .val (.int x4), .val (.int x5), .val (.int x6), .unset, .unset, .unset, .unset, .unset, .unset, .unset] [(.int u0)])) t
    refine XS.istore X0.here hx rfl (hb hby at_24) rfl (l' := #[.val (.int x0), .val (.int x1), .val (.int x2), .val (.int x3), .val (.int x4), .val (.int x5), .val (.int x6), .val (.int u0), .unset, .unset, .unset, .unset, .unset, .unset]) rfl ?_
    show Steps p.tables e below (T0.setTop (mkF m 26 #[.val (.int x0), .val (.int x1), .val (.int x2), .val (.int x3), .val (.int x4), .val (.int x5), .val (.int x6), .val (.int u0), .unset, .unset, .unset, .unset, .unset, .unset] [])) t
    refine XS.iloadN X0.here hx rfl (hb hby at_26) rfl ?_
    show Steps p.tables e below (T0.setTop (mkF m 27 #[.val (.int x0), .val (.int x1), .val (.int x2), .val (.int x3), .val (.int x4), .val (.int x5), .val (.int x6), .val (.int u0), .unset, .unset, .unset, .unset, .unset, .unset] [(.int x1)])) t
    refine X0.ldcInt hx hown (mvT hZ (hw _ (List.mem_of_getElem? (i := 0) rfl))) (g := (mkF m 27 #[.val (.int x0), .val (.int x1), .val (.int x2), .val (.int x3), .val (.int x4), .val (.int x5), .val (.int x6), .val (.int u0), .unset, .unset, .unset, .unset, .unset, .unset] [(.int x1)])) rfl (hb hby at_27) _ ?_
    show Steps p.tables e below (T0.setTop (mkF m 29 #[.val (.int x0), .val (.int x1), .val (.int x2), .val (.int x3), .val (.int x4), .val (.int x5), .val (.int x6), .val (.int u0), .unset, .unset, .unset, .unset, .unset, .unset] [(.int (2147483647 : Int32)), (.int x1)])) t
    refine XS.iand X0.here hx rfl (hb hby at_29) rfl ?_
    show Steps p.tables e below (T0.setTop (mkF m 30 #[.val (.int x0), .val (.int x1), .val (.int x2), .val (.int x3), .val (.int x4), .val (.int x5), .val (.int x6), .val (.int u0), .unset, .unset, .unset, .unset, .unset, .unset] [(.int (x1 &&& (2147483647 : Int32)))])) t
    refine XS.iconst X0.here hx rfl (hb hby at_30) ?_
    show Steps p.tables e below (T0.setTop (mkF m 31 #[.val (.int x0), .val (.int x1), .val (.int x2), .val (.int x3), .val (.int x4), .val (.int x5), .val (.int x6), .val (.int u0), .unset, .unset, .unset, .unset, .unset, .unset] [(.int (5 : Int32)), (.int (x1 &&& (2147483647 : Int32)))])) t
    refine XS.irem X0.here hx rfl (hb hby at_31) rfl (by decide) ?_
    exact k
  refine letE hr ?_; intro v1 hv1 hr
  rw [← hv1]
  refine RunsW.via (T' := T0) (g' := (mkF m 40 #[.val (.int x0), .val (.int x1), .val (.int x2), .val (.int x3), .val (.int x4), .val (.int x5), .val (.int x6), .val (.int u0), .val (.int v1), .unset, .unset, .unset, .unset, .unset] [(.int ((x2 &&& (2147483647 : Int32)) - ((x2 &&& (2147483647 : Int32)) / (4 : Int32)) * (4 : Int32)))])) (fun t k => ?_) ?_
  · show Steps p.tables e below (T0.setTop (mkF m 32 #[.val (.int x0), .val (.int x1), .val (.int x2), .val (.int x3), .val (.int x4), .val (.int x5), .val (.int x6), .val (.int u0), .unset, .unset, .unset, .unset, .unset, .unset] [(.int v1)])) t
    refine XS.istore X0.here hx rfl (hb hby at_32) rfl (l' := #[.val (.int x0), .val (.int x1), .val (.int x2), .val (.int x3), .val (.int x4), .val (.int x5), .val (.int x6), .val (.int u0), .val (.int v1), .unset, .unset, .unset, .unset, .unset]) rfl ?_
    show Steps p.tables e below (T0.setTop (mkF m 34 #[.val (.int x0), .val (.int x1), .val (.int x2), .val (.int x3), .val (.int x4), .val (.int x5), .val (.int x6), .val (.int u0), .val (.int v1), .unset, .unset, .unset, .unset, .unset] [])) t
    refine XS.iloadN X0.here hx rfl (hb hby at_34) rfl ?_
    show Steps p.tables e below (T0.setTop (mkF m 35 #[.val (.int x0), .val (.int x1), .val (.int x2), .val (.int x3), .val (.int x4), .val (.int x5), .val (.int x6), .val (.int u0), .val (.int v1), .unset, .unset, .unset, .unset, .unset] [(.int x2)])) t
    refine X0.ldcInt hx hown (mvT hZ (hw _ (List.mem_of_getElem? (i := 0) rfl))) (g := (mkF m 35 #[.val (.int x0), .val (.int x1), .val (.int x2), .val (.int x3), .val (.int x4), .val (.int x5), .val (.int x6), .val (.int u0), .val (.int v1), .unset, .unset, .unset, .unset, .unset] [(.int x2)])) rfl (hb hby at_35) _ ?_
    show Steps p.tables e below (T0.setTop (mkF m 37 #[.val (.int x0), .val (.int x1), .val (.int x2), .val (.int x3), .val (.int x4), .val (.int x5), .val (.int x6), .val (.int u0), .val (.int v1), .unset, .unset, .unset, .unset, .unset] [(.int (2147483647 : Int32)), (.int x2)])) t
    refine XS.iand X0.here hx rfl (hb hby at_37) rfl ?_
    show Steps p.tables e below (T0.setTop (mkF m 38 #[.val (.int x0), .val (.int x1), .val (.int x2), .val (.int x3), .val (.int x4), .val (.int x5), .val (.int x6), .val (.int u0), .val (.int v1), .unset, .unset, .unset, .unset, .unset] [(.int (x2 &&& (2147483647 : Int32)))])) t
    refine XS.iconst X0.here hx rfl (hb hby at_38) ?_
    show Steps p.tables e below (T0.setTop (mkF m 39 #[.val (.int x0), .val (.int x1), .val (.int x2), .val (.int x3), .val (.int x4), .val (.int x5), .val (.int x6), .val (.int u0), .val (.int v1), .unset, .unset, .unset, .unset, .unset] [(.int (4 : Int32)), (.int (x2 &&& (2147483647 : Int32)))])) t
    refine XS.irem X0.here hx rfl (hb hby at_39) rfl (by decide) ?_
    exact k
  refine letE hr ?_; intro v2 hv2 hr
  rw [← hv2]
  refine RunsW.via (T' := T0) (g' := (mkF m 43 #[.val (.int x0), .val (.int x1), .val (.int x2), .val (.int x3), .val (.int x4), .val (.int x5), .val (.int x6), .val (.int u0), .val (.int v1), .val (.int v2), .unset, .unset, .unset, .unset] [(.int (4 : Int32))])) (fun t k => ?_) ?_
  · show Steps p.tables e below (T0.setTop (mkF m 40 #[.val (.int x0), .val (.int x1), .val (.int x2), .val (.int x3), .val (.int x4), .val (.int x5), .val (.int x6), .val (.int u0), .val (.int v1), .unset, .unset, .unset, .unset, .unset] [(.int v2)])) t
    refine XS.istore X0.here hx rfl (hb hby at_40) rfl (l' := #[.val (.int x0), .val (.int x1), .val (.int x2), .val (.int x3), .val (.int x4), .val (.int x5), .val (.int x6), .val (.int u0), .val (.int v1), .val (.int v2), .unset, .unset, .unset, .unset]) rfl ?_
    show Steps p.tables e below (T0.setTop (mkF m 42 #[.val (.int x0), .val (.int x1), .val (.int x2), .val (.int x3), .val (.int x4), .val (.int x5), .val (.int x6), .val (.int u0), .val (.int v1), .val (.int v2), .unset, .unset, .unset, .unset] [])) t
    refine XS.iconst X0.here hx rfl (hb hby at_42) ?_
    exact k
  refine bindE hr ?_; intro v3 hv3 hr
  obtain ⟨T3, h3, X3, e3, E3, A3, st3⟩ := newI X0 hx hZ (aty := .byte) (ty := .byte) rfl rfl (hw _ (List.mem_of_getElem? (i := 1) rfl)) e0 hv3 (g := (mkF m 43 #[.val (.int x0), .val (.int x1), .val (.int x2), .val (.int x3), .val (.int x4), .val (.int x5), .val (.int x6), .val (.int u0), .val (.int v1), .val (.int v2), .unset, .unset, .unset, .unset] [(.int (4 : Int32))])) rfl (hb hby at_43) rfl (by decide) (by show cells + 1 ≤ 16; omega) (by show slots + 4 ≤ 2176; omega)
  obtain ⟨b43, g3⟩ : ∃ z, z = h0.size := ⟨_, rfl⟩
  rw [← g3] at A3 st3
  have i3 := E3.1
  have kk3 := Nat.le_trans hk0 i3
  have zz3 : n0 ≤ h3.size := Nat.le_trans Z1 i3
  have A_b43_3 := A3
  have sb43 : n0 ≤ b43 := by omega
  refine RunsW.via (T' := T3) (g' := (mkF m 45 #[.val (.int x0), .val (.int x1), .val (.int x2), .val (.int x3), .val (.int x4), .val (.int x5), .val (.int x6), .val (.int u0), .val (.int v1), .val (.int v2), .unset, .unset, .unset, .unset] [(.ref b43)])) (fun t k => st3 _ k) ?_
  refine RunsW.via (T' := T3) (g' := (mkF m 52 #[.val (.int x0), .val (.int x1), .val (.int x2), .val (.int x3), .val (.int x4), .val (.int x5), .val (.int x6), .val (.int u0), .val (.int v1), .val (.int v2), .val (.ref b43), .unset, .unset, .unset] [(.int x6), (.int (0 : Int32)), (.ref b43)])) (fun t k => ?_) ?_
  · show Steps p.tables e below (T3.setTop (mkF m 45 #[.val (.int x0), .val (.int x1), .val (.int x2), .val (.int x3), .val (.int x4), .val (.int x5), .val (.int x6), .val (.int u0), .val (.int v1), .val (.int v2), .unset, .unset, .unset, .unset] [(.ref b43)])) t
    refine XS.astore X3.here hx rfl (hb hby at_45) rfl rfl (l' := #[.val (.int x0), .val (.int x1), .val (.int x2), .val (.int x3), .val (.int x4), .val (.int x5), .val (.int x6), .val (.int u0), .val (.int v1), .val (.int v2), .val (.ref b43), .unset, .unset, .unset]) rfl ?_
    show Steps p.tables e below (T3.setTop (mkF m 47 #[.val (.int x0), .val (.int x1), .val (.int x2), .val (.int x3), .val (.int x4), .val (.int x5), .val (.int x6), .val (.int u0), .val (.int v1), .val (.int v2), .val (.ref b43), .unset, .unset, .unset] [])) t
    refine XS.aload X3.here hx rfl (hb hby at_47) rfl rfl ?_
    show Steps p.tables e below (T3.setTop (mkF m 49 #[.val (.int x0), .val (.int x1), .val (.int x2), .val (.int x3), .val (.int x4), .val (.int x5), .val (.int x6), .val (.int u0), .val (.int v1), .val (.int v2), .val (.ref b43), .unset, .unset, .unset] [(.ref b43)])) t
    refine XS.iconst X3.here hx rfl (hb hby at_49) ?_
    show Steps p.tables e below (T3.setTop (mkF m 50 #[.val (.int x0), .val (.int x1), .val (.int x2), .val (.int x3), .val (.int x4), .val (.int x5), .val (.int x6), .val (.int u0), .val (.int v1), .val (.int v2), .val (.ref b43), .unset, .unset, .unset] [(.int (0 : Int32)), (.ref b43)])) t
    refine XS.iload X3.here hx rfl (hb hby at_50) rfl ?_
    exact k
  refine iteE hr (fun hc4 hr => ?_) (fun hc4 hr => ?_)
  · refine RunsW.via (T' := T3) (g' := (mkF m 61 #[.val (.int x0), .val (.int x1), .val (.int x2), .val (.int x3), .val (.int x4), .val (.int x5), .val (.int x6), .val (.int u0), .val (.int v1), .val (.int v2), .val (.ref b43), .unset, .unset, .unset] [(.int (0 : Int32)), (.ref b43)])) (fun t k => ?_) ?_
    · show Steps p.tables e below (T3.setTop (mkF m 52 #[.val (.int x0), .val (.int x1), .val (.int x2), .val (.int x3), .val (.int x4), .val (.int x5), .val (.int x6), .val (.int u0), .val (.int v1), .val (.int v2), .val (.ref b43), .unset, .unset, .unset] [(.int x6), (.int (0 : Int32)), (.ref b43)])) t
      exact XS.ifYes X3.here hx rfl (pc0 := 52) (pc' := 61) rfl (hb hby at_52) rfl ((if0 _ _).trans (teq hc4).1) (by decide) (by decide) k
    refine RunsW.via (T' := T3) (g' := (mkF m 66 #[.val (.int x0), .val (.int x1), .val (.int x2), .val (.int x3), .val (.int x4), .val (.int x5), .val (.int x6), .val (.int u0), .val (.int v1), .val (.int v2), .val (.ref b43), .unset, .unset, .unset] [(.int ((x2 &&& (127 : Int32)).toInt8.toInt32)), (.int (0 : Int32)), (.ref b43)])) (fun t k => ?_) ?_
    · show Steps p.tables e below (T3.setTop (mkF m 61 #[.val (.int x0), .val (.int x1), .val (.int x2), .val (.int x3), .val (.int x4), .val (.int x5), .val (.int x6), .val (.int u0), .val (.int v1), .val (.int v2), .val (.ref b43), .unset, .unset, .unset] [(.int (0 : Int32)), (.ref b43)])) t
      refine XS.iloadN X3.here hx rfl (hb hby at_61) rfl ?_
      show Steps p.tables e below (T3.setTop (mkF m 62 #[.val (.int x0), .val (.int x1), .val (.int x2), .val (.int x3), .val (.int x4), .val (.int x5), .val (.int x6), .val (.int u0), .val (.int v1), .val (.int v2), .val (.ref b43), .unset, .unset, .unset] [(.int x2), (.int (0 : Int32)), (.ref b43)])) t
      refine XS.bipush X3.here hx rfl (hb hby at_62) ?_
      show Steps p.tables e below (T3.setTop (mkF m 64 #[.val (.int x0), .val (.int x1), .val (.int x2), .val (.int x3), .val (.int x4), .val (.int x5), .val (.int x6), .val (.int u0), .val (.int v1), .val (.int v2), .val (.ref b43), .unset, .unset, .unset] [(.int (127 : Int32)), (.int x2), (.int (0 : Int32)), (.ref b43)])) t
      refine XS.iand X3.here hx rfl (hb hby at_64) rfl ?_
      show Steps p.tables e below (T3.setTop (mkF m 65 #[.val (.int x0), .val (.int x1), .val (.int x2), .val (.int x3), .val (.int x4), .val (.int x5), .val (.int x6), .val (.int u0), .val (.int v1), .val (.int v2), .val (.ref b43), .unset, .unset, .unset] [(.int (x2 &&& (127 : Int32))), (.int (0 : Int32)), (.ref b43)])) t
      refine XS.i2b X3.here hx rfl (hb hby at_65) rfl ?_
      exact k
    exact b0_66 C X3 e3 N0 (by show (cells + 1) ≤ 1; omega) (by show (slots + 4) ≤ 4; omega) zz3 hS0 kk3 b43 (by omega) v3 x0 x1 x2 x3 x4 x5 x6 u0 v1 v2 ((x2 &&& (127 : Int32)).toInt8.toInt32) (0 : Int32) A_b43_3 hr
  · refine RunsW.via (T' := T3) (g' := (mkF m 55 #[.val (.int x0), .val (.int x1), .val (.int x2), .val (.int x3), .val (.int x4), .val (.int x5), .val (.int x6), .val (.int u0), .val (.int v1), .val (.int v2), .val (.ref b43), .unset, .unset, .unset] [(.int (0 : Int32)), (.ref b43)])) (fun t k => ?_) ?_
    · show Steps p.tables e below (T3.setTop (mkF m 52 #[.val (.int x0), .val (.int x1), .val (.int x2), .val (.int x3), .val (.int x4), .val (.int x5), .val (.int x6), .val (.int u0), .val (.int v1), .val (.int v2), .val (.ref b43), .unset, .unset, .unset] [(.int x6), (.int (0 : Int32)), (.ref b43)])) t
      exact XS.ifNo X3.here hx rfl (hb hby at_52) rfl ((if0 _ _).trans (feq hc4).1) k
    refine RunsW.via (T' := T3) (g' := (mkF m 66 #[.val (.int x0), .val (.int x1), .val (.int x2), .val (.int x3), .val (.int x4), .val (.int x5), .val (.int x6), .val (.int u0), .val (.int v1), .val (.int v2), .val (.ref b43), .unset, .unset, .unset] [(.int (v2.toInt8.toInt32)), (.int (0 : Int32)), (.ref b43)])) (fun t k => ?_) ?_
    · show Steps p.tables e below (T3.setTop (mkF m 55 #[.val (.int x0), .val (.int x1), .val (.int x2), .val (.int x3), .val (.int x4), .val (.int x5), .val (.int x6), .val (.int u0), .val (.int v1), .val (.int v2), .val (.ref b43), .unset, .unset, .unset] [(.int (0 : Int32)), (.ref b43)])) t
      refine XS.iload X3.here hx rfl (hb hby at_55) rfl ?_
      show Steps p.tables e below (T3.setTop (mkF m 57 #[.val (.int x0), .val (.int x1), .val (.int x2), .val (.int x3), .val (.int x4), .val (.int x5), .val (.int x6), .val (.int u0), .val (.int v1), .val (.int v2), .val (.ref b43), .unset, .unset, .unset] [(.int v2), (.int (0 : Int32)), (.ref b43)])) t
      refine XS.i2b X3.here hx rfl (hb hby at_57) rfl ?_
      show Steps p.tables e below (T3.setTop (mkF m 58 #[.val (.int x0), .val (.int x1), .val (.int x2), .val (.int x3), .val (.int x4), .val (.int x5), .val (.int x6), .val (.int u0), .val (.int v1), .val (.int v2), .val (.ref b43), .unset, .unset, .unset] [(.int (v2.toInt8.toInt32)), (.int (0 : Int32)), (.ref b43)])) t
      refine XS.goto X3.here hx rfl (pc0 := 58) (pc' := 66) rfl (hb hby at_58) (by decide) (by decide) ?_
      exact k
    exact b0_66 C X3 e3 N0 (by show (cells + 1) ≤ 1; omega) (by show (slots + 4) ≤ 4; omega) zz3 hS0 kk3 b43 (by omega) v3 x0 x1 x2 x3 x4 x5 x6 u0 v1 v2 (v2.toInt8.toInt32) (0 : Int32) A_b43_3 hr
def g0_11 (x0 : Int32) (x1 : Int32) (x2 : Int32) (x3 : Int32) (x4 : Int32) (x5 : Int32) (u0 : Int32) : Option (Int32) := (if (x0 &&& (2 : Int32)) = (0 : Int32) then (g0_24 x1 x2 x3 x4 x5 u0 (0 : Int32)) else (g0_24 x1 x2 x3 x4 x5 u0 (1 : Int32)))
set_option maxRecDepth 65536 in
set_option maxHeartbeats 4000000 in
theorem b0_11 {vm0 : Vm} {k0 : Nat} {r : Int32} (C : Ctx p (s.setVm vm0) m meth c Z a0 "com/example/wirelace/wirelace/codec/WireReaderHasRemainingPinLaw" code 14 (some .boolean) "law") (X0 : Stand p l e room_1 (s.setVm vm0) m args below meth c T0 locs cells slots) (e0 : T0.heap = h0) (N0 : Fr n0 locs) (hk : cells ≤ 0) (hn : slots ≤ 0) (Z1 : n0 ≤ h0.size) (hS0 : s.Since vm0 k0) (hk0 : k0 ≤ h0.size) (x0 : Int32) (x1 : Int32) (x2 : Int32) (x3 : Int32) (x4 : Int32) (x5 : Int32) (u0 : Int32) (hr : g0_11 x0 x1 x2 x3 x4 x5 u0 = some r) :
    RunsW p e below s (P0 n0 r) 6 146 T0 (mkF m 11 #[.val (.int x0), .val (.int x1), .val (.int x2), .val (.int x3), .val (.int x4), .val (.int x5), .unset, .unset, .unset, .unset, .unset, .unset, .unset, .unset] [(.int u0)]) := by
  unfold g0_11 at hr
  have ⟨hx, hZ, hw, hby, hml, hown, hret, hlk, hnm⟩ := C
  refine RunsW.via (T' := T0) (g' := (mkF m 16 #[.val (.int x0), .val (.int x1), .val (.int x2), .val (.int x3), .val (.int x4), .val (.int x5), .val (.int u0), .unset, .unset, .unset, .unset, .unset, .unset, .unset] [(.int (x0 &&& (2 : Int32)))])) (fun t k => ?_) ?_
  · show Steps p.tables e below (T0.setTop (mkF m 11 #[.val (.int x0), .val (.int x1), .val (.int x2), .val (.int x3), .val (.int x4), .val (.int x5), .unset, .unset, .unset, .unset, .unset, .unset, .unset, .unset] [(.int u0)])) t
    refine XS.istore X0.here hx rfl (hb hby at_11) rfl (l' := #[.val (.int x0), .val (.int x1), .val (.int x2), .val (.int x3), .val (.int x4), .val (.int x5), .val (.int u0), .unset, .unset, .unset, .unset, .unset, .unset, .unset]) rfl ?_
    show Steps p.tables e below (T0.setTop (mkF m 13 #[.val (.int x0), .val (.int x1), .val (.int x2), .val (.int x3), .val (.int x4), .val (.int x5), .val (.int u0), .unset, .unset, .unset, .unset, .unset, .unset, .unset] [])) t
    refine XS.iloadN X0.here hx rfl (hb hby at_13) rfl ?_
    show Steps p.tables e below (T0.setTop (mkF m 14 #[.val (.int x0), .val (.int x1), .val (.int x2), .val (.int x3), .val (.int x4), .val (.int x5), .val (.int u0), .unset, .unset, .unset, .unset, .unset, .unset, .unset] [(.int x0)])) t
    refine XS.iconst X0.here hx rfl (hb hby at_14) ?_
    show Steps p.tables e below (T0.setTop (mkF m 15 #[.val (.int x0), .val (.int x1), .val (.int x2), .val (.int x3), .val (.int x4), .val (.int x5), .val (.int u0), .unset, .unset, .unset, .unset, .unset, .unset, .unset] [(.int (2 : Int32)), (.int x0)])) t
    refine XS.iand X0.here hx rfl (hb hby at_15) rfl ?_
    exact k
  refine iteE hr (fun hc1 hr => ?_) (fun hc1 hr => ?_)
  · refine RunsW.via (T' := T0) (g' := (mkF m 23 #[.val (.int x0), .val (.int x1), .val (.int x2), .val (.int x3), .val (.int x4), .val (.int x5), .val (.int u0), .unset, .unset, .unset, .unset, .unset, .unset, .unset] [])) (fun t k => ?_) ?_
    · show Steps p.tables e below (T0.setTop (mkF m 16 #[.val (.int x0), .val (.int x1), .val (.int x2), .val (.int x3), .val (.int x4), .val (.int x5), .val (.int u0), .unset, .unset, .unset, .unset, .unset, .unset, .unset] [(.int (x0 &&& (2 : Int32)))])) t
      exact XS.ifYes X0.here hx rfl (pc0 := 16) (pc' := 23) rfl (hb hby at_16) rfl ((if0 _ _).trans (teq hc1).1) (by decide) (by decide) k
    refine RunsW.via (T' := T0) (g' := (mkF m 24 #[.val (.int x0), .val (.int x1), .val (.int x2), .val (.int x3), .val (.int x4), .val (.int x5), .val (.int u0), .unset, .unset, .unset, .unset, .unset, .unset, .unset] [(.int (0 : Int32))])) (fun t k => ?_) ?_
    · show Steps p.tables e below (T0.setTop (mkF m 23 #[.val (.int x0), .val (.int x1), .val (.int x2), .val (.int x3), .val (.int x4), .val (.int x5), .val (.int u0), .unset, .unset, .unset, .unset, .unset, .unset, .unset] [])) t
      refine XS.iconst X0.here hx rfl (hb hby at_23) ?_
      exact k
    exact b0_24 C X0 e0 N0 (by show cells ≤ 0; omega) (by show slots ≤ 0; omega) Z1 hS0 hk0 x0 x1 x2 x3 x4 x5 u0 (0 : Int32) hr
  · refine RunsW.via (T' := T0) (g' := (mkF m 19 #[.val (.int x0), .val (.int x1), .val (.int x2), .val (.int x3), .val (.int x4), .val (.int x5), .val (.int u0), .unset, .unset, .unset, .unset, .unset, .unset, .unset] [])) (fun t k => ?_) ?_
    · show Steps p.tables e below (T0.setTop (mkF m 16 #[.val (.int x0), .val (.int x1), .val (.int x2), .val (.int x3), .val (.int x4), .val (.int x5), .val (.int u0), .unset, .unset, .unset, .unset, .unset, .unset, .unset] [(.int (x0 &&& (2 : Int32)))])) t
      exact XS.ifNo X0.here hx rfl (hb hby at_16) rfl ((if0 _ _).trans (feq hc1).1) k
    refine RunsW.via (T' := T0) (g' := (mkF m 24 #[.val (.int x0), .val (.int x1), .val (.int x2), .val (.int x3), .val (.int x4), .val (.int x5), .val (.int u0), .unset, .unset, .unset, .unset, .unset, .unset, .unset] [(.int (1 : Int32))])) (fun t k => ?_) ?_
    · show Steps p.tables e below (T0.setTop (mkF m 19 #[.val (.int x0), .val (.int x1), .val (.int x2), .val (.int x3), .val (.int x4), .val (.int x5), .val (.int u0), .unset, .unset, .unset, .unset, .unset, .unset, .unset] [])) t
      refine XS.iconst X0.here hx rfl (hb hby at_19) ?_
      show Steps p.tables e below (T0.setTop (mkF m 20 #[.val (.int x0), .val (.int x1), .val (.int x2), .val (.int x3), .val (.int x4), .val (.int x5), .val (.int u0), .unset, .unset, .unset, .unset, .unset, .unset, .unset] [(.int (1 : Int32))])) t
      refine XS.goto X0.here hx rfl (pc0 := 20) (pc' := 24) rfl (hb hby at_20) (by decide) (by decide) ?_
      exact k
    exact b0_24 C X0 e0 N0 (by show cells ≤ 0; omega) (by show slots ≤ 0; omega) Z1 hS0 hk0 x0 x1 x2 x3 x4 x5 u0 (1 : Int32) hr
def g0_0 (x0 : Int32) (x1 : Int32) (x2 : Int32) (x3 : Int32) (x4 : Int32) (x5 : Int32) : Option (Int32) := (if (x0 &&& (1 : Int32)) = (0 : Int32) then (g0_11 x0 x1 x2 x3 x4 x5 (0 : Int32)) else (g0_11 x0 x1 x2 x3 x4 x5 (1 : Int32)))
set_option maxRecDepth 65536 in
set_option maxHeartbeats 4000000 in
theorem b0_0 {vm0 : Vm} {k0 : Nat} {r : Int32} (C : Ctx p (s.setVm vm0) m meth c Z a0 "com/example/wirelace/wirelace/codec/WireReaderHasRemainingPinLaw" code 14 (some .boolean) "law") (X0 : Stand p l e room_1 (s.setVm vm0) m args below meth c T0 locs cells slots) (e0 : T0.heap = h0) (N0 : Fr n0 locs) (hk : cells ≤ 0) (hn : slots ≤ 0) (Z1 : n0 ≤ h0.size) (hS0 : s.Since vm0 k0) (hk0 : k0 ≤ h0.size) (x0 : Int32) (x1 : Int32) (x2 : Int32) (x3 : Int32) (x4 : Int32) (x5 : Int32) (hr : g0_0 x0 x1 x2 x3 x4 x5 = some r) :
    RunsW p e below s (P0 n0 r) 6 146 T0 (mkF m 0 #[.val (.int x0), .val (.int x1), .val (.int x2), .val (.int x3), .val (.int x4), .val (.int x5), .unset, .unset, .unset, .unset, .unset, .unset, .unset, .unset] []) := by
  unfold g0_0 at hr
  have ⟨hx, hZ, hw, hby, hml, hown, hret, hlk, hnm⟩ := C
  refine RunsW.via (T' := T0) (g' := (mkF m 3 #[.val (.int x0), .val (.int x1), .val (.int x2), .val (.int x3), .val (.int x4), .val (.int x5), .unset, .unset, .unset, .unset, .unset, .unset, .unset, .unset] [(.int (x0 &&& (1 : Int32)))])) (fun t k => ?_) ?_
  · show Steps p.tables e below (T0.setTop (mkF m 0 #[.val (.int x0), .val (.int x1), .val (.int x2), .val (.int x3), .val (.int x4), .val (.int x5), .unset, .unset, .unset, .unset, .unset, .unset, .unset, .unset] [])) t
    refine XS.iloadN X0.here hx rfl (hb hby at_0) rfl ?_
    show Steps p.tables e below (T0.setTop (mkF m 1 #[.val (.int x0), .val (.int x1), .val (.int x2), .val (.int x3), .val (.int x4), .val (.int x5), .unset, .unset, .unset, .unset, .unset, .unset, .unset, .unset] [(.int x0)])) t
    refine XS.iconst X0.here hx rfl (hb hby at_1) ?_
    show Steps p.tables e below (T0.setTop (mkF m 2 #[.val (.int x0), .val (.int x1), .val (.int x2), .val (.int x3), .val (.int x4), .val (.int x5), .unset, .unset, .unset, .unset, .unset, .unset, .unset, .unset] [(.int (1 : Int32)), (.int x0)])) t
    refine XS.iand X0.here hx rfl (hb hby at_2) rfl ?_
    exact k
  refine iteE hr (fun hc1 hr => ?_) (fun hc1 hr => ?_)
  · refine RunsW.via (T' := T0) (g' := (mkF m 10 #[.val (.int x0), .val (.int x1), .val (.int x2), .val (.int x3), .val (.int x4), .val (.int x5), .unset, .unset, .unset, .unset, .unset, .unset, .unset, .unset] [])) (fun t k => ?_) ?_
    · show Steps p.tables e below (T0.setTop (mkF m 3 #[.val (.int x0), .val (.int x1), .val (.int x2), .val (.int x3), .val (.int x4), .val (.int x5), .unset, .unset, .unset, .unset, .unset, .unset, .unset, .unset] [(.int (x0 &&& (1 : Int32)))])) t
      exact XS.ifYes X0.here hx rfl (pc0 := 3) (pc' := 10) rfl (hb hby at_3) rfl ((if0 _ _).trans (teq hc1).1) (by decide) (by decide) k
    refine RunsW.via (T' := T0) (g' := (mkF m 11 #[.val (.int x0), .val (.int x1), .val (.int x2), .val (.int x3), .val (.int x4), .val (.int x5), .unset, .unset, .unset, .unset, .unset, .unset, .unset, .unset] [(.int (0 : Int32))])) (fun t k => ?_) ?_
    · show Steps p.tables e below (T0.setTop (mkF m 10 #[.val (.int x0), .val (.int x1), .val (.int x2), .val (.int x3), .val (.int x4), .val (.int x5), .unset, .unset, .unset, .unset, .unset, .unset, .unset, .unset] [])) t
      refine XS.iconst X0.here hx rfl (hb hby at_10) ?_
      exact k
    exact b0_11 C X0 e0 N0 (by show cells ≤ 0; omega) (by show slots ≤ 0; omega) Z1 hS0 hk0 x0 x1 x2 x3 x4 x5 (0 : Int32) hr
  · refine RunsW.via (T' := T0) (g' := (mkF m 6 #[.val (.int x0), .val (.int x1), .val (.int x2), .val (.int x3), .val (.int x4), .val (.int x5), .unset, .unset, .unset, .unset, .unset, .unset, .unset, .unset] [])) (fun t k => ?_) ?_
    · show Steps p.tables e below (T0.setTop (mkF m 3 #[.val (.int x0), .val (.int x1), .val (.int x2), .val (.int x3), .val (.int x4), .val (.int x5), .unset, .unset, .unset, .unset, .unset, .unset, .unset, .unset] [(.int (x0 &&& (1 : Int32)))])) t
      exact XS.ifNo X0.here hx rfl (hb hby at_3) rfl ((if0 _ _).trans (feq hc1).1) k
    refine RunsW.via (T' := T0) (g' := (mkF m 11 #[.val (.int x0), .val (.int x1), .val (.int x2), .val (.int x3), .val (.int x4), .val (.int x5), .unset, .unset, .unset, .unset, .unset, .unset, .unset, .unset] [(.int (1 : Int32))])) (fun t k => ?_) ?_
    · show Steps p.tables e below (T0.setTop (mkF m 6 #[.val (.int x0), .val (.int x1), .val (.int x2), .val (.int x3), .val (.int x4), .val (.int x5), .unset, .unset, .unset, .unset, .unset, .unset, .unset, .unset] [])) t
      refine XS.iconst X0.here hx rfl (hb hby at_6) ?_
      show Steps p.tables e below (T0.setTop (mkF m 7 #[.val (.int x0), .val (.int x1), .val (.int x2), .val (.int x3), .val (.int x4), .val (.int x5), .unset, .unset, .unset, .unset, .unset, .unset, .unset, .unset] [(.int (1 : Int32))])) t
      refine XS.goto X0.here hx rfl (pc0 := 7) (pc' := 11) rfl (hb hby at_7) (by decide) (by decide) ?_
      exact k
    exact b0_11 C X0 e0 N0 (by show cells ≤ 0; omega) (by show slots ≤ 0; omega) Z1 hS0 hk0 x0 x1 x2 x3 x4 x5 (1 : Int32) hr
def f0 (x0 : Int32) (x1 : Int32) (x2 : Int32) (x3 : Int32) (x4 : Int32) (x5 : Int32) : Option (Int32) := g0_0 x0 x1 x2 x3 x4 x5
theorem pn_0 : plainName "com/example/wirelace/wirelace/codec/WireReaderHasRemainingPinLaw" = true := by first | (simp [plainName, overriddenIn]; done) | decide +kernel
theorem ef_0 (m : MethodId) (x0 : Int32) (x1 : Int32) (x2 : Int32) (x3 : Int32) (x4 : Int32) (x5 : Int32) : entryFrame m #[(.int x0), (.int x1), (.int x2), (.int x3), (.int x4), (.int x5)] maxLocals = mkF m 0 #[.val (.int x0), .val (.int x1), .val (.int x2), .val (.int x3), .val (.int x4), .val (.int x5), .unset, .unset, .unset, .unset, .unset, .unset, .unset, .unset] [] := by first | (simp [entryFrame, mkF, argsToLocals, Value.category, maxLocals]; done) | rfl
set_option maxRecDepth 65536 in
set_option maxHeartbeats 4000000 in
theorem rm0 (l : Launch) (Z : State) (a0 : Array Value) (hw : ∀ d ∈ tables_1, d.before a0 Z = true) (ws : List Jvm.Cond) (x0 : Int32) (x1 : Int32) (x2 : Int32) (x3 : Int32) (x4 : Int32) (x5 : Int32) (hE : Heap) (n0 : Nat) (Z0 : n0 ≤ hE.size) (r : Int32) (hr : f0 x0 x1 x2 x3 x4 x5 = some r) :
    MetFree l x (head1 (Jvm.Cond.code x code maxLocals ret :: ws) room_1) (fun a U => a = #[(.int x0), (.int x1), (.int x2), (.int x3), (.int x4), (.int x5)] ∧ Z.Warmed39 U.vm ∧ U.heap = hE) (fun _ _ _ _ _ => True) (fun _ U o U' => ∃ v L, o = .returned v ∧ (P0 n0 r v U'.heap L) ∧ ReturnedEndW U o U' L 6 146) := by
  refine MetFree.of_bodySF (plainFor_of_name pn_0) hisR ?_
  intro p e s m args below meth c s₁ Bd hml0 hP hK
  obtain ⟨rfl, hZ, hh⟩ := hP
  have X0 : Stand p l e room_1 s m #[(.int x0), (.int x1), (.int x2), (.int x3), (.int x4), (.int x5)] below meth c s₁ [] 0 0 := Stand.of_body Bd
  have e0 : s₁.heap = hE := by rw [← hh, Bd.state]; rfl
  have C : Ctx p s m meth c Z a0 "com/example/wirelace/wirelace/codec/WireReaderHasRemainingPinLaw" code 14 (some .boolean) "law" := ⟨Bd.exec, hZ, hw, Bd.bytes, hml0, findClass_of_methodNamed Bd.named, Bd.returns, BodyLoose.notSynchronized Bd, (name_of_methodNamed Bd.named Bd.method).1⟩
  have X0 : Stand p l e room_1 (s.setVm s.vm) m #[(.int x0), (.int x1), (.int x2), (.int x3), (.int x4), (.int x5)] below meth c s₁ [] 0 0 := X0
  have hS0 : s.Since s.vm hE.size := (State.WarmedH.refl s).since _
  have hk0 : hE.size ≤ hE.size := Nat.le_refl _
  have C : Ctx p (s.setVm s.vm) m meth c Z a0 "com/example/wirelace/wirelace/codec/WireReaderHasRemainingPinLaw" code 14 (some .boolean) "law" := C
  refine RunsW.via (fun t k => castTop (ef_0 m x0 x1 x2 x3 x4 x5) k) (b0_0 C X0 e0 (Fr.nil n0) (by show 0 ≤ 0; omega) (by show 0 ≤ 0; omega) Z0 hS0 hk0 x0 x1 x2 x3 x4 x5 hr)
end Own
theorem bindS {α β : Type} {x : Option α} {k : α → Option β} {r : Option β} {v : α} (h : x = some v) (H : k v = r) : x.bind k = r := by rw [h]; exact H
theorem letS {α β : Type} {x : α} {k : α → β} {r : β} (H : k x = r) : letO x k = r := H
theorem own_irem (u d : Int32) (D : Int) (hd : d.toInt = D) (hD : 0 < D) (h0 : 0 ≤ u.toInt) : (u - (u / d) * d).toInt = u.toInt % D := by
  have hn : d ≠ -1 := fun q => by rw [q] at hd; have : (-1 : Int32).toInt = -1 := by decide
                                  omega
  have e1 := (c_idiv u d D hd hn).1 h0
  have e2 := c_imul (u / d) d
  have e3 := c_isub u ((u / d) * d)
  have r1 := rng32 u
  have r2 := rng32 ((u / d) * d)
  have r3 := rng32 (u - (u / d) * d)
  rw [hd, e1] at e2
  have e4 := Int.emod_add_mul_ediv u.toInt D
  have e5 := Int.emod_nonneg u.toInt (by omega : D ≠ 0)
  have e6 := Int.emod_lt_of_pos u.toInt hD
  have e7 : u.toInt / D * D = D * (u.toInt / D) := Int.mul_comm _ _
  rw [e7] at e2
  have e8 : 0 ≤ D * (u.toInt / D) := Int.mul_nonneg (by omega) (Int.ediv_nonneg h0 (by omega))
  omega
theorem own_pos (x : Int32) : 0 ≤ (x &&& (2147483647 : Int32)).toInt := by rw [c_mask x 2147483647 31 (by decide) (by decide)]; exact Int.emod_nonneg _ (by decide)
theorem own_of {i : Nat} (h : i ≤ 9) : (Int32.ofNat i).toInt = i ∧ (Int32.ofNat i).toNatClampNeg = i ∧ ¬ (Int32.ofNat i) < 0 ∧ Int32.ofNat i + 1 = Int32.ofNat (i + 1) := by
  have : ∀ j : Fin 10, (Int32.ofNat j.val).toInt = (j.val : Int) ∧ (Int32.ofNat j.val).toNatClampNeg = j.val ∧ ¬ (Int32.ofNat j.val) < 0 ∧ Int32.ofNat j.val + 1 = Int32.ofNat (j.val + 1) := by decide +kernel
  exact this ⟨i, by omega⟩
theorem own_of_eq (x : Int32) (n : Nat) (hn : n ≤ 9) (h : x.toInt = n) : x = Int32.ofNat n := Int32.toInt_inj.mp (by rw [h, (own_of hn).1])
theorem own_f0 : (if false = true then (1 : Int32) else 0) = 0 := rfl
/-- four bytes, none negative -/
def own_B (cs : List Int32) : Prop := cs.length = 4 ∧ ∀ (i : Nat) (v : Int32), cs[i]? = some v → 0 ≤ v.toInt
theorem own_read (cs : List Int32) (B : own_B cs) (p md : Int32) (lim pos : Nat) (h1 : pos < lim) (h2 : lim ≤ 4) : ∃ v, cs[pos]? = some v ∧ f7 cs p (Int32.ofNat lim) md (Int32.ofNat pos) = some (Int32.toInt64 v, Int32.ofNat (pos + 1)) := by
  obtain ⟨hl, hb⟩ := B
  have hv : cs[pos]? = some (cs[pos]'(by omega)) := List.getElem?_eq_getElem _
  generalize cs[pos]'(by omega) = v at hv
  refine ⟨v, hv, ?_⟩
  have o1 := own_of (i := pos) (by omega)
  have o2 := own_of (i := lim) (by omega)
  have hr : rdO cs (Int32.ofNat pos) = some v := by unfold rdO; rw [if_neg o1.2.2.1, o1.2.1]; exact hv
  have h0 := hb pos v hv
  unfold f7 g7_0
  rw [if_pos (by rw [Int32.lt_iff_toInt_lt]; omega)]
  refine bindS hr ?_
  have z : (0 : Int32).toInt = 0 := by decide
  rw [if_neg (by rw [Int32.lt_iff_toInt_lt]; omega)]
  refine letS ?_
  refine bindS hr ?_
  rw [o1.2.2.2]
theorem own_readN (cs : List Int32) (B : own_B cs) (p md : Int32) (lim pos n : Nat) (h1 : pos + n ≤ lim) (h2 : lim ≤ 4) : f6 (Int32.ofNat n) cs p (Int32.ofNat lim) md (Int32.ofNat pos) = some (Int32.ofNat (pos + n)) := by
  have o := own_of (i := n) (by omega)
  have z1 : (1 : Int32).toInt = 1 := by decide
  have z2 : (2 : Int32).toInt = 2 := by decide
  have z3 : (3 : Int32).toInt = 3 := by decide
  have z4 : (4 : Int32).toInt = 4 := by decide
  have s4 : ∀ q, (n < 4 → q = pos + n) → (4 ≤ n → q = pos + 3) → g6_30 (Int32.ofNat n) cs p (Int32.ofNat lim) md (Int32.ofNat q) = some (Int32.ofNat (pos + n)) := by
    intro q q1 q2
    unfold g6_30
    by_cases h : n < 4
    · rw [if_pos (by rw [Int32.lt_iff_toInt_lt]; omega), q1 h]
    · rw [if_neg (by rw [Int32.lt_iff_toInt_lt]; omega)]
      obtain ⟨v, -, hv⟩ := own_read cs B p md lim q (by have := q2 (by omega); omega) h2
      refine bindS hv ?_
      have : q + 1 = pos + n := by have := q2 (by omega); omega
      rw [← this]
  have s3 : ∀ q, (n < 3 → q = pos + n) → (3 ≤ n → q = pos + 2) → g6_20 (Int32.ofNat n) cs p (Int32.ofNat lim) md (Int32.ofNat q) = some (Int32.ofNat (pos + n)) := by
    intro q q1 q2
    unfold g6_20
    by_cases h : n < 3
    · rw [if_pos (by rw [Int32.lt_iff_toInt_lt]; omega)]
      exact s4 q (fun _ => q1 h) (fun c => absurd c (by omega))
    · rw [if_neg (by rw [Int32.lt_iff_toInt_lt]; omega)]
      obtain ⟨v, -, hv⟩ := own_read cs B p md lim q (by have := q2 (by omega); omega) h2
      refine bindS hv ?_
      exact s4 (q + 1) (fun _ => by have := q2 (by omega); omega) (fun _ => by have := q2 (by omega); omega)
  have s2 : ∀ q, (n < 2 → q = pos + n) → (2 ≤ n → q = pos + 1) → g6_10 (Int32.ofNat n) cs p (Int32.ofNat lim) md (Int32.ofNat q) = some (Int32.ofNat (pos + n)) := by
    intro q q1 q2
    unfold g6_10
    by_cases h : n < 2
    · rw [if_pos (by rw [Int32.lt_iff_toInt_lt]; omega)]
      exact s3 q (fun _ => q1 h) (fun c => absurd c (by omega))
    · rw [if_neg (by rw [Int32.lt_iff_toInt_lt]; omega)]
      obtain ⟨v, -, hv⟩ := own_read cs B p md lim q (by have := q2 (by omega); omega) h2
      refine bindS hv ?_
      exact s3 (q + 1) (fun _ => by have := q2 (by omega); omega) (fun _ => by have := q2 (by omega); omega)
  unfold f6 g6_0
  by_cases h : n < 1
  · rw [if_pos (by rw [Int32.lt_iff_toInt_lt]; omega)]
    exact s2 pos (fun _ => by omega) (fun c => absurd c (by omega))
  · rw [if_neg (by rw [Int32.lt_iff_toInt_lt]; omega)]
    obtain ⟨v, -, hv⟩ := own_read cs B p md lim pos (by omega) h2
    refine bindS hv ?_
    exact s2 (pos + 1) (fun _ => by omega) (fun _ => by omega)
theorem own_made (cs : List Int32) (hl : cs.length = 4) : f1 cs 0 0 0 0 = some (-1, Int32.ofNat 4, 100) := by
  unfold f1 g1_0
  have : f2 100 cs 0 0 0 0 = some (-1, Int32.ofNat 4, 100) := by
    unfold f2 g2_0
    refine bindS (v := ()) rfl ?_
    refine letS ?_
    refine bindS (v := 100) (by decide +kernel) ?_
    have e : lenO cs = Int32.ofNat 4 := by unfold lenO; rw [hl] <;> decide
    rw [e]
  exact bindS this rfl
theorem own_enter (cs : List Int32) (B : own_B cs) (len : Nat) (hl : len ≤ 3) (h0 : cs[0]? = some (Int32.ofNat len)) : f9 cs (-1) (Int32.ofNat 4) 100 (Int32.ofNat 0) = some (Int32.ofNat 4, Int32.ofNat (1 + len), Int32.ofNat 1) := by
  unfold f9 g9_0
  rw [if_pos (by decide)]
  have h10 : f10 cs (-1) (Int32.ofNat 4) 100 (Int32.ofNat 0) = some (Int32.ofNat 1, Int32.ofNat (1 + len)) := by
    unfold f10 g10_0
    obtain ⟨v, hv, hr⟩ := own_read cs B (-1) 100 4 0 (by omega) (by omega)
    rw [h0] at hv
    obtain rfl := Option.some.inj hv
    refine bindS hr ?_
    have h11 : ∀ j : Fin 4, f11 (Int32.ofNat 0) (Int32.toInt64 (Int32.ofNat j.val)) [] (-1) (Int32.ofNat 4) 100 (Int32.ofNat 1) = some () ∧ Int32.ofNat 1 + Int64.toInt32 (Int32.toInt64 (Int32.ofNat j.val)) = Int32.ofNat (1 + j.val) := by decide +kernel
    obtain ⟨e1, e2⟩ := h11 ⟨len, by omega⟩
    refine bindS (v := ()) e1 ?_
    refine letS ?_
    show some (Int32.ofNat 1, Int32.ofNat 1 + Int64.toInt32 (Int32.toInt64 (Int32.ofNat len))) = _
    rw [e2]
  exact bindS h10 rfl
theorem own_end (cs : List Int32) (p md x : Int32) (lim pos : Nat) (h1 : lim ≤ 9) (h2 : pos ≤ 9) (hx : x = if pos < lim then 1 else 0) : g0_198 x cs p (Int32.ofNat lim) md (Int32.ofNat pos) = some 1 := by
  have o1 := own_of h1
  have o2 := own_of h2
  unfold g0_198 f8 g8_0
  by_cases h : pos < lim
  · rw [if_pos (by rw [Int32.lt_iff_toInt_lt]; omega)]
    rw [if_pos h] at hx
    subst hx
    rfl
  · rw [if_neg (by rw [Int32.lt_iff_toInt_lt]; omega)]
    rw [if_neg h] at hx
    subst hx
    rfl
theorem own_byte (x : Int32) : 0 ≤ (((x &&& (127 : Int32)).toInt8.toInt32).toInt8.toInt32).toInt ∧ 0 ≤ ((x &&& (127 : Int32)).toInt8.toInt32).toInt := by
  have h := c_mask x 127 7 (by decide) (by decide)
  have h1 : 0 ≤ (x &&& (127 : Int32)).toInt ∧ (x &&& (127 : Int32)).toInt < 128 := by rw [h]; exact ⟨Int.emod_nonneg _ (by decide), Int.emod_lt_of_pos _ (by decide)⟩
  have a := c_i2b (x &&& (127 : Int32))
  have b := c_i2b ((x &&& (127 : Int32)).toInt8.toInt32)
  omega
theorem own_small (len : Nat) (h : len ≤ 3) : ((Int32.ofNat len).toInt8.toInt32).toInt8.toInt32 = Int32.ofNat len := by
  have : ∀ j : Fin 4, ((Int32.ofNat j.val).toInt8.toInt32).toInt8.toInt32 = Int32.ofNat j.val := by decide +kernel
  exact this ⟨len, by omega⟩
theorem own_wr (xs : List Int32) (v : Int32) {i : Nat} (h : i < 4) (hl : xs.length = 4) : wrO xs (Int32.ofNat i) v = some (xs.set i v) := by
  obtain ⟨-, h2, h3, -⟩ := own_of (i := i) (by omega)
  unfold wrO
  rw [h2, if_neg]
  rintro (q | q)
  · exact h3 q
  · omega
theorem own_four (a b c d : Int32) (ha : 0 ≤ a.toInt) (hb : 0 ≤ b.toInt) (hc : 0 ≤ c.toInt) (hd : 0 ≤ d.toInt) : own_B [a, b, c, d] := by
  refine ⟨rfl, fun i v hv => ?_⟩
  match i, hv with
  | 0, hv => obtain rfl := Option.some.inj hv; exact ha
  | 1, hv => obtain rfl := Option.some.inj hv; exact hb
  | 2, hv => obtain rfl := Option.some.inj hv; exact hc
  | 3, hv => obtain rfl := Option.some.inj hv; exact hd
  | i + 4, hv => exact nomatch hv
theorem own_min (a b : Int32) : (f14 a b).toInt = min a.toInt b.toInt := by
  unfold f14 g14_0
  split
  · rename_i h; rw [Int32.lt_iff_toInt_lt] at h; omega
  · rename_i h; rw [Int32.lt_iff_toInt_lt] at h; omega
theorem own_66 (x3 x4 x5 x7 u0 : Int32) (pk : Bool) (n len : Nat) (hn : n ≤ 4) (hl : len ≤ 3) (h0 : 0 ≤ (u0.toInt8.toInt32).toInt) (hp : pk = true → u0.toInt8.toInt32 = Int32.ofNat len) :
    g0_66 x3 x4 x5 (if pk then 1 else 0) x7 (Int32.ofNat n) (Int32.ofNat len) u0 0 [0, 0, 0, 0] = some 1 := by
  unfold g0_66
  refine bindS (own_wr [0, 0, 0, 0] _ (i := 0) (by omega) rfl) ?_
  refine bindS (own_wr _ _ (i := 1) (by omega) rfl) ?_
  refine bindS (own_wr _ _ (i := 2) (by omega) rfl) ?_
  refine bindS (own_wr _ _ (i := 3) (by omega) rfl) ?_
  have b3 := (own_byte x3).1
  have b4 := (own_byte x4).1
  have b5 := (own_byte x5).1
  have B := own_four (u0.toInt8.toInt32) _ _ _ h0 b3 b4 b5
  have e : ((([0, 0, 0, 0] : List Int32).set 0 (u0.toInt8.toInt32)).set 1 (((x3 &&& (127 : Int32)).toInt8.toInt32).toInt8.toInt32)).set 2 (((x4 &&& (127 : Int32)).toInt8.toInt32).toInt8.toInt32) = [u0.toInt8.toInt32, ((x3 &&& (127 : Int32)).toInt8.toInt32).toInt8.toInt32, ((x4 &&& (127 : Int32)).toInt8.toInt32).toInt8.toInt32, 0] := rfl
  have e2 : ([u0.toInt8.toInt32, ((x3 &&& (127 : Int32)).toInt8.toInt32).toInt8.toInt32, ((x4 &&& (127 : Int32)).toInt8.toInt32).toInt8.toInt32, 0] : List Int32).set 3 (((x5 &&& (127 : Int32)).toInt8.toInt32).toInt8.toInt32) = [u0.toInt8.toInt32, ((x3 &&& (127 : Int32)).toInt8.toInt32).toInt8.toInt32, ((x4 &&& (127 : Int32)).toInt8.toInt32).toInt8.toInt32, ((x5 &&& (127 : Int32)).toInt8.toInt32).toInt8.toInt32] := rfl
  rw [e, e2]
  have c0 : ([u0.toInt8.toInt32, ((x3 &&& (127 : Int32)).toInt8.toInt32).toInt8.toInt32, ((x4 &&& (127 : Int32)).toInt8.toInt32).toInt8.toInt32, ((x5 &&& (127 : Int32)).toInt8.toInt32).toInt8.toInt32] : List Int32)[0]? = some (u0.toInt8.toInt32) := rfl
  generalize [u0.toInt8.toInt32, ((x3 &&& (127 : Int32)).toInt8.toInt32).toInt8.toInt32, ((x4 &&& (127 : Int32)).toInt8.toInt32).toInt8.toInt32, ((x5 &&& (127 : Int32)).toInt8.toInt32).toInt8.toInt32] = cs at B c0
  refine bindS (own_made cs B.1) ?_
  have on := own_of (i := n) (by omega)
  have ol := own_of (i := len) (by omega)
  have z4 : (4 : Int32).toInt = 4 := by decide
  have z1 : (1 : Int32).toInt = 1 := by decide
  cases pk with
  | false =>
    rw [if_pos own_f0]
    refine bindS (own_readN cs B (-1) 100 4 0 n (by omega) (by omega)) ?_
    unfold g0_130
    split
    · rename_i h
      rw [Int32.lt_iff_toInt_lt] at h
      exact own_end cs _ _ 1 4 (0 + n) (by omega) (by omega) (by rw [if_pos (by omega)])
    · rename_i h
      rw [Int32.lt_iff_toInt_lt] at h
      exact own_end cs _ _ 0 4 (0 + n) (by omega) (by omega) (by rw [if_neg (by omega)])
  | true =>
    rw [if_neg (by decide)]
    rw [hp rfl] at c0
    refine bindS (own_enter cs B len hl c0) ?_
    refine letS ?_
    have hm := own_min (Int32.ofNat n) (Int32.ofNat len)
    obtain ⟨j, hj⟩ : ∃ j : Nat, (f14 (Int32.ofNat n) (Int32.ofNat len)).toInt = j := ⟨(f14 (Int32.ofNat n) (Int32.ofNat len)).toInt.toNat, by omega⟩
    have hj2 := own_of_eq _ j (by omega) hj
    rw [hj2]
    have oj := own_of (i := j) (by omega)
    refine bindS (own_readN cs B (Int32.ofNat 4) 100 (1 + len) 1 j (by omega) (by omega)) ?_
    split
    · unfold g0_196
      split
      · rename_i h
        rw [Int32.lt_iff_toInt_lt] at h
        exact own_end cs _ _ 1 (1 + len) (1 + j) (by omega) (by omega) (by rw [if_pos (by omega)])
      · rename_i h
        rw [Int32.lt_iff_toInt_lt] at h
        exact own_end cs _ _ 0 (1 + len) (1 + j) (by omega) (by omega) (by rw [if_neg (by omega)])
    · have h15 : f15 cs (Int32.ofNat 4) (Int32.ofNat (1 + len)) 100 (Int32.ofNat (1 + j)) = some (-1, Int32.ofNat 4, Int32.ofNat (1 + len)) := by
        unfold f15 g15_0
        rw [if_neg (by decide)]
      refine bindS h15 ?_
      unfold g0_179
      have ea := c_iadd 1 (Int32.ofNat len)
      have ra := rng32 ((1 : Int32) + Int32.ofNat len)
      split
      · rename_i h
        rw [Int32.lt_iff_toInt_lt] at h
        exact own_end cs _ _ 1 4 (1 + len) (by omega) (by omega) (by rw [if_pos (by omega)])
      · rename_i h
        rw [Int32.lt_iff_toInt_lt] at h
        exact own_end cs _ _ 0 4 (1 + len) (by omega) (by omega) (by rw [if_neg (by omega)])
theorem own_24 (x1 x2 x3 x4 x5 x7 : Int32) (pk : Bool) : g0_24 x1 x2 x3 x4 x5 (if pk then 1 else 0) x7 = some 1 := by
  unfold g0_24
  refine letS (letS ?_)
  have h1 := own_irem (x1 &&& (2147483647 : Int32)) 5 5 (by decide) (by decide) (own_pos x1)
  have h2 := own_irem (x2 &&& (2147483647 : Int32)) 4 4 (by decide) (by decide) (own_pos x2)
  have b1 : 0 ≤ ((x1 &&& (2147483647 : Int32)) - ((x1 &&& (2147483647 : Int32)) / 5) * 5).toInt ∧ ((x1 &&& (2147483647 : Int32)) - ((x1 &&& (2147483647 : Int32)) / 5) * 5).toInt < 5 := by rw [h1]; exact ⟨Int.emod_nonneg _ (by decide), Int.emod_lt_of_pos _ (by decide)⟩
  have b2 : 0 ≤ ((x2 &&& (2147483647 : Int32)) - ((x2 &&& (2147483647 : Int32)) / 4) * 4).toInt ∧ ((x2 &&& (2147483647 : Int32)) - ((x2 &&& (2147483647 : Int32)) / 4) * 4).toInt < 4 := by rw [h2]; exact ⟨Int.emod_nonneg _ (by decide), Int.emod_lt_of_pos _ (by decide)⟩
  generalize ((x1 &&& (2147483647 : Int32)) - ((x1 &&& (2147483647 : Int32)) / 5) * 5) = a at b1
  generalize ((x2 &&& (2147483647 : Int32)) - ((x2 &&& (2147483647 : Int32)) / 4) * 4) = b at b2
  obtain ⟨n, hn⟩ : ∃ n : Nat, a.toInt = n := ⟨a.toInt.toNat, by omega⟩
  obtain ⟨len, hlen⟩ : ∃ len : Nat, b.toInt = len := ⟨b.toInt.toNat, by omega⟩
  obtain rfl := own_of_eq a n (by omega) hn
  obtain rfl := own_of_eq b len (by omega) hlen
  refine bindS (v := [0, 0, 0, 0]) (by decide +kernel) ?_
  cases pk with
  | false =>
    rw [if_pos own_f0]
    exact own_66 x3 x4 x5 x7 _ false n len (by omega) (by omega) (own_byte x2).1 (fun q => nomatch q)
  | true =>
    rw [if_neg (by decide)]
    have hs := own_small len (by omega)
    exact own_66 x3 x4 x5 x7 _ true n len (by omega) (by omega) (by rw [hs, (own_of (i := len) (by omega)).1]; omega) (fun _ => hs)
theorem own_law (x0 x1 x2 x3 x4 x5 : Int32) : f0 x0 x1 x2 x3 x4 x5 = some 1 := by
  unfold f0 g0_0 g0_11
  split
  · split
    · exact own_24 x1 x2 x3 x4 x5 0 false
    · exact own_24 x1 x2 x3 x4 x5 1 false
  · split
    · exact own_24 x1 x2 x3 x4 x5 0 true
    · exact own_24 x1 x2 x3 x4 x5 1 true
set_option maxRecDepth 65536 in
set_option maxHeartbeats 40000000 in
theorem comes_1 {Post : Tables → Env → Array Value → State → Outcome → State → Prop} (hpost : ∀ tb e args s v u, (limb_1_1.after args s (.returned v) u = true ∧ limb_1_2.after args s (.returned v) u = true ∧ True) → ReturnedEndW s (.returned v) u (Jvm.fieldLocs frame_1_writes args s ++ Jvm.arrayLocs frame_1_arrays args s ++ Jvm.staticLocs frame_1_statics s) 16 2176 → Post tb e args s (.returned v) u) :
    ArmFor flags0 classFile x code maxLocals ret World_1 tables_1 room_1 Calls_1 rest_1 Pre_1 Post := by
  intro l hfl _ _ p e ha hc hk s m args below hf hA hF happ hP
  obtain ⟨hcalls, hrest, hpre⟩ := hP
  obtain ⟨-, -, -, hnamed, -, -, -, hat⟩ := (Spec.applies_iff hf).mp happ
  obtain ⟨hg, hn⟩ := and_e (Cond.before_iff.mp (show (Jvm.Cond.and given_1 narrow_1).before args s = true from hpre))
  obtain ⟨g1, g2⟩ := and_e hg
  obtain ⟨g3, g4⟩ := and_e g2
  obtain ⟨g5, g6⟩ := and_e g4
  obtain ⟨g7, g8⟩ := and_e g6
  obtain ⟨g9, g10⟩ := and_e g8
  obtain ⟨g11, g12⟩ := and_e g10
  obtain ⟨w0, w1, w2, w3, w4, w5, rfl⟩ : ∃ w0 w1 w2 w3 w4 w5 : Value, args = #[w0, w1, w2, w3, w4, w5] := by
    have hs : args.size = 6 := by simpa [Cond.value, given_1] using g1
    obtain ⟨L⟩ := args
    match L, hs with
    | [w0, w1, w2, w3, w4, w5], _ => exact ⟨w0, w1, w2, w3, w4, w5, rfl⟩
  have hw := fun d (hd : d ∈ tables_1) => atoms_spec (ws := Jvm.Cond.code x code maxLocals ret :: tables_1) hat d (List.mem_cons_of_mem _ hd)
  obtain ⟨i0, ei0⟩ := is_v g3
  obtain rfl : w0 = (.int i0) := Option.some.inj ei0
  obtain ⟨i1, ei1⟩ := is_v g5
  obtain rfl : w1 = (.int i1) := Option.some.inj ei1
  obtain ⟨i2, ei2⟩ := is_v g7
  obtain rfl : w2 = (.int i2) := Option.some.inj ei2
  obtain ⟨i3, ei3⟩ := is_v g9
  obtain rfl : w3 = (.int i3) := Option.some.inj ei3
  obtain ⟨i4, ei4⟩ := is_v g11
  obtain rfl : w4 = (.int i4) := Option.some.inj ei4
  obtain ⟨i5, ei5⟩ := is_v g12
  obtain rfl : w5 = (.int i5) := Option.some.inj ei5
  have hone := own_law i0 i1 i2 i3 i4 i5
  obtain ⟨n, o, h1, h2, h3, _, L, rfl, ⟨rfl, N⟩, hq⟩ := rm0 l s _ hw tables_1 i0 i1 i2 i3 i4 i5 s.heap s.heap.size (Nat.le_refl _) _ hone p e ha hc hk s m _ below hf ((Spec.applies_iff_loose hf).mp happ).1 ⟨rfl, State.Warmed39.refl s, rfl⟩ trivial
  refine ⟨n, _, h1, h2, h3, hpost _ _ _ _ _ _ ⟨Cond.after_iff.mpr rfl, Cond.after_iff.mpr (eq_i res_at (Term.int_eval (1)) rfl), trivial⟩ ⟨hq.1, hq.2.1, hq.2.2.1, (hq.2.2.2.sift fun y hy => Or.inr (N y hy)).mono (by decide) (by decide)⟩⟩
theorem main_1_1 : Claimed_1_1 := comes_1 fun _ _ _ _ _ _ h hF => ⟨h.1, hF⟩
theorem main_1_2 : Claimed_1_2 := comes_1 fun _ _ _ _ _ _ h hF => ⟨h.2.1, hF⟩
end Jvm.Pilot.@@N@@
namespace Jvm.Pilot.@@N@@
open Jvm Jvm.ClassFile Sem Op Lib Jvm.Free Jvm.Stand Jvm.Pilot.@@N@@.Jvm.D
/-! MADE BY PROGRAM (witnessworld.py) out of the Statement's table words and the real class files: 18 classes; the members and pool entries that the words name. The judged class is class 1, her method 2. -/
namespace start1
open Jvm.ClassFile
def u (s : String) : CpInfo := .utf8 (stringToUtf16 s)
/-- a pool by its gaps: so many unusable entries, then the entry; so many at the end -/
def gap : Nat → List CpInfo → List CpInfo
  | 0, r => r
  | n + 1, r => .unusable :: gap n r
def poolList (es : List (Nat × CpInfo)) (last : Nat) : List CpInfo := es.foldr (fun e r => gap e.1 (e.2 :: r)) (gap last [])
def pool (es : List (Nat × CpInfo)) (last : Nat) : Array CpInfo := ⟨poolList es last⟩
def fileOf (pool : Array CpInfo) (this : Nat) (attrs : Array Attribute := #[]) (ms : Array MethodInfo := #[]) (fl : Nat := 33) (sup : Nat := 0) (ifs : Array Nat := #[]) (fds : Array FieldInfo := #[]) : ClassFile where
  minorVersion := 0
  majorVersion := 65
  constantPool := pool
  accessFlags := fl
  thisClass := this
  superClass := sup
  interfaces := ifs
  fields := fds
  methods := ms
  attributes := attrs
def plain (name : String) (sup : Option ClassId) : Class where
  name := name
  kind := .ordinary
  loader := none
  accessFlags := 33
  super := sup
  interfaces := #[]
  cf := none
  fields := #[]
  methods := #[]
  instanceTypes := #[]
  staticTypes := #[]
  resolved := #[]
  callSites := []
  init := .initialized
  statics := none
  mirror := none

def pool0 : Array CpInfo := pool [(5, u "<init>"), (0, u "()V"), (1, .class_ 10), (1, u "java/lang/Object")] 113

def k0c0 : Code := { maxStack := 0, maxLocals := 1, code := object_method_1_code, exceptionTable := #[], attributes := #[] }
def k0m0 : Method := { name := "<init>", desc := "()V", sig := { parameters := [], returnType := none }, accessFlags := 1, code := some k0c0 }
/-- java/lang/Object -/
def k0 : Class := { plain "java/lang/Object" none with
  accessFlags := 33
  interfaces := #[]
  cf := some (fileOf pool0 8 #[] #[{ accessFlags := 1, nameIndex := 5, descriptorIndex := 6, attributes := #[] }] 33 0 #[] #[])
  fields := #[]
  methods := #[k0m0]
  instanceTypes := #[]
  staticTypes := #[]
  resolved := Array.replicate 124 none
  statics := none }

def pool1 : Array CpInfo := pool [(2, .class_ 4), (1, u "java/lang/Object"), (0, u "<init>"), (0, u "()V"), (0, .methodref 8 9), (0, .class_ 10), (0, .nameAndType 11 12), (0, u "com/example/wirelace/wirelace/codec/WireReader"), (0, u "readVarint"), (0, u "()J"), (0, .integer 2147483647), (0, .methodref 8 15), (0, .nameAndType 5 16), (0, u "([B)V"), (0, .methodref 18 19), (0, .class_ 20), (0, .nameAndType 21 22), (0, u "com/example/wirelace/wirelace/codec/WireReaderHasRemainingPinLaw"), (0, u "readN"), (0, u "(Lcom/example/wirelace/wirelace/codec/WireReader;I)V"), (0, .methodref 8 24), (0, .nameAndType 25 6), (0, u "enterPacked"), (0, .methodref 27 28), (0, .class_ 29), (0, .nameAndType 30 31), (0, u "java/lang/Math"), (0, u "min"), (0, u "(II)I"), (0, .methodref 8 33), (0, .nameAndType 34 6), (0, u "exitPacked"), (0, .methodref 8 36), (0, .nameAndType 37 38), (0, u "hasRemaining"), (0, u "()Z"), (6, u "law"), (0, u "(IIIIII)Z")] 4

def k1m0 : Method := { name := "<init>", desc := "()V", sig := { parameters := [], returnType := none }, accessFlags := 2, code := none }
def k1c1 : Code := { maxStack := 2, maxLocals := 2, code := method_2_code, exceptionTable := #[], attributes := #[] }
def k1m1 : Method := { name := "readN", desc := "(Lcom/example/wirelace/wirelace/codec/WireReader;I)V", sig := { parameters := [(.object "com/example/wirelace/wirelace/codec/WireReader"), .int], returnType := none }, accessFlags := 10, code := some k1c1 }
def k1c2 : Code := { maxStack := 4, maxLocals := 14, code := code, exceptionTable := #[], attributes := #[] }
def k1m2 : Method := { name := "law", desc := "(IIIIII)Z", sig := { parameters := [.int, .int, .int, .int, .int, .int], returnType := some .boolean }, accessFlags := 9, code := some k1c2 }
/-- com/example/wirelace/wirelace/codec/WireReaderHasRemainingPinLaw -/
def k1 : Class := { plain "com/example/wirelace/wirelace/codec/WireReaderHasRemainingPinLaw" (some 0) with
  accessFlags := 49
  interfaces := #[]
  cf := some (fileOf pool1 18 #[] #[{ accessFlags := 2, nameIndex := 5, descriptorIndex := 6, attributes := #[] }, { accessFlags := 10, nameIndex := 21, descriptorIndex := 22, attributes := #[] }, { accessFlags := 9, nameIndex := 45, descriptorIndex := 46, attributes := #[] }] 49 2 #[] #[])
  fields := #[]
  methods := #[k1m0, k1m1, k1m2]
  instanceTypes := #[]
  staticTypes := #[]
  resolved := Array.replicate 51 none
  statics := none }

def pool2 : Array CpInfo := pool [(1, .class_ 2), (0, u "com/example/wirelace/wirelace/codec/WireReader"), (0, .methodref 1 4), (0, .nameAndType 5 6), (0, u "<init>"), (0, u "([BI)V"), (0, .methodref 8 9), (0, .class_ 10), (0, .nameAndType 5 11), (0, u "java/lang/Object"), (0, u "()V"), (0, .fieldref 1 13), (0, .nameAndType 14 15), (0, u "packedOuterLimit"), (0, u "I"), (0, .string 17), (0, u "message cannot be null"), (0, .methodref 19 20), (0, .class_ 21), (0, .nameAndType 22 23), (0, u "java/util/Objects"), (0, u "requireNonNull"), (0, u "(Ljava/lang/Object;Ljava/lang/String;)Ljava/lang/Object;"), (0, .class_ 25), (0, u "[B"), (0, .fieldref 1 27), (0, .nameAndType 28 25), (0, u "message"), (0, .fieldref 1 30), (0, .nameAndType 31 15), (0, u "limit"), (0, .methodref 1 33), (0, .nameAndType 34 35), (0, u "checkMaxDepth"), (0, u "(I)I"), (0, .fieldref 1 37), (0, .nameAndType 38 15), (0, u "maxDepth"), (0, .fieldref 1 40), (0, .nameAndType 41 15), (0, u "position"), (2, u "openGroupCount"), (2, u "groupFloor"), (6, u "VALUE_WIRE_TYPES"), (2, u "tagOffset"), (2, u "tag"), (3, .methodref 1 65), (0, .nameAndType 66 67), (0, u "readVarint"), (0, u "()J"), (30, u "()I"), (19, .methodref 1 119), (0, .nameAndType 120 121), (0, u "requireRemaining"), (0, u "(ILjava/lang/String;J)V"), (2, u "INT_LE"), (0, u "Ljava/lang/invoke/VarHandle;"), (6, .class_ 133), (0, u "java/lang/Long"), (4, u "LONG_LE"), (3, .methodref 1 143), (0, .nameAndType 144 98), (0, u "skipPayload"), (44, u "enteredCount"), (4, u "outerLimit"), (2, u "outerGroupFloor"), (2, u "entered"), (0, u "[I"), (13, u "()Z"), (7, .class_ 225), (1, u "com/example/wirelace/wirelace/codec/WireReader$1"), (10, .string 237), (0, u "declares"), (3, u "openGroups"), (15, .methodref 132 258), (0, .nameAndType 259 260), (0, u "compareUnsigned"), (0, u "(JJ)I"), (61, u "MAX_FIELD_NUMBER"), (2, u "DEFAULT_MAX_DEPTH"), (1, u "MAX_VARINT_BYTES"), (1, u "SMALLEST_TAG"), (1, u "FIRST_GROUP_CAPACITY"), (0, u "FIRST_ENTERED_CAPACITY"), (1, u "ENTERED_SLOTS"), (0, u "([B)V"), (4, u "hasRemaining"), (7, u "enterPacked"), (0, u "exitPacked")] 39

def k2c0 : Code := { maxStack := 3, maxLocals := 2, code := prog_18_method_1_code, exceptionTable := #[], attributes := #[] }
def k2m0 : Method := { name := "<init>", desc := "([B)V", sig := { parameters := [(.array .byte)], returnType := none }, accessFlags := 1, code := some k2c0 }
def k2c1 : Code := { maxStack := 3, maxLocals := 3, code := prog_18_method_2_code, exceptionTable := #[], attributes := #[] }
def k2m1 : Method := { name := "<init>", desc := "([BI)V", sig := { parameters := [(.array .byte), .int], returnType := none }, accessFlags := 1, code := some k2c1 }
def k2c2 : Code := { maxStack := 2, maxLocals := 1, code := prog_18_method_9_code, exceptionTable := #[], attributes := #[] }
def k2m2 : Method := { name := "hasRemaining", desc := "()Z", sig := { parameters := [], returnType := some .boolean }, accessFlags := 1, code := some k2c2 }
def k2c3 : Code := { maxStack := 5, maxLocals := 1, code := prog_18_method_11_code, exceptionTable := #[], attributes := #[] }
def k2m3 : Method := { name := "readVarint", desc := "()J", sig := { parameters := [], returnType := some .long }, accessFlags := 1, code := some k2c3 }
def k2c4 : Code := { maxStack := 3, maxLocals := 2, code := prog_18_method_18_code, exceptionTable := #[], attributes := #[] }
def k2m4 : Method := { name := "enterPacked", desc := "()V", sig := { parameters := [], returnType := none }, accessFlags := 1, code := some k2c4 }
def k2c5 : Code := { maxStack := 3, maxLocals := 1, code := prog_18_method_19_code, exceptionTable := #[], attributes := #[] }
def k2m5 : Method := { name := "exitPacked", desc := "()V", sig := { parameters := [], returnType := none }, accessFlags := 1, code := some k2c5 }
def k2c6 : Code := { maxStack := 5, maxLocals := 5, code := prog_18_method_24_code, exceptionTable := #[], attributes := #[] }
def k2m6 : Method := { name := "skipPayload", desc := "()I", sig := { parameters := [], returnType := some .int }, accessFlags := 2, code := some k2c6 }
def k2c7 : Code := { maxStack := 5, maxLocals := 5, code := prog_18_method_27_code, exceptionTable := #[], attributes := #[] }
def k2m7 : Method := { name := "requireRemaining", desc := "(ILjava/lang/String;J)V", sig := { parameters := [.int, (.object "java/lang/String"), .long], returnType := none }, accessFlags := 2, code := some k2c7 }
def k2c8 : Code := { maxStack := 3, maxLocals := 1, code := prog_18_method_33_code, exceptionTable := #[], attributes := #[] }
def k2m8 : Method := { name := "checkMaxDepth", desc := "(I)I", sig := { parameters := [.int], returnType := some .int }, accessFlags := 10, code := some k2c8 }
/-- com/example/wirelace/wirelace/codec/WireReader -/
def k2 : Class := { plain "com/example/wirelace/wirelace/codec/WireReader" (some 0) with
  accessFlags := 49
  interfaces := #[]
  cf := some (fileOf pool2 1 #[.nestMembers #[223]] #[{ accessFlags := 1, nameIndex := 5, descriptorIndex := 335, attributes := #[] }, { accessFlags := 1, nameIndex := 5, descriptorIndex := 6, attributes := #[] }, { accessFlags := 1, nameIndex := 340, descriptorIndex := 215, attributes := #[] }, { accessFlags := 1, nameIndex := 66, descriptorIndex := 67, attributes := #[] }, { accessFlags := 1, nameIndex := 348, descriptorIndex := 11, attributes := #[] }, { accessFlags := 1, nameIndex := 349, descriptorIndex := 11, attributes := #[] }, { accessFlags := 2, nameIndex := 144, descriptorIndex := 98, attributes := #[] }, { accessFlags := 2, nameIndex := 120, descriptorIndex := 121, attributes := #[] }, { accessFlags := 10, nameIndex := 34, descriptorIndex := 35, attributes := #[] }] 49 8 #[] #[{ accessFlags := 25, nameIndex := 322, descriptorIndex := 15, attributes := #[] }, { accessFlags := 25, nameIndex := 325, descriptorIndex := 15, attributes := #[] }, { accessFlags := 26, nameIndex := 327, descriptorIndex := 15, attributes := #[] }, { accessFlags := 26, nameIndex := 329, descriptorIndex := 15, attributes := #[] }, { accessFlags := 26, nameIndex := 54, descriptorIndex := 15, attributes := #[] }, { accessFlags := 26, nameIndex := 331, descriptorIndex := 15, attributes := #[] }, { accessFlags := 26, nameIndex := 332, descriptorIndex := 15, attributes := #[] }, { accessFlags := 26, nameIndex := 334, descriptorIndex := 15, attributes := #[] }, { accessFlags := 26, nameIndex := 124, descriptorIndex := 125, attributes := #[] }, { accessFlags := 26, nameIndex := 138, descriptorIndex := 125, attributes := #[] }, { accessFlags := 18, nameIndex := 28, descriptorIndex := 25, attributes := #[] }, { accessFlags := 2, nameIndex := 41, descriptorIndex := 15, attributes := #[] }, { accessFlags := 2, nameIndex := 31, descriptorIndex := 15, attributes := #[] }, { accessFlags := 18, nameIndex := 38, descriptorIndex := 15, attributes := #[] }, { accessFlags := 2, nameIndex := 241, descriptorIndex := 201, attributes := #[] }, { accessFlags := 2, nameIndex := 44, descriptorIndex := 15, attributes := #[] }, { accessFlags := 2, nameIndex := 47, descriptorIndex := 15, attributes := #[] }, { accessFlags := 2, nameIndex := 189, descriptorIndex := 15, attributes := #[] }, { accessFlags := 2, nameIndex := 194, descriptorIndex := 15, attributes := #[] }, { accessFlags := 2, nameIndex := 197, descriptorIndex := 15, attributes := #[] }, { accessFlags := 2, nameIndex := 200, descriptorIndex := 201, attributes := #[] }, { accessFlags := 2, nameIndex := 14, descriptorIndex := 15, attributes := #[] }, { accessFlags := 2, nameIndex := 57, descriptorIndex := 15, attributes := #[] }, { accessFlags := 2, nameIndex := 60, descriptorIndex := 15, attributes := #[] }])
  fields := #[{ name := "MAX_FIELD_NUMBER", type := .int, accessFlags := 25, slot := 0, constantValue := 0 }, { name := "DEFAULT_MAX_DEPTH", type := .int, accessFlags := 25, slot := 1, constantValue := 0 }, { name := "MAX_VARINT_BYTES", type := .int, accessFlags := 26, slot := 2, constantValue := 0 }, { name := "SMALLEST_TAG", type := .int, accessFlags := 26, slot := 3, constantValue := 0 }, { name := "VALUE_WIRE_TYPES", type := .int, accessFlags := 26, slot := 4, constantValue := 0 }, { name := "FIRST_GROUP_CAPACITY", type := .int, accessFlags := 26, slot := 5, constantValue := 0 }, { name := "FIRST_ENTERED_CAPACITY", type := .int, accessFlags := 26, slot := 6, constantValue := 0 }, { name := "ENTERED_SLOTS", type := .int, accessFlags := 26, slot := 7, constantValue := 0 }, { name := "INT_LE", type := (.object "java/lang/invoke/VarHandle"), accessFlags := 26, slot := 8, constantValue := 0 }, { name := "LONG_LE", type := (.object "java/lang/invoke/VarHandle"), accessFlags := 26, slot := 9, constantValue := 0 }, { name := "message", type := (.array .byte), accessFlags := 18, slot := 0, constantValue := 0 }, { name := "position", type := .int, accessFlags := 2, slot := 1, constantValue := 0 }, { name := "limit", type := .int, accessFlags := 2, slot := 2, constantValue := 0 }, { name := "maxDepth", type := .int, accessFlags := 18, slot := 3, constantValue := 0 }, { name := "openGroups", type := (.array .int), accessFlags := 2, slot := 4, constantValue := 0 }, { name := "openGroupCount", type := .int, accessFlags := 2, slot := 5, constantValue := 0 }, { name := "groupFloor", type := .int, accessFlags := 2, slot := 6, constantValue := 0 }, { name := "enteredCount", type := .int, accessFlags := 2, slot := 7, constantValue := 0 }, { name := "outerLimit", type := .int, accessFlags := 2, slot := 8, constantValue := 0 }, { name := "outerGroupFloor", type := .int, accessFlags := 2, slot := 9, constantValue := 0 }, { name := "entered", type := (.array .int), accessFlags := 2, slot := 10, constantValue := 0 }, { name := "packedOuterLimit", type := .int, accessFlags := 2, slot := 11, constantValue := 0 }, { name := "tagOffset", type := .int, accessFlags := 2, slot := 12, constantValue := 0 }, { name := "tag", type := .int, accessFlags := 2, slot := 13, constantValue := 0 }]
  methods := #[k2m0, k2m1, k2m2, k2m3, k2m4, k2m5, k2m6, k2m7, k2m8]
  instanceTypes := #[(.array .byte), .int, .int, .int, (.array .int), .int, .int, .int, .int, .int, (.array .int), .int, .int, .int]
  staticTypes := #[.int, .int, .int, .int, .int, .int, .int, .int, (.object "java/lang/invoke/VarHandle"), (.object "java/lang/invoke/VarHandle")]
  resolved := Array.replicate 389 none
  statics := none }

def pool3 : Array CpInfo := pool [(1, .class_ 2), (0, u "java/io/Serializable"), (0, .class_ 4), (0, u "java/lang/Object")] 2

/-- java/io/Serializable -/
def k3 : Class := { plain "java/io/Serializable" (some 0) with
  accessFlags := 1537
  interfaces := #[]
  cf := some (fileOf pool3 1 #[] #[] 1537 3 #[] #[])
  fields := #[]
  methods := #[]
  instanceTypes := #[]
  staticTypes := #[]
  resolved := Array.replicate 7 none
  statics := none }

def pool4 : Array CpInfo := pool [(1, .class_ 2), (0, u "java/lang/Comparable"), (0, .class_ 4), (0, u "java/lang/Object")] 7

/-- java/lang/Comparable -/
def k4 : Class := { plain "java/lang/Comparable" (some 0) with
  accessFlags := 1537
  interfaces := #[]
  cf := some (fileOf pool4 1 #[] #[] 1537 3 #[] #[])
  fields := #[]
  methods := #[]
  instanceTypes := #[]
  staticTypes := #[]
  resolved := Array.replicate 12 none
  statics := none }

def pool5 : Array CpInfo := pool [(2, .class_ 4), (1, u "java/lang/CharSequence"), (42, .class_ 48), (0, u "java/lang/CharSequence$1CodePointIterator"), (10, .class_ 60), (0, u "java/lang/CharSequence$1CharIterator"), (5, .class_ 67), (0, u "java/lang/Object")] 63

/-- java/lang/CharSequence -/
def k5 : Class := { plain "java/lang/CharSequence" (some 0) with
  accessFlags := 1537
  interfaces := #[]
  cf := some (fileOf pool5 2 #[.nestMembers #[47, 59]] #[] 1537 66 #[] #[])
  fields := #[]
  methods := #[]
  instanceTypes := #[]
  staticTypes := #[]
  resolved := Array.replicate 131 none
  statics := none }

def pool6 : Array CpInfo := pool [(1, .class_ 2), (0, u "java/lang/constant/Constable"), (0, .class_ 4), (0, u "java/lang/Object")] 6

/-- java/lang/constant/Constable -/
def k6 : Class := { plain "java/lang/constant/Constable" (some 0) with
  accessFlags := 1537
  interfaces := #[]
  cf := some (fileOf pool6 1 #[] #[] 1537 3 #[] #[])
  fields := #[]
  methods := #[]
  instanceTypes := #[]
  staticTypes := #[]
  resolved := Array.replicate 11 none
  statics := none }

def pool7 : Array CpInfo := pool [(1, .class_ 2), (0, u "java/lang/constant/ConstantDesc"), (0, .class_ 4), (0, u "java/lang/Object")] 32

/-- java/lang/constant/ConstantDesc -/
def k7 : Class := { plain "java/lang/constant/ConstantDesc" (some 0) with
  accessFlags := 1537
  interfaces := #[]
  cf := some (fileOf pool7 1 #[] #[] 1537 3 #[] #[])
  fields := #[]
  methods := #[]
  instanceTypes := #[]
  staticTypes := #[]
  resolved := Array.replicate 37 none
  statics := none }

def pool8 : Array CpInfo := pool [(2, .class_ 4), (1, u "java/lang/Object"), (0, u "<init>"), (0, u "()V"), (3, .class_ 12), (1, u "java/lang/String"), (0, u "value"), (0, u "[B"), (2, u "coder"), (0, u "B"), (2, u "hash"), (0, u "I"), (2, u "hashIsZero"), (0, u "Z"), (13, u "COMPACT_STRINGS"), (534, .class_ 576), (0, u "java/lang/CharSequence"), (22, u "CASE_INSENSITIVE_ORDER"), (0, u "Ljava/util/Comparator;"), (500, u "serialPersistentFields"), (0, u "[Ljava/io/ObjectStreamField;"), (0, .class_ 1104), (0, u "java/lang/String$CaseInsensitiveComparator"), (1, .class_ 1107), (0, u "java/io/Serializable"), (0, .class_ 1109), (0, u "java/lang/Comparable"), (0, .class_ 1111), (0, u "java/lang/constant/Constable"), (0, .class_ 1113), (0, u "java/lang/constant/ConstantDesc"), (2, u "serialVersionUID"), (0, u "J"), (3, u "REPL"), (0, u "C"), (2, u "LATIN1"), (1, u "UTF16")] 323

def k8m0 : Method := { name := "<init>", desc := "()V", sig := { parameters := [], returnType := none }, accessFlags := 1, code := none }
/-- java/lang/String -/
def k8 : Class := { plain "java/lang/String" (some 0) with
  accessFlags := 49
  interfaces := #[3, 4, 5, 6, 7]
  cf := some (fileOf pool8 10 #[.nestMembers #[1103]] #[{ accessFlags := 1, nameIndex := 5, descriptorIndex := 6, attributes := #[] }] 49 2 #[1106, 1108, 575, 1110, 1112] #[{ accessFlags := 18, nameIndex := 13, descriptorIndex := 14, attributes := #[] }, { accessFlags := 18, nameIndex := 17, descriptorIndex := 18, attributes := #[] }, { accessFlags := 2, nameIndex := 21, descriptorIndex := 22, attributes := #[] }, { accessFlags := 2, nameIndex := 25, descriptorIndex := 26, attributes := #[] }, { accessFlags := 26, nameIndex := 1116, descriptorIndex := 1117, attributes := #[] }, { accessFlags := 24, nameIndex := 40, descriptorIndex := 26, attributes := #[] }, { accessFlags := 26, nameIndex := 1101, descriptorIndex := 1102, attributes := #[] }, { accessFlags := 26, nameIndex := 1121, descriptorIndex := 1122, attributes := #[] }, { accessFlags := 25, nameIndex := 599, descriptorIndex := 600, attributes := #[] }, { accessFlags := 24, nameIndex := 1125, descriptorIndex := 18, attributes := #[] }, { accessFlags := 24, nameIndex := 1127, descriptorIndex := 18, attributes := #[] }])
  fields := #[{ name := "value", type := (.array .byte), accessFlags := 18, slot := 0, constantValue := 0 }, { name := "coder", type := .byte, accessFlags := 18, slot := 1, constantValue := 0 }, { name := "hash", type := .int, accessFlags := 2, slot := 2, constantValue := 0 }, { name := "hashIsZero", type := .boolean, accessFlags := 2, slot := 3, constantValue := 0 }, { name := "serialVersionUID", type := .long, accessFlags := 26, slot := 0, constantValue := 0 }, { name := "COMPACT_STRINGS", type := .boolean, accessFlags := 24, slot := 1, constantValue := 0 }, { name := "serialPersistentFields", type := (.array (.object "java/io/ObjectStreamField")), accessFlags := 26, slot := 2, constantValue := 0 }, { name := "REPL", type := .char, accessFlags := 26, slot := 3, constantValue := 0 }, { name := "CASE_INSENSITIVE_ORDER", type := (.object "java/util/Comparator"), accessFlags := 25, slot := 4, constantValue := 0 }, { name := "LATIN1", type := .byte, accessFlags := 24, slot := 5, constantValue := 0 }, { name := "UTF16", type := .byte, accessFlags := 24, slot := 6, constantValue := 0 }]
  methods := #[k8m0]
  instanceTypes := #[(.array .byte), .byte, .int, .boolean]
  staticTypes := #[.long, .boolean, (.array (.object "java/io/ObjectStreamField")), .char, (.object "java/util/Comparator"), .byte, .byte]
  resolved := Array.replicate 1451 none
  statics := none }

def pool9 : Array CpInfo := pool [(2, .class_ 4), (1, u "java/lang/Object"), (0, u "<init>"), (0, u "()V"), (35, .class_ 44), (1, u "java/util/Objects"), (0, u "requireNonNull"), (48, u "(Ljava/lang/Object;Ljava/lang/String;)Ljava/lang/Object;")] 89

def k9m0 : Method := { name := "<init>", desc := "()V", sig := { parameters := [], returnType := none }, accessFlags := 2, code := none }
def k9c1 : Code := { maxStack := 3, maxLocals := 2, code := jdk_31_method_11_code, exceptionTable := #[], attributes := #[] }
def k9m1 : Method := { name := "requireNonNull", desc := "(Ljava/lang/Object;Ljava/lang/String;)Ljava/lang/Object;", sig := { parameters := [(.object "java/lang/Object"), (.object "java/lang/String")], returnType := some (.object "java/lang/Object") }, accessFlags := 9, code := some k9c1 }
/-- java/util/Objects -/
def k9 : Class := { plain "java/util/Objects" (some 0) with
  accessFlags := 49
  interfaces := #[]
  cf := some (fileOf pool9 42 #[] #[{ accessFlags := 2, nameIndex := 5, descriptorIndex := 6, attributes := #[] }, { accessFlags := 9, nameIndex := 45, descriptorIndex := 94, attributes := #[] }] 49 2 #[] #[])
  fields := #[]
  methods := #[k9m0, k9m1]
  instanceTypes := #[]
  staticTypes := #[]
  resolved := Array.replicate 184 none
  statics := none }

def pool10 : Array CpInfo := pool [(2, .class_ 4), (1, u "java/lang/Object"), (0, u "<init>"), (0, u "()V"), (1, .class_ 10), (1, u "java/lang/Number"), (2, .class_ 14), (0, u "java/io/Serializable"), (0, u "serialVersionUID"), (0, u "J")] 20

def k10m0 : Method := { name := "<init>", desc := "()V", sig := { parameters := [], returnType := none }, accessFlags := 1, code := none }
/-- java/lang/Number -/
def k10 : Class := { plain "java/lang/Number" (some 0) with
  accessFlags := 1057
  interfaces := #[3]
  cf := some (fileOf pool10 8 #[] #[{ accessFlags := 1, nameIndex := 5, descriptorIndex := 6, attributes := #[] }] 1057 2 #[13] #[{ accessFlags := 26, nameIndex := 15, descriptorIndex := 16, attributes := #[] }])
  fields := #[{ name := "serialVersionUID", type := .long, accessFlags := 26, slot := 0, constantValue := 0 }]
  methods := #[k10m0]
  instanceTypes := #[]
  staticTypes := #[.long]
  resolved := Array.replicate 37 none
  statics := none }

def pool11 : Array CpInfo := pool [(1, .class_ 2), (0, u "java/lang/Long"), (165, .long 9223372036854775808), (66, .class_ 237), (1, u "java/lang/Long$LongCache"), (33, .class_ 272), (0, u "java/lang/Number"), (2, u "value"), (0, u "J"), (25, .methodref 1 303), (0, .nameAndType 304 305), (0, u "compare"), (0, u "(JJ)I"), (55, u "TYPE"), (0, u "Ljava/lang/Class;"), (0, .class_ 364), (0, u "java/lang/Comparable"), (0, .class_ 366), (0, u "java/lang/constant/Constable"), (0, .class_ 368), (0, u "java/lang/constant/ConstantDesc"), (0, u "MIN_VALUE"), (1, u "MAX_VALUE"), (4, u "SIZE"), (0, u "I"), (1, u "BYTES"), (1, u "serialVersionUID"), (87, u "compareUnsigned")] 54

def k11c0 : Code := { maxStack := 4, maxLocals := 4, code := jdk_35_method_42_code, exceptionTable := #[], attributes := #[] }
def k11m0 : Method := { name := "compare", desc := "(JJ)I", sig := { parameters := [.long, .long], returnType := some .int }, accessFlags := 9, code := some k11c0 }
def k11c1 : Code := { maxStack := 6, maxLocals := 4, code := jdk_35_method_43_code, exceptionTable := #[], attributes := #[] }
def k11m1 : Method := { name := "compareUnsigned", desc := "(JJ)I", sig := { parameters := [.long, .long], returnType := some .int }, accessFlags := 9, code := some k11c1 }
/-- java/lang/Long -/
def k11 : Class := { plain "java/lang/Long" (some 10) with
  accessFlags := 49
  interfaces := #[4, 6, 7]
  cf := some (fileOf pool11 1 #[.nestMembers #[235]] #[{ accessFlags := 9, nameIndex := 304, descriptorIndex := 305, attributes := #[] }, { accessFlags := 9, nameIndex := 469, descriptorIndex := 305, attributes := #[] }] 49 271 #[363, 365, 367] #[{ accessFlags := 25, nameIndex := 369, descriptorIndex := 276, attributes := #[] }, { accessFlags := 25, nameIndex := 371, descriptorIndex := 276, attributes := #[] }, { accessFlags := 25, nameIndex := 361, descriptorIndex := 362, attributes := #[] }, { accessFlags := 18, nameIndex := 275, descriptorIndex := 276, attributes := #[] }, { accessFlags := 25, nameIndex := 376, descriptorIndex := 377, attributes := #[] }, { accessFlags := 25, nameIndex := 379, descriptorIndex := 377, attributes := #[] }, { accessFlags := 26, nameIndex := 381, descriptorIndex := 276, attributes := #[] }])
  fields := #[{ name := "MIN_VALUE", type := .long, accessFlags := 25, slot := 0, constantValue := 0 }, { name := "MAX_VALUE", type := .long, accessFlags := 25, slot := 1, constantValue := 0 }, { name := "TYPE", type := (.object "java/lang/Class"), accessFlags := 25, slot := 2, constantValue := 0 }, { name := "value", type := .long, accessFlags := 18, slot := 0, constantValue := 0 }, { name := "SIZE", type := .int, accessFlags := 25, slot := 3, constantValue := 0 }, { name := "BYTES", type := .int, accessFlags := 25, slot := 4, constantValue := 0 }, { name := "serialVersionUID", type := .long, accessFlags := 26, slot := 5, constantValue := 0 }]
  methods := #[k11m0, k11m1]
  instanceTypes := #[.long]
  staticTypes := #[.long, .long, (.object "java/lang/Class"), .int, .int, .long]
  resolved := Array.replicate 524 none
  statics := none }

def pool12 : Array CpInfo := pool [(1, .class_ 2), (0, u "java/lang/Math"), (1, .class_ 6), (1, u "java/lang/Object"), (0, u "<init>"), (0, u "()V"), (89, .class_ 100), (1, u "java/lang/Math$RandomNumberGeneratorHolder"), (71, u "negativeZeroFloatBits"), (0, u "J"), (2, u "negativeZeroDoubleBits"), (24, u "min"), (43, u "$assertionsDisabled"), (0, u "Z"), (88, u "(II)I"), (2, u "twoToTheDoubleScaleDown"), (0, u "D"), (4, u "twoToTheDoubleScaleUp"), (9, u "E"), (3, u "PI"), (2, u "TAU"), (2, u "DEGREES_TO_RADIANS"), (0, u "RADIANS_TO_DEGREES")] 94

def k12m0 : Method := { name := "<init>", desc := "()V", sig := { parameters := [], returnType := none }, accessFlags := 2, code := none }
def k12c1 : Code := { maxStack := 2, maxLocals := 2, code := jdk_29_method_69_code, exceptionTable := #[], attributes := #[] }
def k12m1 : Method := { name := "min", desc := "(II)I", sig := { parameters := [.int, .int], returnType := some .int }, accessFlags := 9, code := some k12c1 }
/-- java/lang/Math -/
def k12 : Class := { plain "java/lang/Math" (some 0) with
  accessFlags := 49
  interfaces := #[]
  cf := some (fileOf pool12 1 #[.nestMembers #[98]] #[{ accessFlags := 2, nameIndex := 7, descriptorIndex := 8, attributes := #[] }, { accessFlags := 9, nameIndex := 201, descriptorIndex := 335, attributes := #[] }] 49 4 #[] #[{ accessFlags := 25, nameIndex := 354, descriptorIndex := 339, attributes := #[] }, { accessFlags := 25, nameIndex := 358, descriptorIndex := 339, attributes := #[] }, { accessFlags := 25, nameIndex := 361, descriptorIndex := 339, attributes := #[] }, { accessFlags := 26, nameIndex := 364, descriptorIndex := 339, attributes := #[] }, { accessFlags := 26, nameIndex := 365, descriptorIndex := 339, attributes := #[] }, { accessFlags := 26, nameIndex := 172, descriptorIndex := 173, attributes := #[] }, { accessFlags := 26, nameIndex := 176, descriptorIndex := 173, attributes := #[] }, { accessFlags := 8, nameIndex := 344, descriptorIndex := 339, attributes := #[] }, { accessFlags := 8, nameIndex := 338, descriptorIndex := 339, attributes := #[] }, { accessFlags := 4120, nameIndex := 245, descriptorIndex := 246, attributes := #[] }])
  fields := #[{ name := "E", type := .double, accessFlags := 25, slot := 0, constantValue := 0 }, { name := "PI", type := .double, accessFlags := 25, slot := 1, constantValue := 0 }, { name := "TAU", type := .double, accessFlags := 25, slot := 2, constantValue := 0 }, { name := "DEGREES_TO_RADIANS", type := .double, accessFlags := 26, slot := 3, constantValue := 0 }, { name := "RADIANS_TO_DEGREES", type := .double, accessFlags := 26, slot := 4, constantValue := 0 }, { name := "negativeZeroFloatBits", type := .long, accessFlags := 26, slot := 5, constantValue := 0 }, { name := "negativeZeroDoubleBits", type := .long, accessFlags := 26, slot := 6, constantValue := 0 }, { name := "twoToTheDoubleScaleUp", type := .double, accessFlags := 8, slot := 7, constantValue := 0 }, { name := "twoToTheDoubleScaleDown", type := .double, accessFlags := 8, slot := 8, constantValue := 0 }, { name := "$assertionsDisabled", type := .boolean, accessFlags := 4120, slot := 9, constantValue := 0 }]
  methods := #[k12m0, k12m1]
  instanceTypes := #[]
  staticTypes := #[.double, .double, .double, .double, .double, .long, .long, .double, .double, .boolean]
  resolved := Array.replicate 460 none
  statics := none }

def pool13 : Array CpInfo := pool [(1, u "java/lang/Cloneable"), (0, .class_ 1), (0, u "java/lang/Object"), (0, .class_ 3)] 3

/-- java/lang/Cloneable -/
def k13 : Class := { plain "java/lang/Cloneable" (some 0) with
  accessFlags := 1537
  interfaces := #[]
  cf := some (fileOf pool13 2 #[] #[] 1537 4 #[] #[])
  fields := #[]
  methods := #[]
  instanceTypes := #[]
  staticTypes := #[]
  resolved := Array.replicate 8 none
  statics := none }

/-- the primitive byte -/
def k14 : Class := { plain "byte" none with kind := .primitive 'B', accessFlags := 0x411 }
/-- [B -/
def k15 : Class := { plain "[B" (some 0) with kind := .array 14 .byte, interfaces := #[13, 3], accessFlags := 1041 }

/-- the primitive int -/
def k16 : Class := { plain "int" none with kind := .primitive 'I', accessFlags := 0x411 }
/-- [I -/
def k17 : Class := { plain "[I" (some 0) with kind := .array 16 .int, interfaces := #[13, 3], accessFlags := 1041 }

def heap : Heap := #[]
def classes : Array Class := #[k0, k1, k2, k3, k4, k5, k6, k7, k8, k9, k10, k11, k12, k13, k14, k15, k16, k17]
def interned : List (Array UInt16 × Addr) := []
def slotsUsed : Nat := 0
def theMethod : MethodId := ⟨1, 2⟩
def args0 : Array Value := #[.int 1, .int 3, .int 2, .int 5, .int 4, .int 6]
def aboutOver (below : List Frame) : State where
  vm := { classes := classes, interned := interned.toArray }
  heap := heap
  slotsUsed := slotsUsed
  threads := #[{ frames := .invoking theMethod args0 :: below }]
def below0 : List Frame := [.native { method := ⟨0, 0⟩, args := #[] }]
def about1 : State := aboutOver below0
def p0 : Program := .bare "" "" ""
def e0 : Env := launch0.env 0 0 0
theorem w_frames : about1.frames = Frame.invoking theMethod args0 :: below0 := rfl
set_option maxRecDepth 65536 in
theorem w_args : argsFit about1.vm theMethod args0 = true := by decide +kernel
set_option maxRecDepth 65536 in
theorem w_heap : heapFits about1 = true := by decide +kernel
set_option maxRecDepth 65536 in
theorem w_runnable : about1.curStatus? = some .runnable := by decide +kernel
set_option maxRecDepth 65536 in
theorem w_alone : about1.alone = true := by decide +kernel
set_option maxRecDepth 65536 in
theorem w_named : about1.methodNamed? x = some theMethod := by decide +kernel
set_option maxRecDepth 65536 in
theorem w_hears : about1.hears theMethod below0 = true := by decide +kernel
set_option maxRecDepth 65536 in
theorem w_ripe : about1.ripe theMethod args0 below0 = true := by decide +kernel
theorem w_running : about1.status = .running := rfl
set_option maxRecDepth 65536 in
theorem w_room : about1.hasRoom e0.platform room_1 = true :=
  launch0.hasRoom_least _ room_1 (by decide +kernel) (by decide +kernel) (by decide +kernel) (by decide +kernel) (by decide +kernel) (by decide +kernel)
theorem allAtoms_all (ts : List Jvm.Cond) (a : Array Jvm.Value) (st : Jvm.State) : (allAtoms ts).before a st = ts.all (fun c => c.before a st) := by
  induction ts with
  | nil => rfl
  | cons c t ih =>
    show (Jvm.Cond.and c (allAtoms t)).before a st = _
    rw [Jvm.Cond.before_and, ih, List.all_cons]
def words1 : List Jvm.Cond := Jvm.Cond.code x code maxLocals ret :: tables_1
/-- a 'code' word, met by the world's own term for the bytes: nothing is compared byte by byte -/
theorem code_word {y : MethodName} {bytes : ByteArray} {mx : Nat} {rt : Option FieldType} {a : Array Value} {s : State} {m : MethodId} {meth : Method} {c : Code} (h1 : s.methodNamed? y = some m) (h2 : s.vm.method? m = some meth) (h3 : meth.code = some c) (h4 : c.code = bytes)
    (h5 : (c.maxLocals == mx && c.exceptionTable.isEmpty && decide (c.maxStack ≤ mostOperands) && decide (meth.sig.returnType = rt) && !meth.locks && decide (parseMethodDescriptor y.desc = some meth.sig)) = true) : (Jvm.Cond.code y bytes mx rt).before a s = true := by
  simp only [Bool.and_eq_true, beq_iff_eq, Bool.not_eq_true', decide_eq_true_eq] at h5
  obtain ⟨⟨⟨⟨⟨g1, g2⟩, g3⟩, g4⟩, g5⟩, g6⟩ := h5
  simp [Cond.before, Cond.holds, Cond.value, h1, h2, h3, h4, g1, g2, g3, g4, g5, g6]
def isCode : Jvm.Cond → Bool
  | .code _ _ _ _ => true
  | _ => false
theorem all_split {L : List Jvm.Cond} {P : Jvm.Cond → Bool} (h1 : L.all (fun c => isCode c || P c) = true) (h2 : ∀ c ∈ L.filter isCode, P c = true) : L.all P = true := by
  refine List.all_eq_true.mpr fun c hc => ?_
  have h := List.all_eq_true.mp h1 c hc
  rcases Bool.eq_false_or_eq_true (isCode c) with hi | hi
  · exact h2 c (List.mem_filter.mpr ⟨hc, hi⟩)
  · simpa [hi] using h
set_option maxRecDepth 65536 in
theorem w_c0 : (Jvm.Cond.code x code maxLocals ret).before args0 about1 = true := code_word (m := ⟨1, 2⟩) (meth := k1m2) (c := k1c2) (by decide +kernel) rfl rfl rfl (by decide +kernel)
set_option maxRecDepth 65536 in
theorem w_c1 : (Jvm.Cond.code ({ cls := "com/example/wirelace/wirelace/codec/WireReader", name := "<init>", desc := "([B)V" } : Jvm.MethodName) prog_18_method_1_code (2 : Nat) (Option.none : Option Jvm.ClassFile.FieldType)).before args0 about1 = true := code_word (m := ⟨2, 0⟩) (meth := k2m0) (c := k2c0) (by decide +kernel) rfl rfl rfl (by decide +kernel)
set_option maxRecDepth 65536 in
theorem w_c2 : (Jvm.Cond.code ({ cls := "com/example/wirelace/wirelace/codec/WireReader", name := "<init>", desc := "([BI)V" } : Jvm.MethodName) prog_18_method_2_code (3 : Nat) (Option.none : Option Jvm.ClassFile.FieldType)).before args0 about1 = true := code_word (m := ⟨2, 1⟩) (meth := k2m1) (c := k2c1) (by decide +kernel) rfl rfl rfl (by decide +kernel)
set_option maxRecDepth 65536 in
theorem w_c3 : (Jvm.Cond.code ({ cls := "java/lang/Object", name := "<init>", desc := "()V" } : Jvm.MethodName) object_method_1_code (1 : Nat) (Option.none : Option Jvm.ClassFile.FieldType)).before args0 about1 = true := code_word (m := ⟨0, 0⟩) (meth := k0m0) (c := k0c0) (by decide +kernel) rfl rfl rfl (by decide +kernel)
set_option maxRecDepth 65536 in
theorem w_c4 : (Jvm.Cond.code ({ cls := "java/util/Objects", name := "requireNonNull", desc := "(Ljava/lang/Object;Ljava/lang/String;)Ljava/lang/Object;" } : Jvm.MethodName) jdk_31_method_11_code (2 : Nat) (Option.some (Jvm.ClassFile.FieldType.object "java/lang/Object"))).before args0 about1 = true := code_word (m := ⟨9, 1⟩) (meth := k9m1) (c := k9c1) (by decide +kernel) rfl rfl rfl (by decide +kernel)
set_option maxRecDepth 65536 in
theorem w_c5 : (Jvm.Cond.code ({ cls := "com/example/wirelace/wirelace/codec/WireReader", name := "checkMaxDepth", desc := "(I)I" } : Jvm.MethodName) prog_18_method_33_code (1 : Nat) (Option.some Jvm.ClassFile.FieldType.int)).before args0 about1 = true := code_word (m := ⟨2, 8⟩) (meth := k2m8) (c := k2c8) (by decide +kernel) rfl rfl rfl (by decide +kernel)
set_option maxRecDepth 65536 in
theorem w_c6 : (Jvm.Cond.code ({ cls := "com/example/wirelace/wirelace/codec/WireReaderHasRemainingPinLaw", name := "readN", desc := "(Lcom/example/wirelace/wirelace/codec/WireReader;I)V" } : Jvm.MethodName) method_2_code (2 : Nat) (Option.none : Option Jvm.ClassFile.FieldType)).before args0 about1 = true := code_word (m := ⟨1, 1⟩) (meth := k1m1) (c := k1c1) (by decide +kernel) rfl rfl rfl (by decide +kernel)
set_option maxRecDepth 65536 in
theorem w_c7 : (Jvm.Cond.code ({ cls := "com/example/wirelace/wirelace/codec/WireReader", name := "readVarint", desc := "()J" } : Jvm.MethodName) prog_18_method_11_code (1 : Nat) (Option.some Jvm.ClassFile.FieldType.long)).before args0 about1 = true := code_word (m := ⟨2, 3⟩) (meth := k2m3) (c := k2c3) (by decide +kernel) rfl rfl rfl (by decide +kernel)
set_option maxRecDepth 65536 in
theorem w_c8 : (Jvm.Cond.code ({ cls := "com/example/wirelace/wirelace/codec/WireReader", name := "hasRemaining", desc := "()Z" } : Jvm.MethodName) prog_18_method_9_code (1 : Nat) (Option.some Jvm.ClassFile.FieldType.boolean)).before args0 about1 = true := code_word (m := ⟨2, 2⟩) (meth := k2m2) (c := k2c2) (by decide +kernel) rfl rfl rfl (by decide +kernel)
set_option maxRecDepth 65536 in
theorem w_c9 : (Jvm.Cond.code ({ cls := "com/example/wirelace/wirelace/codec/WireReader", name := "enterPacked", desc := "()V" } : Jvm.MethodName) prog_18_method_18_code (2 : Nat) (Option.none : Option Jvm.ClassFile.FieldType)).before args0 about1 = true := code_word (m := ⟨2, 4⟩) (meth := k2m4) (c := k2c4) (by decide +kernel) rfl rfl rfl (by decide +kernel)
set_option maxRecDepth 65536 in
theorem w_c10 : (Jvm.Cond.code ({ cls := "com/example/wirelace/wirelace/codec/WireReader", name := "skipPayload", desc := "()I" } : Jvm.MethodName) prog_18_method_24_code (5 : Nat) (Option.some Jvm.ClassFile.FieldType.int)).before args0 about1 = true := code_word (m := ⟨2, 6⟩) (meth := k2m6) (c := k2c6) (by decide +kernel) rfl rfl rfl (by decide +kernel)
set_option maxRecDepth 65536 in
theorem w_c11 : (Jvm.Cond.code ({ cls := "com/example/wirelace/wirelace/codec/WireReader", name := "requireRemaining", desc := "(ILjava/lang/String;J)V" } : Jvm.MethodName) prog_18_method_27_code (5 : Nat) (Option.none : Option Jvm.ClassFile.FieldType)).before args0 about1 = true := code_word (m := ⟨2, 7⟩) (meth := k2m7) (c := k2c7) (by decide +kernel) rfl rfl rfl (by decide +kernel)
set_option maxRecDepth 65536 in
theorem w_c12 : (Jvm.Cond.code ({ cls := "java/lang/Long", name := "compareUnsigned", desc := "(JJ)I" } : Jvm.MethodName) jdk_35_method_43_code (4 : Nat) (Option.some Jvm.ClassFile.FieldType.int)).before args0 about1 = true := code_word (m := ⟨11, 1⟩) (meth := k11m1) (c := k11c1) (by decide +kernel) rfl rfl rfl (by decide +kernel)
set_option maxRecDepth 65536 in
theorem w_c13 : (Jvm.Cond.code ({ cls := "java/lang/Long", name := "compare", desc := "(JJ)I" } : Jvm.MethodName) jdk_35_method_42_code (4 : Nat) (Option.some Jvm.ClassFile.FieldType.int)).before args0 about1 = true := code_word (m := ⟨11, 0⟩) (meth := k11m0) (c := k11c0) (by decide +kernel) rfl rfl rfl (by decide +kernel)
set_option maxRecDepth 65536 in
theorem w_c14 : (Jvm.Cond.code ({ cls := "java/lang/Math", name := "min", desc := "(II)I" } : Jvm.MethodName) jdk_29_method_69_code (2 : Nat) (Option.some Jvm.ClassFile.FieldType.int)).before args0 about1 = true := code_word (m := ⟨12, 1⟩) (meth := k12m1) (c := k12c1) (by decide +kernel) rfl rfl rfl (by decide +kernel)
set_option maxRecDepth 65536 in
theorem w_c15 : (Jvm.Cond.code ({ cls := "com/example/wirelace/wirelace/codec/WireReader", name := "exitPacked", desc := "()V" } : Jvm.MethodName) prog_18_method_19_code (1 : Nat) (Option.none : Option Jvm.ClassFile.FieldType)).before args0 about1 = true := code_word (m := ⟨2, 5⟩) (meth := k2m5) (c := k2c5) (by decide +kernel) rfl rfl rfl (by decide +kernel)
def codes1 : List Jvm.Cond := [Jvm.Cond.code x code maxLocals ret, Jvm.Cond.code ({ cls := "com/example/wirelace/wirelace/codec/WireReader", name := "<init>", desc := "([B)V" } : Jvm.MethodName) prog_18_method_1_code (2 : Nat) (Option.none : Option Jvm.ClassFile.FieldType), Jvm.Cond.code ({ cls := "com/example/wirelace/wirelace/codec/WireReader", name := "<init>", desc := "([BI)V" } : Jvm.MethodName) prog_18_method_2_code (3 : Nat) (Option.none : Option Jvm.ClassFile.FieldType), Jvm.Cond.code ({ cls := "java/lang/Object", name := "<init>", desc := "()V" } : Jvm.MethodName) object_method_1_code (1 : Nat) (Option.none : Option Jvm.ClassFile.FieldType), Jvm.Cond.code ({ cls := "java/util/Objects", name := "requireNonNull", desc := "(Ljava/lang/Object;Ljava/lang/String;)Ljava/lang/Object;" } : Jvm.MethodName) jdk_31_method_11_code (2 : Nat) (Option.some (Jvm.ClassFile.FieldType.object "java/lang/Object")), Jvm.Cond.code ({ cls := "com/example/wirelace/wirelace/codec/WireReader", name := "checkMaxDepth", desc := "(I)I" } : Jvm.MethodName) prog_18_method_33_code (1 : Nat) (Option.some Jvm.ClassFile.FieldType.int), Jvm.Cond.code ({ cls := "com/example/wirelace/wirelace/codec/WireReaderHasRemainingPinLaw", name := "readN", desc := "(Lcom/example/wirelace/wirelace/codec/WireReader;I)V" } : Jvm.MethodName) method_2_code (2 : Nat) (Option.none : Option Jvm.ClassFile.FieldType), Jvm.Cond.code ({ cls := "com/example/wirelace/wirelace/codec/WireReader", name := "readVarint", desc := "()J" } : Jvm.MethodName) prog_18_method_11_code (1 : Nat) (Option.some Jvm.ClassFile.FieldType.long), Jvm.Cond.code ({ cls := "com/example/wirelace/wirelace/codec/WireReader", name := "hasRemaining", desc := "()Z" } : Jvm.MethodName) prog_18_method_9_code (1 : Nat) (Option.some Jvm.ClassFile.FieldType.boolean), Jvm.Cond.code ({ cls := "com/example/wirelace/wirelace/codec/WireReader", name := "enterPacked", desc := "()V" } : Jvm.MethodName) prog_18_method_18_code (2 : Nat) (Option.none : Option Jvm.ClassFile.FieldType), Jvm.Cond.code ({ cls := "com/example/wirelace/wirelace/codec/WireReader", name := "skipPayload", desc := "()I" } : Jvm.MethodName) prog_18_method_24_code (5 : Nat) (Option.some Jvm.ClassFile.FieldType.int), Jvm.Cond.code ({ cls := "com/example/wirelace/wirelace/codec/WireReader", name := "requireRemaining", desc := "(ILjava/lang/String;J)V" } : Jvm.MethodName) prog_18_method_27_code (5 : Nat) (Option.none : Option Jvm.ClassFile.FieldType), Jvm.Cond.code ({ cls := "java/lang/Long", name := "compareUnsigned", desc := "(JJ)I" } : Jvm.MethodName) jdk_35_method_43_code (4 : Nat) (Option.some Jvm.ClassFile.FieldType.int), Jvm.Cond.code ({ cls := "java/lang/Long", name := "compare", desc := "(JJ)I" } : Jvm.MethodName) jdk_35_method_42_code (4 : Nat) (Option.some Jvm.ClassFile.FieldType.int), Jvm.Cond.code ({ cls := "java/lang/Math", name := "min", desc := "(II)I" } : Jvm.MethodName) jdk_29_method_69_code (2 : Nat) (Option.some Jvm.ClassFile.FieldType.int), Jvm.Cond.code ({ cls := "com/example/wirelace/wirelace/codec/WireReader", name := "exitPacked", desc := "()V" } : Jvm.MethodName) prog_18_method_19_code (1 : Nat) (Option.none : Option Jvm.ClassFile.FieldType)]
set_option maxRecDepth 65536 in
theorem codes_eq : words1.filter isCode = codes1 := rfl
theorem w_codes : ∀ c ∈ words1.filter isCode, c.before args0 about1 = true := by
  rw [codes_eq]
  intro c hc
  simp only [codes1, List.mem_cons, List.not_mem_nil, or_false] at hc
  rcases hc with rfl | rfl | rfl | rfl | rfl | rfl | rfl | rfl | rfl | rfl | rfl | rfl | rfl | rfl | rfl | rfl
  · exact w_c0
  · exact w_c1
  · exact w_c2
  · exact w_c3
  · exact w_c4
  · exact w_c5
  · exact w_c6
  · exact w_c7
  · exact w_c8
  · exact w_c9
  · exact w_c10
  · exact w_c11
  · exact w_c12
  · exact w_c13
  · exact w_c14
  · exact w_c15
set_option maxRecDepth 65536 in
theorem w_t1 : (words1.take 24).all (fun c => isCode c || c.before args0 about1) = true := by decide +kernel
set_option maxRecDepth 65536 in
theorem w_t2 : ((words1.drop 24).take 24).all (fun c => isCode c || c.before args0 about1) = true := by decide +kernel
set_option maxRecDepth 65536 in
theorem w_t3 : (((words1.drop 24).drop 24).take 24).all (fun c => isCode c || c.before args0 about1) = true := by decide +kernel
set_option maxRecDepth 65536 in
theorem w_t4 : (((words1.drop 24).drop 24).drop 24).all (fun c => isCode c || c.before args0 about1) = true := by decide +kernel
theorem w_tables : (allAtoms (Jvm.Cond.code x code maxLocals ret :: tables_1)).before args0 about1 = true := by
  rw [allAtoms_all]
  show words1.all (fun c => c.before args0 about1) = true
  refine all_split ?_ w_codes
  rw [← List.take_append_drop 24 words1, List.all_append, w_t1, ← List.take_append_drop 24 (words1.drop 24), List.all_append, w_t2, ← List.take_append_drop 24 ((words1.drop 24).drop 24), List.all_append, w_t3, w_t4]
  rfl
set_option maxRecDepth 65536 in
theorem w_case : (Jvm.Cond.and given_1 narrow_1).before args0 about1 = true := by decide +kernel
theorem w_applies : (headSpec (Jvm.Cond.code x code maxLocals ret :: tables_1) room_1).applies x e0.platform about1 = true :=
  (Spec.applies_iff w_frames).mpr ⟨w_running, w_runnable, w_alone, w_named, w_hears, w_ripe, w_room, w_tables⟩
theorem atStart : AtStart classFile x code maxLocals ret World_1 tables_1 room_1 Calls_1 rest_1 Pre_1 launch0 p0 e0 about1 theMethod args0 below0 :=
  ⟨lists_1, trivial, launch0.admits_env _ _ _, launch0.least_env, fairChoices_fair.cas, fairChoices_fair.clock, w_frames, w_args, w_heap, w_applies, trivial, trivial, w_case⟩
end start1
theorem witness_1 : WitnessClaimed_1 := ⟨start1.p0, start1.e0, start1.about1, start1.theMethod, start1.args0, start1.below0, start1.atStart⟩
end Jvm.Pilot.@@N@@
