import JvmDerived
import JvmDerived.Pilot.@@N@@Statement
import JvmDerived.Pilot.@@N@@Code
set_option linter.unusedVariables false
set_option linter.unusedSimpArgs false
namespace Jvm.RoadKit
open Sem ClassFile Op Lib Jvm.Stand Jvm.Free Jvm.LawKit
section New
variable {p : Program} {l : Launch} {e : Env} {R : Room} {s : State} {m : MethodId} {args : Array Value} {below : List Frame} {meth : Method} {c : Code} {T : State} {locs : List Loc} {cells slots : Nat}
theorem retI (X : Stand p l e R s m args below meth c T locs cells slots) (hx : p.tables.exec = Jvm.exec) {pc : Nat} {Ls : Array Slot} {z : Int32} {rest : List Value} (hret : meth.sig.returnType = some .int) (hd : decode c.code pc = .ok (.ireturn, 1)) {fs : List Frame}
    (hl : ∀ (f : JFrame) (acts : List Action), f.method = m → f.locked = none → f.entered = [] → (doReturn e (T.setTop f) acts (some (.int z))).1 = T.setFrames fs) : Steps p.tables e below (T.setTop (mkF m pc Ls (.int z :: rest))) (T.setFrames fs) := by
  have hm' : T.vm.method? m = some meth := X.method'
  have hn : narrow .int (.int z) = .int z := rfl
  show Steps p.tables e below (T.setTop { method := m, pc := pc, locals := Ls, stack := _ :: rest, locked := none }) _
  jvm_step X.here [X.here.top, hx, hd, hm', hret, hn]
  first | (intro acts; rw [hl _ acts rfl rfl rfl]) | rw [hl _ _ rfl rfl rfl]
  exact Steps.refl _
end New
end Jvm.RoadKit
namespace Jvm.Pilot.@@N@@
open Jvm Jvm.ClassFile Sem Op Lib Jvm.Free Jvm.Stand Jvm.LawKit Jvm.RoadKit Bundle Jvm.Pilot.@@N@@.Jvm.D
def QP (r : Option Value) (h0 : Heap) (n0 : Nat) (v : Option Value) (h : Heap) (L : List Loc) : Prop := v = r ∧ Fr n0 L ∧ h = h0
def Ctx (p : Program) (s : State) (m : MethodId) (meth : Method) (c : Code) (Z : State) (a0 : Array Value) (own : String) (bytes : ByteArray) (ml : Nat) (rt : Option FieldType) (name : String) : Prop :=
  p.tables.exec = Jvm.exec ∧ Z.Warmed39 s.vm ∧ (∀ d ∈ tables_1, d.before a0 Z = true) ∧ c.code = bytes ∧ c.maxLocals = ml ∧ s.vm.findClass own = some m.cls ∧ meth.sig.returnType = rt ∧ meth.locks = false ∧ meth.name = name
/-- from T with the frame g on top the run comes to a return, of which Φ holds -/
def Runs (p : Program) (e : Env) (below : List Frame) (s : State) (Φ : Option Value → Heap → List Loc → Prop) (k n : Nat) (T : State) (g : JFrame) : Prop :=
  ∃ s₂ o, Steps p.tables e below (T.setTop g) s₂ ∧ s₂.status = .running ∧ Ended s₂ below o ∧ ∃ v L, o = .returned v ∧ Φ v s₂.heap L ∧ FrameEnd s o s₂ L k n
section Own
variable {p : Program} {l : Launch} {e : Env} {R : Room} {s : State} {m : MethodId} {args : Array Value} {below : List Frame} {meth : Method} {c : Code} {T T' T0 Z : State} {a0 : Array Value} {locs : List Loc} {cells slots k n n0 : Nat} {h0 : Heap} {g g' : JFrame} {Φ : Option Value → Heap → List Loc → Prop}
theorem Runs.via (h : ∀ t, Steps p.tables e below (T'.setTop g') t → Steps p.tables e below (T.setTop g) t) (r : Runs p e below s Φ k n T' g') : Runs p e below s Φ k n T g := by
  obtain ⟨s₂, o, h1, r⟩ := r
  exact ⟨s₂, o, h _ h1, r⟩
theorem QP.cast {r r' : Option Value} (h : r = r') (H : Runs p e below s (QP r' h0 n0) k n T g) : Runs p e below s (QP r h0 n0) k n T g := by rw [h]; exact H
theorem own_retI (X : Stand p l e R s m args below meth c T locs cells slots) (hx : p.tables.exec = Jvm.exec) (hlk : meth.locks = false) (hret : meth.sig.returnType = some .int) {pc : Nat} {Ls : Array Slot} {z : Int32} {rest : List Value} (hd : decode c.code pc = .ok (.ireturn, 1)) (hk : cells ≤ k) (hn : slots ≤ n) (hΦ : Φ (some (.int z)) T.heap locs) :
    Runs p e below s Φ k n T (mkF m pc Ls (.int z :: rest)) := by
  obtain ⟨fs, hr, hrun, hended, hW, hsame⟩ := X.leave (v := some (.int z)) (fun h => by rw [hret] at h; cases h) hlk
  exact ⟨_, _, retI X hx hret hd hr, hrun, hended, _, _, rfl, hΦ, ⟨_, rfl⟩, hW, hsame.mono hk hn⟩
theorem own_retN (X : Stand p l e R s m args below meth c T locs cells slots) (hx : p.tables.exec = Jvm.exec) (hlk : meth.locks = false) {t : FieldType} (hret : meth.sig.returnType = some t) (ht : t = .boolean ∨ t = .byte ∨ t = .char ∨ t = .short) {pc : Nat} {Ls : Array Slot} {z : Int32} {rest : List Value} (hd : decode c.code pc = .ok (.ireturn, 1)) (hk : cells ≤ k) (hn : slots ≤ n) (hΦ : Φ (some (.int (nar t z))) T.heap locs) :
    Runs p e below s Φ k n T (mkF m pc Ls (.int z :: rest)) := by
  obtain ⟨fs, hr, hrun, hended, hW, hsame⟩ := X.leave (v := some (.int (nar t z))) (fun h => by rw [hret] at h; cases h) hlk
  exact ⟨_, _, retN X hx hret ht hd hr, hrun, hended, _, _, rfl, hΦ, ⟨_, rfl⟩, hW, hsame.mono hk hn⟩
theorem own_retJ (X : Stand p l e R s m args below meth c T locs cells slots) (hx : p.tables.exec = Jvm.exec) (hlk : meth.locks = false) (hret : meth.sig.returnType = some .long) {pc : Nat} {Ls : Array Slot} {z : Int64} (hd : decode c.code pc = .ok (.lreturn, 1)) (hk : cells ≤ k) (hn : slots ≤ n) (hΦ : Φ (some (.long z)) T.heap locs) :
    Runs p e below s Φ k n T (mkF m pc Ls [.long z]) := by
  obtain ⟨fs, hr, hrun, hended, hW, hsame⟩ := X.leave (v := some (.long z)) (fun h => by rw [hret] at h; cases h) hlk
  exact ⟨_, _, X.lreturnOut hx hret hd hr, hrun, hended, _, _, rfl, hΦ, ⟨_, rfl⟩, hW, hsame.mono hk hn⟩
theorem d1_0 : decode jdk_29_method_69_code 0 = .ok (.iload_n 0, 1) := by decide +kernel
theorem d1_1 : decode jdk_29_method_69_code 1 = .ok (.iload_n 1, 1) := by decide +kernel
theorem d1_2 : decode jdk_29_method_69_code 2 = .ok (.if_icmp .gt 7, 3) := by decide +kernel
theorem d1_5 : decode jdk_29_method_69_code 5 = .ok (.iload_n 0, 1) := by decide +kernel
theorem d1_6 : decode jdk_29_method_69_code 6 = .ok (.goto 4, 3) := by decide +kernel
theorem d1_9 : decode jdk_29_method_69_code 9 = .ok (.iload_n 1, 1) := by decide +kernel
theorem d1_10 : decode jdk_29_method_69_code 10 = .ok (.ireturn, 1) := by decide +kernel
def g1_0 (x0 : Int32) (x1 : Int32) : Int32 := (if x1 < x0 then x1 else x0)
set_option maxRecDepth 65536 in
set_option maxHeartbeats 4000000 in
theorem b1_0 (C : Ctx p s m meth c Z a0 "java/lang/Math" jdk_29_method_69_code 2 (some .int) "min") (X0 : Stand p l e ({ frames := 0, cells := 0, slots := 0, locals := 0 } : Room) s m args below meth c T0 locs cells slots) (e0 : T0.heap = h0) (N0 : Fr n0 locs) (hk : cells ≤ 0) (hn : slots ≤ 0) (x0 : Int32) (x1 : Int32) :
    Runs p e below s (QP (some (.int (g1_0 x0 x1))) h0 n0) 0 0 T0 (mkF m 0 #[.val (.int x0), .val (.int x1)] []) := by
  have ⟨hx, hZ, hw, hby, hml, hown, hret, hlk, hnm⟩ := C
  refine Runs.via (T' := T0) (g' := (mkF m 2 #[.val (.int x0), .val (.int x1)] [(.int x1), (.int x0)])) (fun t k => ?_) ?_
  · show Steps p.tables e below (T0.setTop (mkF m 0 #[.val (.int x0), .val (.int x1)] [])) t
    refine XS.iloadN X0.here hx rfl (hb hby d1_0) rfl ?_
    show Steps p.tables e below (T0.setTop (mkF m 1 #[.val (.int x0), .val (.int x1)] [(.int x0)])) t
    refine XS.iloadN X0.here hx rfl (hb hby d1_1) rfl ?_
    exact k
  by_cases hc1 : x1 < x0
  · refine Runs.via (T' := T0) (g' := (mkF m 9 #[.val (.int x0), .val (.int x1)] [])) (fun t k => ?_) ?_
    · show Steps p.tables e below (T0.setTop (mkF m 2 #[.val (.int x0), .val (.int x1)] [(.int x1), (.int x0)])) t
      exact XS.icmpYes X0.here hx rfl (pc0 := 2) (pc' := 9) rfl (hb hby d1_2) rfl (tlt hc1).2.2.1 (by decide) (by decide) k
    refine Runs.via (T' := T0) (g' := (mkF m 10 #[.val (.int x0), .val (.int x1)] [(.int x1)])) (fun t k => ?_) ?_
    · show Steps p.tables e below (T0.setTop (mkF m 9 #[.val (.int x0), .val (.int x1)] [])) t
      refine XS.iloadN X0.here hx rfl (hb hby d1_9) rfl ?_
      exact k
    refine QP.cast (congrArg (fun z => some (Value.int z)) (show (g1_0 x0 x1) = x1 from (if_pos hc1))) ?_
    exact own_retI X0 hx hlk hret (hb hby d1_10) hk hn ⟨rfl, N0, e0⟩
  · refine Runs.via (T' := T0) (g' := (mkF m 5 #[.val (.int x0), .val (.int x1)] [])) (fun t k => ?_) ?_
    · show Steps p.tables e below (T0.setTop (mkF m 2 #[.val (.int x0), .val (.int x1)] [(.int x1), (.int x0)])) t
      exact XS.icmpNo X0.here hx rfl (hb hby d1_2) rfl (flt hc1).2.2.1 k
    refine Runs.via (T' := T0) (g' := (mkF m 10 #[.val (.int x0), .val (.int x1)] [(.int x0)])) (fun t k => ?_) ?_
    · show Steps p.tables e below (T0.setTop (mkF m 5 #[.val (.int x0), .val (.int x1)] [])) t
      refine XS.iloadN X0.here hx rfl (hb hby d1_5) rfl ?_
      show Steps p.tables e below (T0.setTop (mkF m 6 #[.val (.int x0), .val (.int x1)] [(.int x0)])) t
      refine XS.goto X0.here hx rfl (pc0 := 6) (pc' := 10) rfl (hb hby d1_6) (by decide) (by decide) ?_
      exact k
    refine QP.cast (congrArg (fun z => some (Value.int z)) (show (g1_0 x0 x1) = x0 from (if_neg hc1))) ?_
    exact own_retI X0 hx hlk hret (hb hby d1_10) hk hn ⟨rfl, N0, e0⟩
def f1 (x0 : Int32) (x1 : Int32) : Int32 := g1_0 x0 x1
theorem ef_1 (m : MethodId) (x0 : Int32) (x1 : Int32) : entryFrame m #[(.int x0), (.int x1)] 2 = mkF m 0 #[.val (.int x0), .val (.int x1)] [] := by first | (simp [entryFrame, mkF, argsToLocals, Value.category]; done) | rfl
set_option maxRecDepth 65536 in
set_option maxHeartbeats 4000000 in
theorem rm1 (l : Launch) (Z : State) (a0 : Array Value) (hw : ∀ d ∈ tables_1, d.before a0 Z = true) (ws : List Jvm.Cond) (x0 : Int32) (x1 : Int32) (h0 : Heap) (n0 : Nat) :
    MetFree l (⟨"java/lang/Math", "min", "(II)I"⟩ : MethodName) (head1 (Jvm.Cond.code (⟨"java/lang/Math", "min", "(II)I"⟩ : MethodName) jdk_29_method_69_code 2 (some .int) :: ws) ({ frames := 0, cells := 0, slots := 0, locals := 0 } : Room)) (fun a U => a = #[(.int x0), (.int x1)] ∧ Z.Warmed39 U.vm ∧ U.heap = h0) (fun _ _ _ _ _ => True) (fun _ U o U' => ∃ v L, o = .returned v ∧ QP (some (.int (f1 x0 x1))) h0 n0 v U'.heap L ∧ FrameEnd U o U' L ({ frames := 0, cells := 0, slots := 0, locals := 0 } : Room).cells ({ frames := 0, cells := 0, slots := 0, locals := 0 } : Room).slots) := by
  refine MetFree.of_bodySF (Jvm.Free.JP.mathPlain rfl (by decide +kernel)) hisR ?_
  intro p e s m args below meth c s₁ Bd hml0 hP hK
  obtain ⟨rfl, hZ, hh⟩ := hP
  have X0 : Stand p l e ({ frames := 0, cells := 0, slots := 0, locals := 0 } : Room) s m #[(.int x0), (.int x1)] below meth c s₁ [] 0 0 := Stand.of_body Bd
  have e0 : s₁.heap = h0 := by rw [← hh, Bd.state]; rfl
  have C : Ctx p s m meth c Z a0 "java/lang/Math" jdk_29_method_69_code 2 (some .int) "min" := ⟨Bd.exec, hZ, hw, Bd.bytes, hml0, findClass_of_methodNamed Bd.named, Bd.returns, BodyLoose.notSynchronized Bd, (name_of_methodNamed Bd.named Bd.method).1⟩
  refine Runs.via (fun t k => castTop (ef_1 m x0 x1) k) (b1_0 C X0 e0 (Fr.nil n0) (Nat.le_refl 0) (Nat.le_refl 0) x0 x1)
theorem pd_0 : parseMethodDescriptor "(II)I" = some ⟨[.int, .int], some .int⟩ := by decide +kernel
theorem d2_0 : decode jdk_29_method_65_code 0 = .ok (.iload_n 0, 1) := by decide +kernel
theorem d2_1 : decode jdk_29_method_65_code 1 = .ok (.iload_n 1, 1) := by decide +kernel
theorem d2_2 : decode jdk_29_method_65_code 2 = .ok (.if_icmp .lt 7, 3) := by decide +kernel
theorem d2_5 : decode jdk_29_method_65_code 5 = .ok (.iload_n 0, 1) := by decide +kernel
theorem d2_6 : decode jdk_29_method_65_code 6 = .ok (.goto 4, 3) := by decide +kernel
theorem d2_9 : decode jdk_29_method_65_code 9 = .ok (.iload_n 1, 1) := by decide +kernel
theorem d2_10 : decode jdk_29_method_65_code 10 = .ok (.ireturn, 1) := by decide +kernel
def g2_0 (x0 : Int32) (x1 : Int32) : Int32 := (if x0 < x1 then x1 else x0)
set_option maxRecDepth 65536 in
set_option maxHeartbeats 4000000 in
theorem b2_0 (C : Ctx p s m meth c Z a0 "java/lang/Math" jdk_29_method_65_code 2 (some .int) "max") (X0 : Stand p l e ({ frames := 0, cells := 0, slots := 0, locals := 0 } : Room) s m args below meth c T0 locs cells slots) (e0 : T0.heap = h0) (N0 : Fr n0 locs) (hk : cells ≤ 0) (hn : slots ≤ 0) (x0 : Int32) (x1 : Int32) :
    Runs p e below s (QP (some (.int (g2_0 x0 x1))) h0 n0) 0 0 T0 (mkF m 0 #[.val (.int x0), .val (.int x1)] []) := by
  have ⟨hx, hZ, hw, hby, hml, hown, hret, hlk, hnm⟩ := C
  refine Runs.via (T' := T0) (g' := (mkF m 2 #[.val (.int x0), .val (.int x1)] [(.int x1), (.int x0)])) (fun t k => ?_) ?_
  · show Steps p.tables e below (T0.setTop (mkF m 0 #[.val (.int x0), .val (.int x1)] [])) t
    refine XS.iloadN X0.here hx rfl (hb hby d2_0) rfl ?_
    show Steps p.tables e below (T0.setTop (mkF m 1 #[.val (.int x0), .val (.int x1)] [(.int x0)])) t
    refine XS.iloadN X0.here hx rfl (hb hby d2_1) rfl ?_
    exact k
  by_cases hc1 : x0 < x1
  · refine Runs.via (T' := T0) (g' := (mkF m 9 #[.val (.int x0), .val (.int x1)] [])) (fun t k => ?_) ?_
    · show Steps p.tables e below (T0.setTop (mkF m 2 #[.val (.int x0), .val (.int x1)] [(.int x1), (.int x0)])) t
      exact XS.icmpYes X0.here hx rfl (pc0 := 2) (pc' := 9) rfl (hb hby d2_2) rfl (tlt hc1).1 (by decide) (by decide) k
    refine Runs.via (T' := T0) (g' := (mkF m 10 #[.val (.int x0), .val (.int x1)] [(.int x1)])) (fun t k => ?_) ?_
    · show Steps p.tables e below (T0.setTop (mkF m 9 #[.val (.int x0), .val (.int x1)] [])) t
      refine XS.iloadN X0.here hx rfl (hb hby d2_9) rfl ?_
      exact k
    refine QP.cast (congrArg (fun z => some (Value.int z)) (show (g2_0 x0 x1) = x1 from (if_pos hc1))) ?_
    exact own_retI X0 hx hlk hret (hb hby d2_10) hk hn ⟨rfl, N0, e0⟩
  · refine Runs.via (T' := T0) (g' := (mkF m 5 #[.val (.int x0), .val (.int x1)] [])) (fun t k => ?_) ?_
    · show Steps p.tables e below (T0.setTop (mkF m 2 #[.val (.int x0), .val (.int x1)] [(.int x1), (.int x0)])) t
      exact XS.icmpNo X0.here hx rfl (hb hby d2_2) rfl (flt hc1).1 k
    refine Runs.via (T' := T0) (g' := (mkF m 10 #[.val (.int x0), .val (.int x1)] [(.int x0)])) (fun t k => ?_) ?_
    · show Steps p.tables e below (T0.setTop (mkF m 5 #[.val (.int x0), .val (.int x1)] [])) t
      refine XS.iloadN X0.here hx rfl (hb hby d2_5) rfl ?_
      show Steps p.tables e below (T0.setTop (mkF m 6 #[.val (.int x0), .val (.int x1)] [(.int x0)])) t
      refine XS.goto X0.here hx rfl (pc0 := 6) (pc' := 10) rfl (hb hby d2_6) (by decide) (by decide) ?_
      exact k
    refine QP.cast (congrArg (fun z => some (Value.int z)) (show (g2_0 x0 x1) = x0 from (if_neg hc1))) ?_
    exact own_retI X0 hx hlk hret (hb hby d2_10) hk hn ⟨rfl, N0, e0⟩
def f2 (x0 : Int32) (x1 : Int32) : Int32 := g2_0 x0 x1
theorem ef_2 (m : MethodId) (x0 : Int32) (x1 : Int32) : entryFrame m #[(.int x0), (.int x1)] 2 = mkF m 0 #[.val (.int x0), .val (.int x1)] [] := by first | (simp [entryFrame, mkF, argsToLocals, Value.category]; done) | rfl
set_option maxRecDepth 65536 in
set_option maxHeartbeats 4000000 in
theorem rm2 (l : Launch) (Z : State) (a0 : Array Value) (hw : ∀ d ∈ tables_1, d.before a0 Z = true) (ws : List Jvm.Cond) (x0 : Int32) (x1 : Int32) (h0 : Heap) (n0 : Nat) :
    MetFree l (⟨"java/lang/Math", "max", "(II)I"⟩ : MethodName) (head1 (Jvm.Cond.code (⟨"java/lang/Math", "max", "(II)I"⟩ : MethodName) jdk_29_method_65_code 2 (some .int) :: ws) ({ frames := 0, cells := 0, slots := 0, locals := 0 } : Room)) (fun a U => a = #[(.int x0), (.int x1)] ∧ Z.Warmed39 U.vm ∧ U.heap = h0) (fun _ _ _ _ _ => True) (fun _ U o U' => ∃ v L, o = .returned v ∧ QP (some (.int (f2 x0 x1))) h0 n0 v U'.heap L ∧ FrameEnd U o U' L ({ frames := 0, cells := 0, slots := 0, locals := 0 } : Room).cells ({ frames := 0, cells := 0, slots := 0, locals := 0 } : Room).slots) := by
  refine MetFree.of_bodySF (Jvm.Free.JP.mathPlain rfl (by decide +kernel)) hisR ?_
  intro p e s m args below meth c s₁ Bd hml0 hP hK
  obtain ⟨rfl, hZ, hh⟩ := hP
  have X0 : Stand p l e ({ frames := 0, cells := 0, slots := 0, locals := 0 } : Room) s m #[(.int x0), (.int x1)] below meth c s₁ [] 0 0 := Stand.of_body Bd
  have e0 : s₁.heap = h0 := by rw [← hh, Bd.state]; rfl
  have C : Ctx p s m meth c Z a0 "java/lang/Math" jdk_29_method_65_code 2 (some .int) "max" := ⟨Bd.exec, hZ, hw, Bd.bytes, hml0, findClass_of_methodNamed Bd.named, Bd.returns, BodyLoose.notSynchronized Bd, (name_of_methodNamed Bd.named Bd.method).1⟩
  refine Runs.via (fun t k => castTop (ef_2 m x0 x1) k) (b2_0 C X0 e0 (Fr.nil n0) (Nat.le_refl 0) (Nat.le_refl 0) x0 x1)
theorem d3_0 : decode jdk_29_method_70_code 0 = .ok (.lload_n 0, 1) := by decide +kernel
theorem d3_1 : decode jdk_29_method_70_code 1 = .ok (.lload_n 2, 1) := by decide +kernel
theorem d3_2 : decode jdk_29_method_70_code 2 = .ok (.lcmp, 1) := by decide +kernel
theorem d3_3 : decode jdk_29_method_70_code 3 = .ok (.ifCond .gt 7, 3) := by decide +kernel
theorem d3_6 : decode jdk_29_method_70_code 6 = .ok (.lload_n 0, 1) := by decide +kernel
theorem d3_7 : decode jdk_29_method_70_code 7 = .ok (.goto 4, 3) := by decide +kernel
theorem d3_10 : decode jdk_29_method_70_code 10 = .ok (.lload_n 2, 1) := by decide +kernel
theorem d3_11 : decode jdk_29_method_70_code 11 = .ok (.lreturn, 1) := by decide +kernel
def g3_0 (y0 : Int64) (y2 : Int64) : Int64 := (if y2 < y0 then y2 else y0)
set_option maxRecDepth 65536 in
set_option maxHeartbeats 4000000 in
theorem b3_0 (C : Ctx p s m meth c Z a0 "java/lang/Math" jdk_29_method_70_code 4 (some .long) "min") (X0 : Stand p l e ({ frames := 0, cells := 0, slots := 0, locals := 0 } : Room) s m args below meth c T0 locs cells slots) (e0 : T0.heap = h0) (N0 : Fr n0 locs) (hk : cells ≤ 0) (hn : slots ≤ 0) (y0 : Int64) (y2 : Int64) :
    Runs p e below s (QP (some (.long (g3_0 y0 y2))) h0 n0) 0 0 T0 (mkF m 0 #[.val (.long y0), .second, .val (.long y2), .second] []) := by
  have ⟨hx, hZ, hw, hby, hml, hown, hret, hlk, hnm⟩ := C
  refine Runs.via (T' := T0) (g' := (mkF m 3 #[.val (.long y0), .second, .val (.long y2), .second] [(.int (lcmpW y0 y2))])) (fun t k => ?_) ?_
  · show Steps p.tables e below (T0.setTop (mkF m 0 #[.val (.long y0), .second, .val (.long y2), .second] [])) t
    refine XS.lloadN X0.here hx rfl (hb hby d3_0) rfl ?_
    show Steps p.tables e below (T0.setTop (mkF m 1 #[.val (.long y0), .second, .val (.long y2), .second] [(.long y0)])) t
    refine XS.lloadN X0.here hx rfl (hb hby d3_1) rfl ?_
    show Steps p.tables e below (T0.setTop (mkF m 2 #[.val (.long y0), .second, .val (.long y2), .second] [(.long y2), (.long y0)])) t
    refine XS.lcmp X0.here hx rfl (hb hby d3_2) rfl ?_
    exact k
  by_cases hc1 : y2 < y0
  · refine Runs.via (T' := T0) (g' := (mkF m 10 #[.val (.long y0), .second, .val (.long y2), .second] [])) (fun t k => ?_) ?_
    · show Steps p.tables e below (T0.setTop (mkF m 3 #[.val (.long y0), .second, .val (.long y2), .second] [(.int (lcmpW y0 y2))])) t
      exact XS.ifYes X0.here hx rfl (pc0 := 3) (pc' := 10) rfl (hb hby d3_3) rfl ((if0 _ _).trans (tlt ((lw_gt _ _).mpr hc1)).2.2.1) (by decide) (by decide) k
    refine Runs.via (T' := T0) (g' := (mkF m 11 #[.val (.long y0), .second, .val (.long y2), .second] [(.long y2)])) (fun t k => ?_) ?_
    · show Steps p.tables e below (T0.setTop (mkF m 10 #[.val (.long y0), .second, .val (.long y2), .second] [])) t
      refine XS.lloadN X0.here hx rfl (hb hby d3_10) rfl ?_
      exact k
    refine QP.cast (congrArg (fun z => some (Value.long z)) (show (g3_0 y0 y2) = y2 from (if_pos hc1))) ?_
    exact own_retJ X0 hx hlk hret (hb hby d3_11) hk hn ⟨rfl, N0, e0⟩
  · refine Runs.via (T' := T0) (g' := (mkF m 6 #[.val (.long y0), .second, .val (.long y2), .second] [])) (fun t k => ?_) ?_
    · show Steps p.tables e below (T0.setTop (mkF m 3 #[.val (.long y0), .second, .val (.long y2), .second] [(.int (lcmpW y0 y2))])) t
      exact XS.ifNo X0.here hx rfl (hb hby d3_3) rfl ((if0 _ _).trans (flt (fun q => hc1 ((lw_gt _ _).mp q))).2.2.1) k
    refine Runs.via (T' := T0) (g' := (mkF m 11 #[.val (.long y0), .second, .val (.long y2), .second] [(.long y0)])) (fun t k => ?_) ?_
    · show Steps p.tables e below (T0.setTop (mkF m 6 #[.val (.long y0), .second, .val (.long y2), .second] [])) t
      refine XS.lloadN X0.here hx rfl (hb hby d3_6) rfl ?_
      show Steps p.tables e below (T0.setTop (mkF m 7 #[.val (.long y0), .second, .val (.long y2), .second] [(.long y0)])) t
      refine XS.goto X0.here hx rfl (pc0 := 7) (pc' := 11) rfl (hb hby d3_7) (by decide) (by decide) ?_
      exact k
    refine QP.cast (congrArg (fun z => some (Value.long z)) (show (g3_0 y0 y2) = y0 from (if_neg hc1))) ?_
    exact own_retJ X0 hx hlk hret (hb hby d3_11) hk hn ⟨rfl, N0, e0⟩
def f3 (y0 : Int64) (y2 : Int64) : Int64 := g3_0 y0 y2
theorem ef_3 (m : MethodId) (y0 : Int64) (y2 : Int64) : entryFrame m #[(.long y0), (.long y2)] 4 = mkF m 0 #[.val (.long y0), .second, .val (.long y2), .second] [] := by first | (simp [entryFrame, mkF, argsToLocals, Value.category]; done) | rfl
set_option maxRecDepth 65536 in
set_option maxHeartbeats 4000000 in
theorem rm3 (l : Launch) (Z : State) (a0 : Array Value) (hw : ∀ d ∈ tables_1, d.before a0 Z = true) (ws : List Jvm.Cond) (y0 : Int64) (y2 : Int64) (h0 : Heap) (n0 : Nat) :
    MetFree l (⟨"java/lang/Math", "min", "(JJ)J"⟩ : MethodName) (head1 (Jvm.Cond.code (⟨"java/lang/Math", "min", "(JJ)J"⟩ : MethodName) jdk_29_method_70_code 4 (some .long) :: ws) ({ frames := 0, cells := 0, slots := 0, locals := 0 } : Room)) (fun a U => a = #[(.long y0), (.long y2)] ∧ Z.Warmed39 U.vm ∧ U.heap = h0) (fun _ _ _ _ _ => True) (fun _ U o U' => ∃ v L, o = .returned v ∧ QP (some (.long (f3 y0 y2))) h0 n0 v U'.heap L ∧ FrameEnd U o U' L ({ frames := 0, cells := 0, slots := 0, locals := 0 } : Room).cells ({ frames := 0, cells := 0, slots := 0, locals := 0 } : Room).slots) := by
  refine MetFree.of_bodySF (Jvm.Free.JP.mathPlain rfl (by decide +kernel)) hisR ?_
  intro p e s m args below meth c s₁ Bd hml0 hP hK
  obtain ⟨rfl, hZ, hh⟩ := hP
  have X0 : Stand p l e ({ frames := 0, cells := 0, slots := 0, locals := 0 } : Room) s m #[(.long y0), (.long y2)] below meth c s₁ [] 0 0 := Stand.of_body Bd
  have e0 : s₁.heap = h0 := by rw [← hh, Bd.state]; rfl
  have C : Ctx p s m meth c Z a0 "java/lang/Math" jdk_29_method_70_code 4 (some .long) "min" := ⟨Bd.exec, hZ, hw, Bd.bytes, hml0, findClass_of_methodNamed Bd.named, Bd.returns, BodyLoose.notSynchronized Bd, (name_of_methodNamed Bd.named Bd.method).1⟩
  refine Runs.via (fun t k => castTop (ef_3 m y0 y2) k) (b3_0 C X0 e0 (Fr.nil n0) (Nat.le_refl 0) (Nat.le_refl 0) y0 y2)
theorem pd_1 : parseMethodDescriptor "(JJ)J" = some ⟨[.long, .long], some .long⟩ := by decide +kernel
theorem d4_0 : decode jdk_29_method_66_code 0 = .ok (.lload_n 0, 1) := by decide +kernel
theorem d4_1 : decode jdk_29_method_66_code 1 = .ok (.lload_n 2, 1) := by decide +kernel
theorem d4_2 : decode jdk_29_method_66_code 2 = .ok (.lcmp, 1) := by decide +kernel
theorem d4_3 : decode jdk_29_method_66_code 3 = .ok (.ifCond .lt 7, 3) := by decide +kernel
theorem d4_6 : decode jdk_29_method_66_code 6 = .ok (.lload_n 0, 1) := by decide +kernel
theorem d4_7 : decode jdk_29_method_66_code 7 = .ok (.goto 4, 3) := by decide +kernel
theorem d4_10 : decode jdk_29_method_66_code 10 = .ok (.lload_n 2, 1) := by decide +kernel
theorem d4_11 : decode jdk_29_method_66_code 11 = .ok (.lreturn, 1) := by decide +kernel
def g4_0 (y0 : Int64) (y2 : Int64) : Int64 := (if y0 < y2 then y2 else y0)
set_option maxRecDepth 65536 in
set_option maxHeartbeats 4000000 in
theorem b4_0 (C : Ctx p s m meth c Z a0 "java/lang/Math" jdk_29_method_66_code 4 (some .long) "max") (X0 : Stand p l e ({ frames := 0, cells := 0, slots := 0, locals := 0 } : Room) s m args below meth c T0 locs cells slots) (e0 : T0.heap = h0) (N0 : Fr n0 locs) (hk : cells ≤ 0) (hn : slots ≤ 0) (y0 : Int64) (y2 : Int64) :
    Runs p e below s (QP (some (.long (g4_0 y0 y2))) h0 n0) 0 0 T0 (mkF m 0 #[.val (.long y0), .second, .val (.long y2), .second] []) := by
  have ⟨hx, hZ, hw, hby, hml, hown, hret, hlk, hnm⟩ := C
  refine Runs.via (T' := T0) (g' := (mkF m 3 #[.val (.long y0), .second, .val (.long y2), .second] [(.int (lcmpW y0 y2))])) (fun t k => ?_) ?_
  · show Steps p.tables e below (T0.setTop (mkF m 0 #[.val (.long y0), .second, .val (.long y2), .second] [])) t
    refine XS.lloadN X0.here hx rfl (hb hby d4_0) rfl ?_
    show Steps p.tables e below (T0.setTop (mkF m 1 #[.val (.long y0), .second, .val (.long y2), .second] [(.long y0)])) t
    refine XS.lloadN X0.here hx rfl (hb hby d4_1) rfl ?_
    show Steps p.tables e below (T0.setTop (mkF m 2 #[.val (.long y0), .second, .val (.long y2), .second] [(.long y2), (.long y0)])) t
    refine XS.lcmp X0.here hx rfl (hb hby d4_2) rfl ?_
    exact k
  by_cases hc1 : y0 < y2
  · refine Runs.via (T' := T0) (g' := (mkF m 10 #[.val (.long y0), .second, .val (.long y2), .second] [])) (fun t k => ?_) ?_
    · show Steps p.tables e below (T0.setTop (mkF m 3 #[.val (.long y0), .second, .val (.long y2), .second] [(.int (lcmpW y0 y2))])) t
      exact XS.ifYes X0.here hx rfl (pc0 := 3) (pc' := 10) rfl (hb hby d4_3) rfl ((if0 _ _).trans (tlt ((lw_lt _ _).mpr hc1)).1) (by decide) (by decide) k
    refine Runs.via (T' := T0) (g' := (mkF m 11 #[.val (.long y0), .second, .val (.long y2), .second] [(.long y2)])) (fun t k => ?_) ?_
    · show Steps p.tables e below (T0.setTop (mkF m 10 #[.val (.long y0), .second, .val (.long y2), .second] [])) t
      refine XS.lloadN X0.here hx rfl (hb hby d4_10) rfl ?_
      exact k
    refine QP.cast (congrArg (fun z => some (Value.long z)) (show (g4_0 y0 y2) = y2 from (if_pos hc1))) ?_
    exact own_retJ X0 hx hlk hret (hb hby d4_11) hk hn ⟨rfl, N0, e0⟩
  · refine Runs.via (T' := T0) (g' := (mkF m 6 #[.val (.long y0), .second, .val (.long y2), .second] [])) (fun t k => ?_) ?_
    · show Steps p.tables e below (T0.setTop (mkF m 3 #[.val (.long y0), .second, .val (.long y2), .second] [(.int (lcmpW y0 y2))])) t
      exact XS.ifNo X0.here hx rfl (hb hby d4_3) rfl ((if0 _ _).trans (flt (fun q => hc1 ((lw_lt _ _).mp q))).1) k
    refine Runs.via (T' := T0) (g' := (mkF m 11 #[.val (.long y0), .second, .val (.long y2), .second] [(.long y0)])) (fun t k => ?_) ?_
    · show Steps p.tables e below (T0.setTop (mkF m 6 #[.val (.long y0), .second, .val (.long y2), .second] [])) t
      refine XS.lloadN X0.here hx rfl (hb hby d4_6) rfl ?_
      show Steps p.tables e below (T0.setTop (mkF m 7 #[.val (.long y0), .second, .val (.long y2), .second] [(.long y0)])) t
      refine XS.goto X0.here hx rfl (pc0 := 7) (pc' := 11) rfl (hb hby d4_7) (by decide) (by decide) ?_
      exact k
    refine QP.cast (congrArg (fun z => some (Value.long z)) (show (g4_0 y0 y2) = y0 from (if_neg hc1))) ?_
    exact own_retJ X0 hx hlk hret (hb hby d4_11) hk hn ⟨rfl, N0, e0⟩
def f4 (y0 : Int64) (y2 : Int64) : Int64 := g4_0 y0 y2
theorem ef_4 (m : MethodId) (y0 : Int64) (y2 : Int64) : entryFrame m #[(.long y0), (.long y2)] 4 = mkF m 0 #[.val (.long y0), .second, .val (.long y2), .second] [] := by first | (simp [entryFrame, mkF, argsToLocals, Value.category]; done) | rfl
set_option maxRecDepth 65536 in
set_option maxHeartbeats 4000000 in
theorem rm4 (l : Launch) (Z : State) (a0 : Array Value) (hw : ∀ d ∈ tables_1, d.before a0 Z = true) (ws : List Jvm.Cond) (y0 : Int64) (y2 : Int64) (h0 : Heap) (n0 : Nat) :
    MetFree l (⟨"java/lang/Math", "max", "(JJ)J"⟩ : MethodName) (head1 (Jvm.Cond.code (⟨"java/lang/Math", "max", "(JJ)J"⟩ : MethodName) jdk_29_method_66_code 4 (some .long) :: ws) ({ frames := 0, cells := 0, slots := 0, locals := 0 } : Room)) (fun a U => a = #[(.long y0), (.long y2)] ∧ Z.Warmed39 U.vm ∧ U.heap = h0) (fun _ _ _ _ _ => True) (fun _ U o U' => ∃ v L, o = .returned v ∧ QP (some (.long (f4 y0 y2))) h0 n0 v U'.heap L ∧ FrameEnd U o U' L ({ frames := 0, cells := 0, slots := 0, locals := 0 } : Room).cells ({ frames := 0, cells := 0, slots := 0, locals := 0 } : Room).slots) := by
  refine MetFree.of_bodySF (Jvm.Free.JP.mathPlain rfl (by decide +kernel)) hisR ?_
  intro p e s m args below meth c s₁ Bd hml0 hP hK
  obtain ⟨rfl, hZ, hh⟩ := hP
  have X0 : Stand p l e ({ frames := 0, cells := 0, slots := 0, locals := 0 } : Room) s m #[(.long y0), (.long y2)] below meth c s₁ [] 0 0 := Stand.of_body Bd
  have e0 : s₁.heap = h0 := by rw [← hh, Bd.state]; rfl
  have C : Ctx p s m meth c Z a0 "java/lang/Math" jdk_29_method_66_code 4 (some .long) "max" := ⟨Bd.exec, hZ, hw, Bd.bytes, hml0, findClass_of_methodNamed Bd.named, Bd.returns, BodyLoose.notSynchronized Bd, (name_of_methodNamed Bd.named Bd.method).1⟩
  refine Runs.via (fun t k => castTop (ef_4 m y0 y2) k) (b4_0 C X0 e0 (Fr.nil n0) (Nat.le_refl 0) (Nat.le_refl 0) y0 y2)
theorem d6_0 : decode prog_6_method_2_code 0 = .ok (.iload_n 1, 1) := by decide +kernel
theorem d6_1 : decode prog_6_method_2_code 1 = .ok (.iload_n 0, 1) := by decide +kernel
theorem d6_2 : decode prog_6_method_2_code 2 = .ok (.isub, 1) := by decide +kernel
theorem d6_3 : decode prog_6_method_2_code 3 = .ok (.bipush 6, 2) := by decide +kernel
theorem d6_5 : decode prog_6_method_2_code 5 = .ok (.iushr, 1) := by decide +kernel
theorem d6_6 : decode prog_6_method_2_code 6 = .ok (.iconst 1, 1) := by decide +kernel
theorem d6_7 : decode prog_6_method_2_code 7 = .ok (.iadd, 1) := by decide +kernel
theorem d6_8 : decode prog_6_method_2_code 8 = .ok (.ireturn, 1) := by decide +kernel
def g6_0 (x0 : Int32) (x1 : Int32) : Int32 := ((((x1 - x0).toUInt32 >>> ((6 : Int32) &&& 31).toUInt32).toInt32) + (1 : Int32))
set_option maxRecDepth 65536 in
set_option maxHeartbeats 4000000 in
theorem b6_0 (C : Ctx p s m meth c Z a0 "com/example/braid/braid/DocMerge" prog_6_method_2_code 2 (some .int) "words") (X0 : Stand p l e ({ frames := 0, cells := 0, slots := 0, locals := 0 } : Room) s m args below meth c T0 locs cells slots) (e0 : T0.heap = h0) (N0 : Fr n0 locs) (hk : cells ≤ 0) (hn : slots ≤ 0) (x0 : Int32) (x1 : Int32) :
    Runs p e below s (QP (some (.int (g6_0 x0 x1))) h0 n0) 0 0 T0 (mkF m 0 #[.val (.int x0), .val (.int x1)] []) := by
  have ⟨hx, hZ, hw, hby, hml, hown, hret, hlk, hnm⟩ := C
  refine Runs.via (T' := T0) (g' := (mkF m 8 #[.val (.int x0), .val (.int x1)] [(.int ((((x1 - x0).toUInt32 >>> ((6 : Int32) &&& 31).toUInt32).toInt32) + (1 : Int32)))])) (fun t k => ?_) ?_
  · show Steps p.tables e below (T0.setTop (mkF m 0 #[.val (.int x0), .val (.int x1)] [])) t
    refine XS.iloadN X0.here hx rfl (hb hby d6_0) rfl ?_
    show Steps p.tables e below (T0.setTop (mkF m 1 #[.val (.int x0), .val (.int x1)] [(.int x1)])) t
    refine XS.iloadN X0.here hx rfl (hb hby d6_1) rfl ?_
    show Steps p.tables e below (T0.setTop (mkF m 2 #[.val (.int x0), .val (.int x1)] [(.int x0), (.int x1)])) t
    refine XS.isub X0.here hx rfl (hb hby d6_2) rfl ?_
    show Steps p.tables e below (T0.setTop (mkF m 3 #[.val (.int x0), .val (.int x1)] [(.int (x1 - x0))])) t
    refine XS.bipush X0.here hx rfl (hb hby d6_3) ?_
    show Steps p.tables e below (T0.setTop (mkF m 5 #[.val (.int x0), .val (.int x1)] [(.int (6 : Int32)), (.int (x1 - x0))])) t
    refine XS.iushr X0.here hx rfl (hb hby d6_5) rfl ?_
    show Steps p.tables e below (T0.setTop (mkF m 6 #[.val (.int x0), .val (.int x1)] [(.int (((x1 - x0).toUInt32 >>> ((6 : Int32) &&& 31).toUInt32).toInt32))])) t
    refine XS.iconst X0.here hx rfl (hb hby d6_6) ?_
    show Steps p.tables e below (T0.setTop (mkF m 7 #[.val (.int x0), .val (.int x1)] [(.int (1 : Int32)), (.int (((x1 - x0).toUInt32 >>> ((6 : Int32) &&& 31).toUInt32).toInt32))])) t
    refine XS.iadd X0.here hx rfl (hb hby d6_7) rfl ?_
    exact k
  refine QP.cast (congrArg (fun z => some (Value.int z)) (rfl : (g6_0 x0 x1) = ((((x1 - x0).toUInt32 >>> ((6 : Int32) &&& 31).toUInt32).toInt32) + (1 : Int32)))) ?_
  exact own_retI X0 hx hlk hret (hb hby d6_8) hk hn ⟨rfl, N0, e0⟩
def f6 (x0 : Int32) (x1 : Int32) : Int32 := g6_0 x0 x1
theorem pn_6 : plainName "com/example/braid/braid/DocMerge" = true := by first | (simp [plainName, overriddenIn]; done) | decide +kernel
theorem ef_6 (m : MethodId) (x0 : Int32) (x1 : Int32) : entryFrame m #[(.int x0), (.int x1)] 2 = mkF m 0 #[.val (.int x0), .val (.int x1)] [] := by first | (simp [entryFrame, mkF, argsToLocals, Value.category]; done) | rfl
set_option maxRecDepth 65536 in
set_option maxHeartbeats 4000000 in
theorem rm6 (l : Launch) (Z : State) (a0 : Array Value) (hw : ∀ d ∈ tables_1, d.before a0 Z = true) (ws : List Jvm.Cond) (x0 : Int32) (x1 : Int32) (h0 : Heap) (n0 : Nat) :
    MetFree l (⟨"com/example/braid/braid/DocMerge", "words", "(II)I"⟩ : MethodName) (head1 (Jvm.Cond.code (⟨"com/example/braid/braid/DocMerge", "words", "(II)I"⟩ : MethodName) prog_6_method_2_code 2 (some .int) :: ws) ({ frames := 0, cells := 0, slots := 0, locals := 0 } : Room)) (fun a U => a = #[(.int x0), (.int x1)] ∧ Z.Warmed39 U.vm ∧ U.heap = h0) (fun _ _ _ _ _ => True) (fun _ U o U' => ∃ v L, o = .returned v ∧ QP (some (.int (f6 x0 x1))) h0 n0 v U'.heap L ∧ FrameEnd U o U' L ({ frames := 0, cells := 0, slots := 0, locals := 0 } : Room).cells ({ frames := 0, cells := 0, slots := 0, locals := 0 } : Room).slots) := by
  refine MetFree.of_bodySF (plainFor_of_name pn_6) hisR ?_
  intro p e s m args below meth c s₁ Bd hml0 hP hK
  obtain ⟨rfl, hZ, hh⟩ := hP
  have X0 : Stand p l e ({ frames := 0, cells := 0, slots := 0, locals := 0 } : Room) s m #[(.int x0), (.int x1)] below meth c s₁ [] 0 0 := Stand.of_body Bd
  have e0 : s₁.heap = h0 := by rw [← hh, Bd.state]; rfl
  have C : Ctx p s m meth c Z a0 "com/example/braid/braid/DocMerge" prog_6_method_2_code 2 (some .int) "words" := ⟨Bd.exec, hZ, hw, Bd.bytes, hml0, findClass_of_methodNamed Bd.named, Bd.returns, BodyLoose.notSynchronized Bd, (name_of_methodNamed Bd.named Bd.method).1⟩
  refine Runs.via (fun t k => castTop (ef_6 m x0 x1) k) (b6_0 C X0 e0 (Fr.nil n0) (Nat.le_refl 0) (Nat.le_refl 0) x0 x1)
theorem d5_0 : decode prog_6_method_3_code 0 = .ok (.iload_n 0, 1) := by decide +kernel
theorem d5_1 : decode prog_6_method_3_code 1 = .ok (.iload_n 1, 1) := by decide +kernel
theorem d5_2 : decode prog_6_method_3_code 2 = .ok (.invokestatic 34, 3) := by decide +kernel
theorem d5_5 : decode prog_6_method_3_code 5 = .ok (.i2l, 1) := by decide +kernel
theorem d5_6 : decode prog_6_method_3_code 6 = .ok (.lconst 1, 1) := by decide +kernel
theorem d5_7 : decode prog_6_method_3_code 7 = .ok (.lload_n 2, 1) := by decide +kernel
theorem d5_8 : decode prog_6_method_3_code 8 = .ok (.lmul, 1) := by decide +kernel
theorem d5_9 : decode prog_6_method_3_code 9 = .ok (.lcmp, 1) := by decide +kernel
theorem d5_10 : decode prog_6_method_3_code 10 = .ok (.ifCond .gt 7, 3) := by decide +kernel
theorem d5_13 : decode prog_6_method_3_code 13 = .ok (.iconst 1, 1) := by decide +kernel
theorem d5_14 : decode prog_6_method_3_code 14 = .ok (.goto 4, 3) := by decide +kernel
theorem d5_17 : decode prog_6_method_3_code 17 = .ok (.iconst 0, 1) := by decide +kernel
theorem d5_18 : decode prog_6_method_3_code 18 = .ok (.ireturn, 1) := by decide +kernel
def g5_0 (x0 : Int32) (x1 : Int32) (y2 : Int64) : Int32 := (if ((1 : Int64) * y2) < (Int32.toInt64 (f6 x0 x1)) then (0 : Int32) else (1 : Int32))
set_option maxRecDepth 65536 in
set_option maxHeartbeats 4000000 in
theorem b5_0 (C : Ctx p s m meth c Z a0 "com/example/braid/braid/DocMerge" prog_6_method_3_code 4 (some .boolean) "dense") (X0 : Stand p l e ({ frames := 1, cells := 0, slots := 0, locals := 13 } : Room) s m args below meth c T0 locs cells slots) (e0 : T0.heap = h0) (N0 : Fr n0 locs) (hk : cells ≤ 0) (hn : slots ≤ 0) (x0 : Int32) (x1 : Int32) (y2 : Int64) :
    Runs p e below s (QP (some (.int (g5_0 x0 x1 y2))) h0 n0) 0 0 T0 (mkF m 0 #[.val (.int x0), .val (.int x1), .val (.long y2), .second] []) := by
  have ⟨hx, hZ, hw, hby, hml, hown, hret, hlk, hnm⟩ := C
  refine Runs.via (T' := T0) (g' := (mkF m 2 #[.val (.int x0), .val (.int x1), .val (.long y2), .second] [(.int x1), (.int x0)])) (fun t k => ?_) ?_
  · show Steps p.tables e below (T0.setTop (mkF m 0 #[.val (.int x0), .val (.int x1), .val (.long y2), .second] [])) t
    refine XS.iloadN X0.here hx rfl (hb hby d5_0) rfl ?_
    show Steps p.tables e below (T0.setTop (mkF m 1 #[.val (.int x0), .val (.int x1), .val (.long y2), .second] [(.int x0)])) t
    refine XS.iloadN X0.here hx rfl (hb hby d5_1) rfl ?_
    exact k
  obtain ⟨_, _, ⟨T1, L1, k1, n1⟩, -, X1, ⟨Lc1, hQ1, l1, y1, z1⟩, st1⟩ := Jvm.LawKit.callS X0 hx (y := (⟨"com/example/braid/braid/DocMerge", "words", "(II)I"⟩ : MethodName)) hown (mvT hZ (hw _ (List.mem_of_getElem? (i := 21) rfl))) (mvT hZ (hw _ (List.mem_of_getElem? (i := 22) rfl))) (mvT hZ (hw _ (List.mem_of_getElem? (i := 19) rfl))) (mvT hZ (hw _ (List.mem_of_getElem? (i := 23) rfl))) (by decide) (backOf (W := 0) (rm6 l Z a0 hw [] x0 x1 h0 n0) hZ (hw _ (List.mem_of_getElem? (i := 23) rfl)) (hw _ (List.mem_of_getElem? (i := 19) rfl)) (by decide) (by decide)) (g := (mkF m 2 #[.val (.int x0), .val (.int x1), .val (.long y2), .second] [(.int x1), (.int x0)])) rfl (by rw [hml]; rfl) (argsL := [(.int x0), (.int x1)]) (rest := []) (lenOf pd_0 rfl) rfl (by show 2 * 0 + _ ≤ _; exact Nat.le_of_eq rfl) (hb hby d5_2) (fun _ _ => ⟨rfl, e0, (Nat.le_trans hk (by decide)), (Nat.le_trans hn (by decide))⟩)
  dsimp only [Pt.U, Pt.locs, Pt.cells, Pt.slots] at X1 l1 y1 z1 st1 hQ1
  subst l1 y1 z1
  obtain ⟨rfl, N1q, e1⟩ := hQ1
  have N1 := Fr.app N0 N1q
  refine Runs.via (T' := T1) (g' := (mkF m 5 #[.val (.int x0), .val (.int x1), .val (.long y2), .second] [(.int (f6 x0 x1))])) (fun t k => st1 _ k) ?_
  refine Runs.via (T' := T1) (g' := (mkF m 10 #[.val (.int x0), .val (.int x1), .val (.long y2), .second] [(.int (lcmpW (Int32.toInt64 (f6 x0 x1)) ((1 : Int64) * y2)))])) (fun t k => ?_) ?_
  · show Steps p.tables e below (T1.setTop (mkF m 5 #[.val (.int x0), .val (.int x1), .val (.long y2), .second] [(.int (f6 x0 x1))])) t
    refine XS.i2l X1.here hx rfl (hb hby d5_5) rfl ?_
    show Steps p.tables e below (T1.setTop (mkF m 6 #[.val (.int x0), .val (.int x1), .val (.long y2), .second] [(.long (Int32.toInt64 (f6 x0 x1)))])) t
    refine XS.lconst X1.here hx rfl (hb hby d5_6) ?_
    show Steps p.tables e below (T1.setTop (mkF m 7 #[.val (.int x0), .val (.int x1), .val (.long y2), .second] [(.long (1 : Int64)), (.long (Int32.toInt64 (f6 x0 x1)))])) t
    refine XS.lloadN X1.here hx rfl (hb hby d5_7) rfl ?_
    show Steps p.tables e below (T1.setTop (mkF m 8 #[.val (.int x0), .val (.int x1), .val (.long y2), .second] [(.long y2), (.long (1 : Int64)), (.long (Int32.toInt64 (f6 x0 x1)))])) t
    refine XS.lmul X1.here hx rfl (hb hby d5_8) rfl ?_
    show Steps p.tables e below (T1.setTop (mkF m 9 #[.val (.int x0), .val (.int x1), .val (.long y2), .second] [(.long ((1 : Int64) * y2)), (.long (Int32.toInt64 (f6 x0 x1)))])) t
    refine XS.lcmp X1.here hx rfl (hb hby d5_9) rfl ?_
    exact k
  by_cases hc2 : ((1 : Int64) * y2) < (Int32.toInt64 (f6 x0 x1))
  · refine Runs.via (T' := T1) (g' := (mkF m 17 #[.val (.int x0), .val (.int x1), .val (.long y2), .second] [])) (fun t k => ?_) ?_
    · show Steps p.tables e below (T1.setTop (mkF m 10 #[.val (.int x0), .val (.int x1), .val (.long y2), .second] [(.int (lcmpW (Int32.toInt64 (f6 x0 x1)) ((1 : Int64) * y2)))])) t
      exact XS.ifYes X1.here hx rfl (pc0 := 10) (pc' := 17) rfl (hb hby d5_10) rfl ((if0 _ _).trans (tlt ((lw_gt _ _).mpr hc2)).2.2.1) (by decide) (by decide) k
    refine Runs.via (T' := T1) (g' := (mkF m 18 #[.val (.int x0), .val (.int x1), .val (.long y2), .second] [(.int (0 : Int32))])) (fun t k => ?_) ?_
    · show Steps p.tables e below (T1.setTop (mkF m 17 #[.val (.int x0), .val (.int x1), .val (.long y2), .second] [])) t
      refine XS.iconst X1.here hx rfl (hb hby d5_17) ?_
      exact k
    refine QP.cast (congrArg (fun z => some (Value.int z)) (show (g5_0 x0 x1 y2) = (0 : Int32) from (if_pos hc2))) ?_
    exact own_retN X1 hx hlk (t := .boolean) hret (by simp) (hb hby d5_18) hk hn ⟨rfl, N1, e1⟩
  · refine Runs.via (T' := T1) (g' := (mkF m 13 #[.val (.int x0), .val (.int x1), .val (.long y2), .second] [])) (fun t k => ?_) ?_
    · show Steps p.tables e below (T1.setTop (mkF m 10 #[.val (.int x0), .val (.int x1), .val (.long y2), .second] [(.int (lcmpW (Int32.toInt64 (f6 x0 x1)) ((1 : Int64) * y2)))])) t
      exact XS.ifNo X1.here hx rfl (hb hby d5_10) rfl ((if0 _ _).trans (flt (fun q => hc2 ((lw_gt _ _).mp q))).2.2.1) k
    refine Runs.via (T' := T1) (g' := (mkF m 18 #[.val (.int x0), .val (.int x1), .val (.long y2), .second] [(.int (1 : Int32))])) (fun t k => ?_) ?_
    · show Steps p.tables e below (T1.setTop (mkF m 13 #[.val (.int x0), .val (.int x1), .val (.long y2), .second] [])) t
      refine XS.iconst X1.here hx rfl (hb hby d5_13) ?_
      show Steps p.tables e below (T1.setTop (mkF m 14 #[.val (.int x0), .val (.int x1), .val (.long y2), .second] [(.int (1 : Int32))])) t
      refine XS.goto X1.here hx rfl (pc0 := 14) (pc' := 18) rfl (hb hby d5_14) (by decide) (by decide) ?_
      exact k
    refine QP.cast (congrArg (fun z => some (Value.int z)) (show (g5_0 x0 x1 y2) = (1 : Int32) from (if_neg hc2))) ?_
    exact own_retN X1 hx hlk (t := .boolean) hret (by simp) (hb hby d5_18) hk hn ⟨rfl, N1, e1⟩
def f5 (x0 : Int32) (x1 : Int32) (y2 : Int64) : Int32 := g5_0 x0 x1 y2
theorem pn_5 : plainName "com/example/braid/braid/DocMerge" = true := by first | (simp [plainName, overriddenIn]; done) | decide +kernel
theorem ef_5 (m : MethodId) (x0 : Int32) (x1 : Int32) (y2 : Int64) : entryFrame m #[(.int x0), (.int x1), (.long y2)] 4 = mkF m 0 #[.val (.int x0), .val (.int x1), .val (.long y2), .second] [] := by first | (simp [entryFrame, mkF, argsToLocals, Value.category]; done) | rfl
set_option maxRecDepth 65536 in
set_option maxHeartbeats 4000000 in
theorem rm5 (l : Launch) (Z : State) (a0 : Array Value) (hw : ∀ d ∈ tables_1, d.before a0 Z = true) (ws : List Jvm.Cond) (x0 : Int32) (x1 : Int32) (y2 : Int64) (h0 : Heap) (n0 : Nat) :
    MetFree l (⟨"com/example/braid/braid/DocMerge", "dense", "(IIJ)Z"⟩ : MethodName) (head1 (Jvm.Cond.code (⟨"com/example/braid/braid/DocMerge", "dense", "(IIJ)Z"⟩ : MethodName) prog_6_method_3_code 4 (some .boolean) :: ws) ({ frames := 1, cells := 0, slots := 0, locals := 13 } : Room)) (fun a U => a = #[(.int x0), (.int x1), (.long y2)] ∧ Z.Warmed39 U.vm ∧ U.heap = h0) (fun _ _ _ _ _ => True) (fun _ U o U' => ∃ v L, o = .returned v ∧ QP (some (.int (f5 x0 x1 y2))) h0 n0 v U'.heap L ∧ FrameEnd U o U' L ({ frames := 1, cells := 0, slots := 0, locals := 13 } : Room).cells ({ frames := 1, cells := 0, slots := 0, locals := 13 } : Room).slots) := by
  refine MetFree.of_bodySF (plainFor_of_name pn_5) hisR ?_
  intro p e s m args below meth c s₁ Bd hml0 hP hK
  obtain ⟨rfl, hZ, hh⟩ := hP
  have X0 : Stand p l e ({ frames := 1, cells := 0, slots := 0, locals := 13 } : Room) s m #[(.int x0), (.int x1), (.long y2)] below meth c s₁ [] 0 0 := Stand.of_body Bd
  have e0 : s₁.heap = h0 := by rw [← hh, Bd.state]; rfl
  have C : Ctx p s m meth c Z a0 "com/example/braid/braid/DocMerge" prog_6_method_3_code 4 (some .boolean) "dense" := ⟨Bd.exec, hZ, hw, Bd.bytes, hml0, findClass_of_methodNamed Bd.named, Bd.returns, BodyLoose.notSynchronized Bd, (name_of_methodNamed Bd.named Bd.method).1⟩
  refine Runs.via (fun t k => castTop (ef_5 m x0 x1 y2) k) (b5_0 C X0 e0 (Fr.nil n0) (Nat.le_refl 0) (Nat.le_refl 0) x0 x1 y2)
theorem pd_2 : parseMethodDescriptor "(IIJ)Z" = some ⟨[.int, .int, .long], some .boolean⟩ := by decide +kernel
def g0_73 (y2 : Int64) (x6 : Int32) (x7 : Int32) (u0 : Int32) : Int32 := (if (f5 x6 x7 y2) = u0 then (1 : Int32) else (0 : Int32))
set_option maxRecDepth 65536 in
set_option maxHeartbeats 4000000 in
theorem b0_73 (C : Ctx p s m meth c Z a0 "com/example/braid/braid/DocMergeDensePinLaw" code 13 (some .boolean) "law") (X0 : Stand p l e room_1 s m args below meth c T0 locs cells slots) (e0 : T0.heap = h0) (N0 : Fr n0 locs) (hk : cells ≤ 0) (hn : slots ≤ 0) (x0 : Int32) (x1 : Int32) (y2 : Int64) (x4 : Int32) (x5 : Int32) (x6 : Int32) (x7 : Int32) (y8 : Int64) (y10 : Int64) (u0 : Int32) :
    Runs p e below s (QP (some (.int (g0_73 y2 x6 x7 u0))) h0 n0) 0 0 T0 (mkF m 73 #[.val (.int x0), .val (.int x1), .val (.long y2), .second, .val (.int x4), .val (.int x5), .val (.int x6), .val (.int x7), .val (.long y8), .second, .val (.long y10), .second, .unset] [(.int u0)]) := by
  have ⟨hx, hZ, hw, hby, hml, hown, hret, hlk, hnm⟩ := C
  refine Runs.via (T' := T0) (g' := (mkF m 80 #[.val (.int x0), .val (.int x1), .val (.long y2), .second, .val (.int x4), .val (.int x5), .val (.int x6), .val (.int x7), .val (.long y8), .second, .val (.long y10), .second, .val (.int u0)] [(.long y2), (.int x7), (.int x6)])) (fun t k => ?_) ?_
  · show Steps p.tables e below (T0.setTop (mkF m 73 #[.val (.int x0), .val (.int x1), .val (.long y2), .second, .val (.int x4), .val (.int x5), .val (.int x6), .val (.int x7), .val (.long y8), .second, .val (.long y10), .second, .unset] [(.int u0)])) t
    refine XS.istore X0.here hx rfl (hb hby at_73) rfl (l' := #[.val (.int x0), .val (.int x1), .val (.long y2), .second, .val (.int x4), .val (.int x5), .val (.int x6), .val (.int x7), .val (.long y8), .second, .val (.long y10), .second, .val (.int u0)]) rfl ?_
    show Steps p.tables e below (T0.setTop (mkF m 75 #[.val (.int x0), .val (.int x1), .val (.long y2), .second, .val (.int x4), .val (.int x5), .val (.int x6), .val (.int x7), .val (.long y8), .second, .val (.long y10), .second, .val (.int u0)] [])) t
    refine XS.iload X0.here hx rfl (hb hby at_75) rfl ?_
    show Steps p.tables e below (T0.setTop (mkF m 77 #[.val (.int x0), .val (.int x1), .val (.long y2), .second, .val (.int x4), .val (.int x5), .val (.int x6), .val (.int x7), .val (.long y8), .second, .val (.long y10), .second, .val (.int u0)] [(.int x6)])) t
    refine XS.iload X0.here hx rfl (hb hby at_77) rfl ?_
    show Steps p.tables e below (T0.setTop (mkF m 79 #[.val (.int x0), .val (.int x1), .val (.long y2), .second, .val (.int x4), .val (.int x5), .val (.int x6), .val (.int x7), .val (.long y8), .second, .val (.long y10), .second, .val (.int u0)] [(.int x7), (.int x6)])) t
    refine XS.lloadN X0.here hx rfl (hb hby at_79) rfl ?_
    exact k
  obtain ⟨_, _, ⟨T1, L1, k1, n1⟩, -, X1, ⟨Lc1, hQ1, l1, y1, z1⟩, st1⟩ := Jvm.LawKit.callS X0 hx (y := (⟨"com/example/braid/braid/DocMerge", "dense", "(IIJ)Z"⟩ : MethodName)) hown (mvT hZ (hw _ (List.mem_of_getElem? (i := 17) rfl))) (mvT hZ (hw _ (List.mem_of_getElem? (i := 18) rfl))) (mvT hZ (hw _ (List.mem_of_getElem? (i := 19) rfl))) (mvT hZ (hw _ (List.mem_of_getElem? (i := 20) rfl))) (by decide) (backOf (W := 0) (rm5 l Z a0 hw [] x6 x7 y2 h0 n0) hZ (hw _ (List.mem_of_getElem? (i := 20) rfl)) (hw _ (List.mem_of_getElem? (i := 19) rfl)) (by decide) (by decide)) (g := (mkF m 80 #[.val (.int x0), .val (.int x1), .val (.long y2), .second, .val (.int x4), .val (.int x5), .val (.int x6), .val (.int x7), .val (.long y8), .second, .val (.long y10), .second, .val (.int u0)] [(.long y2), (.int x7), (.int x6)])) rfl (by rw [hml]; rfl) (argsL := [(.int x6), (.int x7), (.long y2)]) (rest := []) (lenOf pd_2 rfl) rfl (by show 2 * 0 + _ ≤ _; exact Nat.le_of_eq rfl) (hb hby at_80) (fun _ _ => ⟨rfl, e0, (Nat.le_trans hk (by decide)), (Nat.le_trans hn (by decide))⟩)
  dsimp only [Pt.U, Pt.locs, Pt.cells, Pt.slots] at X1 l1 y1 z1 st1 hQ1
  subst l1 y1 z1
  obtain ⟨rfl, N1q, e1⟩ := hQ1
  have N1 := Fr.app N0 N1q
  refine Runs.via (T' := T1) (g' := (mkF m 83 #[.val (.int x0), .val (.int x1), .val (.long y2), .second, .val (.int x4), .val (.int x5), .val (.int x6), .val (.int x7), .val (.long y8), .second, .val (.long y10), .second, .val (.int u0)] [(.int (f5 x6 x7 y2))])) (fun t k => st1 _ k) ?_
  refine Runs.via (T' := T1) (g' := (mkF m 85 #[.val (.int x0), .val (.int x1), .val (.long y2), .second, .val (.int x4), .val (.int x5), .val (.int x6), .val (.int x7), .val (.long y8), .second, .val (.long y10), .second, .val (.int u0)] [(.int u0), (.int (f5 x6 x7 y2))])) (fun t k => ?_) ?_
  · show Steps p.tables e below (T1.setTop (mkF m 83 #[.val (.int x0), .val (.int x1), .val (.long y2), .second, .val (.int x4), .val (.int x5), .val (.int x6), .val (.int x7), .val (.long y8), .second, .val (.long y10), .second, .val (.int u0)] [(.int (f5 x6 x7 y2))])) t
    refine XS.iload X1.here hx rfl (hb hby at_83) rfl ?_
    exact k
  by_cases hc2 : (f5 x6 x7 y2) = u0
  · refine Runs.via (T' := T1) (g' := (mkF m 88 #[.val (.int x0), .val (.int x1), .val (.long y2), .second, .val (.int x4), .val (.int x5), .val (.int x6), .val (.int x7), .val (.long y8), .second, .val (.long y10), .second, .val (.int u0)] [])) (fun t k => ?_) ?_
    · show Steps p.tables e below (T1.setTop (mkF m 85 #[.val (.int x0), .val (.int x1), .val (.long y2), .second, .val (.int x4), .val (.int x5), .val (.int x6), .val (.int x7), .val (.long y8), .second, .val (.long y10), .second, .val (.int u0)] [(.int u0), (.int (f5 x6 x7 y2))])) t
      exact XS.icmpNo X1.here hx rfl (hb hby at_85) rfl (teq hc2).2 k
    refine Runs.via (T' := T1) (g' := (mkF m 93 #[.val (.int x0), .val (.int x1), .val (.long y2), .second, .val (.int x4), .val (.int x5), .val (.int x6), .val (.int x7), .val (.long y8), .second, .val (.long y10), .second, .val (.int u0)] [(.int (1 : Int32))])) (fun t k => ?_) ?_
    · show Steps p.tables e below (T1.setTop (mkF m 88 #[.val (.int x0), .val (.int x1), .val (.long y2), .second, .val (.int x4), .val (.int x5), .val (.int x6), .val (.int x7), .val (.long y8), .second, .val (.long y10), .second, .val (.int u0)] [])) t
      refine XS.iconst X1.here hx rfl (hb hby at_88) ?_
      show Steps p.tables e below (T1.setTop (mkF m 89 #[.val (.int x0), .val (.int x1), .val (.long y2), .second, .val (.int x4), .val (.int x5), .val (.int x6), .val (.int x7), .val (.long y8), .second, .val (.long y10), .second, .val (.int u0)] [(.int (1 : Int32))])) t
      refine XS.goto X1.here hx rfl (pc0 := 89) (pc' := 93) rfl (hb hby at_89) (by decide) (by decide) ?_
      exact k
    refine QP.cast (congrArg (fun z => some (Value.int z)) (show (g0_73 y2 x6 x7 u0) = (1 : Int32) from (if_pos hc2))) ?_
    exact own_retN X1 hx hlk (t := .boolean) hret (by simp) (hb hby at_93) hk hn ⟨rfl, N1, e1⟩
  · refine Runs.via (T' := T1) (g' := (mkF m 92 #[.val (.int x0), .val (.int x1), .val (.long y2), .second, .val (.int x4), .val (.int x5), .val (.int x6), .val (.int x7), .val (.long y8), .second, .val (.long y10), .second, .val (.int u0)] [])) (fun t k => ?_) ?_
    · show Steps p.tables e below (T1.setTop (mkF m 85 #[.val (.int x0), .val (.int x1), .val (.long y2), .second, .val (.int x4), .val (.int x5), .val (.int x6), .val (.int x7), .val (.long y8), .second, .val (.long y10), .second, .val (.int u0)] [(.int u0), (.int (f5 x6 x7 y2))])) t
      exact XS.icmpYes X1.here hx rfl (pc0 := 85) (pc' := 92) rfl (hb hby at_85) rfl (feq hc2).2 (by decide) (by decide) k
    refine Runs.via (T' := T1) (g' := (mkF m 93 #[.val (.int x0), .val (.int x1), .val (.long y2), .second, .val (.int x4), .val (.int x5), .val (.int x6), .val (.int x7), .val (.long y8), .second, .val (.long y10), .second, .val (.int u0)] [(.int (0 : Int32))])) (fun t k => ?_) ?_
    · show Steps p.tables e below (T1.setTop (mkF m 92 #[.val (.int x0), .val (.int x1), .val (.long y2), .second, .val (.int x4), .val (.int x5), .val (.int x6), .val (.int x7), .val (.long y8), .second, .val (.long y10), .second, .val (.int u0)] [])) t
      refine XS.iconst X1.here hx rfl (hb hby at_92) ?_
      exact k
    refine QP.cast (congrArg (fun z => some (Value.int z)) (show (g0_73 y2 x6 x7 u0) = (0 : Int32) from (if_neg hc2))) ?_
    exact own_retN X1 hx hlk (t := .boolean) hret (by simp) (hb hby at_93) hk hn ⟨rfl, N1, e1⟩
def g0_0 (x0 : Int32) (x1 : Int32) (y2 : Int64) : Int32 := (if ((64 : Int64) * (f4 (f3 y2 (1099511627776 : Int64)) (-1 : Int64))) < (((Int32.toInt64 (f2 (x0 &&& (2147483647 : Int32)) (x1 &&& (2147483647 : Int32)))) - (Int32.toInt64 (f1 (x0 &&& (2147483647 : Int32)) (x1 &&& (2147483647 : Int32))))) + (1 : Int64)) then (g0_73 y2 (f1 (x0 &&& (2147483647 : Int32)) (x1 &&& (2147483647 : Int32))) (f2 (x0 &&& (2147483647 : Int32)) (x1 &&& (2147483647 : Int32))) (0 : Int32)) else (g0_73 y2 (f1 (x0 &&& (2147483647 : Int32)) (x1 &&& (2147483647 : Int32))) (f2 (x0 &&& (2147483647 : Int32)) (x1 &&& (2147483647 : Int32))) (1 : Int32)))
set_option maxRecDepth 65536 in
set_option maxHeartbeats 4000000 in
theorem b0_0 (C : Ctx p s m meth c Z a0 "com/example/braid/braid/DocMergeDensePinLaw" code 13 (some .boolean) "law") (X0 : Stand p l e room_1 s m args below meth c T0 locs cells slots) (e0 : T0.heap = h0) (N0 : Fr n0 locs) (hk : cells ≤ 0) (hn : slots ≤ 0) (x0 : Int32) (x1 : Int32) (y2 : Int64) :
    Runs p e below s (QP (some (.int (g0_0 x0 x1 y2))) h0 n0) 0 0 T0 (mkF m 0 #[.val (.int x0), .val (.int x1), .val (.long y2), .second, .unset, .unset, .unset, .unset, .unset, .unset, .unset, .unset, .unset] []) := by
  have ⟨hx, hZ, hw, hby, hml, hown, hret, hlk, hnm⟩ := C
  refine Runs.via (T' := T0) (g' := (mkF m 16 #[.val (.int x0), .val (.int x1), .val (.long y2), .second, .val (.int (x0 &&& (2147483647 : Int32))), .val (.int (x1 &&& (2147483647 : Int32))), .unset, .unset, .unset, .unset, .unset, .unset, .unset] [(.int (x1 &&& (2147483647 : Int32))), (.int (x0 &&& (2147483647 : Int32)))])) (fun t k => ?_) ?_
  · show Steps p.tables e below (T0.setTop (mkF m 0 #[.val (.int x0), .val (.int x1), .val (.long y2), .second, .unset, .unset, .unset, .unset, .unset, .unset, .unset, .unset, .unset] [])) t
    refine XS.iloadN X0.here hx rfl (hb hby at_0) rfl ?_
    show Steps p.tables e below (T0.setTop (mkF m 1 #[.val (.int x0), .val (.int x1), .val (.long y2), .second, .unset, .unset, .unset, .unset, .unset, .unset, .unset, .unset, .unset] [(.int x0)])) t
    refine X0.ldcInt hx hown (mvT hZ (hw _ (List.mem_of_getElem? (i := 0) rfl))) (g := (mkF m 1 #[.val (.int x0), .val (.int x1), .val (.long y2), .second, .unset, .unset, .unset, .unset, .unset, .unset, .unset, .unset, .unset] [(.int x0)])) rfl (hb hby at_1) _ ?_
    show Steps p.tables e below (T0.setTop (mkF m 3 #[.val (.int x0), .val (.int x1), .val (.long y2), .second, .unset, .unset, .unset, .unset, .unset, .unset, .unset, .unset, .unset] [(.int (2147483647 : Int32)), (.int x0)])) t
    refine XS.iand X0.here hx rfl (hb hby at_3) rfl ?_
    show Steps p.tables e below (T0.setTop (mkF m 4 #[.val (.int x0), .val (.int x1), .val (.long y2), .second, .unset, .unset, .unset, .unset, .unset, .unset, .unset, .unset, .unset] [(.int (x0 &&& (2147483647 : Int32)))])) t
    refine XS.istore X0.here hx rfl (hb hby at_4) rfl (l' := #[.val (.int x0), .val (.int x1), .val (.long y2), .second, .val (.int (x0 &&& (2147483647 : Int32))), .unset, .unset, .unset, .unset, .unset, .unset, .unset, .unset]) rfl ?_
    show Steps p.tables e below (T0.setTop (mkF m 6 #[.val (.int x0), .val (.int x1), .val (.long y2), .second, .val (.int (x0 &&& (2147483647 : Int32))), .unset, .unset, .unset, .unset, .unset, .unset, .unset, .unset] [])) t
    refine XS.iloadN X0.here hx rfl (hb hby at_6) rfl ?_
    show Steps p.tables e below (T0.setTop (mkF m 7 #[.val (.int x0), .val (.int x1), .val (.long y2), .second, .val (.int (x0 &&& (2147483647 : Int32))), .unset, .unset, .unset, .unset, .unset, .unset, .unset, .unset] [(.int x1)])) t
    refine X0.ldcInt hx hown (mvT hZ (hw _ (List.mem_of_getElem? (i := 0) rfl))) (g := (mkF m 7 #[.val (.int x0), .val (.int x1), .val (.long y2), .second, .val (.int (x0 &&& (2147483647 : Int32))), .unset, .unset, .unset, .unset, .unset, .unset, .unset, .unset] [(.int x1)])) rfl (hb hby at_7) _ ?_
    show Steps p.tables e below (T0.setTop (mkF m 9 #[.val (.int x0), .val (.int x1), .val (.long y2), .second, .val (.int (x0 &&& (2147483647 : Int32))), .unset, .unset, .unset, .unset, .unset, .unset, .unset, .unset] [(.int (2147483647 : Int32)), (.int x1)])) t
    refine XS.iand X0.here hx rfl (hb hby at_9) rfl ?_
    show Steps p.tables e below (T0.setTop (mkF m 10 #[.val (.int x0), .val (.int x1), .val (.long y2), .second, .val (.int (x0 &&& (2147483647 : Int32))), .unset, .unset, .unset, .unset, .unset, .unset, .unset, .unset] [(.int (x1 &&& (2147483647 : Int32)))])) t
    refine XS.istore X0.here hx rfl (hb hby at_10) rfl (l' := #[.val (.int x0), .val (.int x1), .val (.long y2), .second, .val (.int (x0 &&& (2147483647 : Int32))), .val (.int (x1 &&& (2147483647 : Int32))), .unset, .unset, .unset, .unset, .unset, .unset, .unset]) rfl ?_
    show Steps p.tables e below (T0.setTop (mkF m 12 #[.val (.int x0), .val (.int x1), .val (.long y2), .second, .val (.int (x0 &&& (2147483647 : Int32))), .val (.int (x1 &&& (2147483647 : Int32))), .unset, .unset, .unset, .unset, .unset, .unset, .unset] [])) t
    refine XS.iload X0.here hx rfl (hb hby at_12) rfl ?_
    show Steps p.tables e below (T0.setTop (mkF m 14 #[.val (.int x0), .val (.int x1), .val (.long y2), .second, .val (.int (x0 &&& (2147483647 : Int32))), .val (.int (x1 &&& (2147483647 : Int32))), .unset, .unset, .unset, .unset, .unset, .unset, .unset] [(.int (x0 &&& (2147483647 : Int32)))])) t
    refine XS.iload X0.here hx rfl (hb hby at_14) rfl ?_
    exact k
  obtain ⟨_, _, ⟨T1, L1, k1, n1⟩, -, X1, ⟨Lc1, hQ1, l1, y1, z1⟩, st1⟩ := Jvm.LawKit.callS X0 hx (y := (⟨"java/lang/Math", "min", "(II)I"⟩ : MethodName)) hown (mvT hZ (hw _ (List.mem_of_getElem? (i := 1) rfl))) (mvT hZ (hw _ (List.mem_of_getElem? (i := 2) rfl))) (mvT hZ (hw _ (List.mem_of_getElem? (i := 3) rfl))) (mvT hZ (hw _ (List.mem_of_getElem? (i := 4) rfl))) (by decide) (backOf (W := 0) (rm1 l Z a0 hw [] (x0 &&& (2147483647 : Int32)) (x1 &&& (2147483647 : Int32)) h0 n0) hZ (hw _ (List.mem_of_getElem? (i := 4) rfl)) (hw _ (List.mem_of_getElem? (i := 3) rfl)) (by decide) (by decide)) (g := (mkF m 16 #[.val (.int x0), .val (.int x1), .val (.long y2), .second, .val (.int (x0 &&& (2147483647 : Int32))), .val (.int (x1 &&& (2147483647 : Int32))), .unset, .unset, .unset, .unset, .unset, .unset, .unset] [(.int (x1 &&& (2147483647 : Int32))), (.int (x0 &&& (2147483647 : Int32)))])) rfl (by rw [hml]; rfl) (argsL := [(.int (x0 &&& (2147483647 : Int32))), (.int (x1 &&& (2147483647 : Int32)))]) (rest := []) (lenOf pd_0 rfl) rfl (by show 2 * 0 + _ ≤ _; exact Nat.le_of_eq rfl) (hb hby at_16) (fun _ _ => ⟨rfl, e0, (Nat.le_trans hk (by decide)), (Nat.le_trans hn (by decide))⟩)
  dsimp only [Pt.U, Pt.locs, Pt.cells, Pt.slots] at X1 l1 y1 z1 st1 hQ1
  subst l1 y1 z1
  obtain ⟨rfl, N1q, e1⟩ := hQ1
  have N1 := Fr.app N0 N1q
  refine Runs.via (T' := T1) (g' := (mkF m 19 #[.val (.int x0), .val (.int x1), .val (.long y2), .second, .val (.int (x0 &&& (2147483647 : Int32))), .val (.int (x1 &&& (2147483647 : Int32))), .unset, .unset, .unset, .unset, .unset, .unset, .unset] [(.int (f1 (x0 &&& (2147483647 : Int32)) (x1 &&& (2147483647 : Int32))))])) (fun t k => st1 _ k) ?_
  refine Runs.via (T' := T1) (g' := (mkF m 25 #[.val (.int x0), .val (.int x1), .val (.long y2), .second, .val (.int (x0 &&& (2147483647 : Int32))), .val (.int (x1 &&& (2147483647 : Int32))), .val (.int (f1 (x0 &&& (2147483647 : Int32)) (x1 &&& (2147483647 : Int32)))), .unset, .unset, .unset, .unset, .unset, .unset] [(.int (x1 &&& (2147483647 : Int32))), (.int (x0 &&& (2147483647 : Int32)))])) (fun t k => ?_) ?_
  · show Steps p.tables e below (T1.setTop (mkF m 19 #[.val (.int x0), .val (.int x1), .val (.long y2), .second, .val (.int (x0 &&& (2147483647 : Int32))), .val (.int (x1 &&& (2147483647 : Int32))), .unset, .unset, .unset, .unset, .unset, .unset, .unset] [(.int (f1 (x0 &&& (2147483647 : Int32)) (x1 &&& (2147483647 : Int32))))])) t
    refine XS.istore X1.here hx rfl (hb hby at_19) rfl (l' := #[.val (.int x0), .val (.int x1), .val (.long y2), .second, .val (.int (x0 &&& (2147483647 : Int32))), .val (.int (x1 &&& (2147483647 : Int32))), .val (.int (f1 (x0 &&& (2147483647 : Int32)) (x1 &&& (2147483647 : Int32)))), .unset, .unset, .unset, .unset, .unset, .unset]) rfl ?_
    show Steps p.tables e below (T1.setTop (mkF m 21 #[.val (.int x0), .val (.int x1), .val (.long y2), .second, .val (.int (x0 &&& (2147483647 : Int32))), .val (.int (x1 &&& (2147483647 : Int32))), .val (.int (f1 (x0 &&& (2147483647 : Int32)) (x1 &&& (2147483647 : Int32)))), .unset, .unset, .unset, .unset, .unset, .unset] [])) t
    refine XS.iload X1.here hx rfl (hb hby at_21) rfl ?_
    show Steps p.tables e below (T1.setTop (mkF m 23 #[.val (.int x0), .val (.int x1), .val (.long y2), .second, .val (.int (x0 &&& (2147483647 : Int32))), .val (.int (x1 &&& (2147483647 : Int32))), .val (.int (f1 (x0 &&& (2147483647 : Int32)) (x1 &&& (2147483647 : Int32)))), .unset, .unset, .unset, .unset, .unset, .unset] [(.int (x0 &&& (2147483647 : Int32)))])) t
    refine XS.iload X1.here hx rfl (hb hby at_23) rfl ?_
    exact k
  obtain ⟨_, _, ⟨T2, L2, k2, n2⟩, -, X2, ⟨Lc2, hQ2, l2, y2, z2⟩, st2⟩ := Jvm.LawKit.callS X1 hx (y := (⟨"java/lang/Math", "max", "(II)I"⟩ : MethodName)) hown (mvT hZ (hw _ (List.mem_of_getElem? (i := 5) rfl))) (mvT hZ (hw _ (List.mem_of_getElem? (i := 6) rfl))) (mvT hZ (hw _ (List.mem_of_getElem? (i := 3) rfl))) (mvT hZ (hw _ (List.mem_of_getElem? (i := 7) rfl))) (by decide) (backOf (W := 0) (rm2 l Z a0 hw [] (x0 &&& (2147483647 : Int32)) (x1 &&& (2147483647 : Int32)) h0 n0) hZ (hw _ (List.mem_of_getElem? (i := 7) rfl)) (hw _ (List.mem_of_getElem? (i := 3) rfl)) (by decide) (by decide)) (g := (mkF m 25 #[.val (.int x0), .val (.int x1), .val (.long y2), .second, .val (.int (x0 &&& (2147483647 : Int32))), .val (.int (x1 &&& (2147483647 : Int32))), .val (.int (f1 (x0 &&& (2147483647 : Int32)) (x1 &&& (2147483647 : Int32)))), .unset, .unset, .unset, .unset, .unset, .unset] [(.int (x1 &&& (2147483647 : Int32))), (.int (x0 &&& (2147483647 : Int32)))])) rfl (by rw [hml]; rfl) (argsL := [(.int (x0 &&& (2147483647 : Int32))), (.int (x1 &&& (2147483647 : Int32)))]) (rest := []) (lenOf pd_0 rfl) rfl (by show 2 * 0 + _ ≤ _; exact Nat.le_of_eq rfl) (hb hby at_25) (fun _ _ => ⟨rfl, e1, (Nat.le_trans hk (by decide)), (Nat.le_trans hn (by decide))⟩)
  dsimp only [Pt.U, Pt.locs, Pt.cells, Pt.slots] at X2 l2 y2 z2 st2 hQ2
  subst l2 y2 z2
  obtain ⟨rfl, N2q, e2⟩ := hQ2
  have N2 := Fr.app N1 N2q
  refine Runs.via (T' := T2) (g' := (mkF m 28 #[.val (.int x0), .val (.int x1), .val (.long y2), .second, .val (.int (x0 &&& (2147483647 : Int32))), .val (.int (x1 &&& (2147483647 : Int32))), .val (.int (f1 (x0 &&& (2147483647 : Int32)) (x1 &&& (2147483647 : Int32)))), .unset, .unset, .unset, .unset, .unset, .unset] [(.int (f2 (x0 &&& (2147483647 : Int32)) (x1 &&& (2147483647 : Int32))))])) (fun t k => st2 _ k) ?_
  refine Runs.via (T' := T2) (g' := (mkF m 45 #[.val (.int x0), .val (.int x1), .val (.long y2), .second, .val (.int (x0 &&& (2147483647 : Int32))), .val (.int (x1 &&& (2147483647 : Int32))), .val (.int (f1 (x0 &&& (2147483647 : Int32)) (x1 &&& (2147483647 : Int32)))), .val (.int (f2 (x0 &&& (2147483647 : Int32)) (x1 &&& (2147483647 : Int32)))), .val (.long (((Int32.toInt64 (f2 (x0 &&& (2147483647 : Int32)) (x1 &&& (2147483647 : Int32)))) - (Int32.toInt64 (f1 (x0 &&& (2147483647 : Int32)) (x1 &&& (2147483647 : Int32))))) + (1 : Int64))), .second, .unset, .unset, .unset] [(.long (1099511627776 : Int64)), (.long y2)])) (fun t k => ?_) ?_
  · show Steps p.tables e below (T2.setTop (mkF m 28 #[.val (.int x0), .val (.int x1), .val (.long y2), .second, .val (.int (x0 &&& (2147483647 : Int32))), .val (.int (x1 &&& (2147483647 : Int32))), .val (.int (f1 (x0 &&& (2147483647 : Int32)) (x1 &&& (2147483647 : Int32)))), .unset, .unset, .unset, .unset, .unset, .unset] [(.int (f2 (x0 &&& (2147483647 : Int32)) (x1 &&& (2147483647 : Int32))))])) t
    refine XS.istore X2.here hx rfl (hb hby at_28) rfl (l' := #[.val (.int x0), .val (.int x1), .val (.long y2), .second, .val (.int (x0 &&& (2147483647 : Int32))), .val (.int (x1 &&& (2147483647 : Int32))), .val (.int (f1 (x0 &&& (2147483647 : Int32)) (x1 &&& (2147483647 : Int32)))), .val (.int (f2 (x0 &&& (2147483647 : Int32)) (x1 &&& (2147483647 : Int32)))), .unset, .unset, .unset, .unset, .unset]) rfl ?_
    show Steps p.tables e below (T2.setTop (mkF m 30 #[.val (.int x0), .val (.int x1), .val (.long y2), .second, .val (.int (x0 &&& (2147483647 : Int32))), .val (.int (x1 &&& (2147483647 : Int32))), .val (.int (f1 (x0 &&& (2147483647 : Int32)) (x1 &&& (2147483647 : Int32)))), .val (.int (f2 (x0 &&& (2147483647 : Int32)) (x1 &&& (2147483647 : Int32)))), .unset, .unset, .unset, .unset, .unset] [])) t
    refine XS.iload X2.here hx rfl (hb hby at_30) rfl ?_
    show Steps p.tables e below (T2.setTop (mkF m 32 #[.val (.int x0), .val (.int x1), .val (.long y2), .second, .val (.int (x0 &&& (2147483647 : Int32))), .val (.int (x1 &&& (2147483647 : Int32))), .val (.int (f1 (x0 &&& (2147483647 : Int32)) (x1 &&& (2147483647 : Int32)))), .val (.int (f2 (x0 &&& (2147483647 : Int32)) (x1 &&& (2147483647 : Int32)))), .unset, .unset, .unset, .unset, .unset] [(.int (f2 (x0 &&& (2147483647 : Int32)) (x1 &&& (2147483647 : Int32))))])) t
    refine XS.i2l X2.here hx rfl (hb hby at_32) rfl ?_
    show Steps p.tables e below (T2.setTop (mkF m 33 #[.val (.int x0), .val (.int x1), .val (.long y2), .second, .val (.int (x0 &&& (2147483647 : Int32))), .val (.int (x1 &&& (2147483647 : Int32))), .val (.int (f1 (x0 &&& (2147483647 : Int32)) (x1 &&& (2147483647 : Int32)))), .val (.int (f2 (x0 &&& (2147483647 : Int32)) (x1 &&& (2147483647 : Int32)))), .unset, .unset, .unset, .unset, .unset] [(.long (Int32.toInt64 (f2 (x0 &&& (2147483647 : Int32)) (x1 &&& (2147483647 : Int32)))))])) t
    refine XS.iload X2.here hx rfl (hb hby at_33) rfl ?_
    show Steps p.tables e below (T2.setTop (mkF m 35 #[.val (.int x0), .val (.int x1), .val (.long y2), .second, .val (.int (x0 &&& (2147483647 : Int32))), .val (.int (x1 &&& (2147483647 : Int32))), .val (.int (f1 (x0 &&& (2147483647 : Int32)) (x1 &&& (2147483647 : Int32)))), .val (.int (f2 (x0 &&& (2147483647 : Int32)) (x1 &&& (2147483647 : Int32)))), .unset, .unset, .unset, .unset, .unset] [(.int (f1 (x0 &&& (2147483647 : Int32)) (x1 &&& (2147483647 : Int32)))), (.long (Int32.toInt64 (f2 (x0 &&& (2147483647 : Int32)) (x1 &&& (2147483647 : Int32)))))])) t
    refine XS.i2l X2.here hx rfl (hb hby at_35) rfl ?_
    show Steps p.tables e below (T2.setTop (mkF m 36 #[.val (.int x0), .val (.int x1), .val (.long y2), .second, .val (.int (x0 &&& (2147483647 : Int32))), .val (.int (x1 &&& (2147483647 : Int32))), .val (.int (f1 (x0 &&& (2147483647 : Int32)) (x1 &&& (2147483647 : Int32)))), .val (.int (f2 (x0 &&& (2147483647 : Int32)) (x1 &&& (2147483647 : Int32)))), .unset, .unset, .unset, .unset, .unset] [(.long (Int32.toInt64 (f1 (x0 &&& (2147483647 : Int32)) (x1 &&& (2147483647 : Int32))))), (.long (Int32.toInt64 (f2 (x0 &&& (2147483647 : Int32)) (x1 &&& (2147483647 : Int32)))))])) t
    refine XS.lsub X2.here hx rfl (hb hby at_36) rfl ?_
    show Steps p.tables e below (T2.setTop (mkF m 37 #[.val (.int x0), .val (.int x1), .val (.long y2), .second, .val (.int (x0 &&& (2147483647 : Int32))), .val (.int (x1 &&& (2147483647 : Int32))), .val (.int (f1 (x0 &&& (2147483647 : Int32)) (x1 &&& (2147483647 : Int32)))), .val (.int (f2 (x0 &&& (2147483647 : Int32)) (x1 &&& (2147483647 : Int32)))), .unset, .unset, .unset, .unset, .unset] [(.long ((Int32.toInt64 (f2 (x0 &&& (2147483647 : Int32)) (x1 &&& (2147483647 : Int32)))) - (Int32.toInt64 (f1 (x0 &&& (2147483647 : Int32)) (x1 &&& (2147483647 : Int32))))))])) t
    refine XS.lconst X2.here hx rfl (hb hby at_37) ?_
    show Steps p.tables e below (T2.setTop (mkF m 38 #[.val (.int x0), .val (.int x1), .val (.long y2), .second, .val (.int (x0 &&& (2147483647 : Int32))), .val (.int (x1 &&& (2147483647 : Int32))), .val (.int (f1 (x0 &&& (2147483647 : Int32)) (x1 &&& (2147483647 : Int32)))), .val (.int (f2 (x0 &&& (2147483647 : Int32)) (x1 &&& (2147483647 : Int32)))), .unset, .unset, .unset, .unset, .unset] [(.long (1 : Int64)), (.long ((Int32.toInt64 (f2 (x0 &&& (2147483647 : Int32)) (x1 &&& (2147483647 : Int32)))) - (Int32.toInt64 (f1 (x0 &&& (2147483647 : Int32)) (x1 &&& (2147483647 : Int32))))))])) t
    refine XS.ladd X2.here hx rfl (hb hby at_38) rfl ?_
    show Steps p.tables e below (T2.setTop (mkF m 39 #[.val (.int x0), .val (.int x1), .val (.long y2), .second, .val (.int (x0 &&& (2147483647 : Int32))), .val (.int (x1 &&& (2147483647 : Int32))), .val (.int (f1 (x0 &&& (2147483647 : Int32)) (x1 &&& (2147483647 : Int32)))), .val (.int (f2 (x0 &&& (2147483647 : Int32)) (x1 &&& (2147483647 : Int32)))), .unset, .unset, .unset, .unset, .unset] [(.long (((Int32.toInt64 (f2 (x0 &&& (2147483647 : Int32)) (x1 &&& (2147483647 : Int32)))) - (Int32.toInt64 (f1 (x0 &&& (2147483647 : Int32)) (x1 &&& (2147483647 : Int32))))) + (1 : Int64)))])) t
    refine XS.lstore X2.here hx rfl (hb hby at_39) rfl (l' := #[.val (.int x0), .val (.int x1), .val (.long y2), .second, .val (.int (x0 &&& (2147483647 : Int32))), .val (.int (x1 &&& (2147483647 : Int32))), .val (.int (f1 (x0 &&& (2147483647 : Int32)) (x1 &&& (2147483647 : Int32)))), .val (.int (f2 (x0 &&& (2147483647 : Int32)) (x1 &&& (2147483647 : Int32)))), .val (.long (((Int32.toInt64 (f2 (x0 &&& (2147483647 : Int32)) (x1 &&& (2147483647 : Int32)))) - (Int32.toInt64 (f1 (x0 &&& (2147483647 : Int32)) (x1 &&& (2147483647 : Int32))))) + (1 : Int64))), .second, .unset, .unset, .unset]) rfl ?_
    show Steps p.tables e below (T2.setTop (mkF m 41 #[.val (.int x0), .val (.int x1), .val (.long y2), .second, .val (.int (x0 &&& (2147483647 : Int32))), .val (.int (x1 &&& (2147483647 : Int32))), .val (.int (f1 (x0 &&& (2147483647 : Int32)) (x1 &&& (2147483647 : Int32)))), .val (.int (f2 (x0 &&& (2147483647 : Int32)) (x1 &&& (2147483647 : Int32)))), .val (.long (((Int32.toInt64 (f2 (x0 &&& (2147483647 : Int32)) (x1 &&& (2147483647 : Int32)))) - (Int32.toInt64 (f1 (x0 &&& (2147483647 : Int32)) (x1 &&& (2147483647 : Int32))))) + (1 : Int64))), .second, .unset, .unset, .unset] [])) t
    refine XS.lloadN X2.here hx rfl (hb hby at_41) rfl ?_
    show Steps p.tables e below (T2.setTop (mkF m 42 #[.val (.int x0), .val (.int x1), .val (.long y2), .second, .val (.int (x0 &&& (2147483647 : Int32))), .val (.int (x1 &&& (2147483647 : Int32))), .val (.int (f1 (x0 &&& (2147483647 : Int32)) (x1 &&& (2147483647 : Int32)))), .val (.int (f2 (x0 &&& (2147483647 : Int32)) (x1 &&& (2147483647 : Int32)))), .val (.long (((Int32.toInt64 (f2 (x0 &&& (2147483647 : Int32)) (x1 &&& (2147483647 : Int32)))) - (Int32.toInt64 (f1 (x0 &&& (2147483647 : Int32)) (x1 &&& (2147483647 : Int32))))) + (1 : Int64))), .second, .unset, .unset, .unset] [(.long y2)])) t
    refine X2.ldc2Long hx hown (mvT hZ (hw _ (List.mem_of_getElem? (i := 8) rfl))) (g := (mkF m 42 #[.val (.int x0), .val (.int x1), .val (.long y2), .second, .val (.int (x0 &&& (2147483647 : Int32))), .val (.int (x1 &&& (2147483647 : Int32))), .val (.int (f1 (x0 &&& (2147483647 : Int32)) (x1 &&& (2147483647 : Int32)))), .val (.int (f2 (x0 &&& (2147483647 : Int32)) (x1 &&& (2147483647 : Int32)))), .val (.long (((Int32.toInt64 (f2 (x0 &&& (2147483647 : Int32)) (x1 &&& (2147483647 : Int32)))) - (Int32.toInt64 (f1 (x0 &&& (2147483647 : Int32)) (x1 &&& (2147483647 : Int32))))) + (1 : Int64))), .second, .unset, .unset, .unset] [(.long y2)])) rfl (hb hby at_42) _ ?_
    exact k
  obtain ⟨_, _, ⟨T3, L3, k3, n3⟩, -, X3, ⟨Lc3, hQ3, l3, y3, z3⟩, st3⟩ := Jvm.LawKit.callS X2 hx (y := (⟨"java/lang/Math", "min", "(JJ)J"⟩ : MethodName)) hown (mvT hZ (hw _ (List.mem_of_getElem? (i := 9) rfl))) (mvT hZ (hw _ (List.mem_of_getElem? (i := 10) rfl))) (mvT hZ (hw _ (List.mem_of_getElem? (i := 3) rfl))) (mvT hZ (hw _ (List.mem_of_getElem? (i := 11) rfl))) (by decide) (backOf (W := 0) (rm3 l Z a0 hw [] y2 (1099511627776 : Int64) h0 n0) hZ (hw _ (List.mem_of_getElem? (i := 11) rfl)) (hw _ (List.mem_of_getElem? (i := 3) rfl)) (by decide) (by decide)) (g := (mkF m 45 #[.val (.int x0), .val (.int x1), .val (.long y2), .second, .val (.int (x0 &&& (2147483647 : Int32))), .val (.int (x1 &&& (2147483647 : Int32))), .val (.int (f1 (x0 &&& (2147483647 : Int32)) (x1 &&& (2147483647 : Int32)))), .val (.int (f2 (x0 &&& (2147483647 : Int32)) (x1 &&& (2147483647 : Int32)))), .val (.long (((Int32.toInt64 (f2 (x0 &&& (2147483647 : Int32)) (x1 &&& (2147483647 : Int32)))) - (Int32.toInt64 (f1 (x0 &&& (2147483647 : Int32)) (x1 &&& (2147483647 : Int32))))) + (1 : Int64))), .second, .unset, .unset, .unset] [(.long (1099511627776 : Int64)), (.long y2)])) rfl (by rw [hml]; rfl) (argsL := [(.long y2), (.long (1099511627776 : Int64))]) (rest := []) (lenOf pd_1 rfl) rfl (by show 2 * 0 + _ ≤ _; exact Nat.le_of_eq rfl) (hb hby at_45) (fun _ _ => ⟨rfl, e2, (Nat.le_trans hk (by decide)), (Nat.le_trans hn (by decide))⟩)
  dsimp only [Pt.U, Pt.locs, Pt.cells, Pt.slots] at X3 l3 y3 z3 st3 hQ3
  subst l3 y3 z3
  obtain ⟨rfl, N3q, e3⟩ := hQ3
  have N3 := Fr.app N2 N3q
  refine Runs.via (T' := T3) (g' := (mkF m 48 #[.val (.int x0), .val (.int x1), .val (.long y2), .second, .val (.int (x0 &&& (2147483647 : Int32))), .val (.int (x1 &&& (2147483647 : Int32))), .val (.int (f1 (x0 &&& (2147483647 : Int32)) (x1 &&& (2147483647 : Int32)))), .val (.int (f2 (x0 &&& (2147483647 : Int32)) (x1 &&& (2147483647 : Int32)))), .val (.long (((Int32.toInt64 (f2 (x0 &&& (2147483647 : Int32)) (x1 &&& (2147483647 : Int32)))) - (Int32.toInt64 (f1 (x0 &&& (2147483647 : Int32)) (x1 &&& (2147483647 : Int32))))) + (1 : Int64))), .second, .unset, .unset, .unset] [(.long (f3 y2 (1099511627776 : Int64)))])) (fun t k => st3 _ k) ?_
  refine Runs.via (T' := T3) (g' := (mkF m 51 #[.val (.int x0), .val (.int x1), .val (.long y2), .second, .val (.int (x0 &&& (2147483647 : Int32))), .val (.int (x1 &&& (2147483647 : Int32))), .val (.int (f1 (x0 &&& (2147483647 : Int32)) (x1 &&& (2147483647 : Int32)))), .val (.int (f2 (x0 &&& (2147483647 : Int32)) (x1 &&& (2147483647 : Int32)))), .val (.long (((Int32.toInt64 (f2 (x0 &&& (2147483647 : Int32)) (x1 &&& (2147483647 : Int32)))) - (Int32.toInt64 (f1 (x0 &&& (2147483647 : Int32)) (x1 &&& (2147483647 : Int32))))) + (1 : Int64))), .second, .unset, .unset, .unset] [(.long (-1 : Int64)), (.long (f3 y2 (1099511627776 : Int64)))])) (fun t k => ?_) ?_
  · show Steps p.tables e below (T3.setTop (mkF m 48 #[.val (.int x0), .val (.int x1), .val (.long y2), .second, .val (.int (x0 &&& (2147483647 : Int32))), .val (.int (x1 &&& (2147483647 : Int32))), .val (.int (f1 (x0 &&& (2147483647 : Int32)) (x1 &&& (2147483647 : Int32)))), .val (.int (f2 (x0 &&& (2147483647 : Int32)) (x1 &&& (2147483647 : Int32)))), .val (.long (((Int32.toInt64 (f2 (x0 &&& (2147483647 : Int32)) (x1 &&& (2147483647 : Int32)))) - (Int32.toInt64 (f1 (x0 &&& (2147483647 : Int32)) (x1 &&& (2147483647 : Int32))))) + (1 : Int64))), .second, .unset, .unset, .unset] [(.long (f3 y2 (1099511627776 : Int64)))])) t
    refine X3.ldc2Long hx hown (mvT hZ (hw _ (List.mem_of_getElem? (i := 12) rfl))) (g := (mkF m 48 #[.val (.int x0), .val (.int x1), .val (.long y2), .second, .val (.int (x0 &&& (2147483647 : Int32))), .val (.int (x1 &&& (2147483647 : Int32))), .val (.int (f1 (x0 &&& (2147483647 : Int32)) (x1 &&& (2147483647 : Int32)))), .val (.int (f2 (x0 &&& (2147483647 : Int32)) (x1 &&& (2147483647 : Int32)))), .val (.long (((Int32.toInt64 (f2 (x0 &&& (2147483647 : Int32)) (x1 &&& (2147483647 : Int32)))) - (Int32.toInt64 (f1 (x0 &&& (2147483647 : Int32)) (x1 &&& (2147483647 : Int32))))) + (1 : Int64))), .second, .unset, .unset, .unset] [(.long (f3 y2 (1099511627776 : Int64)))])) rfl (hb hby at_48) _ ?_
    exact k
  obtain ⟨_, _, ⟨T4, L4, k4, n4⟩, -, X4, ⟨Lc4, hQ4, l4, y4, z4⟩, st4⟩ := Jvm.LawKit.callS X3 hx (y := (⟨"java/lang/Math", "max", "(JJ)J"⟩ : MethodName)) hown (mvT hZ (hw _ (List.mem_of_getElem? (i := 13) rfl))) (mvT hZ (hw _ (List.mem_of_getElem? (i := 14) rfl))) (mvT hZ (hw _ (List.mem_of_getElem? (i := 3) rfl))) (mvT hZ (hw _ (List.mem_of_getElem? (i := 15) rfl))) (by decide) (backOf (W := 0) (rm4 l Z a0 hw [] (f3 y2 (1099511627776 : Int64)) (-1 : Int64) h0 n0) hZ (hw _ (List.mem_of_getElem? (i := 15) rfl)) (hw _ (List.mem_of_getElem? (i := 3) rfl)) (by decide) (by decide)) (g := (mkF m 51 #[.val (.int x0), .val (.int x1), .val (.long y2), .second, .val (.int (x0 &&& (2147483647 : Int32))), .val (.int (x1 &&& (2147483647 : Int32))), .val (.int (f1 (x0 &&& (2147483647 : Int32)) (x1 &&& (2147483647 : Int32)))), .val (.int (f2 (x0 &&& (2147483647 : Int32)) (x1 &&& (2147483647 : Int32)))), .val (.long (((Int32.toInt64 (f2 (x0 &&& (2147483647 : Int32)) (x1 &&& (2147483647 : Int32)))) - (Int32.toInt64 (f1 (x0 &&& (2147483647 : Int32)) (x1 &&& (2147483647 : Int32))))) + (1 : Int64))), .second, .unset, .unset, .unset] [(.long (-1 : Int64)), (.long (f3 y2 (1099511627776 : Int64)))])) rfl (by rw [hml]; rfl) (argsL := [(.long (f3 y2 (1099511627776 : Int64))), (.long (-1 : Int64))]) (rest := []) (lenOf pd_1 rfl) rfl (by show 2 * 0 + _ ≤ _; exact Nat.le_of_eq rfl) (hb hby at_51) (fun _ _ => ⟨rfl, e3, (Nat.le_trans hk (by decide)), (Nat.le_trans hn (by decide))⟩)
  dsimp only [Pt.U, Pt.locs, Pt.cells, Pt.slots] at X4 l4 y4 z4 st4 hQ4
  subst l4 y4 z4
  obtain ⟨rfl, N4q, e4⟩ := hQ4
  have N4 := Fr.app N3 N4q
  refine Runs.via (T' := T4) (g' := (mkF m 54 #[.val (.int x0), .val (.int x1), .val (.long y2), .second, .val (.int (x0 &&& (2147483647 : Int32))), .val (.int (x1 &&& (2147483647 : Int32))), .val (.int (f1 (x0 &&& (2147483647 : Int32)) (x1 &&& (2147483647 : Int32)))), .val (.int (f2 (x0 &&& (2147483647 : Int32)) (x1 &&& (2147483647 : Int32)))), .val (.long (((Int32.toInt64 (f2 (x0 &&& (2147483647 : Int32)) (x1 &&& (2147483647 : Int32)))) - (Int32.toInt64 (f1 (x0 &&& (2147483647 : Int32)) (x1 &&& (2147483647 : Int32))))) + (1 : Int64))), .second, .unset, .unset, .unset] [(.long (f4 (f3 y2 (1099511627776 : Int64)) (-1 : Int64)))])) (fun t k => st4 _ k) ?_
  refine Runs.via (T' := T4) (g' := (mkF m 65 #[.val (.int x0), .val (.int x1), .val (.long y2), .second, .val (.int (x0 &&& (2147483647 : Int32))), .val (.int (x1 &&& (2147483647 : Int32))), .val (.int (f1 (x0 &&& (2147483647 : Int32)) (x1 &&& (2147483647 : Int32)))), .val (.int (f2 (x0 &&& (2147483647 : Int32)) (x1 &&& (2147483647 : Int32)))), .val (.long (((Int32.toInt64 (f2 (x0 &&& (2147483647 : Int32)) (x1 &&& (2147483647 : Int32)))) - (Int32.toInt64 (f1 (x0 &&& (2147483647 : Int32)) (x1 &&& (2147483647 : Int32))))) + (1 : Int64))), .second, .val (.long (f4 (f3 y2 (1099511627776 : Int64)) (-1 : Int64))), .second, .unset] [(.int (lcmpW (((Int32.toInt64 (f2 (x0 &&& (2147483647 : Int32)) (x1 &&& (2147483647 : Int32)))) - (Int32.toInt64 (f1 (x0 &&& (2147483647 : Int32)) (x1 &&& (2147483647 : Int32))))) + (1 : Int64)) ((64 : Int64) * (f4 (f3 y2 (1099511627776 : Int64)) (-1 : Int64)))))])) (fun t k => ?_) ?_
  · show Steps p.tables e below (T4.setTop (mkF m 54 #[.val (.int x0), .val (.int x1), .val (.long y2), .second, .val (.int (x0 &&& (2147483647 : Int32))), .val (.int (x1 &&& (2147483647 : Int32))), .val (.int (f1 (x0 &&& (2147483647 : Int32)) (x1 &&& (2147483647 : Int32)))), .val (.int (f2 (x0 &&& (2147483647 : Int32)) (x1 &&& (2147483647 : Int32)))), .val (.long (((Int32.toInt64 (f2 (x0 &&& (2147483647 : Int32)) (x1 &&& (2147483647 : Int32)))) - (Int32.toInt64 (f1 (x0 &&& (2147483647 : Int32)) (x1 &&& (2147483647 : Int32))))) + (1 : Int64))), .second, .unset, .unset, .unset] [(.long (f4 (f3 y2 (1099511627776 : Int64)) (-1 : Int64)))])) t
    refine XS.lstore X4.here hx rfl (hb hby at_54) rfl (l' := #[.val (.int x0), .val (.int x1), .val (.long y2), .second, .val (.int (x0 &&& (2147483647 : Int32))), .val (.int (x1 &&& (2147483647 : Int32))), .val (.int (f1 (x0 &&& (2147483647 : Int32)) (x1 &&& (2147483647 : Int32)))), .val (.int (f2 (x0 &&& (2147483647 : Int32)) (x1 &&& (2147483647 : Int32)))), .val (.long (((Int32.toInt64 (f2 (x0 &&& (2147483647 : Int32)) (x1 &&& (2147483647 : Int32)))) - (Int32.toInt64 (f1 (x0 &&& (2147483647 : Int32)) (x1 &&& (2147483647 : Int32))))) + (1 : Int64))), .second, .val (.long (f4 (f3 y2 (1099511627776 : Int64)) (-1 : Int64))), .second, .unset]) rfl ?_
    show Steps p.tables e below (T4.setTop (mkF m 56 #[.val (.int x0), .val (.int x1), .val (.long y2), .second, .val (.int (x0 &&& (2147483647 : Int32))), .val (.int (x1 &&& (2147483647 : Int32))), .val (.int (f1 (x0 &&& (2147483647 : Int32)) (x1 &&& (2147483647 : Int32)))), .val (.int (f2 (x0 &&& (2147483647 : Int32)) (x1 &&& (2147483647 : Int32)))), .val (.long (((Int32.toInt64 (f2 (x0 &&& (2147483647 : Int32)) (x1 &&& (2147483647 : Int32)))) - (Int32.toInt64 (f1 (x0 &&& (2147483647 : Int32)) (x1 &&& (2147483647 : Int32))))) + (1 : Int64))), .second, .val (.long (f4 (f3 y2 (1099511627776 : Int64)) (-1 : Int64))), .second, .unset] [])) t
    refine XS.lload X4.here hx rfl (hb hby at_56) rfl ?_
    show Steps p.tables e below (T4.setTop (mkF m 58 #[.val (.int x0), .val (.int x1), .val (.long y2), .second, .val (.int (x0 &&& (2147483647 : Int32))), .val (.int (x1 &&& (2147483647 : Int32))), .val (.int (f1 (x0 &&& (2147483647 : Int32)) (x1 &&& (2147483647 : Int32)))), .val (.int (f2 (x0 &&& (2147483647 : Int32)) (x1 &&& (2147483647 : Int32)))), .val (.long (((Int32.toInt64 (f2 (x0 &&& (2147483647 : Int32)) (x1 &&& (2147483647 : Int32)))) - (Int32.toInt64 (f1 (x0 &&& (2147483647 : Int32)) (x1 &&& (2147483647 : Int32))))) + (1 : Int64))), .second, .val (.long (f4 (f3 y2 (1099511627776 : Int64)) (-1 : Int64))), .second, .unset] [(.long (((Int32.toInt64 (f2 (x0 &&& (2147483647 : Int32)) (x1 &&& (2147483647 : Int32)))) - (Int32.toInt64 (f1 (x0 &&& (2147483647 : Int32)) (x1 &&& (2147483647 : Int32))))) + (1 : Int64)))])) t
    refine X4.ldc2Long hx hown (mvT hZ (hw _ (List.mem_of_getElem? (i := 16) rfl))) (g := (mkF m 58 #[.val (.int x0), .val (.int x1), .val (.long y2), .second, .val (.int (x0 &&& (2147483647 : Int32))), .val (.int (x1 &&& (2147483647 : Int32))), .val (.int (f1 (x0 &&& (2147483647 : Int32)) (x1 &&& (2147483647 : Int32)))), .val (.int (f2 (x0 &&& (2147483647 : Int32)) (x1 &&& (2147483647 : Int32)))), .val (.long (((Int32.toInt64 (f2 (x0 &&& (2147483647 : Int32)) (x1 &&& (2147483647 : Int32)))) - (Int32.toInt64 (f1 (x0 &&& (2147483647 : Int32)) (x1 &&& (2147483647 : Int32))))) + (1 : Int64))), .second, .val (.long (f4 (f3 y2 (1099511627776 : Int64)) (-1 : Int64))), .second, .unset] [(.long (((Int32.toInt64 (f2 (x0 &&& (2147483647 : Int32)) (x1 &&& (2147483647 : Int32)))) - (Int32.toInt64 (f1 (x0 &&& (2147483647 : Int32)) (x1 &&& (2147483647 : Int32))))) + (1 : Int64)))])) rfl (hb hby at_58) _ ?_
    show Steps p.tables e below (T4.setTop (mkF m 61 #[.val (.int x0), .val (.int x1), .val (.long y2), .second, .val (.int (x0 &&& (2147483647 : Int32))), .val (.int (x1 &&& (2147483647 : Int32))), .val (.int (f1 (x0 &&& (2147483647 : Int32)) (x1 &&& (2147483647 : Int32)))), .val (.int (f2 (x0 &&& (2147483647 : Int32)) (x1 &&& (2147483647 : Int32)))), .val (.long (((Int32.toInt64 (f2 (x0 &&& (2147483647 : Int32)) (x1 &&& (2147483647 : Int32)))) - (Int32.toInt64 (f1 (x0 &&& (2147483647 : Int32)) (x1 &&& (2147483647 : Int32))))) + (1 : Int64))), .second, .val (.long (f4 (f3 y2 (1099511627776 : Int64)) (-1 : Int64))), .second, .unset] [(.long (64 : Int64)), (.long (((Int32.toInt64 (f2 (x0 &&& (2147483647 : Int32)) (x1 &&& (2147483647 : Int32)))) - (Int32.toInt64 (f1 (x0 &&& (2147483647 : Int32)) (x1 &&& (2147483647 : Int32))))) + (1 : Int64)))])) t
    refine XS.lload X4.here hx rfl (hb hby at_61) rfl ?_
    show Steps p.tables e below (T4.setTop (mkF m 63 #[.val (.int x0), .val (.int x1), .val (.long y2), .second, .val (.int (x0 &&& (2147483647 : Int32))), .val (.int (x1 &&& (2147483647 : Int32))), .val (.int (f1 (x0 &&& (2147483647 : Int32)) (x1 &&& (2147483647 : Int32)))), .val (.int (f2 (x0 &&& (2147483647 : Int32)) (x1 &&& (2147483647 : Int32)))), .val (.long (((Int32.toInt64 (f2 (x0 &&& (2147483647 : Int32)) (x1 &&& (2147483647 : Int32)))) - (Int32.toInt64 (f1 (x0 &&& (2147483647 : Int32)) (x1 &&& (2147483647 : Int32))))) + (1 : Int64))), .second, .val (.long (f4 (f3 y2 (1099511627776 : Int64)) (-1 : Int64))), .second, .unset] [(.long (f4 (f3 y2 (1099511627776 : Int64)) (-1 : Int64))), (.long (64 : Int64)), (.long (((Int32.toInt64 (f2 (x0 &&& (2147483647 : Int32)) (x1 &&& (2147483647 : Int32)))) - (Int32.toInt64 (f1 (x0 &&& (2147483647 : Int32)) (x1 &&& (2147483647 : Int32))))) + (1 : Int64)))])) t
    refine XS.lmul X4.here hx rfl (hb hby at_63) rfl ?_
    show Steps p.tables e below (T4.setTop (mkF m 64 #[.val (.int x0), .val (.int x1), .val (.long y2), .second, .val (.int (x0 &&& (2147483647 : Int32))), .val (.int (x1 &&& (2147483647 : Int32))), .val (.int (f1 (x0 &&& (2147483647 : Int32)) (x1 &&& (2147483647 : Int32)))), .val (.int (f2 (x0 &&& (2147483647 : Int32)) (x1 &&& (2147483647 : Int32)))), .val (.long (((Int32.toInt64 (f2 (x0 &&& (2147483647 : Int32)) (x1 &&& (2147483647 : Int32)))) - (Int32.toInt64 (f1 (x0 &&& (2147483647 : Int32)) (x1 &&& (2147483647 : Int32))))) + (1 : Int64))), .second, .val (.long (f4 (f3 y2 (1099511627776 : Int64)) (-1 : Int64))), .second, .unset] [(.long ((64 : Int64) * (f4 (f3 y2 (1099511627776 : Int64)) (-1 : Int64)))), (.long (((Int32.toInt64 (f2 (x0 &&& (2147483647 : Int32)) (x1 &&& (2147483647 : Int32)))) - (Int32.toInt64 (f1 (x0 &&& (2147483647 : Int32)) (x1 &&& (2147483647 : Int32))))) + (1 : Int64)))])) t
    refine XS.lcmp X4.here hx rfl (hb hby at_64) rfl ?_
    exact k
  by_cases hc5 : ((64 : Int64) * (f4 (f3 y2 (1099511627776 : Int64)) (-1 : Int64))) < (((Int32.toInt64 (f2 (x0 &&& (2147483647 : Int32)) (x1 &&& (2147483647 : Int32)))) - (Int32.toInt64 (f1 (x0 &&& (2147483647 : Int32)) (x1 &&& (2147483647 : Int32))))) + (1 : Int64))
  · refine Runs.via (T' := T4) (g' := (mkF m 72 #[.val (.int x0), .val (.int x1), .val (.long y2), .second, .val (.int (x0 &&& (2147483647 : Int32))), .val (.int (x1 &&& (2147483647 : Int32))), .val (.int (f1 (x0 &&& (2147483647 : Int32)) (x1 &&& (2147483647 : Int32)))), .val (.int (f2 (x0 &&& (2147483647 : Int32)) (x1 &&& (2147483647 : Int32)))), .val (.long (((Int32.toInt64 (f2 (x0 &&& (2147483647 : Int32)) (x1 &&& (2147483647 : Int32)))) - (Int32.toInt64 (f1 (x0 &&& (2147483647 : Int32)) (x1 &&& (2147483647 : Int32))))) + (1 : Int64))), .second, .val (.long (f4 (f3 y2 (1099511627776 : Int64)) (-1 : Int64))), .second, .unset] [])) (fun t k => ?_) ?_
    · show Steps p.tables e below (T4.setTop (mkF m 65 #[.val (.int x0), .val (.int x1), .val (.long y2), .second, .val (.int (x0 &&& (2147483647 : Int32))), .val (.int (x1 &&& (2147483647 : Int32))), .val (.int (f1 (x0 &&& (2147483647 : Int32)) (x1 &&& (2147483647 : Int32)))), .val (.int (f2 (x0 &&& (2147483647 : Int32)) (x1 &&& (2147483647 : Int32)))), .val (.long (((Int32.toInt64 (f2 (x0 &&& (2147483647 : Int32)) (x1 &&& (2147483647 : Int32)))) - (Int32.toInt64 (f1 (x0 &&& (2147483647 : Int32)) (x1 &&& (2147483647 : Int32))))) + (1 : Int64))), .second, .val (.long (f4 (f3 y2 (1099511627776 : Int64)) (-1 : Int64))), .second, .unset] [(.int (lcmpW (((Int32.toInt64 (f2 (x0 &&& (2147483647 : Int32)) (x1 &&& (2147483647 : Int32)))) - (Int32.toInt64 (f1 (x0 &&& (2147483647 : Int32)) (x1 &&& (2147483647 : Int32))))) + (1 : Int64)) ((64 : Int64) * (f4 (f3 y2 (1099511627776 : Int64)) (-1 : Int64)))))])) t
      exact XS.ifYes X4.here hx rfl (pc0 := 65) (pc' := 72) rfl (hb hby at_65) rfl ((if0 _ _).trans (tlt ((lw_gt _ _).mpr hc5)).2.2.1) (by decide) (by decide) k
    refine Runs.via (T' := T4) (g' := (mkF m 73 #[.val (.int x0), .val (.int x1), .val (.long y2), .second, .val (.int (x0 &&& (2147483647 : Int32))), .val (.int (x1 &&& (2147483647 : Int32))), .val (.int (f1 (x0 &&& (2147483647 : Int32)) (x1 &&& (2147483647 : Int32)))), .val (.int (f2 (x0 &&& (2147483647 : Int32)) (x1 &&& (2147483647 : Int32)))), .val (.long (((Int32.toInt64 (f2 (x0 &&& (2147483647 : Int32)) (x1 &&& (2147483647 : Int32)))) - (Int32.toInt64 (f1 (x0 &&& (2147483647 : Int32)) (x1 &&& (2147483647 : Int32))))) + (1 : Int64))), .second, .val (.long (f4 (f3 y2 (1099511627776 : Int64)) (-1 : Int64))), .second, .unset] [(.int (0 : Int32))])) (fun t k => ?_) ?_
    · show Steps p.tables e below (T4.setTop (mkF m 72 #[.val (.int x0), .val (.int x1), .val (.long y2), .second, .val (.int (x0 &&& (2147483647 : Int32))), .val (.int (x1 &&& (2147483647 : Int32))), .val (.int (f1 (x0 &&& (2147483647 : Int32)) (x1 &&& (2147483647 : Int32)))), .val (.int (f2 (x0 &&& (2147483647 : Int32)) (x1 &&& (2147483647 : Int32)))), .val (.long (((Int32.toInt64 (f2 (x0 &&& (2147483647 : Int32)) (x1 &&& (2147483647 : Int32)))) - (Int32.toInt64 (f1 (x0 &&& (2147483647 : Int32)) (x1 &&& (2147483647 : Int32))))) + (1 : Int64))), .second, .val (.long (f4 (f3 y2 (1099511627776 : Int64)) (-1 : Int64))), .second, .unset] [])) t
      refine XS.iconst X4.here hx rfl (hb hby at_72) ?_
      exact k
    refine QP.cast (congrArg (fun z => some (Value.int z)) (show (g0_0 x0 x1 y2) = (g0_73 y2 (f1 (x0 &&& (2147483647 : Int32)) (x1 &&& (2147483647 : Int32))) (f2 (x0 &&& (2147483647 : Int32)) (x1 &&& (2147483647 : Int32))) (0 : Int32)) from (if_pos hc5))) ?_
    exact b0_73 C X4 e4 N4 hk hn x0 x1 y2 (x0 &&& (2147483647 : Int32)) (x1 &&& (2147483647 : Int32)) (f1 (x0 &&& (2147483647 : Int32)) (x1 &&& (2147483647 : Int32))) (f2 (x0 &&& (2147483647 : Int32)) (x1 &&& (2147483647 : Int32))) (((Int32.toInt64 (f2 (x0 &&& (2147483647 : Int32)) (x1 &&& (2147483647 : Int32)))) - (Int32.toInt64 (f1 (x0 &&& (2147483647 : Int32)) (x1 &&& (2147483647 : Int32))))) + (1 : Int64)) (f4 (f3 y2 (1099511627776 : Int64)) (-1 : Int64)) (0 : Int32)
  · refine Runs.via (T' := T4) (g' := (mkF m 68 #[.val (.int x0), .val (.int x1), .val (.long y2), .second, .val (.int (x0 &&& (2147483647 : Int32))), .val (.int (x1 &&& (2147483647 : Int32))), .val (.int (f1 (x0 &&& (2147483647 : Int32)) (x1 &&& (2147483647 : Int32)))), .val (.int (f2 (x0 &&& (2147483647 : Int32)) (x1 &&& (2147483647 : Int32)))), .val (.long (((Int32.toInt64 (f2 (x0 &&& (2147483647 : Int32)) (x1 &&& (2147483647 : Int32)))) - (Int32.toInt64 (f1 (x0 &&& (2147483647 : Int32)) (x1 &&& (2147483647 : Int32))))) + (1 : Int64))), .second, .val (.long (f4 (f3 y2 (1099511627776 : Int64)) (-1 : Int64))), .second, .unset] [])) (fun t k => ?_) ?_
    · show Steps p.tables e below (T4.setTop (mkF m 65 #[.val (.int x0), .val (.int x1), .val (.long y2), .second, .val (.int (x0 &&& (2147483647 : Int32))), .val (.int (x1 &&& (2147483647 : Int32))), .val (.int (f1 (x0 &&& (2147483647 : Int32)) (x1 &&& (2147483647 : Int32)))), .val (.int (f2 (x0 &&& (2147483647 : Int32)) (x1 &&& (2147483647 : Int32)))), .val (.long (((Int32.toInt64 (f2 (x0 &&& (2147483647 : Int32)) (x1 &&& (2147483647 : Int32)))) - (Int32.toInt64 (f1 (x0 &&& (2147483647 : Int32)) (x1 &&& (2147483647 : Int32))))) + (1 : Int64))), .second, .val (.long (f4 (f3 y2 (1099511627776 : Int64)) (-1 : Int64))), .second, .unset] [(.int (lcmpW (((Int32.toInt64 (f2 (x0 &&& (2147483647 : Int32)) (x1 &&& (2147483647 : Int32)))) - (Int32.toInt64 (f1 (x0 &&& (2147483647 : Int32)) (x1 &&& (2147483647 : Int32))))) + (1 : Int64)) ((64 : Int64) * (f4 (f3 y2 (1099511627776 : Int64)) (-1 : Int64)))))])) t
      exact XS.ifNo X4.here hx rfl (hb hby at_65) rfl ((if0 _ _).trans (flt (fun q => hc5 ((lw_gt _ _).mp q))).2.2.1) k
    refine Runs.via (T' := T4) (g' := (mkF m 73 #[.val (.int x0), .val (.int x1), .val (.long y2), .second, .val (.int (x0 &&& (2147483647 : Int32))), .val (.int (x1 &&& (2147483647 : Int32))), .val (.int (f1 (x0 &&& (2147483647 : Int32)) (x1 &&& (2147483647 : Int32)))), .val (.int (f2 (x0 &&& (2147483647 : Int32)) (x1 &&& (2147483647 : Int32)))), .val (.long (((Int32.toInt64 (f2 (x0 &&& (2147483647 : Int32)) (x1 &&& (2147483647 : Int32)))) - (Int32.toInt64 (f1 (x0 &&& (2147483647 : Int32)) (x1 &&& (2147483647 : Int32))))) + (1 : Int64))), .second, .val (.long (f4 (f3 y2 (1099511627776 : Int64)) (-1 : Int64))), .second, .unset] [(.int (1 : Int32))])) (fun t k => ?_) ?_
    · show Steps p.tables e below (T4.setTop (mkF m 68 #[.val (.int x0), .val (.int x1), .val (.long y2), .second, .val (.int (x0 &&& (2147483647 : Int32))), .val (.int (x1 &&& (2147483647 : Int32))), .val (.int (f1 (x0 &&& (2147483647 : Int32)) (x1 &&& (2147483647 : Int32)))), .val (.int (f2 (x0 &&& (2147483647 : Int32)) (x1 &&& (2147483647 : Int32)))), .val (.long (((Int32.toInt64 (f2 (x0 &&& (2147483647 : Int32)) (x1 &&& (2147483647 : Int32)))) - (Int32.toInt64 (f1 (x0 &&& (2147483647 : Int32)) (x1 &&& (2147483647 : Int32))))) + (1 : Int64))), .second, .val (.long (f4 (f3 y2 (1099511627776 : Int64)) (-1 : Int64))), .second, .unset] [])) t
      refine XS.iconst X4.here hx rfl (hb hby at_68) ?_
      show Steps p.tables e below (T4.setTop (mkF m 69 #[.val (.int x0), .val (.int x1), .val (.long y2), .second, .val (.int (x0 &&& (2147483647 : Int32))), .val (.int (x1 &&& (2147483647 : Int32))), .val (.int (f1 (x0 &&& (2147483647 : Int32)) (x1 &&& (2147483647 : Int32)))), .val (.int (f2 (x0 &&& (2147483647 : Int32)) (x1 &&& (2147483647 : Int32)))), .val (.long (((Int32.toInt64 (f2 (x0 &&& (2147483647 : Int32)) (x1 &&& (2147483647 : Int32)))) - (Int32.toInt64 (f1 (x0 &&& (2147483647 : Int32)) (x1 &&& (2147483647 : Int32))))) + (1 : Int64))), .second, .val (.long (f4 (f3 y2 (1099511627776 : Int64)) (-1 : Int64))), .second, .unset] [(.int (1 : Int32))])) t
      refine XS.goto X4.here hx rfl (pc0 := 69) (pc' := 73) rfl (hb hby at_69) (by decide) (by decide) ?_
      exact k
    refine QP.cast (congrArg (fun z => some (Value.int z)) (show (g0_0 x0 x1 y2) = (g0_73 y2 (f1 (x0 &&& (2147483647 : Int32)) (x1 &&& (2147483647 : Int32))) (f2 (x0 &&& (2147483647 : Int32)) (x1 &&& (2147483647 : Int32))) (1 : Int32)) from (if_neg hc5))) ?_
    exact b0_73 C X4 e4 N4 hk hn x0 x1 y2 (x0 &&& (2147483647 : Int32)) (x1 &&& (2147483647 : Int32)) (f1 (x0 &&& (2147483647 : Int32)) (x1 &&& (2147483647 : Int32))) (f2 (x0 &&& (2147483647 : Int32)) (x1 &&& (2147483647 : Int32))) (((Int32.toInt64 (f2 (x0 &&& (2147483647 : Int32)) (x1 &&& (2147483647 : Int32)))) - (Int32.toInt64 (f1 (x0 &&& (2147483647 : Int32)) (x1 &&& (2147483647 : Int32))))) + (1 : Int64)) (f4 (f3 y2 (1099511627776 : Int64)) (-1 : Int64)) (1 : Int32)
def f0 (x0 : Int32) (x1 : Int32) (y2 : Int64) : Int32 := g0_0 x0 x1 y2
theorem pn_0 : plainName "com/example/braid/braid/DocMergeDensePinLaw" = true := by first | (simp [plainName, overriddenIn]; done) | decide +kernel
theorem ef_0 (m : MethodId) (x0 : Int32) (x1 : Int32) (y2 : Int64) : entryFrame m #[(.int x0), (.int x1), (.long y2)] maxLocals = mkF m 0 #[.val (.int x0), .val (.int x1), .val (.long y2), .second, .unset, .unset, .unset, .unset, .unset, .unset, .unset, .unset, .unset] [] := by first | (simp [entryFrame, mkF, argsToLocals, Value.category, maxLocals]; done) | rfl
set_option maxRecDepth 65536 in
set_option maxHeartbeats 4000000 in
theorem rm0 (l : Launch) (Z : State) (a0 : Array Value) (hw : ∀ d ∈ tables_1, d.before a0 Z = true) (ws : List Jvm.Cond) (x0 : Int32) (x1 : Int32) (y2 : Int64) (h0 : Heap) (n0 : Nat) :
    MetFree l x (head1 (Jvm.Cond.code x code maxLocals ret :: ws) room_1) (fun a U => a = #[(.int x0), (.int x1), (.long y2)] ∧ Z.Warmed39 U.vm ∧ U.heap = h0) (fun _ _ _ _ _ => True) (fun _ U o U' => ∃ v L, o = .returned v ∧ QP (some (.int (f0 x0 x1 y2))) h0 n0 v U'.heap L ∧ FrameEnd U o U' L 0 0) := by
  refine MetFree.of_bodySF (plainFor_of_name pn_0) hisR ?_
  intro p e s m args below meth c s₁ Bd hml0 hP hK
  obtain ⟨rfl, hZ, hh⟩ := hP
  have X0 : Stand p l e room_1 s m #[(.int x0), (.int x1), (.long y2)] below meth c s₁ [] 0 0 := Stand.of_body Bd
  have e0 : s₁.heap = h0 := by rw [← hh, Bd.state]; rfl
  have C : Ctx p s m meth c Z a0 "com/example/braid/braid/DocMergeDensePinLaw" code 13 (some .boolean) "law" := ⟨Bd.exec, hZ, hw, Bd.bytes, hml0, findClass_of_methodNamed Bd.named, Bd.returns, BodyLoose.notSynchronized Bd, (name_of_methodNamed Bd.named Bd.method).1⟩
  refine Runs.via (fun t k => castTop (ef_0 m x0 x1 y2) k) (b0_0 C X0 e0 (Fr.nil n0) (Nat.le_refl 0) (Nat.le_refl 0) x0 x1 y2)
end Own
theorem own_min (a b : Int32) : (f1 a b).toInt = min a.toInt b.toInt := by
  unfold f1 g1_0
  split
  · rename_i h; rw [Int32.lt_iff_toInt_lt] at h; omega
  · rename_i h; rw [Int32.lt_iff_toInt_lt] at h; omega
theorem own_max (a b : Int32) : (f2 a b).toInt = max a.toInt b.toInt := by
  unfold f2 g2_0
  split
  · rename_i h; rw [Int32.lt_iff_toInt_lt] at h; omega
  · rename_i h; rw [Int32.lt_iff_toInt_lt] at h; omega
theorem own_minL (a b : Int64) : (f3 a b).toInt = min a.toInt b.toInt := by
  unfold f3 g3_0
  split
  · rename_i h; rw [Int64.lt_iff_toInt_lt] at h; omega
  · rename_i h; rw [Int64.lt_iff_toInt_lt] at h; omega
theorem own_maxL (a b : Int64) : (f4 a b).toInt = max a.toInt b.toInt := by
  unfold f4 g4_0
  split
  · rename_i h; rw [Int64.lt_iff_toInt_lt] at h; omega
  · rename_i h; rw [Int64.lt_iff_toInt_lt] at h; omega
theorem own_words (a b : Int32) (h0 : 0 ≤ a.toInt) (h1 : a.toInt ≤ b.toInt) : (f6 a b).toInt = (b.toInt - a.toInt) / 64 + 1 := by
  unfold f6 g6_0
  have r1 := rng32 a
  have r2 := rng32 b
  have e1 := c_isub b a
  have r3 := rng32 (b - a)
  have v1 : (b - a).toInt = b.toInt - a.toInt := by omega
  have e2 := c_iushr (b - a) 6 6 (by decide) (by decide)
  rw [v1] at e2
  have e3 := c_iadd (((b - a).toUInt32 >>> ((6 : Int32) &&& 31).toUInt32).toInt32) 1
  have r4 := rng32 ((((b - a).toUInt32 >>> ((6 : Int32) &&& 31).toUInt32).toInt32) + 1)
  have k : (1 : Int32).toInt = 1 := by decide
  rw [e2, k] at e3
  have e4 : ((b.toInt - a.toInt) % 4294967296) / ((2 ^ 6 : Nat) : Int) = (b.toInt - a.toInt) / 64 := by
    have : (b.toInt - a.toInt) % 4294967296 = b.toInt - a.toInt := Int.emod_eq_of_lt (by omega) (by omega)
    rw [this]; rfl
  rw [e4] at e3
  omega
theorem own_dense (a b : Int32) (y : Int64) (h0 : 0 ≤ a.toInt) (h1 : a.toInt ≤ b.toInt) : f5 a b y = if (b.toInt - a.toInt) / 64 + 1 ≤ y.toInt then 1 else 0 := by
  unfold f5 g5_0
  have e := own_words a b h0 h1
  have e1 : ((1 : Int64) * y) = y := by simp
  rw [e1]
  have e2 := c_i2l (f6 a b)
  by_cases h : y < (Int32.toInt64 (f6 a b))
  · have h' := h
    rw [Int64.lt_iff_toInt_lt, e2, e] at h'
    rw [if_pos h, if_neg (by omega)]
  · have h' := h
    rw [Int64.lt_iff_toInt_lt, e2, e] at h'
    rw [if_neg h, if_pos (by omega)]
theorem own_law (x0 x1 : Int32) (y2 : Int64) : f0 x0 x1 y2 = 1 := by
  have m1 : 0 ≤ (x0 &&& (2147483647 : Int32)).toInt := by rw [c_mask x0 2147483647 31 (by decide) (by decide)]; exact Int.emod_nonneg _ (by decide)
  have m2 : 0 ≤ (x1 &&& (2147483647 : Int32)).toInt := by rw [c_mask x1 2147483647 31 (by decide) (by decide)]; exact Int.emod_nonneg _ (by decide)
  unfold f0 g0_0
  generalize (x0 &&& (2147483647 : Int32)) = u at *
  generalize (x1 &&& (2147483647 : Int32)) = w at *
  have e1 := own_min u w
  have e2 := own_max u w
  generalize f1 u w = a at *
  generalize f2 u w = b at *
  have ha : 0 ≤ a.toInt := by omega
  have hab : a.toInt ≤ b.toInt := by omega
  have rb := rng32 b
  have ra := rng32 a
  have ry := rng64 y2
  have e3 := own_minL y2 1099511627776
  have e4 := own_maxL (f3 y2 1099511627776) (-1)
  have k1 : (1099511627776 : Int64).toInt = 1099511627776 := by decide
  have k2 : (-1 : Int64).toInt = -1 := by decide
  have k3 : (64 : Int64).toInt = 64 := by decide
  have k4 : (1 : Int64).toInt = 1 := by decide
  generalize hh : f4 (f3 y2 1099511627776) (-1) = h at *
  have eh : h.toInt = max (min y2.toInt 1099511627776) (-1) := by rw [e4, e3, k1, k2]
  have e5 := c_lmul 64 h
  rw [k3] at e5
  have r5 := rng64 ((64 : Int64) * h)
  have v5 : ((64 : Int64) * h).toInt = 64 * h.toInt := by omega
  have e6 := c_i2l b
  have e7 := c_i2l a
  have e8 := c_lsub (Int32.toInt64 b) (Int32.toInt64 a)
  have r8 := rng64 ((Int32.toInt64 b) - (Int32.toInt64 a))
  have v8 : ((Int32.toInt64 b) - (Int32.toInt64 a)).toInt = b.toInt - a.toInt := by omega
  have e9 := c_ladd ((Int32.toInt64 b) - (Int32.toInt64 a)) 1
  have r9 := rng64 (((Int32.toInt64 b) - (Int32.toInt64 a)) + 1)
  have v9 : (((Int32.toInt64 b) - (Int32.toInt64 a)) + 1).toInt = b.toInt - a.toInt + 1 := by omega
  have hq : (h.toInt = y2.toInt ∧ -1 ≤ y2.toInt ∧ y2.toInt ≤ 1099511627776) ∨ (h.toInt = -1 ∧ y2.toInt < -1) ∨ (h.toInt = 1099511627776 ∧ 1099511627776 < y2.toInt) := by rw [eh]; omega
  clear eh e3 e4
  unfold g0_73
  rw [own_dense a b y2 ha hab]
  split
  · rename_i q
    rw [Int64.lt_iff_toInt_lt, v5, v9] at q
    have hn : ¬ ((b.toInt - a.toInt) / 64 + 1 ≤ y2.toInt) := by omega
    rw [if_neg hn]; simp
  · rename_i q
    rw [Int64.lt_iff_toInt_lt, v5, v9] at q
    have hn : ((b.toInt - a.toInt) / 64 + 1 ≤ y2.toInt) := by omega
    rw [if_pos hn]; simp
set_option maxRecDepth 65536 in
set_option maxHeartbeats 40000000 in
theorem comes_1 {Post : Tables → Env → Array Value → State → Outcome → State → Prop} (hpost : ∀ tb e args s v u, (limb_1_1.after args s (.returned v) u = true ∧ limb_1_2.after args s (.returned v) u = true ∧ True) → FrameEnd s (.returned v) u (Jvm.fieldLocs frame_1_writes args s ++ Jvm.arrayLocs frame_1_arrays args s ++ Jvm.staticLocs frame_1_statics s) 0 0 → Post tb e args s (.returned v) u) :
    ArmFor flags0 classFile x code maxLocals ret World_1 tables_1 room_1 Calls_1 rest_1 Pre_1 Post := by
  intro l hfl _ _ p e ha hc hk s m args below hf hA hF happ hP
  obtain ⟨hcalls, hrest, hpre⟩ := hP
  obtain ⟨-, -, -, hnamed, -, -, -, hat⟩ := (Spec.applies_iff hf).mp happ
  obtain ⟨hg, hn⟩ := and_e (Cond.before_iff.mp (show (Jvm.Cond.and given_1 narrow_1).before args s = true from hpre))
  obtain ⟨g1, g2⟩ := and_e hg
  obtain ⟨g3, g4⟩ := and_e g2
  obtain ⟨g5, g6⟩ := and_e g4
  obtain ⟨w0, w1, w2, rfl⟩ : ∃ w0 w1 w2 : Value, args = #[w0, w1, w2] := by
    have hs : args.size = 3 := by simpa [Cond.value, given_1] using g1
    obtain ⟨L⟩ := args
    match L, hs with
    | [w0, w1, w2], _ => exact ⟨w0, w1, w2, rfl⟩
  have hw := fun d (hd : d ∈ tables_1) => atoms_spec (ws := Jvm.Cond.code x code maxLocals ret :: tables_1) hat d (List.mem_cons_of_mem _ hd)
  obtain ⟨i0, ei0⟩ := is_v g3
  obtain rfl : w0 = (.int i0) := Option.some.inj ei0
  obtain ⟨i1, ei1⟩ := is_v g5
  obtain rfl : w1 = (.int i1) := Option.some.inj ei1
  obtain ⟨i2, ei2⟩ := isL_v g6
  obtain rfl : w2 = (.long i2) := Option.some.inj ei2
  obtain ⟨n, o, h1, h2, h3, _, L, rfl, ⟨rfl, N, -⟩, hq⟩ := rm0 l s _ hw tables_1 i0 i1 i2 s.heap s.heap.size p e ha hc hk s m _ below hf ((Spec.applies_iff_loose hf).mp happ).1 ⟨rfl, State.Warmed39.refl s, rfl⟩ trivial
  have hone := own_law i0 i1 i2
  rw [hone] at h3 hq
  refine ⟨n, _, h1, h2, h3, hpost _ _ _ _ _ _ ⟨Cond.after_iff.mpr rfl, Cond.after_iff.mpr (eq_i res_at (Term.int_eval (1)) rfl), trivial⟩ ⟨hq.1, hq.2.1, (hq.2.2.sift fun y hy => Or.inr (N y hy)).mono (by decide) (by decide)⟩⟩
theorem main_1_1 : Claimed_1_1 := comes_1 fun _ _ _ _ _ _ h hF => ⟨h.1, hF⟩
theorem main_1_2 : Claimed_1_2 := comes_1 fun _ _ _ _ _ _ h hF => ⟨h.2.1, hF⟩
end Jvm.Pilot.@@N@@
namespace Jvm.Pilot.@@N@@
open Jvm Jvm.ClassFile Sem Op Lib Jvm.Free Jvm.Stand Jvm.Pilot.@@N@@.Jvm.D
/-! MADE BY PROGRAM (witnessworld.py) out of the Statement's table words and the real class files: 10 classes; the members and pool entries that the words name. The judged class is class 1, her method 1. -/
namespace start1
open Jvm.ClassFile
def u (s : String) : CpInfo := .utf8 (stringToUtf16 s)
/-- a pool by its gaps: so many unusable entries, then the entry; so many at the end -/
def gap : Nat → List CpInfo → List CpInfo
  | 0, r => r
  | n + 1, r => .unusable :: gap n r
def poolList (es : List (Nat × CpInfo)) (last : Nat) : List CpInfo := es.foldr (fun e r => gap e.1 (e.2 :: r)) (gap last [])
def pool (es : List (Nat × CpInfo)) (last : Nat) : Array CpInfo := ⟨poolList es last⟩
def fileOf (pool : Array CpInfo) (this : Nat) (attrs : Array Attribute := #[]) (ms : Array MethodInfo := #[]) (fl : Nat := 33) (sup : Nat := 0) (ifs : Array Nat := #[]) (fds : Array FieldInfo := #[]) : ClassFile where
  minorVersion := 0
  majorVersion := 65
  constantPool := pool
  accessFlags := fl
  thisClass := this
  superClass := sup
  interfaces := ifs
  fields := fds
  methods := ms
  attributes := attrs
def plain (name : String) (sup : Option ClassId) : Class where
  name := name
  kind := .ordinary
  loader := none
  accessFlags := 33
  super := sup
  interfaces := #[]
  cf := none
  fields := #[]
  methods := #[]
  instanceTypes := #[]
  staticTypes := #[]
  resolved := #[]
  callSites := []
  init := .initialized
  statics := none
  mirror := none

def pool0 : Array CpInfo := pool [(5, u "<init>"), (0, u "()V"), (1, .class_ 10), (1, u "java/lang/Object")] 113

def k0m0 : Method := { name := "<init>", desc := "()V", sig := { parameters := [], returnType := none }, accessFlags := 1, code := none }
/-- java/lang/Object -/
def k0 : Class := { plain "java/lang/Object" none with
  accessFlags := 33
  interfaces := #[]
  cf := some (fileOf pool0 8 #[] #[{ accessFlags := 1, nameIndex := 5, descriptorIndex := 6, attributes := #[] }] 33 0 #[] #[])
  fields := #[]
  methods := #[k0m0]
  instanceTypes := #[]
  staticTypes := #[]
  resolved := Array.replicate 124 none
  statics := none }

def pool1 : Array CpInfo := pool [(2, .class_ 4), (1, u "java/lang/Object"), (0, u "<init>"), (0, u "()V"), (0, .integer 2147483647), (0, .methodref 9 10), (0, .class_ 11), (0, .nameAndType 12 13), (0, u "java/lang/Math"), (0, u "min"), (0, u "(II)I"), (0, .methodref 9 15), (0, .nameAndType 16 13), (0, u "max"), (0, .long 1099511627776), (1, .methodref 9 20), (0, .nameAndType 12 21), (0, u "(JJ)J"), (0, .long 18446744073709551615), (1, .methodref 9 25), (0, .nameAndType 16 21), (0, .long 64), (1, .methodref 29 30), (0, .class_ 31), (0, .nameAndType 32 33), (0, u "com/example/braid/braid/DocMerge"), (0, u "dense"), (0, u "(IIJ)Z"), (0, .class_ 35), (0, u "com/example/braid/braid/DocMergeDensePinLaw"), (2, u "law")] 3

def k1m0 : Method := { name := "<init>", desc := "()V", sig := { parameters := [], returnType := none }, accessFlags := 1, code := none }
def k1c1 : Code := { maxStack := 6, maxLocals := 13, code := code, exceptionTable := #[], attributes := #[] }
def k1m1 : Method := { name := "law", desc := "(IIJ)Z", sig := { parameters := [.int, .int, .long], returnType := some .boolean }, accessFlags := 9, code := some k1c1 }
/-- com/example/braid/braid/DocMergeDensePinLaw -/
def k1 : Class := { plain "com/example/braid/braid/DocMergeDensePinLaw" (some 0) with
  accessFlags := 49
  interfaces := #[]
  cf := some (fileOf pool1 34 #[] #[{ accessFlags := 1, nameIndex := 5, descriptorIndex := 6, attributes := #[] }, { accessFlags := 9, nameIndex := 38, descriptorIndex := 33, attributes := #[] }] 49 2 #[] #[])
  fields := #[]
  methods := #[k1m0, k1m1]
  instanceTypes := #[]
  staticTypes := #[]
  resolved := Array.replicate 42 none
  statics := none }

def pool2 : Array CpInfo := pool [(1, .class_ 2), (0, u "java/lang/Math"), (1, .class_ 6), (1, u "java/lang/Object"), (0, u "<init>"), (0, u "()V"), (89, .class_ 100), (1, u "java/lang/Math$RandomNumberGeneratorHolder"), (20, u "(JJ)J"), (50, u "negativeZeroFloatBits"), (0, u "J"), (2, u "negativeZeroDoubleBits"), (21, u "max"), (2, u "min"), (43, u "$assertionsDisabled"), (0, u "Z"), (88, u "(II)I"), (2, u "twoToTheDoubleScaleDown"), (0, u "D"), (4, u "twoToTheDoubleScaleUp"), (9, u "E"), (3, u "PI"), (2, u "TAU"), (2, u "DEGREES_TO_RADIANS"), (0, u "RADIANS_TO_DEGREES")] 94

def k2m0 : Method := { name := "<init>", desc := "()V", sig := { parameters := [], returnType := none }, accessFlags := 2, code := none }
def k2c1 : Code := { maxStack := 2, maxLocals := 2, code := jdk_29_method_65_code, exceptionTable := #[], attributes := #[] }
def k2m1 : Method := { name := "max", desc := "(II)I", sig := { parameters := [.int, .int], returnType := some .int }, accessFlags := 9, code := some k2c1 }
def k2c2 : Code := { maxStack := 4, maxLocals := 4, code := jdk_29_method_66_code, exceptionTable := #[], attributes := #[] }
def k2m2 : Method := { name := "max", desc := "(JJ)J", sig := { parameters := [.long, .long], returnType := some .long }, accessFlags := 9, code := some k2c2 }
def k2c3 : Code := { maxStack := 2, maxLocals := 2, code := jdk_29_method_69_code, exceptionTable := #[], attributes := #[] }
def k2m3 : Method := { name := "min", desc := "(II)I", sig := { parameters := [.int, .int], returnType := some .int }, accessFlags := 9, code := some k2c3 }
def k2c4 : Code := { maxStack := 4, maxLocals := 4, code := jdk_29_method_70_code, exceptionTable := #[], attributes := #[] }
def k2m4 : Method := { name := "min", desc := "(JJ)J", sig := { parameters := [.long, .long], returnType := some .long }, accessFlags := 9, code := some k2c4 }
/-- java/lang/Math -/
def k2 : Class := { plain "java/lang/Math" (some 0) with
  accessFlags := 49
  interfaces := #[]
  cf := some (fileOf pool2 1 #[.nestMembers #[98]] #[{ accessFlags := 2, nameIndex := 7, descriptorIndex := 8, attributes := #[] }, { accessFlags := 9, nameIndex := 198, descriptorIndex := 335, attributes := #[] }, { accessFlags := 9, nameIndex := 198, descriptorIndex := 121, attributes := #[] }, { accessFlags := 9, nameIndex := 201, descriptorIndex := 335, attributes := #[] }, { accessFlags := 9, nameIndex := 201, descriptorIndex := 121, attributes := #[] }] 49 4 #[] #[{ accessFlags := 25, nameIndex := 354, descriptorIndex := 339, attributes := #[] }, { accessFlags := 25, nameIndex := 358, descriptorIndex := 339, attributes := #[] }, { accessFlags := 25, nameIndex := 361, descriptorIndex := 339, attributes := #[] }, { accessFlags := 26, nameIndex := 364, descriptorIndex := 339, attributes := #[] }, { accessFlags := 26, nameIndex := 365, descriptorIndex := 339, attributes := #[] }, { accessFlags := 26, nameIndex := 172, descriptorIndex := 173, attributes := #[] }, { accessFlags := 26, nameIndex := 176, descriptorIndex := 173, attributes := #[] }, { accessFlags := 8, nameIndex := 344, descriptorIndex := 339, attributes := #[] }, { accessFlags := 8, nameIndex := 338, descriptorIndex := 339, attributes := #[] }, { accessFlags := 4120, nameIndex := 245, descriptorIndex := 246, attributes := #[] }])
  fields := #[{ name := "E", type := .double, accessFlags := 25, slot := 0, constantValue := 0 }, { name := "PI", type := .double, accessFlags := 25, slot := 1, constantValue := 0 }, { name := "TAU", type := .double, accessFlags := 25, slot := 2, constantValue := 0 }, { name := "DEGREES_TO_RADIANS", type := .double, accessFlags := 26, slot := 3, constantValue := 0 }, { name := "RADIANS_TO_DEGREES", type := .double, accessFlags := 26, slot := 4, constantValue := 0 }, { name := "negativeZeroFloatBits", type := .long, accessFlags := 26, slot := 5, constantValue := 0 }, { name := "negativeZeroDoubleBits", type := .long, accessFlags := 26, slot := 6, constantValue := 0 }, { name := "twoToTheDoubleScaleUp", type := .double, accessFlags := 8, slot := 7, constantValue := 0 }, { name := "twoToTheDoubleScaleDown", type := .double, accessFlags := 8, slot := 8, constantValue := 0 }, { name := "$assertionsDisabled", type := .boolean, accessFlags := 4120, slot := 9, constantValue := 0 }]
  methods := #[k2m0, k2m1, k2m2, k2m3, k2m4]
  instanceTypes := #[]
  staticTypes := #[.double, .double, .double, .double, .double, .long, .long, .double, .double, .boolean]
  resolved := Array.replicate 460 none
  statics := none }

def pool3 : Array CpInfo := pool [(4, .class_ 6), (1, u "java/lang/Object"), (3, .class_ 12), (1, u "com/example/braid/braid/DocMerge"), (0, u "docs"), (0, u "[[I"), (3, u "[I"), (4, u "next"), (2, u "ends"), (2, u "heads"), (2, u "at"), (1, .methodref 10 35), (0, .nameAndType 36 37), (0, u "words"), (0, u "(II)I"), (10, u "dense"), (0, u "(IIJ)Z"), (12, u "NO_MORE"), (0, u "I"), (1, u "WORDS_PER_DOC")] 12

def k3c0 : Code := { maxStack := 2, maxLocals := 2, code := prog_6_method_2_code, exceptionTable := #[], attributes := #[] }
def k3m0 : Method := { name := "words", desc := "(II)I", sig := { parameters := [.int, .int], returnType := some .int }, accessFlags := 8, code := some k3c0 }
def k3c1 : Code := { maxStack := 6, maxLocals := 4, code := prog_6_method_3_code, exceptionTable := #[], attributes := #[] }
def k3m1 : Method := { name := "dense", desc := "(IIJ)Z", sig := { parameters := [.int, .int, .long], returnType := some .boolean }, accessFlags := 8, code := some k3c1 }
/-- com/example/braid/braid/DocMerge -/
def k3 : Class := { plain "com/example/braid/braid/DocMerge" (some 0) with
  accessFlags := 48
  interfaces := #[]
  cf := some (fileOf pool3 10 #[] #[{ accessFlags := 8, nameIndex := 36, descriptorIndex := 37, attributes := #[] }, { accessFlags := 8, nameIndex := 48, descriptorIndex := 49, attributes := #[] }] 48 4 #[] #[{ accessFlags := 24, nameIndex := 62, descriptorIndex := 63, attributes := #[] }, { accessFlags := 26, nameIndex := 65, descriptorIndex := 63, attributes := #[] }, { accessFlags := 18, nameIndex := 13, descriptorIndex := 14, attributes := #[] }, { accessFlags := 18, nameIndex := 23, descriptorIndex := 18, attributes := #[] }, { accessFlags := 18, nameIndex := 26, descriptorIndex := 18, attributes := #[] }, { accessFlags := 18, nameIndex := 29, descriptorIndex := 18, attributes := #[] }, { accessFlags := 18, nameIndex := 32, descriptorIndex := 18, attributes := #[] }])
  fields := #[{ name := "NO_MORE", type := .int, accessFlags := 24, slot := 0, constantValue := 0 }, { name := "WORDS_PER_DOC", type := .int, accessFlags := 26, slot := 1, constantValue := 0 }, { name := "docs", type := (.array (.array .int)), accessFlags := 18, slot := 0, constantValue := 0 }, { name := "next", type := (.array .int), accessFlags := 18, slot := 1, constantValue := 0 }, { name := "ends", type := (.array .int), accessFlags := 18, slot := 2, constantValue := 0 }, { name := "heads", type := (.array .int), accessFlags := 18, slot := 3, constantValue := 0 }, { name := "at", type := (.array .int), accessFlags := 18, slot := 4, constantValue := 0 }]
  methods := #[k3m0, k3m1]
  instanceTypes := #[(.array (.array .int)), (.array .int), (.array .int), (.array .int), (.array .int)]
  staticTypes := #[.int, .int]
  resolved := Array.replicate 78 none
  statics := none }

def pool4 : Array CpInfo := pool [(1, u "java/lang/Cloneable"), (0, .class_ 1), (0, u "java/lang/Object"), (0, .class_ 3)] 3

/-- java/lang/Cloneable -/
def k4 : Class := { plain "java/lang/Cloneable" (some 0) with
  accessFlags := 1537
  interfaces := #[]
  cf := some (fileOf pool4 2 #[] #[] 1537 4 #[] #[])
  fields := #[]
  methods := #[]
  instanceTypes := #[]
  staticTypes := #[]
  resolved := Array.replicate 8 none
  statics := none }

def pool5 : Array CpInfo := pool [(1, u "java/io/Serializable"), (0, .class_ 1), (0, u "java/lang/Object"), (0, .class_ 3)] 3

/-- java/io/Serializable -/
def k5 : Class := { plain "java/io/Serializable" (some 0) with
  accessFlags := 1537
  interfaces := #[]
  cf := some (fileOf pool5 2 #[] #[] 1537 4 #[] #[])
  fields := #[]
  methods := #[]
  instanceTypes := #[]
  staticTypes := #[]
  resolved := Array.replicate 8 none
  statics := none }

/-- the primitive byte -/
def k6 : Class := { plain "byte" none with kind := .primitive 'B', accessFlags := 0x411 }
/-- [B -/
def k7 : Class := { plain "[B" (some 0) with kind := .array 6 .byte, interfaces := #[4, 5], accessFlags := 1041 }

/-- the primitive int -/
def k8 : Class := { plain "int" none with kind := .primitive 'I', accessFlags := 0x411 }
/-- [I -/
def k9 : Class := { plain "[I" (some 0) with kind := .array 8 .int, interfaces := #[4, 5], accessFlags := 1041 }

def heap : Heap := #[]
def classes : Array Class := #[k0, k1, k2, k3, k4, k5, k6, k7, k8, k9]
def interned : List (Array UInt16 × Addr) := []
def slotsUsed : Nat := 0
def theMethod : MethodId := ⟨1, 1⟩
def args0 : Array Value := #[.int 5, .int 9, .long 3]
def aboutOver (below : List Frame) : State where
  vm := { classes := classes, interned := interned.toArray }
  heap := heap
  slotsUsed := slotsUsed
  threads := #[{ frames := .invoking theMethod args0 :: below }]
def below0 : List Frame := [.native { method := ⟨0, 0⟩, args := #[] }]
def about1 : State := aboutOver below0
def p0 : Program := .bare "" "" ""
def e0 : Env := launch0.env 0 0 0
theorem w_frames : about1.frames = Frame.invoking theMethod args0 :: below0 := rfl
set_option maxRecDepth 65536 in
theorem w_args : argsFit about1.vm theMethod args0 = true := by decide +kernel
set_option maxRecDepth 65536 in
theorem w_heap : heapFits about1 = true := by decide +kernel
set_option maxRecDepth 65536 in
theorem w_runnable : about1.curStatus? = some .runnable := by decide +kernel
set_option maxRecDepth 65536 in
theorem w_alone : about1.alone = true := by decide +kernel
set_option maxRecDepth 65536 in
theorem w_named : about1.methodNamed? x = some theMethod := by decide +kernel
set_option maxRecDepth 65536 in
theorem w_hears : about1.hears theMethod below0 = true := by decide +kernel
set_option maxRecDepth 65536 in
theorem w_ripe : about1.ripe theMethod args0 below0 = true := by decide +kernel
theorem w_running : about1.status = .running := rfl
set_option maxRecDepth 65536 in
theorem w_room : about1.hasRoom e0.platform room_1 = true :=
  launch0.hasRoom_least _ room_1 (by decide +kernel) (by decide +kernel) (by decide +kernel) (by decide +kernel) (by decide +kernel) (by decide +kernel)
theorem allAtoms_all (ts : List Jvm.Cond) (a : Array Jvm.Value) (st : Jvm.State) : (allAtoms ts).before a st = ts.all (fun c => c.before a st) := by
  induction ts with
  | nil => rfl
  | cons c t ih =>
    show (Jvm.Cond.and c (allAtoms t)).before a st = _
    rw [Jvm.Cond.before_and, ih, List.all_cons]
def words1 : List Jvm.Cond := Jvm.Cond.code x code maxLocals ret :: tables_1
/-- a 'code' word, met by the world's own term for the bytes: nothing is compared byte by byte -/
theorem code_word {y : MethodName} {bytes : ByteArray} {mx : Nat} {rt : Option FieldType} {a : Array Value} {s : State} {m : MethodId} {meth : Method} {c : Code} (h1 : s.methodNamed? y = some m) (h2 : s.vm.method? m = some meth) (h3 : meth.code = some c) (h4 : c.code = bytes)
    (h5 : (c.maxLocals == mx && c.exceptionTable.isEmpty && decide (c.maxStack ≤ mostOperands) && decide (meth.sig.returnType = rt) && !meth.locks && decide (parseMethodDescriptor y.desc = some meth.sig)) = true) : (Jvm.Cond.code y bytes mx rt).before a s = true := by
  simp only [Bool.and_eq_true, beq_iff_eq, Bool.not_eq_true', decide_eq_true_eq] at h5
  obtain ⟨⟨⟨⟨⟨g1, g2⟩, g3⟩, g4⟩, g5⟩, g6⟩ := h5
  simp [Cond.before, Cond.holds, Cond.value, h1, h2, h3, h4, g1, g2, g3, g4, g5, g6]
def isCode : Jvm.Cond → Bool
  | .code _ _ _ _ => true
  | _ => false
theorem all_split {L : List Jvm.Cond} {P : Jvm.Cond → Bool} (h1 : L.all (fun c => isCode c || P c) = true) (h2 : ∀ c ∈ L.filter isCode, P c = true) : L.all P = true := by
  refine List.all_eq_true.mpr fun c hc => ?_
  have h := List.all_eq_true.mp h1 c hc
  rcases Bool.eq_false_or_eq_true (isCode c) with hi | hi
  · exact h2 c (List.mem_filter.mpr ⟨hc, hi⟩)
  · simpa [hi] using h
set_option maxRecDepth 65536 in
theorem w_c0 : (Jvm.Cond.code x code maxLocals ret).before args0 about1 = true := code_word (m := ⟨1, 1⟩) (meth := k1m1) (c := k1c1) (by decide +kernel) rfl rfl rfl (by decide +kernel)
set_option maxRecDepth 65536 in
theorem w_c1 : (Jvm.Cond.code ({ cls := "java/lang/Math", name := "min", desc := "(II)I" } : Jvm.MethodName) jdk_29_method_69_code (2 : Nat) (Option.some Jvm.ClassFile.FieldType.int)).before args0 about1 = true := code_word (m := ⟨2, 3⟩) (meth := k2m3) (c := k2c3) (by decide +kernel) rfl rfl rfl (by decide +kernel)
set_option maxRecDepth 65536 in
theorem w_c2 : (Jvm.Cond.code ({ cls := "java/lang/Math", name := "max", desc := "(II)I" } : Jvm.MethodName) jdk_29_method_65_code (2 : Nat) (Option.some Jvm.ClassFile.FieldType.int)).before args0 about1 = true := code_word (m := ⟨2, 1⟩) (meth := k2m1) (c := k2c1) (by decide +kernel) rfl rfl rfl (by decide +kernel)
set_option maxRecDepth 65536 in
theorem w_c3 : (Jvm.Cond.code ({ cls := "java/lang/Math", name := "min", desc := "(JJ)J" } : Jvm.MethodName) jdk_29_method_70_code (4 : Nat) (Option.some Jvm.ClassFile.FieldType.long)).before args0 about1 = true := code_word (m := ⟨2, 4⟩) (meth := k2m4) (c := k2c4) (by decide +kernel) rfl rfl rfl (by decide +kernel)
set_option maxRecDepth 65536 in
theorem w_c4 : (Jvm.Cond.code ({ cls := "java/lang/Math", name := "max", desc := "(JJ)J" } : Jvm.MethodName) jdk_29_method_66_code (4 : Nat) (Option.some Jvm.ClassFile.FieldType.long)).before args0 about1 = true := code_word (m := ⟨2, 2⟩) (meth := k2m2) (c := k2c2) (by decide +kernel) rfl rfl rfl (by decide +kernel)
set_option maxRecDepth 65536 in
theorem w_c5 : (Jvm.Cond.code ({ cls := "com/example/braid/braid/DocMerge", name := "dense", desc := "(IIJ)Z" } : Jvm.MethodName) prog_6_method_3_code (4 : Nat) (Option.some Jvm.ClassFile.FieldType.boolean)).before args0 about1 = true := code_word (m := ⟨3, 1⟩) (meth := k3m1) (c := k3c1) (by decide +kernel) rfl rfl rfl (by decide +kernel)
set_option maxRecDepth 65536 in
theorem w_c6 : (Jvm.Cond.code ({ cls := "com/example/braid/braid/DocMerge", name := "words", desc := "(II)I" } : Jvm.MethodName) prog_6_method_2_code (2 : Nat) (Option.some Jvm.ClassFile.FieldType.int)).before args0 about1 = true := code_word (m := ⟨3, 0⟩) (meth := k3m0) (c := k3c0) (by decide +kernel) rfl rfl rfl (by decide +kernel)
def codes1 : List Jvm.Cond := [Jvm.Cond.code x code maxLocals ret, Jvm.Cond.code ({ cls := "java/lang/Math", name := "min", desc := "(II)I" } : Jvm.MethodName) jdk_29_method_69_code (2 : Nat) (Option.some Jvm.ClassFile.FieldType.int), Jvm.Cond.code ({ cls := "java/lang/Math", name := "max", desc := "(II)I" } : Jvm.MethodName) jdk_29_method_65_code (2 : Nat) (Option.some Jvm.ClassFile.FieldType.int), Jvm.Cond.code ({ cls := "java/lang/Math", name := "min", desc := "(JJ)J" } : Jvm.MethodName) jdk_29_method_70_code (4 : Nat) (Option.some Jvm.ClassFile.FieldType.long), Jvm.Cond.code ({ cls := "java/lang/Math", name := "max", desc := "(JJ)J" } : Jvm.MethodName) jdk_29_method_66_code (4 : Nat) (Option.some Jvm.ClassFile.FieldType.long), Jvm.Cond.code ({ cls := "com/example/braid/braid/DocMerge", name := "dense", desc := "(IIJ)Z" } : Jvm.MethodName) prog_6_method_3_code (4 : Nat) (Option.some Jvm.ClassFile.FieldType.boolean), Jvm.Cond.code ({ cls := "com/example/braid/braid/DocMerge", name := "words", desc := "(II)I" } : Jvm.MethodName) prog_6_method_2_code (2 : Nat) (Option.some Jvm.ClassFile.FieldType.int)]
set_option maxRecDepth 65536 in
theorem codes_eq : words1.filter isCode = codes1 := rfl
theorem w_codes : ∀ c ∈ words1.filter isCode, c.before args0 about1 = true := by
  rw [codes_eq]
  intro c hc
  simp only [codes1, List.mem_cons, List.not_mem_nil, or_false] at hc
  rcases hc with rfl | rfl | rfl | rfl | rfl | rfl | rfl
  · exact w_c0
  · exact w_c1
  · exact w_c2
  · exact w_c3
  · exact w_c4
  · exact w_c5
  · exact w_c6
set_option maxRecDepth 65536 in
theorem w_t1 : (words1.take 24).all (fun c => isCode c || c.before args0 about1) = true := by decide +kernel
set_option maxRecDepth 65536 in
theorem w_t2 : (words1.drop 24).all (fun c => isCode c || c.before args0 about1) = true := by decide +kernel
theorem w_tables : (allAtoms (Jvm.Cond.code x code maxLocals ret :: tables_1)).before args0 about1 = true := by
  rw [allAtoms_all]
  show words1.all (fun c => c.before args0 about1) = true
  refine all_split ?_ w_codes
  rw [← List.take_append_drop 24 words1, List.all_append, w_t1, w_t2]
  rfl
set_option maxRecDepth 65536 in
theorem w_case : (Jvm.Cond.and given_1 narrow_1).before args0 about1 = true := by decide +kernel
theorem w_applies : (headSpec (Jvm.Cond.code x code maxLocals ret :: tables_1) room_1).applies x e0.platform about1 = true :=
  (Spec.applies_iff w_frames).mpr ⟨w_running, w_runnable, w_alone, w_named, w_hears, w_ripe, w_room, w_tables⟩
theorem atStart : AtStart classFile x code maxLocals ret World_1 tables_1 room_1 Calls_1 rest_1 Pre_1 launch0 p0 e0 about1 theMethod args0 below0 :=
  ⟨lists_1, trivial, launch0.admits_env _ _ _, launch0.least_env, fairChoices_fair.cas, fairChoices_fair.clock, w_frames, w_args, w_heap, w_applies, trivial, trivial, w_case⟩
end start1
theorem witness_1 : WitnessClaimed_1 := ⟨start1.p0, start1.e0, start1.about1, start1.theMethod, start1.args0, start1.below0, start1.atStart⟩
end Jvm.Pilot.@@N@@
