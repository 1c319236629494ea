import JvmDerived
import JvmDerived.Pilot.@@N@@Statement
import JvmDerived.Pilot.@@N@@Code
set_option linter.unusedVariables false
set_option linter.unusedSimpArgs false
namespace Jvm.RoadKit
open Sem ClassFile Op Lib Jvm.Stand Jvm.Free Jvm.LawKit
section New
variable {p : Program} {l : Launch} {e : Env} {R : Room} {s : State} {m : MethodId} {args : Array Value} {below : List Frame} {meth : Method} {c : Code} {T : State} {locs : List Loc} {cells slots : Nat}
theorem retI (X : Stand p l e R s m args below meth c T locs cells slots) (hx : p.tables.exec = Jvm.exec) {pc : Nat} {Ls : Array Slot} {z : Int32} {rest : List Value} (hret : meth.sig.returnType = some .int) (hd : decode c.code pc = .ok (.ireturn, 1)) {fs : List Frame}
    (hl : ∀ (f : JFrame) (acts : List Action), f.method = m → f.locked = none → f.entered = [] → (doReturn e (T.setTop f) acts (some (.int z))).1 = T.setFrames fs) : Steps p.tables e below (T.setTop (mkF m pc Ls (.int z :: rest))) (T.setFrames fs) := by
  have hm' : T.vm.method? m = some meth := X.method'
  have hn : narrow .int (.int z) = .int z := rfl
  show Steps p.tables e below (T.setTop { method := m, pc := pc, locals := Ls, stack := _ :: rest, locked := none }) _
  jvm_step X.here [X.here.top, hx, hd, hm', hret, hn]
  first | (intro acts; rw [hl _ acts rfl rfl rfl]) | rw [hl _ _ rfl rfl rfl]
  exact Steps.refl _
end New
end Jvm.RoadKit
namespace Jvm.Pilot.@@N@@
open Jvm Jvm.ClassFile Sem Op Lib Jvm.Free Jvm.Stand Jvm.LawKit Jvm.RoadKit Bundle Jvm.Pilot.@@N@@.Jvm.D
def QP (r : Option Value) (h0 : Heap) (n0 : Nat) (v : Option Value) (h : Heap) (L : List Loc) : Prop := v = r ∧ Fr n0 L ∧ h = h0
def Ctx (p : Program) (s : State) (m : MethodId) (meth : Method) (c : Code) (Z : State) (a0 : Array Value) (own : String) (bytes : ByteArray) (ml : Nat) (rt : Option FieldType) (name : String) : Prop :=
  p.tables.exec = Jvm.exec ∧ Z.Warmed39 s.vm ∧ (∀ d ∈ tables_1, d.before a0 Z = true) ∧ c.code = bytes ∧ c.maxLocals = ml ∧ s.vm.findClass own = some m.cls ∧ meth.sig.returnType = rt ∧ meth.locks = false ∧ meth.name = name
/-- from T with the frame g on top the run comes to a return, of which Φ holds -/
def Runs (p : Program) (e : Env) (below : List Frame) (s : State) (Φ : Option Value → Heap → List Loc → Prop) (k n : Nat) (T : State) (g : JFrame) : Prop :=
  ∃ s₂ o, Steps p.tables e below (T.setTop g) s₂ ∧ s₂.status = .running ∧ Ended s₂ below o ∧ ∃ v L, o = .returned v ∧ Φ v s₂.heap L ∧ FrameEnd s o s₂ L k n
section Own
variable {p : Program} {l : Launch} {e : Env} {R : Room} {s : State} {m : MethodId} {args : Array Value} {below : List Frame} {meth : Method} {c : Code} {T T' T0 Z : State} {a0 : Array Value} {locs : List Loc} {cells slots k n n0 : Nat} {h0 : Heap} {g g' : JFrame} {Φ : Option Value → Heap → List Loc → Prop}
theorem Runs.via (h : ∀ t, Steps p.tables e below (T'.setTop g') t → Steps p.tables e below (T.setTop g) t) (r : Runs p e below s Φ k n T' g') : Runs p e below s Φ k n T g := by
  obtain ⟨s₂, o, h1, r⟩ := r
  exact ⟨s₂, o, h _ h1, r⟩
theorem QP.cast {r r' : Option Value} (h : r = r') (H : Runs p e below s (QP r' h0 n0) k n T g) : Runs p e below s (QP r h0 n0) k n T g := by rw [h]; exact H
theorem own_retI (X : Stand p l e R s m args below meth c T locs cells slots) (hx : p.tables.exec = Jvm.exec) (hlk : meth.locks = false) (hret : meth.sig.returnType = some .int) {pc : Nat} {Ls : Array Slot} {z : Int32} {rest : List Value} (hd : decode c.code pc = .ok (.ireturn, 1)) (hk : cells ≤ k) (hn : slots ≤ n) (hΦ : Φ (some (.int z)) T.heap locs) :
    Runs p e below s Φ k n T (mkF m pc Ls (.int z :: rest)) := by
  obtain ⟨fs, hr, hrun, hended, hW, hsame⟩ := X.leave (v := some (.int z)) (fun h => by rw [hret] at h; cases h) hlk
  exact ⟨_, _, retI X hx hret hd hr, hrun, hended, _, _, rfl, hΦ, ⟨_, rfl⟩, hW, hsame.mono hk hn⟩
theorem own_retN (X : Stand p l e R s m args below meth c T locs cells slots) (hx : p.tables.exec = Jvm.exec) (hlk : meth.locks = false) {t : FieldType} (hret : meth.sig.returnType = some t) (ht : t = .boolean ∨ t = .byte ∨ t = .char ∨ t = .short) {pc : Nat} {Ls : Array Slot} {z : Int32} {rest : List Value} (hd : decode c.code pc = .ok (.ireturn, 1)) (hk : cells ≤ k) (hn : slots ≤ n) (hΦ : Φ (some (.int (nar t z))) T.heap locs) :
    Runs p e below s Φ k n T (mkF m pc Ls (.int z :: rest)) := by
  obtain ⟨fs, hr, hrun, hended, hW, hsame⟩ := X.leave (v := some (.int (nar t z))) (fun h => by rw [hret] at h; cases h) hlk
  exact ⟨_, _, retN X hx hret ht hd hr, hrun, hended, _, _, rfl, hΦ, ⟨_, rfl⟩, hW, hsame.mono hk hn⟩
theorem own_retJ (X : Stand p l e R s m args below meth c T locs cells slots) (hx : p.tables.exec = Jvm.exec) (hlk : meth.locks = false) (hret : meth.sig.returnType = some .long) {pc : Nat} {Ls : Array Slot} {z : Int64} (hd : decode c.code pc = .ok (.lreturn, 1)) (hk : cells ≤ k) (hn : slots ≤ n) (hΦ : Φ (some (.long z)) T.heap locs) :
    Runs p e below s Φ k n T (mkF m pc Ls [.long z]) := by
  obtain ⟨fs, hr, hrun, hended, hW, hsame⟩ := X.leave (v := some (.long z)) (fun h => by rw [hret] at h; cases h) hlk
  exact ⟨_, _, X.lreturnOut hx hret hd hr, hrun, hended, _, _, rfl, hΦ, ⟨_, rfl⟩, hW, hsame.mono hk hn⟩
theorem d1_0 : decode prog_47_method_5_code 0 = .ok (.iload_n 0, 1) := by decide +kernel
theorem d1_1 : decode prog_47_method_5_code 1 = .ok (.i2l, 1) := by decide +kernel
theorem d1_2 : decode prog_47_method_5_code 2 = .ok (.ldc2_w 70, 3) := by decide +kernel
theorem d1_5 : decode prog_47_method_5_code 5 = .ok (.lmul, 1) := by decide +kernel
theorem d1_6 : decode prog_47_method_5_code 6 = .ok (.iload_n 1, 1) := by decide +kernel
theorem d1_7 : decode prog_47_method_5_code 7 = .ok (.ifCond .eq 9, 3) := by decide +kernel
theorem d1_10 : decode prog_47_method_5_code 10 = .ok (.ldc2_w 72, 3) := by decide +kernel
theorem d1_13 : decode prog_47_method_5_code 13 = .ok (.goto 4, 3) := by decide +kernel
theorem d1_16 : decode prog_47_method_5_code 16 = .ok (.lconst 0, 1) := by decide +kernel
theorem d1_17 : decode prog_47_method_5_code 17 = .ok (.lsub, 1) := by decide +kernel
theorem d1_18 : decode prog_47_method_5_code 18 = .ok (.bipush 32, 2) := by decide +kernel
theorem d1_20 : decode prog_47_method_5_code 20 = .ok (.lshr, 1) := by decide +kernel
theorem d1_21 : decode prog_47_method_5_code 21 = .ok (.l2i, 1) := by decide +kernel
theorem d1_22 : decode prog_47_method_5_code 22 = .ok (.ireturn, 1) := by decide +kernel
def g1_17 (w0 : Int64) (w1 : Int64) : Int32 := (Int64.toInt32 ((w1 - w0) >>> ((32 : Int32) &&& 0x3f).toInt64))
set_option maxRecDepth 65536 in
set_option maxHeartbeats 4000000 in
theorem b1_17 (C : Ctx p s m meth c Z a0 "com/example/wirelace/wirelace/message/ShortestDecimal" prog_47_method_5_code 2 (some .int) "decimalExponent") (X0 : Stand p l e ({ frames := 0, cells := 0, slots := 0, locals := 0 } : Room) s m args below meth c T0 locs cells slots) (e0 : T0.heap = h0) (N0 : Fr n0 locs) (hk : cells ≤ 0) (hn : slots ≤ 0) (x0 : Int32) (x1 : Int32) (w0 : Int64) (w1 : Int64) :
    Runs p e below s (QP (some (.int (g1_17 w0 w1))) h0 n0) 0 0 T0 (mkF m 17 #[.val (.int x0), .val (.int x1)] [(.long w0), (.long w1)]) := by
  have ⟨hx, hZ, hw, hby, hml, hown, hret, hlk, hnm⟩ := C
  refine Runs.via (T' := T0) (g' := (mkF m 22 #[.val (.int x0), .val (.int x1)] [(.int (Int64.toInt32 ((w1 - w0) >>> ((32 : Int32) &&& 0x3f).toInt64)))])) (fun t k => ?_) ?_
  · show Steps p.tables e below (T0.setTop (mkF m 17 #[.val (.int x0), .val (.int x1)] [(.long w0), (.long w1)])) t
    refine XS.lsub X0.here hx rfl (hb hby d1_17) rfl ?_
    show Steps p.tables e below (T0.setTop (mkF m 18 #[.val (.int x0), .val (.int x1)] [(.long (w1 - w0))])) t
    refine XS.bipush X0.here hx rfl (hb hby d1_18) ?_
    show Steps p.tables e below (T0.setTop (mkF m 20 #[.val (.int x0), .val (.int x1)] [(.int (32 : Int32)), (.long (w1 - w0))])) t
    refine XS.lshr X0.here hx rfl (hb hby d1_20) rfl ?_
    show Steps p.tables e below (T0.setTop (mkF m 21 #[.val (.int x0), .val (.int x1)] [(.long ((w1 - w0) >>> ((32 : Int32) &&& 0x3f).toInt64))])) t
    refine XS.l2i X0.here hx rfl (hb hby d1_21) rfl ?_
    exact k
  refine QP.cast (congrArg (fun z => some (Value.int z)) (rfl : (g1_17 w0 w1) = (Int64.toInt32 ((w1 - w0) >>> ((32 : Int32) &&& 0x3f).toInt64)))) ?_
  exact own_retI X0 hx hlk hret (hb hby d1_22) hk hn ⟨rfl, N0, e0⟩
def g1_0 (x0 : Int32) (x1 : Int32) : Int32 := (if x1 = (0 : Int32) then (g1_17 (0 : Int64) ((Int32.toInt64 x0) * (1292913986 : Int64))) else (g1_17 (536607788 : Int64) ((Int32.toInt64 x0) * (1292913986 : Int64))))
set_option maxRecDepth 65536 in
set_option maxHeartbeats 4000000 in
theorem b1_0 (C : Ctx p s m meth c Z a0 "com/example/wirelace/wirelace/message/ShortestDecimal" prog_47_method_5_code 2 (some .int) "decimalExponent") (X0 : Stand p l e ({ frames := 0, cells := 0, slots := 0, locals := 0 } : Room) s m args below meth c T0 locs cells slots) (e0 : T0.heap = h0) (N0 : Fr n0 locs) (hk : cells ≤ 0) (hn : slots ≤ 0) (x0 : Int32) (x1 : Int32) :
    Runs p e below s (QP (some (.int (g1_0 x0 x1))) h0 n0) 0 0 T0 (mkF m 0 #[.val (.int x0), .val (.int x1)] []) := by
  have ⟨hx, hZ, hw, hby, hml, hown, hret, hlk, hnm⟩ := C
  refine Runs.via (T' := T0) (g' := (mkF m 7 #[.val (.int x0), .val (.int x1)] [(.int x1), (.long ((Int32.toInt64 x0) * (1292913986 : Int64)))])) (fun t k => ?_) ?_
  · show Steps p.tables e below (T0.setTop (mkF m 0 #[.val (.int x0), .val (.int x1)] [])) t
    refine XS.iloadN X0.here hx rfl (hb hby d1_0) rfl ?_
    show Steps p.tables e below (T0.setTop (mkF m 1 #[.val (.int x0), .val (.int x1)] [(.int x0)])) t
    refine XS.i2l X0.here hx rfl (hb hby d1_1) rfl ?_
    show Steps p.tables e below (T0.setTop (mkF m 2 #[.val (.int x0), .val (.int x1)] [(.long (Int32.toInt64 x0))])) t
    refine X0.ldc2Long hx hown (mvT hZ (hw _ (List.mem_of_getElem? (i := 7) rfl))) (g := (mkF m 2 #[.val (.int x0), .val (.int x1)] [(.long (Int32.toInt64 x0))])) rfl (hb hby d1_2) _ ?_
    show Steps p.tables e below (T0.setTop (mkF m 5 #[.val (.int x0), .val (.int x1)] [(.long (1292913986 : Int64)), (.long (Int32.toInt64 x0))])) t
    refine XS.lmul X0.here hx rfl (hb hby d1_5) rfl ?_
    show Steps p.tables e below (T0.setTop (mkF m 6 #[.val (.int x0), .val (.int x1)] [(.long ((Int32.toInt64 x0) * (1292913986 : Int64)))])) t
    refine XS.iloadN X0.here hx rfl (hb hby d1_6) rfl ?_
    exact k
  by_cases hc1 : x1 = (0 : Int32)
  · refine Runs.via (T' := T0) (g' := (mkF m 16 #[.val (.int x0), .val (.int x1)] [(.long ((Int32.toInt64 x0) * (1292913986 : Int64)))])) (fun t k => ?_) ?_
    · show Steps p.tables e below (T0.setTop (mkF m 7 #[.val (.int x0), .val (.int x1)] [(.int x1), (.long ((Int32.toInt64 x0) * (1292913986 : Int64)))])) t
      exact XS.ifYes X0.here hx rfl (pc0 := 7) (pc' := 16) rfl (hb hby d1_7) rfl ((if0 _ _).trans (teq hc1).1) (by decide) (by decide) k
    refine Runs.via (T' := T0) (g' := (mkF m 17 #[.val (.int x0), .val (.int x1)] [(.long (0 : Int64)), (.long ((Int32.toInt64 x0) * (1292913986 : Int64)))])) (fun t k => ?_) ?_
    · show Steps p.tables e below (T0.setTop (mkF m 16 #[.val (.int x0), .val (.int x1)] [(.long ((Int32.toInt64 x0) * (1292913986 : Int64)))])) t
      refine XS.lconst X0.here hx rfl (hb hby d1_16) ?_
      exact k
    refine QP.cast (congrArg (fun z => some (Value.int z)) (show (g1_0 x0 x1) = (g1_17 (0 : Int64) ((Int32.toInt64 x0) * (1292913986 : Int64))) from (if_pos hc1))) ?_
    exact b1_17 C X0 e0 N0 hk hn x0 x1 (0 : Int64) ((Int32.toInt64 x0) * (1292913986 : Int64))
  · refine Runs.via (T' := T0) (g' := (mkF m 10 #[.val (.int x0), .val (.int x1)] [(.long ((Int32.toInt64 x0) * (1292913986 : Int64)))])) (fun t k => ?_) ?_
    · show Steps p.tables e below (T0.setTop (mkF m 7 #[.val (.int x0), .val (.int x1)] [(.int x1), (.long ((Int32.toInt64 x0) * (1292913986 : Int64)))])) t
      exact XS.ifNo X0.here hx rfl (hb hby d1_7) rfl ((if0 _ _).trans (feq hc1).1) k
    refine Runs.via (T' := T0) (g' := (mkF m 17 #[.val (.int x0), .val (.int x1)] [(.long (536607788 : Int64)), (.long ((Int32.toInt64 x0) * (1292913986 : Int64)))])) (fun t k => ?_) ?_
    · show Steps p.tables e below (T0.setTop (mkF m 10 #[.val (.int x0), .val (.int x1)] [(.long ((Int32.toInt64 x0) * (1292913986 : Int64)))])) t
      refine X0.ldc2Long hx hown (mvT hZ (hw _ (List.mem_of_getElem? (i := 8) rfl))) (g := (mkF m 10 #[.val (.int x0), .val (.int x1)] [(.long ((Int32.toInt64 x0) * (1292913986 : Int64)))])) rfl (hb hby d1_10) _ ?_
      show Steps p.tables e below (T0.setTop (mkF m 13 #[.val (.int x0), .val (.int x1)] [(.long (536607788 : Int64)), (.long ((Int32.toInt64 x0) * (1292913986 : Int64)))])) t
      refine XS.goto X0.here hx rfl (pc0 := 13) (pc' := 17) rfl (hb hby d1_13) (by decide) (by decide) ?_
      exact k
    refine QP.cast (congrArg (fun z => some (Value.int z)) (show (g1_0 x0 x1) = (g1_17 (536607788 : Int64) ((Int32.toInt64 x0) * (1292913986 : Int64))) from (if_neg hc1))) ?_
    exact b1_17 C X0 e0 N0 hk hn x0 x1 (536607788 : Int64) ((Int32.toInt64 x0) * (1292913986 : Int64))
def f1 (x0 : Int32) (x1 : Int32) : Int32 := g1_0 x0 x1
theorem pn_1 : plainName "com/example/wirelace/wirelace/message/ShortestDecimal" = true := by first | (simp [plainName, overriddenIn]; done) | decide +kernel
theorem ef_1 (m : MethodId) (x0 : Int32) (x1 : Int32) : entryFrame m #[(.int x0), (.int x1)] 2 = mkF m 0 #[.val (.int x0), .val (.int x1)] [] := by first | (simp [entryFrame, mkF, argsToLocals, Value.category]; done) | rfl
set_option maxRecDepth 65536 in
set_option maxHeartbeats 4000000 in
theorem rm1 (l : Launch) (Z : State) (a0 : Array Value) (hw : ∀ d ∈ tables_1, d.before a0 Z = true) (ws : List Jvm.Cond) (x0 : Int32) (x1 : Int32) (h0 : Heap) (n0 : Nat) :
    MetFree l (⟨"com/example/wirelace/wirelace/message/ShortestDecimal", "decimalExponent", "(IZ)I"⟩ : MethodName) (head1 (Jvm.Cond.code (⟨"com/example/wirelace/wirelace/message/ShortestDecimal", "decimalExponent", "(IZ)I"⟩ : MethodName) prog_47_method_5_code 2 (some .int) :: ws) ({ frames := 0, cells := 0, slots := 0, locals := 0 } : Room)) (fun a U => a = #[(.int x0), (.int x1)] ∧ Z.Warmed39 U.vm ∧ U.heap = h0) (fun _ _ _ _ _ => True) (fun _ U o U' => ∃ v L, o = .returned v ∧ QP (some (.int (f1 x0 x1))) h0 n0 v U'.heap L ∧ FrameEnd U o U' L ({ frames := 0, cells := 0, slots := 0, locals := 0 } : Room).cells ({ frames := 0, cells := 0, slots := 0, locals := 0 } : Room).slots) := by
  refine MetFree.of_bodySF (plainFor_of_name pn_1) hisR ?_
  intro p e s m args below meth c s₁ Bd hml0 hP hK
  obtain ⟨rfl, hZ, hh⟩ := hP
  have X0 : Stand p l e ({ frames := 0, cells := 0, slots := 0, locals := 0 } : Room) s m #[(.int x0), (.int x1)] below meth c s₁ [] 0 0 := Stand.of_body Bd
  have e0 : s₁.heap = h0 := by rw [← hh, Bd.state]; rfl
  have C : Ctx p s m meth c Z a0 "com/example/wirelace/wirelace/message/ShortestDecimal" prog_47_method_5_code 2 (some .int) "decimalExponent" := ⟨Bd.exec, hZ, hw, Bd.bytes, hml0, findClass_of_methodNamed Bd.named, Bd.returns, BodyLoose.notSynchronized Bd, (name_of_methodNamed Bd.named Bd.method).1⟩
  refine Runs.via (fun t k => castTop (ef_1 m x0 x1) k) (b1_0 C X0 e0 (Fr.nil n0) (Nat.le_refl 0) (Nat.le_refl 0) x0 x1)
theorem pd_0 : parseMethodDescriptor "(IZ)I" = some ⟨[.int, .boolean], some .int⟩ := by decide +kernel
def g0_42 (x2 : Int32) (x3 : Int32) (w0 : Int64) (w1 : Int64) : Int32 := (if (f1 x2 x3) = (Int64.toInt32 ((w1 - w0) >>> ((41 : Int32) &&& 0x3f).toInt64)) then (1 : Int32) else (0 : Int32))
set_option maxRecDepth 65536 in
set_option maxHeartbeats 4000000 in
theorem b0_42 (C : Ctx p s m meth c Z a0 "com/example/wirelace/wirelace/message/ShortestDecimalDecimalExponentPinLaw" code 7 (some .boolean) "law") (X0 : Stand p l e room_1 s m args below meth c T0 locs cells slots) (e0 : T0.heap = h0) (N0 : Fr n0 locs) (hk : cells ≤ 0) (hn : slots ≤ 0) (x0 : Int32) (x1 : Int32) (x2 : Int32) (x3 : Int32) (w0 : Int64) (w1 : Int64) :
    Runs p e below s (QP (some (.int (g0_42 x2 x3 w0 w1))) h0 n0) 0 0 T0 (mkF m 42 #[.val (.int x0), .val (.int x1), .val (.int x2), .val (.int x3), .unset, .unset, .unset] [(.long w0), (.long w1)]) := by
  have ⟨hx, hZ, hw, hby, hml, hown, hret, hlk, hnm⟩ := C
  refine Runs.via (T' := T0) (g' := (mkF m 55 #[.val (.int x0), .val (.int x1), .val (.int x2), .val (.int x3), .val (.long (w1 - w0)), .second, .val (.int (Int64.toInt32 ((w1 - w0) >>> ((41 : Int32) &&& 0x3f).toInt64)))] [(.int x3), (.int x2)])) (fun t k => ?_) ?_
  · show Steps p.tables e below (T0.setTop (mkF m 42 #[.val (.int x0), .val (.int x1), .val (.int x2), .val (.int x3), .unset, .unset, .unset] [(.long w0), (.long w1)])) t
    refine XS.lsub X0.here hx rfl (hb hby at_42) rfl ?_
    show Steps p.tables e below (T0.setTop (mkF m 43 #[.val (.int x0), .val (.int x1), .val (.int x2), .val (.int x3), .unset, .unset, .unset] [(.long (w1 - w0))])) t
    refine XS.lstore X0.here hx rfl (hb hby at_43) rfl (l' := #[.val (.int x0), .val (.int x1), .val (.int x2), .val (.int x3), .val (.long (w1 - w0)), .second, .unset]) rfl ?_
    show Steps p.tables e below (T0.setTop (mkF m 45 #[.val (.int x0), .val (.int x1), .val (.int x2), .val (.int x3), .val (.long (w1 - w0)), .second, .unset] [])) t
    refine XS.lload X0.here hx rfl (hb hby at_45) rfl ?_
    show Steps p.tables e below (T0.setTop (mkF m 47 #[.val (.int x0), .val (.int x1), .val (.int x2), .val (.int x3), .val (.long (w1 - w0)), .second, .unset] [(.long (w1 - w0))])) t
    refine XS.bipush X0.here hx rfl (hb hby at_47) ?_
    show Steps p.tables e below (T0.setTop (mkF m 49 #[.val (.int x0), .val (.int x1), .val (.int x2), .val (.int x3), .val (.long (w1 - w0)), .second, .unset] [(.int (41 : Int32)), (.long (w1 - w0))])) t
    refine XS.lshr X0.here hx rfl (hb hby at_49) rfl ?_
    show Steps p.tables e below (T0.setTop (mkF m 50 #[.val (.int x0), .val (.int x1), .val (.int x2), .val (.int x3), .val (.long (w1 - w0)), .second, .unset] [(.long ((w1 - w0) >>> ((41 : Int32) &&& 0x3f).toInt64))])) t
    refine XS.l2i X0.here hx rfl (hb hby at_50) rfl ?_
    show Steps p.tables e below (T0.setTop (mkF m 51 #[.val (.int x0), .val (.int x1), .val (.int x2), .val (.int x3), .val (.long (w1 - w0)), .second, .unset] [(.int (Int64.toInt32 ((w1 - w0) >>> ((41 : Int32) &&& 0x3f).toInt64)))])) t
    refine XS.istore X0.here hx rfl (hb hby at_51) rfl (l' := #[.val (.int x0), .val (.int x1), .val (.int x2), .val (.int x3), .val (.long (w1 - w0)), .second, .val (.int (Int64.toInt32 ((w1 - w0) >>> ((41 : Int32) &&& 0x3f).toInt64)))]) rfl ?_
    show Steps p.tables e below (T0.setTop (mkF m 53 #[.val (.int x0), .val (.int x1), .val (.int x2), .val (.int x3), .val (.long (w1 - w0)), .second, .val (.int (Int64.toInt32 ((w1 - w0) >>> ((41 : Int32) &&& 0x3f).toInt64)))] [])) t
    refine XS.iloadN X0.here hx rfl (hb hby at_53) rfl ?_
    show Steps p.tables e below (T0.setTop (mkF m 54 #[.val (.int x0), .val (.int x1), .val (.int x2), .val (.int x3), .val (.long (w1 - w0)), .second, .val (.int (Int64.toInt32 ((w1 - w0) >>> ((41 : Int32) &&& 0x3f).toInt64)))] [(.int x2)])) t
    refine XS.iloadN X0.here hx rfl (hb hby at_54) rfl ?_
    exact k
  obtain ⟨_, _, ⟨T1, L1, k1, n1⟩, -, X1, ⟨Lc1, hQ1, l1, y1, z1⟩, st1⟩ := Jvm.LawKit.callS X0 hx (y := (⟨"com/example/wirelace/wirelace/message/ShortestDecimal", "decimalExponent", "(IZ)I"⟩ : MethodName)) hown (mvT hZ (hw _ (List.mem_of_getElem? (i := 3) rfl))) (mvT hZ (hw _ (List.mem_of_getElem? (i := 4) rfl))) (mvT hZ (hw _ (List.mem_of_getElem? (i := 5) rfl))) (mvT hZ (hw _ (List.mem_of_getElem? (i := 6) rfl))) (by decide) (backOf (W := 0) (rm1 l Z a0 hw [] x2 x3 h0 n0) hZ (hw _ (List.mem_of_getElem? (i := 6) rfl)) (hw _ (List.mem_of_getElem? (i := 5) rfl)) (by decide) (by decide)) (g := (mkF m 55 #[.val (.int x0), .val (.int x1), .val (.int x2), .val (.int x3), .val (.long (w1 - w0)), .second, .val (.int (Int64.toInt32 ((w1 - w0) >>> ((41 : Int32) &&& 0x3f).toInt64)))] [(.int x3), (.int x2)])) rfl (by rw [hml]; rfl) (argsL := [(.int x2), (.int x3)]) (rest := []) (lenOf pd_0 rfl) rfl (by show 2 * 0 + _ ≤ _; exact Nat.le_of_eq rfl) (hb hby at_55) (fun _ _ => ⟨rfl, e0, (Nat.le_trans hk (by decide)), (Nat.le_trans hn (by decide))⟩)
  dsimp only [Pt.U, Pt.locs, Pt.cells, Pt.slots] at X1 l1 y1 z1 st1 hQ1
  subst l1 y1 z1
  obtain ⟨rfl, N1q, e1⟩ := hQ1
  have N1 := Fr.app N0 N1q
  refine Runs.via (T' := T1) (g' := (mkF m 58 #[.val (.int x0), .val (.int x1), .val (.int x2), .val (.int x3), .val (.long (w1 - w0)), .second, .val (.int (Int64.toInt32 ((w1 - w0) >>> ((41 : Int32) &&& 0x3f).toInt64)))] [(.int (f1 x2 x3))])) (fun t k => st1 _ k) ?_
  refine Runs.via (T' := T1) (g' := (mkF m 60 #[.val (.int x0), .val (.int x1), .val (.int x2), .val (.int x3), .val (.long (w1 - w0)), .second, .val (.int (Int64.toInt32 ((w1 - w0) >>> ((41 : Int32) &&& 0x3f).toInt64)))] [(.int (Int64.toInt32 ((w1 - w0) >>> ((41 : Int32) &&& 0x3f).toInt64))), (.int (f1 x2 x3))])) (fun t k => ?_) ?_
  · show Steps p.tables e below (T1.setTop (mkF m 58 #[.val (.int x0), .val (.int x1), .val (.int x2), .val (.int x3), .val (.long (w1 - w0)), .second, .val (.int (Int64.toInt32 ((w1 - w0) >>> ((41 : Int32) &&& 0x3f).toInt64)))] [(.int (f1 x2 x3))])) t
    refine XS.iload X1.here hx rfl (hb hby at_58) rfl ?_
    exact k
  by_cases hc2 : (f1 x2 x3) = (Int64.toInt32 ((w1 - w0) >>> ((41 : Int32) &&& 0x3f).toInt64))
  · refine Runs.via (T' := T1) (g' := (mkF m 63 #[.val (.int x0), .val (.int x1), .val (.int x2), .val (.int x3), .val (.long (w1 - w0)), .second, .val (.int (Int64.toInt32 ((w1 - w0) >>> ((41 : Int32) &&& 0x3f).toInt64)))] [])) (fun t k => ?_) ?_
    · show Steps p.tables e below (T1.setTop (mkF m 60 #[.val (.int x0), .val (.int x1), .val (.int x2), .val (.int x3), .val (.long (w1 - w0)), .second, .val (.int (Int64.toInt32 ((w1 - w0) >>> ((41 : Int32) &&& 0x3f).toInt64)))] [(.int (Int64.toInt32 ((w1 - w0) >>> ((41 : Int32) &&& 0x3f).toInt64))), (.int (f1 x2 x3))])) t
      exact XS.icmpNo X1.here hx rfl (hb hby at_60) rfl (teq hc2).2 k
    refine Runs.via (T' := T1) (g' := (mkF m 68 #[.val (.int x0), .val (.int x1), .val (.int x2), .val (.int x3), .val (.long (w1 - w0)), .second, .val (.int (Int64.toInt32 ((w1 - w0) >>> ((41 : Int32) &&& 0x3f).toInt64)))] [(.int (1 : Int32))])) (fun t k => ?_) ?_
    · show Steps p.tables e below (T1.setTop (mkF m 63 #[.val (.int x0), .val (.int x1), .val (.int x2), .val (.int x3), .val (.long (w1 - w0)), .second, .val (.int (Int64.toInt32 ((w1 - w0) >>> ((41 : Int32) &&& 0x3f).toInt64)))] [])) t
      refine XS.iconst X1.here hx rfl (hb hby at_63) ?_
      show Steps p.tables e below (T1.setTop (mkF m 64 #[.val (.int x0), .val (.int x1), .val (.int x2), .val (.int x3), .val (.long (w1 - w0)), .second, .val (.int (Int64.toInt32 ((w1 - w0) >>> ((41 : Int32) &&& 0x3f).toInt64)))] [(.int (1 : Int32))])) t
      refine XS.goto X1.here hx rfl (pc0 := 64) (pc' := 68) rfl (hb hby at_64) (by decide) (by decide) ?_
      exact k
    refine QP.cast (congrArg (fun z => some (Value.int z)) (show (g0_42 x2 x3 w0 w1) = (1 : Int32) from (if_pos hc2))) ?_
    exact own_retN X1 hx hlk (t := .boolean) hret (by simp) (hb hby at_68) hk hn ⟨rfl, N1, e1⟩
  · refine Runs.via (T' := T1) (g' := (mkF m 67 #[.val (.int x0), .val (.int x1), .val (.int x2), .val (.int x3), .val (.long (w1 - w0)), .second, .val (.int (Int64.toInt32 ((w1 - w0) >>> ((41 : Int32) &&& 0x3f).toInt64)))] [])) (fun t k => ?_) ?_
    · show Steps p.tables e below (T1.setTop (mkF m 60 #[.val (.int x0), .val (.int x1), .val (.int x2), .val (.int x3), .val (.long (w1 - w0)), .second, .val (.int (Int64.toInt32 ((w1 - w0) >>> ((41 : Int32) &&& 0x3f).toInt64)))] [(.int (Int64.toInt32 ((w1 - w0) >>> ((41 : Int32) &&& 0x3f).toInt64))), (.int (f1 x2 x3))])) t
      exact XS.icmpYes X1.here hx rfl (pc0 := 60) (pc' := 67) rfl (hb hby at_60) rfl (feq hc2).2 (by decide) (by decide) k
    refine Runs.via (T' := T1) (g' := (mkF m 68 #[.val (.int x0), .val (.int x1), .val (.int x2), .val (.int x3), .val (.long (w1 - w0)), .second, .val (.int (Int64.toInt32 ((w1 - w0) >>> ((41 : Int32) &&& 0x3f).toInt64)))] [(.int (0 : Int32))])) (fun t k => ?_) ?_
    · show Steps p.tables e below (T1.setTop (mkF m 67 #[.val (.int x0), .val (.int x1), .val (.int x2), .val (.int x3), .val (.long (w1 - w0)), .second, .val (.int (Int64.toInt32 ((w1 - w0) >>> ((41 : Int32) &&& 0x3f).toInt64)))] [])) t
      refine XS.iconst X1.here hx rfl (hb hby at_67) ?_
      exact k
    refine QP.cast (congrArg (fun z => some (Value.int z)) (show (g0_42 x2 x3 w0 w1) = (0 : Int32) from (if_neg hc2))) ?_
    exact own_retN X1 hx hlk (t := .boolean) hret (by simp) (hb hby at_68) hk hn ⟨rfl, N1, e1⟩
def g0_24 (x2 : Int32) (u0 : Int32) : Int32 := (if u0 = (0 : Int32) then (g0_42 x2 u0 (0 : Int64) ((Int32.toInt64 x2) * (661971961083 : Int64))) else (g0_42 x2 u0 (274743187321 : Int64) ((Int32.toInt64 x2) * (661971961083 : Int64))))
set_option maxRecDepth 65536 in
set_option maxHeartbeats 4000000 in
theorem b0_24 (C : Ctx p s m meth c Z a0 "com/example/wirelace/wirelace/message/ShortestDecimalDecimalExponentPinLaw" code 7 (some .boolean) "law") (X0 : Stand p l e room_1 s m args below meth c T0 locs cells slots) (e0 : T0.heap = h0) (N0 : Fr n0 locs) (hk : cells ≤ 0) (hn : slots ≤ 0) (x0 : Int32) (x1 : Int32) (x2 : Int32) (u0 : Int32) :
    Runs p e below s (QP (some (.int (g0_24 x2 u0))) h0 n0) 0 0 T0 (mkF m 24 #[.val (.int x0), .val (.int x1), .val (.int x2), .unset, .unset, .unset, .unset] [(.int u0)]) := by
  have ⟨hx, hZ, hw, hby, hml, hown, hret, hlk, hnm⟩ := C
  refine Runs.via (T' := T0) (g' := (mkF m 32 #[.val (.int x0), .val (.int x1), .val (.int x2), .val (.int u0), .unset, .unset, .unset] [(.int u0), (.long ((Int32.toInt64 x2) * (661971961083 : Int64)))])) (fun t k => ?_) ?_
  · show Steps p.tables e below (T0.setTop (mkF m 24 #[.val (.int x0), .val (.int x1), .val (.int x2), .unset, .unset, .unset, .unset] [(.int u0)])) t
    refine XS.istoreN X0.here hx rfl (hb hby at_24) rfl (l' := #[.val (.int x0), .val (.int x1), .val (.int x2), .val (.int u0), .unset, .unset, .unset]) rfl ?_
    show Steps p.tables e below (T0.setTop (mkF m 25 #[.val (.int x0), .val (.int x1), .val (.int x2), .val (.int u0), .unset, .unset, .unset] [])) t
    refine XS.iloadN X0.here hx rfl (hb hby at_25) rfl ?_
    show Steps p.tables e below (T0.setTop (mkF m 26 #[.val (.int x0), .val (.int x1), .val (.int x2), .val (.int u0), .unset, .unset, .unset] [(.int x2)])) t
    refine XS.i2l X0.here hx rfl (hb hby at_26) rfl ?_
    show Steps p.tables e below (T0.setTop (mkF m 27 #[.val (.int x0), .val (.int x1), .val (.int x2), .val (.int u0), .unset, .unset, .unset] [(.long (Int32.toInt64 x2))])) t
    refine X0.ldc2Long hx hown (mvT hZ (hw _ (List.mem_of_getElem? (i := 1) rfl))) (g := (mkF m 27 #[.val (.int x0), .val (.int x1), .val (.int x2), .val (.int u0), .unset, .unset, .unset] [(.long (Int32.toInt64 x2))])) rfl (hb hby at_27) _ ?_
    show Steps p.tables e below (T0.setTop (mkF m 30 #[.val (.int x0), .val (.int x1), .val (.int x2), .val (.int u0), .unset, .unset, .unset] [(.long (661971961083 : Int64)), (.long (Int32.toInt64 x2))])) t
    refine XS.lmul X0.here hx rfl (hb hby at_30) rfl ?_
    show Steps p.tables e below (T0.setTop (mkF m 31 #[.val (.int x0), .val (.int x1), .val (.int x2), .val (.int u0), .unset, .unset, .unset] [(.long ((Int32.toInt64 x2) * (661971961083 : Int64)))])) t
    refine XS.iloadN X0.here hx rfl (hb hby at_31) rfl ?_
    exact k
  by_cases hc1 : u0 = (0 : Int32)
  · refine Runs.via (T' := T0) (g' := (mkF m 41 #[.val (.int x0), .val (.int x1), .val (.int x2), .val (.int u0), .unset, .unset, .unset] [(.long ((Int32.toInt64 x2) * (661971961083 : Int64)))])) (fun t k => ?_) ?_
    · show Steps p.tables e below (T0.setTop (mkF m 32 #[.val (.int x0), .val (.int x1), .val (.int x2), .val (.int u0), .unset, .unset, .unset] [(.int u0), (.long ((Int32.toInt64 x2) * (661971961083 : Int64)))])) t
      exact XS.ifYes X0.here hx rfl (pc0 := 32) (pc' := 41) rfl (hb hby at_32) rfl ((if0 _ _).trans (teq hc1).1) (by decide) (by decide) k
    refine Runs.via (T' := T0) (g' := (mkF m 42 #[.val (.int x0), .val (.int x1), .val (.int x2), .val (.int u0), .unset, .unset, .unset] [(.long (0 : Int64)), (.long ((Int32.toInt64 x2) * (661971961083 : Int64)))])) (fun t k => ?_) ?_
    · show Steps p.tables e below (T0.setTop (mkF m 41 #[.val (.int x0), .val (.int x1), .val (.int x2), .val (.int u0), .unset, .unset, .unset] [(.long ((Int32.toInt64 x2) * (661971961083 : Int64)))])) t
      refine XS.lconst X0.here hx rfl (hb hby at_41) ?_
      exact k
    refine QP.cast (congrArg (fun z => some (Value.int z)) (show (g0_24 x2 u0) = (g0_42 x2 u0 (0 : Int64) ((Int32.toInt64 x2) * (661971961083 : Int64))) from (if_pos hc1))) ?_
    exact b0_42 C X0 e0 N0 hk hn x0 x1 x2 u0 (0 : Int64) ((Int32.toInt64 x2) * (661971961083 : Int64))
  · refine Runs.via (T' := T0) (g' := (mkF m 35 #[.val (.int x0), .val (.int x1), .val (.int x2), .val (.int u0), .unset, .unset, .unset] [(.long ((Int32.toInt64 x2) * (661971961083 : Int64)))])) (fun t k => ?_) ?_
    · show Steps p.tables e below (T0.setTop (mkF m 32 #[.val (.int x0), .val (.int x1), .val (.int x2), .val (.int u0), .unset, .unset, .unset] [(.int u0), (.long ((Int32.toInt64 x2) * (661971961083 : Int64)))])) t
      exact XS.ifNo X0.here hx rfl (hb hby at_32) rfl ((if0 _ _).trans (feq hc1).1) k
    refine Runs.via (T' := T0) (g' := (mkF m 42 #[.val (.int x0), .val (.int x1), .val (.int x2), .val (.int u0), .unset, .unset, .unset] [(.long (274743187321 : Int64)), (.long ((Int32.toInt64 x2) * (661971961083 : Int64)))])) (fun t k => ?_) ?_
    · show Steps p.tables e below (T0.setTop (mkF m 35 #[.val (.int x0), .val (.int x1), .val (.int x2), .val (.int u0), .unset, .unset, .unset] [(.long ((Int32.toInt64 x2) * (661971961083 : Int64)))])) t
      refine X0.ldc2Long hx hown (mvT hZ (hw _ (List.mem_of_getElem? (i := 2) rfl))) (g := (mkF m 35 #[.val (.int x0), .val (.int x1), .val (.int x2), .val (.int u0), .unset, .unset, .unset] [(.long ((Int32.toInt64 x2) * (661971961083 : Int64)))])) rfl (hb hby at_35) _ ?_
      show Steps p.tables e below (T0.setTop (mkF m 38 #[.val (.int x0), .val (.int x1), .val (.int x2), .val (.int u0), .unset, .unset, .unset] [(.long (274743187321 : Int64)), (.long ((Int32.toInt64 x2) * (661971961083 : Int64)))])) t
      refine XS.goto X0.here hx rfl (pc0 := 38) (pc' := 42) rfl (hb hby at_38) (by decide) (by decide) ?_
      exact k
    refine QP.cast (congrArg (fun z => some (Value.int z)) (show (g0_24 x2 u0) = (g0_42 x2 u0 (274743187321 : Int64) ((Int32.toInt64 x2) * (661971961083 : Int64))) from (if_neg hc1))) ?_
    exact b0_42 C X0 e0 N0 hk hn x0 x1 x2 u0 (274743187321 : Int64) ((Int32.toInt64 x2) * (661971961083 : Int64))
def g0_0 (x0 : Int32) (x1 : Int32) : Int32 := (if (x1 &&& (1 : Int32)) = (0 : Int32) then (g0_24 (((x0 &&& (2147483647 : Int32)) - ((x0 &&& (2147483647 : Int32)) / (2046 : Int32)) * (2046 : Int32)) - (1074 : Int32)) (0 : Int32)) else (g0_24 (((x0 &&& (2147483647 : Int32)) - ((x0 &&& (2147483647 : Int32)) / (2046 : Int32)) * (2046 : Int32)) - (1074 : Int32)) (1 : Int32)))
set_option maxRecDepth 65536 in
set_option maxHeartbeats 4000000 in
theorem b0_0 (C : Ctx p s m meth c Z a0 "com/example/wirelace/wirelace/message/ShortestDecimalDecimalExponentPinLaw" code 7 (some .boolean) "law") (X0 : Stand p l e room_1 s m args below meth c T0 locs cells slots) (e0 : T0.heap = h0) (N0 : Fr n0 locs) (hk : cells ≤ 0) (hn : slots ≤ 0) (x0 : Int32) (x1 : Int32) :
    Runs p e below s (QP (some (.int (g0_0 x0 x1))) h0 n0) 0 0 T0 (mkF m 0 #[.val (.int x0), .val (.int x1), .unset, .unset, .unset, .unset, .unset] []) := by
  have ⟨hx, hZ, hw, hby, hml, hown, hret, hlk, hnm⟩ := C
  refine Runs.via (T' := T0) (g' := (mkF m 16 #[.val (.int x0), .val (.int x1), .val (.int (((x0 &&& (2147483647 : Int32)) - ((x0 &&& (2147483647 : Int32)) / (2046 : Int32)) * (2046 : Int32)) - (1074 : Int32))), .unset, .unset, .unset, .unset] [(.int (x1 &&& (1 : Int32)))])) (fun t k => ?_) ?_
  · show Steps p.tables e below (T0.setTop (mkF m 0 #[.val (.int x0), .val (.int x1), .unset, .unset, .unset, .unset, .unset] [])) t
    refine XS.iloadN X0.here hx rfl (hb hby at_0) rfl ?_
    show Steps p.tables e below (T0.setTop (mkF m 1 #[.val (.int x0), .val (.int x1), .unset, .unset, .unset, .unset, .unset] [(.int x0)])) t
    refine X0.ldcInt hx hown (mvT hZ (hw _ (List.mem_of_getElem? (i := 0) rfl))) (g := (mkF m 1 #[.val (.int x0), .val (.int x1), .unset, .unset, .unset, .unset, .unset] [(.int x0)])) rfl (hb hby at_1) _ ?_
    show Steps p.tables e below (T0.setTop (mkF m 3 #[.val (.int x0), .val (.int x1), .unset, .unset, .unset, .unset, .unset] [(.int (2147483647 : Int32)), (.int x0)])) t
    refine XS.iand X0.here hx rfl (hb hby at_3) rfl ?_
    show Steps p.tables e below (T0.setTop (mkF m 4 #[.val (.int x0), .val (.int x1), .unset, .unset, .unset, .unset, .unset] [(.int (x0 &&& (2147483647 : Int32)))])) t
    refine XS.sipush X0.here hx rfl (hb hby at_4) ?_
    show Steps p.tables e below (T0.setTop (mkF m 7 #[.val (.int x0), .val (.int x1), .unset, .unset, .unset, .unset, .unset] [(.int (2046 : Int32)), (.int (x0 &&& (2147483647 : Int32)))])) t
    refine XS.irem X0.here hx rfl (hb hby at_7) rfl (by decide) ?_
    show Steps p.tables e below (T0.setTop (mkF m 8 #[.val (.int x0), .val (.int x1), .unset, .unset, .unset, .unset, .unset] [(.int ((x0 &&& (2147483647 : Int32)) - ((x0 &&& (2147483647 : Int32)) / (2046 : Int32)) * (2046 : Int32)))])) t
    refine XS.sipush X0.here hx rfl (hb hby at_8) ?_
    show Steps p.tables e below (T0.setTop (mkF m 11 #[.val (.int x0), .val (.int x1), .unset, .unset, .unset, .unset, .unset] [(.int (1074 : Int32)), (.int ((x0 &&& (2147483647 : Int32)) - ((x0 &&& (2147483647 : Int32)) / (2046 : Int32)) * (2046 : Int32)))])) t
    refine XS.isub X0.here hx rfl (hb hby at_11) rfl ?_
    show Steps p.tables e below (T0.setTop (mkF m 12 #[.val (.int x0), .val (.int x1), .unset, .unset, .unset, .unset, .unset] [(.int (((x0 &&& (2147483647 : Int32)) - ((x0 &&& (2147483647 : Int32)) / (2046 : Int32)) * (2046 : Int32)) - (1074 : Int32)))])) t
    refine XS.istoreN X0.here hx rfl (hb hby at_12) rfl (l' := #[.val (.int x0), .val (.int x1), .val (.int (((x0 &&& (2147483647 : Int32)) - ((x0 &&& (2147483647 : Int32)) / (2046 : Int32)) * (2046 : Int32)) - (1074 : Int32))), .unset, .unset, .unset, .unset]) rfl ?_
    show Steps p.tables e below (T0.setTop (mkF m 13 #[.val (.int x0), .val (.int x1), .val (.int (((x0 &&& (2147483647 : Int32)) - ((x0 &&& (2147483647 : Int32)) / (2046 : Int32)) * (2046 : Int32)) - (1074 : Int32))), .unset, .unset, .unset, .unset] [])) t
    refine XS.iloadN X0.here hx rfl (hb hby at_13) rfl ?_
    show Steps p.tables e below (T0.setTop (mkF m 14 #[.val (.int x0), .val (.int x1), .val (.int (((x0 &&& (2147483647 : Int32)) - ((x0 &&& (2147483647 : Int32)) / (2046 : Int32)) * (2046 : Int32)) - (1074 : Int32))), .unset, .unset, .unset, .unset] [(.int x1)])) t
    refine XS.iconst X0.here hx rfl (hb hby at_14) ?_
    show Steps p.tables e below (T0.setTop (mkF m 15 #[.val (.int x0), .val (.int x1), .val (.int (((x0 &&& (2147483647 : Int32)) - ((x0 &&& (2147483647 : Int32)) / (2046 : Int32)) * (2046 : Int32)) - (1074 : Int32))), .unset, .unset, .unset, .unset] [(.int (1 : Int32)), (.int x1)])) t
    refine XS.iand X0.here hx rfl (hb hby at_15) rfl ?_
    exact k
  by_cases hc1 : (x1 &&& (1 : Int32)) = (0 : Int32)
  · refine Runs.via (T' := T0) (g' := (mkF m 23 #[.val (.int x0), .val (.int x1), .val (.int (((x0 &&& (2147483647 : Int32)) - ((x0 &&& (2147483647 : Int32)) / (2046 : Int32)) * (2046 : Int32)) - (1074 : Int32))), .unset, .unset, .unset, .unset] [])) (fun t k => ?_) ?_
    · show Steps p.tables e below (T0.setTop (mkF m 16 #[.val (.int x0), .val (.int x1), .val (.int (((x0 &&& (2147483647 : Int32)) - ((x0 &&& (2147483647 : Int32)) / (2046 : Int32)) * (2046 : Int32)) - (1074 : Int32))), .unset, .unset, .unset, .unset] [(.int (x1 &&& (1 : Int32)))])) t
      exact XS.ifYes X0.here hx rfl (pc0 := 16) (pc' := 23) rfl (hb hby at_16) rfl ((if0 _ _).trans (teq hc1).1) (by decide) (by decide) k
    refine Runs.via (T' := T0) (g' := (mkF m 24 #[.val (.int x0), .val (.int x1), .val (.int (((x0 &&& (2147483647 : Int32)) - ((x0 &&& (2147483647 : Int32)) / (2046 : Int32)) * (2046 : Int32)) - (1074 : Int32))), .unset, .unset, .unset, .unset] [(.int (0 : Int32))])) (fun t k => ?_) ?_
    · show Steps p.tables e below (T0.setTop (mkF m 23 #[.val (.int x0), .val (.int x1), .val (.int (((x0 &&& (2147483647 : Int32)) - ((x0 &&& (2147483647 : Int32)) / (2046 : Int32)) * (2046 : Int32)) - (1074 : Int32))), .unset, .unset, .unset, .unset] [])) t
      refine XS.iconst X0.here hx rfl (hb hby at_23) ?_
      exact k
    refine QP.cast (congrArg (fun z => some (Value.int z)) (show (g0_0 x0 x1) = (g0_24 (((x0 &&& (2147483647 : Int32)) - ((x0 &&& (2147483647 : Int32)) / (2046 : Int32)) * (2046 : Int32)) - (1074 : Int32)) (0 : Int32)) from (if_pos hc1))) ?_
    exact b0_24 C X0 e0 N0 hk hn x0 x1 (((x0 &&& (2147483647 : Int32)) - ((x0 &&& (2147483647 : Int32)) / (2046 : Int32)) * (2046 : Int32)) - (1074 : Int32)) (0 : Int32)
  · refine Runs.via (T' := T0) (g' := (mkF m 19 #[.val (.int x0), .val (.int x1), .val (.int (((x0 &&& (2147483647 : Int32)) - ((x0 &&& (2147483647 : Int32)) / (2046 : Int32)) * (2046 : Int32)) - (1074 : Int32))), .unset, .unset, .unset, .unset] [])) (fun t k => ?_) ?_
    · show Steps p.tables e below (T0.setTop (mkF m 16 #[.val (.int x0), .val (.int x1), .val (.int (((x0 &&& (2147483647 : Int32)) - ((x0 &&& (2147483647 : Int32)) / (2046 : Int32)) * (2046 : Int32)) - (1074 : Int32))), .unset, .unset, .unset, .unset] [(.int (x1 &&& (1 : Int32)))])) t
      exact XS.ifNo X0.here hx rfl (hb hby at_16) rfl ((if0 _ _).trans (feq hc1).1) k
    refine Runs.via (T' := T0) (g' := (mkF m 24 #[.val (.int x0), .val (.int x1), .val (.int (((x0 &&& (2147483647 : Int32)) - ((x0 &&& (2147483647 : Int32)) / (2046 : Int32)) * (2046 : Int32)) - (1074 : Int32))), .unset, .unset, .unset, .unset] [(.int (1 : Int32))])) (fun t k => ?_) ?_
    · show Steps p.tables e below (T0.setTop (mkF m 19 #[.val (.int x0), .val (.int x1), .val (.int (((x0 &&& (2147483647 : Int32)) - ((x0 &&& (2147483647 : Int32)) / (2046 : Int32)) * (2046 : Int32)) - (1074 : Int32))), .unset, .unset, .unset, .unset] [])) t
      refine XS.iconst X0.here hx rfl (hb hby at_19) ?_
      show Steps p.tables e below (T0.setTop (mkF m 20 #[.val (.int x0), .val (.int x1), .val (.int (((x0 &&& (2147483647 : Int32)) - ((x0 &&& (2147483647 : Int32)) / (2046 : Int32)) * (2046 : Int32)) - (1074 : Int32))), .unset, .unset, .unset, .unset] [(.int (1 : Int32))])) t
      refine XS.goto X0.here hx rfl (pc0 := 20) (pc' := 24) rfl (hb hby at_20) (by decide) (by decide) ?_
      exact k
    refine QP.cast (congrArg (fun z => some (Value.int z)) (show (g0_0 x0 x1) = (g0_24 (((x0 &&& (2147483647 : Int32)) - ((x0 &&& (2147483647 : Int32)) / (2046 : Int32)) * (2046 : Int32)) - (1074 : Int32)) (1 : Int32)) from (if_neg hc1))) ?_
    exact b0_24 C X0 e0 N0 hk hn x0 x1 (((x0 &&& (2147483647 : Int32)) - ((x0 &&& (2147483647 : Int32)) / (2046 : Int32)) * (2046 : Int32)) - (1074 : Int32)) (1 : Int32)
def f0 (x0 : Int32) (x1 : Int32) : Int32 := g0_0 x0 x1
theorem pn_0 : plainName "com/example/wirelace/wirelace/message/ShortestDecimalDecimalExponentPinLaw" = true := by first | (simp [plainName, overriddenIn]; done) | decide +kernel
theorem ef_0 (m : MethodId) (x0 : Int32) (x1 : Int32) : entryFrame m #[(.int x0), (.int x1)] maxLocals = mkF m 0 #[.val (.int x0), .val (.int x1), .unset, .unset, .unset, .unset, .unset] [] := by first | (simp [entryFrame, mkF, argsToLocals, Value.category, maxLocals]; done) | rfl
set_option maxRecDepth 65536 in
set_option maxHeartbeats 4000000 in
theorem rm0 (l : Launch) (Z : State) (a0 : Array Value) (hw : ∀ d ∈ tables_1, d.before a0 Z = true) (ws : List Jvm.Cond) (x0 : Int32) (x1 : Int32) (h0 : Heap) (n0 : Nat) :
    MetFree l x (head1 (Jvm.Cond.code x code maxLocals ret :: ws) room_1) (fun a U => a = #[(.int x0), (.int x1)] ∧ Z.Warmed39 U.vm ∧ U.heap = h0) (fun _ _ _ _ _ => True) (fun _ U o U' => ∃ v L, o = .returned v ∧ QP (some (.int (f0 x0 x1))) h0 n0 v U'.heap L ∧ FrameEnd U o U' L 0 0) := by
  refine MetFree.of_bodySF (plainFor_of_name pn_0) hisR ?_
  intro p e s m args below meth c s₁ Bd hml0 hP hK
  obtain ⟨rfl, hZ, hh⟩ := hP
  have X0 : Stand p l e room_1 s m #[(.int x0), (.int x1)] below meth c s₁ [] 0 0 := Stand.of_body Bd
  have e0 : s₁.heap = h0 := by rw [← hh, Bd.state]; rfl
  have C : Ctx p s m meth c Z a0 "com/example/wirelace/wirelace/message/ShortestDecimalDecimalExponentPinLaw" code 7 (some .boolean) "law" := ⟨Bd.exec, hZ, hw, Bd.bytes, hml0, findClass_of_methodNamed Bd.named, Bd.returns, BodyLoose.notSynchronized Bd, (name_of_methodNamed Bd.named Bd.method).1⟩
  refine Runs.via (fun t k => castTop (ef_0 m x0 x1) k) (b0_0 C X0 e0 (Fr.nil n0) (Nat.le_refl 0) (Nat.le_refl 0) x0 x1)
end Own
def own_ok (k : Nat) : Bool := g0_24 (Int32.ofInt ((k : Int) - 1074)) 0 == 1 && g0_24 (Int32.ofInt ((k : Int) - 1074)) 1 == 1
def own_all : Nat → Bool
  | 0 => true
  | n + 1 => own_ok n && own_all n
theorem own_all_at : ∀ n k : Nat, own_all n = true → k < n → own_ok k = true
  | 0, _, _, h => absurd h (Nat.not_lt_zero _)
  | n + 1, k, h, hk => by
    simp only [own_all, Bool.and_eq_true] at h
    by_cases e : k = n
    · rw [e]; exact h.1
    · exact own_all_at n k h.2 (by omega)
set_option maxRecDepth 1000000 in
theorem own_done : own_all 2046 = true := by decide +kernel
theorem own_law (x0 x1 : Int32) : f0 x0 x1 = 1 := by
  have h1 := c_mask x0 2147483647 31 (by decide) (by decide)
  have h0 : 0 ≤ (x0 &&& (2147483647 : Int32)).toInt := by rw [h1]; exact Int.emod_nonneg _ (by decide)
  obtain ⟨u, hu⟩ : ∃ u, u = x0 &&& (2147483647 : Int32) := ⟨_, rfl⟩
  rw [← hu] at h0
  have k : (2046 : Int32).toInt = 2046 := by decide
  have hq : (u - (u / 2046) * 2046).toInt = u.toInt % 2046 := by
    have e1 := (c_idiv u 2046 2046 k (by decide)).1 h0
    have e2 := c_imul (u / 2046) 2046
    have e3 := c_isub u ((u / 2046) * 2046)
    have r1 := rng32 u
    have r2 := rng32 ((u / 2046) * 2046)
    have r3 := rng32 (u - (u / 2046) * 2046)
    rw [k, e1] at e2
    omega
  obtain ⟨q, hqq⟩ : ∃ q, q = (u - (u / 2046) * 2046) - 1074 := ⟨_, rfl⟩
  have hb : q.toInt = u.toInt % 2046 - 1074 := by
    have e := c_isub (u - (u / 2046) * 2046) 1074
    have k2 : (1074 : Int32).toInt = 1074 := by decide
    have r := rng32 ((u - (u / 2046) * 2046) - 1074)
    rw [hqq]
    rw [k2, hq] at e
    omega
  have hr : 0 ≤ u.toInt % 2046 ∧ u.toInt % 2046 < 2046 := ⟨Int.emod_nonneg _ (by decide), Int.emod_lt_of_pos _ (by decide)⟩
  have hv := own_all_at 2046 (u.toInt % 2046).toNat own_done (by omega)
  have he : Int32.ofInt ((((u.toInt % 2046).toNat : Nat) : Int) - 1074) = q := by
    rw [Int.toNat_of_nonneg hr.1, ← hb]; exact Int32.ofInt_toInt q
  unfold own_ok at hv
  rw [he] at hv
  simp only [Bool.and_eq_true, beq_iff_eq] at hv
  unfold f0 g0_0
  rw [← hu, ← hqq]
  split
  · exact hv.1
  · exact hv.2
set_option maxRecDepth 65536 in
set_option maxHeartbeats 40000000 in
theorem comes_1 {Post : Tables → Env → Array Value → State → Outcome → State → Prop} (hpost : ∀ tb e args s v u, (limb_1_1.after args s (.returned v) u = true ∧ limb_1_2.after args s (.returned v) u = true ∧ True) → FrameEnd s (.returned v) u (Jvm.fieldLocs frame_1_writes args s ++ Jvm.arrayLocs frame_1_arrays args s ++ Jvm.staticLocs frame_1_statics s) 0 0 → Post tb e args s (.returned v) u) :
    ArmFor flags0 classFile x code maxLocals ret World_1 tables_1 room_1 Calls_1 rest_1 Pre_1 Post := by
  intro l hfl _ _ p e ha hc hk s m args below hf hA hF happ hP
  obtain ⟨hcalls, hrest, hpre⟩ := hP
  obtain ⟨-, -, -, hnamed, -, -, -, hat⟩ := (Spec.applies_iff hf).mp happ
  obtain ⟨hg, hn⟩ := and_e (Cond.before_iff.mp (show (Jvm.Cond.and given_1 narrow_1).before args s = true from hpre))
  obtain ⟨g1, g2⟩ := and_e hg
  obtain ⟨g3, g4⟩ := and_e g2
  obtain ⟨w0, w1, rfl⟩ : ∃ w0 w1 : Value, args = #[w0, w1] := by
    have hs : args.size = 2 := by simpa [Cond.value, given_1] using g1
    obtain ⟨L⟩ := args
    match L, hs with
    | [w0, w1], _ => exact ⟨w0, w1, rfl⟩
  have hw := fun d (hd : d ∈ tables_1) => atoms_spec (ws := Jvm.Cond.code x code maxLocals ret :: tables_1) hat d (List.mem_cons_of_mem _ hd)
  obtain ⟨i0, ei0⟩ := is_v g3
  obtain rfl : w0 = (.int i0) := Option.some.inj ei0
  obtain ⟨i1, ei1⟩ := is_v g4
  obtain rfl : w1 = (.int i1) := Option.some.inj ei1
  obtain ⟨n, o, h1, h2, h3, _, L, rfl, ⟨rfl, N, -⟩, hq⟩ := rm0 l s _ hw tables_1 i0 i1 s.heap s.heap.size p e ha hc hk s m _ below hf ((Spec.applies_iff_loose hf).mp happ).1 ⟨rfl, State.Warmed39.refl s, rfl⟩ trivial
  have hone := own_law i0 i1
  rw [hone] at h3 hq
  refine ⟨n, _, h1, h2, h3, hpost _ _ _ _ _ _ ⟨Cond.after_iff.mpr rfl, Cond.after_iff.mpr (eq_i res_at (Term.int_eval (1)) rfl), trivial⟩ ⟨hq.1, hq.2.1, (hq.2.2.sift fun y hy => Or.inr (N y hy)).mono (by decide) (by decide)⟩⟩
theorem main_1_1 : Claimed_1_1 := comes_1 fun _ _ _ _ _ _ h hF => ⟨h.1, hF⟩
theorem main_1_2 : Claimed_1_2 := comes_1 fun _ _ _ _ _ _ h hF => ⟨h.2.1, hF⟩
end Jvm.Pilot.@@N@@
namespace Jvm.Pilot.@@N@@
open Jvm Jvm.ClassFile Sem Op Lib Jvm.Free Jvm.Stand Jvm.Pilot.@@N@@.Jvm.D
/-! MADE BY PROGRAM (witnessworld.py) out of the Statement's table words and the real class files: 9 classes; the members and pool entries that the words name. The judged class is class 1, her method 1. -/
namespace start1
open Jvm.ClassFile
def u (s : String) : CpInfo := .utf8 (stringToUtf16 s)
/-- a pool by its gaps: so many unusable entries, then the entry; so many at the end -/
def gap : Nat → List CpInfo → List CpInfo
  | 0, r => r
  | n + 1, r => .unusable :: gap n r
def poolList (es : List (Nat × CpInfo)) (last : Nat) : List CpInfo := es.foldr (fun e r => gap e.1 (e.2 :: r)) (gap last [])
def pool (es : List (Nat × CpInfo)) (last : Nat) : Array CpInfo := ⟨poolList es last⟩
def fileOf (pool : Array CpInfo) (this : Nat) (attrs : Array Attribute := #[]) (ms : Array MethodInfo := #[]) (fl : Nat := 33) (sup : Nat := 0) (ifs : Array Nat := #[]) (fds : Array FieldInfo := #[]) : ClassFile where
  minorVersion := 0
  majorVersion := 65
  constantPool := pool
  accessFlags := fl
  thisClass := this
  superClass := sup
  interfaces := ifs
  fields := fds
  methods := ms
  attributes := attrs
def plain (name : String) (sup : Option ClassId) : Class where
  name := name
  kind := .ordinary
  loader := none
  accessFlags := 33
  super := sup
  interfaces := #[]
  cf := none
  fields := #[]
  methods := #[]
  instanceTypes := #[]
  staticTypes := #[]
  resolved := #[]
  callSites := []
  init := .initialized
  statics := none
  mirror := none

def pool0 : Array CpInfo := pool [(5, u "<init>"), (0, u "()V"), (1, .class_ 10), (1, u "java/lang/Object")] 113

def k0m0 : Method := { name := "<init>", desc := "()V", sig := { parameters := [], returnType := none }, accessFlags := 1, code := none }
/-- java/lang/Object -/
def k0 : Class := { plain "java/lang/Object" none with
  accessFlags := 33
  interfaces := #[]
  cf := some (fileOf pool0 8 #[] #[{ accessFlags := 1, nameIndex := 5, descriptorIndex := 6, attributes := #[] }] 33 0 #[] #[])
  fields := #[]
  methods := #[k0m0]
  instanceTypes := #[]
  staticTypes := #[]
  resolved := Array.replicate 124 none
  statics := none }

def pool1 : Array CpInfo := pool [(2, .class_ 4), (1, u "java/lang/Object"), (0, u "<init>"), (0, u "()V"), (0, .integer 2147483647), (0, .long 661971961083), (1, .long 274743187321), (1, .methodref 13 14), (0, .class_ 15), (0, .nameAndType 16 17), (0, u "com/example/wirelace/wirelace/message/ShortestDecimal"), (0, u "decimalExponent"), (0, u "(IZ)I"), (0, .class_ 19), (0, u "com/example/wirelace/wirelace/message/ShortestDecimalDecimalExponentPinLaw"), (2, u "law"), (0, u "(II)Z")] 3

def k1m0 : Method := { name := "<init>", desc := "()V", sig := { parameters := [], returnType := none }, accessFlags := 2, code := none }
def k1c1 : Code := { maxStack := 4, maxLocals := 7, code := code, exceptionTable := #[], attributes := #[] }
def k1m1 : Method := { name := "law", desc := "(II)Z", sig := { parameters := [.int, .int], returnType := some .boolean }, accessFlags := 9, code := some k1c1 }
/-- com/example/wirelace/wirelace/message/ShortestDecimalDecimalExponentPinLaw -/
def k1 : Class := { plain "com/example/wirelace/wirelace/message/ShortestDecimalDecimalExponentPinLaw" (some 0) with
  accessFlags := 49
  interfaces := #[]
  cf := some (fileOf pool1 18 #[] #[{ accessFlags := 2, nameIndex := 5, descriptorIndex := 6, attributes := #[] }, { accessFlags := 9, nameIndex := 22, descriptorIndex := 23, attributes := #[] }] 49 2 #[] #[])
  fields := #[]
  methods := #[k1m0, k1m1]
  instanceTypes := #[]
  staticTypes := #[]
  resolved := Array.replicate 27 none
  statics := none }

def pool2 : Array CpInfo := pool [(2, .class_ 4), (1, u "com/example/wirelace/wirelace/message/ShortestDecimal"), (0, u "POWER_HIGH"), (0, u "[J"), (2, u "MIN_K"), (0, u "I"), (14, u "POWER_LOW"), (2, u "POWER_EXPONENT"), (0, u "[I"), (1, .class_ 33), (1, u "java/lang/Object"), (0, u "<init>"), (0, u "()V"), (4, .class_ 42), (1, u "com/example/wirelace/wirelace/message/ShortestDecimal$Format"), (27, .long 1292913986), (1, .long 536607788), (33, u "decimalExponent"), (0, u "(IZ)I"), (68, u "MAX_K"), (30, u "MIN_PLAIN_EXPONENT"), (2, u "LOG10_2"), (0, u "J"), (0, u "LOG10_4_3"), (0, u "POWER_BITS"), (1, u "INEXACT_BITS")] 39

def k2m0 : Method := { name := "<init>", desc := "()V", sig := { parameters := [], returnType := none }, accessFlags := 2, code := none }
def k2c1 : Code := { maxStack := 4, maxLocals := 2, code := prog_47_method_5_code, exceptionTable := #[], attributes := #[] }
def k2m1 : Method := { name := "decimalExponent", desc := "(IZ)I", sig := { parameters := [.int, .boolean], returnType := some .int }, accessFlags := 8, code := some k2c1 }
/-- com/example/wirelace/wirelace/message/ShortestDecimal -/
def k2 : Class := { plain "com/example/wirelace/wirelace/message/ShortestDecimal" (some 0) with
  accessFlags := 48
  interfaces := #[]
  cf := some (fileOf pool2 2 #[.nestMembers #[40]] #[{ accessFlags := 2, nameIndex := 34, descriptorIndex := 35, attributes := #[] }, { accessFlags := 8, nameIndex := 106, descriptorIndex := 107, attributes := #[] }] 48 31 #[] #[{ accessFlags := 26, nameIndex := 207, descriptorIndex := 10, attributes := #[] }, { accessFlags := 26, nameIndex := 210, descriptorIndex := 211, attributes := #[] }, { accessFlags := 26, nameIndex := 212, descriptorIndex := 211, attributes := #[] }, { accessFlags := 26, nameIndex := 213, descriptorIndex := 10, attributes := #[] }, { accessFlags := 24, nameIndex := 215, descriptorIndex := 10, attributes := #[] }, { accessFlags := 26, nameIndex := 9, descriptorIndex := 10, attributes := #[] }, { accessFlags := 26, nameIndex := 176, descriptorIndex := 10, attributes := #[] }, { accessFlags := 26, nameIndex := 5, descriptorIndex := 6, attributes := #[] }, { accessFlags := 26, nameIndex := 25, descriptorIndex := 6, attributes := #[] }, { accessFlags := 26, nameIndex := 28, descriptorIndex := 29, attributes := #[] }])
  fields := #[{ name := "MIN_PLAIN_EXPONENT", type := .int, accessFlags := 26, slot := 0, constantValue := 0 }, { name := "LOG10_2", type := .long, accessFlags := 26, slot := 1, constantValue := 0 }, { name := "LOG10_4_3", type := .long, accessFlags := 26, slot := 2, constantValue := 0 }, { name := "POWER_BITS", type := .int, accessFlags := 26, slot := 3, constantValue := 0 }, { name := "INEXACT_BITS", type := .int, accessFlags := 24, slot := 4, constantValue := 0 }, { name := "MIN_K", type := .int, accessFlags := 26, slot := 5, constantValue := 0 }, { name := "MAX_K", type := .int, accessFlags := 26, slot := 6, constantValue := 0 }, { name := "POWER_HIGH", type := (.array .long), accessFlags := 26, slot := 7, constantValue := 0 }, { name := "POWER_LOW", type := (.array .long), accessFlags := 26, slot := 8, constantValue := 0 }, { name := "POWER_EXPONENT", type := (.array .int), accessFlags := 26, slot := 9, constantValue := 0 }]
  methods := #[k2m0, k2m1]
  instanceTypes := #[]
  staticTypes := #[.int, .long, .long, .int, .int, .int, .int, (.array .long), (.array .long), (.array .int)]
  resolved := Array.replicate 255 none
  statics := none }

def pool3 : Array CpInfo := pool [(1, u "java/lang/Cloneable"), (0, .class_ 1), (0, u "java/lang/Object"), (0, .class_ 3)] 3

/-- java/lang/Cloneable -/
def k3 : Class := { plain "java/lang/Cloneable" (some 0) with
  accessFlags := 1537
  interfaces := #[]
  cf := some (fileOf pool3 2 #[] #[] 1537 4 #[] #[])
  fields := #[]
  methods := #[]
  instanceTypes := #[]
  staticTypes := #[]
  resolved := Array.replicate 8 none
  statics := none }

def pool4 : Array CpInfo := pool [(1, u "java/io/Serializable"), (0, .class_ 1), (0, u "java/lang/Object"), (0, .class_ 3)] 3

/-- java/io/Serializable -/
def k4 : Class := { plain "java/io/Serializable" (some 0) with
  accessFlags := 1537
  interfaces := #[]
  cf := some (fileOf pool4 2 #[] #[] 1537 4 #[] #[])
  fields := #[]
  methods := #[]
  instanceTypes := #[]
  staticTypes := #[]
  resolved := Array.replicate 8 none
  statics := none }

/-- the primitive byte -/
def k5 : Class := { plain "byte" none with kind := .primitive 'B', accessFlags := 0x411 }
/-- [B -/
def k6 : Class := { plain "[B" (some 0) with kind := .array 5 .byte, interfaces := #[3, 4], accessFlags := 1041 }

/-- the primitive int -/
def k7 : Class := { plain "int" none with kind := .primitive 'I', accessFlags := 0x411 }
/-- [I -/
def k8 : Class := { plain "[I" (some 0) with kind := .array 7 .int, interfaces := #[3, 4], accessFlags := 1041 }

def heap : Heap := #[]
def classes : Array Class := #[k0, k1, k2, k3, k4, k5, k6, k7, k8]
def interned : List (Array UInt16 × Addr) := []
def slotsUsed : Nat := 0
def theMethod : MethodId := ⟨1, 1⟩
def args0 : Array Value := #[.int 5, .int 3]
def aboutOver (below : List Frame) : State where
  vm := { classes := classes, interned := interned.toArray }
  heap := heap
  slotsUsed := slotsUsed
  threads := #[{ frames := .invoking theMethod args0 :: below }]
def below0 : List Frame := [.native { method := ⟨0, 0⟩, args := #[] }]
def about1 : State := aboutOver below0
def p0 : Program := .bare "" "" ""
def e0 : Env := launch0.env 0 0 0
theorem w_frames : about1.frames = Frame.invoking theMethod args0 :: below0 := rfl
set_option maxRecDepth 65536 in
theorem w_args : argsFit about1.vm theMethod args0 = true := by decide +kernel
set_option maxRecDepth 65536 in
theorem w_heap : heapFits about1 = true := by decide +kernel
set_option maxRecDepth 65536 in
theorem w_runnable : about1.curStatus? = some .runnable := by decide +kernel
set_option maxRecDepth 65536 in
theorem w_alone : about1.alone = true := by decide +kernel
set_option maxRecDepth 65536 in
theorem w_named : about1.methodNamed? x = some theMethod := by decide +kernel
set_option maxRecDepth 65536 in
theorem w_hears : about1.hears theMethod below0 = true := by decide +kernel
set_option maxRecDepth 65536 in
theorem w_ripe : about1.ripe theMethod args0 below0 = true := by decide +kernel
theorem w_running : about1.status = .running := rfl
set_option maxRecDepth 65536 in
theorem w_room : about1.hasRoom e0.platform room_1 = true :=
  launch0.hasRoom_least _ room_1 (by decide +kernel) (by decide +kernel) (by decide +kernel) (by decide +kernel) (by decide +kernel) (by decide +kernel)
theorem allAtoms_all (ts : List Jvm.Cond) (a : Array Jvm.Value) (st : Jvm.State) : (allAtoms ts).before a st = ts.all (fun c => c.before a st) := by
  induction ts with
  | nil => rfl
  | cons c t ih =>
    show (Jvm.Cond.and c (allAtoms t)).before a st = _
    rw [Jvm.Cond.before_and, ih, List.all_cons]
def words1 : List Jvm.Cond := Jvm.Cond.code x code maxLocals ret :: tables_1
/-- a 'code' word, met by the world's own term for the bytes: nothing is compared byte by byte -/
theorem code_word {y : MethodName} {bytes : ByteArray} {mx : Nat} {rt : Option FieldType} {a : Array Value} {s : State} {m : MethodId} {meth : Method} {c : Code} (h1 : s.methodNamed? y = some m) (h2 : s.vm.method? m = some meth) (h3 : meth.code = some c) (h4 : c.code = bytes)
    (h5 : (c.maxLocals == mx && c.exceptionTable.isEmpty && decide (c.maxStack ≤ mostOperands) && decide (meth.sig.returnType = rt) && !meth.locks && decide (parseMethodDescriptor y.desc = some meth.sig)) = true) : (Jvm.Cond.code y bytes mx rt).before a s = true := by
  simp only [Bool.and_eq_true, beq_iff_eq, Bool.not_eq_true', decide_eq_true_eq] at h5
  obtain ⟨⟨⟨⟨⟨g1, g2⟩, g3⟩, g4⟩, g5⟩, g6⟩ := h5
  simp [Cond.before, Cond.holds, Cond.value, h1, h2, h3, h4, g1, g2, g3, g4, g5, g6]
def isCode : Jvm.Cond → Bool
  | .code _ _ _ _ => true
  | _ => false
theorem all_split {L : List Jvm.Cond} {P : Jvm.Cond → Bool} (h1 : L.all (fun c => isCode c || P c) = true) (h2 : ∀ c ∈ L.filter isCode, P c = true) : L.all P = true := by
  refine List.all_eq_true.mpr fun c hc => ?_
  have h := List.all_eq_true.mp h1 c hc
  rcases Bool.eq_false_or_eq_true (isCode c) with hi | hi
  · exact h2 c (List.mem_filter.mpr ⟨hc, hi⟩)
  · simpa [hi] using h
set_option maxRecDepth 65536 in
theorem w_c0 : (Jvm.Cond.code x code maxLocals ret).before args0 about1 = true := code_word (m := ⟨1, 1⟩) (meth := k1m1) (c := k1c1) (by decide +kernel) rfl rfl rfl (by decide +kernel)
set_option maxRecDepth 65536 in
theorem w_c1 : (Jvm.Cond.code ({ cls := "com/example/wirelace/wirelace/message/ShortestDecimal", name := "decimalExponent", desc := "(IZ)I" } : Jvm.MethodName) prog_47_method_5_code (2 : Nat) (Option.some Jvm.ClassFile.FieldType.int)).before args0 about1 = true := code_word (m := ⟨2, 1⟩) (meth := k2m1) (c := k2c1) (by decide +kernel) rfl rfl rfl (by decide +kernel)
def codes1 : List Jvm.Cond := [Jvm.Cond.code x code maxLocals ret, Jvm.Cond.code ({ cls := "com/example/wirelace/wirelace/message/ShortestDecimal", name := "decimalExponent", desc := "(IZ)I" } : Jvm.MethodName) prog_47_method_5_code (2 : Nat) (Option.some Jvm.ClassFile.FieldType.int)]
set_option maxRecDepth 65536 in
theorem codes_eq : words1.filter isCode = codes1 := rfl
theorem w_codes : ∀ c ∈ words1.filter isCode, c.before args0 about1 = true := by
  rw [codes_eq]
  intro c hc
  simp only [codes1, List.mem_cons, List.not_mem_nil, or_false] at hc
  rcases hc with rfl | rfl
  · exact w_c0
  · exact w_c1
set_option maxRecDepth 65536 in
theorem w_t1 : words1.all (fun c => isCode c || c.before args0 about1) = true := by decide +kernel
theorem w_tables : (allAtoms (Jvm.Cond.code x code maxLocals ret :: tables_1)).before args0 about1 = true := by
  rw [allAtoms_all]
  show words1.all (fun c => c.before args0 about1) = true
  refine all_split ?_ w_codes
  rw [w_t1]
set_option maxRecDepth 65536 in
theorem w_case : (Jvm.Cond.and given_1 narrow_1).before args0 about1 = true := by decide +kernel
theorem w_applies : (headSpec (Jvm.Cond.code x code maxLocals ret :: tables_1) room_1).applies x e0.platform about1 = true :=
  (Spec.applies_iff w_frames).mpr ⟨w_running, w_runnable, w_alone, w_named, w_hears, w_ripe, w_room, w_tables⟩
theorem atStart : AtStart classFile x code maxLocals ret World_1 tables_1 room_1 Calls_1 rest_1 Pre_1 launch0 p0 e0 about1 theMethod args0 below0 :=
  ⟨lists_1, trivial, launch0.admits_env _ _ _, launch0.least_env, fairChoices_fair.cas, fairChoices_fair.clock, w_frames, w_args, w_heap, w_applies, trivial, trivial, w_case⟩
end start1
theorem witness_1 : WitnessClaimed_1 := ⟨start1.p0, start1.e0, start1.about1, start1.theMethod, start1.args0, start1.below0, start1.atStart⟩
end Jvm.Pilot.@@N@@
