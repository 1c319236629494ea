import JvmDerived
import JvmDerived.Pilot.@@N@@Statement
import JvmDerived.Pilot.@@N@@Code
set_option linter.unusedVariables false
set_option linter.unusedSimpArgs false
namespace Jvm.RoadKit
open Sem ClassFile Op Lib Jvm.Stand Jvm.Free Jvm.LawKit
section New
variable {p : Program} {l : Launch} {e : Env} {R : Room} {s : State} {m : MethodId} {args : Array Value} {below : List Frame} {meth : Method} {c : Code} {T : State} {locs : List Loc} {cells slots : Nat}
theorem retI (X : Stand p l e R s m args below meth c T locs cells slots) (hx : p.tables.exec = Jvm.exec) {pc : Nat} {Ls : Array Slot} {z : Int32} {rest : List Value} (hret : meth.sig.returnType = some .int) (hd : decode c.code pc = .ok (.ireturn, 1)) {fs : List Frame}
    (hl : ∀ (f : JFrame) (acts : List Action), f.method = m → f.locked = none → f.entered = [] → (doReturn e (T.setTop f) acts (some (.int z))).1 = T.setFrames fs) : Steps p.tables e below (T.setTop (mkF m pc Ls (.int z :: rest))) (T.setFrames fs) := by
  have hm' : T.vm.method? m = some meth := X.method'
  have hn : narrow .int (.int z) = .int z := rfl
  show Steps p.tables e below (T.setTop { method := m, pc := pc, locals := Ls, stack := _ :: rest, locked := none }) _
  jvm_step X.here [X.here.top, hx, hd, hm', hret, hn]
  first | (intro acts; rw [hl _ acts rfl rfl rfl]) | rw [hl _ _ rfl rfl rfl]
  exact Steps.refl _
end New
end Jvm.RoadKit
namespace Jvm.Pilot.@@N@@
open Jvm Jvm.ClassFile Sem Op Lib Jvm.Free Jvm.Stand Jvm.LawKit Jvm.RoadKit Bundle Jvm.Pilot.@@N@@.Jvm.D
def QP (r : Option Value) (h0 : Heap) (n0 : Nat) (v : Option Value) (h : Heap) (L : List Loc) : Prop := v = r ∧ Fr n0 L ∧ h = h0
def Ctx (p : Program) (s : State) (m : MethodId) (meth : Method) (c : Code) (Z : State) (a0 : Array Value) (own : String) (bytes : ByteArray) (ml : Nat) (rt : Option FieldType) (name : String) : Prop :=
  p.tables.exec = Jvm.exec ∧ Z.Warmed39 s.vm ∧ (∀ d ∈ tables_1, d.before a0 Z = true) ∧ c.code = bytes ∧ c.maxLocals = ml ∧ s.vm.findClass own = some m.cls ∧ meth.sig.returnType = rt ∧ meth.locks = false ∧ meth.name = name
/-- from T with the frame g on top the run comes to a return, of which Φ holds -/
def Runs (p : Program) (e : Env) (below : List Frame) (s : State) (Φ : Option Value → Heap → List Loc → Prop) (k n : Nat) (T : State) (g : JFrame) : Prop :=
  ∃ s₂ o, Steps p.tables e below (T.setTop g) s₂ ∧ s₂.status = .running ∧ Ended s₂ below o ∧ ∃ v L, o = .returned v ∧ Φ v s₂.heap L ∧ FrameEnd s o s₂ L k n
section Own
variable {p : Program} {l : Launch} {e : Env} {R : Room} {s : State} {m : MethodId} {args : Array Value} {below : List Frame} {meth : Method} {c : Code} {T T' T0 Z : State} {a0 : Array Value} {locs : List Loc} {cells slots k n n0 : Nat} {h0 : Heap} {g g' : JFrame} {Φ : Option Value → Heap → List Loc → Prop}
theorem Runs.via (h : ∀ t, Steps p.tables e below (T'.setTop g') t → Steps p.tables e below (T.setTop g) t) (r : Runs p e below s Φ k n T' g') : Runs p e below s Φ k n T g := by
  obtain ⟨s₂, o, h1, r⟩ := r
  exact ⟨s₂, o, h _ h1, r⟩
theorem QP.cast {r r' : Option Value} (h : r = r') (H : Runs p e below s (QP r' h0 n0) k n T g) : Runs p e below s (QP r h0 n0) k n T g := by rw [h]; exact H
theorem own_retI (X : Stand p l e R s m args below meth c T locs cells slots) (hx : p.tables.exec = Jvm.exec) (hlk : meth.locks = false) (hret : meth.sig.returnType = some .int) {pc : Nat} {Ls : Array Slot} {z : Int32} {rest : List Value} (hd : decode c.code pc = .ok (.ireturn, 1)) (hk : cells ≤ k) (hn : slots ≤ n) (hΦ : Φ (some (.int z)) T.heap locs) :
    Runs p e below s Φ k n T (mkF m pc Ls (.int z :: rest)) := by
  obtain ⟨fs, hr, hrun, hended, hW, hsame⟩ := X.leave (v := some (.int z)) (fun h => by rw [hret] at h; cases h) hlk
  exact ⟨_, _, retI X hx hret hd hr, hrun, hended, _, _, rfl, hΦ, ⟨_, rfl⟩, hW, hsame.mono hk hn⟩
theorem own_retN (X : Stand p l e R s m args below meth c T locs cells slots) (hx : p.tables.exec = Jvm.exec) (hlk : meth.locks = false) {t : FieldType} (hret : meth.sig.returnType = some t) (ht : t = .boolean ∨ t = .byte ∨ t = .char ∨ t = .short) {pc : Nat} {Ls : Array Slot} {z : Int32} {rest : List Value} (hd : decode c.code pc = .ok (.ireturn, 1)) (hk : cells ≤ k) (hn : slots ≤ n) (hΦ : Φ (some (.int (nar t z))) T.heap locs) :
    Runs p e below s Φ k n T (mkF m pc Ls (.int z :: rest)) := by
  obtain ⟨fs, hr, hrun, hended, hW, hsame⟩ := X.leave (v := some (.int (nar t z))) (fun h => by rw [hret] at h; cases h) hlk
  exact ⟨_, _, retN X hx hret ht hd hr, hrun, hended, _, _, rfl, hΦ, ⟨_, rfl⟩, hW, hsame.mono hk hn⟩
theorem own_retJ (X : Stand p l e R s m args below meth c T locs cells slots) (hx : p.tables.exec = Jvm.exec) (hlk : meth.locks = false) (hret : meth.sig.returnType = some .long) {pc : Nat} {Ls : Array Slot} {z : Int64} (hd : decode c.code pc = .ok (.lreturn, 1)) (hk : cells ≤ k) (hn : slots ≤ n) (hΦ : Φ (some (.long z)) T.heap locs) :
    Runs p e below s Φ k n T (mkF m pc Ls [.long z]) := by
  obtain ⟨fs, hr, hrun, hended, hW, hsame⟩ := X.leave (v := some (.long z)) (fun h => by rw [hret] at h; cases h) hlk
  exact ⟨_, _, X.lreturnOut hx hret hd hr, hrun, hended, _, _, rfl, hΦ, ⟨_, rfl⟩, hW, hsame.mono hk hn⟩
theorem d1_0 : decode prog_45_method_19_code 0 = .ok (.iload_n 0, 1) := by decide +kernel
theorem d1_1 : decode prog_45_method_19_code 1 = .ok (.istore_n 1, 1) := by decide +kernel
theorem d1_2 : decode prog_45_method_19_code 2 = .ok (.iload_n 0, 1) := by decide +kernel
theorem d1_3 : decode prog_45_method_19_code 3 = .ok (.bipush 65, 2) := by decide +kernel
theorem d1_5 : decode prog_45_method_19_code 5 = .ok (.if_icmp .lt 18, 3) := by decide +kernel
theorem d1_8 : decode prog_45_method_19_code 8 = .ok (.iload_n 0, 1) := by decide +kernel
theorem d1_9 : decode prog_45_method_19_code 9 = .ok (.bipush 90, 2) := by decide +kernel
theorem d1_11 : decode prog_45_method_19_code 11 = .ok (.if_icmp .gt 12, 3) := by decide +kernel
theorem d1_14 : decode prog_45_method_19_code 14 = .ok (.iload_n 0, 1) := by decide +kernel
theorem d1_15 : decode prog_45_method_19_code 15 = .ok (.bipush 65, 2) := by decide +kernel
theorem d1_17 : decode prog_45_method_19_code 17 = .ok (.isub, 1) := by decide +kernel
theorem d1_18 : decode prog_45_method_19_code 18 = .ok (.bipush 97, 2) := by decide +kernel
theorem d1_20 : decode prog_45_method_19_code 20 = .ok (.iadd, 1) := by decide +kernel
theorem d1_21 : decode prog_45_method_19_code 21 = .ok (.i2c, 1) := by decide +kernel
theorem d1_22 : decode prog_45_method_19_code 22 = .ok (.istore_n 1, 1) := by decide +kernel
theorem d1_23 : decode prog_45_method_19_code 23 = .ok (.iload_n 1, 1) := by decide +kernel
theorem d1_24 : decode prog_45_method_19_code 24 = .ok (.ireturn, 1) := by decide +kernel
def g1_0 (x0 : Int32) : Int32 := (if x0 < (65 : Int32) then (x0.toUInt32.toUInt16.toUInt32.toInt32) else (if (90 : Int32) < x0 then (x0.toUInt32.toUInt16.toUInt32.toInt32) else ((((x0 - (65 : Int32)) + (97 : Int32)).toUInt32.toUInt16.toUInt32.toInt32).toUInt32.toUInt16.toUInt32.toInt32)))
set_option maxRecDepth 65536 in
set_option maxHeartbeats 4000000 in
theorem b1_0 (C : Ctx p s m meth c Z a0 "com/example/earned_trust/earnedtrust/model/UriSyntax" prog_45_method_19_code 2 (some .char) "asciiLowerCase") (X0 : Stand p l e ({ frames := 0, cells := 0, slots := 0, locals := 0 } : Room) s m args below meth c T0 locs cells slots) (e0 : T0.heap = h0) (N0 : Fr n0 locs) (hk : cells ≤ 0) (hn : slots ≤ 0) (x0 : Int32) :
    Runs p e below s (QP (some (.int (g1_0 x0))) h0 n0) 0 0 T0 (mkF m 0 #[.val (.int x0), .unset] []) := by
  have ⟨hx, hZ, hw, hby, hml, hown, hret, hlk, hnm⟩ := C
  refine Runs.via (T' := T0) (g' := (mkF m 5 #[.val (.int x0), .val (.int x0)] [(.int (65 : Int32)), (.int x0)])) (fun t k => ?_) ?_
  · show Steps p.tables e below (T0.setTop (mkF m 0 #[.val (.int x0), .unset] [])) t
    refine XS.iloadN X0.here hx rfl (hb hby d1_0) rfl ?_
    show Steps p.tables e below (T0.setTop (mkF m 1 #[.val (.int x0), .unset] [(.int x0)])) t
    refine XS.istoreN X0.here hx rfl (hb hby d1_1) rfl (l' := #[.val (.int x0), .val (.int x0)]) rfl ?_
    show Steps p.tables e below (T0.setTop (mkF m 2 #[.val (.int x0), .val (.int x0)] [])) t
    refine XS.iloadN X0.here hx rfl (hb hby d1_2) rfl ?_
    show Steps p.tables e below (T0.setTop (mkF m 3 #[.val (.int x0), .val (.int x0)] [(.int x0)])) t
    refine XS.bipush X0.here hx rfl (hb hby d1_3) ?_
    exact k
  by_cases hc1 : x0 < (65 : Int32)
  · refine Runs.via (T' := T0) (g' := (mkF m 23 #[.val (.int x0), .val (.int x0)] [])) (fun t k => ?_) ?_
    · show Steps p.tables e below (T0.setTop (mkF m 5 #[.val (.int x0), .val (.int x0)] [(.int (65 : Int32)), (.int x0)])) t
      exact XS.icmpYes X0.here hx rfl (pc0 := 5) (pc' := 23) rfl (hb hby d1_5) rfl (tlt hc1).1 (by decide) (by decide) k
    refine Runs.via (T' := T0) (g' := (mkF m 24 #[.val (.int x0), .val (.int x0)] [(.int x0)])) (fun t k => ?_) ?_
    · show Steps p.tables e below (T0.setTop (mkF m 23 #[.val (.int x0), .val (.int x0)] [])) t
      refine XS.iloadN X0.here hx rfl (hb hby d1_23) rfl ?_
      exact k
    refine QP.cast (congrArg (fun z => some (Value.int z)) (show (g1_0 x0) = (x0.toUInt32.toUInt16.toUInt32.toInt32) from (if_pos hc1))) ?_
    exact own_retN X0 hx hlk (t := .char) hret (by simp) (hb hby d1_24) hk hn ⟨rfl, N0, e0⟩
  · refine Runs.via (T' := T0) (g' := (mkF m 8 #[.val (.int x0), .val (.int x0)] [])) (fun t k => ?_) ?_
    · show Steps p.tables e below (T0.setTop (mkF m 5 #[.val (.int x0), .val (.int x0)] [(.int (65 : Int32)), (.int x0)])) t
      exact XS.icmpNo X0.here hx rfl (hb hby d1_5) rfl (flt hc1).1 k
    refine Runs.via (T' := T0) (g' := (mkF m 11 #[.val (.int x0), .val (.int x0)] [(.int (90 : Int32)), (.int x0)])) (fun t k => ?_) ?_
    · show Steps p.tables e below (T0.setTop (mkF m 8 #[.val (.int x0), .val (.int x0)] [])) t
      refine XS.iloadN X0.here hx rfl (hb hby d1_8) rfl ?_
      show Steps p.tables e below (T0.setTop (mkF m 9 #[.val (.int x0), .val (.int x0)] [(.int x0)])) t
      refine XS.bipush X0.here hx rfl (hb hby d1_9) ?_
      exact k
    by_cases hc2 : (90 : Int32) < x0
    · refine Runs.via (T' := T0) (g' := (mkF m 23 #[.val (.int x0), .val (.int x0)] [])) (fun t k => ?_) ?_
      · show Steps p.tables e below (T0.setTop (mkF m 11 #[.val (.int x0), .val (.int x0)] [(.int (90 : Int32)), (.int x0)])) t
        exact XS.icmpYes X0.here hx rfl (pc0 := 11) (pc' := 23) rfl (hb hby d1_11) rfl (tlt hc2).2.2.1 (by decide) (by decide) k
      refine Runs.via (T' := T0) (g' := (mkF m 24 #[.val (.int x0), .val (.int x0)] [(.int x0)])) (fun t k => ?_) ?_
      · show Steps p.tables e below (T0.setTop (mkF m 23 #[.val (.int x0), .val (.int x0)] [])) t
        refine XS.iloadN X0.here hx rfl (hb hby d1_23) rfl ?_
        exact k
      refine QP.cast (congrArg (fun z => some (Value.int z)) (show (g1_0 x0) = (x0.toUInt32.toUInt16.toUInt32.toInt32) from ((if_neg hc1).trans (if_pos hc2)))) ?_
      exact own_retN X0 hx hlk (t := .char) hret (by simp) (hb hby d1_24) hk hn ⟨rfl, N0, e0⟩
    · refine Runs.via (T' := T0) (g' := (mkF m 14 #[.val (.int x0), .val (.int x0)] [])) (fun t k => ?_) ?_
      · show Steps p.tables e below (T0.setTop (mkF m 11 #[.val (.int x0), .val (.int x0)] [(.int (90 : Int32)), (.int x0)])) t
        exact XS.icmpNo X0.here hx rfl (hb hby d1_11) rfl (flt hc2).2.2.1 k
      refine Runs.via (T' := T0) (g' := (mkF m 24 #[.val (.int x0), .val (.int (((x0 - (65 : Int32)) + (97 : Int32)).toUInt32.toUInt16.toUInt32.toInt32))] [(.int (((x0 - (65 : Int32)) + (97 : Int32)).toUInt32.toUInt16.toUInt32.toInt32))])) (fun t k => ?_) ?_
      · show Steps p.tables e below (T0.setTop (mkF m 14 #[.val (.int x0), .val (.int x0)] [])) t
        refine XS.iloadN X0.here hx rfl (hb hby d1_14) rfl ?_
        show Steps p.tables e below (T0.setTop (mkF m 15 #[.val (.int x0), .val (.int x0)] [(.int x0)])) t
        refine XS.bipush X0.here hx rfl (hb hby d1_15) ?_
        show Steps p.tables e below (T0.setTop (mkF m 17 #[.val (.int x0), .val (.int x0)] [(.int (65 : Int32)), (.int x0)])) t
        refine XS.isub X0.here hx rfl (hb hby d1_17) rfl ?_
        show Steps p.tables e below (T0.setTop (mkF m 18 #[.val (.int x0), .val (.int x0)] [(.int (x0 - (65 : Int32)))])) t
        refine XS.bipush X0.here hx rfl (hb hby d1_18) ?_
        show Steps p.tables e below (T0.setTop (mkF m 20 #[.val (.int x0), .val (.int x0)] [(.int (97 : Int32)), (.int (x0 - (65 : Int32)))])) t
        refine XS.iadd X0.here hx rfl (hb hby d1_20) rfl ?_
        show Steps p.tables e below (T0.setTop (mkF m 21 #[.val (.int x0), .val (.int x0)] [(.int ((x0 - (65 : Int32)) + (97 : Int32)))])) t
        refine XS.i2c X0.here hx rfl (hb hby d1_21) rfl ?_
        show Steps p.tables e below (T0.setTop (mkF m 22 #[.val (.int x0), .val (.int x0)] [(.int (((x0 - (65 : Int32)) + (97 : Int32)).toUInt32.toUInt16.toUInt32.toInt32))])) t
        refine XS.istoreN X0.here hx rfl (hb hby d1_22) rfl (l' := #[.val (.int x0), .val (.int (((x0 - (65 : Int32)) + (97 : Int32)).toUInt32.toUInt16.toUInt32.toInt32))]) rfl ?_
        show Steps p.tables e below (T0.setTop (mkF m 23 #[.val (.int x0), .val (.int (((x0 - (65 : Int32)) + (97 : Int32)).toUInt32.toUInt16.toUInt32.toInt32))] [])) t
        refine XS.iloadN X0.here hx rfl (hb hby d1_23) rfl ?_
        exact k
      refine QP.cast (congrArg (fun z => some (Value.int z)) (show (g1_0 x0) = ((((x0 - (65 : Int32)) + (97 : Int32)).toUInt32.toUInt16.toUInt32.toInt32).toUInt32.toUInt16.toUInt32.toInt32) from ((if_neg hc1).trans (if_neg hc2)))) ?_
      exact own_retN X0 hx hlk (t := .char) hret (by simp) (hb hby d1_24) hk hn ⟨rfl, N0, e0⟩
def f1 (x0 : Int32) : Int32 := g1_0 x0
theorem pn_1 : plainName "com/example/earned_trust/earnedtrust/model/UriSyntax" = true := by first | (simp [plainName, overriddenIn]; done) | decide +kernel
theorem ef_1 (m : MethodId) (x0 : Int32) : entryFrame m #[(.int x0)] 2 = mkF m 0 #[.val (.int x0), .unset] [] := by first | (simp [entryFrame, mkF, argsToLocals, Value.category]; done) | rfl
set_option maxRecDepth 65536 in
set_option maxHeartbeats 4000000 in
theorem rm1 (l : Launch) (Z : State) (a0 : Array Value) (hw : ∀ d ∈ tables_1, d.before a0 Z = true) (ws : List Jvm.Cond) (x0 : Int32) (h0 : Heap) (n0 : Nat) :
    MetFree l (⟨"com/example/earned_trust/earnedtrust/model/UriSyntax", "asciiLowerCase", "(C)C"⟩ : MethodName) (head1 (Jvm.Cond.code (⟨"com/example/earned_trust/earnedtrust/model/UriSyntax", "asciiLowerCase", "(C)C"⟩ : MethodName) prog_45_method_19_code 2 (some .char) :: ws) ({ frames := 0, cells := 0, slots := 0, locals := 0 } : Room)) (fun a U => a = #[(.int x0)] ∧ Z.Warmed39 U.vm ∧ U.heap = h0) (fun _ _ _ _ _ => True) (fun _ U o U' => ∃ v L, o = .returned v ∧ QP (some (.int (f1 x0))) h0 n0 v U'.heap L ∧ FrameEnd U o U' L ({ frames := 0, cells := 0, slots := 0, locals := 0 } : Room).cells ({ frames := 0, cells := 0, slots := 0, locals := 0 } : Room).slots) := by
  refine MetFree.of_bodySF (plainFor_of_name pn_1) hisR ?_
  intro p e s m args below meth c s₁ Bd hml0 hP hK
  obtain ⟨rfl, hZ, hh⟩ := hP
  have X0 : Stand p l e ({ frames := 0, cells := 0, slots := 0, locals := 0 } : Room) s m #[(.int x0)] below meth c s₁ [] 0 0 := Stand.of_body Bd
  have e0 : s₁.heap = h0 := by rw [← hh, Bd.state]; rfl
  have C : Ctx p s m meth c Z a0 "com/example/earned_trust/earnedtrust/model/UriSyntax" prog_45_method_19_code 2 (some .char) "asciiLowerCase" := ⟨Bd.exec, hZ, hw, Bd.bytes, hml0, findClass_of_methodNamed Bd.named, Bd.returns, BodyLoose.notSynchronized Bd, (name_of_methodNamed Bd.named Bd.method).1⟩
  refine Runs.via (fun t k => castTop (ef_1 m x0) k) (b1_0 C X0 e0 (Fr.nil n0) (Nat.le_refl 0) (Nat.le_refl 0) x0)
theorem pd_0 : parseMethodDescriptor "(C)C" = some ⟨[.char], some .char⟩ := by decide +kernel
def g0_43 (x2 : Int32) (x4 : Int32) : Int32 := (if x2 = x4 then (if (f1 x2) = x2 then (1 : Int32) else (0 : Int32)) else (0 : Int32))
set_option maxRecDepth 65536 in
set_option maxHeartbeats 4000000 in
theorem b0_43 (C : Ctx p s m meth c Z a0 "com/example/earned_trust/earnedtrust/model/UriSyntaxAsciiLowerCasePinLaw" code 5 (some .boolean) "law") (X0 : Stand p l e room_1 s m args below meth c T0 locs cells slots) (e0 : T0.heap = h0) (N0 : Fr n0 locs) (hk : cells ≤ 0) (hn : slots ≤ 0) (x0 : Int32) (x1 : Int32) (x2 : Int32) (x3 : Int32) (x4 : Int32) :
    Runs p e below s (QP (some (.int (g0_43 x2 x4))) h0 n0) 0 0 T0 (mkF m 43 #[.val (.int x0), .val (.int x1), .val (.int x2), .val (.int x3), .val (.int x4)] []) := by
  have ⟨hx, hZ, hw, hby, hml, hown, hret, hlk, hnm⟩ := C
  refine Runs.via (T' := T0) (g' := (mkF m 46 #[.val (.int x0), .val (.int x1), .val (.int x2), .val (.int x3), .val (.int x4)] [(.int x4), (.int x2)])) (fun t k => ?_) ?_
  · show Steps p.tables e below (T0.setTop (mkF m 43 #[.val (.int x0), .val (.int x1), .val (.int x2), .val (.int x3), .val (.int x4)] [])) t
    refine XS.iloadN X0.here hx rfl (hb hby at_43) rfl ?_
    show Steps p.tables e below (T0.setTop (mkF m 44 #[.val (.int x0), .val (.int x1), .val (.int x2), .val (.int x3), .val (.int x4)] [(.int x2)])) t
    refine XS.iload X0.here hx rfl (hb hby at_44) rfl ?_
    exact k
  by_cases hc1 : x2 = x4
  · refine Runs.via (T' := T0) (g' := (mkF m 49 #[.val (.int x0), .val (.int x1), .val (.int x2), .val (.int x3), .val (.int x4)] [])) (fun t k => ?_) ?_
    · show Steps p.tables e below (T0.setTop (mkF m 46 #[.val (.int x0), .val (.int x1), .val (.int x2), .val (.int x3), .val (.int x4)] [(.int x4), (.int x2)])) t
      exact XS.icmpNo X0.here hx rfl (hb hby at_46) rfl (teq hc1).2 k
    refine Runs.via (T' := T0) (g' := (mkF m 50 #[.val (.int x0), .val (.int x1), .val (.int x2), .val (.int x3), .val (.int x4)] [(.int x2)])) (fun t k => ?_) ?_
    · show Steps p.tables e below (T0.setTop (mkF m 49 #[.val (.int x0), .val (.int x1), .val (.int x2), .val (.int x3), .val (.int x4)] [])) t
      refine XS.iloadN X0.here hx rfl (hb hby at_49) rfl ?_
      exact k
    obtain ⟨_, _, ⟨T2, L2, k2, n2⟩, -, X2, ⟨Lc2, hQ2, l2, y2, z2⟩, st2⟩ := Jvm.LawKit.callS X0 hx (y := (⟨"com/example/earned_trust/earnedtrust/model/UriSyntax", "asciiLowerCase", "(C)C"⟩ : MethodName)) hown (mvT hZ (hw _ (List.mem_of_getElem? (i := 1) rfl))) (mvT hZ (hw _ (List.mem_of_getElem? (i := 2) rfl))) (mvT hZ (hw _ (List.mem_of_getElem? (i := 3) rfl))) (mvT hZ (hw _ (List.mem_of_getElem? (i := 4) rfl))) (by decide) (backOf (W := 0) (rm1 l Z a0 hw [] x2 h0 n0) hZ (hw _ (List.mem_of_getElem? (i := 4) rfl)) (hw _ (List.mem_of_getElem? (i := 3) rfl)) (by decide) (by decide)) (g := (mkF m 50 #[.val (.int x0), .val (.int x1), .val (.int x2), .val (.int x3), .val (.int x4)] [(.int x2)])) rfl (by rw [hml]; rfl) (argsL := [(.int x2)]) (rest := []) (lenOf pd_0 rfl) rfl (by show 2 * 0 + _ ≤ _; exact Nat.le_of_eq rfl) (hb hby at_50) (fun _ _ => ⟨rfl, e0, (Nat.le_trans hk (by decide)), (Nat.le_trans hn (by decide))⟩)
    dsimp only [Pt.U, Pt.locs, Pt.cells, Pt.slots] at X2 l2 y2 z2 st2 hQ2
    subst l2 y2 z2
    obtain ⟨rfl, N2q, e2⟩ := hQ2
    have N2 := Fr.app N0 N2q
    refine Runs.via (T' := T2) (g' := (mkF m 53 #[.val (.int x0), .val (.int x1), .val (.int x2), .val (.int x3), .val (.int x4)] [(.int (f1 x2))])) (fun t k => st2 _ k) ?_
    refine Runs.via (T' := T2) (g' := (mkF m 54 #[.val (.int x0), .val (.int x1), .val (.int x2), .val (.int x3), .val (.int x4)] [(.int x2), (.int (f1 x2))])) (fun t k => ?_) ?_
    · show Steps p.tables e below (T2.setTop (mkF m 53 #[.val (.int x0), .val (.int x1), .val (.int x2), .val (.int x3), .val (.int x4)] [(.int (f1 x2))])) t
      refine XS.iloadN X2.here hx rfl (hb hby at_53) rfl ?_
      exact k
    by_cases hc3 : (f1 x2) = x2
    · refine Runs.via (T' := T2) (g' := (mkF m 57 #[.val (.int x0), .val (.int x1), .val (.int x2), .val (.int x3), .val (.int x4)] [])) (fun t k => ?_) ?_
      · show Steps p.tables e below (T2.setTop (mkF m 54 #[.val (.int x0), .val (.int x1), .val (.int x2), .val (.int x3), .val (.int x4)] [(.int x2), (.int (f1 x2))])) t
        exact XS.icmpNo X2.here hx rfl (hb hby at_54) rfl (teq hc3).2 k
      refine Runs.via (T' := T2) (g' := (mkF m 62 #[.val (.int x0), .val (.int x1), .val (.int x2), .val (.int x3), .val (.int x4)] [(.int (1 : Int32))])) (fun t k => ?_) ?_
      · show Steps p.tables e below (T2.setTop (mkF m 57 #[.val (.int x0), .val (.int x1), .val (.int x2), .val (.int x3), .val (.int x4)] [])) t
        refine XS.iconst X2.here hx rfl (hb hby at_57) ?_
        show Steps p.tables e below (T2.setTop (mkF m 58 #[.val (.int x0), .val (.int x1), .val (.int x2), .val (.int x3), .val (.int x4)] [(.int (1 : Int32))])) t
        refine XS.goto X2.here hx rfl (pc0 := 58) (pc' := 62) rfl (hb hby at_58) (by decide) (by decide) ?_
        exact k
      refine QP.cast (congrArg (fun z => some (Value.int z)) (show (g0_43 x2 x4) = (1 : Int32) from ((if_pos hc1).trans (if_pos hc3)))) ?_
      exact own_retN X2 hx hlk (t := .boolean) hret (by simp) (hb hby at_62) hk hn ⟨rfl, N2, e2⟩
    · refine Runs.via (T' := T2) (g' := (mkF m 61 #[.val (.int x0), .val (.int x1), .val (.int x2), .val (.int x3), .val (.int x4)] [])) (fun t k => ?_) ?_
      · show Steps p.tables e below (T2.setTop (mkF m 54 #[.val (.int x0), .val (.int x1), .val (.int x2), .val (.int x3), .val (.int x4)] [(.int x2), (.int (f1 x2))])) t
        exact XS.icmpYes X2.here hx rfl (pc0 := 54) (pc' := 61) rfl (hb hby at_54) rfl (feq hc3).2 (by decide) (by decide) k
      refine Runs.via (T' := T2) (g' := (mkF m 62 #[.val (.int x0), .val (.int x1), .val (.int x2), .val (.int x3), .val (.int x4)] [(.int (0 : Int32))])) (fun t k => ?_) ?_
      · show Steps p.tables e below (T2.setTop (mkF m 61 #[.val (.int x0), .val (.int x1), .val (.int x2), .val (.int x3), .val (.int x4)] [])) t
        refine XS.iconst X2.here hx rfl (hb hby at_61) ?_
        exact k
      refine QP.cast (congrArg (fun z => some (Value.int z)) (show (g0_43 x2 x4) = (0 : Int32) from ((if_pos hc1).trans (if_neg hc3)))) ?_
      exact own_retN X2 hx hlk (t := .boolean) hret (by simp) (hb hby at_62) hk hn ⟨rfl, N2, e2⟩
  · refine Runs.via (T' := T0) (g' := (mkF m 61 #[.val (.int x0), .val (.int x1), .val (.int x2), .val (.int x3), .val (.int x4)] [])) (fun t k => ?_) ?_
    · show Steps p.tables e below (T0.setTop (mkF m 46 #[.val (.int x0), .val (.int x1), .val (.int x2), .val (.int x3), .val (.int x4)] [(.int x4), (.int x2)])) t
      exact XS.icmpYes X0.here hx rfl (pc0 := 46) (pc' := 61) rfl (hb hby at_46) rfl (feq hc1).2 (by decide) (by decide) k
    refine Runs.via (T' := T0) (g' := (mkF m 62 #[.val (.int x0), .val (.int x1), .val (.int x2), .val (.int x3), .val (.int x4)] [(.int (0 : Int32))])) (fun t k => ?_) ?_
    · show Steps p.tables e below (T0.setTop (mkF m 61 #[.val (.int x0), .val (.int x1), .val (.int x2), .val (.int x3), .val (.int x4)] [])) t
      refine XS.iconst X0.here hx rfl (hb hby at_61) ?_
      exact k
    refine QP.cast (congrArg (fun z => some (Value.int z)) (show (g0_43 x2 x4) = (0 : Int32) from (if_neg hc1))) ?_
    exact own_retN X0 hx hlk (t := .boolean) hret (by simp) (hb hby at_62) hk hn ⟨rfl, N0, e0⟩
def g0_28 (x1 : Int32) (x2 : Int32) (u0 : Int32) : Int32 := (if u0 = (0 : Int32) then (g0_43 x2 x1) else (g0_43 x2 ((x1 ||| (32 : Int32)).toUInt32.toUInt16.toUInt32.toInt32)))
set_option maxRecDepth 65536 in
set_option maxHeartbeats 4000000 in
theorem b0_28 (C : Ctx p s m meth c Z a0 "com/example/earned_trust/earnedtrust/model/UriSyntaxAsciiLowerCasePinLaw" code 5 (some .boolean) "law") (X0 : Stand p l e room_1 s m args below meth c T0 locs cells slots) (e0 : T0.heap = h0) (N0 : Fr n0 locs) (hk : cells ≤ 0) (hn : slots ≤ 0) (x0 : Int32) (x1 : Int32) (x2 : Int32) (u0 : Int32) :
    Runs p e below s (QP (some (.int (g0_28 x1 x2 u0))) h0 n0) 0 0 T0 (mkF m 28 #[.val (.int x0), .val (.int x1), .val (.int x2), .unset, .unset] [(.int u0)]) := by
  have ⟨hx, hZ, hw, hby, hml, hown, hret, hlk, hnm⟩ := C
  refine Runs.via (T' := T0) (g' := (mkF m 33 #[.val (.int x0), .val (.int x1), .val (.int x2), .val (.int u0), .val (.int x1)] [(.int u0)])) (fun t k => ?_) ?_
  · show Steps p.tables e below (T0.setTop (mkF m 28 #[.val (.int x0), .val (.int x1), .val (.int x2), .unset, .unset] [(.int u0)])) t
    refine XS.istoreN X0.here hx rfl (hb hby at_28) rfl (l' := #[.val (.int x0), .val (.int x1), .val (.int x2), .val (.int u0), .unset]) rfl ?_
    show Steps p.tables e below (T0.setTop (mkF m 29 #[.val (.int x0), .val (.int x1), .val (.int x2), .val (.int u0), .unset] [])) t
    refine XS.iloadN X0.here hx rfl (hb hby at_29) rfl ?_
    show Steps p.tables e below (T0.setTop (mkF m 30 #[.val (.int x0), .val (.int x1), .val (.int x2), .val (.int u0), .unset] [(.int x1)])) t
    refine XS.istore X0.here hx rfl (hb hby at_30) rfl (l' := #[.val (.int x0), .val (.int x1), .val (.int x2), .val (.int u0), .val (.int x1)]) rfl ?_
    show Steps p.tables e below (T0.setTop (mkF m 32 #[.val (.int x0), .val (.int x1), .val (.int x2), .val (.int u0), .val (.int x1)] [])) t
    refine XS.iloadN X0.here hx rfl (hb hby at_32) rfl ?_
    exact k
  by_cases hc1 : u0 = (0 : Int32)
  · refine Runs.via (T' := T0) (g' := (mkF m 43 #[.val (.int x0), .val (.int x1), .val (.int x2), .val (.int u0), .val (.int x1)] [])) (fun t k => ?_) ?_
    · show Steps p.tables e below (T0.setTop (mkF m 33 #[.val (.int x0), .val (.int x1), .val (.int x2), .val (.int u0), .val (.int x1)] [(.int u0)])) t
      exact XS.ifYes X0.here hx rfl (pc0 := 33) (pc' := 43) rfl (hb hby at_33) rfl ((if0 _ _).trans (teq hc1).1) (by decide) (by decide) k
    refine QP.cast (congrArg (fun z => some (Value.int z)) (show (g0_28 x1 x2 u0) = (g0_43 x2 x1) from (if_pos hc1))) ?_
    exact b0_43 C X0 e0 N0 hk hn x0 x1 x2 u0 x1
  · refine Runs.via (T' := T0) (g' := (mkF m 36 #[.val (.int x0), .val (.int x1), .val (.int x2), .val (.int u0), .val (.int x1)] [])) (fun t k => ?_) ?_
    · show Steps p.tables e below (T0.setTop (mkF m 33 #[.val (.int x0), .val (.int x1), .val (.int x2), .val (.int u0), .val (.int x1)] [(.int u0)])) t
      exact XS.ifNo X0.here hx rfl (hb hby at_33) rfl ((if0 _ _).trans (feq hc1).1) k
    refine Runs.via (T' := T0) (g' := (mkF m 43 #[.val (.int x0), .val (.int x1), .val (.int x2), .val (.int u0), .val (.int ((x1 ||| (32 : Int32)).toUInt32.toUInt16.toUInt32.toInt32))] [])) (fun t k => ?_) ?_
    · show Steps p.tables e below (T0.setTop (mkF m 36 #[.val (.int x0), .val (.int x1), .val (.int x2), .val (.int u0), .val (.int x1)] [])) t
      refine XS.iloadN X0.here hx rfl (hb hby at_36) rfl ?_
      show Steps p.tables e below (T0.setTop (mkF m 37 #[.val (.int x0), .val (.int x1), .val (.int x2), .val (.int u0), .val (.int x1)] [(.int x1)])) t
      refine XS.bipush X0.here hx rfl (hb hby at_37) ?_
      show Steps p.tables e below (T0.setTop (mkF m 39 #[.val (.int x0), .val (.int x1), .val (.int x2), .val (.int u0), .val (.int x1)] [(.int (32 : Int32)), (.int x1)])) t
      refine XS.ior X0.here hx rfl (hb hby at_39) rfl ?_
      show Steps p.tables e below (T0.setTop (mkF m 40 #[.val (.int x0), .val (.int x1), .val (.int x2), .val (.int u0), .val (.int x1)] [(.int (x1 ||| (32 : Int32)))])) t
      refine XS.i2c X0.here hx rfl (hb hby at_40) rfl ?_
      show Steps p.tables e below (T0.setTop (mkF m 41 #[.val (.int x0), .val (.int x1), .val (.int x2), .val (.int u0), .val (.int x1)] [(.int ((x1 ||| (32 : Int32)).toUInt32.toUInt16.toUInt32.toInt32))])) t
      refine XS.istore X0.here hx rfl (hb hby at_41) rfl (l' := #[.val (.int x0), .val (.int x1), .val (.int x2), .val (.int u0), .val (.int ((x1 ||| (32 : Int32)).toUInt32.toUInt16.toUInt32.toInt32))]) rfl ?_
      exact k
    refine QP.cast (congrArg (fun z => some (Value.int z)) (show (g0_28 x1 x2 u0) = (g0_43 x2 ((x1 ||| (32 : Int32)).toUInt32.toUInt16.toUInt32.toInt32)) from (if_neg hc1))) ?_
    exact b0_43 C X0 e0 N0 hk hn x0 x1 x2 u0 ((x1 ||| (32 : Int32)).toUInt32.toUInt16.toUInt32.toInt32)
def g0_27 (x1 : Int32) (x2 : Int32) : Int32 := (g0_28 x1 x2 (0 : Int32))
set_option maxRecDepth 65536 in
set_option maxHeartbeats 4000000 in
theorem b0_27 (C : Ctx p s m meth c Z a0 "com/example/earned_trust/earnedtrust/model/UriSyntaxAsciiLowerCasePinLaw" code 5 (some .boolean) "law") (X0 : Stand p l e room_1 s m args below meth c T0 locs cells slots) (e0 : T0.heap = h0) (N0 : Fr n0 locs) (hk : cells ≤ 0) (hn : slots ≤ 0) (x0 : Int32) (x1 : Int32) (x2 : Int32) :
    Runs p e below s (QP (some (.int (g0_27 x1 x2))) h0 n0) 0 0 T0 (mkF m 27 #[.val (.int x0), .val (.int x1), .val (.int x2), .unset, .unset] []) := by
  have ⟨hx, hZ, hw, hby, hml, hown, hret, hlk, hnm⟩ := C
  refine Runs.via (T' := T0) (g' := (mkF m 28 #[.val (.int x0), .val (.int x1), .val (.int x2), .unset, .unset] [(.int (0 : Int32))])) (fun t k => ?_) ?_
  · show Steps p.tables e below (T0.setTop (mkF m 27 #[.val (.int x0), .val (.int x1), .val (.int x2), .unset, .unset] [])) t
    refine XS.iconst X0.here hx rfl (hb hby at_27) ?_
    exact k
  refine QP.cast (congrArg (fun z => some (Value.int z)) (rfl : (g0_27 x1 x2) = (g0_28 x1 x2 (0 : Int32)))) ?_
  exact b0_28 C X0 e0 N0 hk hn x0 x1 x2 (0 : Int32)
def g0_0 (x0 : Int32) : Int32 := (if ((x0 &&& (65535 : Int32)).toUInt32.toUInt16.toUInt32.toInt32) < (65 : Int32) then (g0_27 ((x0 &&& (65535 : Int32)).toUInt32.toUInt16.toUInt32.toInt32) (f1 ((x0 &&& (65535 : Int32)).toUInt32.toUInt16.toUInt32.toInt32))) else (if (90 : Int32) < ((x0 &&& (65535 : Int32)).toUInt32.toUInt16.toUInt32.toInt32) then (g0_27 ((x0 &&& (65535 : Int32)).toUInt32.toUInt16.toUInt32.toInt32) (f1 ((x0 &&& (65535 : Int32)).toUInt32.toUInt16.toUInt32.toInt32))) else (g0_28 ((x0 &&& (65535 : Int32)).toUInt32.toUInt16.toUInt32.toInt32) (f1 ((x0 &&& (65535 : Int32)).toUInt32.toUInt16.toUInt32.toInt32)) (1 : Int32))))
set_option maxRecDepth 65536 in
set_option maxHeartbeats 4000000 in
theorem b0_0 (C : Ctx p s m meth c Z a0 "com/example/earned_trust/earnedtrust/model/UriSyntaxAsciiLowerCasePinLaw" code 5 (some .boolean) "law") (X0 : Stand p l e room_1 s m args below meth c T0 locs cells slots) (e0 : T0.heap = h0) (N0 : Fr n0 locs) (hk : cells ≤ 0) (hn : slots ≤ 0) (x0 : Int32) :
    Runs p e below s (QP (some (.int (g0_0 x0))) h0 n0) 0 0 T0 (mkF m 0 #[.val (.int x0), .unset, .unset, .unset, .unset] []) := by
  have ⟨hx, hZ, hw, hby, hml, hown, hret, hlk, hnm⟩ := C
  refine Runs.via (T' := T0) (g' := (mkF m 7 #[.val (.int x0), .val (.int ((x0 &&& (65535 : Int32)).toUInt32.toUInt16.toUInt32.toInt32)), .unset, .unset, .unset] [(.int ((x0 &&& (65535 : Int32)).toUInt32.toUInt16.toUInt32.toInt32))])) (fun t k => ?_) ?_
  · show Steps p.tables e below (T0.setTop (mkF m 0 #[.val (.int x0), .unset, .unset, .unset, .unset] [])) t
    refine XS.iloadN X0.here hx rfl (hb hby at_0) rfl ?_
    show Steps p.tables e below (T0.setTop (mkF m 1 #[.val (.int x0), .unset, .unset, .unset, .unset] [(.int x0)])) t
    refine X0.ldcInt hx hown (mvT hZ (hw _ (List.mem_of_getElem? (i := 0) rfl))) (g := (mkF m 1 #[.val (.int x0), .unset, .unset, .unset, .unset] [(.int x0)])) rfl (hb hby at_1) _ ?_
    show Steps p.tables e below (T0.setTop (mkF m 3 #[.val (.int x0), .unset, .unset, .unset, .unset] [(.int (65535 : Int32)), (.int x0)])) t
    refine XS.iand X0.here hx rfl (hb hby at_3) rfl ?_
    show Steps p.tables e below (T0.setTop (mkF m 4 #[.val (.int x0), .unset, .unset, .unset, .unset] [(.int (x0 &&& (65535 : Int32)))])) t
    refine XS.i2c X0.here hx rfl (hb hby at_4) rfl ?_
    show Steps p.tables e below (T0.setTop (mkF m 5 #[.val (.int x0), .unset, .unset, .unset, .unset] [(.int ((x0 &&& (65535 : Int32)).toUInt32.toUInt16.toUInt32.toInt32))])) t
    refine XS.istoreN X0.here hx rfl (hb hby at_5) rfl (l' := #[.val (.int x0), .val (.int ((x0 &&& (65535 : Int32)).toUInt32.toUInt16.toUInt32.toInt32)), .unset, .unset, .unset]) rfl ?_
    show Steps p.tables e below (T0.setTop (mkF m 6 #[.val (.int x0), .val (.int ((x0 &&& (65535 : Int32)).toUInt32.toUInt16.toUInt32.toInt32)), .unset, .unset, .unset] [])) t
    refine XS.iloadN X0.here hx rfl (hb hby at_6) rfl ?_
    exact k
  obtain ⟨_, _, ⟨T1, L1, k1, n1⟩, -, X1, ⟨Lc1, hQ1, l1, y1, z1⟩, st1⟩ := Jvm.LawKit.callS X0 hx (y := (⟨"com/example/earned_trust/earnedtrust/model/UriSyntax", "asciiLowerCase", "(C)C"⟩ : MethodName)) hown (mvT hZ (hw _ (List.mem_of_getElem? (i := 1) rfl))) (mvT hZ (hw _ (List.mem_of_getElem? (i := 2) rfl))) (mvT hZ (hw _ (List.mem_of_getElem? (i := 3) rfl))) (mvT hZ (hw _ (List.mem_of_getElem? (i := 4) rfl))) (by decide) (backOf (W := 0) (rm1 l Z a0 hw [] ((x0 &&& (65535 : Int32)).toUInt32.toUInt16.toUInt32.toInt32) h0 n0) hZ (hw _ (List.mem_of_getElem? (i := 4) rfl)) (hw _ (List.mem_of_getElem? (i := 3) rfl)) (by decide) (by decide)) (g := (mkF m 7 #[.val (.int x0), .val (.int ((x0 &&& (65535 : Int32)).toUInt32.toUInt16.toUInt32.toInt32)), .unset, .unset, .unset] [(.int ((x0 &&& (65535 : Int32)).toUInt32.toUInt16.toUInt32.toInt32))])) rfl (by rw [hml]; rfl) (argsL := [(.int ((x0 &&& (65535 : Int32)).toUInt32.toUInt16.toUInt32.toInt32))]) (rest := []) (lenOf pd_0 rfl) rfl (by show 2 * 0 + _ ≤ _; exact Nat.le_of_eq rfl) (hb hby at_7) (fun _ _ => ⟨rfl, e0, (Nat.le_trans hk (by decide)), (Nat.le_trans hn (by decide))⟩)
  dsimp only [Pt.U, Pt.locs, Pt.cells, Pt.slots] at X1 l1 y1 z1 st1 hQ1
  subst l1 y1 z1
  obtain ⟨rfl, N1q, e1⟩ := hQ1
  have N1 := Fr.app N0 N1q
  refine Runs.via (T' := T1) (g' := (mkF m 10 #[.val (.int x0), .val (.int ((x0 &&& (65535 : Int32)).toUInt32.toUInt16.toUInt32.toInt32)), .unset, .unset, .unset] [(.int (f1 ((x0 &&& (65535 : Int32)).toUInt32.toUInt16.toUInt32.toInt32)))])) (fun t k => st1 _ k) ?_
  refine Runs.via (T' := T1) (g' := (mkF m 14 #[.val (.int x0), .val (.int ((x0 &&& (65535 : Int32)).toUInt32.toUInt16.toUInt32.toInt32)), .val (.int (f1 ((x0 &&& (65535 : Int32)).toUInt32.toUInt16.toUInt32.toInt32))), .unset, .unset] [(.int (65 : Int32)), (.int ((x0 &&& (65535 : Int32)).toUInt32.toUInt16.toUInt32.toInt32))])) (fun t k => ?_) ?_
  · show Steps p.tables e below (T1.setTop (mkF m 10 #[.val (.int x0), .val (.int ((x0 &&& (65535 : Int32)).toUInt32.toUInt16.toUInt32.toInt32)), .unset, .unset, .unset] [(.int (f1 ((x0 &&& (65535 : Int32)).toUInt32.toUInt16.toUInt32.toInt32)))])) t
    refine XS.istoreN X1.here hx rfl (hb hby at_10) rfl (l' := #[.val (.int x0), .val (.int ((x0 &&& (65535 : Int32)).toUInt32.toUInt16.toUInt32.toInt32)), .val (.int (f1 ((x0 &&& (65535 : Int32)).toUInt32.toUInt16.toUInt32.toInt32))), .unset, .unset]) rfl ?_
    show Steps p.tables e below (T1.setTop (mkF m 11 #[.val (.int x0), .val (.int ((x0 &&& (65535 : Int32)).toUInt32.toUInt16.toUInt32.toInt32)), .val (.int (f1 ((x0 &&& (65535 : Int32)).toUInt32.toUInt16.toUInt32.toInt32))), .unset, .unset] [])) t
    refine XS.iloadN X1.here hx rfl (hb hby at_11) rfl ?_
    show Steps p.tables e below (T1.setTop (mkF m 12 #[.val (.int x0), .val (.int ((x0 &&& (65535 : Int32)).toUInt32.toUInt16.toUInt32.toInt32)), .val (.int (f1 ((x0 &&& (65535 : Int32)).toUInt32.toUInt16.toUInt32.toInt32))), .unset, .unset] [(.int ((x0 &&& (65535 : Int32)).toUInt32.toUInt16.toUInt32.toInt32))])) t
    refine XS.bipush X1.here hx rfl (hb hby at_12) ?_
    exact k
  by_cases hc2 : ((x0 &&& (65535 : Int32)).toUInt32.toUInt16.toUInt32.toInt32) < (65 : Int32)
  · refine Runs.via (T' := T1) (g' := (mkF m 27 #[.val (.int x0), .val (.int ((x0 &&& (65535 : Int32)).toUInt32.toUInt16.toUInt32.toInt32)), .val (.int (f1 ((x0 &&& (65535 : Int32)).toUInt32.toUInt16.toUInt32.toInt32))), .unset, .unset] [])) (fun t k => ?_) ?_
    · show Steps p.tables e below (T1.setTop (mkF m 14 #[.val (.int x0), .val (.int ((x0 &&& (65535 : Int32)).toUInt32.toUInt16.toUInt32.toInt32)), .val (.int (f1 ((x0 &&& (65535 : Int32)).toUInt32.toUInt16.toUInt32.toInt32))), .unset, .unset] [(.int (65 : Int32)), (.int ((x0 &&& (65535 : Int32)).toUInt32.toUInt16.toUInt32.toInt32))])) t
      exact XS.icmpYes X1.here hx rfl (pc0 := 14) (pc' := 27) rfl (hb hby at_14) rfl (tlt hc2).1 (by decide) (by decide) k
    refine QP.cast (congrArg (fun z => some (Value.int z)) (show (g0_0 x0) = (g0_27 ((x0 &&& (65535 : Int32)).toUInt32.toUInt16.toUInt32.toInt32) (f1 ((x0 &&& (65535 : Int32)).toUInt32.toUInt16.toUInt32.toInt32))) from (if_pos hc2))) ?_
    exact b0_27 C X1 e1 N1 hk hn x0 ((x0 &&& (65535 : Int32)).toUInt32.toUInt16.toUInt32.toInt32) (f1 ((x0 &&& (65535 : Int32)).toUInt32.toUInt16.toUInt32.toInt32))
  · refine Runs.via (T' := T1) (g' := (mkF m 17 #[.val (.int x0), .val (.int ((x0 &&& (65535 : Int32)).toUInt32.toUInt16.toUInt32.toInt32)), .val (.int (f1 ((x0 &&& (65535 : Int32)).toUInt32.toUInt16.toUInt32.toInt32))), .unset, .unset] [])) (fun t k => ?_) ?_
    · show Steps p.tables e below (T1.setTop (mkF m 14 #[.val (.int x0), .val (.int ((x0 &&& (65535 : Int32)).toUInt32.toUInt16.toUInt32.toInt32)), .val (.int (f1 ((x0 &&& (65535 : Int32)).toUInt32.toUInt16.toUInt32.toInt32))), .unset, .unset] [(.int (65 : Int32)), (.int ((x0 &&& (65535 : Int32)).toUInt32.toUInt16.toUInt32.toInt32))])) t
      exact XS.icmpNo X1.here hx rfl (hb hby at_14) rfl (flt hc2).1 k
    refine Runs.via (T' := T1) (g' := (mkF m 20 #[.val (.int x0), .val (.int ((x0 &&& (65535 : Int32)).toUInt32.toUInt16.toUInt32.toInt32)), .val (.int (f1 ((x0 &&& (65535 : Int32)).toUInt32.toUInt16.toUInt32.toInt32))), .unset, .unset] [(.int (90 : Int32)), (.int ((x0 &&& (65535 : Int32)).toUInt32.toUInt16.toUInt32.toInt32))])) (fun t k => ?_) ?_
    · show Steps p.tables e below (T1.setTop (mkF m 17 #[.val (.int x0), .val (.int ((x0 &&& (65535 : Int32)).toUInt32.toUInt16.toUInt32.toInt32)), .val (.int (f1 ((x0 &&& (65535 : Int32)).toUInt32.toUInt16.toUInt32.toInt32))), .unset, .unset] [])) t
      refine XS.iloadN X1.here hx rfl (hb hby at_17) rfl ?_
      show Steps p.tables e below (T1.setTop (mkF m 18 #[.val (.int x0), .val (.int ((x0 &&& (65535 : Int32)).toUInt32.toUInt16.toUInt32.toInt32)), .val (.int (f1 ((x0 &&& (65535 : Int32)).toUInt32.toUInt16.toUInt32.toInt32))), .unset, .unset] [(.int ((x0 &&& (65535 : Int32)).toUInt32.toUInt16.toUInt32.toInt32))])) t
      refine XS.bipush X1.here hx rfl (hb hby at_18) ?_
      exact k
    by_cases hc3 : (90 : Int32) < ((x0 &&& (65535 : Int32)).toUInt32.toUInt16.toUInt32.toInt32)
    · refine Runs.via (T' := T1) (g' := (mkF m 27 #[.val (.int x0), .val (.int ((x0 &&& (65535 : Int32)).toUInt32.toUInt16.toUInt32.toInt32)), .val (.int (f1 ((x0 &&& (65535 : Int32)).toUInt32.toUInt16.toUInt32.toInt32))), .unset, .unset] [])) (fun t k => ?_) ?_
      · show Steps p.tables e below (T1.setTop (mkF m 20 #[.val (.int x0), .val (.int ((x0 &&& (65535 : Int32)).toUInt32.toUInt16.toUInt32.toInt32)), .val (.int (f1 ((x0 &&& (65535 : Int32)).toUInt32.toUInt16.toUInt32.toInt32))), .unset, .unset] [(.int (90 : Int32)), (.int ((x0 &&& (65535 : Int32)).toUInt32.toUInt16.toUInt32.toInt32))])) t
        exact XS.icmpYes X1.here hx rfl (pc0 := 20) (pc' := 27) rfl (hb hby at_20) rfl (tlt hc3).2.2.1 (by decide) (by decide) k
      refine QP.cast (congrArg (fun z => some (Value.int z)) (show (g0_0 x0) = (g0_27 ((x0 &&& (65535 : Int32)).toUInt32.toUInt16.toUInt32.toInt32) (f1 ((x0 &&& (65535 : Int32)).toUInt32.toUInt16.toUInt32.toInt32))) from ((if_neg hc2).trans (if_pos hc3)))) ?_
      exact b0_27 C X1 e1 N1 hk hn x0 ((x0 &&& (65535 : Int32)).toUInt32.toUInt16.toUInt32.toInt32) (f1 ((x0 &&& (65535 : Int32)).toUInt32.toUInt16.toUInt32.toInt32))
    · refine Runs.via (T' := T1) (g' := (mkF m 23 #[.val (.int x0), .val (.int ((x0 &&& (65535 : Int32)).toUInt32.toUInt16.toUInt32.toInt32)), .val (.int (f1 ((x0 &&& (65535 : Int32)).toUInt32.toUInt16.toUInt32.toInt32))), .unset, .unset] [])) (fun t k => ?_) ?_
      · show Steps p.tables e below (T1.setTop (mkF m 20 #[.val (.int x0), .val (.int ((x0 &&& (65535 : Int32)).toUInt32.toUInt16.toUInt32.toInt32)), .val (.int (f1 ((x0 &&& (65535 : Int32)).toUInt32.toUInt16.toUInt32.toInt32))), .unset, .unset] [(.int (90 : Int32)), (.int ((x0 &&& (65535 : Int32)).toUInt32.toUInt16.toUInt32.toInt32))])) t
        exact XS.icmpNo X1.here hx rfl (hb hby at_20) rfl (flt hc3).2.2.1 k
      refine Runs.via (T' := T1) (g' := (mkF m 28 #[.val (.int x0), .val (.int ((x0 &&& (65535 : Int32)).toUInt32.toUInt16.toUInt32.toInt32)), .val (.int (f1 ((x0 &&& (65535 : Int32)).toUInt32.toUInt16.toUInt32.toInt32))), .unset, .unset] [(.int (1 : Int32))])) (fun t k => ?_) ?_
      · show Steps p.tables e below (T1.setTop (mkF m 23 #[.val (.int x0), .val (.int ((x0 &&& (65535 : Int32)).toUInt32.toUInt16.toUInt32.toInt32)), .val (.int (f1 ((x0 &&& (65535 : Int32)).toUInt32.toUInt16.toUInt32.toInt32))), .unset, .unset] [])) t
        refine XS.iconst X1.here hx rfl (hb hby at_23) ?_
        show Steps p.tables e below (T1.setTop (mkF m 24 #[.val (.int x0), .val (.int ((x0 &&& (65535 : Int32)).toUInt32.toUInt16.toUInt32.toInt32)), .val (.int (f1 ((x0 &&& (65535 : Int32)).toUInt32.toUInt16.toUInt32.toInt32))), .unset, .unset] [(.int (1 : Int32))])) t
        refine XS.goto X1.here hx rfl (pc0 := 24) (pc' := 28) rfl (hb hby at_24) (by decide) (by decide) ?_
        exact k
      refine QP.cast (congrArg (fun z => some (Value.int z)) (show (g0_0 x0) = (g0_28 ((x0 &&& (65535 : Int32)).toUInt32.toUInt16.toUInt32.toInt32) (f1 ((x0 &&& (65535 : Int32)).toUInt32.toUInt16.toUInt32.toInt32)) (1 : Int32)) from ((if_neg hc2).trans (if_neg hc3)))) ?_
      exact b0_28 C X1 e1 N1 hk hn x0 ((x0 &&& (65535 : Int32)).toUInt32.toUInt16.toUInt32.toInt32) (f1 ((x0 &&& (65535 : Int32)).toUInt32.toUInt16.toUInt32.toInt32)) (1 : Int32)
def f0 (x0 : Int32) : Int32 := g0_0 x0
theorem pn_0 : plainName "com/example/earned_trust/earnedtrust/model/UriSyntaxAsciiLowerCasePinLaw" = true := by first | (simp [plainName, overriddenIn]; done) | decide +kernel
theorem ef_0 (m : MethodId) (x0 : Int32) : entryFrame m #[(.int x0)] maxLocals = mkF m 0 #[.val (.int x0), .unset, .unset, .unset, .unset] [] := by first | (simp [entryFrame, mkF, argsToLocals, Value.category, maxLocals]; done) | rfl
set_option maxRecDepth 65536 in
set_option maxHeartbeats 4000000 in
theorem rm0 (l : Launch) (Z : State) (a0 : Array Value) (hw : ∀ d ∈ tables_1, d.before a0 Z = true) (ws : List Jvm.Cond) (x0 : Int32) (h0 : Heap) (n0 : Nat) :
    MetFree l x (head1 (Jvm.Cond.code x code maxLocals ret :: ws) room_1) (fun a U => a = #[(.int x0)] ∧ Z.Warmed39 U.vm ∧ U.heap = h0) (fun _ _ _ _ _ => True) (fun _ U o U' => ∃ v L, o = .returned v ∧ QP (some (.int (f0 x0))) h0 n0 v U'.heap L ∧ FrameEnd U o U' L 0 0) := by
  refine MetFree.of_bodySF (plainFor_of_name pn_0) hisR ?_
  intro p e s m args below meth c s₁ Bd hml0 hP hK
  obtain ⟨rfl, hZ, hh⟩ := hP
  have X0 : Stand p l e room_1 s m #[(.int x0)] below meth c s₁ [] 0 0 := Stand.of_body Bd
  have e0 : s₁.heap = h0 := by rw [← hh, Bd.state]; rfl
  have C : Ctx p s m meth c Z a0 "com/example/earned_trust/earnedtrust/model/UriSyntaxAsciiLowerCasePinLaw" code 5 (some .boolean) "law" := ⟨Bd.exec, hZ, hw, Bd.bytes, hml0, findClass_of_methodNamed Bd.named, Bd.returns, BodyLoose.notSynchronized Bd, (name_of_methodNamed Bd.named Bd.method).1⟩
  refine Runs.via (fun t k => castTop (ef_0 m x0) k) (b0_0 C X0 e0 (Fr.nil n0) (Nat.le_refl 0) (Nat.le_refl 0) x0)
end Own
theorem own_char (c : Int32) (h : 0 ≤ c.toInt) (h2 : c.toInt < 65536) : c.toUInt32.toUInt16.toUInt32.toInt32 = c := by
  apply Int32.toInt_inj.mp
  have := c_i2c c
  omega
def own_ok (k : Nat) : Bool := g0_28 (Int32.ofNat k) (f1 (Int32.ofNat k)) 1 == 1 || !(65 ≤ k && k ≤ 90)
def own_all : Nat → Bool
  | 0 => true
  | n + 1 => own_ok n && own_all n
theorem own_all_at : ∀ n k : Nat, own_all n = true → k < n → own_ok k = true
  | 0, _, _, h => absurd h (Nat.not_lt_zero _)
  | n + 1, k, h, hk => by
    simp only [own_all, Bool.and_eq_true] at h
    by_cases e : k = n
    · rw [e]; exact h.1
    · exact own_all_at n k h.2 (by omega)
set_option maxRecDepth 100000 in
theorem own_done : own_all 128 = true := by decide +kernel
theorem own_nat (x : Int32) (h : 0 ≤ x.toInt) : Int32.ofNat x.toInt.toNat = x := by
  have r := rng32 x
  have e := len_toInt (n := x.toInt.toNat) (by omega)
  apply Int32.toInt_inj.mp
  show (Nat.toInt32 x.toInt.toNat).toInt = x.toInt
  rw [e]; omega
theorem own_low (c : Int32) (h : 0 ≤ c.toInt) (h2 : c.toInt < 65536) (h3 : c < 65 ∨ 90 < c) : f1 c = c := by
  unfold f1 g1_0
  rcases h3 with h3 | h3
  · simp only [if_pos h3]; exact own_char c h h2
  · have h4 : ¬ c < (65 : Int32) := by
      rw [Int32.lt_iff_toInt_lt] at h3 ⊢
      have k3 : (65 : Int32).toInt = 65 := by decide
      have k4 : (90 : Int32).toInt = 90 := by decide
      omega
    simp only [if_neg h4, if_pos h3]; exact own_char c h h2
theorem own_law (x0 : Int32) : f0 x0 = 1 := by
  have hc := c_i2c (x0 &&& (65535 : Int32))
  unfold f0 g0_0
  generalize ((x0 &&& (65535 : Int32)).toUInt32.toUInt16.toUInt32.toInt32) = c at hc ⊢
  have k3 : (65 : Int32).toInt = 65 := by decide
  have k4 : (90 : Int32).toInt = 90 := by decide
  split
  · rename_i h
    have e := own_low c hc.2.1 hc.2.2 (Or.inl h)
    unfold g0_27 g0_28 g0_43
    simp [e]
  · split
    · rename_i h
      have e := own_low c hc.2.1 hc.2.2 (Or.inr h)
      unfold g0_27 g0_28 g0_43
      simp [e]
    · rename_i h1 h2
      rw [Int32.lt_iff_toInt_lt] at h1 h2
      have := own_all_at 128 c.toInt.toNat own_done (by omega)
      unfold own_ok at this
      rw [own_nat c hc.2.1] at this
      have a1 : (65 ≤ c.toInt.toNat) := by omega
      have a2 : (c.toInt.toNat ≤ 90) := by omega
      have a3 : (!(decide (65 ≤ c.toInt.toNat) && decide (c.toInt.toNat ≤ 90))) = false := by rw [decide_eq_true a1, decide_eq_true a2]; rfl
      rw [a3, Bool.or_false, beq_iff_eq] at this
      exact this
set_option maxRecDepth 65536 in
set_option maxHeartbeats 40000000 in
theorem comes_1 {Post : Tables → Env → Array Value → State → Outcome → State → Prop} (hpost : ∀ tb e args s v u, (limb_1_1.after args s (.returned v) u = true ∧ limb_1_2.after args s (.returned v) u = true ∧ True) → FrameEnd s (.returned v) u (Jvm.fieldLocs frame_1_writes args s ++ Jvm.arrayLocs frame_1_arrays args s ++ Jvm.staticLocs frame_1_statics s) 0 0 → Post tb e args s (.returned v) u) :
    ArmFor flags0 classFile x code maxLocals ret World_1 tables_1 room_1 Calls_1 rest_1 Pre_1 Post := by
  intro l hfl _ _ p e ha hc hk s m args below hf hA hF happ hP
  obtain ⟨hcalls, hrest, hpre⟩ := hP
  obtain ⟨-, -, -, hnamed, -, -, -, hat⟩ := (Spec.applies_iff hf).mp happ
  obtain ⟨hg, hn⟩ := and_e (Cond.before_iff.mp (show (Jvm.Cond.and given_1 narrow_1).before args s = true from hpre))
  obtain ⟨g1, g2⟩ := and_e hg
  obtain ⟨w0, rfl⟩ : ∃ w0 : Value, args = #[w0] := by
    have hs : args.size = 1 := by simpa [Cond.value, given_1] using g1
    obtain ⟨L⟩ := args
    match L, hs with
    | [w0], _ => exact ⟨w0, rfl⟩
  have hw := fun d (hd : d ∈ tables_1) => atoms_spec (ws := Jvm.Cond.code x code maxLocals ret :: tables_1) hat d (List.mem_cons_of_mem _ hd)
  obtain ⟨i0, ei0⟩ := is_v g2
  obtain rfl : w0 = (.int i0) := Option.some.inj ei0
  obtain ⟨n, o, h1, h2, h3, _, L, rfl, ⟨rfl, N, -⟩, hq⟩ := rm0 l s _ hw tables_1 i0 s.heap s.heap.size p e ha hc hk s m _ below hf ((Spec.applies_iff_loose hf).mp happ).1 ⟨rfl, State.Warmed39.refl s, rfl⟩ trivial
  have hone := own_law i0
  rw [hone] at h3 hq
  refine ⟨n, _, h1, h2, h3, hpost _ _ _ _ _ _ ⟨Cond.after_iff.mpr rfl, Cond.after_iff.mpr (eq_i res_at (Term.int_eval (1)) rfl), trivial⟩ ⟨hq.1, hq.2.1, (hq.2.2.sift fun y hy => Or.inr (N y hy)).mono (by decide) (by decide)⟩⟩
theorem main_1_1 : Claimed_1_1 := comes_1 fun _ _ _ _ _ _ h hF => ⟨h.1, hF⟩
theorem main_1_2 : Claimed_1_2 := comes_1 fun _ _ _ _ _ _ h hF => ⟨h.2.1, hF⟩
end Jvm.Pilot.@@N@@
namespace Jvm.Pilot.@@N@@
open Jvm Jvm.ClassFile Sem Op Lib Jvm.Free Jvm.Stand Jvm.Pilot.@@N@@.Jvm.D
/-! MADE BY PROGRAM (witnessworld.py) out of the Statement's table words and the real class files: 9 classes; the members and pool entries that the words name. The judged class is class 1, her method 1. -/
namespace start1
open Jvm.ClassFile
def u (s : String) : CpInfo := .utf8 (stringToUtf16 s)
/-- a pool by its gaps: so many unusable entries, then the entry; so many at the end -/
def gap : Nat → List CpInfo → List CpInfo
  | 0, r => r
  | n + 1, r => .unusable :: gap n r
def poolList (es : List (Nat × CpInfo)) (last : Nat) : List CpInfo := es.foldr (fun e r => gap e.1 (e.2 :: r)) (gap last [])
def pool (es : List (Nat × CpInfo)) (last : Nat) : Array CpInfo := ⟨poolList es last⟩
def fileOf (pool : Array CpInfo) (this : Nat) (attrs : Array Attribute := #[]) (ms : Array MethodInfo := #[]) (fl : Nat := 33) (sup : Nat := 0) (ifs : Array Nat := #[]) (fds : Array FieldInfo := #[]) : ClassFile where
  minorVersion := 0
  majorVersion := 65
  constantPool := pool
  accessFlags := fl
  thisClass := this
  superClass := sup
  interfaces := ifs
  fields := fds
  methods := ms
  attributes := attrs
def plain (name : String) (sup : Option ClassId) : Class where
  name := name
  kind := .ordinary
  loader := none
  accessFlags := 33
  super := sup
  interfaces := #[]
  cf := none
  fields := #[]
  methods := #[]
  instanceTypes := #[]
  staticTypes := #[]
  resolved := #[]
  callSites := []
  init := .initialized
  statics := none
  mirror := none

def pool0 : Array CpInfo := pool [(5, u "<init>"), (0, u "()V"), (1, .class_ 10), (1, u "java/lang/Object")] 113

def k0m0 : Method := { name := "<init>", desc := "()V", sig := { parameters := [], returnType := none }, accessFlags := 1, code := none }
/-- java/lang/Object -/
def k0 : Class := { plain "java/lang/Object" none with
  accessFlags := 33
  interfaces := #[]
  cf := some (fileOf pool0 8 #[] #[{ accessFlags := 1, nameIndex := 5, descriptorIndex := 6, attributes := #[] }] 33 0 #[] #[])
  fields := #[]
  methods := #[k0m0]
  instanceTypes := #[]
  staticTypes := #[]
  resolved := Array.replicate 124 none
  statics := none }

def pool1 : Array CpInfo := pool [(2, .class_ 4), (1, u "java/lang/Object"), (0, u "<init>"), (0, u "()V"), (0, .integer 65535), (0, .methodref 9 10), (0, .class_ 11), (0, .nameAndType 12 13), (0, u "com/example/earned_trust/earnedtrust/model/UriSyntax"), (0, u "asciiLowerCase"), (0, u "(C)C"), (0, .class_ 15), (0, u "com/example/earned_trust/earnedtrust/model/UriSyntaxAsciiLowerCasePinLaw"), (2, u "law"), (0, u "(I)Z")] 3

def k1m0 : Method := { name := "<init>", desc := "()V", sig := { parameters := [], returnType := none }, accessFlags := 2, code := none }
def k1c1 : Code := { maxStack := 2, maxLocals := 5, code := code, exceptionTable := #[], attributes := #[] }
def k1m1 : Method := { name := "law", desc := "(I)Z", sig := { parameters := [.int], returnType := some .boolean }, accessFlags := 9, code := some k1c1 }
/-- com/example/earned_trust/earnedtrust/model/UriSyntaxAsciiLowerCasePinLaw -/
def k1 : Class := { plain "com/example/earned_trust/earnedtrust/model/UriSyntaxAsciiLowerCasePinLaw" (some 0) with
  accessFlags := 49
  interfaces := #[]
  cf := some (fileOf pool1 14 #[] #[{ accessFlags := 2, nameIndex := 5, descriptorIndex := 6, attributes := #[] }, { accessFlags := 9, nameIndex := 18, descriptorIndex := 19, attributes := #[] }] 49 2 #[] #[])
  fields := #[]
  methods := #[k1m0, k1m1]
  instanceTypes := #[]
  staticTypes := #[]
  resolved := Array.replicate 23 none
  statics := none }

def pool2 : Array CpInfo := pool [(1, .class_ 2), (0, u "com/example/earned_trust/earnedtrust/model/UriSyntax"), (1, .class_ 6), (1, u "java/lang/Object"), (0, u "<init>"), (0, u "()V"), (33, .class_ 44), (1, u "com/example/earned_trust/earnedtrust/model/UriSyntax$Parts"), (77, .class_ 124), (1, u "com/example/earned_trust/earnedtrust/model/UriSyntax$Authority"), (23, u "DEFAULT_PORTS"), (0, u "Ljava/util/Map;"), (28, u "(C)C"), (2, u "asciiLowerCase"), (165, u "UNRESERVED_PUNCTUATION"), (0, u "Ljava/lang/String;"), (1, u "SUB_DELIMS"), (2, u "SCHEME"), (0, u "USER_INFORMATION"), (0, u "HOST"), (0, u "PATH"), (0, u "QUERY"), (2, u "SHORTENED_IPV6_GROUPS"), (0, u "I")] 59

def k2m0 : Method := { name := "<init>", desc := "()V", sig := { parameters := [], returnType := none }, accessFlags := 2, code := none }
def k2c1 : Code := { maxStack := 2, maxLocals := 2, code := prog_45_method_19_code, exceptionTable := #[], attributes := #[] }
def k2m1 : Method := { name := "asciiLowerCase", desc := "(C)C", sig := { parameters := [.char], returnType := some .char }, accessFlags := 8, code := some k2c1 }
/-- com/example/earned_trust/earnedtrust/model/UriSyntax -/
def k2 : Class := { plain "com/example/earned_trust/earnedtrust/model/UriSyntax" (some 0) with
  accessFlags := 32
  interfaces := #[]
  cf := some (fileOf pool2 1 #[.nestMembers #[122, 42]] #[{ accessFlags := 2, nameIndex := 7, descriptorIndex := 8, attributes := #[] }, { accessFlags := 8, nameIndex := 181, descriptorIndex := 178, attributes := #[] }] 32 4 #[] #[{ accessFlags := 24, nameIndex := 347, descriptorIndex := 348, attributes := #[] }, { accessFlags := 24, nameIndex := 350, descriptorIndex := 348, attributes := #[] }, { accessFlags := 26, nameIndex := 353, descriptorIndex := 348, attributes := #[] }, { accessFlags := 26, nameIndex := 354, descriptorIndex := 348, attributes := #[] }, { accessFlags := 26, nameIndex := 355, descriptorIndex := 348, attributes := #[] }, { accessFlags := 26, nameIndex := 356, descriptorIndex := 348, attributes := #[] }, { accessFlags := 26, nameIndex := 357, descriptorIndex := 348, attributes := #[] }, { accessFlags := 26, nameIndex := 148, descriptorIndex := 149, attributes := #[] }, { accessFlags := 26, nameIndex := 360, descriptorIndex := 361, attributes := #[] }])
  fields := #[{ name := "UNRESERVED_PUNCTUATION", type := (.object "java/lang/String"), accessFlags := 24, slot := 0, constantValue := 0 }, { name := "SUB_DELIMS", type := (.object "java/lang/String"), accessFlags := 24, slot := 1, constantValue := 0 }, { name := "SCHEME", type := (.object "java/lang/String"), accessFlags := 26, slot := 2, constantValue := 0 }, { name := "USER_INFORMATION", type := (.object "java/lang/String"), accessFlags := 26, slot := 3, constantValue := 0 }, { name := "HOST", type := (.object "java/lang/String"), accessFlags := 26, slot := 4, constantValue := 0 }, { name := "PATH", type := (.object "java/lang/String"), accessFlags := 26, slot := 5, constantValue := 0 }, { name := "QUERY", type := (.object "java/lang/String"), accessFlags := 26, slot := 6, constantValue := 0 }, { name := "DEFAULT_PORTS", type := (.object "java/util/Map"), accessFlags := 26, slot := 7, constantValue := 0 }, { name := "SHORTENED_IPV6_GROUPS", type := .int, accessFlags := 26, slot := 8, constantValue := 0 }]
  methods := #[k2m0, k2m1]
  instanceTypes := #[]
  staticTypes := #[(.object "java/lang/String"), (.object "java/lang/String"), (.object "java/lang/String"), (.object "java/lang/String"), (.object "java/lang/String"), (.object "java/lang/String"), (.object "java/lang/String"), (.object "java/util/Map"), .int]
  resolved := Array.replicate 421 none
  statics := none }

def pool3 : Array CpInfo := pool [(1, u "java/lang/Cloneable"), (0, .class_ 1), (0, u "java/lang/Object"), (0, .class_ 3)] 3

/-- java/lang/Cloneable -/
def k3 : Class := { plain "java/lang/Cloneable" (some 0) with
  accessFlags := 1537
  interfaces := #[]
  cf := some (fileOf pool3 2 #[] #[] 1537 4 #[] #[])
  fields := #[]
  methods := #[]
  instanceTypes := #[]
  staticTypes := #[]
  resolved := Array.replicate 8 none
  statics := none }

def pool4 : Array CpInfo := pool [(1, u "java/io/Serializable"), (0, .class_ 1), (0, u "java/lang/Object"), (0, .class_ 3)] 3

/-- java/io/Serializable -/
def k4 : Class := { plain "java/io/Serializable" (some 0) with
  accessFlags := 1537
  interfaces := #[]
  cf := some (fileOf pool4 2 #[] #[] 1537 4 #[] #[])
  fields := #[]
  methods := #[]
  instanceTypes := #[]
  staticTypes := #[]
  resolved := Array.replicate 8 none
  statics := none }

/-- the primitive byte -/
def k5 : Class := { plain "byte" none with kind := .primitive 'B', accessFlags := 0x411 }
/-- [B -/
def k6 : Class := { plain "[B" (some 0) with kind := .array 5 .byte, interfaces := #[3, 4], accessFlags := 1041 }

/-- the primitive int -/
def k7 : Class := { plain "int" none with kind := .primitive 'I', accessFlags := 0x411 }
/-- [I -/
def k8 : Class := { plain "[I" (some 0) with kind := .array 7 .int, interfaces := #[3, 4], accessFlags := 1041 }

def heap : Heap := #[]
def classes : Array Class := #[k0, k1, k2, k3, k4, k5, k6, k7, k8]
def interned : List (Array UInt16 × Addr) := []
def slotsUsed : Nat := 0
def theMethod : MethodId := ⟨1, 1⟩
def args0 : Array Value := #[.int 5]
def aboutOver (below : List Frame) : State where
  vm := { classes := classes, interned := interned.toArray }
  heap := heap
  slotsUsed := slotsUsed
  threads := #[{ frames := .invoking theMethod args0 :: below }]
def below0 : List Frame := [.native { method := ⟨0, 0⟩, args := #[] }]
def about1 : State := aboutOver below0
def p0 : Program := .bare "" "" ""
def e0 : Env := launch0.env 0 0 0
theorem w_frames : about1.frames = Frame.invoking theMethod args0 :: below0 := rfl
set_option maxRecDepth 65536 in
theorem w_args : argsFit about1.vm theMethod args0 = true := by decide +kernel
set_option maxRecDepth 65536 in
theorem w_heap : heapFits about1 = true := by decide +kernel
set_option maxRecDepth 65536 in
theorem w_runnable : about1.curStatus? = some .runnable := by decide +kernel
set_option maxRecDepth 65536 in
theorem w_alone : about1.alone = true := by decide +kernel
set_option maxRecDepth 65536 in
theorem w_named : about1.methodNamed? x = some theMethod := by decide +kernel
set_option maxRecDepth 65536 in
theorem w_hears : about1.hears theMethod below0 = true := by decide +kernel
set_option maxRecDepth 65536 in
theorem w_ripe : about1.ripe theMethod args0 below0 = true := by decide +kernel
theorem w_running : about1.status = .running := rfl
set_option maxRecDepth 65536 in
theorem w_room : about1.hasRoom e0.platform room_1 = true :=
  launch0.hasRoom_least _ room_1 (by decide +kernel) (by decide +kernel) (by decide +kernel) (by decide +kernel) (by decide +kernel) (by decide +kernel)
theorem allAtoms_all (ts : List Jvm.Cond) (a : Array Jvm.Value) (st : Jvm.State) : (allAtoms ts).before a st = ts.all (fun c => c.before a st) := by
  induction ts with
  | nil => rfl
  | cons c t ih =>
    show (Jvm.Cond.and c (allAtoms t)).before a st = _
    rw [Jvm.Cond.before_and, ih, List.all_cons]
def words1 : List Jvm.Cond := Jvm.Cond.code x code maxLocals ret :: tables_1
/-- a 'code' word, met by the world's own term for the bytes: nothing is compared byte by byte -/
theorem code_word {y : MethodName} {bytes : ByteArray} {mx : Nat} {rt : Option FieldType} {a : Array Value} {s : State} {m : MethodId} {meth : Method} {c : Code} (h1 : s.methodNamed? y = some m) (h2 : s.vm.method? m = some meth) (h3 : meth.code = some c) (h4 : c.code = bytes)
    (h5 : (c.maxLocals == mx && c.exceptionTable.isEmpty && decide (c.maxStack ≤ mostOperands) && decide (meth.sig.returnType = rt) && !meth.locks && decide (parseMethodDescriptor y.desc = some meth.sig)) = true) : (Jvm.Cond.code y bytes mx rt).before a s = true := by
  simp only [Bool.and_eq_true, beq_iff_eq, Bool.not_eq_true', decide_eq_true_eq] at h5
  obtain ⟨⟨⟨⟨⟨g1, g2⟩, g3⟩, g4⟩, g5⟩, g6⟩ := h5
  simp [Cond.before, Cond.holds, Cond.value, h1, h2, h3, h4, g1, g2, g3, g4, g5, g6]
def isCode : Jvm.Cond → Bool
  | .code _ _ _ _ => true
  | _ => false
theorem all_split {L : List Jvm.Cond} {P : Jvm.Cond → Bool} (h1 : L.all (fun c => isCode c || P c) = true) (h2 : ∀ c ∈ L.filter isCode, P c = true) : L.all P = true := by
  refine List.all_eq_true.mpr fun c hc => ?_
  have h := List.all_eq_true.mp h1 c hc
  rcases Bool.eq_false_or_eq_true (isCode c) with hi | hi
  · exact h2 c (List.mem_filter.mpr ⟨hc, hi⟩)
  · simpa [hi] using h
set_option maxRecDepth 65536 in
theorem w_c0 : (Jvm.Cond.code x code maxLocals ret).before args0 about1 = true := code_word (m := ⟨1, 1⟩) (meth := k1m1) (c := k1c1) (by decide +kernel) rfl rfl rfl (by decide +kernel)
set_option maxRecDepth 65536 in
theorem w_c1 : (Jvm.Cond.code ({ cls := "com/example/earned_trust/earnedtrust/model/UriSyntax", name := "asciiLowerCase", desc := "(C)C" } : Jvm.MethodName) prog_45_method_19_code (2 : Nat) (Option.some Jvm.ClassFile.FieldType.char)).before args0 about1 = true := code_word (m := ⟨2, 1⟩) (meth := k2m1) (c := k2c1) (by decide +kernel) rfl rfl rfl (by decide +kernel)
def codes1 : List Jvm.Cond := [Jvm.Cond.code x code maxLocals ret, Jvm.Cond.code ({ cls := "com/example/earned_trust/earnedtrust/model/UriSyntax", name := "asciiLowerCase", desc := "(C)C" } : Jvm.MethodName) prog_45_method_19_code (2 : Nat) (Option.some Jvm.ClassFile.FieldType.char)]
set_option maxRecDepth 65536 in
theorem codes_eq : words1.filter isCode = codes1 := rfl
theorem w_codes : ∀ c ∈ words1.filter isCode, c.before args0 about1 = true := by
  rw [codes_eq]
  intro c hc
  simp only [codes1, List.mem_cons, List.not_mem_nil, or_false] at hc
  rcases hc with rfl | rfl
  · exact w_c0
  · exact w_c1
set_option maxRecDepth 65536 in
theorem w_t1 : words1.all (fun c => isCode c || c.before args0 about1) = true := by decide +kernel
theorem w_tables : (allAtoms (Jvm.Cond.code x code maxLocals ret :: tables_1)).before args0 about1 = true := by
  rw [allAtoms_all]
  show words1.all (fun c => c.before args0 about1) = true
  refine all_split ?_ w_codes
  rw [w_t1]
set_option maxRecDepth 65536 in
theorem w_case : (Jvm.Cond.and given_1 narrow_1).before args0 about1 = true := by decide +kernel
theorem w_applies : (headSpec (Jvm.Cond.code x code maxLocals ret :: tables_1) room_1).applies x e0.platform about1 = true :=
  (Spec.applies_iff w_frames).mpr ⟨w_running, w_runnable, w_alone, w_named, w_hears, w_ripe, w_room, w_tables⟩
theorem atStart : AtStart classFile x code maxLocals ret World_1 tables_1 room_1 Calls_1 rest_1 Pre_1 launch0 p0 e0 about1 theMethod args0 below0 :=
  ⟨lists_1, trivial, launch0.admits_env _ _ _, launch0.least_env, fairChoices_fair.cas, fairChoices_fair.clock, w_frames, w_args, w_heap, w_applies, trivial, trivial, w_case⟩
end start1
theorem witness_1 : WitnessClaimed_1 := ⟨start1.p0, start1.e0, start1.about1, start1.theMethod, start1.args0, start1.below0, start1.atStart⟩
end Jvm.Pilot.@@N@@
