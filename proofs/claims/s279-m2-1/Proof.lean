import JvmDerived
import JvmDerived.Pilot.@@N@@Statement
import JvmDerived.Pilot.@@N@@Code
set_option linter.unusedVariables false
set_option linter.unusedSimpArgs false
namespace Jvm.RoadKit
open Sem ClassFile Op Lib Jvm.Stand Jvm.Free Jvm.LawKit
section New
variable {p : Program} {l : Launch} {e : Env} {R : Room} {s : State} {m : MethodId} {args : Array Value} {below : List Frame} {meth : Method} {c : Code} {T : State} {locs : List Loc} {cells slots : Nat}
theorem retI (X : Stand p l e R s m args below meth c T locs cells slots) (hx : p.tables.exec = Jvm.exec) {pc : Nat} {Ls : Array Slot} {z : Int32} {rest : List Value} (hret : meth.sig.returnType = some .int) (hd : decode c.code pc = .ok (.ireturn, 1)) {fs : List Frame}
    (hl : ∀ (f : JFrame) (acts : List Action), f.method = m → f.locked = none → f.entered = [] → (doReturn e (T.setTop f) acts (some (.int z))).1 = T.setFrames fs) : Steps p.tables e below (T.setTop (mkF m pc Ls (.int z :: rest))) (T.setFrames fs) := by
  have hm' : T.vm.method? m = some meth := X.method'
  have hn : narrow .int (.int z) = .int z := rfl
  show Steps p.tables e below (T.setTop { method := m, pc := pc, locals := Ls, stack := _ :: rest, locked := none }) _
  jvm_step X.here [X.here.top, hx, hd, hm', hret, hn]
  first | (intro acts; rw [hl _ acts rfl rfl rfl]) | rw [hl _ _ rfl rfl rfl]
  exact Steps.refl _
end New
end Jvm.RoadKit
namespace Jvm.Pilot.@@N@@
open Jvm Jvm.ClassFile Sem Op Lib Jvm.Free Jvm.Stand Jvm.LawKit Jvm.RoadKit Bundle Jvm.Pilot.@@N@@.Jvm.D
def QP (r : Option Value) (h0 : Heap) (n0 : Nat) (v : Option Value) (h : Heap) (L : List Loc) : Prop := v = r ∧ Fr n0 L ∧ h = h0
def Ctx (p : Program) (s : State) (m : MethodId) (meth : Method) (c : Code) (Z : State) (a0 : Array Value) (own : String) (bytes : ByteArray) (ml : Nat) (rt : Option FieldType) (name : String) : Prop :=
  p.tables.exec = Jvm.exec ∧ Z.Warmed39 s.vm ∧ (∀ d ∈ tables_1, d.before a0 Z = true) ∧ c.code = bytes ∧ c.maxLocals = ml ∧ s.vm.findClass own = some m.cls ∧ meth.sig.returnType = rt ∧ meth.locks = false ∧ meth.name = name
/-- from T with the frame g on top the run comes to a return, of which Φ holds -/
def Runs (p : Program) (e : Env) (below : List Frame) (s : State) (Φ : Option Value → Heap → List Loc → Prop) (k n : Nat) (T : State) (g : JFrame) : Prop :=
  ∃ s₂ o, Steps p.tables e below (T.setTop g) s₂ ∧ s₂.status = .running ∧ Ended s₂ below o ∧ ∃ v L, o = .returned v ∧ Φ v s₂.heap L ∧ FrameEnd s o s₂ L k n
section Own
variable {p : Program} {l : Launch} {e : Env} {R : Room} {s : State} {m : MethodId} {args : Array Value} {below : List Frame} {meth : Method} {c : Code} {T T' T0 Z : State} {a0 : Array Value} {locs : List Loc} {cells slots k n n0 : Nat} {h0 : Heap} {g g' : JFrame} {Φ : Option Value → Heap → List Loc → Prop}
theorem Runs.via (h : ∀ t, Steps p.tables e below (T'.setTop g') t → Steps p.tables e below (T.setTop g) t) (r : Runs p e below s Φ k n T' g') : Runs p e below s Φ k n T g := by
  obtain ⟨s₂, o, h1, r⟩ := r
  exact ⟨s₂, o, h _ h1, r⟩
theorem QP.cast {r r' : Option Value} (h : r = r') (H : Runs p e below s (QP r' h0 n0) k n T g) : Runs p e below s (QP r h0 n0) k n T g := by rw [h]; exact H
theorem own_retI (X : Stand p l e R s m args below meth c T locs cells slots) (hx : p.tables.exec = Jvm.exec) (hlk : meth.locks = false) (hret : meth.sig.returnType = some .int) {pc : Nat} {Ls : Array Slot} {z : Int32} {rest : List Value} (hd : decode c.code pc = .ok (.ireturn, 1)) (hk : cells ≤ k) (hn : slots ≤ n) (hΦ : Φ (some (.int z)) T.heap locs) :
    Runs p e below s Φ k n T (mkF m pc Ls (.int z :: rest)) := by
  obtain ⟨fs, hr, hrun, hended, hW, hsame⟩ := X.leave (v := some (.int z)) (fun h => by rw [hret] at h; cases h) hlk
  exact ⟨_, _, retI X hx hret hd hr, hrun, hended, _, _, rfl, hΦ, ⟨_, rfl⟩, hW, hsame.mono hk hn⟩
theorem own_retN (X : Stand p l e R s m args below meth c T locs cells slots) (hx : p.tables.exec = Jvm.exec) (hlk : meth.locks = false) {t : FieldType} (hret : meth.sig.returnType = some t) (ht : t = .boolean ∨ t = .byte ∨ t = .char ∨ t = .short) {pc : Nat} {Ls : Array Slot} {z : Int32} {rest : List Value} (hd : decode c.code pc = .ok (.ireturn, 1)) (hk : cells ≤ k) (hn : slots ≤ n) (hΦ : Φ (some (.int (nar t z))) T.heap locs) :
    Runs p e below s Φ k n T (mkF m pc Ls (.int z :: rest)) := by
  obtain ⟨fs, hr, hrun, hended, hW, hsame⟩ := X.leave (v := some (.int (nar t z))) (fun h => by rw [hret] at h; cases h) hlk
  exact ⟨_, _, retN X hx hret ht hd hr, hrun, hended, _, _, rfl, hΦ, ⟨_, rfl⟩, hW, hsame.mono hk hn⟩
theorem own_retJ (X : Stand p l e R s m args below meth c T locs cells slots) (hx : p.tables.exec = Jvm.exec) (hlk : meth.locks = false) (hret : meth.sig.returnType = some .long) {pc : Nat} {Ls : Array Slot} {z : Int64} (hd : decode c.code pc = .ok (.lreturn, 1)) (hk : cells ≤ k) (hn : slots ≤ n) (hΦ : Φ (some (.long z)) T.heap locs) :
    Runs p e below s Φ k n T (mkF m pc Ls [.long z]) := by
  obtain ⟨fs, hr, hrun, hended, hW, hsame⟩ := X.leave (v := some (.long z)) (fun h => by rw [hret] at h; cases h) hlk
  exact ⟨_, _, X.lreturnOut hx hret hd hr, hrun, hended, _, _, rfl, hΦ, ⟨_, rfl⟩, hW, hsame.mono hk hn⟩
theorem d1_0 : decode prog_9_method_2_code 0 = .ok (.lload_n 2, 1) := by decide +kernel
theorem d1_1 : decode prog_9_method_2_code 1 = .ok (.ldc2_w 9, 3) := by decide +kernel
theorem d1_4 : decode prog_9_method_2_code 4 = .ok (.lload_n 0, 1) := by decide +kernel
theorem d1_5 : decode prog_9_method_2_code 5 = .ok (.lsub, 1) := by decide +kernel
theorem d1_6 : decode prog_9_method_2_code 6 = .ok (.lcmp, 1) := by decide +kernel
theorem d1_7 : decode prog_9_method_2_code 7 = .ok (.ifCond .le 9, 3) := by decide +kernel
theorem d1_10 : decode prog_9_method_2_code 10 = .ok (.ldc2_w 9, 3) := by decide +kernel
theorem d1_13 : decode prog_9_method_2_code 13 = .ok (.goto 6, 3) := by decide +kernel
theorem d1_16 : decode prog_9_method_2_code 16 = .ok (.lload_n 0, 1) := by decide +kernel
theorem d1_17 : decode prog_9_method_2_code 17 = .ok (.lload_n 2, 1) := by decide +kernel
theorem d1_18 : decode prog_9_method_2_code 18 = .ok (.ladd, 1) := by decide +kernel
theorem d1_19 : decode prog_9_method_2_code 19 = .ok (.lreturn, 1) := by decide +kernel
def g1_0 (y0 : Int64) (y2 : Int64) : Int64 := (if ((9223372036854775807 : Int64) - y0) < y2 then (9223372036854775807 : Int64) else (y0 + y2))
set_option maxRecDepth 65536 in
set_option maxHeartbeats 4000000 in
theorem b1_0 (C : Ctx p s m meth c Z a0 "com/example/postloop/postloop/Uptime" prog_9_method_2_code 4 (some .long) "plus") (X0 : Stand p l e ({ frames := 0, cells := 0, slots := 0, locals := 0 } : Room) s m args below meth c T0 locs cells slots) (e0 : T0.heap = h0) (N0 : Fr n0 locs) (hk : cells ≤ 0) (hn : slots ≤ 0) (y0 : Int64) (y2 : Int64) :
    Runs p e below s (QP (some (.long (g1_0 y0 y2))) h0 n0) 0 0 T0 (mkF m 0 #[.val (.long y0), .second, .val (.long y2), .second] []) := by
  have ⟨hx, hZ, hw, hby, hml, hown, hret, hlk, hnm⟩ := C
  refine Runs.via (T' := T0) (g' := (mkF m 7 #[.val (.long y0), .second, .val (.long y2), .second] [(.int (lcmpW y2 ((9223372036854775807 : Int64) - y0)))])) (fun t k => ?_) ?_
  · show Steps p.tables e below (T0.setTop (mkF m 0 #[.val (.long y0), .second, .val (.long y2), .second] [])) t
    refine XS.lloadN X0.here hx rfl (hb hby d1_0) rfl ?_
    show Steps p.tables e below (T0.setTop (mkF m 1 #[.val (.long y0), .second, .val (.long y2), .second] [(.long y2)])) t
    refine X0.ldc2Long hx hown (mvT hZ (hw _ (List.mem_of_getElem? (i := 5) rfl))) (g := (mkF m 1 #[.val (.long y0), .second, .val (.long y2), .second] [(.long y2)])) rfl (hb hby d1_1) _ ?_
    show Steps p.tables e below (T0.setTop (mkF m 4 #[.val (.long y0), .second, .val (.long y2), .second] [(.long (9223372036854775807 : Int64)), (.long y2)])) t
    refine XS.lloadN X0.here hx rfl (hb hby d1_4) rfl ?_
    show Steps p.tables e below (T0.setTop (mkF m 5 #[.val (.long y0), .second, .val (.long y2), .second] [(.long y0), (.long (9223372036854775807 : Int64)), (.long y2)])) t
    refine XS.lsub X0.here hx rfl (hb hby d1_5) rfl ?_
    show Steps p.tables e below (T0.setTop (mkF m 6 #[.val (.long y0), .second, .val (.long y2), .second] [(.long ((9223372036854775807 : Int64) - y0)), (.long y2)])) t
    refine XS.lcmp X0.here hx rfl (hb hby d1_6) rfl ?_
    exact k
  by_cases hc1 : ((9223372036854775807 : Int64) - y0) < y2
  · refine Runs.via (T' := T0) (g' := (mkF m 10 #[.val (.long y0), .second, .val (.long y2), .second] [])) (fun t k => ?_) ?_
    · show Steps p.tables e below (T0.setTop (mkF m 7 #[.val (.long y0), .second, .val (.long y2), .second] [(.int (lcmpW y2 ((9223372036854775807 : Int64) - y0)))])) t
      exact XS.ifNo X0.here hx rfl (hb hby d1_7) rfl ((if0 _ _).trans (tlt ((lw_gt _ _).mpr hc1)).2.2.2) k
    refine Runs.via (T' := T0) (g' := (mkF m 19 #[.val (.long y0), .second, .val (.long y2), .second] [(.long (9223372036854775807 : Int64))])) (fun t k => ?_) ?_
    · show Steps p.tables e below (T0.setTop (mkF m 10 #[.val (.long y0), .second, .val (.long y2), .second] [])) t
      refine X0.ldc2Long hx hown (mvT hZ (hw _ (List.mem_of_getElem? (i := 5) rfl))) (g := (mkF m 10 #[.val (.long y0), .second, .val (.long y2), .second] [])) rfl (hb hby d1_10) _ ?_
      show Steps p.tables e below (T0.setTop (mkF m 13 #[.val (.long y0), .second, .val (.long y2), .second] [(.long (9223372036854775807 : Int64))])) t
      refine XS.goto X0.here hx rfl (pc0 := 13) (pc' := 19) rfl (hb hby d1_13) (by decide) (by decide) ?_
      exact k
    refine QP.cast (congrArg (fun z => some (Value.long z)) (show (g1_0 y0 y2) = (9223372036854775807 : Int64) from (if_pos hc1))) ?_
    exact own_retJ X0 hx hlk hret (hb hby d1_19) hk hn ⟨rfl, N0, e0⟩
  · refine Runs.via (T' := T0) (g' := (mkF m 16 #[.val (.long y0), .second, .val (.long y2), .second] [])) (fun t k => ?_) ?_
    · show Steps p.tables e below (T0.setTop (mkF m 7 #[.val (.long y0), .second, .val (.long y2), .second] [(.int (lcmpW y2 ((9223372036854775807 : Int64) - y0)))])) t
      exact XS.ifYes X0.here hx rfl (pc0 := 7) (pc' := 16) rfl (hb hby d1_7) rfl ((if0 _ _).trans (flt (fun q => hc1 ((lw_gt _ _).mp q))).2.2.2) (by decide) (by decide) k
    refine Runs.via (T' := T0) (g' := (mkF m 19 #[.val (.long y0), .second, .val (.long y2), .second] [(.long (y0 + y2))])) (fun t k => ?_) ?_
    · show Steps p.tables e below (T0.setTop (mkF m 16 #[.val (.long y0), .second, .val (.long y2), .second] [])) t
      refine XS.lloadN X0.here hx rfl (hb hby d1_16) rfl ?_
      show Steps p.tables e below (T0.setTop (mkF m 17 #[.val (.long y0), .second, .val (.long y2), .second] [(.long y0)])) t
      refine XS.lloadN X0.here hx rfl (hb hby d1_17) rfl ?_
      show Steps p.tables e below (T0.setTop (mkF m 18 #[.val (.long y0), .second, .val (.long y2), .second] [(.long y2), (.long y0)])) t
      refine XS.ladd X0.here hx rfl (hb hby d1_18) rfl ?_
      exact k
    refine QP.cast (congrArg (fun z => some (Value.long z)) (show (g1_0 y0 y2) = (y0 + y2) from (if_neg hc1))) ?_
    exact own_retJ X0 hx hlk hret (hb hby d1_19) hk hn ⟨rfl, N0, e0⟩
def f1 (y0 : Int64) (y2 : Int64) : Int64 := g1_0 y0 y2
theorem pn_1 : plainName "com/example/postloop/postloop/Uptime" = true := by first | (simp [plainName, overriddenIn]; done) | decide +kernel
theorem ef_1 (m : MethodId) (y0 : Int64) (y2 : Int64) : entryFrame m #[(.long y0), (.long y2)] 4 = mkF m 0 #[.val (.long y0), .second, .val (.long y2), .second] [] := by first | (simp [entryFrame, mkF, argsToLocals, Value.category]; done) | rfl
set_option maxRecDepth 65536 in
set_option maxHeartbeats 4000000 in
theorem rm1 (l : Launch) (Z : State) (a0 : Array Value) (hw : ∀ d ∈ tables_1, d.before a0 Z = true) (ws : List Jvm.Cond) (y0 : Int64) (y2 : Int64) (h0 : Heap) (n0 : Nat) :
    MetFree l (⟨"com/example/postloop/postloop/Uptime", "plus", "(JJ)J"⟩ : MethodName) (head1 (Jvm.Cond.code (⟨"com/example/postloop/postloop/Uptime", "plus", "(JJ)J"⟩ : MethodName) prog_9_method_2_code 4 (some .long) :: ws) ({ frames := 0, cells := 0, slots := 0, locals := 0 } : Room)) (fun a U => a = #[(.long y0), (.long y2)] ∧ Z.Warmed39 U.vm ∧ U.heap = h0) (fun _ _ _ _ _ => True) (fun _ U o U' => ∃ v L, o = .returned v ∧ QP (some (.long (f1 y0 y2))) h0 n0 v U'.heap L ∧ FrameEnd U o U' L ({ frames := 0, cells := 0, slots := 0, locals := 0 } : Room).cells ({ frames := 0, cells := 0, slots := 0, locals := 0 } : Room).slots) := by
  refine MetFree.of_bodySF (plainFor_of_name pn_1) hisR ?_
  intro p e s m args below meth c s₁ Bd hml0 hP hK
  obtain ⟨rfl, hZ, hh⟩ := hP
  have X0 : Stand p l e ({ frames := 0, cells := 0, slots := 0, locals := 0 } : Room) s m #[(.long y0), (.long y2)] below meth c s₁ [] 0 0 := Stand.of_body Bd
  have e0 : s₁.heap = h0 := by rw [← hh, Bd.state]; rfl
  have C : Ctx p s m meth c Z a0 "com/example/postloop/postloop/Uptime" prog_9_method_2_code 4 (some .long) "plus" := ⟨Bd.exec, hZ, hw, Bd.bytes, hml0, findClass_of_methodNamed Bd.named, Bd.returns, BodyLoose.notSynchronized Bd, (name_of_methodNamed Bd.named Bd.method).1⟩
  refine Runs.via (fun t k => castTop (ef_1 m y0 y2) k) (b1_0 C X0 e0 (Fr.nil n0) (Nat.le_refl 0) (Nat.le_refl 0) y0 y2)
theorem pd_0 : parseMethodDescriptor "(JJ)J" = some ⟨[.long, .long], some .long⟩ := by decide +kernel
def g0_104 (y5 : Int64) (y8 : Int64) (w0 : Int64) : Int32 := (if (f1 y5 y8) = w0 then (1 : Int32) else (0 : Int32))
set_option maxRecDepth 65536 in
set_option maxHeartbeats 4000000 in
theorem b0_104 (C : Ctx p s m meth c Z a0 "com/example/postloop/postloop/UptimePlusPinLaw" code 14 (some .boolean) "law") (X0 : Stand p l e room_1 s m args below meth c T0 locs cells slots) (e0 : T0.heap = h0) (N0 : Fr n0 locs) (hk : cells ≤ 0) (hn : slots ≤ 0) (y0 : Int64) (y2 : Int64) (x4 : Int32) (y5 : Int64) (x7 : Int32) (y8 : Int64) (y10 : Int64) (w0 : Int64) :
    Runs p e below s (QP (some (.int (g0_104 y5 y8 w0))) h0 n0) 0 0 T0 (mkF m 104 #[.val (.long y0), .second, .val (.long y2), .second, .val (.int x4), .val (.long y5), .second, .val (.int x7), .val (.long y8), .second, .val (.long y10), .second, .unset, .unset] [(.long w0)]) := by
  have ⟨hx, hZ, hw, hby, hml, hown, hret, hlk, hnm⟩ := C
  refine Runs.via (T' := T0) (g' := (mkF m 110 #[.val (.long y0), .second, .val (.long y2), .second, .val (.int x4), .val (.long y5), .second, .val (.int x7), .val (.long y8), .second, .val (.long y10), .second, .val (.long w0), .second] [(.long y8), (.long y5)])) (fun t k => ?_) ?_
  · show Steps p.tables e below (T0.setTop (mkF m 104 #[.val (.long y0), .second, .val (.long y2), .second, .val (.int x4), .val (.long y5), .second, .val (.int x7), .val (.long y8), .second, .val (.long y10), .second, .unset, .unset] [(.long w0)])) t
    refine XS.lstore X0.here hx rfl (hb hby at_104) rfl (l' := #[.val (.long y0), .second, .val (.long y2), .second, .val (.int x4), .val (.long y5), .second, .val (.int x7), .val (.long y8), .second, .val (.long y10), .second, .val (.long w0), .second]) rfl ?_
    show Steps p.tables e below (T0.setTop (mkF m 106 #[.val (.long y0), .second, .val (.long y2), .second, .val (.int x4), .val (.long y5), .second, .val (.int x7), .val (.long y8), .second, .val (.long y10), .second, .val (.long w0), .second] [])) t
    refine XS.lload X0.here hx rfl (hb hby at_106) rfl ?_
    show Steps p.tables e below (T0.setTop (mkF m 108 #[.val (.long y0), .second, .val (.long y2), .second, .val (.int x4), .val (.long y5), .second, .val (.int x7), .val (.long y8), .second, .val (.long y10), .second, .val (.long w0), .second] [(.long y5)])) t
    refine XS.lload X0.here hx rfl (hb hby at_108) rfl ?_
    exact k
  obtain ⟨_, _, ⟨T1, L1, k1, n1⟩, -, X1, ⟨Lc1, hQ1, l1, y1, z1⟩, st1⟩ := Jvm.LawKit.callS X0 hx (y := (⟨"com/example/postloop/postloop/Uptime", "plus", "(JJ)J"⟩ : MethodName)) hown (mvT hZ (hw _ (List.mem_of_getElem? (i := 1) rfl))) (mvT hZ (hw _ (List.mem_of_getElem? (i := 2) rfl))) (mvT hZ (hw _ (List.mem_of_getElem? (i := 3) rfl))) (mvT hZ (hw _ (List.mem_of_getElem? (i := 4) rfl))) (by decide) (backOf (W := 0) (rm1 l Z a0 hw [] y5 y8 h0 n0) hZ (hw _ (List.mem_of_getElem? (i := 4) rfl)) (hw _ (List.mem_of_getElem? (i := 3) rfl)) (by decide) (by decide)) (g := (mkF m 110 #[.val (.long y0), .second, .val (.long y2), .second, .val (.int x4), .val (.long y5), .second, .val (.int x7), .val (.long y8), .second, .val (.long y10), .second, .val (.long w0), .second] [(.long y8), (.long y5)])) rfl (by rw [hml]; rfl) (argsL := [(.long y5), (.long y8)]) (rest := []) (lenOf pd_0 rfl) rfl (by show 2 * 0 + _ ≤ _; exact Nat.le_of_eq rfl) (hb hby at_110) (fun _ _ => ⟨rfl, e0, (Nat.le_trans hk (by decide)), (Nat.le_trans hn (by decide))⟩)
  dsimp only [Pt.U, Pt.locs, Pt.cells, Pt.slots] at X1 l1 y1 z1 st1 hQ1
  subst l1 y1 z1
  obtain ⟨rfl, N1q, e1⟩ := hQ1
  have N1 := Fr.app N0 N1q
  refine Runs.via (T' := T1) (g' := (mkF m 113 #[.val (.long y0), .second, .val (.long y2), .second, .val (.int x4), .val (.long y5), .second, .val (.int x7), .val (.long y8), .second, .val (.long y10), .second, .val (.long w0), .second] [(.long (f1 y5 y8))])) (fun t k => st1 _ k) ?_
  refine Runs.via (T' := T1) (g' := (mkF m 116 #[.val (.long y0), .second, .val (.long y2), .second, .val (.int x4), .val (.long y5), .second, .val (.int x7), .val (.long y8), .second, .val (.long y10), .second, .val (.long w0), .second] [(.int (lcmpW (f1 y5 y8) w0))])) (fun t k => ?_) ?_
  · show Steps p.tables e below (T1.setTop (mkF m 113 #[.val (.long y0), .second, .val (.long y2), .second, .val (.int x4), .val (.long y5), .second, .val (.int x7), .val (.long y8), .second, .val (.long y10), .second, .val (.long w0), .second] [(.long (f1 y5 y8))])) t
    refine XS.lload X1.here hx rfl (hb hby at_113) rfl ?_
    show Steps p.tables e below (T1.setTop (mkF m 115 #[.val (.long y0), .second, .val (.long y2), .second, .val (.int x4), .val (.long y5), .second, .val (.int x7), .val (.long y8), .second, .val (.long y10), .second, .val (.long w0), .second] [(.long w0), (.long (f1 y5 y8))])) t
    refine XS.lcmp X1.here hx rfl (hb hby at_115) rfl ?_
    exact k
  by_cases hc2 : (f1 y5 y8) = w0
  · refine Runs.via (T' := T1) (g' := (mkF m 119 #[.val (.long y0), .second, .val (.long y2), .second, .val (.int x4), .val (.long y5), .second, .val (.int x7), .val (.long y8), .second, .val (.long y10), .second, .val (.long w0), .second] [])) (fun t k => ?_) ?_
    · show Steps p.tables e below (T1.setTop (mkF m 116 #[.val (.long y0), .second, .val (.long y2), .second, .val (.int x4), .val (.long y5), .second, .val (.int x7), .val (.long y8), .second, .val (.long y10), .second, .val (.long w0), .second] [(.int (lcmpW (f1 y5 y8) w0))])) t
      exact XS.ifNo X1.here hx rfl (hb hby at_116) rfl ((if0 _ _).trans (teq ((lw_eq _ _).mpr hc2)).2) k
    refine Runs.via (T' := T1) (g' := (mkF m 124 #[.val (.long y0), .second, .val (.long y2), .second, .val (.int x4), .val (.long y5), .second, .val (.int x7), .val (.long y8), .second, .val (.long y10), .second, .val (.long w0), .second] [(.int (1 : Int32))])) (fun t k => ?_) ?_
    · show Steps p.tables e below (T1.setTop (mkF m 119 #[.val (.long y0), .second, .val (.long y2), .second, .val (.int x4), .val (.long y5), .second, .val (.int x7), .val (.long y8), .second, .val (.long y10), .second, .val (.long w0), .second] [])) t
      refine XS.iconst X1.here hx rfl (hb hby at_119) ?_
      show Steps p.tables e below (T1.setTop (mkF m 120 #[.val (.long y0), .second, .val (.long y2), .second, .val (.int x4), .val (.long y5), .second, .val (.int x7), .val (.long y8), .second, .val (.long y10), .second, .val (.long w0), .second] [(.int (1 : Int32))])) t
      refine XS.goto X1.here hx rfl (pc0 := 120) (pc' := 124) rfl (hb hby at_120) (by decide) (by decide) ?_
      exact k
    refine QP.cast (congrArg (fun z => some (Value.int z)) (show (g0_104 y5 y8 w0) = (1 : Int32) from (if_pos hc2))) ?_
    exact own_retN X1 hx hlk (t := .boolean) hret (by simp) (hb hby at_124) hk hn ⟨rfl, N1, e1⟩
  · refine Runs.via (T' := T1) (g' := (mkF m 123 #[.val (.long y0), .second, .val (.long y2), .second, .val (.int x4), .val (.long y5), .second, .val (.int x7), .val (.long y8), .second, .val (.long y10), .second, .val (.long w0), .second] [])) (fun t k => ?_) ?_
    · show Steps p.tables e below (T1.setTop (mkF m 116 #[.val (.long y0), .second, .val (.long y2), .second, .val (.int x4), .val (.long y5), .second, .val (.int x7), .val (.long y8), .second, .val (.long y10), .second, .val (.long w0), .second] [(.int (lcmpW (f1 y5 y8) w0))])) t
      exact XS.ifYes X1.here hx rfl (pc0 := 116) (pc' := 123) rfl (hb hby at_116) rfl ((if0 _ _).trans (feq (fun q => hc2 ((lw_eq _ _).mp q))).2) (by decide) (by decide) k
    refine Runs.via (T' := T1) (g' := (mkF m 124 #[.val (.long y0), .second, .val (.long y2), .second, .val (.int x4), .val (.long y5), .second, .val (.int x7), .val (.long y8), .second, .val (.long y10), .second, .val (.long w0), .second] [(.int (0 : Int32))])) (fun t k => ?_) ?_
    · show Steps p.tables e below (T1.setTop (mkF m 123 #[.val (.long y0), .second, .val (.long y2), .second, .val (.int x4), .val (.long y5), .second, .val (.int x7), .val (.long y8), .second, .val (.long y10), .second, .val (.long w0), .second] [])) t
      refine XS.iconst X1.here hx rfl (hb hby at_123) ?_
      exact k
    refine QP.cast (congrArg (fun z => some (Value.int z)) (show (g0_104 y5 y8 w0) = (0 : Int32) from (if_neg hc2))) ?_
    exact own_retN X1 hx hlk (t := .boolean) hret (by simp) (hb hby at_124) hk hn ⟨rfl, N1, e1⟩
def g0_82 (y5 : Int64) (y8 : Int64) : Int32 := (if (y5 + y8) < (0 : Int64) then (g0_104 y5 y8 (9223372036854775807 : Int64)) else (g0_104 y5 y8 (y5 + y8)))
set_option maxRecDepth 65536 in
set_option maxHeartbeats 4000000 in
theorem b0_82 (C : Ctx p s m meth c Z a0 "com/example/postloop/postloop/UptimePlusPinLaw" code 14 (some .boolean) "law") (X0 : Stand p l e room_1 s m args below meth c T0 locs cells slots) (e0 : T0.heap = h0) (N0 : Fr n0 locs) (hk : cells ≤ 0) (hn : slots ≤ 0) (y0 : Int64) (y2 : Int64) (x4 : Int32) (y5 : Int64) (x7 : Int32) (y8 : Int64) :
    Runs p e below s (QP (some (.int (g0_82 y5 y8))) h0 n0) 0 0 T0 (mkF m 82 #[.val (.long y0), .second, .val (.long y2), .second, .val (.int x4), .val (.long y5), .second, .val (.int x7), .val (.long y8), .second, .unset, .unset, .unset, .unset] []) := by
  have ⟨hx, hZ, hw, hby, hml, hown, hret, hlk, hnm⟩ := C
  refine Runs.via (T' := T0) (g' := (mkF m 93 #[.val (.long y0), .second, .val (.long y2), .second, .val (.int x4), .val (.long y5), .second, .val (.int x7), .val (.long y8), .second, .val (.long (y5 + y8)), .second, .unset, .unset] [(.int (lcmpW (y5 + y8) (0 : Int64)))])) (fun t k => ?_) ?_
  · show Steps p.tables e below (T0.setTop (mkF m 82 #[.val (.long y0), .second, .val (.long y2), .second, .val (.int x4), .val (.long y5), .second, .val (.int x7), .val (.long y8), .second, .unset, .unset, .unset, .unset] [])) t
    refine XS.lload X0.here hx rfl (hb hby at_82) rfl ?_
    show Steps p.tables e below (T0.setTop (mkF m 84 #[.val (.long y0), .second, .val (.long y2), .second, .val (.int x4), .val (.long y5), .second, .val (.int x7), .val (.long y8), .second, .unset, .unset, .unset, .unset] [(.long y5)])) t
    refine XS.lload X0.here hx rfl (hb hby at_84) rfl ?_
    show Steps p.tables e below (T0.setTop (mkF m 86 #[.val (.long y0), .second, .val (.long y2), .second, .val (.int x4), .val (.long y5), .second, .val (.int x7), .val (.long y8), .second, .unset, .unset, .unset, .unset] [(.long y8), (.long y5)])) t
    refine XS.ladd X0.here hx rfl (hb hby at_86) rfl ?_
    show Steps p.tables e below (T0.setTop (mkF m 87 #[.val (.long y0), .second, .val (.long y2), .second, .val (.int x4), .val (.long y5), .second, .val (.int x7), .val (.long y8), .second, .unset, .unset, .unset, .unset] [(.long (y5 + y8))])) t
    refine XS.lstore X0.here hx rfl (hb hby at_87) rfl (l' := #[.val (.long y0), .second, .val (.long y2), .second, .val (.int x4), .val (.long y5), .second, .val (.int x7), .val (.long y8), .second, .val (.long (y5 + y8)), .second, .unset, .unset]) rfl ?_
    show Steps p.tables e below (T0.setTop (mkF m 89 #[.val (.long y0), .second, .val (.long y2), .second, .val (.int x4), .val (.long y5), .second, .val (.int x7), .val (.long y8), .second, .val (.long (y5 + y8)), .second, .unset, .unset] [])) t
    refine XS.lload X0.here hx rfl (hb hby at_89) rfl ?_
    show Steps p.tables e below (T0.setTop (mkF m 91 #[.val (.long y0), .second, .val (.long y2), .second, .val (.int x4), .val (.long y5), .second, .val (.int x7), .val (.long y8), .second, .val (.long (y5 + y8)), .second, .unset, .unset] [(.long (y5 + y8))])) t
    refine XS.lconst X0.here hx rfl (hb hby at_91) ?_
    show Steps p.tables e below (T0.setTop (mkF m 92 #[.val (.long y0), .second, .val (.long y2), .second, .val (.int x4), .val (.long y5), .second, .val (.int x7), .val (.long y8), .second, .val (.long (y5 + y8)), .second, .unset, .unset] [(.long (0 : Int64)), (.long (y5 + y8))])) t
    refine XS.lcmp X0.here hx rfl (hb hby at_92) rfl ?_
    exact k
  by_cases hc1 : (y5 + y8) < (0 : Int64)
  · refine Runs.via (T' := T0) (g' := (mkF m 96 #[.val (.long y0), .second, .val (.long y2), .second, .val (.int x4), .val (.long y5), .second, .val (.int x7), .val (.long y8), .second, .val (.long (y5 + y8)), .second, .unset, .unset] [])) (fun t k => ?_) ?_
    · show Steps p.tables e below (T0.setTop (mkF m 93 #[.val (.long y0), .second, .val (.long y2), .second, .val (.int x4), .val (.long y5), .second, .val (.int x7), .val (.long y8), .second, .val (.long (y5 + y8)), .second, .unset, .unset] [(.int (lcmpW (y5 + y8) (0 : Int64)))])) t
      exact XS.ifNo X0.here hx rfl (hb hby at_93) rfl ((if0 _ _).trans (tlt ((lw_lt _ _).mpr hc1)).2.1) k
    refine Runs.via (T' := T0) (g' := (mkF m 104 #[.val (.long y0), .second, .val (.long y2), .second, .val (.int x4), .val (.long y5), .second, .val (.int x7), .val (.long y8), .second, .val (.long (y5 + y8)), .second, .unset, .unset] [(.long (9223372036854775807 : Int64))])) (fun t k => ?_) ?_
    · show Steps p.tables e below (T0.setTop (mkF m 96 #[.val (.long y0), .second, .val (.long y2), .second, .val (.int x4), .val (.long y5), .second, .val (.int x7), .val (.long y8), .second, .val (.long (y5 + y8)), .second, .unset, .unset] [])) t
      refine X0.ldc2Long hx hown (mvT hZ (hw _ (List.mem_of_getElem? (i := 0) rfl))) (g := (mkF m 96 #[.val (.long y0), .second, .val (.long y2), .second, .val (.int x4), .val (.long y5), .second, .val (.int x7), .val (.long y8), .second, .val (.long (y5 + y8)), .second, .unset, .unset] [])) rfl (hb hby at_96) _ ?_
      show Steps p.tables e below (T0.setTop (mkF m 99 #[.val (.long y0), .second, .val (.long y2), .second, .val (.int x4), .val (.long y5), .second, .val (.int x7), .val (.long y8), .second, .val (.long (y5 + y8)), .second, .unset, .unset] [(.long (9223372036854775807 : Int64))])) t
      refine XS.goto X0.here hx rfl (pc0 := 99) (pc' := 104) rfl (hb hby at_99) (by decide) (by decide) ?_
      exact k
    refine QP.cast (congrArg (fun z => some (Value.int z)) (show (g0_82 y5 y8) = (g0_104 y5 y8 (9223372036854775807 : Int64)) from (if_pos hc1))) ?_
    exact b0_104 C X0 e0 N0 hk hn y0 y2 x4 y5 x7 y8 (y5 + y8) (9223372036854775807 : Int64)
  · refine Runs.via (T' := T0) (g' := (mkF m 102 #[.val (.long y0), .second, .val (.long y2), .second, .val (.int x4), .val (.long y5), .second, .val (.int x7), .val (.long y8), .second, .val (.long (y5 + y8)), .second, .unset, .unset] [])) (fun t k => ?_) ?_
    · show Steps p.tables e below (T0.setTop (mkF m 93 #[.val (.long y0), .second, .val (.long y2), .second, .val (.int x4), .val (.long y5), .second, .val (.int x7), .val (.long y8), .second, .val (.long (y5 + y8)), .second, .unset, .unset] [(.int (lcmpW (y5 + y8) (0 : Int64)))])) t
      exact XS.ifYes X0.here hx rfl (pc0 := 93) (pc' := 102) rfl (hb hby at_93) rfl ((if0 _ _).trans (flt (fun q => hc1 ((lw_lt _ _).mp q))).2.1) (by decide) (by decide) k
    refine Runs.via (T' := T0) (g' := (mkF m 104 #[.val (.long y0), .second, .val (.long y2), .second, .val (.int x4), .val (.long y5), .second, .val (.int x7), .val (.long y8), .second, .val (.long (y5 + y8)), .second, .unset, .unset] [(.long (y5 + y8))])) (fun t k => ?_) ?_
    · show Steps p.tables e below (T0.setTop (mkF m 102 #[.val (.long y0), .second, .val (.long y2), .second, .val (.int x4), .val (.long y5), .second, .val (.int x7), .val (.long y8), .second, .val (.long (y5 + y8)), .second, .unset, .unset] [])) t
      refine XS.lload X0.here hx rfl (hb hby at_102) rfl ?_
      exact k
    refine QP.cast (congrArg (fun z => some (Value.int z)) (show (g0_82 y5 y8) = (g0_104 y5 y8 (y5 + y8)) from (if_neg hc1))) ?_
    exact b0_104 C X0 e0 N0 hk hn y0 y2 x4 y5 x7 y8 (y5 + y8) (y5 + y8)
def g0_0 (y0 : Int64) (y2 : Int64) (x4 : Int32) : Int32 := (if (x4 &&& (3 : Int32)) = (0 : Int32) then (g0_82 (y0 &&& (9223372036854775807 : Int64)) (y2 &&& (9223372036854775807 : Int64))) else (if (x4 &&& (3 : Int32)) = (1 : Int32) then (g0_82 (y0 &&& (9223372036854775807 : Int64)) ((9223372036854775807 : Int64) - (y0 &&& (9223372036854775807 : Int64)))) else (if (x4 &&& (3 : Int32)) = (2 : Int32) then (g0_82 (y0 &&& (9223372036854775807 : Int64)) ((((9223372036854775807 : Int64) - (y0 &&& (9223372036854775807 : Int64))) + (1 : Int64)) &&& (9223372036854775807 : Int64))) else (g0_82 (y0 &&& (9223372036854775807 : Int64)) ((((9223372036854775807 : Int64) - (y0 &&& (9223372036854775807 : Int64))) - (1 : Int64)) &&& (9223372036854775807 : Int64))))))
set_option maxRecDepth 65536 in
set_option maxHeartbeats 4000000 in
theorem b0_0 (C : Ctx p s m meth c Z a0 "com/example/postloop/postloop/UptimePlusPinLaw" code 14 (some .boolean) "law") (X0 : Stand p l e room_1 s m args below meth c T0 locs cells slots) (e0 : T0.heap = h0) (N0 : Fr n0 locs) (hk : cells ≤ 0) (hn : slots ≤ 0) (y0 : Int64) (y2 : Int64) (x4 : Int32) :
    Runs p e below s (QP (some (.int (g0_0 y0 y2 x4))) h0 n0) 0 0 T0 (mkF m 0 #[.val (.long y0), .second, .val (.long y2), .second, .val (.int x4), .unset, .unset, .unset, .unset, .unset, .unset, .unset, .unset, .unset] []) := by
  have ⟨hx, hZ, hw, hby, hml, hown, hret, hlk, hnm⟩ := C
  refine Runs.via (T' := T0) (g' := (mkF m 15 #[.val (.long y0), .second, .val (.long y2), .second, .val (.int x4), .val (.long (y0 &&& (9223372036854775807 : Int64))), .second, .val (.int (x4 &&& (3 : Int32))), .unset, .unset, .unset, .unset, .unset, .unset] [(.int (x4 &&& (3 : Int32)))])) (fun t k => ?_) ?_
  · show Steps p.tables e below (T0.setTop (mkF m 0 #[.val (.long y0), .second, .val (.long y2), .second, .val (.int x4), .unset, .unset, .unset, .unset, .unset, .unset, .unset, .unset, .unset] [])) t
    refine XS.lloadN X0.here hx rfl (hb hby at_0) rfl ?_
    show Steps p.tables e below (T0.setTop (mkF m 1 #[.val (.long y0), .second, .val (.long y2), .second, .val (.int x4), .unset, .unset, .unset, .unset, .unset, .unset, .unset, .unset, .unset] [(.long y0)])) t
    refine X0.ldc2Long hx hown (mvT hZ (hw _ (List.mem_of_getElem? (i := 0) rfl))) (g := (mkF m 1 #[.val (.long y0), .second, .val (.long y2), .second, .val (.int x4), .unset, .unset, .unset, .unset, .unset, .unset, .unset, .unset, .unset] [(.long y0)])) rfl (hb hby at_1) _ ?_
    show Steps p.tables e below (T0.setTop (mkF m 4 #[.val (.long y0), .second, .val (.long y2), .second, .val (.int x4), .unset, .unset, .unset, .unset, .unset, .unset, .unset, .unset, .unset] [(.long (9223372036854775807 : Int64)), (.long y0)])) t
    refine XS.land X0.here hx rfl (hb hby at_4) rfl ?_
    show Steps p.tables e below (T0.setTop (mkF m 5 #[.val (.long y0), .second, .val (.long y2), .second, .val (.int x4), .unset, .unset, .unset, .unset, .unset, .unset, .unset, .unset, .unset] [(.long (y0 &&& (9223372036854775807 : Int64)))])) t
    refine XS.lstore X0.here hx rfl (hb hby at_5) rfl (l' := #[.val (.long y0), .second, .val (.long y2), .second, .val (.int x4), .val (.long (y0 &&& (9223372036854775807 : Int64))), .second, .unset, .unset, .unset, .unset, .unset, .unset, .unset]) rfl ?_
    show Steps p.tables e below (T0.setTop (mkF m 7 #[.val (.long y0), .second, .val (.long y2), .second, .val (.int x4), .val (.long (y0 &&& (9223372036854775807 : Int64))), .second, .unset, .unset, .unset, .unset, .unset, .unset, .unset] [])) t
    refine XS.iload X0.here hx rfl (hb hby at_7) rfl ?_
    show Steps p.tables e below (T0.setTop (mkF m 9 #[.val (.long y0), .second, .val (.long y2), .second, .val (.int x4), .val (.long (y0 &&& (9223372036854775807 : Int64))), .second, .unset, .unset, .unset, .unset, .unset, .unset, .unset] [(.int x4)])) t
    refine XS.iconst X0.here hx rfl (hb hby at_9) ?_
    show Steps p.tables e below (T0.setTop (mkF m 10 #[.val (.long y0), .second, .val (.long y2), .second, .val (.int x4), .val (.long (y0 &&& (9223372036854775807 : Int64))), .second, .unset, .unset, .unset, .unset, .unset, .unset, .unset] [(.int (3 : Int32)), (.int x4)])) t
    refine XS.iand X0.here hx rfl (hb hby at_10) rfl ?_
    show Steps p.tables e below (T0.setTop (mkF m 11 #[.val (.long y0), .second, .val (.long y2), .second, .val (.int x4), .val (.long (y0 &&& (9223372036854775807 : Int64))), .second, .unset, .unset, .unset, .unset, .unset, .unset, .unset] [(.int (x4 &&& (3 : Int32)))])) t
    refine XS.istore X0.here hx rfl (hb hby at_11) rfl (l' := #[.val (.long y0), .second, .val (.long y2), .second, .val (.int x4), .val (.long (y0 &&& (9223372036854775807 : Int64))), .second, .val (.int (x4 &&& (3 : Int32))), .unset, .unset, .unset, .unset, .unset, .unset]) rfl ?_
    show Steps p.tables e below (T0.setTop (mkF m 13 #[.val (.long y0), .second, .val (.long y2), .second, .val (.int x4), .val (.long (y0 &&& (9223372036854775807 : Int64))), .second, .val (.int (x4 &&& (3 : Int32))), .unset, .unset, .unset, .unset, .unset, .unset] [])) t
    refine XS.iload X0.here hx rfl (hb hby at_13) rfl ?_
    exact k
  by_cases hc1 : (x4 &&& (3 : Int32)) = (0 : Int32)
  · refine Runs.via (T' := T0) (g' := (mkF m 18 #[.val (.long y0), .second, .val (.long y2), .second, .val (.int x4), .val (.long (y0 &&& (9223372036854775807 : Int64))), .second, .val (.int (x4 &&& (3 : Int32))), .unset, .unset, .unset, .unset, .unset, .unset] [])) (fun t k => ?_) ?_
    · show Steps p.tables e below (T0.setTop (mkF m 15 #[.val (.long y0), .second, .val (.long y2), .second, .val (.int x4), .val (.long (y0 &&& (9223372036854775807 : Int64))), .second, .val (.int (x4 &&& (3 : Int32))), .unset, .unset, .unset, .unset, .unset, .unset] [(.int (x4 &&& (3 : Int32)))])) t
      exact XS.ifNo X0.here hx rfl (hb hby at_15) rfl ((if0 _ _).trans (teq hc1).2) k
    refine Runs.via (T' := T0) (g' := (mkF m 82 #[.val (.long y0), .second, .val (.long y2), .second, .val (.int x4), .val (.long (y0 &&& (9223372036854775807 : Int64))), .second, .val (.int (x4 &&& (3 : Int32))), .val (.long (y2 &&& (9223372036854775807 : Int64))), .second, .unset, .unset, .unset, .unset] [])) (fun t k => ?_) ?_
    · show Steps p.tables e below (T0.setTop (mkF m 18 #[.val (.long y0), .second, .val (.long y2), .second, .val (.int x4), .val (.long (y0 &&& (9223372036854775807 : Int64))), .second, .val (.int (x4 &&& (3 : Int32))), .unset, .unset, .unset, .unset, .unset, .unset] [])) t
      refine XS.lloadN X0.here hx rfl (hb hby at_18) rfl ?_
      show Steps p.tables e below (T0.setTop (mkF m 19 #[.val (.long y0), .second, .val (.long y2), .second, .val (.int x4), .val (.long (y0 &&& (9223372036854775807 : Int64))), .second, .val (.int (x4 &&& (3 : Int32))), .unset, .unset, .unset, .unset, .unset, .unset] [(.long y2)])) t
      refine X0.ldc2Long hx hown (mvT hZ (hw _ (List.mem_of_getElem? (i := 0) rfl))) (g := (mkF m 19 #[.val (.long y0), .second, .val (.long y2), .second, .val (.int x4), .val (.long (y0 &&& (9223372036854775807 : Int64))), .second, .val (.int (x4 &&& (3 : Int32))), .unset, .unset, .unset, .unset, .unset, .unset] [(.long y2)])) rfl (hb hby at_19) _ ?_
      show Steps p.tables e below (T0.setTop (mkF m 22 #[.val (.long y0), .second, .val (.long y2), .second, .val (.int x4), .val (.long (y0 &&& (9223372036854775807 : Int64))), .second, .val (.int (x4 &&& (3 : Int32))), .unset, .unset, .unset, .unset, .unset, .unset] [(.long (9223372036854775807 : Int64)), (.long y2)])) t
      refine XS.land X0.here hx rfl (hb hby at_22) rfl ?_
      show Steps p.tables e below (T0.setTop (mkF m 23 #[.val (.long y0), .second, .val (.long y2), .second, .val (.int x4), .val (.long (y0 &&& (9223372036854775807 : Int64))), .second, .val (.int (x4 &&& (3 : Int32))), .unset, .unset, .unset, .unset, .unset, .unset] [(.long (y2 &&& (9223372036854775807 : Int64)))])) t
      refine XS.lstore X0.here hx rfl (hb hby at_23) rfl (l' := #[.val (.long y0), .second, .val (.long y2), .second, .val (.int x4), .val (.long (y0 &&& (9223372036854775807 : Int64))), .second, .val (.int (x4 &&& (3 : Int32))), .val (.long (y2 &&& (9223372036854775807 : Int64))), .second, .unset, .unset, .unset, .unset]) rfl ?_
      show Steps p.tables e below (T0.setTop (mkF m 25 #[.val (.long y0), .second, .val (.long y2), .second, .val (.int x4), .val (.long (y0 &&& (9223372036854775807 : Int64))), .second, .val (.int (x4 &&& (3 : Int32))), .val (.long (y2 &&& (9223372036854775807 : Int64))), .second, .unset, .unset, .unset, .unset] [])) t
      refine XS.goto X0.here hx rfl (pc0 := 25) (pc' := 82) rfl (hb hby at_25) (by decide) (by decide) ?_
      exact k
    refine QP.cast (congrArg (fun z => some (Value.int z)) (show (g0_0 y0 y2 x4) = (g0_82 (y0 &&& (9223372036854775807 : Int64)) (y2 &&& (9223372036854775807 : Int64))) from (if_pos hc1))) ?_
    exact b0_82 C X0 e0 N0 hk hn y0 y2 x4 (y0 &&& (9223372036854775807 : Int64)) (x4 &&& (3 : Int32)) (y2 &&& (9223372036854775807 : Int64))
  · refine Runs.via (T' := T0) (g' := (mkF m 28 #[.val (.long y0), .second, .val (.long y2), .second, .val (.int x4), .val (.long (y0 &&& (9223372036854775807 : Int64))), .second, .val (.int (x4 &&& (3 : Int32))), .unset, .unset, .unset, .unset, .unset, .unset] [])) (fun t k => ?_) ?_
    · show Steps p.tables e below (T0.setTop (mkF m 15 #[.val (.long y0), .second, .val (.long y2), .second, .val (.int x4), .val (.long (y0 &&& (9223372036854775807 : Int64))), .second, .val (.int (x4 &&& (3 : Int32))), .unset, .unset, .unset, .unset, .unset, .unset] [(.int (x4 &&& (3 : Int32)))])) t
      exact XS.ifYes X0.here hx rfl (pc0 := 15) (pc' := 28) rfl (hb hby at_15) rfl ((if0 _ _).trans (feq hc1).2) (by decide) (by decide) k
    refine Runs.via (T' := T0) (g' := (mkF m 31 #[.val (.long y0), .second, .val (.long y2), .second, .val (.int x4), .val (.long (y0 &&& (9223372036854775807 : Int64))), .second, .val (.int (x4 &&& (3 : Int32))), .unset, .unset, .unset, .unset, .unset, .unset] [(.int (1 : Int32)), (.int (x4 &&& (3 : Int32)))])) (fun t k => ?_) ?_
    · show Steps p.tables e below (T0.setTop (mkF m 28 #[.val (.long y0), .second, .val (.long y2), .second, .val (.int x4), .val (.long (y0 &&& (9223372036854775807 : Int64))), .second, .val (.int (x4 &&& (3 : Int32))), .unset, .unset, .unset, .unset, .unset, .unset] [])) t
      refine XS.iload X0.here hx rfl (hb hby at_28) rfl ?_
      show Steps p.tables e below (T0.setTop (mkF m 30 #[.val (.long y0), .second, .val (.long y2), .second, .val (.int x4), .val (.long (y0 &&& (9223372036854775807 : Int64))), .second, .val (.int (x4 &&& (3 : Int32))), .unset, .unset, .unset, .unset, .unset, .unset] [(.int (x4 &&& (3 : Int32)))])) t
      refine XS.iconst X0.here hx rfl (hb hby at_30) ?_
      exact k
    by_cases hc2 : (x4 &&& (3 : Int32)) = (1 : Int32)
    · refine Runs.via (T' := T0) (g' := (mkF m 34 #[.val (.long y0), .second, .val (.long y2), .second, .val (.int x4), .val (.long (y0 &&& (9223372036854775807 : Int64))), .second, .val (.int (x4 &&& (3 : Int32))), .unset, .unset, .unset, .unset, .unset, .unset] [])) (fun t k => ?_) ?_
      · show Steps p.tables e below (T0.setTop (mkF m 31 #[.val (.long y0), .second, .val (.long y2), .second, .val (.int x4), .val (.long (y0 &&& (9223372036854775807 : Int64))), .second, .val (.int (x4 &&& (3 : Int32))), .unset, .unset, .unset, .unset, .unset, .unset] [(.int (1 : Int32)), (.int (x4 &&& (3 : Int32)))])) t
        exact XS.icmpNo X0.here hx rfl (hb hby at_31) rfl (teq hc2).2 k
      refine Runs.via (T' := T0) (g' := (mkF m 82 #[.val (.long y0), .second, .val (.long y2), .second, .val (.int x4), .val (.long (y0 &&& (9223372036854775807 : Int64))), .second, .val (.int (x4 &&& (3 : Int32))), .val (.long ((9223372036854775807 : Int64) - (y0 &&& (9223372036854775807 : Int64)))), .second, .unset, .unset, .unset, .unset] [])) (fun t k => ?_) ?_
      · show Steps p.tables e below (T0.setTop (mkF m 34 #[.val (.long y0), .second, .val (.long y2), .second, .val (.int x4), .val (.long (y0 &&& (9223372036854775807 : Int64))), .second, .val (.int (x4 &&& (3 : Int32))), .unset, .unset, .unset, .unset, .unset, .unset] [])) t
        refine X0.ldc2Long hx hown (mvT hZ (hw _ (List.mem_of_getElem? (i := 0) rfl))) (g := (mkF m 34 #[.val (.long y0), .second, .val (.long y2), .second, .val (.int x4), .val (.long (y0 &&& (9223372036854775807 : Int64))), .second, .val (.int (x4 &&& (3 : Int32))), .unset, .unset, .unset, .unset, .unset, .unset] [])) rfl (hb hby at_34) _ ?_
        show Steps p.tables e below (T0.setTop (mkF m 37 #[.val (.long y0), .second, .val (.long y2), .second, .val (.int x4), .val (.long (y0 &&& (9223372036854775807 : Int64))), .second, .val (.int (x4 &&& (3 : Int32))), .unset, .unset, .unset, .unset, .unset, .unset] [(.long (9223372036854775807 : Int64))])) t
        refine XS.lload X0.here hx rfl (hb hby at_37) rfl ?_
        show Steps p.tables e below (T0.setTop (mkF m 39 #[.val (.long y0), .second, .val (.long y2), .second, .val (.int x4), .val (.long (y0 &&& (9223372036854775807 : Int64))), .second, .val (.int (x4 &&& (3 : Int32))), .unset, .unset, .unset, .unset, .unset, .unset] [(.long (y0 &&& (9223372036854775807 : Int64))), (.long (9223372036854775807 : Int64))])) t
        refine XS.lsub X0.here hx rfl (hb hby at_39) rfl ?_
        show Steps p.tables e below (T0.setTop (mkF m 40 #[.val (.long y0), .second, .val (.long y2), .second, .val (.int x4), .val (.long (y0 &&& (9223372036854775807 : Int64))), .second, .val (.int (x4 &&& (3 : Int32))), .unset, .unset, .unset, .unset, .unset, .unset] [(.long ((9223372036854775807 : Int64) - (y0 &&& (9223372036854775807 : Int64))))])) t
        refine XS.lstore X0.here hx rfl (hb hby at_40) rfl (l' := #[.val (.long y0), .second, .val (.long y2), .second, .val (.int x4), .val (.long (y0 &&& (9223372036854775807 : Int64))), .second, .val (.int (x4 &&& (3 : Int32))), .val (.long ((9223372036854775807 : Int64) - (y0 &&& (9223372036854775807 : Int64)))), .second, .unset, .unset, .unset, .unset]) rfl ?_
        show Steps p.tables e below (T0.setTop (mkF m 42 #[.val (.long y0), .second, .val (.long y2), .second, .val (.int x4), .val (.long (y0 &&& (9223372036854775807 : Int64))), .second, .val (.int (x4 &&& (3 : Int32))), .val (.long ((9223372036854775807 : Int64) - (y0 &&& (9223372036854775807 : Int64)))), .second, .unset, .unset, .unset, .unset] [])) t
        refine XS.goto X0.here hx rfl (pc0 := 42) (pc' := 82) rfl (hb hby at_42) (by decide) (by decide) ?_
        exact k
      refine QP.cast (congrArg (fun z => some (Value.int z)) (show (g0_0 y0 y2 x4) = (g0_82 (y0 &&& (9223372036854775807 : Int64)) ((9223372036854775807 : Int64) - (y0 &&& (9223372036854775807 : Int64)))) from ((if_neg hc1).trans (if_pos hc2)))) ?_
      exact b0_82 C X0 e0 N0 hk hn y0 y2 x4 (y0 &&& (9223372036854775807 : Int64)) (x4 &&& (3 : Int32)) ((9223372036854775807 : Int64) - (y0 &&& (9223372036854775807 : Int64)))
    · refine Runs.via (T' := T0) (g' := (mkF m 45 #[.val (.long y0), .second, .val (.long y2), .second, .val (.int x4), .val (.long (y0 &&& (9223372036854775807 : Int64))), .second, .val (.int (x4 &&& (3 : Int32))), .unset, .unset, .unset, .unset, .unset, .unset] [])) (fun t k => ?_) ?_
      · show Steps p.tables e below (T0.setTop (mkF m 31 #[.val (.long y0), .second, .val (.long y2), .second, .val (.int x4), .val (.long (y0 &&& (9223372036854775807 : Int64))), .second, .val (.int (x4 &&& (3 : Int32))), .unset, .unset, .unset, .unset, .unset, .unset] [(.int (1 : Int32)), (.int (x4 &&& (3 : Int32)))])) t
        exact XS.icmpYes X0.here hx rfl (pc0 := 31) (pc' := 45) rfl (hb hby at_31) rfl (feq hc2).2 (by decide) (by decide) k
      refine Runs.via (T' := T0) (g' := (mkF m 48 #[.val (.long y0), .second, .val (.long y2), .second, .val (.int x4), .val (.long (y0 &&& (9223372036854775807 : Int64))), .second, .val (.int (x4 &&& (3 : Int32))), .unset, .unset, .unset, .unset, .unset, .unset] [(.int (2 : Int32)), (.int (x4 &&& (3 : Int32)))])) (fun t k => ?_) ?_
      · show Steps p.tables e below (T0.setTop (mkF m 45 #[.val (.long y0), .second, .val (.long y2), .second, .val (.int x4), .val (.long (y0 &&& (9223372036854775807 : Int64))), .second, .val (.int (x4 &&& (3 : Int32))), .unset, .unset, .unset, .unset, .unset, .unset] [])) t
        refine XS.iload X0.here hx rfl (hb hby at_45) rfl ?_
        show Steps p.tables e below (T0.setTop (mkF m 47 #[.val (.long y0), .second, .val (.long y2), .second, .val (.int x4), .val (.long (y0 &&& (9223372036854775807 : Int64))), .second, .val (.int (x4 &&& (3 : Int32))), .unset, .unset, .unset, .unset, .unset, .unset] [(.int (x4 &&& (3 : Int32)))])) t
        refine XS.iconst X0.here hx rfl (hb hby at_47) ?_
        exact k
      by_cases hc3 : (x4 &&& (3 : Int32)) = (2 : Int32)
      · refine Runs.via (T' := T0) (g' := (mkF m 51 #[.val (.long y0), .second, .val (.long y2), .second, .val (.int x4), .val (.long (y0 &&& (9223372036854775807 : Int64))), .second, .val (.int (x4 &&& (3 : Int32))), .unset, .unset, .unset, .unset, .unset, .unset] [])) (fun t k => ?_) ?_
        · show Steps p.tables e below (T0.setTop (mkF m 48 #[.val (.long y0), .second, .val (.long y2), .second, .val (.int x4), .val (.long (y0 &&& (9223372036854775807 : Int64))), .second, .val (.int (x4 &&& (3 : Int32))), .unset, .unset, .unset, .unset, .unset, .unset] [(.int (2 : Int32)), (.int (x4 &&& (3 : Int32)))])) t
          exact XS.icmpNo X0.here hx rfl (hb hby at_48) rfl (teq hc3).2 k
        refine Runs.via (T' := T0) (g' := (mkF m 82 #[.val (.long y0), .second, .val (.long y2), .second, .val (.int x4), .val (.long (y0 &&& (9223372036854775807 : Int64))), .second, .val (.int (x4 &&& (3 : Int32))), .val (.long ((((9223372036854775807 : Int64) - (y0 &&& (9223372036854775807 : Int64))) + (1 : Int64)) &&& (9223372036854775807 : Int64))), .second, .unset, .unset, .unset, .unset] [])) (fun t k => ?_) ?_
        · show Steps p.tables e below (T0.setTop (mkF m 51 #[.val (.long y0), .second, .val (.long y2), .second, .val (.int x4), .val (.long (y0 &&& (9223372036854775807 : Int64))), .second, .val (.int (x4 &&& (3 : Int32))), .unset, .unset, .unset, .unset, .unset, .unset] [])) t
          refine X0.ldc2Long hx hown (mvT hZ (hw _ (List.mem_of_getElem? (i := 0) rfl))) (g := (mkF m 51 #[.val (.long y0), .second, .val (.long y2), .second, .val (.int x4), .val (.long (y0 &&& (9223372036854775807 : Int64))), .second, .val (.int (x4 &&& (3 : Int32))), .unset, .unset, .unset, .unset, .unset, .unset] [])) rfl (hb hby at_51) _ ?_
          show Steps p.tables e below (T0.setTop (mkF m 54 #[.val (.long y0), .second, .val (.long y2), .second, .val (.int x4), .val (.long (y0 &&& (9223372036854775807 : Int64))), .second, .val (.int (x4 &&& (3 : Int32))), .unset, .unset, .unset, .unset, .unset, .unset] [(.long (9223372036854775807 : Int64))])) t
          refine XS.lload X0.here hx rfl (hb hby at_54) rfl ?_
          show Steps p.tables e below (T0.setTop (mkF m 56 #[.val (.long y0), .second, .val (.long y2), .second, .val (.int x4), .val (.long (y0 &&& (9223372036854775807 : Int64))), .second, .val (.int (x4 &&& (3 : Int32))), .unset, .unset, .unset, .unset, .unset, .unset] [(.long (y0 &&& (9223372036854775807 : Int64))), (.long (9223372036854775807 : Int64))])) t
          refine XS.lsub X0.here hx rfl (hb hby at_56) rfl ?_
          show Steps p.tables e below (T0.setTop (mkF m 57 #[.val (.long y0), .second, .val (.long y2), .second, .val (.int x4), .val (.long (y0 &&& (9223372036854775807 : Int64))), .second, .val (.int (x4 &&& (3 : Int32))), .unset, .unset, .unset, .unset, .unset, .unset] [(.long ((9223372036854775807 : Int64) - (y0 &&& (9223372036854775807 : Int64))))])) t
          refine XS.lconst X0.here hx rfl (hb hby at_57) ?_
          show Steps p.tables e below (T0.setTop (mkF m 58 #[.val (.long y0), .second, .val (.long y2), .second, .val (.int x4), .val (.long (y0 &&& (9223372036854775807 : Int64))), .second, .val (.int (x4 &&& (3 : Int32))), .unset, .unset, .unset, .unset, .unset, .unset] [(.long (1 : Int64)), (.long ((9223372036854775807 : Int64) - (y0 &&& (9223372036854775807 : Int64))))])) t
          refine XS.ladd X0.here hx rfl (hb hby at_58) rfl ?_
          show Steps p.tables e below (T0.setTop (mkF m 59 #[.val (.long y0), .second, .val (.long y2), .second, .val (.int x4), .val (.long (y0 &&& (9223372036854775807 : Int64))), .second, .val (.int (x4 &&& (3 : Int32))), .unset, .unset, .unset, .unset, .unset, .unset] [(.long (((9223372036854775807 : Int64) - (y0 &&& (9223372036854775807 : Int64))) + (1 : Int64)))])) t
          refine X0.ldc2Long hx hown (mvT hZ (hw _ (List.mem_of_getElem? (i := 0) rfl))) (g := (mkF m 59 #[.val (.long y0), .second, .val (.long y2), .second, .val (.int x4), .val (.long (y0 &&& (9223372036854775807 : Int64))), .second, .val (.int (x4 &&& (3 : Int32))), .unset, .unset, .unset, .unset, .unset, .unset] [(.long (((9223372036854775807 : Int64) - (y0 &&& (9223372036854775807 : Int64))) + (1 : Int64)))])) rfl (hb hby at_59) _ ?_
          show Steps p.tables e below (T0.setTop (mkF m 62 #[.val (.long y0), .second, .val (.long y2), .second, .val (.int x4), .val (.long (y0 &&& (9223372036854775807 : Int64))), .second, .val (.int (x4 &&& (3 : Int32))), .unset, .unset, .unset, .unset, .unset, .unset] [(.long (9223372036854775807 : Int64)), (.long (((9223372036854775807 : Int64) - (y0 &&& (9223372036854775807 : Int64))) + (1 : Int64)))])) t
          refine XS.land X0.here hx rfl (hb hby at_62) rfl ?_
          show Steps p.tables e below (T0.setTop (mkF m 63 #[.val (.long y0), .second, .val (.long y2), .second, .val (.int x4), .val (.long (y0 &&& (9223372036854775807 : Int64))), .second, .val (.int (x4 &&& (3 : Int32))), .unset, .unset, .unset, .unset, .unset, .unset] [(.long ((((9223372036854775807 : Int64) - (y0 &&& (9223372036854775807 : Int64))) + (1 : Int64)) &&& (9223372036854775807 : Int64)))])) t
          refine XS.lstore X0.here hx rfl (hb hby at_63) rfl (l' := #[.val (.long y0), .second, .val (.long y2), .second, .val (.int x4), .val (.long (y0 &&& (9223372036854775807 : Int64))), .second, .val (.int (x4 &&& (3 : Int32))), .val (.long ((((9223372036854775807 : Int64) - (y0 &&& (9223372036854775807 : Int64))) + (1 : Int64)) &&& (9223372036854775807 : Int64))), .second, .unset, .unset, .unset, .unset]) rfl ?_
          show Steps p.tables e below (T0.setTop (mkF m 65 #[.val (.long y0), .second, .val (.long y2), .second, .val (.int x4), .val (.long (y0 &&& (9223372036854775807 : Int64))), .second, .val (.int (x4 &&& (3 : Int32))), .val (.long ((((9223372036854775807 : Int64) - (y0 &&& (9223372036854775807 : Int64))) + (1 : Int64)) &&& (9223372036854775807 : Int64))), .second, .unset, .unset, .unset, .unset] [])) t
          refine XS.goto X0.here hx rfl (pc0 := 65) (pc' := 82) rfl (hb hby at_65) (by decide) (by decide) ?_
          exact k
        refine QP.cast (congrArg (fun z => some (Value.int z)) (show (g0_0 y0 y2 x4) = (g0_82 (y0 &&& (9223372036854775807 : Int64)) ((((9223372036854775807 : Int64) - (y0 &&& (9223372036854775807 : Int64))) + (1 : Int64)) &&& (9223372036854775807 : Int64))) from ((if_neg hc1).trans ((if_neg hc2).trans (if_pos hc3))))) ?_
        exact b0_82 C X0 e0 N0 hk hn y0 y2 x4 (y0 &&& (9223372036854775807 : Int64)) (x4 &&& (3 : Int32)) ((((9223372036854775807 : Int64) - (y0 &&& (9223372036854775807 : Int64))) + (1 : Int64)) &&& (9223372036854775807 : Int64))
      · refine Runs.via (T' := T0) (g' := (mkF m 68 #[.val (.long y0), .second, .val (.long y2), .second, .val (.int x4), .val (.long (y0 &&& (9223372036854775807 : Int64))), .second, .val (.int (x4 &&& (3 : Int32))), .unset, .unset, .unset, .unset, .unset, .unset] [])) (fun t k => ?_) ?_
        · show Steps p.tables e below (T0.setTop (mkF m 48 #[.val (.long y0), .second, .val (.long y2), .second, .val (.int x4), .val (.long (y0 &&& (9223372036854775807 : Int64))), .second, .val (.int (x4 &&& (3 : Int32))), .unset, .unset, .unset, .unset, .unset, .unset] [(.int (2 : Int32)), (.int (x4 &&& (3 : Int32)))])) t
          exact XS.icmpYes X0.here hx rfl (pc0 := 48) (pc' := 68) rfl (hb hby at_48) rfl (feq hc3).2 (by decide) (by decide) k
        refine Runs.via (T' := T0) (g' := (mkF m 82 #[.val (.long y0), .second, .val (.long y2), .second, .val (.int x4), .val (.long (y0 &&& (9223372036854775807 : Int64))), .second, .val (.int (x4 &&& (3 : Int32))), .val (.long ((((9223372036854775807 : Int64) - (y0 &&& (9223372036854775807 : Int64))) - (1 : Int64)) &&& (9223372036854775807 : Int64))), .second, .unset, .unset, .unset, .unset] [])) (fun t k => ?_) ?_
        · show Steps p.tables e below (T0.setTop (mkF m 68 #[.val (.long y0), .second, .val (.long y2), .second, .val (.int x4), .val (.long (y0 &&& (9223372036854775807 : Int64))), .second, .val (.int (x4 &&& (3 : Int32))), .unset, .unset, .unset, .unset, .unset, .unset] [])) t
          refine X0.ldc2Long hx hown (mvT hZ (hw _ (List.mem_of_getElem? (i := 0) rfl))) (g := (mkF m 68 #[.val (.long y0), .second, .val (.long y2), .second, .val (.int x4), .val (.long (y0 &&& (9223372036854775807 : Int64))), .second, .val (.int (x4 &&& (3 : Int32))), .unset, .unset, .unset, .unset, .unset, .unset] [])) rfl (hb hby at_68) _ ?_
          show Steps p.tables e below (T0.setTop (mkF m 71 #[.val (.long y0), .second, .val (.long y2), .second, .val (.int x4), .val (.long (y0 &&& (9223372036854775807 : Int64))), .second, .val (.int (x4 &&& (3 : Int32))), .unset, .unset, .unset, .unset, .unset, .unset] [(.long (9223372036854775807 : Int64))])) t
          refine XS.lload X0.here hx rfl (hb hby at_71) rfl ?_
          show Steps p.tables e below (T0.setTop (mkF m 73 #[.val (.long y0), .second, .val (.long y2), .second, .val (.int x4), .val (.long (y0 &&& (9223372036854775807 : Int64))), .second, .val (.int (x4 &&& (3 : Int32))), .unset, .unset, .unset, .unset, .unset, .unset] [(.long (y0 &&& (9223372036854775807 : Int64))), (.long (9223372036854775807 : Int64))])) t
          refine XS.lsub X0.here hx rfl (hb hby at_73) rfl ?_
          show Steps p.tables e below (T0.setTop (mkF m 74 #[.val (.long y0), .second, .val (.long y2), .second, .val (.int x4), .val (.long (y0 &&& (9223372036854775807 : Int64))), .second, .val (.int (x4 &&& (3 : Int32))), .unset, .unset, .unset, .unset, .unset, .unset] [(.long ((9223372036854775807 : Int64) - (y0 &&& (9223372036854775807 : Int64))))])) t
          refine XS.lconst X0.here hx rfl (hb hby at_74) ?_
          show Steps p.tables e below (T0.setTop (mkF m 75 #[.val (.long y0), .second, .val (.long y2), .second, .val (.int x4), .val (.long (y0 &&& (9223372036854775807 : Int64))), .second, .val (.int (x4 &&& (3 : Int32))), .unset, .unset, .unset, .unset, .unset, .unset] [(.long (1 : Int64)), (.long ((9223372036854775807 : Int64) - (y0 &&& (9223372036854775807 : Int64))))])) t
          refine XS.lsub X0.here hx rfl (hb hby at_75) rfl ?_
          show Steps p.tables e below (T0.setTop (mkF m 76 #[.val (.long y0), .second, .val (.long y2), .second, .val (.int x4), .val (.long (y0 &&& (9223372036854775807 : Int64))), .second, .val (.int (x4 &&& (3 : Int32))), .unset, .unset, .unset, .unset, .unset, .unset] [(.long (((9223372036854775807 : Int64) - (y0 &&& (9223372036854775807 : Int64))) - (1 : Int64)))])) t
          refine X0.ldc2Long hx hown (mvT hZ (hw _ (List.mem_of_getElem? (i := 0) rfl))) (g := (mkF m 76 #[.val (.long y0), .second, .val (.long y2), .second, .val (.int x4), .val (.long (y0 &&& (9223372036854775807 : Int64))), .second, .val (.int (x4 &&& (3 : Int32))), .unset, .unset, .unset, .unset, .unset, .unset] [(.long (((9223372036854775807 : Int64) - (y0 &&& (9223372036854775807 : Int64))) - (1 : Int64)))])) rfl (hb hby at_76) _ ?_
          show Steps p.tables e below (T0.setTop (mkF m 79 #[.val (.long y0), .second, .val (.long y2), .second, .val (.int x4), .val (.long (y0 &&& (9223372036854775807 : Int64))), .second, .val (.int (x4 &&& (3 : Int32))), .unset, .unset, .unset, .unset, .unset, .unset] [(.long (9223372036854775807 : Int64)), (.long (((9223372036854775807 : Int64) - (y0 &&& (9223372036854775807 : Int64))) - (1 : Int64)))])) t
          refine XS.land X0.here hx rfl (hb hby at_79) rfl ?_
          show Steps p.tables e below (T0.setTop (mkF m 80 #[.val (.long y0), .second, .val (.long y2), .second, .val (.int x4), .val (.long (y0 &&& (9223372036854775807 : Int64))), .second, .val (.int (x4 &&& (3 : Int32))), .unset, .unset, .unset, .unset, .unset, .unset] [(.long ((((9223372036854775807 : Int64) - (y0 &&& (9223372036854775807 : Int64))) - (1 : Int64)) &&& (9223372036854775807 : Int64)))])) t
          refine XS.lstore X0.here hx rfl (hb hby at_80) rfl (l' := #[.val (.long y0), .second, .val (.long y2), .second, .val (.int x4), .val (.long (y0 &&& (9223372036854775807 : Int64))), .second, .val (.int (x4 &&& (3 : Int32))), .val (.long ((((9223372036854775807 : Int64) - (y0 &&& (9223372036854775807 : Int64))) - (1 : Int64)) &&& (9223372036854775807 : Int64))), .second, .unset, .unset, .unset, .unset]) rfl ?_
          exact k
        refine QP.cast (congrArg (fun z => some (Value.int z)) (show (g0_0 y0 y2 x4) = (g0_82 (y0 &&& (9223372036854775807 : Int64)) ((((9223372036854775807 : Int64) - (y0 &&& (9223372036854775807 : Int64))) - (1 : Int64)) &&& (9223372036854775807 : Int64))) from ((if_neg hc1).trans ((if_neg hc2).trans (if_neg hc3))))) ?_
        exact b0_82 C X0 e0 N0 hk hn y0 y2 x4 (y0 &&& (9223372036854775807 : Int64)) (x4 &&& (3 : Int32)) ((((9223372036854775807 : Int64) - (y0 &&& (9223372036854775807 : Int64))) - (1 : Int64)) &&& (9223372036854775807 : Int64))
def f0 (y0 : Int64) (y2 : Int64) (x4 : Int32) : Int32 := g0_0 y0 y2 x4
theorem pn_0 : plainName "com/example/postloop/postloop/UptimePlusPinLaw" = true := by first | (simp [plainName, overriddenIn]; done) | decide +kernel
theorem ef_0 (m : MethodId) (y0 : Int64) (y2 : Int64) (x4 : Int32) : entryFrame m #[(.long y0), (.long y2), (.int x4)] maxLocals = mkF m 0 #[.val (.long y0), .second, .val (.long y2), .second, .val (.int x4), .unset, .unset, .unset, .unset, .unset, .unset, .unset, .unset, .unset] [] := by first | (simp [entryFrame, mkF, argsToLocals, Value.category, maxLocals]; done) | rfl
set_option maxRecDepth 65536 in
set_option maxHeartbeats 4000000 in
theorem rm0 (l : Launch) (Z : State) (a0 : Array Value) (hw : ∀ d ∈ tables_1, d.before a0 Z = true) (ws : List Jvm.Cond) (y0 : Int64) (y2 : Int64) (x4 : Int32) (h0 : Heap) (n0 : Nat) :
    MetFree l x (head1 (Jvm.Cond.code x code maxLocals ret :: ws) room_1) (fun a U => a = #[(.long y0), (.long y2), (.int x4)] ∧ Z.Warmed39 U.vm ∧ U.heap = h0) (fun _ _ _ _ _ => True) (fun _ U o U' => ∃ v L, o = .returned v ∧ QP (some (.int (f0 y0 y2 x4))) h0 n0 v U'.heap L ∧ FrameEnd U o U' L 0 0) := by
  refine MetFree.of_bodySF (plainFor_of_name pn_0) hisR ?_
  intro p e s m args below meth c s₁ Bd hml0 hP hK
  obtain ⟨rfl, hZ, hh⟩ := hP
  have X0 : Stand p l e room_1 s m #[(.long y0), (.long y2), (.int x4)] below meth c s₁ [] 0 0 := Stand.of_body Bd
  have e0 : s₁.heap = h0 := by rw [← hh, Bd.state]; rfl
  have C : Ctx p s m meth c Z a0 "com/example/postloop/postloop/UptimePlusPinLaw" code 14 (some .boolean) "law" := ⟨Bd.exec, hZ, hw, Bd.bytes, hml0, findClass_of_methodNamed Bd.named, Bd.returns, BodyLoose.notSynchronized Bd, (name_of_methodNamed Bd.named Bd.method).1⟩
  refine Runs.via (fun t k => castTop (ef_0 m y0 y2 x4) k) (b0_0 C X0 e0 (Fr.nil n0) (Nat.le_refl 0) (Nat.le_refl 0) y0 y2 x4)
end Own
theorem own_key (a b : Int64) (ha : 0 ≤ a.toInt) (hb : 0 ≤ b.toInt) : g0_82 a b = 1 := by
  have e1 := c_ladd a b
  have e2 := c_lsub (9223372036854775807 : Int64) a
  have r1 := rng64 a
  have r2 := rng64 b
  have r3 := rng64 (a + b)
  have r4 := rng64 ((9223372036854775807 : Int64) - a)
  have m : (9223372036854775807 : Int64).toInt = 9223372036854775807 := by decide
  have z : (0 : Int64).toInt = 0 := by decide
  unfold g0_82 g0_104 f1 g1_0
  by_cases h : a + b < 0
  · have h' := h
    rw [Int64.lt_iff_toInt_lt] at h'
    have h2 : (9223372036854775807 : Int64) - a < b := by rw [Int64.lt_iff_toInt_lt]; omega
    simp only [if_pos h, if_pos h2]; simp
  · have h' := h
    rw [Int64.lt_iff_toInt_lt] at h'
    have h2 : ¬ (9223372036854775807 : Int64) - a < b := by rw [Int64.lt_iff_toInt_lt]; omega
    simp only [if_neg h, if_neg h2]; simp
theorem own_law (y0 y2 : Int64) (x4 : Int32) : f0 y0 y2 x4 = 1 := by
  have hm : ∀ y : Int64, 0 ≤ (y &&& (9223372036854775807 : Int64)).toInt := fun y => by
    rw [c_maskL y 9223372036854775807 63 (by decide) (by decide)]; exact Int.emod_nonneg _ (by decide)
  have h3 : 0 ≤ ((9223372036854775807 : Int64) - (y0 &&& (9223372036854775807 : Int64))).toInt := by
    have e := c_lsub 9223372036854775807 (y0 &&& (9223372036854775807 : Int64))
    have m : (9223372036854775807 : Int64).toInt = 9223372036854775807 := by decide
    have h0 := hm y0
    have r1 := rng64 (y0 &&& (9223372036854775807 : Int64))
    have r2 := rng64 ((9223372036854775807 : Int64) - (y0 &&& (9223372036854775807 : Int64)))
    omega
  unfold f0 g0_0
  split
  · exact own_key _ _ (hm _) (hm _)
  · split
    · exact own_key _ _ (hm _) h3
    · split <;> exact own_key _ _ (hm _) (hm _)
set_option maxRecDepth 65536 in
set_option maxHeartbeats 40000000 in
theorem comes_1 {Post : Tables → Env → Array Value → State → Outcome → State → Prop} (hpost : ∀ tb e args s v u, (limb_1_1.after args s (.returned v) u = true ∧ limb_1_2.after args s (.returned v) u = true ∧ True) → FrameEnd s (.returned v) u (Jvm.fieldLocs frame_1_writes args s ++ Jvm.arrayLocs frame_1_arrays args s ++ Jvm.staticLocs frame_1_statics s) 0 0 → Post tb e args s (.returned v) u) :
    ArmFor flags0 classFile x code maxLocals ret World_1 tables_1 room_1 Calls_1 rest_1 Pre_1 Post := by
  intro l hfl _ _ p e ha hc hk s m args below hf hA hF happ hP
  obtain ⟨hcalls, hrest, hpre⟩ := hP
  obtain ⟨-, -, -, hnamed, -, -, -, hat⟩ := (Spec.applies_iff hf).mp happ
  obtain ⟨hg, hn⟩ := and_e (Cond.before_iff.mp (show (Jvm.Cond.and given_1 narrow_1).before args s = true from hpre))
  obtain ⟨g1, g2⟩ := and_e hg
  obtain ⟨g3, g4⟩ := and_e g2
  obtain ⟨g5, g6⟩ := and_e g4
  obtain ⟨w0, w1, w2, rfl⟩ : ∃ w0 w1 w2 : Value, args = #[w0, w1, w2] := by
    have hs : args.size = 3 := by simpa [Cond.value, given_1] using g1
    obtain ⟨L⟩ := args
    match L, hs with
    | [w0, w1, w2], _ => exact ⟨w0, w1, w2, rfl⟩
  have hw := fun d (hd : d ∈ tables_1) => atoms_spec (ws := Jvm.Cond.code x code maxLocals ret :: tables_1) hat d (List.mem_cons_of_mem _ hd)
  obtain ⟨i0, ei0⟩ := isL_v g3
  obtain rfl : w0 = (.long i0) := Option.some.inj ei0
  obtain ⟨i1, ei1⟩ := isL_v g5
  obtain rfl : w1 = (.long i1) := Option.some.inj ei1
  obtain ⟨i2, ei2⟩ := is_v g6
  obtain rfl : w2 = (.int i2) := Option.some.inj ei2
  obtain ⟨n, o, h1, h2, h3, _, L, rfl, ⟨rfl, N, -⟩, hq⟩ := rm0 l s _ hw tables_1 i0 i1 i2 s.heap s.heap.size p e ha hc hk s m _ below hf ((Spec.applies_iff_loose hf).mp happ).1 ⟨rfl, State.Warmed39.refl s, rfl⟩ trivial
  have hone := own_law i0 i1 i2
  rw [hone] at h3 hq
  refine ⟨n, _, h1, h2, h3, hpost _ _ _ _ _ _ ⟨Cond.after_iff.mpr rfl, Cond.after_iff.mpr (eq_i res_at (Term.int_eval (1)) rfl), trivial⟩ ⟨hq.1, hq.2.1, (hq.2.2.sift fun y hy => Or.inr (N y hy)).mono (by decide) (by decide)⟩⟩
theorem main_1_1 : Claimed_1_1 := comes_1 fun _ _ _ _ _ _ h hF => ⟨h.1, hF⟩
theorem main_1_2 : Claimed_1_2 := comes_1 fun _ _ _ _ _ _ h hF => ⟨h.2.1, hF⟩
end Jvm.Pilot.@@N@@
namespace Jvm.Pilot.@@N@@
open Jvm Jvm.ClassFile Sem Op Lib Jvm.Free Jvm.Stand Jvm.Pilot.@@N@@.Jvm.D
/-! MADE BY PROGRAM (witnessworld.py) out of the Statement's table words and the real class files: 9 classes; the members and pool entries that the words name. The judged class is class 1, her method 1. -/
namespace start1
open Jvm.ClassFile
def u (s : String) : CpInfo := .utf8 (stringToUtf16 s)
/-- a pool by its gaps: so many unusable entries, then the entry; so many at the end -/
def gap : Nat → List CpInfo → List CpInfo
  | 0, r => r
  | n + 1, r => .unusable :: gap n r
def poolList (es : List (Nat × CpInfo)) (last : Nat) : List CpInfo := es.foldr (fun e r => gap e.1 (e.2 :: r)) (gap last [])
def pool (es : List (Nat × CpInfo)) (last : Nat) : Array CpInfo := ⟨poolList es last⟩
def fileOf (pool : Array CpInfo) (this : Nat) (attrs : Array Attribute := #[]) (ms : Array MethodInfo := #[]) (fl : Nat := 33) (sup : Nat := 0) (ifs : Array Nat := #[]) (fds : Array FieldInfo := #[]) : ClassFile where
  minorVersion := 0
  majorVersion := 65
  constantPool := pool
  accessFlags := fl
  thisClass := this
  superClass := sup
  interfaces := ifs
  fields := fds
  methods := ms
  attributes := attrs
def plain (name : String) (sup : Option ClassId) : Class where
  name := name
  kind := .ordinary
  loader := none
  accessFlags := 33
  super := sup
  interfaces := #[]
  cf := none
  fields := #[]
  methods := #[]
  instanceTypes := #[]
  staticTypes := #[]
  resolved := #[]
  callSites := []
  init := .initialized
  statics := none
  mirror := none

def pool0 : Array CpInfo := pool [(5, u "<init>"), (0, u "()V"), (1, .class_ 10), (1, u "java/lang/Object")] 113

def k0m0 : Method := { name := "<init>", desc := "()V", sig := { parameters := [], returnType := none }, accessFlags := 1, code := none }
/-- java/lang/Object -/
def k0 : Class := { plain "java/lang/Object" none with
  accessFlags := 33
  interfaces := #[]
  cf := some (fileOf pool0 8 #[] #[{ accessFlags := 1, nameIndex := 5, descriptorIndex := 6, attributes := #[] }] 33 0 #[] #[])
  fields := #[]
  methods := #[k0m0]
  instanceTypes := #[]
  staticTypes := #[]
  resolved := Array.replicate 124 none
  statics := none }

def pool1 : Array CpInfo := pool [(2, .class_ 4), (1, u "java/lang/Object"), (0, u "<init>"), (0, u "()V"), (2, .long 9223372036854775807), (1, .methodref 12 13), (0, .class_ 14), (0, .nameAndType 15 16), (0, u "com/example/postloop/postloop/Uptime"), (0, u "plus"), (0, u "(JJ)J"), (0, .class_ 18), (0, u "com/example/postloop/postloop/UptimePlusPinLaw"), (2, u "law"), (0, u "(JJI)Z")] 3

def k1m0 : Method := { name := "<init>", desc := "()V", sig := { parameters := [], returnType := none }, accessFlags := 1, code := none }
def k1c1 : Code := { maxStack := 4, maxLocals := 14, code := code, exceptionTable := #[], attributes := #[] }
def k1m1 : Method := { name := "law", desc := "(JJI)Z", sig := { parameters := [.long, .long, .int], returnType := some .boolean }, accessFlags := 9, code := some k1c1 }
/-- com/example/postloop/postloop/UptimePlusPinLaw -/
def k1 : Class := { plain "com/example/postloop/postloop/UptimePlusPinLaw" (some 0) with
  accessFlags := 49
  interfaces := #[]
  cf := some (fileOf pool1 17 #[] #[{ accessFlags := 1, nameIndex := 5, descriptorIndex := 6, attributes := #[] }, { accessFlags := 9, nameIndex := 21, descriptorIndex := 22, attributes := #[] }] 49 2 #[] #[])
  fields := #[]
  methods := #[k1m0, k1m1]
  instanceTypes := #[]
  staticTypes := #[]
  resolved := Array.replicate 26 none
  statics := none }

def pool2 : Array CpInfo := pool [(2, .class_ 4), (1, u "java/lang/Object"), (0, u "<init>"), (0, u "()V"), (2, .long 9223372036854775807), (1, .class_ 12), (0, u "com/example/postloop/postloop/Uptime"), (4, u "NANOS_PER_MILLI"), (0, u "J"), (3, u "plus"), (0, u "(JJ)J")] 5

def k2m0 : Method := { name := "<init>", desc := "()V", sig := { parameters := [], returnType := none }, accessFlags := 2, code := none }
def k2c1 : Code := { maxStack := 6, maxLocals := 4, code := prog_9_method_2_code, exceptionTable := #[], attributes := #[] }
def k2m1 : Method := { name := "plus", desc := "(JJ)J", sig := { parameters := [.long, .long], returnType := some .long }, accessFlags := 8, code := some k2c1 }
/-- com/example/postloop/postloop/Uptime -/
def k2 : Class := { plain "com/example/postloop/postloop/Uptime" (some 0) with
  accessFlags := 32
  interfaces := #[]
  cf := some (fileOf pool2 11 #[] #[{ accessFlags := 2, nameIndex := 5, descriptorIndex := 6, attributes := #[] }, { accessFlags := 8, nameIndex := 22, descriptorIndex := 23, attributes := #[] }] 32 2 #[] #[{ accessFlags := 24, nameIndex := 17, descriptorIndex := 18, attributes := #[] }])
  fields := #[{ name := "NANOS_PER_MILLI", type := .long, accessFlags := 24, slot := 0, constantValue := 0 }]
  methods := #[k2m0, k2m1]
  instanceTypes := #[]
  staticTypes := #[.long]
  resolved := Array.replicate 29 none
  statics := none }

def pool3 : Array CpInfo := pool [(1, u "java/lang/Cloneable"), (0, .class_ 1), (0, u "java/lang/Object"), (0, .class_ 3)] 3

/-- java/lang/Cloneable -/
def k3 : Class := { plain "java/lang/Cloneable" (some 0) with
  accessFlags := 1537
  interfaces := #[]
  cf := some (fileOf pool3 2 #[] #[] 1537 4 #[] #[])
  fields := #[]
  methods := #[]
  instanceTypes := #[]
  staticTypes := #[]
  resolved := Array.replicate 8 none
  statics := none }

def pool4 : Array CpInfo := pool [(1, u "java/io/Serializable"), (0, .class_ 1), (0, u "java/lang/Object"), (0, .class_ 3)] 3

/-- java/io/Serializable -/
def k4 : Class := { plain "java/io/Serializable" (some 0) with
  accessFlags := 1537
  interfaces := #[]
  cf := some (fileOf pool4 2 #[] #[] 1537 4 #[] #[])
  fields := #[]
  methods := #[]
  instanceTypes := #[]
  staticTypes := #[]
  resolved := Array.replicate 8 none
  statics := none }

/-- the primitive byte -/
def k5 : Class := { plain "byte" none with kind := .primitive 'B', accessFlags := 0x411 }
/-- [B -/
def k6 : Class := { plain "[B" (some 0) with kind := .array 5 .byte, interfaces := #[3, 4], accessFlags := 1041 }

/-- the primitive int -/
def k7 : Class := { plain "int" none with kind := .primitive 'I', accessFlags := 0x411 }
/-- [I -/
def k8 : Class := { plain "[I" (some 0) with kind := .array 7 .int, interfaces := #[3, 4], accessFlags := 1041 }

def heap : Heap := #[]
def classes : Array Class := #[k0, k1, k2, k3, k4, k5, k6, k7, k8]
def interned : List (Array UInt16 × Addr) := []
def slotsUsed : Nat := 0
def theMethod : MethodId := ⟨1, 1⟩
def args0 : Array Value := #[.long 5, .long 7, .int 3]
def aboutOver (below : List Frame) : State where
  vm := { classes := classes, interned := interned.toArray }
  heap := heap
  slotsUsed := slotsUsed
  threads := #[{ frames := .invoking theMethod args0 :: below }]
def below0 : List Frame := [.native { method := ⟨0, 0⟩, args := #[] }]
def about1 : State := aboutOver below0
def p0 : Program := .bare "" "" ""
def e0 : Env := launch0.env 0 0 0
theorem w_frames : about1.frames = Frame.invoking theMethod args0 :: below0 := rfl
set_option maxRecDepth 65536 in
theorem w_args : argsFit about1.vm theMethod args0 = true := by decide +kernel
set_option maxRecDepth 65536 in
theorem w_heap : heapFits about1 = true := by decide +kernel
set_option maxRecDepth 65536 in
theorem w_runnable : about1.curStatus? = some .runnable := by decide +kernel
set_option maxRecDepth 65536 in
theorem w_alone : about1.alone = true := by decide +kernel
set_option maxRecDepth 65536 in
theorem w_named : about1.methodNamed? x = some theMethod := by decide +kernel
set_option maxRecDepth 65536 in
theorem w_hears : about1.hears theMethod below0 = true := by decide +kernel
set_option maxRecDepth 65536 in
theorem w_ripe : about1.ripe theMethod args0 below0 = true := by decide +kernel
theorem w_running : about1.status = .running := rfl
set_option maxRecDepth 65536 in
theorem w_room : about1.hasRoom e0.platform room_1 = true :=
  launch0.hasRoom_least _ room_1 (by decide +kernel) (by decide +kernel) (by decide +kernel) (by decide +kernel) (by decide +kernel) (by decide +kernel)
theorem allAtoms_all (ts : List Jvm.Cond) (a : Array Jvm.Value) (st : Jvm.State) : (allAtoms ts).before a st = ts.all (fun c => c.before a st) := by
  induction ts with
  | nil => rfl
  | cons c t ih =>
    show (Jvm.Cond.and c (allAtoms t)).before a st = _
    rw [Jvm.Cond.before_and, ih, List.all_cons]
def words1 : List Jvm.Cond := Jvm.Cond.code x code maxLocals ret :: tables_1
/-- a 'code' word, met by the world's own term for the bytes: nothing is compared byte by byte -/
theorem code_word {y : MethodName} {bytes : ByteArray} {mx : Nat} {rt : Option FieldType} {a : Array Value} {s : State} {m : MethodId} {meth : Method} {c : Code} (h1 : s.methodNamed? y = some m) (h2 : s.vm.method? m = some meth) (h3 : meth.code = some c) (h4 : c.code = bytes)
    (h5 : (c.maxLocals == mx && c.exceptionTable.isEmpty && decide (c.maxStack ≤ mostOperands) && decide (meth.sig.returnType = rt) && !meth.locks && decide (parseMethodDescriptor y.desc = some meth.sig)) = true) : (Jvm.Cond.code y bytes mx rt).before a s = true := by
  simp only [Bool.and_eq_true, beq_iff_eq, Bool.not_eq_true', decide_eq_true_eq] at h5
  obtain ⟨⟨⟨⟨⟨g1, g2⟩, g3⟩, g4⟩, g5⟩, g6⟩ := h5
  simp [Cond.before, Cond.holds, Cond.value, h1, h2, h3, h4, g1, g2, g3, g4, g5, g6]
def isCode : Jvm.Cond → Bool
  | .code _ _ _ _ => true
  | _ => false
theorem all_split {L : List Jvm.Cond} {P : Jvm.Cond → Bool} (h1 : L.all (fun c => isCode c || P c) = true) (h2 : ∀ c ∈ L.filter isCode, P c = true) : L.all P = true := by
  refine List.all_eq_true.mpr fun c hc => ?_
  have h := List.all_eq_true.mp h1 c hc
  rcases Bool.eq_false_or_eq_true (isCode c) with hi | hi
  · exact h2 c (List.mem_filter.mpr ⟨hc, hi⟩)
  · simpa [hi] using h
set_option maxRecDepth 65536 in
theorem w_c0 : (Jvm.Cond.code x code maxLocals ret).before args0 about1 = true := code_word (m := ⟨1, 1⟩) (meth := k1m1) (c := k1c1) (by decide +kernel) rfl rfl rfl (by decide +kernel)
set_option maxRecDepth 65536 in
theorem w_c1 : (Jvm.Cond.code ({ cls := "com/example/postloop/postloop/Uptime", name := "plus", desc := "(JJ)J" } : Jvm.MethodName) prog_9_method_2_code (4 : Nat) (Option.some Jvm.ClassFile.FieldType.long)).before args0 about1 = true := code_word (m := ⟨2, 1⟩) (meth := k2m1) (c := k2c1) (by decide +kernel) rfl rfl rfl (by decide +kernel)
def codes1 : List Jvm.Cond := [Jvm.Cond.code x code maxLocals ret, Jvm.Cond.code ({ cls := "com/example/postloop/postloop/Uptime", name := "plus", desc := "(JJ)J" } : Jvm.MethodName) prog_9_method_2_code (4 : Nat) (Option.some Jvm.ClassFile.FieldType.long)]
set_option maxRecDepth 65536 in
theorem codes_eq : words1.filter isCode = codes1 := rfl
theorem w_codes : ∀ c ∈ words1.filter isCode, c.before args0 about1 = true := by
  rw [codes_eq]
  intro c hc
  simp only [codes1, List.mem_cons, List.not_mem_nil, or_false] at hc
  rcases hc with rfl | rfl
  · exact w_c0
  · exact w_c1
set_option maxRecDepth 65536 in
theorem w_t1 : words1.all (fun c => isCode c || c.before args0 about1) = true := by decide +kernel
theorem w_tables : (allAtoms (Jvm.Cond.code x code maxLocals ret :: tables_1)).before args0 about1 = true := by
  rw [allAtoms_all]
  show words1.all (fun c => c.before args0 about1) = true
  refine all_split ?_ w_codes
  rw [w_t1]
set_option maxRecDepth 65536 in
theorem w_case : (Jvm.Cond.and given_1 narrow_1).before args0 about1 = true := by decide +kernel
theorem w_applies : (headSpec (Jvm.Cond.code x code maxLocals ret :: tables_1) room_1).applies x e0.platform about1 = true :=
  (Spec.applies_iff w_frames).mpr ⟨w_running, w_runnable, w_alone, w_named, w_hears, w_ripe, w_room, w_tables⟩
theorem atStart : AtStart classFile x code maxLocals ret World_1 tables_1 room_1 Calls_1 rest_1 Pre_1 launch0 p0 e0 about1 theMethod args0 below0 :=
  ⟨lists_1, trivial, launch0.admits_env _ _ _, launch0.least_env, fairChoices_fair.cas, fairChoices_fair.clock, w_frames, w_args, w_heap, w_applies, trivial, trivial, w_case⟩
end start1
theorem witness_1 : WitnessClaimed_1 := ⟨start1.p0, start1.e0, start1.about1, start1.theMethod, start1.args0, start1.below0, start1.atStart⟩
end Jvm.Pilot.@@N@@
