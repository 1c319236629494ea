import JvmDerived
import JvmDerived.Pilot.@@N@@Statement
import JvmDerived.Pilot.@@N@@Code
set_option linter.unusedVariables false
set_option linter.unusedSimpArgs false
namespace Jvm.RoadKit
open Sem ClassFile Op Lib Jvm.Stand Jvm.Free Jvm.LawKit
section New
variable {p : Program} {l : Launch} {e : Env} {R : Room} {s : State} {m : MethodId} {args : Array Value} {below : List Frame} {meth : Method} {c : Code} {T : State} {locs : List Loc} {cells slots : Nat}
theorem retI (X : Stand p l e R s m args below meth c T locs cells slots) (hx : p.tables.exec = Jvm.exec) {pc : Nat} {Ls : Array Slot} {z : Int32} {rest : List Value} (hret : meth.sig.returnType = some .int) (hd : decode c.code pc = .ok (.ireturn, 1)) {fs : List Frame}
    (hl : ∀ (f : JFrame) (acts : List Action), f.method = m → f.locked = none → f.entered = [] → (doReturn e (T.setTop f) acts (some (.int z))).1 = T.setFrames fs) : Steps p.tables e below (T.setTop (mkF m pc Ls (.int z :: rest))) (T.setFrames fs) := by
  have hm' : T.vm.method? m = some meth := X.method'
  have hn : narrow .int (.int z) = .int z := rfl
  show Steps p.tables e below (T.setTop { method := m, pc := pc, locals := Ls, stack := _ :: rest, locked := none }) _
  jvm_step X.here [X.here.top, hx, hd, hm', hret, hn]
  first | (intro acts; rw [hl _ acts rfl rfl rfl]) | rw [hl _ _ rfl rfl rfl]
  exact Steps.refl _
end New
end Jvm.RoadKit
namespace Jvm.Pilot.@@N@@
open Jvm Jvm.ClassFile Sem Op Lib Jvm.Free Jvm.Stand Jvm.LawKit Jvm.RoadKit Bundle Jvm.Pilot.@@N@@.Jvm.D
def QP (r : Option Value) (h0 : Heap) (n0 : Nat) (v : Option Value) (h : Heap) (L : List Loc) : Prop := v = r ∧ Fr n0 L ∧ h = h0
def Ctx (p : Program) (s : State) (m : MethodId) (meth : Method) (c : Code) (Z : State) (a0 : Array Value) (own : String) (bytes : ByteArray) (ml : Nat) (rt : Option FieldType) (name : String) : Prop :=
  p.tables.exec = Jvm.exec ∧ Z.Warmed39 s.vm ∧ (∀ d ∈ tables_1, d.before a0 Z = true) ∧ c.code = bytes ∧ c.maxLocals = ml ∧ s.vm.findClass own = some m.cls ∧ meth.sig.returnType = rt ∧ meth.locks = false ∧ meth.name = name
/-- from T with the frame g on top the run comes to a return, of which Φ holds -/
def Runs (p : Program) (e : Env) (below : List Frame) (s : State) (Φ : Option Value → Heap → List Loc → Prop) (k n : Nat) (T : State) (g : JFrame) : Prop :=
  ∃ s₂ o, Steps p.tables e below (T.setTop g) s₂ ∧ s₂.status = .running ∧ Ended s₂ below o ∧ ∃ v L, o = .returned v ∧ Φ v s₂.heap L ∧ FrameEnd s o s₂ L k n
section Own
variable {p : Program} {l : Launch} {e : Env} {R : Room} {s : State} {m : MethodId} {args : Array Value} {below : List Frame} {meth : Method} {c : Code} {T T' T0 Z : State} {a0 : Array Value} {locs : List Loc} {cells slots k n n0 : Nat} {h0 : Heap} {g g' : JFrame} {Φ : Option Value → Heap → List Loc → Prop}
theorem Runs.via (h : ∀ t, Steps p.tables e below (T'.setTop g') t → Steps p.tables e below (T.setTop g) t) (r : Runs p e below s Φ k n T' g') : Runs p e below s Φ k n T g := by
  obtain ⟨s₂, o, h1, r⟩ := r
  exact ⟨s₂, o, h _ h1, r⟩
theorem QP.cast {r r' : Option Value} (h : r = r') (H : Runs p e below s (QP r' h0 n0) k n T g) : Runs p e below s (QP r h0 n0) k n T g := by rw [h]; exact H
theorem own_retI (X : Stand p l e R s m args below meth c T locs cells slots) (hx : p.tables.exec = Jvm.exec) (hlk : meth.locks = false) (hret : meth.sig.returnType = some .int) {pc : Nat} {Ls : Array Slot} {z : Int32} {rest : List Value} (hd : decode c.code pc = .ok (.ireturn, 1)) (hk : cells ≤ k) (hn : slots ≤ n) (hΦ : Φ (some (.int z)) T.heap locs) :
    Runs p e below s Φ k n T (mkF m pc Ls (.int z :: rest)) := by
  obtain ⟨fs, hr, hrun, hended, hW, hsame⟩ := X.leave (v := some (.int z)) (fun h => by rw [hret] at h; cases h) hlk
  exact ⟨_, _, retI X hx hret hd hr, hrun, hended, _, _, rfl, hΦ, ⟨_, rfl⟩, hW, hsame.mono hk hn⟩
theorem own_retN (X : Stand p l e R s m args below meth c T locs cells slots) (hx : p.tables.exec = Jvm.exec) (hlk : meth.locks = false) {t : FieldType} (hret : meth.sig.returnType = some t) (ht : t = .boolean ∨ t = .byte ∨ t = .char ∨ t = .short) {pc : Nat} {Ls : Array Slot} {z : Int32} {rest : List Value} (hd : decode c.code pc = .ok (.ireturn, 1)) (hk : cells ≤ k) (hn : slots ≤ n) (hΦ : Φ (some (.int (nar t z))) T.heap locs) :
    Runs p e below s Φ k n T (mkF m pc Ls (.int z :: rest)) := by
  obtain ⟨fs, hr, hrun, hended, hW, hsame⟩ := X.leave (v := some (.int (nar t z))) (fun h => by rw [hret] at h; cases h) hlk
  exact ⟨_, _, retN X hx hret ht hd hr, hrun, hended, _, _, rfl, hΦ, ⟨_, rfl⟩, hW, hsame.mono hk hn⟩
theorem own_retJ (X : Stand p l e R s m args below meth c T locs cells slots) (hx : p.tables.exec = Jvm.exec) (hlk : meth.locks = false) (hret : meth.sig.returnType = some .long) {pc : Nat} {Ls : Array Slot} {z : Int64} (hd : decode c.code pc = .ok (.lreturn, 1)) (hk : cells ≤ k) (hn : slots ≤ n) (hΦ : Φ (some (.long z)) T.heap locs) :
    Runs p e below s Φ k n T (mkF m pc Ls [.long z]) := by
  obtain ⟨fs, hr, hrun, hended, hW, hsame⟩ := X.leave (v := some (.long z)) (fun h => by rw [hret] at h; cases h) hlk
  exact ⟨_, _, X.lreturnOut hx hret hd hr, hrun, hended, _, _, rfl, hΦ, ⟨_, rfl⟩, hW, hsame.mono hk hn⟩
theorem d1_0 : decode method_2_code 0 = .ok (.iload_n 2, 1) := by decide +kernel
theorem d1_1 : decode method_2_code 1 = .ok (.iconst 3, 1) := by decide +kernel
theorem d1_2 : decode method_2_code 2 = .ok (.iand, 1) := by decide +kernel
theorem d1_3 : decode method_2_code 3 = .ok (.istore_n 3, 1) := by decide +kernel
theorem d1_4 : decode method_2_code 4 = .ok (.iload_n 3, 1) := by decide +kernel
theorem d1_5 : decode method_2_code 5 = .ok (.ifCond .ne 9, 3) := by decide +kernel
theorem d1_8 : decode method_2_code 8 = .ok (.lload_n 0, 1) := by decide +kernel
theorem d1_9 : decode method_2_code 9 = .ok (.ldc2_w 9, 3) := by decide +kernel
theorem d1_12 : decode method_2_code 12 = .ok (.land, 1) := by decide +kernel
theorem d1_13 : decode method_2_code 13 = .ok (.lreturn, 1) := by decide +kernel
theorem d1_14 : decode method_2_code 14 = .ok (.iload_n 3, 1) := by decide +kernel
theorem d1_15 : decode method_2_code 15 = .ok (.iconst 1, 1) := by decide +kernel
theorem d1_16 : decode method_2_code 16 = .ok (.if_icmp .ne 18, 3) := by decide +kernel
theorem d1_19 : decode method_2_code 19 = .ok (.ldc2_w 13, 3) := by decide +kernel
theorem d1_22 : decode method_2_code 22 = .ok (.iload_n 2, 1) := by decide +kernel
theorem d1_23 : decode method_2_code 23 = .ok (.iconst 2, 1) := by decide +kernel
theorem d1_24 : decode method_2_code 24 = .ok (.iushr, 1) := by decide +kernel
theorem d1_25 : decode method_2_code 25 = .ok (.iconst 3, 1) := by decide +kernel
theorem d1_26 : decode method_2_code 26 = .ok (.iand, 1) := by decide +kernel
theorem d1_27 : decode method_2_code 27 = .ok (.i2l, 1) := by decide +kernel
theorem d1_28 : decode method_2_code 28 = .ok (.ladd, 1) := by decide +kernel
theorem d1_29 : decode method_2_code 29 = .ok (.ldc2_w 15, 3) := by decide +kernel
theorem d1_32 : decode method_2_code 32 = .ok (.lsub, 1) := by decide +kernel
theorem d1_33 : decode method_2_code 33 = .ok (.lreturn, 1) := by decide +kernel
theorem d1_34 : decode method_2_code 34 = .ok (.iload_n 3, 1) := by decide +kernel
theorem d1_35 : decode method_2_code 35 = .ok (.iconst 2, 1) := by decide +kernel
theorem d1_36 : decode method_2_code 36 = .ok (.if_icmp .ne 13, 3) := by decide +kernel
theorem d1_39 : decode method_2_code 39 = .ok (.lload_n 0, 1) := by decide +kernel
theorem d1_40 : decode method_2_code 40 = .ok (.ldc2_w 9, 3) := by decide +kernel
theorem d1_43 : decode method_2_code 43 = .ok (.land, 1) := by decide +kernel
theorem d1_44 : decode method_2_code 44 = .ok (.ldc2_w 17, 3) := by decide +kernel
theorem d1_47 : decode method_2_code 47 = .ok (.lrem, 1) := by decide +kernel
theorem d1_48 : decode method_2_code 48 = .ok (.lreturn, 1) := by decide +kernel
theorem d1_49 : decode method_2_code 49 = .ok (.lload_n 0, 1) := by decide +kernel
theorem d1_50 : decode method_2_code 50 = .ok (.ldc2_w 19, 3) := by decide +kernel
theorem d1_53 : decode method_2_code 53 = .ok (.land, 1) := by decide +kernel
theorem d1_54 : decode method_2_code 54 = .ok (.lreturn, 1) := by decide +kernel
def g1_0 (y0 : Int64) (x2 : Int32) : Int64 := (if (x2 &&& (3 : Int32)) = (0 : Int32) then (y0 &&& (9223372036854775807 : Int64)) else (if (x2 &&& (3 : Int32)) = (1 : Int32) then (((9223372036854 : Int64) + (Int32.toInt64 (((x2.toUInt32 >>> ((2 : Int32) &&& 31).toUInt32).toInt32) &&& (3 : Int32)))) - (2 : Int64)) else (if (x2 &&& (3 : Int32)) = (2 : Int32) then ((y0 &&& (9223372036854775807 : Int64)) - ((y0 &&& (9223372036854775807 : Int64)) / (9223372036855 : Int64)) * (9223372036855 : Int64)) else (y0 &&& (65535 : Int64)))))
set_option maxRecDepth 65536 in
set_option maxHeartbeats 4000000 in
theorem b1_0 (C : Ctx p s m meth c Z a0 "com/example/postloop/postloop/UptimeToNanosPinLaw" method_2_code 4 (some .long) "pick") (X0 : Stand p l e ({ frames := 0, cells := 0, slots := 0, locals := 0 } : Room) s m args below meth c T0 locs cells slots) (e0 : T0.heap = h0) (N0 : Fr n0 locs) (hk : cells ≤ 0) (hn : slots ≤ 0) (y0 : Int64) (x2 : Int32) :
    Runs p e below s (QP (some (.long (g1_0 y0 x2))) h0 n0) 0 0 T0 (mkF m 0 #[.val (.long y0), .second, .val (.int x2), .unset] []) := by
  have ⟨hx, hZ, hw, hby, hml, hown, hret, hlk, hnm⟩ := C
  refine Runs.via (T' := T0) (g' := (mkF m 5 #[.val (.long y0), .second, .val (.int x2), .val (.int (x2 &&& (3 : Int32)))] [(.int (x2 &&& (3 : Int32)))])) (fun t k => ?_) ?_
  · show Steps p.tables e below (T0.setTop (mkF m 0 #[.val (.long y0), .second, .val (.int x2), .unset] [])) t
    refine XS.iloadN X0.here hx rfl (hb hby d1_0) rfl ?_
    show Steps p.tables e below (T0.setTop (mkF m 1 #[.val (.long y0), .second, .val (.int x2), .unset] [(.int x2)])) t
    refine XS.iconst X0.here hx rfl (hb hby d1_1) ?_
    show Steps p.tables e below (T0.setTop (mkF m 2 #[.val (.long y0), .second, .val (.int x2), .unset] [(.int (3 : Int32)), (.int x2)])) t
    refine XS.iand X0.here hx rfl (hb hby d1_2) rfl ?_
    show Steps p.tables e below (T0.setTop (mkF m 3 #[.val (.long y0), .second, .val (.int x2), .unset] [(.int (x2 &&& (3 : Int32)))])) t
    refine XS.istoreN X0.here hx rfl (hb hby d1_3) rfl (l' := #[.val (.long y0), .second, .val (.int x2), .val (.int (x2 &&& (3 : Int32)))]) rfl ?_
    show Steps p.tables e below (T0.setTop (mkF m 4 #[.val (.long y0), .second, .val (.int x2), .val (.int (x2 &&& (3 : Int32)))] [])) t
    refine XS.iloadN X0.here hx rfl (hb hby d1_4) rfl ?_
    exact k
  by_cases hc1 : (x2 &&& (3 : Int32)) = (0 : Int32)
  · refine Runs.via (T' := T0) (g' := (mkF m 8 #[.val (.long y0), .second, .val (.int x2), .val (.int (x2 &&& (3 : Int32)))] [])) (fun t k => ?_) ?_
    · show Steps p.tables e below (T0.setTop (mkF m 5 #[.val (.long y0), .second, .val (.int x2), .val (.int (x2 &&& (3 : Int32)))] [(.int (x2 &&& (3 : Int32)))])) t
      exact XS.ifNo X0.here hx rfl (hb hby d1_5) rfl ((if0 _ _).trans (teq hc1).2) k
    refine Runs.via (T' := T0) (g' := (mkF m 13 #[.val (.long y0), .second, .val (.int x2), .val (.int (x2 &&& (3 : Int32)))] [(.long (y0 &&& (9223372036854775807 : Int64)))])) (fun t k => ?_) ?_
    · show Steps p.tables e below (T0.setTop (mkF m 8 #[.val (.long y0), .second, .val (.int x2), .val (.int (x2 &&& (3 : Int32)))] [])) t
      refine XS.lloadN X0.here hx rfl (hb hby d1_8) rfl ?_
      show Steps p.tables e below (T0.setTop (mkF m 9 #[.val (.long y0), .second, .val (.int x2), .val (.int (x2 &&& (3 : Int32)))] [(.long y0)])) t
      refine X0.ldc2Long hx hown (mvT hZ (hw _ (List.mem_of_getElem? (i := 4) rfl))) (g := (mkF m 9 #[.val (.long y0), .second, .val (.int x2), .val (.int (x2 &&& (3 : Int32)))] [(.long y0)])) rfl (hb hby d1_9) _ ?_
      show Steps p.tables e below (T0.setTop (mkF m 12 #[.val (.long y0), .second, .val (.int x2), .val (.int (x2 &&& (3 : Int32)))] [(.long (9223372036854775807 : Int64)), (.long y0)])) t
      refine XS.land X0.here hx rfl (hb hby d1_12) rfl ?_
      exact k
    refine QP.cast (congrArg (fun z => some (Value.long z)) (show (g1_0 y0 x2) = (y0 &&& (9223372036854775807 : Int64)) from (if_pos hc1))) ?_
    exact own_retJ X0 hx hlk hret (hb hby d1_13) hk hn ⟨rfl, N0, e0⟩
  · refine Runs.via (T' := T0) (g' := (mkF m 14 #[.val (.long y0), .second, .val (.int x2), .val (.int (x2 &&& (3 : Int32)))] [])) (fun t k => ?_) ?_
    · show Steps p.tables e below (T0.setTop (mkF m 5 #[.val (.long y0), .second, .val (.int x2), .val (.int (x2 &&& (3 : Int32)))] [(.int (x2 &&& (3 : Int32)))])) t
      exact XS.ifYes X0.here hx rfl (pc0 := 5) (pc' := 14) rfl (hb hby d1_5) rfl ((if0 _ _).trans (feq hc1).2) (by decide) (by decide) k
    refine Runs.via (T' := T0) (g' := (mkF m 16 #[.val (.long y0), .second, .val (.int x2), .val (.int (x2 &&& (3 : Int32)))] [(.int (1 : Int32)), (.int (x2 &&& (3 : Int32)))])) (fun t k => ?_) ?_
    · show Steps p.tables e below (T0.setTop (mkF m 14 #[.val (.long y0), .second, .val (.int x2), .val (.int (x2 &&& (3 : Int32)))] [])) t
      refine XS.iloadN X0.here hx rfl (hb hby d1_14) rfl ?_
      show Steps p.tables e below (T0.setTop (mkF m 15 #[.val (.long y0), .second, .val (.int x2), .val (.int (x2 &&& (3 : Int32)))] [(.int (x2 &&& (3 : Int32)))])) t
      refine XS.iconst X0.here hx rfl (hb hby d1_15) ?_
      exact k
    by_cases hc2 : (x2 &&& (3 : Int32)) = (1 : Int32)
    · refine Runs.via (T' := T0) (g' := (mkF m 19 #[.val (.long y0), .second, .val (.int x2), .val (.int (x2 &&& (3 : Int32)))] [])) (fun t k => ?_) ?_
      · show Steps p.tables e below (T0.setTop (mkF m 16 #[.val (.long y0), .second, .val (.int x2), .val (.int (x2 &&& (3 : Int32)))] [(.int (1 : Int32)), (.int (x2 &&& (3 : Int32)))])) t
        exact XS.icmpNo X0.here hx rfl (hb hby d1_16) rfl (teq hc2).2 k
      refine Runs.via (T' := T0) (g' := (mkF m 33 #[.val (.long y0), .second, .val (.int x2), .val (.int (x2 &&& (3 : Int32)))] [(.long (((9223372036854 : Int64) + (Int32.toInt64 (((x2.toUInt32 >>> ((2 : Int32) &&& 31).toUInt32).toInt32) &&& (3 : Int32)))) - (2 : Int64)))])) (fun t k => ?_) ?_
      · show Steps p.tables e below (T0.setTop (mkF m 19 #[.val (.long y0), .second, .val (.int x2), .val (.int (x2 &&& (3 : Int32)))] [])) t
        refine X0.ldc2Long hx hown (mvT hZ (hw _ (List.mem_of_getElem? (i := 12) rfl))) (g := (mkF m 19 #[.val (.long y0), .second, .val (.int x2), .val (.int (x2 &&& (3 : Int32)))] [])) rfl (hb hby d1_19) _ ?_
        show Steps p.tables e below (T0.setTop (mkF m 22 #[.val (.long y0), .second, .val (.int x2), .val (.int (x2 &&& (3 : Int32)))] [(.long (9223372036854 : Int64))])) t
        refine XS.iloadN X0.here hx rfl (hb hby d1_22) rfl ?_
        show Steps p.tables e below (T0.setTop (mkF m 23 #[.val (.long y0), .second, .val (.int x2), .val (.int (x2 &&& (3 : Int32)))] [(.int x2), (.long (9223372036854 : Int64))])) t
        refine XS.iconst X0.here hx rfl (hb hby d1_23) ?_
        show Steps p.tables e below (T0.setTop (mkF m 24 #[.val (.long y0), .second, .val (.int x2), .val (.int (x2 &&& (3 : Int32)))] [(.int (2 : Int32)), (.int x2), (.long (9223372036854 : Int64))])) t
        refine XS.iushr X0.here hx rfl (hb hby d1_24) rfl ?_
        show Steps p.tables e below (T0.setTop (mkF m 25 #[.val (.long y0), .second, .val (.int x2), .val (.int (x2 &&& (3 : Int32)))] [(.int ((x2.toUInt32 >>> ((2 : Int32) &&& 31).toUInt32).toInt32)), (.long (9223372036854 : Int64))])) t
        refine XS.iconst X0.here hx rfl (hb hby d1_25) ?_
        show Steps p.tables e below (T0.setTop (mkF m 26 #[.val (.long y0), .second, .val (.int x2), .val (.int (x2 &&& (3 : Int32)))] [(.int (3 : Int32)), (.int ((x2.toUInt32 >>> ((2 : Int32) &&& 31).toUInt32).toInt32)), (.long (9223372036854 : Int64))])) t
        refine XS.iand X0.here hx rfl (hb hby d1_26) rfl ?_
        show Steps p.tables e below (T0.setTop (mkF m 27 #[.val (.long y0), .second, .val (.int x2), .val (.int (x2 &&& (3 : Int32)))] [(.int (((x2.toUInt32 >>> ((2 : Int32) &&& 31).toUInt32).toInt32) &&& (3 : Int32))), (.long (9223372036854 : Int64))])) t
        refine XS.i2l X0.here hx rfl (hb hby d1_27) rfl ?_
        show Steps p.tables e below (T0.setTop (mkF m 28 #[.val (.long y0), .second, .val (.int x2), .val (.int (x2 &&& (3 : Int32)))] [(.long (Int32.toInt64 (((x2.toUInt32 >>> ((2 : Int32) &&& 31).toUInt32).toInt32) &&& (3 : Int32)))), (.long (9223372036854 : Int64))])) t
        refine XS.ladd X0.here hx rfl (hb hby d1_28) rfl ?_
        show Steps p.tables e below (T0.setTop (mkF m 29 #[.val (.long y0), .second, .val (.int x2), .val (.int (x2 &&& (3 : Int32)))] [(.long ((9223372036854 : Int64) + (Int32.toInt64 (((x2.toUInt32 >>> ((2 : Int32) &&& 31).toUInt32).toInt32) &&& (3 : Int32)))))])) t
        refine X0.ldc2Long hx hown (mvT hZ (hw _ (List.mem_of_getElem? (i := 16) rfl))) (g := (mkF m 29 #[.val (.long y0), .second, .val (.int x2), .val (.int (x2 &&& (3 : Int32)))] [(.long ((9223372036854 : Int64) + (Int32.toInt64 (((x2.toUInt32 >>> ((2 : Int32) &&& 31).toUInt32).toInt32) &&& (3 : Int32)))))])) rfl (hb hby d1_29) _ ?_
        show Steps p.tables e below (T0.setTop (mkF m 32 #[.val (.long y0), .second, .val (.int x2), .val (.int (x2 &&& (3 : Int32)))] [(.long (2 : Int64)), (.long ((9223372036854 : Int64) + (Int32.toInt64 (((x2.toUInt32 >>> ((2 : Int32) &&& 31).toUInt32).toInt32) &&& (3 : Int32)))))])) t
        refine XS.lsub X0.here hx rfl (hb hby d1_32) rfl ?_
        exact k
      refine QP.cast (congrArg (fun z => some (Value.long z)) (show (g1_0 y0 x2) = (((9223372036854 : Int64) + (Int32.toInt64 (((x2.toUInt32 >>> ((2 : Int32) &&& 31).toUInt32).toInt32) &&& (3 : Int32)))) - (2 : Int64)) from ((if_neg hc1).trans (if_pos hc2)))) ?_
      exact own_retJ X0 hx hlk hret (hb hby d1_33) hk hn ⟨rfl, N0, e0⟩
    · refine Runs.via (T' := T0) (g' := (mkF m 34 #[.val (.long y0), .second, .val (.int x2), .val (.int (x2 &&& (3 : Int32)))] [])) (fun t k => ?_) ?_
      · show Steps p.tables e below (T0.setTop (mkF m 16 #[.val (.long y0), .second, .val (.int x2), .val (.int (x2 &&& (3 : Int32)))] [(.int (1 : Int32)), (.int (x2 &&& (3 : Int32)))])) t
        exact XS.icmpYes X0.here hx rfl (pc0 := 16) (pc' := 34) rfl (hb hby d1_16) rfl (feq hc2).2 (by decide) (by decide) k
      refine Runs.via (T' := T0) (g' := (mkF m 36 #[.val (.long y0), .second, .val (.int x2), .val (.int (x2 &&& (3 : Int32)))] [(.int (2 : Int32)), (.int (x2 &&& (3 : Int32)))])) (fun t k => ?_) ?_
      · show Steps p.tables e below (T0.setTop (mkF m 34 #[.val (.long y0), .second, .val (.int x2), .val (.int (x2 &&& (3 : Int32)))] [])) t
        refine XS.iloadN X0.here hx rfl (hb hby d1_34) rfl ?_
        show Steps p.tables e below (T0.setTop (mkF m 35 #[.val (.long y0), .second, .val (.int x2), .val (.int (x2 &&& (3 : Int32)))] [(.int (x2 &&& (3 : Int32)))])) t
        refine XS.iconst X0.here hx rfl (hb hby d1_35) ?_
        exact k
      by_cases hc3 : (x2 &&& (3 : Int32)) = (2 : Int32)
      · refine Runs.via (T' := T0) (g' := (mkF m 39 #[.val (.long y0), .second, .val (.int x2), .val (.int (x2 &&& (3 : Int32)))] [])) (fun t k => ?_) ?_
        · show Steps p.tables e below (T0.setTop (mkF m 36 #[.val (.long y0), .second, .val (.int x2), .val (.int (x2 &&& (3 : Int32)))] [(.int (2 : Int32)), (.int (x2 &&& (3 : Int32)))])) t
          exact XS.icmpNo X0.here hx rfl (hb hby d1_36) rfl (teq hc3).2 k
        refine Runs.via (T' := T0) (g' := (mkF m 48 #[.val (.long y0), .second, .val (.int x2), .val (.int (x2 &&& (3 : Int32)))] [(.long ((y0 &&& (9223372036854775807 : Int64)) - ((y0 &&& (9223372036854775807 : Int64)) / (9223372036855 : Int64)) * (9223372036855 : Int64)))])) (fun t k => ?_) ?_
        · show Steps p.tables e below (T0.setTop (mkF m 39 #[.val (.long y0), .second, .val (.int x2), .val (.int (x2 &&& (3 : Int32)))] [])) t
          refine XS.lloadN X0.here hx rfl (hb hby d1_39) rfl ?_
          show Steps p.tables e below (T0.setTop (mkF m 40 #[.val (.long y0), .second, .val (.int x2), .val (.int (x2 &&& (3 : Int32)))] [(.long y0)])) t
          refine X0.ldc2Long hx hown (mvT hZ (hw _ (List.mem_of_getElem? (i := 4) rfl))) (g := (mkF m 40 #[.val (.long y0), .second, .val (.int x2), .val (.int (x2 &&& (3 : Int32)))] [(.long y0)])) rfl (hb hby d1_40) _ ?_
          show Steps p.tables e below (T0.setTop (mkF m 43 #[.val (.long y0), .second, .val (.int x2), .val (.int (x2 &&& (3 : Int32)))] [(.long (9223372036854775807 : Int64)), (.long y0)])) t
          refine XS.land X0.here hx rfl (hb hby d1_43) rfl ?_
          show Steps p.tables e below (T0.setTop (mkF m 44 #[.val (.long y0), .second, .val (.int x2), .val (.int (x2 &&& (3 : Int32)))] [(.long (y0 &&& (9223372036854775807 : Int64)))])) t
          refine X0.ldc2Long hx hown (mvT hZ (hw _ (List.mem_of_getElem? (i := 5) rfl))) (g := (mkF m 44 #[.val (.long y0), .second, .val (.int x2), .val (.int (x2 &&& (3 : Int32)))] [(.long (y0 &&& (9223372036854775807 : Int64)))])) rfl (hb hby d1_44) _ ?_
          show Steps p.tables e below (T0.setTop (mkF m 47 #[.val (.long y0), .second, .val (.int x2), .val (.int (x2 &&& (3 : Int32)))] [(.long (9223372036855 : Int64)), (.long (y0 &&& (9223372036854775807 : Int64)))])) t
          refine XS.lrem X0.here hx rfl (hb hby d1_47) rfl (by decide) ?_
          exact k
        refine QP.cast (congrArg (fun z => some (Value.long z)) (show (g1_0 y0 x2) = ((y0 &&& (9223372036854775807 : Int64)) - ((y0 &&& (9223372036854775807 : Int64)) / (9223372036855 : Int64)) * (9223372036855 : Int64)) from ((if_neg hc1).trans ((if_neg hc2).trans (if_pos hc3))))) ?_
        exact own_retJ X0 hx hlk hret (hb hby d1_48) hk hn ⟨rfl, N0, e0⟩
      · refine Runs.via (T' := T0) (g' := (mkF m 49 #[.val (.long y0), .second, .val (.int x2), .val (.int (x2 &&& (3 : Int32)))] [])) (fun t k => ?_) ?_
        · show Steps p.tables e below (T0.setTop (mkF m 36 #[.val (.long y0), .second, .val (.int x2), .val (.int (x2 &&& (3 : Int32)))] [(.int (2 : Int32)), (.int (x2 &&& (3 : Int32)))])) t
          exact XS.icmpYes X0.here hx rfl (pc0 := 36) (pc' := 49) rfl (hb hby d1_36) rfl (feq hc3).2 (by decide) (by decide) k
        refine Runs.via (T' := T0) (g' := (mkF m 54 #[.val (.long y0), .second, .val (.int x2), .val (.int (x2 &&& (3 : Int32)))] [(.long (y0 &&& (65535 : Int64)))])) (fun t k => ?_) ?_
        · show Steps p.tables e below (T0.setTop (mkF m 49 #[.val (.long y0), .second, .val (.int x2), .val (.int (x2 &&& (3 : Int32)))] [])) t
          refine XS.lloadN X0.here hx rfl (hb hby d1_49) rfl ?_
          show Steps p.tables e below (T0.setTop (mkF m 50 #[.val (.long y0), .second, .val (.int x2), .val (.int (x2 &&& (3 : Int32)))] [(.long y0)])) t
          refine X0.ldc2Long hx hown (mvT hZ (hw _ (List.mem_of_getElem? (i := 15) rfl))) (g := (mkF m 50 #[.val (.long y0), .second, .val (.int x2), .val (.int (x2 &&& (3 : Int32)))] [(.long y0)])) rfl (hb hby d1_50) _ ?_
          show Steps p.tables e below (T0.setTop (mkF m 53 #[.val (.long y0), .second, .val (.int x2), .val (.int (x2 &&& (3 : Int32)))] [(.long (65535 : Int64)), (.long y0)])) t
          refine XS.land X0.here hx rfl (hb hby d1_53) rfl ?_
          exact k
        refine QP.cast (congrArg (fun z => some (Value.long z)) (show (g1_0 y0 x2) = (y0 &&& (65535 : Int64)) from ((if_neg hc1).trans ((if_neg hc2).trans (if_neg hc3))))) ?_
        exact own_retJ X0 hx hlk hret (hb hby d1_54) hk hn ⟨rfl, N0, e0⟩
def f1 (y0 : Int64) (x2 : Int32) : Int64 := g1_0 y0 x2
theorem pn_1 : plainName "com/example/postloop/postloop/UptimeToNanosPinLaw" = true := by first | (simp [plainName, overriddenIn]; done) | decide +kernel
theorem ef_1 (m : MethodId) (y0 : Int64) (x2 : Int32) : entryFrame m #[(.long y0), (.int x2)] 4 = mkF m 0 #[.val (.long y0), .second, .val (.int x2), .unset] [] := by first | (simp [entryFrame, mkF, argsToLocals, Value.category]; done) | rfl
set_option maxRecDepth 65536 in
set_option maxHeartbeats 4000000 in
theorem rm1 (l : Launch) (Z : State) (a0 : Array Value) (hw : ∀ d ∈ tables_1, d.before a0 Z = true) (ws : List Jvm.Cond) (y0 : Int64) (x2 : Int32) (h0 : Heap) (n0 : Nat) :
    MetFree l (⟨"com/example/postloop/postloop/UptimeToNanosPinLaw", "pick", "(JI)J"⟩ : MethodName) (head1 (Jvm.Cond.code (⟨"com/example/postloop/postloop/UptimeToNanosPinLaw", "pick", "(JI)J"⟩ : MethodName) method_2_code 4 (some .long) :: ws) ({ frames := 0, cells := 0, slots := 0, locals := 0 } : Room)) (fun a U => a = #[(.long y0), (.int x2)] ∧ Z.Warmed39 U.vm ∧ U.heap = h0) (fun _ _ _ _ _ => True) (fun _ U o U' => ∃ v L, o = .returned v ∧ QP (some (.long (f1 y0 x2))) h0 n0 v U'.heap L ∧ FrameEnd U o U' L ({ frames := 0, cells := 0, slots := 0, locals := 0 } : Room).cells ({ frames := 0, cells := 0, slots := 0, locals := 0 } : Room).slots) := by
  refine MetFree.of_bodySF (plainFor_of_name pn_1) hisR ?_
  intro p e s m args below meth c s₁ Bd hml0 hP hK
  obtain ⟨rfl, hZ, hh⟩ := hP
  have X0 : Stand p l e ({ frames := 0, cells := 0, slots := 0, locals := 0 } : Room) s m #[(.long y0), (.int x2)] below meth c s₁ [] 0 0 := Stand.of_body Bd
  have e0 : s₁.heap = h0 := by rw [← hh, Bd.state]; rfl
  have C : Ctx p s m meth c Z a0 "com/example/postloop/postloop/UptimeToNanosPinLaw" method_2_code 4 (some .long) "pick" := ⟨Bd.exec, hZ, hw, Bd.bytes, hml0, findClass_of_methodNamed Bd.named, Bd.returns, BodyLoose.notSynchronized Bd, (name_of_methodNamed Bd.named Bd.method).1⟩
  refine Runs.via (fun t k => castTop (ef_1 m y0 x2) k) (b1_0 C X0 e0 (Fr.nil n0) (Nat.le_refl 0) (Nat.le_refl 0) y0 x2)
theorem pd_0 : parseMethodDescriptor "(JI)J" = some ⟨[.long, .int], some .long⟩ := by decide +kernel
theorem d2_0 : decode prog_9_method_3_code 0 = .ok (.lload_n 0, 1) := by decide +kernel
theorem d2_1 : decode prog_9_method_3_code 1 = .ok (.ldc2_w 13, 3) := by decide +kernel
theorem d2_4 : decode prog_9_method_3_code 4 = .ok (.lcmp, 1) := by decide +kernel
theorem d2_5 : decode prog_9_method_3_code 5 = .ok (.ifCond .le 9, 3) := by decide +kernel
theorem d2_8 : decode prog_9_method_3_code 8 = .ok (.ldc2_w 9, 3) := by decide +kernel
theorem d2_11 : decode prog_9_method_3_code 11 = .ok (.goto 8, 3) := by decide +kernel
theorem d2_14 : decode prog_9_method_3_code 14 = .ok (.lload_n 0, 1) := by decide +kernel
theorem d2_15 : decode prog_9_method_3_code 15 = .ok (.ldc2_w 15, 3) := by decide +kernel
theorem d2_18 : decode prog_9_method_3_code 18 = .ok (.lmul, 1) := by decide +kernel
theorem d2_19 : decode prog_9_method_3_code 19 = .ok (.lreturn, 1) := by decide +kernel
def g2_0 (y0 : Int64) : Int64 := (if (9223372036854 : Int64) < y0 then (9223372036854775807 : Int64) else (y0 * (1000000 : Int64)))
set_option maxRecDepth 65536 in
set_option maxHeartbeats 4000000 in
theorem b2_0 (C : Ctx p s m meth c Z a0 "com/example/postloop/postloop/Uptime" prog_9_method_3_code 2 (some .long) "toNanos") (X0 : Stand p l e ({ frames := 0, cells := 0, slots := 0, locals := 0 } : Room) s m args below meth c T0 locs cells slots) (e0 : T0.heap = h0) (N0 : Fr n0 locs) (hk : cells ≤ 0) (hn : slots ≤ 0) (y0 : Int64) :
    Runs p e below s (QP (some (.long (g2_0 y0))) h0 n0) 0 0 T0 (mkF m 0 #[.val (.long y0), .second] []) := by
  have ⟨hx, hZ, hw, hby, hml, hown, hret, hlk, hnm⟩ := C
  refine Runs.via (T' := T0) (g' := (mkF m 5 #[.val (.long y0), .second] [(.int (lcmpW y0 (9223372036854 : Int64)))])) (fun t k => ?_) ?_
  · show Steps p.tables e below (T0.setTop (mkF m 0 #[.val (.long y0), .second] [])) t
    refine XS.lloadN X0.here hx rfl (hb hby d2_0) rfl ?_
    show Steps p.tables e below (T0.setTop (mkF m 1 #[.val (.long y0), .second] [(.long y0)])) t
    refine X0.ldc2Long hx hown (mvT hZ (hw _ (List.mem_of_getElem? (i := 10) rfl))) (g := (mkF m 1 #[.val (.long y0), .second] [(.long y0)])) rfl (hb hby d2_1) _ ?_
    show Steps p.tables e below (T0.setTop (mkF m 4 #[.val (.long y0), .second] [(.long (9223372036854 : Int64)), (.long y0)])) t
    refine XS.lcmp X0.here hx rfl (hb hby d2_4) rfl ?_
    exact k
  by_cases hc1 : (9223372036854 : Int64) < y0
  · refine Runs.via (T' := T0) (g' := (mkF m 8 #[.val (.long y0), .second] [])) (fun t k => ?_) ?_
    · show Steps p.tables e below (T0.setTop (mkF m 5 #[.val (.long y0), .second] [(.int (lcmpW y0 (9223372036854 : Int64)))])) t
      exact XS.ifNo X0.here hx rfl (hb hby d2_5) rfl ((if0 _ _).trans (tlt ((lw_gt _ _).mpr hc1)).2.2.2) k
    refine Runs.via (T' := T0) (g' := (mkF m 19 #[.val (.long y0), .second] [(.long (9223372036854775807 : Int64))])) (fun t k => ?_) ?_
    · show Steps p.tables e below (T0.setTop (mkF m 8 #[.val (.long y0), .second] [])) t
      refine X0.ldc2Long hx hown (mvT hZ (hw _ (List.mem_of_getElem? (i := 14) rfl))) (g := (mkF m 8 #[.val (.long y0), .second] [])) rfl (hb hby d2_8) _ ?_
      show Steps p.tables e below (T0.setTop (mkF m 11 #[.val (.long y0), .second] [(.long (9223372036854775807 : Int64))])) t
      refine XS.goto X0.here hx rfl (pc0 := 11) (pc' := 19) rfl (hb hby d2_11) (by decide) (by decide) ?_
      exact k
    refine QP.cast (congrArg (fun z => some (Value.long z)) (show (g2_0 y0) = (9223372036854775807 : Int64) from (if_pos hc1))) ?_
    exact own_retJ X0 hx hlk hret (hb hby d2_19) hk hn ⟨rfl, N0, e0⟩
  · refine Runs.via (T' := T0) (g' := (mkF m 14 #[.val (.long y0), .second] [])) (fun t k => ?_) ?_
    · show Steps p.tables e below (T0.setTop (mkF m 5 #[.val (.long y0), .second] [(.int (lcmpW y0 (9223372036854 : Int64)))])) t
      exact XS.ifYes X0.here hx rfl (pc0 := 5) (pc' := 14) rfl (hb hby d2_5) rfl ((if0 _ _).trans (flt (fun q => hc1 ((lw_gt _ _).mp q))).2.2.2) (by decide) (by decide) k
    refine Runs.via (T' := T0) (g' := (mkF m 19 #[.val (.long y0), .second] [(.long (y0 * (1000000 : Int64)))])) (fun t k => ?_) ?_
    · show Steps p.tables e below (T0.setTop (mkF m 14 #[.val (.long y0), .second] [])) t
      refine XS.lloadN X0.here hx rfl (hb hby d2_14) rfl ?_
      show Steps p.tables e below (T0.setTop (mkF m 15 #[.val (.long y0), .second] [(.long y0)])) t
      refine X0.ldc2Long hx hown (mvT hZ (hw _ (List.mem_of_getElem? (i := 11) rfl))) (g := (mkF m 15 #[.val (.long y0), .second] [(.long y0)])) rfl (hb hby d2_15) _ ?_
      show Steps p.tables e below (T0.setTop (mkF m 18 #[.val (.long y0), .second] [(.long (1000000 : Int64)), (.long y0)])) t
      refine XS.lmul X0.here hx rfl (hb hby d2_18) rfl ?_
      exact k
    refine QP.cast (congrArg (fun z => some (Value.long z)) (show (g2_0 y0) = (y0 * (1000000 : Int64)) from (if_neg hc1))) ?_
    exact own_retJ X0 hx hlk hret (hb hby d2_19) hk hn ⟨rfl, N0, e0⟩
def f2 (y0 : Int64) : Int64 := g2_0 y0
theorem pn_2 : plainName "com/example/postloop/postloop/Uptime" = true := by first | (simp [plainName, overriddenIn]; done) | decide +kernel
theorem ef_2 (m : MethodId) (y0 : Int64) : entryFrame m #[(.long y0)] 2 = mkF m 0 #[.val (.long y0), .second] [] := by first | (simp [entryFrame, mkF, argsToLocals, Value.category]; done) | rfl
set_option maxRecDepth 65536 in
set_option maxHeartbeats 4000000 in
theorem rm2 (l : Launch) (Z : State) (a0 : Array Value) (hw : ∀ d ∈ tables_1, d.before a0 Z = true) (ws : List Jvm.Cond) (y0 : Int64) (h0 : Heap) (n0 : Nat) :
    MetFree l (⟨"com/example/postloop/postloop/Uptime", "toNanos", "(J)J"⟩ : MethodName) (head1 (Jvm.Cond.code (⟨"com/example/postloop/postloop/Uptime", "toNanos", "(J)J"⟩ : MethodName) prog_9_method_3_code 2 (some .long) :: ws) ({ frames := 0, cells := 0, slots := 0, locals := 0 } : Room)) (fun a U => a = #[(.long y0)] ∧ Z.Warmed39 U.vm ∧ U.heap = h0) (fun _ _ _ _ _ => True) (fun _ U o U' => ∃ v L, o = .returned v ∧ QP (some (.long (f2 y0))) h0 n0 v U'.heap L ∧ FrameEnd U o U' L ({ frames := 0, cells := 0, slots := 0, locals := 0 } : Room).cells ({ frames := 0, cells := 0, slots := 0, locals := 0 } : Room).slots) := by
  refine MetFree.of_bodySF (plainFor_of_name pn_2) hisR ?_
  intro p e s m args below meth c s₁ Bd hml0 hP hK
  obtain ⟨rfl, hZ, hh⟩ := hP
  have X0 : Stand p l e ({ frames := 0, cells := 0, slots := 0, locals := 0 } : Room) s m #[(.long y0)] below meth c s₁ [] 0 0 := Stand.of_body Bd
  have e0 : s₁.heap = h0 := by rw [← hh, Bd.state]; rfl
  have C : Ctx p s m meth c Z a0 "com/example/postloop/postloop/Uptime" prog_9_method_3_code 2 (some .long) "toNanos" := ⟨Bd.exec, hZ, hw, Bd.bytes, hml0, findClass_of_methodNamed Bd.named, Bd.returns, BodyLoose.notSynchronized Bd, (name_of_methodNamed Bd.named Bd.method).1⟩
  refine Runs.via (fun t k => castTop (ef_2 m y0) k) (b2_0 C X0 e0 (Fr.nil n0) (Nat.le_refl 0) (Nat.le_refl 0) y0)
theorem pd_1 : parseMethodDescriptor "(J)J" = some ⟨[.long], some .long⟩ := by decide +kernel
def g0_76 (y5 : Int64) (y7 : Int64) : Int32 := (if y5 = y7 then (1 : Int32) else (0 : Int32))
set_option maxRecDepth 65536 in
set_option maxHeartbeats 4000000 in
theorem b0_76 (C : Ctx p s m meth c Z a0 "com/example/postloop/postloop/UptimeToNanosPinLaw" code 9 (some .boolean) "law") (X0 : Stand p l e room_1 s m args below meth c T0 locs cells slots) (e0 : T0.heap = h0) (N0 : Fr n0 locs) (hk : cells ≤ 0) (hn : slots ≤ 0) (y0 : Int64) (x2 : Int32) (y3 : Int64) (y5 : Int64) (y7 : Int64) :
    Runs p e below s (QP (some (.int (g0_76 y5 y7))) h0 n0) 0 0 T0 (mkF m 76 #[.val (.long y0), .second, .val (.int x2), .val (.long y3), .second, .val (.long y5), .second, .val (.long y7), .second] []) := by
  have ⟨hx, hZ, hw, hby, hml, hown, hret, hlk, hnm⟩ := C
  refine Runs.via (T' := T0) (g' := (mkF m 81 #[.val (.long y0), .second, .val (.int x2), .val (.long y3), .second, .val (.long y5), .second, .val (.long y7), .second] [(.int (lcmpW y5 y7))])) (fun t k => ?_) ?_
  · show Steps p.tables e below (T0.setTop (mkF m 76 #[.val (.long y0), .second, .val (.int x2), .val (.long y3), .second, .val (.long y5), .second, .val (.long y7), .second] [])) t
    refine XS.lload X0.here hx rfl (hb hby at_76) rfl ?_
    show Steps p.tables e below (T0.setTop (mkF m 78 #[.val (.long y0), .second, .val (.int x2), .val (.long y3), .second, .val (.long y5), .second, .val (.long y7), .second] [(.long y5)])) t
    refine XS.lload X0.here hx rfl (hb hby at_78) rfl ?_
    show Steps p.tables e below (T0.setTop (mkF m 80 #[.val (.long y0), .second, .val (.int x2), .val (.long y3), .second, .val (.long y5), .second, .val (.long y7), .second] [(.long y7), (.long y5)])) t
    refine XS.lcmp X0.here hx rfl (hb hby at_80) rfl ?_
    exact k
  by_cases hc1 : y5 = y7
  · refine Runs.via (T' := T0) (g' := (mkF m 84 #[.val (.long y0), .second, .val (.int x2), .val (.long y3), .second, .val (.long y5), .second, .val (.long y7), .second] [])) (fun t k => ?_) ?_
    · show Steps p.tables e below (T0.setTop (mkF m 81 #[.val (.long y0), .second, .val (.int x2), .val (.long y3), .second, .val (.long y5), .second, .val (.long y7), .second] [(.int (lcmpW y5 y7))])) t
      exact XS.ifNo X0.here hx rfl (hb hby at_81) rfl ((if0 _ _).trans (teq ((lw_eq _ _).mpr hc1)).2) k
    refine Runs.via (T' := T0) (g' := (mkF m 89 #[.val (.long y0), .second, .val (.int x2), .val (.long y3), .second, .val (.long y5), .second, .val (.long y7), .second] [(.int (1 : Int32))])) (fun t k => ?_) ?_
    · show Steps p.tables e below (T0.setTop (mkF m 84 #[.val (.long y0), .second, .val (.int x2), .val (.long y3), .second, .val (.long y5), .second, .val (.long y7), .second] [])) t
      refine XS.iconst X0.here hx rfl (hb hby at_84) ?_
      show Steps p.tables e below (T0.setTop (mkF m 85 #[.val (.long y0), .second, .val (.int x2), .val (.long y3), .second, .val (.long y5), .second, .val (.long y7), .second] [(.int (1 : Int32))])) t
      refine XS.goto X0.here hx rfl (pc0 := 85) (pc' := 89) rfl (hb hby at_85) (by decide) (by decide) ?_
      exact k
    refine QP.cast (congrArg (fun z => some (Value.int z)) (show (g0_76 y5 y7) = (1 : Int32) from (if_pos hc1))) ?_
    exact own_retN X0 hx hlk (t := .boolean) hret (by simp) (hb hby at_89) hk hn ⟨rfl, N0, e0⟩
  · refine Runs.via (T' := T0) (g' := (mkF m 88 #[.val (.long y0), .second, .val (.int x2), .val (.long y3), .second, .val (.long y5), .second, .val (.long y7), .second] [])) (fun t k => ?_) ?_
    · show Steps p.tables e below (T0.setTop (mkF m 81 #[.val (.long y0), .second, .val (.int x2), .val (.long y3), .second, .val (.long y5), .second, .val (.long y7), .second] [(.int (lcmpW y5 y7))])) t
      exact XS.ifYes X0.here hx rfl (pc0 := 81) (pc' := 88) rfl (hb hby at_81) rfl ((if0 _ _).trans (feq (fun q => hc1 ((lw_eq _ _).mp q))).2) (by decide) (by decide) k
    refine Runs.via (T' := T0) (g' := (mkF m 89 #[.val (.long y0), .second, .val (.int x2), .val (.long y3), .second, .val (.long y5), .second, .val (.long y7), .second] [(.int (0 : Int32))])) (fun t k => ?_) ?_
    · show Steps p.tables e below (T0.setTop (mkF m 88 #[.val (.long y0), .second, .val (.int x2), .val (.long y3), .second, .val (.long y5), .second, .val (.long y7), .second] [])) t
      refine XS.iconst X0.here hx rfl (hb hby at_88) ?_
      exact k
    refine QP.cast (congrArg (fun z => some (Value.int z)) (show (g0_76 y5 y7) = (0 : Int32) from (if_neg hc1))) ?_
    exact own_retN X0 hx hlk (t := .boolean) hret (by simp) (hb hby at_89) hk hn ⟨rfl, N0, e0⟩
def g0_35 (y3 : Int64) (y5 : Int64) (y7 : Int64) : Int32 := (if y5 < (0 : Int64) then (0 : Int32) else (if (9223372036854 : Int64) < y3 then (g0_76 y5 y7) else (if (y5 - (y5 / (1000000 : Int64)) * (1000000 : Int64)) = (0 : Int64) then (if (y5 / (1000000 : Int64)) = y3 then (g0_76 y5 y7) else (0 : Int32)) else (0 : Int32))))
set_option maxRecDepth 65536 in
set_option maxHeartbeats 4000000 in
theorem b0_35 (C : Ctx p s m meth c Z a0 "com/example/postloop/postloop/UptimeToNanosPinLaw" code 9 (some .boolean) "law") (X0 : Stand p l e room_1 s m args below meth c T0 locs cells slots) (e0 : T0.heap = h0) (N0 : Fr n0 locs) (hk : cells ≤ 0) (hn : slots ≤ 0) (y0 : Int64) (x2 : Int32) (y3 : Int64) (y5 : Int64) (y7 : Int64) :
    Runs p e below s (QP (some (.int (g0_35 y3 y5 y7))) h0 n0) 0 0 T0 (mkF m 35 #[.val (.long y0), .second, .val (.int x2), .val (.long y3), .second, .val (.long y5), .second, .val (.long y7), .second] []) := by
  have ⟨hx, hZ, hw, hby, hml, hown, hret, hlk, hnm⟩ := C
  refine Runs.via (T' := T0) (g' := (mkF m 39 #[.val (.long y0), .second, .val (.int x2), .val (.long y3), .second, .val (.long y5), .second, .val (.long y7), .second] [(.int (lcmpW y5 (0 : Int64)))])) (fun t k => ?_) ?_
  · show Steps p.tables e below (T0.setTop (mkF m 35 #[.val (.long y0), .second, .val (.int x2), .val (.long y3), .second, .val (.long y5), .second, .val (.long y7), .second] [])) t
    refine XS.lload X0.here hx rfl (hb hby at_35) rfl ?_
    show Steps p.tables e below (T0.setTop (mkF m 37 #[.val (.long y0), .second, .val (.int x2), .val (.long y3), .second, .val (.long y5), .second, .val (.long y7), .second] [(.long y5)])) t
    refine XS.lconst X0.here hx rfl (hb hby at_37) ?_
    show Steps p.tables e below (T0.setTop (mkF m 38 #[.val (.long y0), .second, .val (.int x2), .val (.long y3), .second, .val (.long y5), .second, .val (.long y7), .second] [(.long (0 : Int64)), (.long y5)])) t
    refine XS.lcmp X0.here hx rfl (hb hby at_38) rfl ?_
    exact k
  by_cases hc1 : y5 < (0 : Int64)
  · refine Runs.via (T' := T0) (g' := (mkF m 42 #[.val (.long y0), .second, .val (.int x2), .val (.long y3), .second, .val (.long y5), .second, .val (.long y7), .second] [])) (fun t k => ?_) ?_
    · show Steps p.tables e below (T0.setTop (mkF m 39 #[.val (.long y0), .second, .val (.int x2), .val (.long y3), .second, .val (.long y5), .second, .val (.long y7), .second] [(.int (lcmpW y5 (0 : Int64)))])) t
      exact XS.ifNo X0.here hx rfl (hb hby at_39) rfl ((if0 _ _).trans (tlt ((lw_lt _ _).mpr hc1)).2.1) k
    refine Runs.via (T' := T0) (g' := (mkF m 43 #[.val (.long y0), .second, .val (.int x2), .val (.long y3), .second, .val (.long y5), .second, .val (.long y7), .second] [(.int (0 : Int32))])) (fun t k => ?_) ?_
    · show Steps p.tables e below (T0.setTop (mkF m 42 #[.val (.long y0), .second, .val (.int x2), .val (.long y3), .second, .val (.long y5), .second, .val (.long y7), .second] [])) t
      refine XS.iconst X0.here hx rfl (hb hby at_42) ?_
      exact k
    refine QP.cast (congrArg (fun z => some (Value.int z)) (show (g0_35 y3 y5 y7) = (0 : Int32) from (if_pos hc1))) ?_
    exact own_retN X0 hx hlk (t := .boolean) hret (by simp) (hb hby at_43) hk hn ⟨rfl, N0, e0⟩
  · refine Runs.via (T' := T0) (g' := (mkF m 44 #[.val (.long y0), .second, .val (.int x2), .val (.long y3), .second, .val (.long y5), .second, .val (.long y7), .second] [])) (fun t k => ?_) ?_
    · show Steps p.tables e below (T0.setTop (mkF m 39 #[.val (.long y0), .second, .val (.int x2), .val (.long y3), .second, .val (.long y5), .second, .val (.long y7), .second] [(.int (lcmpW y5 (0 : Int64)))])) t
      exact XS.ifYes X0.here hx rfl (pc0 := 39) (pc' := 44) rfl (hb hby at_39) rfl ((if0 _ _).trans (flt (fun q => hc1 ((lw_lt _ _).mp q))).2.1) (by decide) (by decide) k
    refine Runs.via (T' := T0) (g' := (mkF m 49 #[.val (.long y0), .second, .val (.int x2), .val (.long y3), .second, .val (.long y5), .second, .val (.long y7), .second] [(.int (lcmpW y3 (9223372036854 : Int64)))])) (fun t k => ?_) ?_
    · show Steps p.tables e below (T0.setTop (mkF m 44 #[.val (.long y0), .second, .val (.int x2), .val (.long y3), .second, .val (.long y5), .second, .val (.long y7), .second] [])) t
      refine XS.lloadN X0.here hx rfl (hb hby at_44) rfl ?_
      show Steps p.tables e below (T0.setTop (mkF m 45 #[.val (.long y0), .second, .val (.int x2), .val (.long y3), .second, .val (.long y5), .second, .val (.long y7), .second] [(.long y3)])) t
      refine X0.ldc2Long hx hown (mvT hZ (hw _ (List.mem_of_getElem? (i := 12) rfl))) (g := (mkF m 45 #[.val (.long y0), .second, .val (.int x2), .val (.long y3), .second, .val (.long y5), .second, .val (.long y7), .second] [(.long y3)])) rfl (hb hby at_45) _ ?_
      show Steps p.tables e below (T0.setTop (mkF m 48 #[.val (.long y0), .second, .val (.int x2), .val (.long y3), .second, .val (.long y5), .second, .val (.long y7), .second] [(.long (9223372036854 : Int64)), (.long y3)])) t
      refine XS.lcmp X0.here hx rfl (hb hby at_48) rfl ?_
      exact k
    by_cases hc2 : (9223372036854 : Int64) < y3
    · refine Runs.via (T' := T0) (g' := (mkF m 76 #[.val (.long y0), .second, .val (.int x2), .val (.long y3), .second, .val (.long y5), .second, .val (.long y7), .second] [])) (fun t k => ?_) ?_
      · show Steps p.tables e below (T0.setTop (mkF m 49 #[.val (.long y0), .second, .val (.int x2), .val (.long y3), .second, .val (.long y5), .second, .val (.long y7), .second] [(.int (lcmpW y3 (9223372036854 : Int64)))])) t
        exact XS.ifYes X0.here hx rfl (pc0 := 49) (pc' := 76) rfl (hb hby at_49) rfl ((if0 _ _).trans (tlt ((lw_gt _ _).mpr hc2)).2.2.1) (by decide) (by decide) k
      refine QP.cast (congrArg (fun z => some (Value.int z)) (show (g0_35 y3 y5 y7) = (g0_76 y5 y7) from ((if_neg hc1).trans (if_pos hc2)))) ?_
      exact b0_76 C X0 e0 N0 hk hn y0 x2 y3 y5 y7
    · refine Runs.via (T' := T0) (g' := (mkF m 52 #[.val (.long y0), .second, .val (.int x2), .val (.long y3), .second, .val (.long y5), .second, .val (.long y7), .second] [])) (fun t k => ?_) ?_
      · show Steps p.tables e below (T0.setTop (mkF m 49 #[.val (.long y0), .second, .val (.int x2), .val (.long y3), .second, .val (.long y5), .second, .val (.long y7), .second] [(.int (lcmpW y3 (9223372036854 : Int64)))])) t
        exact XS.ifNo X0.here hx rfl (hb hby at_49) rfl ((if0 _ _).trans (flt (fun q => hc2 ((lw_gt _ _).mp q))).2.2.1) k
      refine Runs.via (T' := T0) (g' := (mkF m 60 #[.val (.long y0), .second, .val (.int x2), .val (.long y3), .second, .val (.long y5), .second, .val (.long y7), .second] [(.int (lcmpW (y5 - (y5 / (1000000 : Int64)) * (1000000 : Int64)) (0 : Int64)))])) (fun t k => ?_) ?_
      · show Steps p.tables e below (T0.setTop (mkF m 52 #[.val (.long y0), .second, .val (.int x2), .val (.long y3), .second, .val (.long y5), .second, .val (.long y7), .second] [])) t
        refine XS.lload X0.here hx rfl (hb hby at_52) rfl ?_
        show Steps p.tables e below (T0.setTop (mkF m 54 #[.val (.long y0), .second, .val (.int x2), .val (.long y3), .second, .val (.long y5), .second, .val (.long y7), .second] [(.long y5)])) t
        refine X0.ldc2Long hx hown (mvT hZ (hw _ (List.mem_of_getElem? (i := 13) rfl))) (g := (mkF m 54 #[.val (.long y0), .second, .val (.int x2), .val (.long y3), .second, .val (.long y5), .second, .val (.long y7), .second] [(.long y5)])) rfl (hb hby at_54) _ ?_
        show Steps p.tables e below (T0.setTop (mkF m 57 #[.val (.long y0), .second, .val (.int x2), .val (.long y3), .second, .val (.long y5), .second, .val (.long y7), .second] [(.long (1000000 : Int64)), (.long y5)])) t
        refine XS.lrem X0.here hx rfl (hb hby at_57) rfl (by decide) ?_
        show Steps p.tables e below (T0.setTop (mkF m 58 #[.val (.long y0), .second, .val (.int x2), .val (.long y3), .second, .val (.long y5), .second, .val (.long y7), .second] [(.long (y5 - (y5 / (1000000 : Int64)) * (1000000 : Int64)))])) t
        refine XS.lconst X0.here hx rfl (hb hby at_58) ?_
        show Steps p.tables e below (T0.setTop (mkF m 59 #[.val (.long y0), .second, .val (.int x2), .val (.long y3), .second, .val (.long y5), .second, .val (.long y7), .second] [(.long (0 : Int64)), (.long (y5 - (y5 / (1000000 : Int64)) * (1000000 : Int64)))])) t
        refine XS.lcmp X0.here hx rfl (hb hby at_59) rfl ?_
        exact k
      by_cases hc3 : (y5 - (y5 / (1000000 : Int64)) * (1000000 : Int64)) = (0 : Int64)
      · refine Runs.via (T' := T0) (g' := (mkF m 63 #[.val (.long y0), .second, .val (.int x2), .val (.long y3), .second, .val (.long y5), .second, .val (.long y7), .second] [])) (fun t k => ?_) ?_
        · show Steps p.tables e below (T0.setTop (mkF m 60 #[.val (.long y0), .second, .val (.int x2), .val (.long y3), .second, .val (.long y5), .second, .val (.long y7), .second] [(.int (lcmpW (y5 - (y5 / (1000000 : Int64)) * (1000000 : Int64)) (0 : Int64)))])) t
          exact XS.ifNo X0.here hx rfl (hb hby at_60) rfl ((if0 _ _).trans (teq ((lw_eq _ _).mpr hc3)).2) k
        refine Runs.via (T' := T0) (g' := (mkF m 71 #[.val (.long y0), .second, .val (.int x2), .val (.long y3), .second, .val (.long y5), .second, .val (.long y7), .second] [(.int (lcmpW (y5 / (1000000 : Int64)) y3))])) (fun t k => ?_) ?_
        · show Steps p.tables e below (T0.setTop (mkF m 63 #[.val (.long y0), .second, .val (.int x2), .val (.long y3), .second, .val (.long y5), .second, .val (.long y7), .second] [])) t
          refine XS.lload X0.here hx rfl (hb hby at_63) rfl ?_
          show Steps p.tables e below (T0.setTop (mkF m 65 #[.val (.long y0), .second, .val (.int x2), .val (.long y3), .second, .val (.long y5), .second, .val (.long y7), .second] [(.long y5)])) t
          refine X0.ldc2Long hx hown (mvT hZ (hw _ (List.mem_of_getElem? (i := 13) rfl))) (g := (mkF m 65 #[.val (.long y0), .second, .val (.int x2), .val (.long y3), .second, .val (.long y5), .second, .val (.long y7), .second] [(.long y5)])) rfl (hb hby at_65) _ ?_
          show Steps p.tables e below (T0.setTop (mkF m 68 #[.val (.long y0), .second, .val (.int x2), .val (.long y3), .second, .val (.long y5), .second, .val (.long y7), .second] [(.long (1000000 : Int64)), (.long y5)])) t
          refine XS.ldiv X0.here hx rfl (hb hby at_68) rfl (by decide) ?_
          show Steps p.tables e below (T0.setTop (mkF m 69 #[.val (.long y0), .second, .val (.int x2), .val (.long y3), .second, .val (.long y5), .second, .val (.long y7), .second] [(.long (y5 / (1000000 : Int64)))])) t
          refine XS.lloadN X0.here hx rfl (hb hby at_69) rfl ?_
          show Steps p.tables e below (T0.setTop (mkF m 70 #[.val (.long y0), .second, .val (.int x2), .val (.long y3), .second, .val (.long y5), .second, .val (.long y7), .second] [(.long y3), (.long (y5 / (1000000 : Int64)))])) t
          refine XS.lcmp X0.here hx rfl (hb hby at_70) rfl ?_
          exact k
        by_cases hc4 : (y5 / (1000000 : Int64)) = y3
        · refine Runs.via (T' := T0) (g' := (mkF m 76 #[.val (.long y0), .second, .val (.int x2), .val (.long y3), .second, .val (.long y5), .second, .val (.long y7), .second] [])) (fun t k => ?_) ?_
          · show Steps p.tables e below (T0.setTop (mkF m 71 #[.val (.long y0), .second, .val (.int x2), .val (.long y3), .second, .val (.long y5), .second, .val (.long y7), .second] [(.int (lcmpW (y5 / (1000000 : Int64)) y3))])) t
            exact XS.ifYes X0.here hx rfl (pc0 := 71) (pc' := 76) rfl (hb hby at_71) rfl ((if0 _ _).trans (teq ((lw_eq _ _).mpr hc4)).1) (by decide) (by decide) k
          refine QP.cast (congrArg (fun z => some (Value.int z)) (show (g0_35 y3 y5 y7) = (g0_76 y5 y7) from ((if_neg hc1).trans ((if_neg hc2).trans ((if_pos hc3).trans (if_pos hc4)))))) ?_
          exact b0_76 C X0 e0 N0 hk hn y0 x2 y3 y5 y7
        · refine Runs.via (T' := T0) (g' := (mkF m 74 #[.val (.long y0), .second, .val (.int x2), .val (.long y3), .second, .val (.long y5), .second, .val (.long y7), .second] [])) (fun t k => ?_) ?_
          · show Steps p.tables e below (T0.setTop (mkF m 71 #[.val (.long y0), .second, .val (.int x2), .val (.long y3), .second, .val (.long y5), .second, .val (.long y7), .second] [(.int (lcmpW (y5 / (1000000 : Int64)) y3))])) t
            exact XS.ifNo X0.here hx rfl (hb hby at_71) rfl ((if0 _ _).trans (feq (fun q => hc4 ((lw_eq _ _).mp q))).1) k
          refine Runs.via (T' := T0) (g' := (mkF m 75 #[.val (.long y0), .second, .val (.int x2), .val (.long y3), .second, .val (.long y5), .second, .val (.long y7), .second] [(.int (0 : Int32))])) (fun t k => ?_) ?_
          · show Steps p.tables e below (T0.setTop (mkF m 74 #[.val (.long y0), .second, .val (.int x2), .val (.long y3), .second, .val (.long y5), .second, .val (.long y7), .second] [])) t
            refine XS.iconst X0.here hx rfl (hb hby at_74) ?_
            exact k
          refine QP.cast (congrArg (fun z => some (Value.int z)) (show (g0_35 y3 y5 y7) = (0 : Int32) from ((if_neg hc1).trans ((if_neg hc2).trans ((if_pos hc3).trans (if_neg hc4)))))) ?_
          exact own_retN X0 hx hlk (t := .boolean) hret (by simp) (hb hby at_75) hk hn ⟨rfl, N0, e0⟩
      · refine Runs.via (T' := T0) (g' := (mkF m 74 #[.val (.long y0), .second, .val (.int x2), .val (.long y3), .second, .val (.long y5), .second, .val (.long y7), .second] [])) (fun t k => ?_) ?_
        · show Steps p.tables e below (T0.setTop (mkF m 60 #[.val (.long y0), .second, .val (.int x2), .val (.long y3), .second, .val (.long y5), .second, .val (.long y7), .second] [(.int (lcmpW (y5 - (y5 / (1000000 : Int64)) * (1000000 : Int64)) (0 : Int64)))])) t
          exact XS.ifYes X0.here hx rfl (pc0 := 60) (pc' := 74) rfl (hb hby at_60) rfl ((if0 _ _).trans (feq (fun q => hc3 ((lw_eq _ _).mp q))).2) (by decide) (by decide) k
        refine Runs.via (T' := T0) (g' := (mkF m 75 #[.val (.long y0), .second, .val (.int x2), .val (.long y3), .second, .val (.long y5), .second, .val (.long y7), .second] [(.int (0 : Int32))])) (fun t k => ?_) ?_
        · show Steps p.tables e below (T0.setTop (mkF m 74 #[.val (.long y0), .second, .val (.int x2), .val (.long y3), .second, .val (.long y5), .second, .val (.long y7), .second] [])) t
          refine XS.iconst X0.here hx rfl (hb hby at_74) ?_
          exact k
        refine QP.cast (congrArg (fun z => some (Value.int z)) (show (g0_35 y3 y5 y7) = (0 : Int32) from ((if_neg hc1).trans ((if_neg hc2).trans (if_neg hc3))))) ?_
        exact own_retN X0 hx hlk (t := .boolean) hret (by simp) (hb hby at_75) hk hn ⟨rfl, N0, e0⟩
def g0_0 (y0 : Int64) (x2 : Int32) : Int32 := (if (9223372036854 : Int64) < (f1 y0 x2) then (g0_35 (f1 y0 x2) (f2 (f1 y0 x2)) (9223372036854775807 : Int64)) else (g0_35 (f1 y0 x2) (f2 (f1 y0 x2)) ((f1 y0 x2) * (1000000 : Int64))))
set_option maxRecDepth 65536 in
set_option maxHeartbeats 4000000 in
theorem b0_0 (C : Ctx p s m meth c Z a0 "com/example/postloop/postloop/UptimeToNanosPinLaw" code 9 (some .boolean) "law") (X0 : Stand p l e room_1 s m args below meth c T0 locs cells slots) (e0 : T0.heap = h0) (N0 : Fr n0 locs) (hk : cells ≤ 0) (hn : slots ≤ 0) (y0 : Int64) (x2 : Int32) :
    Runs p e below s (QP (some (.int (g0_0 y0 x2))) h0 n0) 0 0 T0 (mkF m 0 #[.val (.long y0), .second, .val (.int x2), .unset, .unset, .unset, .unset, .unset, .unset] []) := by
  have ⟨hx, hZ, hw, hby, hml, hown, hret, hlk, hnm⟩ := C
  refine Runs.via (T' := T0) (g' := (mkF m 2 #[.val (.long y0), .second, .val (.int x2), .unset, .unset, .unset, .unset, .unset, .unset] [(.int x2), (.long y0)])) (fun t k => ?_) ?_
  · show Steps p.tables e below (T0.setTop (mkF m 0 #[.val (.long y0), .second, .val (.int x2), .unset, .unset, .unset, .unset, .unset, .unset] [])) t
    refine XS.lloadN X0.here hx rfl (hb hby at_0) rfl ?_
    show Steps p.tables e below (T0.setTop (mkF m 1 #[.val (.long y0), .second, .val (.int x2), .unset, .unset, .unset, .unset, .unset, .unset] [(.long y0)])) t
    refine XS.iloadN X0.here hx rfl (hb hby at_1) rfl ?_
    exact k
  obtain ⟨_, _, ⟨T1, L1, k1, n1⟩, -, X1, ⟨Lc1, hQ1, l1, y1, z1⟩, st1⟩ := Jvm.LawKit.callS X0 hx (y := (⟨"com/example/postloop/postloop/UptimeToNanosPinLaw", "pick", "(JI)J"⟩ : MethodName)) hown (mvT hZ (hw _ (List.mem_of_getElem? (i := 0) rfl))) (mvT hZ (hw _ (List.mem_of_getElem? (i := 1) rfl))) (mvT hZ (hw _ (List.mem_of_getElem? (i := 2) rfl))) (mvT hZ (hw _ (List.mem_of_getElem? (i := 3) rfl))) (by decide) (backOf (W := 0) (rm1 l Z a0 hw [] y0 x2 h0 n0) hZ (hw _ (List.mem_of_getElem? (i := 3) rfl)) (hw _ (List.mem_of_getElem? (i := 2) rfl)) (by decide) (by decide)) (g := (mkF m 2 #[.val (.long y0), .second, .val (.int x2), .unset, .unset, .unset, .unset, .unset, .unset] [(.int x2), (.long y0)])) rfl (by rw [hml]; rfl) (argsL := [(.long y0), (.int x2)]) (rest := []) (lenOf pd_0 rfl) rfl (by show 2 * 0 + _ ≤ _; exact Nat.le_of_eq rfl) (hb hby at_2) (fun _ _ => ⟨rfl, e0, (Nat.le_trans hk (by decide)), (Nat.le_trans hn (by decide))⟩)
  dsimp only [Pt.U, Pt.locs, Pt.cells, Pt.slots] at X1 l1 y1 z1 st1 hQ1
  subst l1 y1 z1
  obtain ⟨rfl, N1q, e1⟩ := hQ1
  have N1 := Fr.app N0 N1q
  refine Runs.via (T' := T1) (g' := (mkF m 5 #[.val (.long y0), .second, .val (.int x2), .unset, .unset, .unset, .unset, .unset, .unset] [(.long (f1 y0 x2))])) (fun t k => st1 _ k) ?_
  refine Runs.via (T' := T1) (g' := (mkF m 7 #[.val (.long y0), .second, .val (.int x2), .val (.long (f1 y0 x2)), .second, .unset, .unset, .unset, .unset] [(.long (f1 y0 x2))])) (fun t k => ?_) ?_
  · show Steps p.tables e below (T1.setTop (mkF m 5 #[.val (.long y0), .second, .val (.int x2), .unset, .unset, .unset, .unset, .unset, .unset] [(.long (f1 y0 x2))])) t
    refine XS.lstoreN X1.here hx rfl (hb hby at_5) rfl (l' := #[.val (.long y0), .second, .val (.int x2), .val (.long (f1 y0 x2)), .second, .unset, .unset, .unset, .unset]) rfl ?_
    show Steps p.tables e below (T1.setTop (mkF m 6 #[.val (.long y0), .second, .val (.int x2), .val (.long (f1 y0 x2)), .second, .unset, .unset, .unset, .unset] [])) t
    refine XS.lloadN X1.here hx rfl (hb hby at_6) rfl ?_
    exact k
  obtain ⟨_, _, ⟨T2, L2, k2, n2⟩, -, X2, ⟨Lc2, hQ2, l2, y2, z2⟩, st2⟩ := Jvm.LawKit.callS X1 hx (y := (⟨"com/example/postloop/postloop/Uptime", "toNanos", "(J)J"⟩ : MethodName)) hown (mvT hZ (hw _ (List.mem_of_getElem? (i := 6) rfl))) (mvT hZ (hw _ (List.mem_of_getElem? (i := 7) rfl))) (mvT hZ (hw _ (List.mem_of_getElem? (i := 8) rfl))) (mvT hZ (hw _ (List.mem_of_getElem? (i := 9) rfl))) (by decide) (backOf (W := 0) (rm2 l Z a0 hw [] (f1 y0 x2) h0 n0) hZ (hw _ (List.mem_of_getElem? (i := 9) rfl)) (hw _ (List.mem_of_getElem? (i := 8) rfl)) (by decide) (by decide)) (g := (mkF m 7 #[.val (.long y0), .second, .val (.int x2), .val (.long (f1 y0 x2)), .second, .unset, .unset, .unset, .unset] [(.long (f1 y0 x2))])) rfl (by rw [hml]; rfl) (argsL := [(.long (f1 y0 x2))]) (rest := []) (lenOf pd_1 rfl) rfl (by show 2 * 0 + _ ≤ _; exact Nat.le_of_eq rfl) (hb hby at_7) (fun _ _ => ⟨rfl, e1, (Nat.le_trans hk (by decide)), (Nat.le_trans hn (by decide))⟩)
  dsimp only [Pt.U, Pt.locs, Pt.cells, Pt.slots] at X2 l2 y2 z2 st2 hQ2
  subst l2 y2 z2
  obtain ⟨rfl, N2q, e2⟩ := hQ2
  have N2 := Fr.app N1 N2q
  refine Runs.via (T' := T2) (g' := (mkF m 10 #[.val (.long y0), .second, .val (.int x2), .val (.long (f1 y0 x2)), .second, .unset, .unset, .unset, .unset] [(.long (f2 (f1 y0 x2)))])) (fun t k => st2 _ k) ?_
  refine Runs.via (T' := T2) (g' := (mkF m 17 #[.val (.long y0), .second, .val (.int x2), .val (.long (f1 y0 x2)), .second, .val (.long (f2 (f1 y0 x2))), .second, .unset, .unset] [(.int (lcmpW (f1 y0 x2) (9223372036854 : Int64)))])) (fun t k => ?_) ?_
  · show Steps p.tables e below (T2.setTop (mkF m 10 #[.val (.long y0), .second, .val (.int x2), .val (.long (f1 y0 x2)), .second, .unset, .unset, .unset, .unset] [(.long (f2 (f1 y0 x2)))])) t
    refine XS.lstore X2.here hx rfl (hb hby at_10) rfl (l' := #[.val (.long y0), .second, .val (.int x2), .val (.long (f1 y0 x2)), .second, .val (.long (f2 (f1 y0 x2))), .second, .unset, .unset]) rfl ?_
    show Steps p.tables e below (T2.setTop (mkF m 12 #[.val (.long y0), .second, .val (.int x2), .val (.long (f1 y0 x2)), .second, .val (.long (f2 (f1 y0 x2))), .second, .unset, .unset] [])) t
    refine XS.lloadN X2.here hx rfl (hb hby at_12) rfl ?_
    show Steps p.tables e below (T2.setTop (mkF m 13 #[.val (.long y0), .second, .val (.int x2), .val (.long (f1 y0 x2)), .second, .val (.long (f2 (f1 y0 x2))), .second, .unset, .unset] [(.long (f1 y0 x2))])) t
    refine X2.ldc2Long hx hown (mvT hZ (hw _ (List.mem_of_getElem? (i := 12) rfl))) (g := (mkF m 13 #[.val (.long y0), .second, .val (.int x2), .val (.long (f1 y0 x2)), .second, .val (.long (f2 (f1 y0 x2))), .second, .unset, .unset] [(.long (f1 y0 x2))])) rfl (hb hby at_13) _ ?_
    show Steps p.tables e below (T2.setTop (mkF m 16 #[.val (.long y0), .second, .val (.int x2), .val (.long (f1 y0 x2)), .second, .val (.long (f2 (f1 y0 x2))), .second, .unset, .unset] [(.long (9223372036854 : Int64)), (.long (f1 y0 x2))])) t
    refine XS.lcmp X2.here hx rfl (hb hby at_16) rfl ?_
    exact k
  by_cases hc3 : (9223372036854 : Int64) < (f1 y0 x2)
  · refine Runs.via (T' := T2) (g' := (mkF m 30 #[.val (.long y0), .second, .val (.int x2), .val (.long (f1 y0 x2)), .second, .val (.long (f2 (f1 y0 x2))), .second, .unset, .unset] [])) (fun t k => ?_) ?_
    · show Steps p.tables e below (T2.setTop (mkF m 17 #[.val (.long y0), .second, .val (.int x2), .val (.long (f1 y0 x2)), .second, .val (.long (f2 (f1 y0 x2))), .second, .unset, .unset] [(.int (lcmpW (f1 y0 x2) (9223372036854 : Int64)))])) t
      exact XS.ifYes X2.here hx rfl (pc0 := 17) (pc' := 30) rfl (hb hby at_17) rfl ((if0 _ _).trans (tlt ((lw_gt _ _).mpr hc3)).2.2.1) (by decide) (by decide) k
    refine Runs.via (T' := T2) (g' := (mkF m 35 #[.val (.long y0), .second, .val (.int x2), .val (.long (f1 y0 x2)), .second, .val (.long (f2 (f1 y0 x2))), .second, .val (.long (9223372036854775807 : Int64)), .second] [])) (fun t k => ?_) ?_
    · show Steps p.tables e below (T2.setTop (mkF m 30 #[.val (.long y0), .second, .val (.int x2), .val (.long (f1 y0 x2)), .second, .val (.long (f2 (f1 y0 x2))), .second, .unset, .unset] [])) t
      refine X2.ldc2Long hx hown (mvT hZ (hw _ (List.mem_of_getElem? (i := 4) rfl))) (g := (mkF m 30 #[.val (.long y0), .second, .val (.int x2), .val (.long (f1 y0 x2)), .second, .val (.long (f2 (f1 y0 x2))), .second, .unset, .unset] [])) rfl (hb hby at_30) _ ?_
      show Steps p.tables e below (T2.setTop (mkF m 33 #[.val (.long y0), .second, .val (.int x2), .val (.long (f1 y0 x2)), .second, .val (.long (f2 (f1 y0 x2))), .second, .unset, .unset] [(.long (9223372036854775807 : Int64))])) t
      refine XS.lstore X2.here hx rfl (hb hby at_33) rfl (l' := #[.val (.long y0), .second, .val (.int x2), .val (.long (f1 y0 x2)), .second, .val (.long (f2 (f1 y0 x2))), .second, .val (.long (9223372036854775807 : Int64)), .second]) rfl ?_
      exact k
    refine QP.cast (congrArg (fun z => some (Value.int z)) (show (g0_0 y0 x2) = (g0_35 (f1 y0 x2) (f2 (f1 y0 x2)) (9223372036854775807 : Int64)) from (if_pos hc3))) ?_
    exact b0_35 C X2 e2 N2 hk hn y0 x2 (f1 y0 x2) (f2 (f1 y0 x2)) (9223372036854775807 : Int64)
  · refine Runs.via (T' := T2) (g' := (mkF m 20 #[.val (.long y0), .second, .val (.int x2), .val (.long (f1 y0 x2)), .second, .val (.long (f2 (f1 y0 x2))), .second, .unset, .unset] [])) (fun t k => ?_) ?_
    · show Steps p.tables e below (T2.setTop (mkF m 17 #[.val (.long y0), .second, .val (.int x2), .val (.long (f1 y0 x2)), .second, .val (.long (f2 (f1 y0 x2))), .second, .unset, .unset] [(.int (lcmpW (f1 y0 x2) (9223372036854 : Int64)))])) t
      exact XS.ifNo X2.here hx rfl (hb hby at_17) rfl ((if0 _ _).trans (flt (fun q => hc3 ((lw_gt _ _).mp q))).2.2.1) k
    refine Runs.via (T' := T2) (g' := (mkF m 35 #[.val (.long y0), .second, .val (.int x2), .val (.long (f1 y0 x2)), .second, .val (.long (f2 (f1 y0 x2))), .second, .val (.long ((f1 y0 x2) * (1000000 : Int64))), .second] [])) (fun t k => ?_) ?_
    · show Steps p.tables e below (T2.setTop (mkF m 20 #[.val (.long y0), .second, .val (.int x2), .val (.long (f1 y0 x2)), .second, .val (.long (f2 (f1 y0 x2))), .second, .unset, .unset] [])) t
      refine XS.lloadN X2.here hx rfl (hb hby at_20) rfl ?_
      show Steps p.tables e below (T2.setTop (mkF m 21 #[.val (.long y0), .second, .val (.int x2), .val (.long (f1 y0 x2)), .second, .val (.long (f2 (f1 y0 x2))), .second, .unset, .unset] [(.long (f1 y0 x2))])) t
      refine X2.ldc2Long hx hown (mvT hZ (hw _ (List.mem_of_getElem? (i := 13) rfl))) (g := (mkF m 21 #[.val (.long y0), .second, .val (.int x2), .val (.long (f1 y0 x2)), .second, .val (.long (f2 (f1 y0 x2))), .second, .unset, .unset] [(.long (f1 y0 x2))])) rfl (hb hby at_21) _ ?_
      show Steps p.tables e below (T2.setTop (mkF m 24 #[.val (.long y0), .second, .val (.int x2), .val (.long (f1 y0 x2)), .second, .val (.long (f2 (f1 y0 x2))), .second, .unset, .unset] [(.long (1000000 : Int64)), (.long (f1 y0 x2))])) t
      refine XS.lmul X2.here hx rfl (hb hby at_24) rfl ?_
      show Steps p.tables e below (T2.setTop (mkF m 25 #[.val (.long y0), .second, .val (.int x2), .val (.long (f1 y0 x2)), .second, .val (.long (f2 (f1 y0 x2))), .second, .unset, .unset] [(.long ((f1 y0 x2) * (1000000 : Int64)))])) t
      refine XS.lstore X2.here hx rfl (hb hby at_25) rfl (l' := #[.val (.long y0), .second, .val (.int x2), .val (.long (f1 y0 x2)), .second, .val (.long (f2 (f1 y0 x2))), .second, .val (.long ((f1 y0 x2) * (1000000 : Int64))), .second]) rfl ?_
      show Steps p.tables e below (T2.setTop (mkF m 27 #[.val (.long y0), .second, .val (.int x2), .val (.long (f1 y0 x2)), .second, .val (.long (f2 (f1 y0 x2))), .second, .val (.long ((f1 y0 x2) * (1000000 : Int64))), .second] [])) t
      refine XS.goto X2.here hx rfl (pc0 := 27) (pc' := 35) rfl (hb hby at_27) (by decide) (by decide) ?_
      exact k
    refine QP.cast (congrArg (fun z => some (Value.int z)) (show (g0_0 y0 x2) = (g0_35 (f1 y0 x2) (f2 (f1 y0 x2)) ((f1 y0 x2) * (1000000 : Int64))) from (if_neg hc3))) ?_
    exact b0_35 C X2 e2 N2 hk hn y0 x2 (f1 y0 x2) (f2 (f1 y0 x2)) ((f1 y0 x2) * (1000000 : Int64))
def f0 (y0 : Int64) (x2 : Int32) : Int32 := g0_0 y0 x2
theorem pn_0 : plainName "com/example/postloop/postloop/UptimeToNanosPinLaw" = true := by first | (simp [plainName, overriddenIn]; done) | decide +kernel
theorem ef_0 (m : MethodId) (y0 : Int64) (x2 : Int32) : entryFrame m #[(.long y0), (.int x2)] maxLocals = mkF m 0 #[.val (.long y0), .second, .val (.int x2), .unset, .unset, .unset, .unset, .unset, .unset] [] := by first | (simp [entryFrame, mkF, argsToLocals, Value.category, maxLocals]; done) | rfl
set_option maxRecDepth 65536 in
set_option maxHeartbeats 4000000 in
theorem rm0 (l : Launch) (Z : State) (a0 : Array Value) (hw : ∀ d ∈ tables_1, d.before a0 Z = true) (ws : List Jvm.Cond) (y0 : Int64) (x2 : Int32) (h0 : Heap) (n0 : Nat) :
    MetFree l x (head1 (Jvm.Cond.code x code maxLocals ret :: ws) room_1) (fun a U => a = #[(.long y0), (.int x2)] ∧ Z.Warmed39 U.vm ∧ U.heap = h0) (fun _ _ _ _ _ => True) (fun _ U o U' => ∃ v L, o = .returned v ∧ QP (some (.int (f0 y0 x2))) h0 n0 v U'.heap L ∧ FrameEnd U o U' L 0 0) := by
  refine MetFree.of_bodySF (plainFor_of_name pn_0) hisR ?_
  intro p e s m args below meth c s₁ Bd hml0 hP hK
  obtain ⟨rfl, hZ, hh⟩ := hP
  have X0 : Stand p l e room_1 s m #[(.long y0), (.int x2)] below meth c s₁ [] 0 0 := Stand.of_body Bd
  have e0 : s₁.heap = h0 := by rw [← hh, Bd.state]; rfl
  have C : Ctx p s m meth c Z a0 "com/example/postloop/postloop/UptimeToNanosPinLaw" code 9 (some .boolean) "law" := ⟨Bd.exec, hZ, hw, Bd.bytes, hml0, findClass_of_methodNamed Bd.named, Bd.returns, BodyLoose.notSynchronized Bd, (name_of_methodNamed Bd.named Bd.method).1⟩
  refine Runs.via (fun t k => castTop (ef_0 m y0 x2) k) (b0_0 C X0 e0 (Fr.nil n0) (Nat.le_refl 0) (Nat.le_refl 0) y0 x2)
end Own
theorem own_m (m : Int64) (h0 : 0 ≤ m.toInt) : (if (9223372036854 : Int64) < m then g0_35 m (f2 m) (9223372036854775807 : Int64) else g0_35 m (f2 m) (m * (1000000 : Int64))) = 1 := by
  by_cases h : (9223372036854 : Int64) < m
  · have a3 : ¬ (9223372036854775807 : Int64) < (0 : Int64) := by decide
    unfold g0_35 f2 g2_0 g0_76
    simp only [if_pos h, if_neg a3]; simp
  · have h' : m.toInt ≤ 9223372036854 := by
      rw [Int64.lt_iff_toInt_lt] at h
      have : (9223372036854 : Int64).toInt = 9223372036854 := by decide
      omega
    have e := c_lmul m 1000000
    have k : (1000000 : Int64).toInt = 1000000 := by decide
    rw [k] at e
    have r := rng64 (m * 1000000)
    have v : (m * 1000000).toInt = m.toInt * 1000000 := by omega
    have q1 := (c_lrem (m * 1000000) 1000000 1000000 k).1 (by omega)
    have q2 := (c_ldiv (m * 1000000) 1000000 1000000 k (by decide)).1 (by omega)
    have z0 : (0 : Int64).toInt = 0 := by decide
    have a1 : (m * 1000000) - (m * 1000000) / 1000000 * 1000000 = 0 := Int64.toInt_inj.mp (by rw [q1, z0]; omega)
    have a2 : (m * 1000000) / 1000000 = m := Int64.toInt_inj.mp (by rw [q2]; omega)
    have a3 : ¬ (m * 1000000) < (0 : Int64) := by rw [Int64.lt_iff_toInt_lt]; omega
    unfold g0_35 f2 g2_0 g0_76
    simp only [if_neg h, if_neg a3, if_pos a1, if_pos a2]; simp
theorem own_pick (y0 : Int64) (x2 : Int32) : 0 ≤ (f1 y0 x2).toInt := by
  have hm : 0 ≤ (y0 &&& (9223372036854775807 : Int64)).toInt := by
    rw [c_maskL y0 9223372036854775807 63 (by decide) (by decide)]; exact Int.emod_nonneg _ (by decide)
  have hm2 : 0 ≤ (y0 &&& (65535 : Int64)).toInt := by
    rw [c_maskL y0 65535 16 (by decide) (by decide)]; exact Int.emod_nonneg _ (by decide)
  unfold f1 g1_0
  split
  · exact hm
  · split
    · generalize ((x2.toUInt32 >>> ((2 : Int32) &&& 31).toUInt32).toInt32) = u
      have h1 := c_mask u 3 2 (by decide) (by decide)
      have h2 := c_i2l (u &&& (3 : Int32))
      have h3 := c_ladd (9223372036854 : Int64) (Int32.toInt64 (u &&& (3 : Int32)))
      have h4 := c_lsub ((9223372036854 : Int64) + (Int32.toInt64 (u &&& (3 : Int32)))) 2
      have k1 : (9223372036854 : Int64).toInt = 9223372036854 := by decide
      have k2 : (2 : Int64).toInt = 2 := by decide
      have r1 := rng64 ((9223372036854 : Int64) + (Int32.toInt64 (u &&& (3 : Int32))))
      have r2 := rng64 ((9223372036854 : Int64) + (Int32.toInt64 (u &&& (3 : Int32))) - 2)
      have h5 : 0 ≤ (u &&& (3 : Int32)).toInt ∧ (u &&& (3 : Int32)).toInt < 4 := by rw [h1]; exact ⟨Int.emod_nonneg _ (by decide), Int.emod_lt_of_pos _ (by decide)⟩
      rw [k1] at h3
      rw [k2] at h4
      omega
    · split
      · have k : (9223372036855 : Int64).toInt = 9223372036855 := by decide
        rw [(c_lrem (y0 &&& (9223372036854775807 : Int64)) 9223372036855 9223372036855 k).1 hm]; exact Int.emod_nonneg _ (by decide)
      · exact hm2
theorem own_law (y0 : Int64) (x2 : Int32) : f0 y0 x2 = 1 := by
  unfold f0 g0_0
  exact own_m (f1 y0 x2) (own_pick y0 x2)
set_option maxRecDepth 65536 in
set_option maxHeartbeats 40000000 in
theorem comes_1 {Post : Tables → Env → Array Value → State → Outcome → State → Prop} (hpost : ∀ tb e args s v u, (limb_1_1.after args s (.returned v) u = true ∧ limb_1_2.after args s (.returned v) u = true ∧ True) → FrameEnd s (.returned v) u (Jvm.fieldLocs frame_1_writes args s ++ Jvm.arrayLocs frame_1_arrays args s ++ Jvm.staticLocs frame_1_statics s) 0 0 → Post tb e args s (.returned v) u) :
    ArmFor flags0 classFile x code maxLocals ret World_1 tables_1 room_1 Calls_1 rest_1 Pre_1 Post := by
  intro l hfl _ _ p e ha hc hk s m args below hf hA hF happ hP
  obtain ⟨hcalls, hrest, hpre⟩ := hP
  obtain ⟨-, -, -, hnamed, -, -, -, hat⟩ := (Spec.applies_iff hf).mp happ
  obtain ⟨hg, hn⟩ := and_e (Cond.before_iff.mp (show (Jvm.Cond.and given_1 narrow_1).before args s = true from hpre))
  obtain ⟨g1, g2⟩ := and_e hg
  obtain ⟨g3, g4⟩ := and_e g2
  obtain ⟨w0, w1, rfl⟩ : ∃ w0 w1 : Value, args = #[w0, w1] := by
    have hs : args.size = 2 := by simpa [Cond.value, given_1] using g1
    obtain ⟨L⟩ := args
    match L, hs with
    | [w0, w1], _ => exact ⟨w0, w1, rfl⟩
  have hw := fun d (hd : d ∈ tables_1) => atoms_spec (ws := Jvm.Cond.code x code maxLocals ret :: tables_1) hat d (List.mem_cons_of_mem _ hd)
  obtain ⟨i0, ei0⟩ := isL_v g3
  obtain rfl : w0 = (.long i0) := Option.some.inj ei0
  obtain ⟨i1, ei1⟩ := is_v g4
  obtain rfl : w1 = (.int i1) := Option.some.inj ei1
  obtain ⟨n, o, h1, h2, h3, _, L, rfl, ⟨rfl, N, -⟩, hq⟩ := rm0 l s _ hw tables_1 i0 i1 s.heap s.heap.size p e ha hc hk s m _ below hf ((Spec.applies_iff_loose hf).mp happ).1 ⟨rfl, State.Warmed39.refl s, rfl⟩ trivial
  have hone := own_law i0 i1
  rw [hone] at h3 hq
  refine ⟨n, _, h1, h2, h3, hpost _ _ _ _ _ _ ⟨Cond.after_iff.mpr rfl, Cond.after_iff.mpr (eq_i res_at (Term.int_eval (1)) rfl), trivial⟩ ⟨hq.1, hq.2.1, (hq.2.2.sift fun y hy => Or.inr (N y hy)).mono (by decide) (by decide)⟩⟩
theorem main_1_1 : Claimed_1_1 := comes_1 fun _ _ _ _ _ _ h hF => ⟨h.1, hF⟩
theorem main_1_2 : Claimed_1_2 := comes_1 fun _ _ _ _ _ _ h hF => ⟨h.2.1, hF⟩
end Jvm.Pilot.@@N@@
namespace Jvm.Pilot.@@N@@
open Jvm Jvm.ClassFile Sem Op Lib Jvm.Free Jvm.Stand Jvm.Pilot.@@N@@.Jvm.D
/-! MADE BY PROGRAM (witnessworld.py) out of the Statement's table words and the real class files: 9 classes; the members and pool entries that the words name. The judged class is class 1, her method 2. -/
namespace start1
open Jvm.ClassFile
def u (s : String) : CpInfo := .utf8 (stringToUtf16 s)
/-- a pool by its gaps: so many unusable entries, then the entry; so many at the end -/
def gap : Nat → List CpInfo → List CpInfo
  | 0, r => r
  | n + 1, r => .unusable :: gap n r
def poolList (es : List (Nat × CpInfo)) (last : Nat) : List CpInfo := es.foldr (fun e r => gap e.1 (e.2 :: r)) (gap last [])
def pool (es : List (Nat × CpInfo)) (last : Nat) : Array CpInfo := ⟨poolList es last⟩
def fileOf (pool : Array CpInfo) (this : Nat) (attrs : Array Attribute := #[]) (ms : Array MethodInfo := #[]) (fl : Nat := 33) (sup : Nat := 0) (ifs : Array Nat := #[]) (fds : Array FieldInfo := #[]) : ClassFile where
  minorVersion := 0
  majorVersion := 65
  constantPool := pool
  accessFlags := fl
  thisClass := this
  superClass := sup
  interfaces := ifs
  fields := fds
  methods := ms
  attributes := attrs
def plain (name : String) (sup : Option ClassId) : Class where
  name := name
  kind := .ordinary
  loader := none
  accessFlags := 33
  super := sup
  interfaces := #[]
  cf := none
  fields := #[]
  methods := #[]
  instanceTypes := #[]
  staticTypes := #[]
  resolved := #[]
  callSites := []
  init := .initialized
  statics := none
  mirror := none

def pool0 : Array CpInfo := pool [(5, u "<init>"), (0, u "()V"), (1, .class_ 10), (1, u "java/lang/Object")] 113

def k0m0 : Method := { name := "<init>", desc := "()V", sig := { parameters := [], returnType := none }, accessFlags := 1, code := none }
/-- java/lang/Object -/
def k0 : Class := { plain "java/lang/Object" none with
  accessFlags := 33
  interfaces := #[]
  cf := some (fileOf pool0 8 #[] #[{ accessFlags := 1, nameIndex := 5, descriptorIndex := 6, attributes := #[] }] 33 0 #[] #[])
  fields := #[]
  methods := #[k0m0]
  instanceTypes := #[]
  staticTypes := #[]
  resolved := Array.replicate 124 none
  statics := none }

def pool1 : Array CpInfo := pool [(2, .class_ 4), (1, u "java/lang/Object"), (0, u "<init>"), (0, u "()V"), (2, .long 9223372036854775807), (1, .class_ 12), (0, u "com/example/postloop/postloop/UptimeToNanosPinLaw"), (0, .long 9223372036854), (1, .long 2), (1, .long 9223372036855), (1, .long 65535), (1, .methodref 11 22), (0, .nameAndType 23 24), (0, u "pick"), (0, u "(JI)J"), (0, .methodref 26 27), (0, .class_ 28), (0, .nameAndType 29 30), (0, u "com/example/postloop/postloop/Uptime"), (0, u "toNanos"), (0, u "(J)J"), (0, .long 1000000), (1, u "LAST_FITTING"), (0, u "J"), (4, u "law"), (0, u "(JI)Z")] 2

def k1m0 : Method := { name := "<init>", desc := "()V", sig := { parameters := [], returnType := none }, accessFlags := 1, code := none }
def k1c1 : Code := { maxStack := 4, maxLocals := 4, code := method_2_code, exceptionTable := #[], attributes := #[] }
def k1m1 : Method := { name := "pick", desc := "(JI)J", sig := { parameters := [.long, .int], returnType := some .long }, accessFlags := 10, code := some k1c1 }
def k1c2 : Code := { maxStack := 4, maxLocals := 9, code := code, exceptionTable := #[], attributes := #[] }
def k1m2 : Method := { name := "law", desc := "(JI)Z", sig := { parameters := [.long, .int], returnType := some .boolean }, accessFlags := 9, code := some k1c2 }
/-- com/example/postloop/postloop/UptimeToNanosPinLaw -/
def k1 : Class := { plain "com/example/postloop/postloop/UptimeToNanosPinLaw" (some 0) with
  accessFlags := 49
  interfaces := #[]
  cf := some (fileOf pool1 11 #[] #[{ accessFlags := 1, nameIndex := 5, descriptorIndex := 6, attributes := #[] }, { accessFlags := 10, nameIndex := 23, descriptorIndex := 24, attributes := #[] }, { accessFlags := 9, nameIndex := 39, descriptorIndex := 40, attributes := #[] }] 49 2 #[] #[{ accessFlags := 26, nameIndex := 33, descriptorIndex := 34, attributes := #[] }])
  fields := #[{ name := "LAST_FITTING", type := .long, accessFlags := 26, slot := 0, constantValue := 0 }]
  methods := #[k1m0, k1m1, k1m2]
  instanceTypes := #[]
  staticTypes := #[.long]
  resolved := Array.replicate 43 none
  statics := none }

def pool2 : Array CpInfo := pool [(2, .class_ 4), (1, u "java/lang/Object"), (0, u "<init>"), (0, u "()V"), (2, .long 9223372036854775807), (1, .class_ 12), (0, u "com/example/postloop/postloop/Uptime"), (0, .long 9223372036854), (1, .long 1000000), (1, u "NANOS_PER_MILLI"), (0, u "J"), (6, u "toNanos"), (0, u "(J)J")] 2

def k2m0 : Method := { name := "<init>", desc := "()V", sig := { parameters := [], returnType := none }, accessFlags := 2, code := none }
def k2c1 : Code := { maxStack := 4, maxLocals := 2, code := prog_9_method_3_code, exceptionTable := #[], attributes := #[] }
def k2m1 : Method := { name := "toNanos", desc := "(J)J", sig := { parameters := [.long], returnType := some .long }, accessFlags := 8, code := some k2c1 }
/-- com/example/postloop/postloop/Uptime -/
def k2 : Class := { plain "com/example/postloop/postloop/Uptime" (some 0) with
  accessFlags := 32
  interfaces := #[]
  cf := some (fileOf pool2 11 #[] #[{ accessFlags := 2, nameIndex := 5, descriptorIndex := 6, attributes := #[] }, { accessFlags := 8, nameIndex := 25, descriptorIndex := 26, attributes := #[] }] 32 2 #[] #[{ accessFlags := 24, nameIndex := 17, descriptorIndex := 18, attributes := #[] }])
  fields := #[{ name := "NANOS_PER_MILLI", type := .long, accessFlags := 24, slot := 0, constantValue := 0 }]
  methods := #[k2m0, k2m1]
  instanceTypes := #[]
  staticTypes := #[.long]
  resolved := Array.replicate 29 none
  statics := none }

def pool3 : Array CpInfo := pool [(1, u "java/lang/Cloneable"), (0, .class_ 1), (0, u "java/lang/Object"), (0, .class_ 3)] 3

/-- java/lang/Cloneable -/
def k3 : Class := { plain "java/lang/Cloneable" (some 0) with
  accessFlags := 1537
  interfaces := #[]
  cf := some (fileOf pool3 2 #[] #[] 1537 4 #[] #[])
  fields := #[]
  methods := #[]
  instanceTypes := #[]
  staticTypes := #[]
  resolved := Array.replicate 8 none
  statics := none }

def pool4 : Array CpInfo := pool [(1, u "java/io/Serializable"), (0, .class_ 1), (0, u "java/lang/Object"), (0, .class_ 3)] 3

/-- java/io/Serializable -/
def k4 : Class := { plain "java/io/Serializable" (some 0) with
  accessFlags := 1537
  interfaces := #[]
  cf := some (fileOf pool4 2 #[] #[] 1537 4 #[] #[])
  fields := #[]
  methods := #[]
  instanceTypes := #[]
  staticTypes := #[]
  resolved := Array.replicate 8 none
  statics := none }

/-- the primitive byte -/
def k5 : Class := { plain "byte" none with kind := .primitive 'B', accessFlags := 0x411 }
/-- [B -/
def k6 : Class := { plain "[B" (some 0) with kind := .array 5 .byte, interfaces := #[3, 4], accessFlags := 1041 }

/-- the primitive int -/
def k7 : Class := { plain "int" none with kind := .primitive 'I', accessFlags := 0x411 }
/-- [I -/
def k8 : Class := { plain "[I" (some 0) with kind := .array 7 .int, interfaces := #[3, 4], accessFlags := 1041 }

def heap : Heap := #[]
def classes : Array Class := #[k0, k1, k2, k3, k4, k5, k6, k7, k8]
def interned : List (Array UInt16 × Addr) := []
def slotsUsed : Nat := 0
def theMethod : MethodId := ⟨1, 2⟩
def args0 : Array Value := #[.long 5, .int 3]
def aboutOver (below : List Frame) : State where
  vm := { classes := classes, interned := interned.toArray }
  heap := heap
  slotsUsed := slotsUsed
  threads := #[{ frames := .invoking theMethod args0 :: below }]
def below0 : List Frame := [.native { method := ⟨0, 0⟩, args := #[] }]
def about1 : State := aboutOver below0
def p0 : Program := .bare "" "" ""
def e0 : Env := launch0.env 0 0 0
theorem w_frames : about1.frames = Frame.invoking theMethod args0 :: below0 := rfl
set_option maxRecDepth 65536 in
theorem w_args : argsFit about1.vm theMethod args0 = true := by decide +kernel
set_option maxRecDepth 65536 in
theorem w_heap : heapFits about1 = true := by decide +kernel
set_option maxRecDepth 65536 in
theorem w_runnable : about1.curStatus? = some .runnable := by decide +kernel
set_option maxRecDepth 65536 in
theorem w_alone : about1.alone = true := by decide +kernel
set_option maxRecDepth 65536 in
theorem w_named : about1.methodNamed? x = some theMethod := by decide +kernel
set_option maxRecDepth 65536 in
theorem w_hears : about1.hears theMethod below0 = true := by decide +kernel
set_option maxRecDepth 65536 in
theorem w_ripe : about1.ripe theMethod args0 below0 = true := by decide +kernel
theorem w_running : about1.status = .running := rfl
set_option maxRecDepth 65536 in
theorem w_room : about1.hasRoom e0.platform room_1 = true :=
  launch0.hasRoom_least _ room_1 (by decide +kernel) (by decide +kernel) (by decide +kernel) (by decide +kernel) (by decide +kernel) (by decide +kernel)
theorem allAtoms_all (ts : List Jvm.Cond) (a : Array Jvm.Value) (st : Jvm.State) : (allAtoms ts).before a st = ts.all (fun c => c.before a st) := by
  induction ts with
  | nil => rfl
  | cons c t ih =>
    show (Jvm.Cond.and c (allAtoms t)).before a st = _
    rw [Jvm.Cond.before_and, ih, List.all_cons]
def words1 : List Jvm.Cond := Jvm.Cond.code x code maxLocals ret :: tables_1
/-- a 'code' word, met by the world's own term for the bytes: nothing is compared byte by byte -/
theorem code_word {y : MethodName} {bytes : ByteArray} {mx : Nat} {rt : Option FieldType} {a : Array Value} {s : State} {m : MethodId} {meth : Method} {c : Code} (h1 : s.methodNamed? y = some m) (h2 : s.vm.method? m = some meth) (h3 : meth.code = some c) (h4 : c.code = bytes)
    (h5 : (c.maxLocals == mx && c.exceptionTable.isEmpty && decide (c.maxStack ≤ mostOperands) && decide (meth.sig.returnType = rt) && !meth.locks && decide (parseMethodDescriptor y.desc = some meth.sig)) = true) : (Jvm.Cond.code y bytes mx rt).before a s = true := by
  simp only [Bool.and_eq_true, beq_iff_eq, Bool.not_eq_true', decide_eq_true_eq] at h5
  obtain ⟨⟨⟨⟨⟨g1, g2⟩, g3⟩, g4⟩, g5⟩, g6⟩ := h5
  simp [Cond.before, Cond.holds, Cond.value, h1, h2, h3, h4, g1, g2, g3, g4, g5, g6]
def isCode : Jvm.Cond → Bool
  | .code _ _ _ _ => true
  | _ => false
theorem all_split {L : List Jvm.Cond} {P : Jvm.Cond → Bool} (h1 : L.all (fun c => isCode c || P c) = true) (h2 : ∀ c ∈ L.filter isCode, P c = true) : L.all P = true := by
  refine List.all_eq_true.mpr fun c hc => ?_
  have h := List.all_eq_true.mp h1 c hc
  rcases Bool.eq_false_or_eq_true (isCode c) with hi | hi
  · exact h2 c (List.mem_filter.mpr ⟨hc, hi⟩)
  · simpa [hi] using h
set_option maxRecDepth 65536 in
theorem w_c0 : (Jvm.Cond.code x code maxLocals ret).before args0 about1 = true := code_word (m := ⟨1, 2⟩) (meth := k1m2) (c := k1c2) (by decide +kernel) rfl rfl rfl (by decide +kernel)
set_option maxRecDepth 65536 in
theorem w_c1 : (Jvm.Cond.code ({ cls := "com/example/postloop/postloop/UptimeToNanosPinLaw", name := "pick", desc := "(JI)J" } : Jvm.MethodName) method_2_code (4 : Nat) (Option.some Jvm.ClassFile.FieldType.long)).before args0 about1 = true := code_word (m := ⟨1, 1⟩) (meth := k1m1) (c := k1c1) (by decide +kernel) rfl rfl rfl (by decide +kernel)
set_option maxRecDepth 65536 in
theorem w_c2 : (Jvm.Cond.code ({ cls := "com/example/postloop/postloop/Uptime", name := "toNanos", desc := "(J)J" } : Jvm.MethodName) prog_9_method_3_code (2 : Nat) (Option.some Jvm.ClassFile.FieldType.long)).before args0 about1 = true := code_word (m := ⟨2, 1⟩) (meth := k2m1) (c := k2c1) (by decide +kernel) rfl rfl rfl (by decide +kernel)
def codes1 : List Jvm.Cond := [Jvm.Cond.code x code maxLocals ret, Jvm.Cond.code ({ cls := "com/example/postloop/postloop/UptimeToNanosPinLaw", name := "pick", desc := "(JI)J" } : Jvm.MethodName) method_2_code (4 : Nat) (Option.some Jvm.ClassFile.FieldType.long), Jvm.Cond.code ({ cls := "com/example/postloop/postloop/Uptime", name := "toNanos", desc := "(J)J" } : Jvm.MethodName) prog_9_method_3_code (2 : Nat) (Option.some Jvm.ClassFile.FieldType.long)]
set_option maxRecDepth 65536 in
theorem codes_eq : words1.filter isCode = codes1 := rfl
theorem w_codes : ∀ c ∈ words1.filter isCode, c.before args0 about1 = true := by
  rw [codes_eq]
  intro c hc
  simp only [codes1, List.mem_cons, List.not_mem_nil, or_false] at hc
  rcases hc with rfl | rfl | rfl
  · exact w_c0
  · exact w_c1
  · exact w_c2
set_option maxRecDepth 65536 in
theorem w_t1 : words1.all (fun c => isCode c || c.before args0 about1) = true := by decide +kernel
theorem w_tables : (allAtoms (Jvm.Cond.code x code maxLocals ret :: tables_1)).before args0 about1 = true := by
  rw [allAtoms_all]
  show words1.all (fun c => c.before args0 about1) = true
  refine all_split ?_ w_codes
  rw [w_t1]
set_option maxRecDepth 65536 in
theorem w_case : (Jvm.Cond.and given_1 narrow_1).before args0 about1 = true := by decide +kernel
theorem w_applies : (headSpec (Jvm.Cond.code x code maxLocals ret :: tables_1) room_1).applies x e0.platform about1 = true :=
  (Spec.applies_iff w_frames).mpr ⟨w_running, w_runnable, w_alone, w_named, w_hears, w_ripe, w_room, w_tables⟩
theorem atStart : AtStart classFile x code maxLocals ret World_1 tables_1 room_1 Calls_1 rest_1 Pre_1 launch0 p0 e0 about1 theMethod args0 below0 :=
  ⟨lists_1, trivial, launch0.admits_env _ _ _, launch0.least_env, fairChoices_fair.cas, fairChoices_fair.clock, w_frames, w_args, w_heap, w_applies, trivial, trivial, w_case⟩
end start1
theorem witness_1 : WitnessClaimed_1 := ⟨start1.p0, start1.e0, start1.about1, start1.theMethod, start1.args0, start1.below0, start1.atStart⟩
end Jvm.Pilot.@@N@@
