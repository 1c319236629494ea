import JvmDerived
import JvmDerived.Pilot.@@N@@Statement
import JvmDerived.Pilot.@@N@@Code
set_option linter.unusedVariables false
set_option linter.unusedSimpArgs false
namespace Jvm.RoadKit
open Sem ClassFile Op Lib Jvm.Stand Jvm.Free Jvm.LawKit
section New
variable {p : Program} {l : Launch} {e : Env} {R : Room} {s : State} {m : MethodId} {args : Array Value} {below : List Frame} {meth : Method} {c : Code} {T : State} {locs : List Loc} {cells slots : Nat}
theorem retI (X : Stand p l e R s m args below meth c T locs cells slots) (hx : p.tables.exec = Jvm.exec) {pc : Nat} {Ls : Array Slot} {z : Int32} {rest : List Value} (hret : meth.sig.returnType = some .int) (hd : decode c.code pc = .ok (.ireturn, 1)) {fs : List Frame}
    (hl : ∀ (f : JFrame) (acts : List Action), f.method = m → f.locked = none → f.entered = [] → (doReturn e (T.setTop f) acts (some (.int z))).1 = T.setFrames fs) : Steps p.tables e below (T.setTop (mkF m pc Ls (.int z :: rest))) (T.setFrames fs) := by
  have hm' : T.vm.method? m = some meth := X.method'
  have hn : narrow .int (.int z) = .int z := rfl
  show Steps p.tables e below (T.setTop { method := m, pc := pc, locals := Ls, stack := _ :: rest, locked := none }) _
  jvm_step X.here [X.here.top, hx, hd, hm', hret, hn]
  first | (intro acts; rw [hl _ acts rfl rfl rfl]) | rw [hl _ _ rfl rfl rfl]
  exact Steps.refl _
end New
end Jvm.RoadKit
namespace Jvm.Pilot.@@N@@
open Jvm Jvm.ClassFile Sem Op Lib Jvm.Free Jvm.Stand Jvm.LawKit Jvm.RoadKit Bundle Jvm.Pilot.@@N@@.Jvm.D
def QP (r : Option Value) (h0 : Heap) (n0 : Nat) (v : Option Value) (h : Heap) (L : List Loc) : Prop := v = r ∧ Fr n0 L ∧ h = h0
def Ctx (p : Program) (s : State) (m : MethodId) (meth : Method) (c : Code) (Z : State) (a0 : Array Value) (own : String) (bytes : ByteArray) (ml : Nat) (rt : Option FieldType) (name : String) : Prop :=
  p.tables.exec = Jvm.exec ∧ Z.Warmed39 s.vm ∧ (∀ d ∈ tables_1, d.before a0 Z = true) ∧ c.code = bytes ∧ c.maxLocals = ml ∧ s.vm.findClass own = some m.cls ∧ meth.sig.returnType = rt ∧ meth.locks = false ∧ meth.name = name
/-- from T with the frame g on top the run comes to a return, of which Φ holds -/
def Runs (p : Program) (e : Env) (below : List Frame) (s : State) (Φ : Option Value → Heap → List Loc → Prop) (k n : Nat) (T : State) (g : JFrame) : Prop :=
  ∃ s₂ o, Steps p.tables e below (T.setTop g) s₂ ∧ s₂.status = .running ∧ Ended s₂ below o ∧ ∃ v L, o = .returned v ∧ Φ v s₂.heap L ∧ FrameEnd s o s₂ L k n
section Own
variable {p : Program} {l : Launch} {e : Env} {R : Room} {s : State} {m : MethodId} {args : Array Value} {below : List Frame} {meth : Method} {c : Code} {T T' T0 Z : State} {a0 : Array Value} {locs : List Loc} {cells slots k n n0 : Nat} {h0 : Heap} {g g' : JFrame} {Φ : Option Value → Heap → List Loc → Prop}
theorem Runs.via (h : ∀ t, Steps p.tables e below (T'.setTop g') t → Steps p.tables e below (T.setTop g) t) (r : Runs p e below s Φ k n T' g') : Runs p e below s Φ k n T g := by
  obtain ⟨s₂, o, h1, r⟩ := r
  exact ⟨s₂, o, h _ h1, r⟩
theorem QP.cast {r r' : Option Value} (h : r = r') (H : Runs p e below s (QP r' h0 n0) k n T g) : Runs p e below s (QP r h0 n0) k n T g := by rw [h]; exact H
theorem own_retI (X : Stand p l e R s m args below meth c T locs cells slots) (hx : p.tables.exec = Jvm.exec) (hlk : meth.locks = false) (hret : meth.sig.returnType = some .int) {pc : Nat} {Ls : Array Slot} {z : Int32} {rest : List Value} (hd : decode c.code pc = .ok (.ireturn, 1)) (hk : cells ≤ k) (hn : slots ≤ n) (hΦ : Φ (some (.int z)) T.heap locs) :
    Runs p e below s Φ k n T (mkF m pc Ls (.int z :: rest)) := by
  obtain ⟨fs, hr, hrun, hended, hW, hsame⟩ := X.leave (v := some (.int z)) (fun h => by rw [hret] at h; cases h) hlk
  exact ⟨_, _, retI X hx hret hd hr, hrun, hended, _, _, rfl, hΦ, ⟨_, rfl⟩, hW, hsame.mono hk hn⟩
theorem own_retN (X : Stand p l e R s m args below meth c T locs cells slots) (hx : p.tables.exec = Jvm.exec) (hlk : meth.locks = false) {t : FieldType} (hret : meth.sig.returnType = some t) (ht : t = .boolean ∨ t = .byte ∨ t = .char ∨ t = .short) {pc : Nat} {Ls : Array Slot} {z : Int32} {rest : List Value} (hd : decode c.code pc = .ok (.ireturn, 1)) (hk : cells ≤ k) (hn : slots ≤ n) (hΦ : Φ (some (.int (nar t z))) T.heap locs) :
    Runs p e below s Φ k n T (mkF m pc Ls (.int z :: rest)) := by
  obtain ⟨fs, hr, hrun, hended, hW, hsame⟩ := X.leave (v := some (.int (nar t z))) (fun h => by rw [hret] at h; cases h) hlk
  exact ⟨_, _, retN X hx hret ht hd hr, hrun, hended, _, _, rfl, hΦ, ⟨_, rfl⟩, hW, hsame.mono hk hn⟩
theorem own_retJ (X : Stand p l e R s m args below meth c T locs cells slots) (hx : p.tables.exec = Jvm.exec) (hlk : meth.locks = false) (hret : meth.sig.returnType = some .long) {pc : Nat} {Ls : Array Slot} {z : Int64} (hd : decode c.code pc = .ok (.lreturn, 1)) (hk : cells ≤ k) (hn : slots ≤ n) (hΦ : Φ (some (.long z)) T.heap locs) :
    Runs p e below s Φ k n T (mkF m pc Ls [.long z]) := by
  obtain ⟨fs, hr, hrun, hended, hW, hsame⟩ := X.leave (v := some (.long z)) (fun h => by rw [hret] at h; cases h) hlk
  exact ⟨_, _, X.lreturnOut hx hret hd hr, hrun, hended, _, _, rfl, hΦ, ⟨_, rfl⟩, hW, hsame.mono hk hn⟩
theorem d3_0 : decode prog_39_method_41_code 0 = .ok (.iload_n 0, 1) := by decide +kernel
theorem d3_1 : decode prog_39_method_41_code 1 = .ok (.bipush 65, 2) := by decide +kernel
theorem d3_3 : decode prog_39_method_41_code 3 = .ok (.if_icmp .lt 9, 3) := by decide +kernel
theorem d3_6 : decode prog_39_method_41_code 6 = .ok (.iload_n 0, 1) := by decide +kernel
theorem d3_7 : decode prog_39_method_41_code 7 = .ok (.bipush 90, 2) := by decide +kernel
theorem d3_9 : decode prog_39_method_41_code 9 = .ok (.if_icmp .le 183, 3) := by decide +kernel
theorem d3_12 : decode prog_39_method_41_code 12 = .ok (.iload_n 0, 1) := by decide +kernel
theorem d3_13 : decode prog_39_method_41_code 13 = .ok (.bipush 97, 2) := by decide +kernel
theorem d3_15 : decode prog_39_method_41_code 15 = .ok (.if_icmp .lt 9, 3) := by decide +kernel
theorem d3_18 : decode prog_39_method_41_code 18 = .ok (.iload_n 0, 1) := by decide +kernel
theorem d3_19 : decode prog_39_method_41_code 19 = .ok (.bipush 122, 2) := by decide +kernel
theorem d3_21 : decode prog_39_method_41_code 21 = .ok (.if_icmp .le 171, 3) := by decide +kernel
theorem d3_24 : decode prog_39_method_41_code 24 = .ok (.iload_n 0, 1) := by decide +kernel
theorem d3_25 : decode prog_39_method_41_code 25 = .ok (.sipush 192, 3) := by decide +kernel
theorem d3_28 : decode prog_39_method_41_code 28 = .ok (.if_icmp .lt 10, 3) := by decide +kernel
theorem d3_31 : decode prog_39_method_41_code 31 = .ok (.iload_n 0, 1) := by decide +kernel
theorem d3_32 : decode prog_39_method_41_code 32 = .ok (.sipush 214, 3) := by decide +kernel
theorem d3_35 : decode prog_39_method_41_code 35 = .ok (.if_icmp .le 157, 3) := by decide +kernel
theorem d3_38 : decode prog_39_method_41_code 38 = .ok (.iload_n 0, 1) := by decide +kernel
theorem d3_39 : decode prog_39_method_41_code 39 = .ok (.sipush 216, 3) := by decide +kernel
theorem d3_42 : decode prog_39_method_41_code 42 = .ok (.if_icmp .lt 10, 3) := by decide +kernel
theorem d3_45 : decode prog_39_method_41_code 45 = .ok (.iload_n 0, 1) := by decide +kernel
theorem d3_46 : decode prog_39_method_41_code 46 = .ok (.sipush 246, 3) := by decide +kernel
theorem d3_49 : decode prog_39_method_41_code 49 = .ok (.if_icmp .le 143, 3) := by decide +kernel
theorem d3_52 : decode prog_39_method_41_code 52 = .ok (.iload_n 0, 1) := by decide +kernel
theorem d3_53 : decode prog_39_method_41_code 53 = .ok (.sipush 248, 3) := by decide +kernel
theorem d3_56 : decode prog_39_method_41_code 56 = .ok (.if_icmp .lt 10, 3) := by decide +kernel
theorem d3_59 : decode prog_39_method_41_code 59 = .ok (.iload_n 0, 1) := by decide +kernel
theorem d3_60 : decode prog_39_method_41_code 60 = .ok (.sipush 767, 3) := by decide +kernel
theorem d3_63 : decode prog_39_method_41_code 63 = .ok (.if_icmp .le 129, 3) := by decide +kernel
theorem d3_66 : decode prog_39_method_41_code 66 = .ok (.iload_n 0, 1) := by decide +kernel
theorem d3_67 : decode prog_39_method_41_code 67 = .ok (.sipush 880, 3) := by decide +kernel
theorem d3_70 : decode prog_39_method_41_code 70 = .ok (.if_icmp .lt 10, 3) := by decide +kernel
theorem d3_73 : decode prog_39_method_41_code 73 = .ok (.iload_n 0, 1) := by decide +kernel
theorem d3_74 : decode prog_39_method_41_code 74 = .ok (.sipush 893, 3) := by decide +kernel
theorem d3_77 : decode prog_39_method_41_code 77 = .ok (.if_icmp .le 115, 3) := by decide +kernel
theorem d3_80 : decode prog_39_method_41_code 80 = .ok (.iload_n 0, 1) := by decide +kernel
theorem d3_81 : decode prog_39_method_41_code 81 = .ok (.sipush 895, 3) := by decide +kernel
theorem d3_84 : decode prog_39_method_41_code 84 = .ok (.if_icmp .lt 10, 3) := by decide +kernel
theorem d3_87 : decode prog_39_method_41_code 87 = .ok (.iload_n 0, 1) := by decide +kernel
theorem d3_88 : decode prog_39_method_41_code 88 = .ok (.sipush 8191, 3) := by decide +kernel
theorem d3_91 : decode prog_39_method_41_code 91 = .ok (.if_icmp .le 101, 3) := by decide +kernel
theorem d3_94 : decode prog_39_method_41_code 94 = .ok (.iload_n 0, 1) := by decide +kernel
theorem d3_95 : decode prog_39_method_41_code 95 = .ok (.sipush 8204, 3) := by decide +kernel
theorem d3_98 : decode prog_39_method_41_code 98 = .ok (.if_icmp .lt 10, 3) := by decide +kernel
theorem d3_101 : decode prog_39_method_41_code 101 = .ok (.iload_n 0, 1) := by decide +kernel
theorem d3_102 : decode prog_39_method_41_code 102 = .ok (.sipush 8205, 3) := by decide +kernel
theorem d3_105 : decode prog_39_method_41_code 105 = .ok (.if_icmp .le 87, 3) := by decide +kernel
theorem d3_108 : decode prog_39_method_41_code 108 = .ok (.iload_n 0, 1) := by decide +kernel
theorem d3_109 : decode prog_39_method_41_code 109 = .ok (.sipush 8304, 3) := by decide +kernel
theorem d3_112 : decode prog_39_method_41_code 112 = .ok (.if_icmp .lt 10, 3) := by decide +kernel
theorem d3_115 : decode prog_39_method_41_code 115 = .ok (.iload_n 0, 1) := by decide +kernel
theorem d3_116 : decode prog_39_method_41_code 116 = .ok (.sipush 8591, 3) := by decide +kernel
theorem d3_119 : decode prog_39_method_41_code 119 = .ok (.if_icmp .le 73, 3) := by decide +kernel
theorem d3_122 : decode prog_39_method_41_code 122 = .ok (.iload_n 0, 1) := by decide +kernel
theorem d3_123 : decode prog_39_method_41_code 123 = .ok (.sipush 11264, 3) := by decide +kernel
theorem d3_126 : decode prog_39_method_41_code 126 = .ok (.if_icmp .lt 10, 3) := by decide +kernel
theorem d3_129 : decode prog_39_method_41_code 129 = .ok (.iload_n 0, 1) := by decide +kernel
theorem d3_130 : decode prog_39_method_41_code 130 = .ok (.sipush 12271, 3) := by decide +kernel
theorem d3_133 : decode prog_39_method_41_code 133 = .ok (.if_icmp .le 59, 3) := by decide +kernel
theorem d3_136 : decode prog_39_method_41_code 136 = .ok (.iload_n 0, 1) := by decide +kernel
theorem d3_137 : decode prog_39_method_41_code 137 = .ok (.sipush 12289, 3) := by decide +kernel
theorem d3_140 : decode prog_39_method_41_code 140 = .ok (.if_icmp .lt 10, 3) := by decide +kernel
theorem d3_143 : decode prog_39_method_41_code 143 = .ok (.iload_n 0, 1) := by decide +kernel
theorem d3_144 : decode prog_39_method_41_code 144 = .ok (.ldc_w 373, 3) := by decide +kernel
theorem d3_147 : decode prog_39_method_41_code 147 = .ok (.if_icmp .le 45, 3) := by decide +kernel
theorem d3_150 : decode prog_39_method_41_code 150 = .ok (.iload_n 0, 1) := by decide +kernel
theorem d3_151 : decode prog_39_method_41_code 151 = .ok (.ldc_w 374, 3) := by decide +kernel
theorem d3_154 : decode prog_39_method_41_code 154 = .ok (.if_icmp .lt 10, 3) := by decide +kernel
theorem d3_157 : decode prog_39_method_41_code 157 = .ok (.iload_n 0, 1) := by decide +kernel
theorem d3_158 : decode prog_39_method_41_code 158 = .ok (.ldc_w 375, 3) := by decide +kernel
theorem d3_161 : decode prog_39_method_41_code 161 = .ok (.if_icmp .le 31, 3) := by decide +kernel
theorem d3_164 : decode prog_39_method_41_code 164 = .ok (.iload_n 0, 1) := by decide +kernel
theorem d3_165 : decode prog_39_method_41_code 165 = .ok (.ldc_w 376, 3) := by decide +kernel
theorem d3_168 : decode prog_39_method_41_code 168 = .ok (.if_icmp .lt 10, 3) := by decide +kernel
theorem d3_171 : decode prog_39_method_41_code 171 = .ok (.iload_n 0, 1) := by decide +kernel
theorem d3_172 : decode prog_39_method_41_code 172 = .ok (.ldc_w 377, 3) := by decide +kernel
theorem d3_175 : decode prog_39_method_41_code 175 = .ok (.if_icmp .le 17, 3) := by decide +kernel
theorem d3_178 : decode prog_39_method_41_code 178 = .ok (.iload_n 0, 1) := by decide +kernel
theorem d3_179 : decode prog_39_method_41_code 179 = .ok (.ldc_w 378, 3) := by decide +kernel
theorem d3_182 : decode prog_39_method_41_code 182 = .ok (.if_icmp .lt 14, 3) := by decide +kernel
theorem d3_185 : decode prog_39_method_41_code 185 = .ok (.iload_n 0, 1) := by decide +kernel
theorem d3_186 : decode prog_39_method_41_code 186 = .ok (.ldc_w 379, 3) := by decide +kernel
theorem d3_189 : decode prog_39_method_41_code 189 = .ok (.if_icmp .gt 7, 3) := by decide +kernel
theorem d3_192 : decode prog_39_method_41_code 192 = .ok (.iconst 1, 1) := by decide +kernel
theorem d3_193 : decode prog_39_method_41_code 193 = .ok (.goto 4, 3) := by decide +kernel
theorem d3_196 : decode prog_39_method_41_code 196 = .ok (.iconst 0, 1) := by decide +kernel
theorem d3_197 : decode prog_39_method_41_code 197 = .ok (.ireturn, 1) := by decide +kernel
def g3_178 (x0 : Int32) : Int32 := (if x0 < (65536 : Int32) then (0 : Int32) else (if (983039 : Int32) < x0 then (0 : Int32) else (1 : Int32)))
set_option maxRecDepth 65536 in
set_option maxHeartbeats 4000000 in
theorem b3_178 (C : Ctx p s m meth c Z a0 "com/example/onto3/onto3/rdf/TermScanner" prog_39_method_41_code 1 (some .boolean) "isBaseChar") (X0 : Stand p l e ({ frames := 0, cells := 0, slots := 0, locals := 0 } : Room) s m args below meth c T0 locs cells slots) (e0 : T0.heap = h0) (N0 : Fr n0 locs) (hk : cells ≤ 0) (hn : slots ≤ 0) (x0 : Int32) :
    Runs p e below s (QP (some (.int (g3_178 x0))) h0 n0) 0 0 T0 (mkF m 178 #[.val (.int x0)] []) := by
  have ⟨hx, hZ, hw, hby, hml, hown, hret, hlk, hnm⟩ := C
  refine Runs.via (T' := T0) (g' := (mkF m 182 #[.val (.int x0)] [(.int (65536 : Int32)), (.int x0)])) (fun t k => ?_) ?_
  · show Steps p.tables e below (T0.setTop (mkF m 178 #[.val (.int x0)] [])) t
    refine XS.iloadN X0.here hx rfl (hb hby d3_178) rfl ?_
    show Steps p.tables e below (T0.setTop (mkF m 179 #[.val (.int x0)] [(.int x0)])) t
    refine X0.ldcwInt hx hown (mvT hZ (hw _ (List.mem_of_getElem? (i := 12) rfl))) (g := (mkF m 179 #[.val (.int x0)] [(.int x0)])) rfl (hb hby d3_179) _ ?_
    exact k
  by_cases hc1 : x0 < (65536 : Int32)
  · refine Runs.via (T' := T0) (g' := (mkF m 196 #[.val (.int x0)] [])) (fun t k => ?_) ?_
    · show Steps p.tables e below (T0.setTop (mkF m 182 #[.val (.int x0)] [(.int (65536 : Int32)), (.int x0)])) t
      exact XS.icmpYes X0.here hx rfl (pc0 := 182) (pc' := 196) rfl (hb hby d3_182) rfl (tlt hc1).1 (by decide) (by decide) k
    refine Runs.via (T' := T0) (g' := (mkF m 197 #[.val (.int x0)] [(.int (0 : Int32))])) (fun t k => ?_) ?_
    · show Steps p.tables e below (T0.setTop (mkF m 196 #[.val (.int x0)] [])) t
      refine XS.iconst X0.here hx rfl (hb hby d3_196) ?_
      exact k
    refine QP.cast (congrArg (fun z => some (Value.int z)) (show (g3_178 x0) = (0 : Int32) from (if_pos hc1))) ?_
    exact own_retN X0 hx hlk (t := .boolean) hret (by simp) (hb hby d3_197) hk hn ⟨rfl, N0, e0⟩
  · refine Runs.via (T' := T0) (g' := (mkF m 185 #[.val (.int x0)] [])) (fun t k => ?_) ?_
    · show Steps p.tables e below (T0.setTop (mkF m 182 #[.val (.int x0)] [(.int (65536 : Int32)), (.int x0)])) t
      exact XS.icmpNo X0.here hx rfl (hb hby d3_182) rfl (flt hc1).1 k
    refine Runs.via (T' := T0) (g' := (mkF m 189 #[.val (.int x0)] [(.int (983039 : Int32)), (.int x0)])) (fun t k => ?_) ?_
    · show Steps p.tables e below (T0.setTop (mkF m 185 #[.val (.int x0)] [])) t
      refine XS.iloadN X0.here hx rfl (hb hby d3_185) rfl ?_
      show Steps p.tables e below (T0.setTop (mkF m 186 #[.val (.int x0)] [(.int x0)])) t
      refine X0.ldcwInt hx hown (mvT hZ (hw _ (List.mem_of_getElem? (i := 23) rfl))) (g := (mkF m 186 #[.val (.int x0)] [(.int x0)])) rfl (hb hby d3_186) _ ?_
      exact k
    by_cases hc2 : (983039 : Int32) < x0
    · refine Runs.via (T' := T0) (g' := (mkF m 196 #[.val (.int x0)] [])) (fun t k => ?_) ?_
      · show Steps p.tables e below (T0.setTop (mkF m 189 #[.val (.int x0)] [(.int (983039 : Int32)), (.int x0)])) t
        exact XS.icmpYes X0.here hx rfl (pc0 := 189) (pc' := 196) rfl (hb hby d3_189) rfl (tlt hc2).2.2.1 (by decide) (by decide) k
      refine Runs.via (T' := T0) (g' := (mkF m 197 #[.val (.int x0)] [(.int (0 : Int32))])) (fun t k => ?_) ?_
      · show Steps p.tables e below (T0.setTop (mkF m 196 #[.val (.int x0)] [])) t
        refine XS.iconst X0.here hx rfl (hb hby d3_196) ?_
        exact k
      refine QP.cast (congrArg (fun z => some (Value.int z)) (show (g3_178 x0) = (0 : Int32) from ((if_neg hc1).trans (if_pos hc2)))) ?_
      exact own_retN X0 hx hlk (t := .boolean) hret (by simp) (hb hby d3_197) hk hn ⟨rfl, N0, e0⟩
    · refine Runs.via (T' := T0) (g' := (mkF m 192 #[.val (.int x0)] [])) (fun t k => ?_) ?_
      · show Steps p.tables e below (T0.setTop (mkF m 189 #[.val (.int x0)] [(.int (983039 : Int32)), (.int x0)])) t
        exact XS.icmpNo X0.here hx rfl (hb hby d3_189) rfl (flt hc2).2.2.1 k
      refine Runs.via (T' := T0) (g' := (mkF m 197 #[.val (.int x0)] [(.int (1 : Int32))])) (fun t k => ?_) ?_
      · show Steps p.tables e below (T0.setTop (mkF m 192 #[.val (.int x0)] [])) t
        refine XS.iconst X0.here hx rfl (hb hby d3_192) ?_
        show Steps p.tables e below (T0.setTop (mkF m 193 #[.val (.int x0)] [(.int (1 : Int32))])) t
        refine XS.goto X0.here hx rfl (pc0 := 193) (pc' := 197) rfl (hb hby d3_193) (by decide) (by decide) ?_
        exact k
      refine QP.cast (congrArg (fun z => some (Value.int z)) (show (g3_178 x0) = (1 : Int32) from ((if_neg hc1).trans (if_neg hc2)))) ?_
      exact own_retN X0 hx hlk (t := .boolean) hret (by simp) (hb hby d3_197) hk hn ⟨rfl, N0, e0⟩
def g3_164 (x0 : Int32) : Int32 := (if x0 < (65008 : Int32) then (g3_178 x0) else (if (65533 : Int32) < x0 then (g3_178 x0) else (1 : Int32)))
set_option maxRecDepth 65536 in
set_option maxHeartbeats 4000000 in
theorem b3_164 (C : Ctx p s m meth c Z a0 "com/example/onto3/onto3/rdf/TermScanner" prog_39_method_41_code 1 (some .boolean) "isBaseChar") (X0 : Stand p l e ({ frames := 0, cells := 0, slots := 0, locals := 0 } : Room) s m args below meth c T0 locs cells slots) (e0 : T0.heap = h0) (N0 : Fr n0 locs) (hk : cells ≤ 0) (hn : slots ≤ 0) (x0 : Int32) :
    Runs p e below s (QP (some (.int (g3_164 x0))) h0 n0) 0 0 T0 (mkF m 164 #[.val (.int x0)] []) := by
  have ⟨hx, hZ, hw, hby, hml, hown, hret, hlk, hnm⟩ := C
  refine Runs.via (T' := T0) (g' := (mkF m 168 #[.val (.int x0)] [(.int (65008 : Int32)), (.int x0)])) (fun t k => ?_) ?_
  · show Steps p.tables e below (T0.setTop (mkF m 164 #[.val (.int x0)] [])) t
    refine XS.iloadN X0.here hx rfl (hb hby d3_164) rfl ?_
    show Steps p.tables e below (T0.setTop (mkF m 165 #[.val (.int x0)] [(.int x0)])) t
    refine X0.ldcwInt hx hown (mvT hZ (hw _ (List.mem_of_getElem? (i := 11) rfl))) (g := (mkF m 165 #[.val (.int x0)] [(.int x0)])) rfl (hb hby d3_165) _ ?_
    exact k
  by_cases hc1 : x0 < (65008 : Int32)
  · refine Runs.via (T' := T0) (g' := (mkF m 178 #[.val (.int x0)] [])) (fun t k => ?_) ?_
    · show Steps p.tables e below (T0.setTop (mkF m 168 #[.val (.int x0)] [(.int (65008 : Int32)), (.int x0)])) t
      exact XS.icmpYes X0.here hx rfl (pc0 := 168) (pc' := 178) rfl (hb hby d3_168) rfl (tlt hc1).1 (by decide) (by decide) k
    refine QP.cast (congrArg (fun z => some (Value.int z)) (show (g3_164 x0) = (g3_178 x0) from (if_pos hc1))) ?_
    exact b3_178 C X0 e0 N0 hk hn x0
  · refine Runs.via (T' := T0) (g' := (mkF m 171 #[.val (.int x0)] [])) (fun t k => ?_) ?_
    · show Steps p.tables e below (T0.setTop (mkF m 168 #[.val (.int x0)] [(.int (65008 : Int32)), (.int x0)])) t
      exact XS.icmpNo X0.here hx rfl (hb hby d3_168) rfl (flt hc1).1 k
    refine Runs.via (T' := T0) (g' := (mkF m 175 #[.val (.int x0)] [(.int (65533 : Int32)), (.int x0)])) (fun t k => ?_) ?_
    · show Steps p.tables e below (T0.setTop (mkF m 171 #[.val (.int x0)] [])) t
      refine XS.iloadN X0.here hx rfl (hb hby d3_171) rfl ?_
      show Steps p.tables e below (T0.setTop (mkF m 172 #[.val (.int x0)] [(.int x0)])) t
      refine X0.ldcwInt hx hown (mvT hZ (hw _ (List.mem_of_getElem? (i := 22) rfl))) (g := (mkF m 172 #[.val (.int x0)] [(.int x0)])) rfl (hb hby d3_172) _ ?_
      exact k
    by_cases hc2 : (65533 : Int32) < x0
    · refine Runs.via (T' := T0) (g' := (mkF m 178 #[.val (.int x0)] [])) (fun t k => ?_) ?_
      · show Steps p.tables e below (T0.setTop (mkF m 175 #[.val (.int x0)] [(.int (65533 : Int32)), (.int x0)])) t
        exact XS.icmpNo X0.here hx rfl (hb hby d3_175) rfl (tlt hc2).2.2.2 k
      refine QP.cast (congrArg (fun z => some (Value.int z)) (show (g3_164 x0) = (g3_178 x0) from ((if_neg hc1).trans (if_pos hc2)))) ?_
      exact b3_178 C X0 e0 N0 hk hn x0
    · refine Runs.via (T' := T0) (g' := (mkF m 192 #[.val (.int x0)] [])) (fun t k => ?_) ?_
      · show Steps p.tables e below (T0.setTop (mkF m 175 #[.val (.int x0)] [(.int (65533 : Int32)), (.int x0)])) t
        exact XS.icmpYes X0.here hx rfl (pc0 := 175) (pc' := 192) rfl (hb hby d3_175) rfl (flt hc2).2.2.2 (by decide) (by decide) k
      refine Runs.via (T' := T0) (g' := (mkF m 197 #[.val (.int x0)] [(.int (1 : Int32))])) (fun t k => ?_) ?_
      · show Steps p.tables e below (T0.setTop (mkF m 192 #[.val (.int x0)] [])) t
        refine XS.iconst X0.here hx rfl (hb hby d3_192) ?_
        show Steps p.tables e below (T0.setTop (mkF m 193 #[.val (.int x0)] [(.int (1 : Int32))])) t
        refine XS.goto X0.here hx rfl (pc0 := 193) (pc' := 197) rfl (hb hby d3_193) (by decide) (by decide) ?_
        exact k
      refine QP.cast (congrArg (fun z => some (Value.int z)) (show (g3_164 x0) = (1 : Int32) from ((if_neg hc1).trans (if_neg hc2)))) ?_
      exact own_retN X0 hx hlk (t := .boolean) hret (by simp) (hb hby d3_197) hk hn ⟨rfl, N0, e0⟩
def g3_150 (x0 : Int32) : Int32 := (if x0 < (63744 : Int32) then (g3_164 x0) else (if (64975 : Int32) < x0 then (g3_164 x0) else (1 : Int32)))
set_option maxRecDepth 65536 in
set_option maxHeartbeats 4000000 in
theorem b3_150 (C : Ctx p s m meth c Z a0 "com/example/onto3/onto3/rdf/TermScanner" prog_39_method_41_code 1 (some .boolean) "isBaseChar") (X0 : Stand p l e ({ frames := 0, cells := 0, slots := 0, locals := 0 } : Room) s m args below meth c T0 locs cells slots) (e0 : T0.heap = h0) (N0 : Fr n0 locs) (hk : cells ≤ 0) (hn : slots ≤ 0) (x0 : Int32) :
    Runs p e below s (QP (some (.int (g3_150 x0))) h0 n0) 0 0 T0 (mkF m 150 #[.val (.int x0)] []) := by
  have ⟨hx, hZ, hw, hby, hml, hown, hret, hlk, hnm⟩ := C
  refine Runs.via (T' := T0) (g' := (mkF m 154 #[.val (.int x0)] [(.int (63744 : Int32)), (.int x0)])) (fun t k => ?_) ?_
  · show Steps p.tables e below (T0.setTop (mkF m 150 #[.val (.int x0)] [])) t
    refine XS.iloadN X0.here hx rfl (hb hby d3_150) rfl ?_
    show Steps p.tables e below (T0.setTop (mkF m 151 #[.val (.int x0)] [(.int x0)])) t
    refine X0.ldcwInt hx hown (mvT hZ (hw _ (List.mem_of_getElem? (i := 10) rfl))) (g := (mkF m 151 #[.val (.int x0)] [(.int x0)])) rfl (hb hby d3_151) _ ?_
    exact k
  by_cases hc1 : x0 < (63744 : Int32)
  · refine Runs.via (T' := T0) (g' := (mkF m 164 #[.val (.int x0)] [])) (fun t k => ?_) ?_
    · show Steps p.tables e below (T0.setTop (mkF m 154 #[.val (.int x0)] [(.int (63744 : Int32)), (.int x0)])) t
      exact XS.icmpYes X0.here hx rfl (pc0 := 154) (pc' := 164) rfl (hb hby d3_154) rfl (tlt hc1).1 (by decide) (by decide) k
    refine QP.cast (congrArg (fun z => some (Value.int z)) (show (g3_150 x0) = (g3_164 x0) from (if_pos hc1))) ?_
    exact b3_164 C X0 e0 N0 hk hn x0
  · refine Runs.via (T' := T0) (g' := (mkF m 157 #[.val (.int x0)] [])) (fun t k => ?_) ?_
    · show Steps p.tables e below (T0.setTop (mkF m 154 #[.val (.int x0)] [(.int (63744 : Int32)), (.int x0)])) t
      exact XS.icmpNo X0.here hx rfl (hb hby d3_154) rfl (flt hc1).1 k
    refine Runs.via (T' := T0) (g' := (mkF m 161 #[.val (.int x0)] [(.int (64975 : Int32)), (.int x0)])) (fun t k => ?_) ?_
    · show Steps p.tables e below (T0.setTop (mkF m 157 #[.val (.int x0)] [])) t
      refine XS.iloadN X0.here hx rfl (hb hby d3_157) rfl ?_
      show Steps p.tables e below (T0.setTop (mkF m 158 #[.val (.int x0)] [(.int x0)])) t
      refine X0.ldcwInt hx hown (mvT hZ (hw _ (List.mem_of_getElem? (i := 21) rfl))) (g := (mkF m 158 #[.val (.int x0)] [(.int x0)])) rfl (hb hby d3_158) _ ?_
      exact k
    by_cases hc2 : (64975 : Int32) < x0
    · refine Runs.via (T' := T0) (g' := (mkF m 164 #[.val (.int x0)] [])) (fun t k => ?_) ?_
      · show Steps p.tables e below (T0.setTop (mkF m 161 #[.val (.int x0)] [(.int (64975 : Int32)), (.int x0)])) t
        exact XS.icmpNo X0.here hx rfl (hb hby d3_161) rfl (tlt hc2).2.2.2 k
      refine QP.cast (congrArg (fun z => some (Value.int z)) (show (g3_150 x0) = (g3_164 x0) from ((if_neg hc1).trans (if_pos hc2)))) ?_
      exact b3_164 C X0 e0 N0 hk hn x0
    · refine Runs.via (T' := T0) (g' := (mkF m 192 #[.val (.int x0)] [])) (fun t k => ?_) ?_
      · show Steps p.tables e below (T0.setTop (mkF m 161 #[.val (.int x0)] [(.int (64975 : Int32)), (.int x0)])) t
        exact XS.icmpYes X0.here hx rfl (pc0 := 161) (pc' := 192) rfl (hb hby d3_161) rfl (flt hc2).2.2.2 (by decide) (by decide) k
      refine Runs.via (T' := T0) (g' := (mkF m 197 #[.val (.int x0)] [(.int (1 : Int32))])) (fun t k => ?_) ?_
      · show Steps p.tables e below (T0.setTop (mkF m 192 #[.val (.int x0)] [])) t
        refine XS.iconst X0.here hx rfl (hb hby d3_192) ?_
        show Steps p.tables e below (T0.setTop (mkF m 193 #[.val (.int x0)] [(.int (1 : Int32))])) t
        refine XS.goto X0.here hx rfl (pc0 := 193) (pc' := 197) rfl (hb hby d3_193) (by decide) (by decide) ?_
        exact k
      refine QP.cast (congrArg (fun z => some (Value.int z)) (show (g3_150 x0) = (1 : Int32) from ((if_neg hc1).trans (if_neg hc2)))) ?_
      exact own_retN X0 hx hlk (t := .boolean) hret (by simp) (hb hby d3_197) hk hn ⟨rfl, N0, e0⟩
def g3_136 (x0 : Int32) : Int32 := (if x0 < (12289 : Int32) then (g3_150 x0) else (if (55295 : Int32) < x0 then (g3_150 x0) else (1 : Int32)))
set_option maxRecDepth 65536 in
set_option maxHeartbeats 4000000 in
theorem b3_136 (C : Ctx p s m meth c Z a0 "com/example/onto3/onto3/rdf/TermScanner" prog_39_method_41_code 1 (some .boolean) "isBaseChar") (X0 : Stand p l e ({ frames := 0, cells := 0, slots := 0, locals := 0 } : Room) s m args below meth c T0 locs cells slots) (e0 : T0.heap = h0) (N0 : Fr n0 locs) (hk : cells ≤ 0) (hn : slots ≤ 0) (x0 : Int32) :
    Runs p e below s (QP (some (.int (g3_136 x0))) h0 n0) 0 0 T0 (mkF m 136 #[.val (.int x0)] []) := by
  have ⟨hx, hZ, hw, hby, hml, hown, hret, hlk, hnm⟩ := C
  refine Runs.via (T' := T0) (g' := (mkF m 140 #[.val (.int x0)] [(.int (12289 : Int32)), (.int x0)])) (fun t k => ?_) ?_
  · show Steps p.tables e below (T0.setTop (mkF m 136 #[.val (.int x0)] [])) t
    refine XS.iloadN X0.here hx rfl (hb hby d3_136) rfl ?_
    show Steps p.tables e below (T0.setTop (mkF m 137 #[.val (.int x0)] [(.int x0)])) t
    refine XS.sipush X0.here hx rfl (hb hby d3_137) ?_
    exact k
  by_cases hc1 : x0 < (12289 : Int32)
  · refine Runs.via (T' := T0) (g' := (mkF m 150 #[.val (.int x0)] [])) (fun t k => ?_) ?_
    · show Steps p.tables e below (T0.setTop (mkF m 140 #[.val (.int x0)] [(.int (12289 : Int32)), (.int x0)])) t
      exact XS.icmpYes X0.here hx rfl (pc0 := 140) (pc' := 150) rfl (hb hby d3_140) rfl (tlt hc1).1 (by decide) (by decide) k
    refine QP.cast (congrArg (fun z => some (Value.int z)) (show (g3_136 x0) = (g3_150 x0) from (if_pos hc1))) ?_
    exact b3_150 C X0 e0 N0 hk hn x0
  · refine Runs.via (T' := T0) (g' := (mkF m 143 #[.val (.int x0)] [])) (fun t k => ?_) ?_
    · show Steps p.tables e below (T0.setTop (mkF m 140 #[.val (.int x0)] [(.int (12289 : Int32)), (.int x0)])) t
      exact XS.icmpNo X0.here hx rfl (hb hby d3_140) rfl (flt hc1).1 k
    refine Runs.via (T' := T0) (g' := (mkF m 147 #[.val (.int x0)] [(.int (55295 : Int32)), (.int x0)])) (fun t k => ?_) ?_
    · show Steps p.tables e below (T0.setTop (mkF m 143 #[.val (.int x0)] [])) t
      refine XS.iloadN X0.here hx rfl (hb hby d3_143) rfl ?_
      show Steps p.tables e below (T0.setTop (mkF m 144 #[.val (.int x0)] [(.int x0)])) t
      refine X0.ldcwInt hx hown (mvT hZ (hw _ (List.mem_of_getElem? (i := 20) rfl))) (g := (mkF m 144 #[.val (.int x0)] [(.int x0)])) rfl (hb hby d3_144) _ ?_
      exact k
    by_cases hc2 : (55295 : Int32) < x0
    · refine Runs.via (T' := T0) (g' := (mkF m 150 #[.val (.int x0)] [])) (fun t k => ?_) ?_
      · show Steps p.tables e below (T0.setTop (mkF m 147 #[.val (.int x0)] [(.int (55295 : Int32)), (.int x0)])) t
        exact XS.icmpNo X0.here hx rfl (hb hby d3_147) rfl (tlt hc2).2.2.2 k
      refine QP.cast (congrArg (fun z => some (Value.int z)) (show (g3_136 x0) = (g3_150 x0) from ((if_neg hc1).trans (if_pos hc2)))) ?_
      exact b3_150 C X0 e0 N0 hk hn x0
    · refine Runs.via (T' := T0) (g' := (mkF m 192 #[.val (.int x0)] [])) (fun t k => ?_) ?_
      · show Steps p.tables e below (T0.setTop (mkF m 147 #[.val (.int x0)] [(.int (55295 : Int32)), (.int x0)])) t
        exact XS.icmpYes X0.here hx rfl (pc0 := 147) (pc' := 192) rfl (hb hby d3_147) rfl (flt hc2).2.2.2 (by decide) (by decide) k
      refine Runs.via (T' := T0) (g' := (mkF m 197 #[.val (.int x0)] [(.int (1 : Int32))])) (fun t k => ?_) ?_
      · show Steps p.tables e below (T0.setTop (mkF m 192 #[.val (.int x0)] [])) t
        refine XS.iconst X0.here hx rfl (hb hby d3_192) ?_
        show Steps p.tables e below (T0.setTop (mkF m 193 #[.val (.int x0)] [(.int (1 : Int32))])) t
        refine XS.goto X0.here hx rfl (pc0 := 193) (pc' := 197) rfl (hb hby d3_193) (by decide) (by decide) ?_
        exact k
      refine QP.cast (congrArg (fun z => some (Value.int z)) (show (g3_136 x0) = (1 : Int32) from ((if_neg hc1).trans (if_neg hc2)))) ?_
      exact own_retN X0 hx hlk (t := .boolean) hret (by simp) (hb hby d3_197) hk hn ⟨rfl, N0, e0⟩
def g3_122 (x0 : Int32) : Int32 := (if x0 < (11264 : Int32) then (g3_136 x0) else (if (12271 : Int32) < x0 then (g3_136 x0) else (1 : Int32)))
set_option maxRecDepth 65536 in
set_option maxHeartbeats 4000000 in
theorem b3_122 (C : Ctx p s m meth c Z a0 "com/example/onto3/onto3/rdf/TermScanner" prog_39_method_41_code 1 (some .boolean) "isBaseChar") (X0 : Stand p l e ({ frames := 0, cells := 0, slots := 0, locals := 0 } : Room) s m args below meth c T0 locs cells slots) (e0 : T0.heap = h0) (N0 : Fr n0 locs) (hk : cells ≤ 0) (hn : slots ≤ 0) (x0 : Int32) :
    Runs p e below s (QP (some (.int (g3_122 x0))) h0 n0) 0 0 T0 (mkF m 122 #[.val (.int x0)] []) := by
  have ⟨hx, hZ, hw, hby, hml, hown, hret, hlk, hnm⟩ := C
  refine Runs.via (T' := T0) (g' := (mkF m 126 #[.val (.int x0)] [(.int (11264 : Int32)), (.int x0)])) (fun t k => ?_) ?_
  · show Steps p.tables e below (T0.setTop (mkF m 122 #[.val (.int x0)] [])) t
    refine XS.iloadN X0.here hx rfl (hb hby d3_122) rfl ?_
    show Steps p.tables e below (T0.setTop (mkF m 123 #[.val (.int x0)] [(.int x0)])) t
    refine XS.sipush X0.here hx rfl (hb hby d3_123) ?_
    exact k
  by_cases hc1 : x0 < (11264 : Int32)
  · refine Runs.via (T' := T0) (g' := (mkF m 136 #[.val (.int x0)] [])) (fun t k => ?_) ?_
    · show Steps p.tables e below (T0.setTop (mkF m 126 #[.val (.int x0)] [(.int (11264 : Int32)), (.int x0)])) t
      exact XS.icmpYes X0.here hx rfl (pc0 := 126) (pc' := 136) rfl (hb hby d3_126) rfl (tlt hc1).1 (by decide) (by decide) k
    refine QP.cast (congrArg (fun z => some (Value.int z)) (show (g3_122 x0) = (g3_136 x0) from (if_pos hc1))) ?_
    exact b3_136 C X0 e0 N0 hk hn x0
  · refine Runs.via (T' := T0) (g' := (mkF m 129 #[.val (.int x0)] [])) (fun t k => ?_) ?_
    · show Steps p.tables e below (T0.setTop (mkF m 126 #[.val (.int x0)] [(.int (11264 : Int32)), (.int x0)])) t
      exact XS.icmpNo X0.here hx rfl (hb hby d3_126) rfl (flt hc1).1 k
    refine Runs.via (T' := T0) (g' := (mkF m 133 #[.val (.int x0)] [(.int (12271 : Int32)), (.int x0)])) (fun t k => ?_) ?_
    · show Steps p.tables e below (T0.setTop (mkF m 129 #[.val (.int x0)] [])) t
      refine XS.iloadN X0.here hx rfl (hb hby d3_129) rfl ?_
      show Steps p.tables e below (T0.setTop (mkF m 130 #[.val (.int x0)] [(.int x0)])) t
      refine XS.sipush X0.here hx rfl (hb hby d3_130) ?_
      exact k
    by_cases hc2 : (12271 : Int32) < x0
    · refine Runs.via (T' := T0) (g' := (mkF m 136 #[.val (.int x0)] [])) (fun t k => ?_) ?_
      · show Steps p.tables e below (T0.setTop (mkF m 133 #[.val (.int x0)] [(.int (12271 : Int32)), (.int x0)])) t
        exact XS.icmpNo X0.here hx rfl (hb hby d3_133) rfl (tlt hc2).2.2.2 k
      refine QP.cast (congrArg (fun z => some (Value.int z)) (show (g3_122 x0) = (g3_136 x0) from ((if_neg hc1).trans (if_pos hc2)))) ?_
      exact b3_136 C X0 e0 N0 hk hn x0
    · refine Runs.via (T' := T0) (g' := (mkF m 192 #[.val (.int x0)] [])) (fun t k => ?_) ?_
      · show Steps p.tables e below (T0.setTop (mkF m 133 #[.val (.int x0)] [(.int (12271 : Int32)), (.int x0)])) t
        exact XS.icmpYes X0.here hx rfl (pc0 := 133) (pc' := 192) rfl (hb hby d3_133) rfl (flt hc2).2.2.2 (by decide) (by decide) k
      refine Runs.via (T' := T0) (g' := (mkF m 197 #[.val (.int x0)] [(.int (1 : Int32))])) (fun t k => ?_) ?_
      · show Steps p.tables e below (T0.setTop (mkF m 192 #[.val (.int x0)] [])) t
        refine XS.iconst X0.here hx rfl (hb hby d3_192) ?_
        show Steps p.tables e below (T0.setTop (mkF m 193 #[.val (.int x0)] [(.int (1 : Int32))])) t
        refine XS.goto X0.here hx rfl (pc0 := 193) (pc' := 197) rfl (hb hby d3_193) (by decide) (by decide) ?_
        exact k
      refine QP.cast (congrArg (fun z => some (Value.int z)) (show (g3_122 x0) = (1 : Int32) from ((if_neg hc1).trans (if_neg hc2)))) ?_
      exact own_retN X0 hx hlk (t := .boolean) hret (by simp) (hb hby d3_197) hk hn ⟨rfl, N0, e0⟩
def g3_108 (x0 : Int32) : Int32 := (if x0 < (8304 : Int32) then (g3_122 x0) else (if (8591 : Int32) < x0 then (g3_122 x0) else (1 : Int32)))
set_option maxRecDepth 65536 in
set_option maxHeartbeats 4000000 in
theorem b3_108 (C : Ctx p s m meth c Z a0 "com/example/onto3/onto3/rdf/TermScanner" prog_39_method_41_code 1 (some .boolean) "isBaseChar") (X0 : Stand p l e ({ frames := 0, cells := 0, slots := 0, locals := 0 } : Room) s m args below meth c T0 locs cells slots) (e0 : T0.heap = h0) (N0 : Fr n0 locs) (hk : cells ≤ 0) (hn : slots ≤ 0) (x0 : Int32) :
    Runs p e below s (QP (some (.int (g3_108 x0))) h0 n0) 0 0 T0 (mkF m 108 #[.val (.int x0)] []) := by
  have ⟨hx, hZ, hw, hby, hml, hown, hret, hlk, hnm⟩ := C
  refine Runs.via (T' := T0) (g' := (mkF m 112 #[.val (.int x0)] [(.int (8304 : Int32)), (.int x0)])) (fun t k => ?_) ?_
  · show Steps p.tables e below (T0.setTop (mkF m 108 #[.val (.int x0)] [])) t
    refine XS.iloadN X0.here hx rfl (hb hby d3_108) rfl ?_
    show Steps p.tables e below (T0.setTop (mkF m 109 #[.val (.int x0)] [(.int x0)])) t
    refine XS.sipush X0.here hx rfl (hb hby d3_109) ?_
    exact k
  by_cases hc1 : x0 < (8304 : Int32)
  · refine Runs.via (T' := T0) (g' := (mkF m 122 #[.val (.int x0)] [])) (fun t k => ?_) ?_
    · show Steps p.tables e below (T0.setTop (mkF m 112 #[.val (.int x0)] [(.int (8304 : Int32)), (.int x0)])) t
      exact XS.icmpYes X0.here hx rfl (pc0 := 112) (pc' := 122) rfl (hb hby d3_112) rfl (tlt hc1).1 (by decide) (by decide) k
    refine QP.cast (congrArg (fun z => some (Value.int z)) (show (g3_108 x0) = (g3_122 x0) from (if_pos hc1))) ?_
    exact b3_122 C X0 e0 N0 hk hn x0
  · refine Runs.via (T' := T0) (g' := (mkF m 115 #[.val (.int x0)] [])) (fun t k => ?_) ?_
    · show Steps p.tables e below (T0.setTop (mkF m 112 #[.val (.int x0)] [(.int (8304 : Int32)), (.int x0)])) t
      exact XS.icmpNo X0.here hx rfl (hb hby d3_112) rfl (flt hc1).1 k
    refine Runs.via (T' := T0) (g' := (mkF m 119 #[.val (.int x0)] [(.int (8591 : Int32)), (.int x0)])) (fun t k => ?_) ?_
    · show Steps p.tables e below (T0.setTop (mkF m 115 #[.val (.int x0)] [])) t
      refine XS.iloadN X0.here hx rfl (hb hby d3_115) rfl ?_
      show Steps p.tables e below (T0.setTop (mkF m 116 #[.val (.int x0)] [(.int x0)])) t
      refine XS.sipush X0.here hx rfl (hb hby d3_116) ?_
      exact k
    by_cases hc2 : (8591 : Int32) < x0
    · refine Runs.via (T' := T0) (g' := (mkF m 122 #[.val (.int x0)] [])) (fun t k => ?_) ?_
      · show Steps p.tables e below (T0.setTop (mkF m 119 #[.val (.int x0)] [(.int (8591 : Int32)), (.int x0)])) t
        exact XS.icmpNo X0.here hx rfl (hb hby d3_119) rfl (tlt hc2).2.2.2 k
      refine QP.cast (congrArg (fun z => some (Value.int z)) (show (g3_108 x0) = (g3_122 x0) from ((if_neg hc1).trans (if_pos hc2)))) ?_
      exact b3_122 C X0 e0 N0 hk hn x0
    · refine Runs.via (T' := T0) (g' := (mkF m 192 #[.val (.int x0)] [])) (fun t k => ?_) ?_
      · show Steps p.tables e below (T0.setTop (mkF m 119 #[.val (.int x0)] [(.int (8591 : Int32)), (.int x0)])) t
        exact XS.icmpYes X0.here hx rfl (pc0 := 119) (pc' := 192) rfl (hb hby d3_119) rfl (flt hc2).2.2.2 (by decide) (by decide) k
      refine Runs.via (T' := T0) (g' := (mkF m 197 #[.val (.int x0)] [(.int (1 : Int32))])) (fun t k => ?_) ?_
      · show Steps p.tables e below (T0.setTop (mkF m 192 #[.val (.int x0)] [])) t
        refine XS.iconst X0.here hx rfl (hb hby d3_192) ?_
        show Steps p.tables e below (T0.setTop (mkF m 193 #[.val (.int x0)] [(.int (1 : Int32))])) t
        refine XS.goto X0.here hx rfl (pc0 := 193) (pc' := 197) rfl (hb hby d3_193) (by decide) (by decide) ?_
        exact k
      refine QP.cast (congrArg (fun z => some (Value.int z)) (show (g3_108 x0) = (1 : Int32) from ((if_neg hc1).trans (if_neg hc2)))) ?_
      exact own_retN X0 hx hlk (t := .boolean) hret (by simp) (hb hby d3_197) hk hn ⟨rfl, N0, e0⟩
def g3_94 (x0 : Int32) : Int32 := (if x0 < (8204 : Int32) then (g3_108 x0) else (if (8205 : Int32) < x0 then (g3_108 x0) else (1 : Int32)))
set_option maxRecDepth 65536 in
set_option maxHeartbeats 4000000 in
theorem b3_94 (C : Ctx p s m meth c Z a0 "com/example/onto3/onto3/rdf/TermScanner" prog_39_method_41_code 1 (some .boolean) "isBaseChar") (X0 : Stand p l e ({ frames := 0, cells := 0, slots := 0, locals := 0 } : Room) s m args below meth c T0 locs cells slots) (e0 : T0.heap = h0) (N0 : Fr n0 locs) (hk : cells ≤ 0) (hn : slots ≤ 0) (x0 : Int32) :
    Runs p e below s (QP (some (.int (g3_94 x0))) h0 n0) 0 0 T0 (mkF m 94 #[.val (.int x0)] []) := by
  have ⟨hx, hZ, hw, hby, hml, hown, hret, hlk, hnm⟩ := C
  refine Runs.via (T' := T0) (g' := (mkF m 98 #[.val (.int x0)] [(.int (8204 : Int32)), (.int x0)])) (fun t k => ?_) ?_
  · show Steps p.tables e below (T0.setTop (mkF m 94 #[.val (.int x0)] [])) t
    refine XS.iloadN X0.here hx rfl (hb hby d3_94) rfl ?_
    show Steps p.tables e below (T0.setTop (mkF m 95 #[.val (.int x0)] [(.int x0)])) t
    refine XS.sipush X0.here hx rfl (hb hby d3_95) ?_
    exact k
  by_cases hc1 : x0 < (8204 : Int32)
  · refine Runs.via (T' := T0) (g' := (mkF m 108 #[.val (.int x0)] [])) (fun t k => ?_) ?_
    · show Steps p.tables e below (T0.setTop (mkF m 98 #[.val (.int x0)] [(.int (8204 : Int32)), (.int x0)])) t
      exact XS.icmpYes X0.here hx rfl (pc0 := 98) (pc' := 108) rfl (hb hby d3_98) rfl (tlt hc1).1 (by decide) (by decide) k
    refine QP.cast (congrArg (fun z => some (Value.int z)) (show (g3_94 x0) = (g3_108 x0) from (if_pos hc1))) ?_
    exact b3_108 C X0 e0 N0 hk hn x0
  · refine Runs.via (T' := T0) (g' := (mkF m 101 #[.val (.int x0)] [])) (fun t k => ?_) ?_
    · show Steps p.tables e below (T0.setTop (mkF m 98 #[.val (.int x0)] [(.int (8204 : Int32)), (.int x0)])) t
      exact XS.icmpNo X0.here hx rfl (hb hby d3_98) rfl (flt hc1).1 k
    refine Runs.via (T' := T0) (g' := (mkF m 105 #[.val (.int x0)] [(.int (8205 : Int32)), (.int x0)])) (fun t k => ?_) ?_
    · show Steps p.tables e below (T0.setTop (mkF m 101 #[.val (.int x0)] [])) t
      refine XS.iloadN X0.here hx rfl (hb hby d3_101) rfl ?_
      show Steps p.tables e below (T0.setTop (mkF m 102 #[.val (.int x0)] [(.int x0)])) t
      refine XS.sipush X0.here hx rfl (hb hby d3_102) ?_
      exact k
    by_cases hc2 : (8205 : Int32) < x0
    · refine Runs.via (T' := T0) (g' := (mkF m 108 #[.val (.int x0)] [])) (fun t k => ?_) ?_
      · show Steps p.tables e below (T0.setTop (mkF m 105 #[.val (.int x0)] [(.int (8205 : Int32)), (.int x0)])) t
        exact XS.icmpNo X0.here hx rfl (hb hby d3_105) rfl (tlt hc2).2.2.2 k
      refine QP.cast (congrArg (fun z => some (Value.int z)) (show (g3_94 x0) = (g3_108 x0) from ((if_neg hc1).trans (if_pos hc2)))) ?_
      exact b3_108 C X0 e0 N0 hk hn x0
    · refine Runs.via (T' := T0) (g' := (mkF m 192 #[.val (.int x0)] [])) (fun t k => ?_) ?_
      · show Steps p.tables e below (T0.setTop (mkF m 105 #[.val (.int x0)] [(.int (8205 : Int32)), (.int x0)])) t
        exact XS.icmpYes X0.here hx rfl (pc0 := 105) (pc' := 192) rfl (hb hby d3_105) rfl (flt hc2).2.2.2 (by decide) (by decide) k
      refine Runs.via (T' := T0) (g' := (mkF m 197 #[.val (.int x0)] [(.int (1 : Int32))])) (fun t k => ?_) ?_
      · show Steps p.tables e below (T0.setTop (mkF m 192 #[.val (.int x0)] [])) t
        refine XS.iconst X0.here hx rfl (hb hby d3_192) ?_
        show Steps p.tables e below (T0.setTop (mkF m 193 #[.val (.int x0)] [(.int (1 : Int32))])) t
        refine XS.goto X0.here hx rfl (pc0 := 193) (pc' := 197) rfl (hb hby d3_193) (by decide) (by decide) ?_
        exact k
      refine QP.cast (congrArg (fun z => some (Value.int z)) (show (g3_94 x0) = (1 : Int32) from ((if_neg hc1).trans (if_neg hc2)))) ?_
      exact own_retN X0 hx hlk (t := .boolean) hret (by simp) (hb hby d3_197) hk hn ⟨rfl, N0, e0⟩
def g3_80 (x0 : Int32) : Int32 := (if x0 < (895 : Int32) then (g3_94 x0) else (if (8191 : Int32) < x0 then (g3_94 x0) else (1 : Int32)))
set_option maxRecDepth 65536 in
set_option maxHeartbeats 4000000 in
theorem b3_80 (C : Ctx p s m meth c Z a0 "com/example/onto3/onto3/rdf/TermScanner" prog_39_method_41_code 1 (some .boolean) "isBaseChar") (X0 : Stand p l e ({ frames := 0, cells := 0, slots := 0, locals := 0 } : Room) s m args below meth c T0 locs cells slots) (e0 : T0.heap = h0) (N0 : Fr n0 locs) (hk : cells ≤ 0) (hn : slots ≤ 0) (x0 : Int32) :
    Runs p e below s (QP (some (.int (g3_80 x0))) h0 n0) 0 0 T0 (mkF m 80 #[.val (.int x0)] []) := by
  have ⟨hx, hZ, hw, hby, hml, hown, hret, hlk, hnm⟩ := C
  refine Runs.via (T' := T0) (g' := (mkF m 84 #[.val (.int x0)] [(.int (895 : Int32)), (.int x0)])) (fun t k => ?_) ?_
  · show Steps p.tables e below (T0.setTop (mkF m 80 #[.val (.int x0)] [])) t
    refine XS.iloadN X0.here hx rfl (hb hby d3_80) rfl ?_
    show Steps p.tables e below (T0.setTop (mkF m 81 #[.val (.int x0)] [(.int x0)])) t
    refine XS.sipush X0.here hx rfl (hb hby d3_81) ?_
    exact k
  by_cases hc1 : x0 < (895 : Int32)
  · refine Runs.via (T' := T0) (g' := (mkF m 94 #[.val (.int x0)] [])) (fun t k => ?_) ?_
    · show Steps p.tables e below (T0.setTop (mkF m 84 #[.val (.int x0)] [(.int (895 : Int32)), (.int x0)])) t
      exact XS.icmpYes X0.here hx rfl (pc0 := 84) (pc' := 94) rfl (hb hby d3_84) rfl (tlt hc1).1 (by decide) (by decide) k
    refine QP.cast (congrArg (fun z => some (Value.int z)) (show (g3_80 x0) = (g3_94 x0) from (if_pos hc1))) ?_
    exact b3_94 C X0 e0 N0 hk hn x0
  · refine Runs.via (T' := T0) (g' := (mkF m 87 #[.val (.int x0)] [])) (fun t k => ?_) ?_
    · show Steps p.tables e below (T0.setTop (mkF m 84 #[.val (.int x0)] [(.int (895 : Int32)), (.int x0)])) t
      exact XS.icmpNo X0.here hx rfl (hb hby d3_84) rfl (flt hc1).1 k
    refine Runs.via (T' := T0) (g' := (mkF m 91 #[.val (.int x0)] [(.int (8191 : Int32)), (.int x0)])) (fun t k => ?_) ?_
    · show Steps p.tables e below (T0.setTop (mkF m 87 #[.val (.int x0)] [])) t
      refine XS.iloadN X0.here hx rfl (hb hby d3_87) rfl ?_
      show Steps p.tables e below (T0.setTop (mkF m 88 #[.val (.int x0)] [(.int x0)])) t
      refine XS.sipush X0.here hx rfl (hb hby d3_88) ?_
      exact k
    by_cases hc2 : (8191 : Int32) < x0
    · refine Runs.via (T' := T0) (g' := (mkF m 94 #[.val (.int x0)] [])) (fun t k => ?_) ?_
      · show Steps p.tables e below (T0.setTop (mkF m 91 #[.val (.int x0)] [(.int (8191 : Int32)), (.int x0)])) t
        exact XS.icmpNo X0.here hx rfl (hb hby d3_91) rfl (tlt hc2).2.2.2 k
      refine QP.cast (congrArg (fun z => some (Value.int z)) (show (g3_80 x0) = (g3_94 x0) from ((if_neg hc1).trans (if_pos hc2)))) ?_
      exact b3_94 C X0 e0 N0 hk hn x0
    · refine Runs.via (T' := T0) (g' := (mkF m 192 #[.val (.int x0)] [])) (fun t k => ?_) ?_
      · show Steps p.tables e below (T0.setTop (mkF m 91 #[.val (.int x0)] [(.int (8191 : Int32)), (.int x0)])) t
        exact XS.icmpYes X0.here hx rfl (pc0 := 91) (pc' := 192) rfl (hb hby d3_91) rfl (flt hc2).2.2.2 (by decide) (by decide) k
      refine Runs.via (T' := T0) (g' := (mkF m 197 #[.val (.int x0)] [(.int (1 : Int32))])) (fun t k => ?_) ?_
      · show Steps p.tables e below (T0.setTop (mkF m 192 #[.val (.int x0)] [])) t
        refine XS.iconst X0.here hx rfl (hb hby d3_192) ?_
        show Steps p.tables e below (T0.setTop (mkF m 193 #[.val (.int x0)] [(.int (1 : Int32))])) t
        refine XS.goto X0.here hx rfl (pc0 := 193) (pc' := 197) rfl (hb hby d3_193) (by decide) (by decide) ?_
        exact k
      refine QP.cast (congrArg (fun z => some (Value.int z)) (show (g3_80 x0) = (1 : Int32) from ((if_neg hc1).trans (if_neg hc2)))) ?_
      exact own_retN X0 hx hlk (t := .boolean) hret (by simp) (hb hby d3_197) hk hn ⟨rfl, N0, e0⟩
def g3_66 (x0 : Int32) : Int32 := (if x0 < (880 : Int32) then (g3_80 x0) else (if (893 : Int32) < x0 then (g3_80 x0) else (1 : Int32)))
set_option maxRecDepth 65536 in
set_option maxHeartbeats 4000000 in
theorem b3_66 (C : Ctx p s m meth c Z a0 "com/example/onto3/onto3/rdf/TermScanner" prog_39_method_41_code 1 (some .boolean) "isBaseChar") (X0 : Stand p l e ({ frames := 0, cells := 0, slots := 0, locals := 0 } : Room) s m args below meth c T0 locs cells slots) (e0 : T0.heap = h0) (N0 : Fr n0 locs) (hk : cells ≤ 0) (hn : slots ≤ 0) (x0 : Int32) :
    Runs p e below s (QP (some (.int (g3_66 x0))) h0 n0) 0 0 T0 (mkF m 66 #[.val (.int x0)] []) := by
  have ⟨hx, hZ, hw, hby, hml, hown, hret, hlk, hnm⟩ := C
  refine Runs.via (T' := T0) (g' := (mkF m 70 #[.val (.int x0)] [(.int (880 : Int32)), (.int x0)])) (fun t k => ?_) ?_
  · show Steps p.tables e below (T0.setTop (mkF m 66 #[.val (.int x0)] [])) t
    refine XS.iloadN X0.here hx rfl (hb hby d3_66) rfl ?_
    show Steps p.tables e below (T0.setTop (mkF m 67 #[.val (.int x0)] [(.int x0)])) t
    refine XS.sipush X0.here hx rfl (hb hby d3_67) ?_
    exact k
  by_cases hc1 : x0 < (880 : Int32)
  · refine Runs.via (T' := T0) (g' := (mkF m 80 #[.val (.int x0)] [])) (fun t k => ?_) ?_
    · show Steps p.tables e below (T0.setTop (mkF m 70 #[.val (.int x0)] [(.int (880 : Int32)), (.int x0)])) t
      exact XS.icmpYes X0.here hx rfl (pc0 := 70) (pc' := 80) rfl (hb hby d3_70) rfl (tlt hc1).1 (by decide) (by decide) k
    refine QP.cast (congrArg (fun z => some (Value.int z)) (show (g3_66 x0) = (g3_80 x0) from (if_pos hc1))) ?_
    exact b3_80 C X0 e0 N0 hk hn x0
  · refine Runs.via (T' := T0) (g' := (mkF m 73 #[.val (.int x0)] [])) (fun t k => ?_) ?_
    · show Steps p.tables e below (T0.setTop (mkF m 70 #[.val (.int x0)] [(.int (880 : Int32)), (.int x0)])) t
      exact XS.icmpNo X0.here hx rfl (hb hby d3_70) rfl (flt hc1).1 k
    refine Runs.via (T' := T0) (g' := (mkF m 77 #[.val (.int x0)] [(.int (893 : Int32)), (.int x0)])) (fun t k => ?_) ?_
    · show Steps p.tables e below (T0.setTop (mkF m 73 #[.val (.int x0)] [])) t
      refine XS.iloadN X0.here hx rfl (hb hby d3_73) rfl ?_
      show Steps p.tables e below (T0.setTop (mkF m 74 #[.val (.int x0)] [(.int x0)])) t
      refine XS.sipush X0.here hx rfl (hb hby d3_74) ?_
      exact k
    by_cases hc2 : (893 : Int32) < x0
    · refine Runs.via (T' := T0) (g' := (mkF m 80 #[.val (.int x0)] [])) (fun t k => ?_) ?_
      · show Steps p.tables e below (T0.setTop (mkF m 77 #[.val (.int x0)] [(.int (893 : Int32)), (.int x0)])) t
        exact XS.icmpNo X0.here hx rfl (hb hby d3_77) rfl (tlt hc2).2.2.2 k
      refine QP.cast (congrArg (fun z => some (Value.int z)) (show (g3_66 x0) = (g3_80 x0) from ((if_neg hc1).trans (if_pos hc2)))) ?_
      exact b3_80 C X0 e0 N0 hk hn x0
    · refine Runs.via (T' := T0) (g' := (mkF m 192 #[.val (.int x0)] [])) (fun t k => ?_) ?_
      · show Steps p.tables e below (T0.setTop (mkF m 77 #[.val (.int x0)] [(.int (893 : Int32)), (.int x0)])) t
        exact XS.icmpYes X0.here hx rfl (pc0 := 77) (pc' := 192) rfl (hb hby d3_77) rfl (flt hc2).2.2.2 (by decide) (by decide) k
      refine Runs.via (T' := T0) (g' := (mkF m 197 #[.val (.int x0)] [(.int (1 : Int32))])) (fun t k => ?_) ?_
      · show Steps p.tables e below (T0.setTop (mkF m 192 #[.val (.int x0)] [])) t
        refine XS.iconst X0.here hx rfl (hb hby d3_192) ?_
        show Steps p.tables e below (T0.setTop (mkF m 193 #[.val (.int x0)] [(.int (1 : Int32))])) t
        refine XS.goto X0.here hx rfl (pc0 := 193) (pc' := 197) rfl (hb hby d3_193) (by decide) (by decide) ?_
        exact k
      refine QP.cast (congrArg (fun z => some (Value.int z)) (show (g3_66 x0) = (1 : Int32) from ((if_neg hc1).trans (if_neg hc2)))) ?_
      exact own_retN X0 hx hlk (t := .boolean) hret (by simp) (hb hby d3_197) hk hn ⟨rfl, N0, e0⟩
def g3_52 (x0 : Int32) : Int32 := (if x0 < (248 : Int32) then (g3_66 x0) else (if (767 : Int32) < x0 then (g3_66 x0) else (1 : Int32)))
set_option maxRecDepth 65536 in
set_option maxHeartbeats 4000000 in
theorem b3_52 (C : Ctx p s m meth c Z a0 "com/example/onto3/onto3/rdf/TermScanner" prog_39_method_41_code 1 (some .boolean) "isBaseChar") (X0 : Stand p l e ({ frames := 0, cells := 0, slots := 0, locals := 0 } : Room) s m args below meth c T0 locs cells slots) (e0 : T0.heap = h0) (N0 : Fr n0 locs) (hk : cells ≤ 0) (hn : slots ≤ 0) (x0 : Int32) :
    Runs p e below s (QP (some (.int (g3_52 x0))) h0 n0) 0 0 T0 (mkF m 52 #[.val (.int x0)] []) := by
  have ⟨hx, hZ, hw, hby, hml, hown, hret, hlk, hnm⟩ := C
  refine Runs.via (T' := T0) (g' := (mkF m 56 #[.val (.int x0)] [(.int (248 : Int32)), (.int x0)])) (fun t k => ?_) ?_
  · show Steps p.tables e below (T0.setTop (mkF m 52 #[.val (.int x0)] [])) t
    refine XS.iloadN X0.here hx rfl (hb hby d3_52) rfl ?_
    show Steps p.tables e below (T0.setTop (mkF m 53 #[.val (.int x0)] [(.int x0)])) t
    refine XS.sipush X0.here hx rfl (hb hby d3_53) ?_
    exact k
  by_cases hc1 : x0 < (248 : Int32)
  · refine Runs.via (T' := T0) (g' := (mkF m 66 #[.val (.int x0)] [])) (fun t k => ?_) ?_
    · show Steps p.tables e below (T0.setTop (mkF m 56 #[.val (.int x0)] [(.int (248 : Int32)), (.int x0)])) t
      exact XS.icmpYes X0.here hx rfl (pc0 := 56) (pc' := 66) rfl (hb hby d3_56) rfl (tlt hc1).1 (by decide) (by decide) k
    refine QP.cast (congrArg (fun z => some (Value.int z)) (show (g3_52 x0) = (g3_66 x0) from (if_pos hc1))) ?_
    exact b3_66 C X0 e0 N0 hk hn x0
  · refine Runs.via (T' := T0) (g' := (mkF m 59 #[.val (.int x0)] [])) (fun t k => ?_) ?_
    · show Steps p.tables e below (T0.setTop (mkF m 56 #[.val (.int x0)] [(.int (248 : Int32)), (.int x0)])) t
      exact XS.icmpNo X0.here hx rfl (hb hby d3_56) rfl (flt hc1).1 k
    refine Runs.via (T' := T0) (g' := (mkF m 63 #[.val (.int x0)] [(.int (767 : Int32)), (.int x0)])) (fun t k => ?_) ?_
    · show Steps p.tables e below (T0.setTop (mkF m 59 #[.val (.int x0)] [])) t
      refine XS.iloadN X0.here hx rfl (hb hby d3_59) rfl ?_
      show Steps p.tables e below (T0.setTop (mkF m 60 #[.val (.int x0)] [(.int x0)])) t
      refine XS.sipush X0.here hx rfl (hb hby d3_60) ?_
      exact k
    by_cases hc2 : (767 : Int32) < x0
    · refine Runs.via (T' := T0) (g' := (mkF m 66 #[.val (.int x0)] [])) (fun t k => ?_) ?_
      · show Steps p.tables e below (T0.setTop (mkF m 63 #[.val (.int x0)] [(.int (767 : Int32)), (.int x0)])) t
        exact XS.icmpNo X0.here hx rfl (hb hby d3_63) rfl (tlt hc2).2.2.2 k
      refine QP.cast (congrArg (fun z => some (Value.int z)) (show (g3_52 x0) = (g3_66 x0) from ((if_neg hc1).trans (if_pos hc2)))) ?_
      exact b3_66 C X0 e0 N0 hk hn x0
    · refine Runs.via (T' := T0) (g' := (mkF m 192 #[.val (.int x0)] [])) (fun t k => ?_) ?_
      · show Steps p.tables e below (T0.setTop (mkF m 63 #[.val (.int x0)] [(.int (767 : Int32)), (.int x0)])) t
        exact XS.icmpYes X0.here hx rfl (pc0 := 63) (pc' := 192) rfl (hb hby d3_63) rfl (flt hc2).2.2.2 (by decide) (by decide) k
      refine Runs.via (T' := T0) (g' := (mkF m 197 #[.val (.int x0)] [(.int (1 : Int32))])) (fun t k => ?_) ?_
      · show Steps p.tables e below (T0.setTop (mkF m 192 #[.val (.int x0)] [])) t
        refine XS.iconst X0.here hx rfl (hb hby d3_192) ?_
        show Steps p.tables e below (T0.setTop (mkF m 193 #[.val (.int x0)] [(.int (1 : Int32))])) t
        refine XS.goto X0.here hx rfl (pc0 := 193) (pc' := 197) rfl (hb hby d3_193) (by decide) (by decide) ?_
        exact k
      refine QP.cast (congrArg (fun z => some (Value.int z)) (show (g3_52 x0) = (1 : Int32) from ((if_neg hc1).trans (if_neg hc2)))) ?_
      exact own_retN X0 hx hlk (t := .boolean) hret (by simp) (hb hby d3_197) hk hn ⟨rfl, N0, e0⟩
def g3_38 (x0 : Int32) : Int32 := (if x0 < (216 : Int32) then (g3_52 x0) else (if (246 : Int32) < x0 then (g3_52 x0) else (1 : Int32)))
set_option maxRecDepth 65536 in
set_option maxHeartbeats 4000000 in
theorem b3_38 (C : Ctx p s m meth c Z a0 "com/example/onto3/onto3/rdf/TermScanner" prog_39_method_41_code 1 (some .boolean) "isBaseChar") (X0 : Stand p l e ({ frames := 0, cells := 0, slots := 0, locals := 0 } : Room) s m args below meth c T0 locs cells slots) (e0 : T0.heap = h0) (N0 : Fr n0 locs) (hk : cells ≤ 0) (hn : slots ≤ 0) (x0 : Int32) :
    Runs p e below s (QP (some (.int (g3_38 x0))) h0 n0) 0 0 T0 (mkF m 38 #[.val (.int x0)] []) := by
  have ⟨hx, hZ, hw, hby, hml, hown, hret, hlk, hnm⟩ := C
  refine Runs.via (T' := T0) (g' := (mkF m 42 #[.val (.int x0)] [(.int (216 : Int32)), (.int x0)])) (fun t k => ?_) ?_
  · show Steps p.tables e below (T0.setTop (mkF m 38 #[.val (.int x0)] [])) t
    refine XS.iloadN X0.here hx rfl (hb hby d3_38) rfl ?_
    show Steps p.tables e below (T0.setTop (mkF m 39 #[.val (.int x0)] [(.int x0)])) t
    refine XS.sipush X0.here hx rfl (hb hby d3_39) ?_
    exact k
  by_cases hc1 : x0 < (216 : Int32)
  · refine Runs.via (T' := T0) (g' := (mkF m 52 #[.val (.int x0)] [])) (fun t k => ?_) ?_
    · show Steps p.tables e below (T0.setTop (mkF m 42 #[.val (.int x0)] [(.int (216 : Int32)), (.int x0)])) t
      exact XS.icmpYes X0.here hx rfl (pc0 := 42) (pc' := 52) rfl (hb hby d3_42) rfl (tlt hc1).1 (by decide) (by decide) k
    refine QP.cast (congrArg (fun z => some (Value.int z)) (show (g3_38 x0) = (g3_52 x0) from (if_pos hc1))) ?_
    exact b3_52 C X0 e0 N0 hk hn x0
  · refine Runs.via (T' := T0) (g' := (mkF m 45 #[.val (.int x0)] [])) (fun t k => ?_) ?_
    · show Steps p.tables e below (T0.setTop (mkF m 42 #[.val (.int x0)] [(.int (216 : Int32)), (.int x0)])) t
      exact XS.icmpNo X0.here hx rfl (hb hby d3_42) rfl (flt hc1).1 k
    refine Runs.via (T' := T0) (g' := (mkF m 49 #[.val (.int x0)] [(.int (246 : Int32)), (.int x0)])) (fun t k => ?_) ?_
    · show Steps p.tables e below (T0.setTop (mkF m 45 #[.val (.int x0)] [])) t
      refine XS.iloadN X0.here hx rfl (hb hby d3_45) rfl ?_
      show Steps p.tables e below (T0.setTop (mkF m 46 #[.val (.int x0)] [(.int x0)])) t
      refine XS.sipush X0.here hx rfl (hb hby d3_46) ?_
      exact k
    by_cases hc2 : (246 : Int32) < x0
    · refine Runs.via (T' := T0) (g' := (mkF m 52 #[.val (.int x0)] [])) (fun t k => ?_) ?_
      · show Steps p.tables e below (T0.setTop (mkF m 49 #[.val (.int x0)] [(.int (246 : Int32)), (.int x0)])) t
        exact XS.icmpNo X0.here hx rfl (hb hby d3_49) rfl (tlt hc2).2.2.2 k
      refine QP.cast (congrArg (fun z => some (Value.int z)) (show (g3_38 x0) = (g3_52 x0) from ((if_neg hc1).trans (if_pos hc2)))) ?_
      exact b3_52 C X0 e0 N0 hk hn x0
    · refine Runs.via (T' := T0) (g' := (mkF m 192 #[.val (.int x0)] [])) (fun t k => ?_) ?_
      · show Steps p.tables e below (T0.setTop (mkF m 49 #[.val (.int x0)] [(.int (246 : Int32)), (.int x0)])) t
        exact XS.icmpYes X0.here hx rfl (pc0 := 49) (pc' := 192) rfl (hb hby d3_49) rfl (flt hc2).2.2.2 (by decide) (by decide) k
      refine Runs.via (T' := T0) (g' := (mkF m 197 #[.val (.int x0)] [(.int (1 : Int32))])) (fun t k => ?_) ?_
      · show Steps p.tables e below (T0.setTop (mkF m 192 #[.val (.int x0)] [])) t
        refine XS.iconst X0.here hx rfl (hb hby d3_192) ?_
        show Steps p.tables e below (T0.setTop (mkF m 193 #[.val (.int x0)] [(.int (1 : Int32))])) t
        refine XS.goto X0.here hx rfl (pc0 := 193) (pc' := 197) rfl (hb hby d3_193) (by decide) (by decide) ?_
        exact k
      refine QP.cast (congrArg (fun z => some (Value.int z)) (show (g3_38 x0) = (1 : Int32) from ((if_neg hc1).trans (if_neg hc2)))) ?_
      exact own_retN X0 hx hlk (t := .boolean) hret (by simp) (hb hby d3_197) hk hn ⟨rfl, N0, e0⟩
def g3_24 (x0 : Int32) : Int32 := (if x0 < (192 : Int32) then (g3_38 x0) else (if (214 : Int32) < x0 then (g3_38 x0) else (1 : Int32)))
set_option maxRecDepth 65536 in
set_option maxHeartbeats 4000000 in
theorem b3_24 (C : Ctx p s m meth c Z a0 "com/example/onto3/onto3/rdf/TermScanner" prog_39_method_41_code 1 (some .boolean) "isBaseChar") (X0 : Stand p l e ({ frames := 0, cells := 0, slots := 0, locals := 0 } : Room) s m args below meth c T0 locs cells slots) (e0 : T0.heap = h0) (N0 : Fr n0 locs) (hk : cells ≤ 0) (hn : slots ≤ 0) (x0 : Int32) :
    Runs p e below s (QP (some (.int (g3_24 x0))) h0 n0) 0 0 T0 (mkF m 24 #[.val (.int x0)] []) := by
  have ⟨hx, hZ, hw, hby, hml, hown, hret, hlk, hnm⟩ := C
  refine Runs.via (T' := T0) (g' := (mkF m 28 #[.val (.int x0)] [(.int (192 : Int32)), (.int x0)])) (fun t k => ?_) ?_
  · show Steps p.tables e below (T0.setTop (mkF m 24 #[.val (.int x0)] [])) t
    refine XS.iloadN X0.here hx rfl (hb hby d3_24) rfl ?_
    show Steps p.tables e below (T0.setTop (mkF m 25 #[.val (.int x0)] [(.int x0)])) t
    refine XS.sipush X0.here hx rfl (hb hby d3_25) ?_
    exact k
  by_cases hc1 : x0 < (192 : Int32)
  · refine Runs.via (T' := T0) (g' := (mkF m 38 #[.val (.int x0)] [])) (fun t k => ?_) ?_
    · show Steps p.tables e below (T0.setTop (mkF m 28 #[.val (.int x0)] [(.int (192 : Int32)), (.int x0)])) t
      exact XS.icmpYes X0.here hx rfl (pc0 := 28) (pc' := 38) rfl (hb hby d3_28) rfl (tlt hc1).1 (by decide) (by decide) k
    refine QP.cast (congrArg (fun z => some (Value.int z)) (show (g3_24 x0) = (g3_38 x0) from (if_pos hc1))) ?_
    exact b3_38 C X0 e0 N0 hk hn x0
  · refine Runs.via (T' := T0) (g' := (mkF m 31 #[.val (.int x0)] [])) (fun t k => ?_) ?_
    · show Steps p.tables e below (T0.setTop (mkF m 28 #[.val (.int x0)] [(.int (192 : Int32)), (.int x0)])) t
      exact XS.icmpNo X0.here hx rfl (hb hby d3_28) rfl (flt hc1).1 k
    refine Runs.via (T' := T0) (g' := (mkF m 35 #[.val (.int x0)] [(.int (214 : Int32)), (.int x0)])) (fun t k => ?_) ?_
    · show Steps p.tables e below (T0.setTop (mkF m 31 #[.val (.int x0)] [])) t
      refine XS.iloadN X0.here hx rfl (hb hby d3_31) rfl ?_
      show Steps p.tables e below (T0.setTop (mkF m 32 #[.val (.int x0)] [(.int x0)])) t
      refine XS.sipush X0.here hx rfl (hb hby d3_32) ?_
      exact k
    by_cases hc2 : (214 : Int32) < x0
    · refine Runs.via (T' := T0) (g' := (mkF m 38 #[.val (.int x0)] [])) (fun t k => ?_) ?_
      · show Steps p.tables e below (T0.setTop (mkF m 35 #[.val (.int x0)] [(.int (214 : Int32)), (.int x0)])) t
        exact XS.icmpNo X0.here hx rfl (hb hby d3_35) rfl (tlt hc2).2.2.2 k
      refine QP.cast (congrArg (fun z => some (Value.int z)) (show (g3_24 x0) = (g3_38 x0) from ((if_neg hc1).trans (if_pos hc2)))) ?_
      exact b3_38 C X0 e0 N0 hk hn x0
    · refine Runs.via (T' := T0) (g' := (mkF m 192 #[.val (.int x0)] [])) (fun t k => ?_) ?_
      · show Steps p.tables e below (T0.setTop (mkF m 35 #[.val (.int x0)] [(.int (214 : Int32)), (.int x0)])) t
        exact XS.icmpYes X0.here hx rfl (pc0 := 35) (pc' := 192) rfl (hb hby d3_35) rfl (flt hc2).2.2.2 (by decide) (by decide) k
      refine Runs.via (T' := T0) (g' := (mkF m 197 #[.val (.int x0)] [(.int (1 : Int32))])) (fun t k => ?_) ?_
      · show Steps p.tables e below (T0.setTop (mkF m 192 #[.val (.int x0)] [])) t
        refine XS.iconst X0.here hx rfl (hb hby d3_192) ?_
        show Steps p.tables e below (T0.setTop (mkF m 193 #[.val (.int x0)] [(.int (1 : Int32))])) t
        refine XS.goto X0.here hx rfl (pc0 := 193) (pc' := 197) rfl (hb hby d3_193) (by decide) (by decide) ?_
        exact k
      refine QP.cast (congrArg (fun z => some (Value.int z)) (show (g3_24 x0) = (1 : Int32) from ((if_neg hc1).trans (if_neg hc2)))) ?_
      exact own_retN X0 hx hlk (t := .boolean) hret (by simp) (hb hby d3_197) hk hn ⟨rfl, N0, e0⟩
def g3_12 (x0 : Int32) : Int32 := (if x0 < (97 : Int32) then (g3_24 x0) else (if (122 : Int32) < x0 then (g3_24 x0) else (1 : Int32)))
set_option maxRecDepth 65536 in
set_option maxHeartbeats 4000000 in
theorem b3_12 (C : Ctx p s m meth c Z a0 "com/example/onto3/onto3/rdf/TermScanner" prog_39_method_41_code 1 (some .boolean) "isBaseChar") (X0 : Stand p l e ({ frames := 0, cells := 0, slots := 0, locals := 0 } : Room) s m args below meth c T0 locs cells slots) (e0 : T0.heap = h0) (N0 : Fr n0 locs) (hk : cells ≤ 0) (hn : slots ≤ 0) (x0 : Int32) :
    Runs p e below s (QP (some (.int (g3_12 x0))) h0 n0) 0 0 T0 (mkF m 12 #[.val (.int x0)] []) := by
  have ⟨hx, hZ, hw, hby, hml, hown, hret, hlk, hnm⟩ := C
  refine Runs.via (T' := T0) (g' := (mkF m 15 #[.val (.int x0)] [(.int (97 : Int32)), (.int x0)])) (fun t k => ?_) ?_
  · show Steps p.tables e below (T0.setTop (mkF m 12 #[.val (.int x0)] [])) t
    refine XS.iloadN X0.here hx rfl (hb hby d3_12) rfl ?_
    show Steps p.tables e below (T0.setTop (mkF m 13 #[.val (.int x0)] [(.int x0)])) t
    refine XS.bipush X0.here hx rfl (hb hby d3_13) ?_
    exact k
  by_cases hc1 : x0 < (97 : Int32)
  · refine Runs.via (T' := T0) (g' := (mkF m 24 #[.val (.int x0)] [])) (fun t k => ?_) ?_
    · show Steps p.tables e below (T0.setTop (mkF m 15 #[.val (.int x0)] [(.int (97 : Int32)), (.int x0)])) t
      exact XS.icmpYes X0.here hx rfl (pc0 := 15) (pc' := 24) rfl (hb hby d3_15) rfl (tlt hc1).1 (by decide) (by decide) k
    refine QP.cast (congrArg (fun z => some (Value.int z)) (show (g3_12 x0) = (g3_24 x0) from (if_pos hc1))) ?_
    exact b3_24 C X0 e0 N0 hk hn x0
  · refine Runs.via (T' := T0) (g' := (mkF m 18 #[.val (.int x0)] [])) (fun t k => ?_) ?_
    · show Steps p.tables e below (T0.setTop (mkF m 15 #[.val (.int x0)] [(.int (97 : Int32)), (.int x0)])) t
      exact XS.icmpNo X0.here hx rfl (hb hby d3_15) rfl (flt hc1).1 k
    refine Runs.via (T' := T0) (g' := (mkF m 21 #[.val (.int x0)] [(.int (122 : Int32)), (.int x0)])) (fun t k => ?_) ?_
    · show Steps p.tables e below (T0.setTop (mkF m 18 #[.val (.int x0)] [])) t
      refine XS.iloadN X0.here hx rfl (hb hby d3_18) rfl ?_
      show Steps p.tables e below (T0.setTop (mkF m 19 #[.val (.int x0)] [(.int x0)])) t
      refine XS.bipush X0.here hx rfl (hb hby d3_19) ?_
      exact k
    by_cases hc2 : (122 : Int32) < x0
    · refine Runs.via (T' := T0) (g' := (mkF m 24 #[.val (.int x0)] [])) (fun t k => ?_) ?_
      · show Steps p.tables e below (T0.setTop (mkF m 21 #[.val (.int x0)] [(.int (122 : Int32)), (.int x0)])) t
        exact XS.icmpNo X0.here hx rfl (hb hby d3_21) rfl (tlt hc2).2.2.2 k
      refine QP.cast (congrArg (fun z => some (Value.int z)) (show (g3_12 x0) = (g3_24 x0) from ((if_neg hc1).trans (if_pos hc2)))) ?_
      exact b3_24 C X0 e0 N0 hk hn x0
    · refine Runs.via (T' := T0) (g' := (mkF m 192 #[.val (.int x0)] [])) (fun t k => ?_) ?_
      · show Steps p.tables e below (T0.setTop (mkF m 21 #[.val (.int x0)] [(.int (122 : Int32)), (.int x0)])) t
        exact XS.icmpYes X0.here hx rfl (pc0 := 21) (pc' := 192) rfl (hb hby d3_21) rfl (flt hc2).2.2.2 (by decide) (by decide) k
      refine Runs.via (T' := T0) (g' := (mkF m 197 #[.val (.int x0)] [(.int (1 : Int32))])) (fun t k => ?_) ?_
      · show Steps p.tables e below (T0.setTop (mkF m 192 #[.val (.int x0)] [])) t
        refine XS.iconst X0.here hx rfl (hb hby d3_192) ?_
        show Steps p.tables e below (T0.setTop (mkF m 193 #[.val (.int x0)] [(.int (1 : Int32))])) t
        refine XS.goto X0.here hx rfl (pc0 := 193) (pc' := 197) rfl (hb hby d3_193) (by decide) (by decide) ?_
        exact k
      refine QP.cast (congrArg (fun z => some (Value.int z)) (show (g3_12 x0) = (1 : Int32) from ((if_neg hc1).trans (if_neg hc2)))) ?_
      exact own_retN X0 hx hlk (t := .boolean) hret (by simp) (hb hby d3_197) hk hn ⟨rfl, N0, e0⟩
def g3_0 (x0 : Int32) : Int32 := (if x0 < (65 : Int32) then (g3_12 x0) else (if (90 : Int32) < x0 then (g3_12 x0) else (1 : Int32)))
set_option maxRecDepth 65536 in
set_option maxHeartbeats 4000000 in
theorem b3_0 (C : Ctx p s m meth c Z a0 "com/example/onto3/onto3/rdf/TermScanner" prog_39_method_41_code 1 (some .boolean) "isBaseChar") (X0 : Stand p l e ({ frames := 0, cells := 0, slots := 0, locals := 0 } : Room) s m args below meth c T0 locs cells slots) (e0 : T0.heap = h0) (N0 : Fr n0 locs) (hk : cells ≤ 0) (hn : slots ≤ 0) (x0 : Int32) :
    Runs p e below s (QP (some (.int (g3_0 x0))) h0 n0) 0 0 T0 (mkF m 0 #[.val (.int x0)] []) := by
  have ⟨hx, hZ, hw, hby, hml, hown, hret, hlk, hnm⟩ := C
  refine Runs.via (T' := T0) (g' := (mkF m 3 #[.val (.int x0)] [(.int (65 : Int32)), (.int x0)])) (fun t k => ?_) ?_
  · show Steps p.tables e below (T0.setTop (mkF m 0 #[.val (.int x0)] [])) t
    refine XS.iloadN X0.here hx rfl (hb hby d3_0) rfl ?_
    show Steps p.tables e below (T0.setTop (mkF m 1 #[.val (.int x0)] [(.int x0)])) t
    refine XS.bipush X0.here hx rfl (hb hby d3_1) ?_
    exact k
  by_cases hc1 : x0 < (65 : Int32)
  · refine Runs.via (T' := T0) (g' := (mkF m 12 #[.val (.int x0)] [])) (fun t k => ?_) ?_
    · show Steps p.tables e below (T0.setTop (mkF m 3 #[.val (.int x0)] [(.int (65 : Int32)), (.int x0)])) t
      exact XS.icmpYes X0.here hx rfl (pc0 := 3) (pc' := 12) rfl (hb hby d3_3) rfl (tlt hc1).1 (by decide) (by decide) k
    refine QP.cast (congrArg (fun z => some (Value.int z)) (show (g3_0 x0) = (g3_12 x0) from (if_pos hc1))) ?_
    exact b3_12 C X0 e0 N0 hk hn x0
  · refine Runs.via (T' := T0) (g' := (mkF m 6 #[.val (.int x0)] [])) (fun t k => ?_) ?_
    · show Steps p.tables e below (T0.setTop (mkF m 3 #[.val (.int x0)] [(.int (65 : Int32)), (.int x0)])) t
      exact XS.icmpNo X0.here hx rfl (hb hby d3_3) rfl (flt hc1).1 k
    refine Runs.via (T' := T0) (g' := (mkF m 9 #[.val (.int x0)] [(.int (90 : Int32)), (.int x0)])) (fun t k => ?_) ?_
    · show Steps p.tables e below (T0.setTop (mkF m 6 #[.val (.int x0)] [])) t
      refine XS.iloadN X0.here hx rfl (hb hby d3_6) rfl ?_
      show Steps p.tables e below (T0.setTop (mkF m 7 #[.val (.int x0)] [(.int x0)])) t
      refine XS.bipush X0.here hx rfl (hb hby d3_7) ?_
      exact k
    by_cases hc2 : (90 : Int32) < x0
    · refine Runs.via (T' := T0) (g' := (mkF m 12 #[.val (.int x0)] [])) (fun t k => ?_) ?_
      · show Steps p.tables e below (T0.setTop (mkF m 9 #[.val (.int x0)] [(.int (90 : Int32)), (.int x0)])) t
        exact XS.icmpNo X0.here hx rfl (hb hby d3_9) rfl (tlt hc2).2.2.2 k
      refine QP.cast (congrArg (fun z => some (Value.int z)) (show (g3_0 x0) = (g3_12 x0) from ((if_neg hc1).trans (if_pos hc2)))) ?_
      exact b3_12 C X0 e0 N0 hk hn x0
    · refine Runs.via (T' := T0) (g' := (mkF m 192 #[.val (.int x0)] [])) (fun t k => ?_) ?_
      · show Steps p.tables e below (T0.setTop (mkF m 9 #[.val (.int x0)] [(.int (90 : Int32)), (.int x0)])) t
        exact XS.icmpYes X0.here hx rfl (pc0 := 9) (pc' := 192) rfl (hb hby d3_9) rfl (flt hc2).2.2.2 (by decide) (by decide) k
      refine Runs.via (T' := T0) (g' := (mkF m 197 #[.val (.int x0)] [(.int (1 : Int32))])) (fun t k => ?_) ?_
      · show Steps p.tables e below (T0.setTop (mkF m 192 #[.val (.int x0)] [])) t
        refine XS.iconst X0.here hx rfl (hb hby d3_192) ?_
        show Steps p.tables e below (T0.setTop (mkF m 193 #[.val (.int x0)] [(.int (1 : Int32))])) t
        refine XS.goto X0.here hx rfl (pc0 := 193) (pc' := 197) rfl (hb hby d3_193) (by decide) (by decide) ?_
        exact k
      refine QP.cast (congrArg (fun z => some (Value.int z)) (show (g3_0 x0) = (1 : Int32) from ((if_neg hc1).trans (if_neg hc2)))) ?_
      exact own_retN X0 hx hlk (t := .boolean) hret (by simp) (hb hby d3_197) hk hn ⟨rfl, N0, e0⟩
def f3 (x0 : Int32) : Int32 := g3_0 x0
theorem pn_3 : plainName "com/example/onto3/onto3/rdf/TermScanner" = true := by first | (simp [plainName, overriddenIn]; done) | decide +kernel
theorem ef_3 (m : MethodId) (x0 : Int32) : entryFrame m #[(.int x0)] 1 = mkF m 0 #[.val (.int x0)] [] := by first | (simp [entryFrame, mkF, argsToLocals, Value.category]; done) | rfl
set_option maxRecDepth 65536 in
set_option maxHeartbeats 4000000 in
theorem rm3 (l : Launch) (Z : State) (a0 : Array Value) (hw : ∀ d ∈ tables_1, d.before a0 Z = true) (ws : List Jvm.Cond) (x0 : Int32) (h0 : Heap) (n0 : Nat) :
    MetFree l (⟨"com/example/onto3/onto3/rdf/TermScanner", "isBaseChar", "(I)Z"⟩ : MethodName) (head1 (Jvm.Cond.code (⟨"com/example/onto3/onto3/rdf/TermScanner", "isBaseChar", "(I)Z"⟩ : MethodName) prog_39_method_41_code 1 (some .boolean) :: ws) ({ frames := 0, cells := 0, slots := 0, locals := 0 } : Room)) (fun a U => a = #[(.int x0)] ∧ Z.Warmed39 U.vm ∧ U.heap = h0) (fun _ _ _ _ _ => True) (fun _ U o U' => ∃ v L, o = .returned v ∧ QP (some (.int (f3 x0))) h0 n0 v U'.heap L ∧ FrameEnd U o U' L ({ frames := 0, cells := 0, slots := 0, locals := 0 } : Room).cells ({ frames := 0, cells := 0, slots := 0, locals := 0 } : Room).slots) := by
  refine MetFree.of_bodySF (plainFor_of_name pn_3) hisR ?_
  intro p e s m args below meth c s₁ Bd hml0 hP hK
  obtain ⟨rfl, hZ, hh⟩ := hP
  have X0 : Stand p l e ({ frames := 0, cells := 0, slots := 0, locals := 0 } : Room) s m #[(.int x0)] below meth c s₁ [] 0 0 := Stand.of_body Bd
  have e0 : s₁.heap = h0 := by rw [← hh, Bd.state]; rfl
  have C : Ctx p s m meth c Z a0 "com/example/onto3/onto3/rdf/TermScanner" prog_39_method_41_code 1 (some .boolean) "isBaseChar" := ⟨Bd.exec, hZ, hw, Bd.bytes, hml0, findClass_of_methodNamed Bd.named, Bd.returns, BodyLoose.notSynchronized Bd, (name_of_methodNamed Bd.named Bd.method).1⟩
  refine Runs.via (fun t k => castTop (ef_3 m x0) k) (b3_0 C X0 e0 (Fr.nil n0) (Nat.le_refl 0) (Nat.le_refl 0) x0)
theorem pd_0 : parseMethodDescriptor "(I)Z" = some ⟨[.int], some .boolean⟩ := by decide +kernel
theorem d2_0 : decode prog_39_method_42_code 0 = .ok (.iload_n 0, 1) := by decide +kernel
theorem d2_1 : decode prog_39_method_42_code 1 = .ok (.invokestatic 209, 3) := by decide +kernel
theorem d2_4 : decode prog_39_method_42_code 4 = .ok (.ifCond .ne 9, 3) := by decide +kernel
theorem d2_7 : decode prog_39_method_42_code 7 = .ok (.iload_n 0, 1) := by decide +kernel
theorem d2_8 : decode prog_39_method_42_code 8 = .ok (.bipush 95, 2) := by decide +kernel
theorem d2_10 : decode prog_39_method_42_code 10 = .ok (.if_icmp .ne 7, 3) := by decide +kernel
theorem d2_13 : decode prog_39_method_42_code 13 = .ok (.iconst 1, 1) := by decide +kernel
theorem d2_14 : decode prog_39_method_42_code 14 = .ok (.goto 4, 3) := by decide +kernel
theorem d2_17 : decode prog_39_method_42_code 17 = .ok (.iconst 0, 1) := by decide +kernel
theorem d2_18 : decode prog_39_method_42_code 18 = .ok (.ireturn, 1) := by decide +kernel
def g2_0 (x0 : Int32) : Int32 := (if (f3 x0) = (0 : Int32) then (if x0 = (95 : Int32) then (1 : Int32) else (0 : Int32)) else (1 : Int32))
set_option maxRecDepth 65536 in
set_option maxHeartbeats 4000000 in
theorem b2_0 (C : Ctx p s m meth c Z a0 "com/example/onto3/onto3/rdf/TermScanner" prog_39_method_42_code 1 (some .boolean) "isNameStartChar") (X0 : Stand p l e ({ frames := 1, cells := 0, slots := 0, locals := 12 } : Room) s m args below meth c T0 locs cells slots) (e0 : T0.heap = h0) (N0 : Fr n0 locs) (hk : cells ≤ 0) (hn : slots ≤ 0) (x0 : Int32) :
    Runs p e below s (QP (some (.int (g2_0 x0))) h0 n0) 0 0 T0 (mkF m 0 #[.val (.int x0)] []) := by
  have ⟨hx, hZ, hw, hby, hml, hown, hret, hlk, hnm⟩ := C
  refine Runs.via (T' := T0) (g' := (mkF m 1 #[.val (.int x0)] [(.int x0)])) (fun t k => ?_) ?_
  · show Steps p.tables e below (T0.setTop (mkF m 0 #[.val (.int x0)] [])) t
    refine XS.iloadN X0.here hx rfl (hb hby d2_0) rfl ?_
    exact k
  obtain ⟨_, _, ⟨T1, L1, k1, n1⟩, -, X1, ⟨Lc1, hQ1, l1, y1, z1⟩, st1⟩ := Jvm.LawKit.callS X0 hx (y := (⟨"com/example/onto3/onto3/rdf/TermScanner", "isBaseChar", "(I)Z"⟩ : MethodName)) hown (mvT hZ (hw _ (List.mem_of_getElem? (i := 7) rfl))) (mvT hZ (hw _ (List.mem_of_getElem? (i := 8) rfl))) (mvT hZ (hw _ (List.mem_of_getElem? (i := 2) rfl))) (mvT hZ (hw _ (List.mem_of_getElem? (i := 9) rfl))) (by decide) (backOf (W := 0) (rm3 l Z a0 hw [] x0 h0 n0) hZ (hw _ (List.mem_of_getElem? (i := 9) rfl)) (hw _ (List.mem_of_getElem? (i := 2) rfl)) (by decide) (by decide)) (g := (mkF m 1 #[.val (.int x0)] [(.int x0)])) rfl (by rw [hml]; rfl) (argsL := [(.int x0)]) (rest := []) (lenOf pd_0 rfl) rfl (by show 2 * 0 + _ ≤ _; exact Nat.le_of_eq rfl) (hb hby d2_1) (fun _ _ => ⟨rfl, e0, (Nat.le_trans hk (by decide)), (Nat.le_trans hn (by decide))⟩)
  dsimp only [Pt.U, Pt.locs, Pt.cells, Pt.slots] at X1 l1 y1 z1 st1 hQ1
  subst l1 y1 z1
  obtain ⟨rfl, N1q, e1⟩ := hQ1
  have N1 := Fr.app N0 N1q
  refine Runs.via (T' := T1) (g' := (mkF m 4 #[.val (.int x0)] [(.int (f3 x0))])) (fun t k => st1 _ k) ?_
  by_cases hc2 : (f3 x0) = (0 : Int32)
  · refine Runs.via (T' := T1) (g' := (mkF m 7 #[.val (.int x0)] [])) (fun t k => ?_) ?_
    · show Steps p.tables e below (T1.setTop (mkF m 4 #[.val (.int x0)] [(.int (f3 x0))])) t
      exact XS.ifNo X1.here hx rfl (hb hby d2_4) rfl ((if0 _ _).trans (teq hc2).2) k
    refine Runs.via (T' := T1) (g' := (mkF m 10 #[.val (.int x0)] [(.int (95 : Int32)), (.int x0)])) (fun t k => ?_) ?_
    · show Steps p.tables e below (T1.setTop (mkF m 7 #[.val (.int x0)] [])) t
      refine XS.iloadN X1.here hx rfl (hb hby d2_7) rfl ?_
      show Steps p.tables e below (T1.setTop (mkF m 8 #[.val (.int x0)] [(.int x0)])) t
      refine XS.bipush X1.here hx rfl (hb hby d2_8) ?_
      exact k
    by_cases hc3 : x0 = (95 : Int32)
    · refine Runs.via (T' := T1) (g' := (mkF m 13 #[.val (.int x0)] [])) (fun t k => ?_) ?_
      · show Steps p.tables e below (T1.setTop (mkF m 10 #[.val (.int x0)] [(.int (95 : Int32)), (.int x0)])) t
        exact XS.icmpNo X1.here hx rfl (hb hby d2_10) rfl (teq hc3).2 k
      refine Runs.via (T' := T1) (g' := (mkF m 18 #[.val (.int x0)] [(.int (1 : Int32))])) (fun t k => ?_) ?_
      · show Steps p.tables e below (T1.setTop (mkF m 13 #[.val (.int x0)] [])) t
        refine XS.iconst X1.here hx rfl (hb hby d2_13) ?_
        show Steps p.tables e below (T1.setTop (mkF m 14 #[.val (.int x0)] [(.int (1 : Int32))])) t
        refine XS.goto X1.here hx rfl (pc0 := 14) (pc' := 18) rfl (hb hby d2_14) (by decide) (by decide) ?_
        exact k
      refine QP.cast (congrArg (fun z => some (Value.int z)) (show (g2_0 x0) = (1 : Int32) from ((if_pos hc2).trans (if_pos hc3)))) ?_
      exact own_retN X1 hx hlk (t := .boolean) hret (by simp) (hb hby d2_18) hk hn ⟨rfl, N1, e1⟩
    · refine Runs.via (T' := T1) (g' := (mkF m 17 #[.val (.int x0)] [])) (fun t k => ?_) ?_
      · show Steps p.tables e below (T1.setTop (mkF m 10 #[.val (.int x0)] [(.int (95 : Int32)), (.int x0)])) t
        exact XS.icmpYes X1.here hx rfl (pc0 := 10) (pc' := 17) rfl (hb hby d2_10) rfl (feq hc3).2 (by decide) (by decide) k
      refine Runs.via (T' := T1) (g' := (mkF m 18 #[.val (.int x0)] [(.int (0 : Int32))])) (fun t k => ?_) ?_
      · show Steps p.tables e below (T1.setTop (mkF m 17 #[.val (.int x0)] [])) t
        refine XS.iconst X1.here hx rfl (hb hby d2_17) ?_
        exact k
      refine QP.cast (congrArg (fun z => some (Value.int z)) (show (g2_0 x0) = (0 : Int32) from ((if_pos hc2).trans (if_neg hc3)))) ?_
      exact own_retN X1 hx hlk (t := .boolean) hret (by simp) (hb hby d2_18) hk hn ⟨rfl, N1, e1⟩
  · refine Runs.via (T' := T1) (g' := (mkF m 13 #[.val (.int x0)] [])) (fun t k => ?_) ?_
    · show Steps p.tables e below (T1.setTop (mkF m 4 #[.val (.int x0)] [(.int (f3 x0))])) t
      exact XS.ifYes X1.here hx rfl (pc0 := 4) (pc' := 13) rfl (hb hby d2_4) rfl ((if0 _ _).trans (feq hc2).2) (by decide) (by decide) k
    refine Runs.via (T' := T1) (g' := (mkF m 18 #[.val (.int x0)] [(.int (1 : Int32))])) (fun t k => ?_) ?_
    · show Steps p.tables e below (T1.setTop (mkF m 13 #[.val (.int x0)] [])) t
      refine XS.iconst X1.here hx rfl (hb hby d2_13) ?_
      show Steps p.tables e below (T1.setTop (mkF m 14 #[.val (.int x0)] [(.int (1 : Int32))])) t
      refine XS.goto X1.here hx rfl (pc0 := 14) (pc' := 18) rfl (hb hby d2_14) (by decide) (by decide) ?_
      exact k
    refine QP.cast (congrArg (fun z => some (Value.int z)) (show (g2_0 x0) = (1 : Int32) from (if_neg hc2))) ?_
    exact own_retN X1 hx hlk (t := .boolean) hret (by simp) (hb hby d2_18) hk hn ⟨rfl, N1, e1⟩
def f2 (x0 : Int32) : Int32 := g2_0 x0
theorem pn_2 : plainName "com/example/onto3/onto3/rdf/TermScanner" = true := by first | (simp [plainName, overriddenIn]; done) | decide +kernel
theorem ef_2 (m : MethodId) (x0 : Int32) : entryFrame m #[(.int x0)] 1 = mkF m 0 #[.val (.int x0)] [] := by first | (simp [entryFrame, mkF, argsToLocals, Value.category]; done) | rfl
set_option maxRecDepth 65536 in
set_option maxHeartbeats 4000000 in
theorem rm2 (l : Launch) (Z : State) (a0 : Array Value) (hw : ∀ d ∈ tables_1, d.before a0 Z = true) (ws : List Jvm.Cond) (x0 : Int32) (h0 : Heap) (n0 : Nat) :
    MetFree l (⟨"com/example/onto3/onto3/rdf/TermScanner", "isNameStartChar", "(I)Z"⟩ : MethodName) (head1 (Jvm.Cond.code (⟨"com/example/onto3/onto3/rdf/TermScanner", "isNameStartChar", "(I)Z"⟩ : MethodName) prog_39_method_42_code 1 (some .boolean) :: ws) ({ frames := 1, cells := 0, slots := 0, locals := 12 } : Room)) (fun a U => a = #[(.int x0)] ∧ Z.Warmed39 U.vm ∧ U.heap = h0) (fun _ _ _ _ _ => True) (fun _ U o U' => ∃ v L, o = .returned v ∧ QP (some (.int (f2 x0))) h0 n0 v U'.heap L ∧ FrameEnd U o U' L ({ frames := 1, cells := 0, slots := 0, locals := 12 } : Room).cells ({ frames := 1, cells := 0, slots := 0, locals := 12 } : Room).slots) := by
  refine MetFree.of_bodySF (plainFor_of_name pn_2) hisR ?_
  intro p e s m args below meth c s₁ Bd hml0 hP hK
  obtain ⟨rfl, hZ, hh⟩ := hP
  have X0 : Stand p l e ({ frames := 1, cells := 0, slots := 0, locals := 12 } : Room) s m #[(.int x0)] below meth c s₁ [] 0 0 := Stand.of_body Bd
  have e0 : s₁.heap = h0 := by rw [← hh, Bd.state]; rfl
  have C : Ctx p s m meth c Z a0 "com/example/onto3/onto3/rdf/TermScanner" prog_39_method_42_code 1 (some .boolean) "isNameStartChar" := ⟨Bd.exec, hZ, hw, Bd.bytes, hml0, findClass_of_methodNamed Bd.named, Bd.returns, BodyLoose.notSynchronized Bd, (name_of_methodNamed Bd.named Bd.method).1⟩
  refine Runs.via (fun t k => castTop (ef_2 m x0) k) (b2_0 C X0 e0 (Fr.nil n0) (Nat.le_refl 0) (Nat.le_refl 0) x0)
theorem d1_0 : decode prog_39_method_43_code 0 = .ok (.iload_n 0, 1) := by decide +kernel
theorem d1_1 : decode prog_39_method_43_code 1 = .ok (.invokestatic 237, 3) := by decide +kernel
theorem d1_4 : decode prog_39_method_43_code 4 = .ok (.ifCond .ne 56, 3) := by decide +kernel
theorem d1_7 : decode prog_39_method_43_code 7 = .ok (.iload_n 0, 1) := by decide +kernel
theorem d1_8 : decode prog_39_method_43_code 8 = .ok (.bipush 45, 2) := by decide +kernel
theorem d1_10 : decode prog_39_method_43_code 10 = .ok (.if_icmp .eq 50, 3) := by decide +kernel
theorem d1_13 : decode prog_39_method_43_code 13 = .ok (.iload_n 0, 1) := by decide +kernel
theorem d1_14 : decode prog_39_method_43_code 14 = .ok (.bipush 48, 2) := by decide +kernel
theorem d1_16 : decode prog_39_method_43_code 16 = .ok (.if_icmp .lt 9, 3) := by decide +kernel
theorem d1_19 : decode prog_39_method_43_code 19 = .ok (.iload_n 0, 1) := by decide +kernel
theorem d1_20 : decode prog_39_method_43_code 20 = .ok (.bipush 57, 2) := by decide +kernel
theorem d1_22 : decode prog_39_method_43_code 22 = .ok (.if_icmp .le 38, 3) := by decide +kernel
theorem d1_25 : decode prog_39_method_43_code 25 = .ok (.iload_n 0, 1) := by decide +kernel
theorem d1_26 : decode prog_39_method_43_code 26 = .ok (.sipush 183, 3) := by decide +kernel
theorem d1_29 : decode prog_39_method_43_code 29 = .ok (.if_icmp .eq 31, 3) := by decide +kernel
theorem d1_32 : decode prog_39_method_43_code 32 = .ok (.iload_n 0, 1) := by decide +kernel
theorem d1_33 : decode prog_39_method_43_code 33 = .ok (.sipush 768, 3) := by decide +kernel
theorem d1_36 : decode prog_39_method_43_code 36 = .ok (.if_icmp .lt 10, 3) := by decide +kernel
theorem d1_39 : decode prog_39_method_43_code 39 = .ok (.iload_n 0, 1) := by decide +kernel
theorem d1_40 : decode prog_39_method_43_code 40 = .ok (.sipush 879, 3) := by decide +kernel
theorem d1_43 : decode prog_39_method_43_code 43 = .ok (.if_icmp .le 17, 3) := by decide +kernel
theorem d1_46 : decode prog_39_method_43_code 46 = .ok (.iload_n 0, 1) := by decide +kernel
theorem d1_47 : decode prog_39_method_43_code 47 = .ok (.sipush 8255, 3) := by decide +kernel
theorem d1_50 : decode prog_39_method_43_code 50 = .ok (.if_icmp .eq 10, 3) := by decide +kernel
theorem d1_53 : decode prog_39_method_43_code 53 = .ok (.iload_n 0, 1) := by decide +kernel
theorem d1_54 : decode prog_39_method_43_code 54 = .ok (.sipush 8256, 3) := by decide +kernel
theorem d1_57 : decode prog_39_method_43_code 57 = .ok (.if_icmp .ne 7, 3) := by decide +kernel
theorem d1_60 : decode prog_39_method_43_code 60 = .ok (.iconst 1, 1) := by decide +kernel
theorem d1_61 : decode prog_39_method_43_code 61 = .ok (.goto 4, 3) := by decide +kernel
theorem d1_64 : decode prog_39_method_43_code 64 = .ok (.iconst 0, 1) := by decide +kernel
theorem d1_65 : decode prog_39_method_43_code 65 = .ok (.ireturn, 1) := by decide +kernel
def g1_46 (x0 : Int32) : Int32 := (if x0 = (8255 : Int32) then (1 : Int32) else (if x0 = (8256 : Int32) then (1 : Int32) else (0 : Int32)))
set_option maxRecDepth 65536 in
set_option maxHeartbeats 4000000 in
theorem b1_46 (C : Ctx p s m meth c Z a0 "com/example/onto3/onto3/rdf/TermScanner" prog_39_method_43_code 1 (some .boolean) "isNameChar") (X0 : Stand p l e ({ frames := 2, cells := 0, slots := 0, locals := 24 } : Room) s m args below meth c T0 locs cells slots) (e0 : T0.heap = h0) (N0 : Fr n0 locs) (hk : cells ≤ 0) (hn : slots ≤ 0) (x0 : Int32) :
    Runs p e below s (QP (some (.int (g1_46 x0))) h0 n0) 0 0 T0 (mkF m 46 #[.val (.int x0)] []) := by
  have ⟨hx, hZ, hw, hby, hml, hown, hret, hlk, hnm⟩ := C
  refine Runs.via (T' := T0) (g' := (mkF m 50 #[.val (.int x0)] [(.int (8255 : Int32)), (.int x0)])) (fun t k => ?_) ?_
  · show Steps p.tables e below (T0.setTop (mkF m 46 #[.val (.int x0)] [])) t
    refine XS.iloadN X0.here hx rfl (hb hby d1_46) rfl ?_
    show Steps p.tables e below (T0.setTop (mkF m 47 #[.val (.int x0)] [(.int x0)])) t
    refine XS.sipush X0.here hx rfl (hb hby d1_47) ?_
    exact k
  by_cases hc1 : x0 = (8255 : Int32)
  · refine Runs.via (T' := T0) (g' := (mkF m 60 #[.val (.int x0)] [])) (fun t k => ?_) ?_
    · show Steps p.tables e below (T0.setTop (mkF m 50 #[.val (.int x0)] [(.int (8255 : Int32)), (.int x0)])) t
      exact XS.icmpYes X0.here hx rfl (pc0 := 50) (pc' := 60) rfl (hb hby d1_50) rfl (teq hc1).1 (by decide) (by decide) k
    refine Runs.via (T' := T0) (g' := (mkF m 65 #[.val (.int x0)] [(.int (1 : Int32))])) (fun t k => ?_) ?_
    · show Steps p.tables e below (T0.setTop (mkF m 60 #[.val (.int x0)] [])) t
      refine XS.iconst X0.here hx rfl (hb hby d1_60) ?_
      show Steps p.tables e below (T0.setTop (mkF m 61 #[.val (.int x0)] [(.int (1 : Int32))])) t
      refine XS.goto X0.here hx rfl (pc0 := 61) (pc' := 65) rfl (hb hby d1_61) (by decide) (by decide) ?_
      exact k
    refine QP.cast (congrArg (fun z => some (Value.int z)) (show (g1_46 x0) = (1 : Int32) from (if_pos hc1))) ?_
    exact own_retN X0 hx hlk (t := .boolean) hret (by simp) (hb hby d1_65) hk hn ⟨rfl, N0, e0⟩
  · refine Runs.via (T' := T0) (g' := (mkF m 53 #[.val (.int x0)] [])) (fun t k => ?_) ?_
    · show Steps p.tables e below (T0.setTop (mkF m 50 #[.val (.int x0)] [(.int (8255 : Int32)), (.int x0)])) t
      exact XS.icmpNo X0.here hx rfl (hb hby d1_50) rfl (feq hc1).1 k
    refine Runs.via (T' := T0) (g' := (mkF m 57 #[.val (.int x0)] [(.int (8256 : Int32)), (.int x0)])) (fun t k => ?_) ?_
    · show Steps p.tables e below (T0.setTop (mkF m 53 #[.val (.int x0)] [])) t
      refine XS.iloadN X0.here hx rfl (hb hby d1_53) rfl ?_
      show Steps p.tables e below (T0.setTop (mkF m 54 #[.val (.int x0)] [(.int x0)])) t
      refine XS.sipush X0.here hx rfl (hb hby d1_54) ?_
      exact k
    by_cases hc2 : x0 = (8256 : Int32)
    · refine Runs.via (T' := T0) (g' := (mkF m 60 #[.val (.int x0)] [])) (fun t k => ?_) ?_
      · show Steps p.tables e below (T0.setTop (mkF m 57 #[.val (.int x0)] [(.int (8256 : Int32)), (.int x0)])) t
        exact XS.icmpNo X0.here hx rfl (hb hby d1_57) rfl (teq hc2).2 k
      refine Runs.via (T' := T0) (g' := (mkF m 65 #[.val (.int x0)] [(.int (1 : Int32))])) (fun t k => ?_) ?_
      · show Steps p.tables e below (T0.setTop (mkF m 60 #[.val (.int x0)] [])) t
        refine XS.iconst X0.here hx rfl (hb hby d1_60) ?_
        show Steps p.tables e below (T0.setTop (mkF m 61 #[.val (.int x0)] [(.int (1 : Int32))])) t
        refine XS.goto X0.here hx rfl (pc0 := 61) (pc' := 65) rfl (hb hby d1_61) (by decide) (by decide) ?_
        exact k
      refine QP.cast (congrArg (fun z => some (Value.int z)) (show (g1_46 x0) = (1 : Int32) from ((if_neg hc1).trans (if_pos hc2)))) ?_
      exact own_retN X0 hx hlk (t := .boolean) hret (by simp) (hb hby d1_65) hk hn ⟨rfl, N0, e0⟩
    · refine Runs.via (T' := T0) (g' := (mkF m 64 #[.val (.int x0)] [])) (fun t k => ?_) ?_
      · show Steps p.tables e below (T0.setTop (mkF m 57 #[.val (.int x0)] [(.int (8256 : Int32)), (.int x0)])) t
        exact XS.icmpYes X0.here hx rfl (pc0 := 57) (pc' := 64) rfl (hb hby d1_57) rfl (feq hc2).2 (by decide) (by decide) k
      refine Runs.via (T' := T0) (g' := (mkF m 65 #[.val (.int x0)] [(.int (0 : Int32))])) (fun t k => ?_) ?_
      · show Steps p.tables e below (T0.setTop (mkF m 64 #[.val (.int x0)] [])) t
        refine XS.iconst X0.here hx rfl (hb hby d1_64) ?_
        exact k
      refine QP.cast (congrArg (fun z => some (Value.int z)) (show (g1_46 x0) = (0 : Int32) from ((if_neg hc1).trans (if_neg hc2)))) ?_
      exact own_retN X0 hx hlk (t := .boolean) hret (by simp) (hb hby d1_65) hk hn ⟨rfl, N0, e0⟩
def g1_25 (x0 : Int32) : Int32 := (if x0 = (183 : Int32) then (1 : Int32) else (if x0 < (768 : Int32) then (g1_46 x0) else (if (879 : Int32) < x0 then (g1_46 x0) else (1 : Int32))))
set_option maxRecDepth 65536 in
set_option maxHeartbeats 4000000 in
theorem b1_25 (C : Ctx p s m meth c Z a0 "com/example/onto3/onto3/rdf/TermScanner" prog_39_method_43_code 1 (some .boolean) "isNameChar") (X0 : Stand p l e ({ frames := 2, cells := 0, slots := 0, locals := 24 } : Room) s m args below meth c T0 locs cells slots) (e0 : T0.heap = h0) (N0 : Fr n0 locs) (hk : cells ≤ 0) (hn : slots ≤ 0) (x0 : Int32) :
    Runs p e below s (QP (some (.int (g1_25 x0))) h0 n0) 0 0 T0 (mkF m 25 #[.val (.int x0)] []) := by
  have ⟨hx, hZ, hw, hby, hml, hown, hret, hlk, hnm⟩ := C
  refine Runs.via (T' := T0) (g' := (mkF m 29 #[.val (.int x0)] [(.int (183 : Int32)), (.int x0)])) (fun t k => ?_) ?_
  · show Steps p.tables e below (T0.setTop (mkF m 25 #[.val (.int x0)] [])) t
    refine XS.iloadN X0.here hx rfl (hb hby d1_25) rfl ?_
    show Steps p.tables e below (T0.setTop (mkF m 26 #[.val (.int x0)] [(.int x0)])) t
    refine XS.sipush X0.here hx rfl (hb hby d1_26) ?_
    exact k
  by_cases hc1 : x0 = (183 : Int32)
  · refine Runs.via (T' := T0) (g' := (mkF m 60 #[.val (.int x0)] [])) (fun t k => ?_) ?_
    · show Steps p.tables e below (T0.setTop (mkF m 29 #[.val (.int x0)] [(.int (183 : Int32)), (.int x0)])) t
      exact XS.icmpYes X0.here hx rfl (pc0 := 29) (pc' := 60) rfl (hb hby d1_29) rfl (teq hc1).1 (by decide) (by decide) k
    refine Runs.via (T' := T0) (g' := (mkF m 65 #[.val (.int x0)] [(.int (1 : Int32))])) (fun t k => ?_) ?_
    · show Steps p.tables e below (T0.setTop (mkF m 60 #[.val (.int x0)] [])) t
      refine XS.iconst X0.here hx rfl (hb hby d1_60) ?_
      show Steps p.tables e below (T0.setTop (mkF m 61 #[.val (.int x0)] [(.int (1 : Int32))])) t
      refine XS.goto X0.here hx rfl (pc0 := 61) (pc' := 65) rfl (hb hby d1_61) (by decide) (by decide) ?_
      exact k
    refine QP.cast (congrArg (fun z => some (Value.int z)) (show (g1_25 x0) = (1 : Int32) from (if_pos hc1))) ?_
    exact own_retN X0 hx hlk (t := .boolean) hret (by simp) (hb hby d1_65) hk hn ⟨rfl, N0, e0⟩
  · refine Runs.via (T' := T0) (g' := (mkF m 32 #[.val (.int x0)] [])) (fun t k => ?_) ?_
    · show Steps p.tables e below (T0.setTop (mkF m 29 #[.val (.int x0)] [(.int (183 : Int32)), (.int x0)])) t
      exact XS.icmpNo X0.here hx rfl (hb hby d1_29) rfl (feq hc1).1 k
    refine Runs.via (T' := T0) (g' := (mkF m 36 #[.val (.int x0)] [(.int (768 : Int32)), (.int x0)])) (fun t k => ?_) ?_
    · show Steps p.tables e below (T0.setTop (mkF m 32 #[.val (.int x0)] [])) t
      refine XS.iloadN X0.here hx rfl (hb hby d1_32) rfl ?_
      show Steps p.tables e below (T0.setTop (mkF m 33 #[.val (.int x0)] [(.int x0)])) t
      refine XS.sipush X0.here hx rfl (hb hby d1_33) ?_
      exact k
    by_cases hc2 : x0 < (768 : Int32)
    · refine Runs.via (T' := T0) (g' := (mkF m 46 #[.val (.int x0)] [])) (fun t k => ?_) ?_
      · show Steps p.tables e below (T0.setTop (mkF m 36 #[.val (.int x0)] [(.int (768 : Int32)), (.int x0)])) t
        exact XS.icmpYes X0.here hx rfl (pc0 := 36) (pc' := 46) rfl (hb hby d1_36) rfl (tlt hc2).1 (by decide) (by decide) k
      refine QP.cast (congrArg (fun z => some (Value.int z)) (show (g1_25 x0) = (g1_46 x0) from ((if_neg hc1).trans (if_pos hc2)))) ?_
      exact b1_46 C X0 e0 N0 hk hn x0
    · refine Runs.via (T' := T0) (g' := (mkF m 39 #[.val (.int x0)] [])) (fun t k => ?_) ?_
      · show Steps p.tables e below (T0.setTop (mkF m 36 #[.val (.int x0)] [(.int (768 : Int32)), (.int x0)])) t
        exact XS.icmpNo X0.here hx rfl (hb hby d1_36) rfl (flt hc2).1 k
      refine Runs.via (T' := T0) (g' := (mkF m 43 #[.val (.int x0)] [(.int (879 : Int32)), (.int x0)])) (fun t k => ?_) ?_
      · show Steps p.tables e below (T0.setTop (mkF m 39 #[.val (.int x0)] [])) t
        refine XS.iloadN X0.here hx rfl (hb hby d1_39) rfl ?_
        show Steps p.tables e below (T0.setTop (mkF m 40 #[.val (.int x0)] [(.int x0)])) t
        refine XS.sipush X0.here hx rfl (hb hby d1_40) ?_
        exact k
      by_cases hc3 : (879 : Int32) < x0
      · refine Runs.via (T' := T0) (g' := (mkF m 46 #[.val (.int x0)] [])) (fun t k => ?_) ?_
        · show Steps p.tables e below (T0.setTop (mkF m 43 #[.val (.int x0)] [(.int (879 : Int32)), (.int x0)])) t
          exact XS.icmpNo X0.here hx rfl (hb hby d1_43) rfl (tlt hc3).2.2.2 k
        refine QP.cast (congrArg (fun z => some (Value.int z)) (show (g1_25 x0) = (g1_46 x0) from ((if_neg hc1).trans ((if_neg hc2).trans (if_pos hc3))))) ?_
        exact b1_46 C X0 e0 N0 hk hn x0
      · refine Runs.via (T' := T0) (g' := (mkF m 60 #[.val (.int x0)] [])) (fun t k => ?_) ?_
        · show Steps p.tables e below (T0.setTop (mkF m 43 #[.val (.int x0)] [(.int (879 : Int32)), (.int x0)])) t
          exact XS.icmpYes X0.here hx rfl (pc0 := 43) (pc' := 60) rfl (hb hby d1_43) rfl (flt hc3).2.2.2 (by decide) (by decide) k
        refine Runs.via (T' := T0) (g' := (mkF m 65 #[.val (.int x0)] [(.int (1 : Int32))])) (fun t k => ?_) ?_
        · show Steps p.tables e below (T0.setTop (mkF m 60 #[.val (.int x0)] [])) t
          refine XS.iconst X0.here hx rfl (hb hby d1_60) ?_
          show Steps p.tables e below (T0.setTop (mkF m 61 #[.val (.int x0)] [(.int (1 : Int32))])) t
          refine XS.goto X0.here hx rfl (pc0 := 61) (pc' := 65) rfl (hb hby d1_61) (by decide) (by decide) ?_
          exact k
        refine QP.cast (congrArg (fun z => some (Value.int z)) (show (g1_25 x0) = (1 : Int32) from ((if_neg hc1).trans ((if_neg hc2).trans (if_neg hc3))))) ?_
        exact own_retN X0 hx hlk (t := .boolean) hret (by simp) (hb hby d1_65) hk hn ⟨rfl, N0, e0⟩
def g1_0 (x0 : Int32) : Int32 := (if (f2 x0) = (0 : Int32) then (if x0 = (45 : Int32) then (1 : Int32) else (if x0 < (48 : Int32) then (g1_25 x0) else (if (57 : Int32) < x0 then (g1_25 x0) else (1 : Int32)))) else (1 : Int32))
set_option maxRecDepth 65536 in
set_option maxHeartbeats 4000000 in
theorem b1_0 (C : Ctx p s m meth c Z a0 "com/example/onto3/onto3/rdf/TermScanner" prog_39_method_43_code 1 (some .boolean) "isNameChar") (X0 : Stand p l e ({ frames := 2, cells := 0, slots := 0, locals := 24 } : Room) s m args below meth c T0 locs cells slots) (e0 : T0.heap = h0) (N0 : Fr n0 locs) (hk : cells ≤ 0) (hn : slots ≤ 0) (x0 : Int32) :
    Runs p e below s (QP (some (.int (g1_0 x0))) h0 n0) 0 0 T0 (mkF m 0 #[.val (.int x0)] []) := by
  have ⟨hx, hZ, hw, hby, hml, hown, hret, hlk, hnm⟩ := C
  refine Runs.via (T' := T0) (g' := (mkF m 1 #[.val (.int x0)] [(.int x0)])) (fun t k => ?_) ?_
  · show Steps p.tables e below (T0.setTop (mkF m 0 #[.val (.int x0)] [])) t
    refine XS.iloadN X0.here hx rfl (hb hby d1_0) rfl ?_
    exact k
  obtain ⟨_, _, ⟨T1, L1, k1, n1⟩, -, X1, ⟨Lc1, hQ1, l1, y1, z1⟩, st1⟩ := Jvm.LawKit.callS X0 hx (y := (⟨"com/example/onto3/onto3/rdf/TermScanner", "isNameStartChar", "(I)Z"⟩ : MethodName)) hown (mvT hZ (hw _ (List.mem_of_getElem? (i := 4) rfl))) (mvT hZ (hw _ (List.mem_of_getElem? (i := 5) rfl))) (mvT hZ (hw _ (List.mem_of_getElem? (i := 2) rfl))) (mvT hZ (hw _ (List.mem_of_getElem? (i := 6) rfl))) (by decide) (backOf (W := 0) (rm2 l Z a0 hw [] x0 h0 n0) hZ (hw _ (List.mem_of_getElem? (i := 6) rfl)) (hw _ (List.mem_of_getElem? (i := 2) rfl)) (by decide) (by decide)) (g := (mkF m 1 #[.val (.int x0)] [(.int x0)])) rfl (by rw [hml]; rfl) (argsL := [(.int x0)]) (rest := []) (lenOf pd_0 rfl) rfl (by show 2 * 0 + _ ≤ _; exact Nat.le_of_eq rfl) (hb hby d1_1) (fun _ _ => ⟨rfl, e0, (Nat.le_trans hk (by decide)), (Nat.le_trans hn (by decide))⟩)
  dsimp only [Pt.U, Pt.locs, Pt.cells, Pt.slots] at X1 l1 y1 z1 st1 hQ1
  subst l1 y1 z1
  obtain ⟨rfl, N1q, e1⟩ := hQ1
  have N1 := Fr.app N0 N1q
  refine Runs.via (T' := T1) (g' := (mkF m 4 #[.val (.int x0)] [(.int (f2 x0))])) (fun t k => st1 _ k) ?_
  by_cases hc2 : (f2 x0) = (0 : Int32)
  · refine Runs.via (T' := T1) (g' := (mkF m 7 #[.val (.int x0)] [])) (fun t k => ?_) ?_
    · show Steps p.tables e below (T1.setTop (mkF m 4 #[.val (.int x0)] [(.int (f2 x0))])) t
      exact XS.ifNo X1.here hx rfl (hb hby d1_4) rfl ((if0 _ _).trans (teq hc2).2) k
    refine Runs.via (T' := T1) (g' := (mkF m 10 #[.val (.int x0)] [(.int (45 : Int32)), (.int x0)])) (fun t k => ?_) ?_
    · show Steps p.tables e below (T1.setTop (mkF m 7 #[.val (.int x0)] [])) t
      refine XS.iloadN X1.here hx rfl (hb hby d1_7) rfl ?_
      show Steps p.tables e below (T1.setTop (mkF m 8 #[.val (.int x0)] [(.int x0)])) t
      refine XS.bipush X1.here hx rfl (hb hby d1_8) ?_
      exact k
    by_cases hc3 : x0 = (45 : Int32)
    · refine Runs.via (T' := T1) (g' := (mkF m 60 #[.val (.int x0)] [])) (fun t k => ?_) ?_
      · show Steps p.tables e below (T1.setTop (mkF m 10 #[.val (.int x0)] [(.int (45 : Int32)), (.int x0)])) t
        exact XS.icmpYes X1.here hx rfl (pc0 := 10) (pc' := 60) rfl (hb hby d1_10) rfl (teq hc3).1 (by decide) (by decide) k
      refine Runs.via (T' := T1) (g' := (mkF m 65 #[.val (.int x0)] [(.int (1 : Int32))])) (fun t k => ?_) ?_
      · show Steps p.tables e below (T1.setTop (mkF m 60 #[.val (.int x0)] [])) t
        refine XS.iconst X1.here hx rfl (hb hby d1_60) ?_
        show Steps p.tables e below (T1.setTop (mkF m 61 #[.val (.int x0)] [(.int (1 : Int32))])) t
        refine XS.goto X1.here hx rfl (pc0 := 61) (pc' := 65) rfl (hb hby d1_61) (by decide) (by decide) ?_
        exact k
      refine QP.cast (congrArg (fun z => some (Value.int z)) (show (g1_0 x0) = (1 : Int32) from ((if_pos hc2).trans (if_pos hc3)))) ?_
      exact own_retN X1 hx hlk (t := .boolean) hret (by simp) (hb hby d1_65) hk hn ⟨rfl, N1, e1⟩
    · refine Runs.via (T' := T1) (g' := (mkF m 13 #[.val (.int x0)] [])) (fun t k => ?_) ?_
      · show Steps p.tables e below (T1.setTop (mkF m 10 #[.val (.int x0)] [(.int (45 : Int32)), (.int x0)])) t
        exact XS.icmpNo X1.here hx rfl (hb hby d1_10) rfl (feq hc3).1 k
      refine Runs.via (T' := T1) (g' := (mkF m 16 #[.val (.int x0)] [(.int (48 : Int32)), (.int x0)])) (fun t k => ?_) ?_
      · show Steps p.tables e below (T1.setTop (mkF m 13 #[.val (.int x0)] [])) t
        refine XS.iloadN X1.here hx rfl (hb hby d1_13) rfl ?_
        show Steps p.tables e below (T1.setTop (mkF m 14 #[.val (.int x0)] [(.int x0)])) t
        refine XS.bipush X1.here hx rfl (hb hby d1_14) ?_
        exact k
      by_cases hc4 : x0 < (48 : Int32)
      · refine Runs.via (T' := T1) (g' := (mkF m 25 #[.val (.int x0)] [])) (fun t k => ?_) ?_
        · show Steps p.tables e below (T1.setTop (mkF m 16 #[.val (.int x0)] [(.int (48 : Int32)), (.int x0)])) t
          exact XS.icmpYes X1.here hx rfl (pc0 := 16) (pc' := 25) rfl (hb hby d1_16) rfl (tlt hc4).1 (by decide) (by decide) k
        refine QP.cast (congrArg (fun z => some (Value.int z)) (show (g1_0 x0) = (g1_25 x0) from ((if_pos hc2).trans ((if_neg hc3).trans (if_pos hc4))))) ?_
        exact b1_25 C X1 e1 N1 hk hn x0
      · refine Runs.via (T' := T1) (g' := (mkF m 19 #[.val (.int x0)] [])) (fun t k => ?_) ?_
        · show Steps p.tables e below (T1.setTop (mkF m 16 #[.val (.int x0)] [(.int (48 : Int32)), (.int x0)])) t
          exact XS.icmpNo X1.here hx rfl (hb hby d1_16) rfl (flt hc4).1 k
        refine Runs.via (T' := T1) (g' := (mkF m 22 #[.val (.int x0)] [(.int (57 : Int32)), (.int x0)])) (fun t k => ?_) ?_
        · show Steps p.tables e below (T1.setTop (mkF m 19 #[.val (.int x0)] [])) t
          refine XS.iloadN X1.here hx rfl (hb hby d1_19) rfl ?_
          show Steps p.tables e below (T1.setTop (mkF m 20 #[.val (.int x0)] [(.int x0)])) t
          refine XS.bipush X1.here hx rfl (hb hby d1_20) ?_
          exact k
        by_cases hc5 : (57 : Int32) < x0
        · refine Runs.via (T' := T1) (g' := (mkF m 25 #[.val (.int x0)] [])) (fun t k => ?_) ?_
          · show Steps p.tables e below (T1.setTop (mkF m 22 #[.val (.int x0)] [(.int (57 : Int32)), (.int x0)])) t
            exact XS.icmpNo X1.here hx rfl (hb hby d1_22) rfl (tlt hc5).2.2.2 k
          refine QP.cast (congrArg (fun z => some (Value.int z)) (show (g1_0 x0) = (g1_25 x0) from ((if_pos hc2).trans ((if_neg hc3).trans ((if_neg hc4).trans (if_pos hc5)))))) ?_
          exact b1_25 C X1 e1 N1 hk hn x0
        · refine Runs.via (T' := T1) (g' := (mkF m 60 #[.val (.int x0)] [])) (fun t k => ?_) ?_
          · show Steps p.tables e below (T1.setTop (mkF m 22 #[.val (.int x0)] [(.int (57 : Int32)), (.int x0)])) t
            exact XS.icmpYes X1.here hx rfl (pc0 := 22) (pc' := 60) rfl (hb hby d1_22) rfl (flt hc5).2.2.2 (by decide) (by decide) k
          refine Runs.via (T' := T1) (g' := (mkF m 65 #[.val (.int x0)] [(.int (1 : Int32))])) (fun t k => ?_) ?_
          · show Steps p.tables e below (T1.setTop (mkF m 60 #[.val (.int x0)] [])) t
            refine XS.iconst X1.here hx rfl (hb hby d1_60) ?_
            show Steps p.tables e below (T1.setTop (mkF m 61 #[.val (.int x0)] [(.int (1 : Int32))])) t
            refine XS.goto X1.here hx rfl (pc0 := 61) (pc' := 65) rfl (hb hby d1_61) (by decide) (by decide) ?_
            exact k
          refine QP.cast (congrArg (fun z => some (Value.int z)) (show (g1_0 x0) = (1 : Int32) from ((if_pos hc2).trans ((if_neg hc3).trans ((if_neg hc4).trans (if_neg hc5)))))) ?_
          exact own_retN X1 hx hlk (t := .boolean) hret (by simp) (hb hby d1_65) hk hn ⟨rfl, N1, e1⟩
  · refine Runs.via (T' := T1) (g' := (mkF m 60 #[.val (.int x0)] [])) (fun t k => ?_) ?_
    · show Steps p.tables e below (T1.setTop (mkF m 4 #[.val (.int x0)] [(.int (f2 x0))])) t
      exact XS.ifYes X1.here hx rfl (pc0 := 4) (pc' := 60) rfl (hb hby d1_4) rfl ((if0 _ _).trans (feq hc2).2) (by decide) (by decide) k
    refine Runs.via (T' := T1) (g' := (mkF m 65 #[.val (.int x0)] [(.int (1 : Int32))])) (fun t k => ?_) ?_
    · show Steps p.tables e below (T1.setTop (mkF m 60 #[.val (.int x0)] [])) t
      refine XS.iconst X1.here hx rfl (hb hby d1_60) ?_
      show Steps p.tables e below (T1.setTop (mkF m 61 #[.val (.int x0)] [(.int (1 : Int32))])) t
      refine XS.goto X1.here hx rfl (pc0 := 61) (pc' := 65) rfl (hb hby d1_61) (by decide) (by decide) ?_
      exact k
    refine QP.cast (congrArg (fun z => some (Value.int z)) (show (g1_0 x0) = (1 : Int32) from (if_neg hc2))) ?_
    exact own_retN X1 hx hlk (t := .boolean) hret (by simp) (hb hby d1_65) hk hn ⟨rfl, N1, e1⟩
def f1 (x0 : Int32) : Int32 := g1_0 x0
theorem pn_1 : plainName "com/example/onto3/onto3/rdf/TermScanner" = true := by first | (simp [plainName, overriddenIn]; done) | decide +kernel
theorem ef_1 (m : MethodId) (x0 : Int32) : entryFrame m #[(.int x0)] 1 = mkF m 0 #[.val (.int x0)] [] := by first | (simp [entryFrame, mkF, argsToLocals, Value.category]; done) | rfl
set_option maxRecDepth 65536 in
set_option maxHeartbeats 4000000 in
theorem rm1 (l : Launch) (Z : State) (a0 : Array Value) (hw : ∀ d ∈ tables_1, d.before a0 Z = true) (ws : List Jvm.Cond) (x0 : Int32) (h0 : Heap) (n0 : Nat) :
    MetFree l (⟨"com/example/onto3/onto3/rdf/TermScanner", "isNameChar", "(I)Z"⟩ : MethodName) (head1 (Jvm.Cond.code (⟨"com/example/onto3/onto3/rdf/TermScanner", "isNameChar", "(I)Z"⟩ : MethodName) prog_39_method_43_code 1 (some .boolean) :: ws) ({ frames := 2, cells := 0, slots := 0, locals := 24 } : Room)) (fun a U => a = #[(.int x0)] ∧ Z.Warmed39 U.vm ∧ U.heap = h0) (fun _ _ _ _ _ => True) (fun _ U o U' => ∃ v L, o = .returned v ∧ QP (some (.int (f1 x0))) h0 n0 v U'.heap L ∧ FrameEnd U o U' L ({ frames := 2, cells := 0, slots := 0, locals := 24 } : Room).cells ({ frames := 2, cells := 0, slots := 0, locals := 24 } : Room).slots) := by
  refine MetFree.of_bodySF (plainFor_of_name pn_1) hisR ?_
  intro p e s m args below meth c s₁ Bd hml0 hP hK
  obtain ⟨rfl, hZ, hh⟩ := hP
  have X0 : Stand p l e ({ frames := 2, cells := 0, slots := 0, locals := 24 } : Room) s m #[(.int x0)] below meth c s₁ [] 0 0 := Stand.of_body Bd
  have e0 : s₁.heap = h0 := by rw [← hh, Bd.state]; rfl
  have C : Ctx p s m meth c Z a0 "com/example/onto3/onto3/rdf/TermScanner" prog_39_method_43_code 1 (some .boolean) "isNameChar" := ⟨Bd.exec, hZ, hw, Bd.bytes, hml0, findClass_of_methodNamed Bd.named, Bd.returns, BodyLoose.notSynchronized Bd, (name_of_methodNamed Bd.named Bd.method).1⟩
  refine Runs.via (fun t k => castTop (ef_1 m x0) k) (b1_0 C X0 e0 (Fr.nil n0) (Nat.le_refl 0) (Nat.le_refl 0) x0)
theorem d5_0 : decode method_2_code 0 = .ok (.iload_n 0, 1) := by decide +kernel
theorem d5_1 : decode method_2_code 1 = .ok (.iload_n 1, 1) := by decide +kernel
theorem d5_2 : decode method_2_code 2 = .ok (.if_icmp .lt 12, 3) := by decide +kernel
theorem d5_5 : decode method_2_code 5 = .ok (.iload_n 0, 1) := by decide +kernel
theorem d5_6 : decode method_2_code 6 = .ok (.iload_n 2, 1) := by decide +kernel
theorem d5_7 : decode method_2_code 7 = .ok (.if_icmp .gt 7, 3) := by decide +kernel
theorem d5_10 : decode method_2_code 10 = .ok (.iconst 1, 1) := by decide +kernel
theorem d5_11 : decode method_2_code 11 = .ok (.goto 4, 3) := by decide +kernel
theorem d5_14 : decode method_2_code 14 = .ok (.iconst 0, 1) := by decide +kernel
theorem d5_15 : decode method_2_code 15 = .ok (.ireturn, 1) := by decide +kernel
def g5_0 (x0 : Int32) (x1 : Int32) (x2 : Int32) : Int32 := (if x0 < x1 then (0 : Int32) else (if x2 < x0 then (0 : Int32) else (1 : Int32)))
set_option maxRecDepth 65536 in
set_option maxHeartbeats 4000000 in
theorem b5_0 (C : Ctx p s m meth c Z a0 "com/example/onto3/onto3/rdf/TermScannerIsNameCharPinLaw" method_2_code 3 (some .boolean) "in") (X0 : Stand p l e ({ frames := 0, cells := 0, slots := 0, locals := 0 } : Room) s m args below meth c T0 locs cells slots) (e0 : T0.heap = h0) (N0 : Fr n0 locs) (hk : cells ≤ 0) (hn : slots ≤ 0) (x0 : Int32) (x1 : Int32) (x2 : Int32) :
    Runs p e below s (QP (some (.int (g5_0 x0 x1 x2))) h0 n0) 0 0 T0 (mkF m 0 #[.val (.int x0), .val (.int x1), .val (.int x2)] []) := by
  have ⟨hx, hZ, hw, hby, hml, hown, hret, hlk, hnm⟩ := C
  refine Runs.via (T' := T0) (g' := (mkF m 2 #[.val (.int x0), .val (.int x1), .val (.int x2)] [(.int x1), (.int x0)])) (fun t k => ?_) ?_
  · show Steps p.tables e below (T0.setTop (mkF m 0 #[.val (.int x0), .val (.int x1), .val (.int x2)] [])) t
    refine XS.iloadN X0.here hx rfl (hb hby d5_0) rfl ?_
    show Steps p.tables e below (T0.setTop (mkF m 1 #[.val (.int x0), .val (.int x1), .val (.int x2)] [(.int x0)])) t
    refine XS.iloadN X0.here hx rfl (hb hby d5_1) rfl ?_
    exact k
  by_cases hc1 : x0 < x1
  · refine Runs.via (T' := T0) (g' := (mkF m 14 #[.val (.int x0), .val (.int x1), .val (.int x2)] [])) (fun t k => ?_) ?_
    · show Steps p.tables e below (T0.setTop (mkF m 2 #[.val (.int x0), .val (.int x1), .val (.int x2)] [(.int x1), (.int x0)])) t
      exact XS.icmpYes X0.here hx rfl (pc0 := 2) (pc' := 14) rfl (hb hby d5_2) rfl (tlt hc1).1 (by decide) (by decide) k
    refine Runs.via (T' := T0) (g' := (mkF m 15 #[.val (.int x0), .val (.int x1), .val (.int x2)] [(.int (0 : Int32))])) (fun t k => ?_) ?_
    · show Steps p.tables e below (T0.setTop (mkF m 14 #[.val (.int x0), .val (.int x1), .val (.int x2)] [])) t
      refine XS.iconst X0.here hx rfl (hb hby d5_14) ?_
      exact k
    refine QP.cast (congrArg (fun z => some (Value.int z)) (show (g5_0 x0 x1 x2) = (0 : Int32) from (if_pos hc1))) ?_
    exact own_retN X0 hx hlk (t := .boolean) hret (by simp) (hb hby d5_15) hk hn ⟨rfl, N0, e0⟩
  · refine Runs.via (T' := T0) (g' := (mkF m 5 #[.val (.int x0), .val (.int x1), .val (.int x2)] [])) (fun t k => ?_) ?_
    · show Steps p.tables e below (T0.setTop (mkF m 2 #[.val (.int x0), .val (.int x1), .val (.int x2)] [(.int x1), (.int x0)])) t
      exact XS.icmpNo X0.here hx rfl (hb hby d5_2) rfl (flt hc1).1 k
    refine Runs.via (T' := T0) (g' := (mkF m 7 #[.val (.int x0), .val (.int x1), .val (.int x2)] [(.int x2), (.int x0)])) (fun t k => ?_) ?_
    · show Steps p.tables e below (T0.setTop (mkF m 5 #[.val (.int x0), .val (.int x1), .val (.int x2)] [])) t
      refine XS.iloadN X0.here hx rfl (hb hby d5_5) rfl ?_
      show Steps p.tables e below (T0.setTop (mkF m 6 #[.val (.int x0), .val (.int x1), .val (.int x2)] [(.int x0)])) t
      refine XS.iloadN X0.here hx rfl (hb hby d5_6) rfl ?_
      exact k
    by_cases hc2 : x2 < x0
    · refine Runs.via (T' := T0) (g' := (mkF m 14 #[.val (.int x0), .val (.int x1), .val (.int x2)] [])) (fun t k => ?_) ?_
      · show Steps p.tables e below (T0.setTop (mkF m 7 #[.val (.int x0), .val (.int x1), .val (.int x2)] [(.int x2), (.int x0)])) t
        exact XS.icmpYes X0.here hx rfl (pc0 := 7) (pc' := 14) rfl (hb hby d5_7) rfl (tlt hc2).2.2.1 (by decide) (by decide) k
      refine Runs.via (T' := T0) (g' := (mkF m 15 #[.val (.int x0), .val (.int x1), .val (.int x2)] [(.int (0 : Int32))])) (fun t k => ?_) ?_
      · show Steps p.tables e below (T0.setTop (mkF m 14 #[.val (.int x0), .val (.int x1), .val (.int x2)] [])) t
        refine XS.iconst X0.here hx rfl (hb hby d5_14) ?_
        exact k
      refine QP.cast (congrArg (fun z => some (Value.int z)) (show (g5_0 x0 x1 x2) = (0 : Int32) from ((if_neg hc1).trans (if_pos hc2)))) ?_
      exact own_retN X0 hx hlk (t := .boolean) hret (by simp) (hb hby d5_15) hk hn ⟨rfl, N0, e0⟩
    · refine Runs.via (T' := T0) (g' := (mkF m 10 #[.val (.int x0), .val (.int x1), .val (.int x2)] [])) (fun t k => ?_) ?_
      · show Steps p.tables e below (T0.setTop (mkF m 7 #[.val (.int x0), .val (.int x1), .val (.int x2)] [(.int x2), (.int x0)])) t
        exact XS.icmpNo X0.here hx rfl (hb hby d5_7) rfl (flt hc2).2.2.1 k
      refine Runs.via (T' := T0) (g' := (mkF m 15 #[.val (.int x0), .val (.int x1), .val (.int x2)] [(.int (1 : Int32))])) (fun t k => ?_) ?_
      · show Steps p.tables e below (T0.setTop (mkF m 10 #[.val (.int x0), .val (.int x1), .val (.int x2)] [])) t
        refine XS.iconst X0.here hx rfl (hb hby d5_10) ?_
        show Steps p.tables e below (T0.setTop (mkF m 11 #[.val (.int x0), .val (.int x1), .val (.int x2)] [(.int (1 : Int32))])) t
        refine XS.goto X0.here hx rfl (pc0 := 11) (pc' := 15) rfl (hb hby d5_11) (by decide) (by decide) ?_
        exact k
      refine QP.cast (congrArg (fun z => some (Value.int z)) (show (g5_0 x0 x1 x2) = (1 : Int32) from ((if_neg hc1).trans (if_neg hc2)))) ?_
      exact own_retN X0 hx hlk (t := .boolean) hret (by simp) (hb hby d5_15) hk hn ⟨rfl, N0, e0⟩
def f5 (x0 : Int32) (x1 : Int32) (x2 : Int32) : Int32 := g5_0 x0 x1 x2
theorem pn_5 : plainName "com/example/onto3/onto3/rdf/TermScannerIsNameCharPinLaw" = true := by first | (simp [plainName, overriddenIn]; done) | decide +kernel
theorem ef_5 (m : MethodId) (x0 : Int32) (x1 : Int32) (x2 : Int32) : entryFrame m #[(.int x0), (.int x1), (.int x2)] 3 = mkF m 0 #[.val (.int x0), .val (.int x1), .val (.int x2)] [] := by first | (simp [entryFrame, mkF, argsToLocals, Value.category]; done) | rfl
set_option maxRecDepth 65536 in
set_option maxHeartbeats 4000000 in
theorem rm5 (l : Launch) (Z : State) (a0 : Array Value) (hw : ∀ d ∈ tables_1, d.before a0 Z = true) (ws : List Jvm.Cond) (x0 : Int32) (x1 : Int32) (x2 : Int32) (h0 : Heap) (n0 : Nat) :
    MetFree l (⟨"com/example/onto3/onto3/rdf/TermScannerIsNameCharPinLaw", "in", "(III)Z"⟩ : MethodName) (head1 (Jvm.Cond.code (⟨"com/example/onto3/onto3/rdf/TermScannerIsNameCharPinLaw", "in", "(III)Z"⟩ : MethodName) method_2_code 3 (some .boolean) :: ws) ({ frames := 0, cells := 0, slots := 0, locals := 0 } : Room)) (fun a U => a = #[(.int x0), (.int x1), (.int x2)] ∧ Z.Warmed39 U.vm ∧ U.heap = h0) (fun _ _ _ _ _ => True) (fun _ U o U' => ∃ v L, o = .returned v ∧ QP (some (.int (f5 x0 x1 x2))) h0 n0 v U'.heap L ∧ FrameEnd U o U' L ({ frames := 0, cells := 0, slots := 0, locals := 0 } : Room).cells ({ frames := 0, cells := 0, slots := 0, locals := 0 } : Room).slots) := by
  refine MetFree.of_bodySF (plainFor_of_name pn_5) hisR ?_
  intro p e s m args below meth c s₁ Bd hml0 hP hK
  obtain ⟨rfl, hZ, hh⟩ := hP
  have X0 : Stand p l e ({ frames := 0, cells := 0, slots := 0, locals := 0 } : Room) s m #[(.int x0), (.int x1), (.int x2)] below meth c s₁ [] 0 0 := Stand.of_body Bd
  have e0 : s₁.heap = h0 := by rw [← hh, Bd.state]; rfl
  have C : Ctx p s m meth c Z a0 "com/example/onto3/onto3/rdf/TermScannerIsNameCharPinLaw" method_2_code 3 (some .boolean) "in" := ⟨Bd.exec, hZ, hw, Bd.bytes, hml0, findClass_of_methodNamed Bd.named, Bd.returns, BodyLoose.notSynchronized Bd, (name_of_methodNamed Bd.named Bd.method).1⟩
  refine Runs.via (fun t k => castTop (ef_5 m x0 x1 x2) k) (b5_0 C X0 e0 (Fr.nil n0) (Nat.le_refl 0) (Nat.le_refl 0) x0 x1 x2)
theorem pd_1 : parseMethodDescriptor "(III)Z" = some ⟨[.int, .int, .int], some .boolean⟩ := by decide +kernel
theorem d4_0 : decode method_3_code 0 = .ok (.iload_n 0, 1) := by decide +kernel
theorem d4_1 : decode method_3_code 1 = .ok (.sipush 128, 3) := by decide +kernel
theorem d4_4 : decode method_3_code 4 = .ok (.if_icmp .ge 54, 3) := by decide +kernel
theorem d4_7 : decode method_3_code 7 = .ok (.iload_n 0, 1) := by decide +kernel
theorem d4_8 : decode method_3_code 8 = .ok (.bipush 45, 2) := by decide +kernel
theorem d4_10 : decode method_3_code 10 = .ok (.if_icmp .eq 42, 3) := by decide +kernel
theorem d4_13 : decode method_3_code 13 = .ok (.iload_n 0, 1) := by decide +kernel
theorem d4_14 : decode method_3_code 14 = .ok (.bipush 48, 2) := by decide +kernel
theorem d4_16 : decode method_3_code 16 = .ok (.bipush 57, 2) := by decide +kernel
theorem d4_18 : decode method_3_code 18 = .ok (.invokestatic 7, 3) := by decide +kernel
theorem d4_21 : decode method_3_code 21 = .ok (.ifCond .ne 31, 3) := by decide +kernel
theorem d4_24 : decode method_3_code 24 = .ok (.iload_n 0, 1) := by decide +kernel
theorem d4_25 : decode method_3_code 25 = .ok (.bipush 65, 2) := by decide +kernel
theorem d4_27 : decode method_3_code 27 = .ok (.bipush 90, 2) := by decide +kernel
theorem d4_29 : decode method_3_code 29 = .ok (.invokestatic 7, 3) := by decide +kernel
theorem d4_32 : decode method_3_code 32 = .ok (.ifCond .ne 20, 3) := by decide +kernel
theorem d4_35 : decode method_3_code 35 = .ok (.iload_n 0, 1) := by decide +kernel
theorem d4_36 : decode method_3_code 36 = .ok (.bipush 95, 2) := by decide +kernel
theorem d4_38 : decode method_3_code 38 = .ok (.if_icmp .eq 14, 3) := by decide +kernel
theorem d4_41 : decode method_3_code 41 = .ok (.iload_n 0, 1) := by decide +kernel
theorem d4_42 : decode method_3_code 42 = .ok (.bipush 97, 2) := by decide +kernel
theorem d4_44 : decode method_3_code 44 = .ok (.bipush 122, 2) := by decide +kernel
theorem d4_46 : decode method_3_code 46 = .ok (.invokestatic 7, 3) := by decide +kernel
theorem d4_49 : decode method_3_code 49 = .ok (.ifCond .eq 7, 3) := by decide +kernel
theorem d4_52 : decode method_3_code 52 = .ok (.iconst 1, 1) := by decide +kernel
theorem d4_53 : decode method_3_code 53 = .ok (.goto 4, 3) := by decide +kernel
theorem d4_56 : decode method_3_code 56 = .ok (.iconst 0, 1) := by decide +kernel
theorem d4_57 : decode method_3_code 57 = .ok (.ireturn, 1) := by decide +kernel
theorem d4_58 : decode method_3_code 58 = .ok (.iload_n 0, 1) := by decide +kernel
theorem d4_59 : decode method_3_code 59 = .ok (.ldc 13, 2) := by decide +kernel
theorem d4_61 : decode method_3_code 61 = .ok (.if_icmp .gt 154, 3) := by decide +kernel
theorem d4_64 : decode method_3_code 64 = .ok (.iload_n 0, 1) := by decide +kernel
theorem d4_65 : decode method_3_code 65 = .ok (.sipush 183, 3) := by decide +kernel
theorem d4_68 : decode method_3_code 68 = .ok (.if_icmp .eq 141, 3) := by decide +kernel
theorem d4_71 : decode method_3_code 71 = .ok (.iload_n 0, 1) := by decide +kernel
theorem d4_72 : decode method_3_code 72 = .ok (.sipush 192, 3) := by decide +kernel
theorem d4_75 : decode method_3_code 75 = .ok (.sipush 214, 3) := by decide +kernel
theorem d4_78 : decode method_3_code 78 = .ok (.invokestatic 7, 3) := by decide +kernel
theorem d4_81 : decode method_3_code 81 = .ok (.ifCond .ne 128, 3) := by decide +kernel
theorem d4_84 : decode method_3_code 84 = .ok (.iload_n 0, 1) := by decide +kernel
theorem d4_85 : decode method_3_code 85 = .ok (.sipush 216, 3) := by decide +kernel
theorem d4_88 : decode method_3_code 88 = .ok (.sipush 246, 3) := by decide +kernel
theorem d4_91 : decode method_3_code 91 = .ok (.invokestatic 7, 3) := by decide +kernel
theorem d4_94 : decode method_3_code 94 = .ok (.ifCond .ne 115, 3) := by decide +kernel
theorem d4_97 : decode method_3_code 97 = .ok (.iload_n 0, 1) := by decide +kernel
theorem d4_98 : decode method_3_code 98 = .ok (.sipush 248, 3) := by decide +kernel
theorem d4_101 : decode method_3_code 101 = .ok (.sipush 893, 3) := by decide +kernel
theorem d4_104 : decode method_3_code 104 = .ok (.invokestatic 7, 3) := by decide +kernel
theorem d4_107 : decode method_3_code 107 = .ok (.ifCond .ne 102, 3) := by decide +kernel
theorem d4_110 : decode method_3_code 110 = .ok (.iload_n 0, 1) := by decide +kernel
theorem d4_111 : decode method_3_code 111 = .ok (.sipush 895, 3) := by decide +kernel
theorem d4_114 : decode method_3_code 114 = .ok (.sipush 8191, 3) := by decide +kernel
theorem d4_117 : decode method_3_code 117 = .ok (.invokestatic 7, 3) := by decide +kernel
theorem d4_120 : decode method_3_code 120 = .ok (.ifCond .ne 89, 3) := by decide +kernel
theorem d4_123 : decode method_3_code 123 = .ok (.iload_n 0, 1) := by decide +kernel
theorem d4_124 : decode method_3_code 124 = .ok (.sipush 8204, 3) := by decide +kernel
theorem d4_127 : decode method_3_code 127 = .ok (.sipush 8205, 3) := by decide +kernel
theorem d4_130 : decode method_3_code 130 = .ok (.invokestatic 7, 3) := by decide +kernel
theorem d4_133 : decode method_3_code 133 = .ok (.ifCond .ne 76, 3) := by decide +kernel
theorem d4_136 : decode method_3_code 136 = .ok (.iload_n 0, 1) := by decide +kernel
theorem d4_137 : decode method_3_code 137 = .ok (.sipush 8255, 3) := by decide +kernel
theorem d4_140 : decode method_3_code 140 = .ok (.sipush 8256, 3) := by decide +kernel
theorem d4_143 : decode method_3_code 143 = .ok (.invokestatic 7, 3) := by decide +kernel
theorem d4_146 : decode method_3_code 146 = .ok (.ifCond .ne 63, 3) := by decide +kernel
theorem d4_149 : decode method_3_code 149 = .ok (.iload_n 0, 1) := by decide +kernel
theorem d4_150 : decode method_3_code 150 = .ok (.sipush 8304, 3) := by decide +kernel
theorem d4_153 : decode method_3_code 153 = .ok (.sipush 8591, 3) := by decide +kernel
theorem d4_156 : decode method_3_code 156 = .ok (.invokestatic 7, 3) := by decide +kernel
theorem d4_159 : decode method_3_code 159 = .ok (.ifCond .ne 50, 3) := by decide +kernel
theorem d4_162 : decode method_3_code 162 = .ok (.iload_n 0, 1) := by decide +kernel
theorem d4_163 : decode method_3_code 163 = .ok (.sipush 11264, 3) := by decide +kernel
theorem d4_166 : decode method_3_code 166 = .ok (.sipush 12271, 3) := by decide +kernel
theorem d4_169 : decode method_3_code 169 = .ok (.invokestatic 7, 3) := by decide +kernel
theorem d4_172 : decode method_3_code 172 = .ok (.ifCond .ne 37, 3) := by decide +kernel
theorem d4_175 : decode method_3_code 175 = .ok (.iload_n 0, 1) := by decide +kernel
theorem d4_176 : decode method_3_code 176 = .ok (.sipush 12289, 3) := by decide +kernel
theorem d4_179 : decode method_3_code 179 = .ok (.ldc 14, 2) := by decide +kernel
theorem d4_181 : decode method_3_code 181 = .ok (.invokestatic 7, 3) := by decide +kernel
theorem d4_184 : decode method_3_code 184 = .ok (.ifCond .ne 25, 3) := by decide +kernel
theorem d4_187 : decode method_3_code 187 = .ok (.iload_n 0, 1) := by decide +kernel
theorem d4_188 : decode method_3_code 188 = .ok (.ldc 15, 2) := by decide +kernel
theorem d4_190 : decode method_3_code 190 = .ok (.ldc 16, 2) := by decide +kernel
theorem d4_192 : decode method_3_code 192 = .ok (.invokestatic 7, 3) := by decide +kernel
theorem d4_195 : decode method_3_code 195 = .ok (.ifCond .ne 14, 3) := by decide +kernel
theorem d4_198 : decode method_3_code 198 = .ok (.iload_n 0, 1) := by decide +kernel
theorem d4_199 : decode method_3_code 199 = .ok (.ldc 17, 2) := by decide +kernel
theorem d4_201 : decode method_3_code 201 = .ok (.ldc 18, 2) := by decide +kernel
theorem d4_203 : decode method_3_code 203 = .ok (.invokestatic 7, 3) := by decide +kernel
theorem d4_206 : decode method_3_code 206 = .ok (.ifCond .eq 7, 3) := by decide +kernel
theorem d4_209 : decode method_3_code 209 = .ok (.iconst 1, 1) := by decide +kernel
theorem d4_210 : decode method_3_code 210 = .ok (.goto 4, 3) := by decide +kernel
theorem d4_213 : decode method_3_code 213 = .ok (.iconst 0, 1) := by decide +kernel
theorem d4_214 : decode method_3_code 214 = .ok (.ireturn, 1) := by decide +kernel
theorem d4_215 : decode method_3_code 215 = .ok (.iload_n 0, 1) := by decide +kernel
theorem d4_216 : decode method_3_code 216 = .ok (.ldc 19, 2) := by decide +kernel
theorem d4_218 : decode method_3_code 218 = .ok (.ldc 20, 2) := by decide +kernel
theorem d4_220 : decode method_3_code 220 = .ok (.invokestatic 7, 3) := by decide +kernel
theorem d4_223 : decode method_3_code 223 = .ok (.ireturn, 1) := by decide +kernel
def g4_0 (x0 : Int32) : Int32 := (if x0 < (128 : Int32) then (if x0 = (45 : Int32) then (1 : Int32) else (if (f5 x0 (48 : Int32) (57 : Int32)) = (0 : Int32) then (if (f5 x0 (65 : Int32) (90 : Int32)) = (0 : Int32) then (if x0 = (95 : Int32) then (1 : Int32) else (if (f5 x0 (97 : Int32) (122 : Int32)) = (0 : Int32) then (0 : Int32) else (1 : Int32))) else (1 : Int32)) else (1 : Int32))) else (if (65535 : Int32) < x0 then ((f5 x0 (65536 : Int32) (983039 : Int32)) &&& 1) else (if x0 = (183 : Int32) then (1 : Int32) else (if (f5 x0 (192 : Int32) (214 : Int32)) = (0 : Int32) then (if (f5 x0 (216 : Int32) (246 : Int32)) = (0 : Int32) then (if (f5 x0 (248 : Int32) (893 : Int32)) = (0 : Int32) then (if (f5 x0 (895 : Int32) (8191 : Int32)) = (0 : Int32) then (if (f5 x0 (8204 : Int32) (8205 : Int32)) = (0 : Int32) then (if (f5 x0 (8255 : Int32) (8256 : Int32)) = (0 : Int32) then (if (f5 x0 (8304 : Int32) (8591 : Int32)) = (0 : Int32) then (if (f5 x0 (11264 : Int32) (12271 : Int32)) = (0 : Int32) then (if (f5 x0 (12289 : Int32) (55295 : Int32)) = (0 : Int32) then (if (f5 x0 (63744 : Int32) (64975 : Int32)) = (0 : Int32) then (if (f5 x0 (65008 : Int32) (65533 : Int32)) = (0 : Int32) then (0 : Int32) else (1 : Int32)) else (1 : Int32)) else (1 : Int32)) else (1 : Int32)) else (1 : Int32)) else (1 : Int32)) else (1 : Int32)) else (1 : Int32)) else (1 : Int32)) else (1 : Int32)) else (1 : Int32)))))
set_option maxRecDepth 65536 in
set_option maxHeartbeats 4000000 in
theorem b4_0 (C : Ctx p s m meth c Z a0 "com/example/onto3/onto3/rdf/TermScannerIsNameCharPinLaw" method_3_code 1 (some .boolean) "reference") (X0 : Stand p l e ({ frames := 1, cells := 0, slots := 0, locals := 14 } : Room) s m args below meth c T0 locs cells slots) (e0 : T0.heap = h0) (N0 : Fr n0 locs) (hk : cells ≤ 0) (hn : slots ≤ 0) (x0 : Int32) :
    Runs p e below s (QP (some (.int (g4_0 x0))) h0 n0) 0 0 T0 (mkF m 0 #[.val (.int x0)] []) := by
  have ⟨hx, hZ, hw, hby, hml, hown, hret, hlk, hnm⟩ := C
  refine Runs.via (T' := T0) (g' := (mkF m 4 #[.val (.int x0)] [(.int (128 : Int32)), (.int x0)])) (fun t k => ?_) ?_
  · show Steps p.tables e below (T0.setTop (mkF m 0 #[.val (.int x0)] [])) t
    refine XS.iloadN X0.here hx rfl (hb hby d4_0) rfl ?_
    show Steps p.tables e below (T0.setTop (mkF m 1 #[.val (.int x0)] [(.int x0)])) t
    refine XS.sipush X0.here hx rfl (hb hby d4_1) ?_
    exact k
  by_cases hc1 : x0 < (128 : Int32)
  · refine Runs.via (T' := T0) (g' := (mkF m 7 #[.val (.int x0)] [])) (fun t k => ?_) ?_
    · show Steps p.tables e below (T0.setTop (mkF m 4 #[.val (.int x0)] [(.int (128 : Int32)), (.int x0)])) t
      exact XS.icmpNo X0.here hx rfl (hb hby d4_4) rfl (tlt hc1).2.1 k
    refine Runs.via (T' := T0) (g' := (mkF m 10 #[.val (.int x0)] [(.int (45 : Int32)), (.int x0)])) (fun t k => ?_) ?_
    · show Steps p.tables e below (T0.setTop (mkF m 7 #[.val (.int x0)] [])) t
      refine XS.iloadN X0.here hx rfl (hb hby d4_7) rfl ?_
      show Steps p.tables e below (T0.setTop (mkF m 8 #[.val (.int x0)] [(.int x0)])) t
      refine XS.bipush X0.here hx rfl (hb hby d4_8) ?_
      exact k
    by_cases hc2 : x0 = (45 : Int32)
    · refine Runs.via (T' := T0) (g' := (mkF m 52 #[.val (.int x0)] [])) (fun t k => ?_) ?_
      · show Steps p.tables e below (T0.setTop (mkF m 10 #[.val (.int x0)] [(.int (45 : Int32)), (.int x0)])) t
        exact XS.icmpYes X0.here hx rfl (pc0 := 10) (pc' := 52) rfl (hb hby d4_10) rfl (teq hc2).1 (by decide) (by decide) k
      refine Runs.via (T' := T0) (g' := (mkF m 57 #[.val (.int x0)] [(.int (1 : Int32))])) (fun t k => ?_) ?_
      · show Steps p.tables e below (T0.setTop (mkF m 52 #[.val (.int x0)] [])) t
        refine XS.iconst X0.here hx rfl (hb hby d4_52) ?_
        show Steps p.tables e below (T0.setTop (mkF m 53 #[.val (.int x0)] [(.int (1 : Int32))])) t
        refine XS.goto X0.here hx rfl (pc0 := 53) (pc' := 57) rfl (hb hby d4_53) (by decide) (by decide) ?_
        exact k
      refine QP.cast (congrArg (fun z => some (Value.int z)) (show (g4_0 x0) = (1 : Int32) from ((if_pos hc1).trans (if_pos hc2)))) ?_
      exact own_retN X0 hx hlk (t := .boolean) hret (by simp) (hb hby d4_57) hk hn ⟨rfl, N0, e0⟩
    · refine Runs.via (T' := T0) (g' := (mkF m 13 #[.val (.int x0)] [])) (fun t k => ?_) ?_
      · show Steps p.tables e below (T0.setTop (mkF m 10 #[.val (.int x0)] [(.int (45 : Int32)), (.int x0)])) t
        exact XS.icmpNo X0.here hx rfl (hb hby d4_10) rfl (feq hc2).1 k
      refine Runs.via (T' := T0) (g' := (mkF m 18 #[.val (.int x0)] [(.int (57 : Int32)), (.int (48 : Int32)), (.int x0)])) (fun t k => ?_) ?_
      · show Steps p.tables e below (T0.setTop (mkF m 13 #[.val (.int x0)] [])) t
        refine XS.iloadN X0.here hx rfl (hb hby d4_13) rfl ?_
        show Steps p.tables e below (T0.setTop (mkF m 14 #[.val (.int x0)] [(.int x0)])) t
        refine XS.bipush X0.here hx rfl (hb hby d4_14) ?_
        show Steps p.tables e below (T0.setTop (mkF m 16 #[.val (.int x0)] [(.int (48 : Int32)), (.int x0)])) t
        refine XS.bipush X0.here hx rfl (hb hby d4_16) ?_
        exact k
      obtain ⟨_, _, ⟨T3, L3, k3, n3⟩, -, X3, ⟨Lc3, hQ3, l3, y3, z3⟩, st3⟩ := Jvm.LawKit.callS X0 hx (y := (⟨"com/example/onto3/onto3/rdf/TermScannerIsNameCharPinLaw", "in", "(III)Z"⟩ : MethodName)) hown (mvT hZ (hw _ (List.mem_of_getElem? (i := 17) rfl))) (mvT hZ (hw _ (List.mem_of_getElem? (i := 18) rfl))) (mvT hZ (hw _ (List.mem_of_getElem? (i := 15) rfl))) (mvT hZ (hw _ (List.mem_of_getElem? (i := 19) rfl))) (by decide) (backOf (W := 0) (rm5 l Z a0 hw [] x0 (48 : Int32) (57 : Int32) h0 n0) hZ (hw _ (List.mem_of_getElem? (i := 19) rfl)) (hw _ (List.mem_of_getElem? (i := 15) rfl)) (by decide) (by decide)) (g := (mkF m 18 #[.val (.int x0)] [(.int (57 : Int32)), (.int (48 : Int32)), (.int x0)])) rfl (by rw [hml]; rfl) (argsL := [(.int x0), (.int (48 : Int32)), (.int (57 : Int32))]) (rest := []) (lenOf pd_1 rfl) rfl (by show 2 * 0 + _ ≤ _; exact Nat.le_of_eq rfl) (hb hby d4_18) (fun _ _ => ⟨rfl, e0, (Nat.le_trans hk (by decide)), (Nat.le_trans hn (by decide))⟩)
      dsimp only [Pt.U, Pt.locs, Pt.cells, Pt.slots] at X3 l3 y3 z3 st3 hQ3
      subst l3 y3 z3
      obtain ⟨rfl, N3q, e3⟩ := hQ3
      have N3 := Fr.app N0 N3q
      refine Runs.via (T' := T3) (g' := (mkF m 21 #[.val (.int x0)] [(.int (f5 x0 (48 : Int32) (57 : Int32)))])) (fun t k => st3 _ k) ?_
      by_cases hc4 : (f5 x0 (48 : Int32) (57 : Int32)) = (0 : Int32)
      · refine Runs.via (T' := T3) (g' := (mkF m 24 #[.val (.int x0)] [])) (fun t k => ?_) ?_
        · show Steps p.tables e below (T3.setTop (mkF m 21 #[.val (.int x0)] [(.int (f5 x0 (48 : Int32) (57 : Int32)))])) t
          exact XS.ifNo X3.here hx rfl (hb hby d4_21) rfl ((if0 _ _).trans (teq hc4).2) k
        refine Runs.via (T' := T3) (g' := (mkF m 29 #[.val (.int x0)] [(.int (90 : Int32)), (.int (65 : Int32)), (.int x0)])) (fun t k => ?_) ?_
        · show Steps p.tables e below (T3.setTop (mkF m 24 #[.val (.int x0)] [])) t
          refine XS.iloadN X3.here hx rfl (hb hby d4_24) rfl ?_
          show Steps p.tables e below (T3.setTop (mkF m 25 #[.val (.int x0)] [(.int x0)])) t
          refine XS.bipush X3.here hx rfl (hb hby d4_25) ?_
          show Steps p.tables e below (T3.setTop (mkF m 27 #[.val (.int x0)] [(.int (65 : Int32)), (.int x0)])) t
          refine XS.bipush X3.here hx rfl (hb hby d4_27) ?_
          exact k
        obtain ⟨_, _, ⟨T5, L5, k5, n5⟩, -, X5, ⟨Lc5, hQ5, l5, y5, z5⟩, st5⟩ := Jvm.LawKit.callS X3 hx (y := (⟨"com/example/onto3/onto3/rdf/TermScannerIsNameCharPinLaw", "in", "(III)Z"⟩ : MethodName)) hown (mvT hZ (hw _ (List.mem_of_getElem? (i := 17) rfl))) (mvT hZ (hw _ (List.mem_of_getElem? (i := 18) rfl))) (mvT hZ (hw _ (List.mem_of_getElem? (i := 15) rfl))) (mvT hZ (hw _ (List.mem_of_getElem? (i := 19) rfl))) (by decide) (backOf (W := 0) (rm5 l Z a0 hw [] x0 (65 : Int32) (90 : Int32) h0 n0) hZ (hw _ (List.mem_of_getElem? (i := 19) rfl)) (hw _ (List.mem_of_getElem? (i := 15) rfl)) (by decide) (by decide)) (g := (mkF m 29 #[.val (.int x0)] [(.int (90 : Int32)), (.int (65 : Int32)), (.int x0)])) rfl (by rw [hml]; rfl) (argsL := [(.int x0), (.int (65 : Int32)), (.int (90 : Int32))]) (rest := []) (lenOf pd_1 rfl) rfl (by show 2 * 0 + _ ≤ _; exact Nat.le_of_eq rfl) (hb hby d4_29) (fun _ _ => ⟨rfl, e3, (Nat.le_trans hk (by decide)), (Nat.le_trans hn (by decide))⟩)
        dsimp only [Pt.U, Pt.locs, Pt.cells, Pt.slots] at X5 l5 y5 z5 st5 hQ5
        subst l5 y5 z5
        obtain ⟨rfl, N5q, e5⟩ := hQ5
        have N5 := Fr.app N3 N5q
        refine Runs.via (T' := T5) (g' := (mkF m 32 #[.val (.int x0)] [(.int (f5 x0 (65 : Int32) (90 : Int32)))])) (fun t k => st5 _ k) ?_
        by_cases hc6 : (f5 x0 (65 : Int32) (90 : Int32)) = (0 : Int32)
        · refine Runs.via (T' := T5) (g' := (mkF m 35 #[.val (.int x0)] [])) (fun t k => ?_) ?_
          · show Steps p.tables e below (T5.setTop (mkF m 32 #[.val (.int x0)] [(.int (f5 x0 (65 : Int32) (90 : Int32)))])) t
            exact XS.ifNo X5.here hx rfl (hb hby d4_32) rfl ((if0 _ _).trans (teq hc6).2) k
          refine Runs.via (T' := T5) (g' := (mkF m 38 #[.val (.int x0)] [(.int (95 : Int32)), (.int x0)])) (fun t k => ?_) ?_
          · show Steps p.tables e below (T5.setTop (mkF m 35 #[.val (.int x0)] [])) t
            refine XS.iloadN X5.here hx rfl (hb hby d4_35) rfl ?_
            show Steps p.tables e below (T5.setTop (mkF m 36 #[.val (.int x0)] [(.int x0)])) t
            refine XS.bipush X5.here hx rfl (hb hby d4_36) ?_
            exact k
          by_cases hc7 : x0 = (95 : Int32)
          · refine Runs.via (T' := T5) (g' := (mkF m 52 #[.val (.int x0)] [])) (fun t k => ?_) ?_
            · show Steps p.tables e below (T5.setTop (mkF m 38 #[.val (.int x0)] [(.int (95 : Int32)), (.int x0)])) t
              exact XS.icmpYes X5.here hx rfl (pc0 := 38) (pc' := 52) rfl (hb hby d4_38) rfl (teq hc7).1 (by decide) (by decide) k
            refine Runs.via (T' := T5) (g' := (mkF m 57 #[.val (.int x0)] [(.int (1 : Int32))])) (fun t k => ?_) ?_
            · show Steps p.tables e below (T5.setTop (mkF m 52 #[.val (.int x0)] [])) t
              refine XS.iconst X5.here hx rfl (hb hby d4_52) ?_
              show Steps p.tables e below (T5.setTop (mkF m 53 #[.val (.int x0)] [(.int (1 : Int32))])) t
              refine XS.goto X5.here hx rfl (pc0 := 53) (pc' := 57) rfl (hb hby d4_53) (by decide) (by decide) ?_
              exact k
            refine QP.cast (congrArg (fun z => some (Value.int z)) (show (g4_0 x0) = (1 : Int32) from ((if_pos hc1).trans ((if_neg hc2).trans ((if_pos hc4).trans ((if_pos hc6).trans (if_pos hc7))))))) ?_
            exact own_retN X5 hx hlk (t := .boolean) hret (by simp) (hb hby d4_57) hk hn ⟨rfl, N5, e5⟩
          · refine Runs.via (T' := T5) (g' := (mkF m 41 #[.val (.int x0)] [])) (fun t k => ?_) ?_
            · show Steps p.tables e below (T5.setTop (mkF m 38 #[.val (.int x0)] [(.int (95 : Int32)), (.int x0)])) t
              exact XS.icmpNo X5.here hx rfl (hb hby d4_38) rfl (feq hc7).1 k
            refine Runs.via (T' := T5) (g' := (mkF m 46 #[.val (.int x0)] [(.int (122 : Int32)), (.int (97 : Int32)), (.int x0)])) (fun t k => ?_) ?_
            · show Steps p.tables e below (T5.setTop (mkF m 41 #[.val (.int x0)] [])) t
              refine XS.iloadN X5.here hx rfl (hb hby d4_41) rfl ?_
              show Steps p.tables e below (T5.setTop (mkF m 42 #[.val (.int x0)] [(.int x0)])) t
              refine XS.bipush X5.here hx rfl (hb hby d4_42) ?_
              show Steps p.tables e below (T5.setTop (mkF m 44 #[.val (.int x0)] [(.int (97 : Int32)), (.int x0)])) t
              refine XS.bipush X5.here hx rfl (hb hby d4_44) ?_
              exact k
            obtain ⟨_, _, ⟨T8, L8, k8, n8⟩, -, X8, ⟨Lc8, hQ8, l8, y8, z8⟩, st8⟩ := Jvm.LawKit.callS X5 hx (y := (⟨"com/example/onto3/onto3/rdf/TermScannerIsNameCharPinLaw", "in", "(III)Z"⟩ : MethodName)) hown (mvT hZ (hw _ (List.mem_of_getElem? (i := 17) rfl))) (mvT hZ (hw _ (List.mem_of_getElem? (i := 18) rfl))) (mvT hZ (hw _ (List.mem_of_getElem? (i := 15) rfl))) (mvT hZ (hw _ (List.mem_of_getElem? (i := 19) rfl))) (by decide) (backOf (W := 0) (rm5 l Z a0 hw [] x0 (97 : Int32) (122 : Int32) h0 n0) hZ (hw _ (List.mem_of_getElem? (i := 19) rfl)) (hw _ (List.mem_of_getElem? (i := 15) rfl)) (by decide) (by decide)) (g := (mkF m 46 #[.val (.int x0)] [(.int (122 : Int32)), (.int (97 : Int32)), (.int x0)])) rfl (by rw [hml]; rfl) (argsL := [(.int x0), (.int (97 : Int32)), (.int (122 : Int32))]) (rest := []) (lenOf pd_1 rfl) rfl (by show 2 * 0 + _ ≤ _; exact Nat.le_of_eq rfl) (hb hby d4_46) (fun _ _ => ⟨rfl, e5, (Nat.le_trans hk (by decide)), (Nat.le_trans hn (by decide))⟩)
            dsimp only [Pt.U, Pt.locs, Pt.cells, Pt.slots] at X8 l8 y8 z8 st8 hQ8
            subst l8 y8 z8
            obtain ⟨rfl, N8q, e8⟩ := hQ8
            have N8 := Fr.app N5 N8q
            refine Runs.via (T' := T8) (g' := (mkF m 49 #[.val (.int x0)] [(.int (f5 x0 (97 : Int32) (122 : Int32)))])) (fun t k => st8 _ k) ?_
            by_cases hc9 : (f5 x0 (97 : Int32) (122 : Int32)) = (0 : Int32)
            · refine Runs.via (T' := T8) (g' := (mkF m 56 #[.val (.int x0)] [])) (fun t k => ?_) ?_
              · show Steps p.tables e below (T8.setTop (mkF m 49 #[.val (.int x0)] [(.int (f5 x0 (97 : Int32) (122 : Int32)))])) t
                exact XS.ifYes X8.here hx rfl (pc0 := 49) (pc' := 56) rfl (hb hby d4_49) rfl ((if0 _ _).trans (teq hc9).1) (by decide) (by decide) k
              refine Runs.via (T' := T8) (g' := (mkF m 57 #[.val (.int x0)] [(.int (0 : Int32))])) (fun t k => ?_) ?_
              · show Steps p.tables e below (T8.setTop (mkF m 56 #[.val (.int x0)] [])) t
                refine XS.iconst X8.here hx rfl (hb hby d4_56) ?_
                exact k
              refine QP.cast (congrArg (fun z => some (Value.int z)) (show (g4_0 x0) = (0 : Int32) from ((if_pos hc1).trans ((if_neg hc2).trans ((if_pos hc4).trans ((if_pos hc6).trans ((if_neg hc7).trans (if_pos hc9)))))))) ?_
              exact own_retN X8 hx hlk (t := .boolean) hret (by simp) (hb hby d4_57) hk hn ⟨rfl, N8, e8⟩
            · refine Runs.via (T' := T8) (g' := (mkF m 52 #[.val (.int x0)] [])) (fun t k => ?_) ?_
              · show Steps p.tables e below (T8.setTop (mkF m 49 #[.val (.int x0)] [(.int (f5 x0 (97 : Int32) (122 : Int32)))])) t
                exact XS.ifNo X8.here hx rfl (hb hby d4_49) rfl ((if0 _ _).trans (feq hc9).1) k
              refine Runs.via (T' := T8) (g' := (mkF m 57 #[.val (.int x0)] [(.int (1 : Int32))])) (fun t k => ?_) ?_
              · show Steps p.tables e below (T8.setTop (mkF m 52 #[.val (.int x0)] [])) t
                refine XS.iconst X8.here hx rfl (hb hby d4_52) ?_
                show Steps p.tables e below (T8.setTop (mkF m 53 #[.val (.int x0)] [(.int (1 : Int32))])) t
                refine XS.goto X8.here hx rfl (pc0 := 53) (pc' := 57) rfl (hb hby d4_53) (by decide) (by decide) ?_
                exact k
              refine QP.cast (congrArg (fun z => some (Value.int z)) (show (g4_0 x0) = (1 : Int32) from ((if_pos hc1).trans ((if_neg hc2).trans ((if_pos hc4).trans ((if_pos hc6).trans ((if_neg hc7).trans (if_neg hc9)))))))) ?_
              exact own_retN X8 hx hlk (t := .boolean) hret (by simp) (hb hby d4_57) hk hn ⟨rfl, N8, e8⟩
        · refine Runs.via (T' := T5) (g' := (mkF m 52 #[.val (.int x0)] [])) (fun t k => ?_) ?_
          · show Steps p.tables e below (T5.setTop (mkF m 32 #[.val (.int x0)] [(.int (f5 x0 (65 : Int32) (90 : Int32)))])) t
            exact XS.ifYes X5.here hx rfl (pc0 := 32) (pc' := 52) rfl (hb hby d4_32) rfl ((if0 _ _).trans (feq hc6).2) (by decide) (by decide) k
          refine Runs.via (T' := T5) (g' := (mkF m 57 #[.val (.int x0)] [(.int (1 : Int32))])) (fun t k => ?_) ?_
          · show Steps p.tables e below (T5.setTop (mkF m 52 #[.val (.int x0)] [])) t
            refine XS.iconst X5.here hx rfl (hb hby d4_52) ?_
            show Steps p.tables e below (T5.setTop (mkF m 53 #[.val (.int x0)] [(.int (1 : Int32))])) t
            refine XS.goto X5.here hx rfl (pc0 := 53) (pc' := 57) rfl (hb hby d4_53) (by decide) (by decide) ?_
            exact k
          refine QP.cast (congrArg (fun z => some (Value.int z)) (show (g4_0 x0) = (1 : Int32) from ((if_pos hc1).trans ((if_neg hc2).trans ((if_pos hc4).trans (if_neg hc6)))))) ?_
          exact own_retN X5 hx hlk (t := .boolean) hret (by simp) (hb hby d4_57) hk hn ⟨rfl, N5, e5⟩
      · refine Runs.via (T' := T3) (g' := (mkF m 52 #[.val (.int x0)] [])) (fun t k => ?_) ?_
        · show Steps p.tables e below (T3.setTop (mkF m 21 #[.val (.int x0)] [(.int (f5 x0 (48 : Int32) (57 : Int32)))])) t
          exact XS.ifYes X3.here hx rfl (pc0 := 21) (pc' := 52) rfl (hb hby d4_21) rfl ((if0 _ _).trans (feq hc4).2) (by decide) (by decide) k
        refine Runs.via (T' := T3) (g' := (mkF m 57 #[.val (.int x0)] [(.int (1 : Int32))])) (fun t k => ?_) ?_
        · show Steps p.tables e below (T3.setTop (mkF m 52 #[.val (.int x0)] [])) t
          refine XS.iconst X3.here hx rfl (hb hby d4_52) ?_
          show Steps p.tables e below (T3.setTop (mkF m 53 #[.val (.int x0)] [(.int (1 : Int32))])) t
          refine XS.goto X3.here hx rfl (pc0 := 53) (pc' := 57) rfl (hb hby d4_53) (by decide) (by decide) ?_
          exact k
        refine QP.cast (congrArg (fun z => some (Value.int z)) (show (g4_0 x0) = (1 : Int32) from ((if_pos hc1).trans ((if_neg hc2).trans (if_neg hc4))))) ?_
        exact own_retN X3 hx hlk (t := .boolean) hret (by simp) (hb hby d4_57) hk hn ⟨rfl, N3, e3⟩
  · refine Runs.via (T' := T0) (g' := (mkF m 58 #[.val (.int x0)] [])) (fun t k => ?_) ?_
    · show Steps p.tables e below (T0.setTop (mkF m 4 #[.val (.int x0)] [(.int (128 : Int32)), (.int x0)])) t
      exact XS.icmpYes X0.here hx rfl (pc0 := 4) (pc' := 58) rfl (hb hby d4_4) rfl (flt hc1).2.1 (by decide) (by decide) k
    refine Runs.via (T' := T0) (g' := (mkF m 61 #[.val (.int x0)] [(.int (65535 : Int32)), (.int x0)])) (fun t k => ?_) ?_
    · show Steps p.tables e below (T0.setTop (mkF m 58 #[.val (.int x0)] [])) t
      refine XS.iloadN X0.here hx rfl (hb hby d4_58) rfl ?_
      show Steps p.tables e below (T0.setTop (mkF m 59 #[.val (.int x0)] [(.int x0)])) t
      refine X0.ldcInt hx hown (mvT hZ (hw _ (List.mem_of_getElem? (i := 24) rfl))) (g := (mkF m 59 #[.val (.int x0)] [(.int x0)])) rfl (hb hby d4_59) _ ?_
      exact k
    by_cases hc10 : (65535 : Int32) < x0
    · refine Runs.via (T' := T0) (g' := (mkF m 215 #[.val (.int x0)] [])) (fun t k => ?_) ?_
      · show Steps p.tables e below (T0.setTop (mkF m 61 #[.val (.int x0)] [(.int (65535 : Int32)), (.int x0)])) t
        exact XS.icmpYes X0.here hx rfl (pc0 := 61) (pc' := 215) rfl (hb hby d4_61) rfl (tlt hc10).2.2.1 (by decide) (by decide) k
      refine Runs.via (T' := T0) (g' := (mkF m 220 #[.val (.int x0)] [(.int (983039 : Int32)), (.int (65536 : Int32)), (.int x0)])) (fun t k => ?_) ?_
      · show Steps p.tables e below (T0.setTop (mkF m 215 #[.val (.int x0)] [])) t
        refine XS.iloadN X0.here hx rfl (hb hby d4_215) rfl ?_
        show Steps p.tables e below (T0.setTop (mkF m 216 #[.val (.int x0)] [(.int x0)])) t
        refine X0.ldcInt hx hown (mvT hZ (hw _ (List.mem_of_getElem? (i := 25) rfl))) (g := (mkF m 216 #[.val (.int x0)] [(.int x0)])) rfl (hb hby d4_216) _ ?_
        show Steps p.tables e below (T0.setTop (mkF m 218 #[.val (.int x0)] [(.int (65536 : Int32)), (.int x0)])) t
        refine X0.ldcInt hx hown (mvT hZ (hw _ (List.mem_of_getElem? (i := 26) rfl))) (g := (mkF m 218 #[.val (.int x0)] [(.int (65536 : Int32)), (.int x0)])) rfl (hb hby d4_218) _ ?_
        exact k
      obtain ⟨_, _, ⟨T11, L11, k11, n11⟩, -, X11, ⟨Lc11, hQ11, l11, y11, z11⟩, st11⟩ := Jvm.LawKit.callS X0 hx (y := (⟨"com/example/onto3/onto3/rdf/TermScannerIsNameCharPinLaw", "in", "(III)Z"⟩ : MethodName)) hown (mvT hZ (hw _ (List.mem_of_getElem? (i := 17) rfl))) (mvT hZ (hw _ (List.mem_of_getElem? (i := 18) rfl))) (mvT hZ (hw _ (List.mem_of_getElem? (i := 15) rfl))) (mvT hZ (hw _ (List.mem_of_getElem? (i := 19) rfl))) (by decide) (backOf (W := 0) (rm5 l Z a0 hw [] x0 (65536 : Int32) (983039 : Int32) h0 n0) hZ (hw _ (List.mem_of_getElem? (i := 19) rfl)) (hw _ (List.mem_of_getElem? (i := 15) rfl)) (by decide) (by decide)) (g := (mkF m 220 #[.val (.int x0)] [(.int (983039 : Int32)), (.int (65536 : Int32)), (.int x0)])) rfl (by rw [hml]; rfl) (argsL := [(.int x0), (.int (65536 : Int32)), (.int (983039 : Int32))]) (rest := []) (lenOf pd_1 rfl) rfl (by show 2 * 0 + _ ≤ _; exact Nat.le_of_eq rfl) (hb hby d4_220) (fun _ _ => ⟨rfl, e0, (Nat.le_trans hk (by decide)), (Nat.le_trans hn (by decide))⟩)
      dsimp only [Pt.U, Pt.locs, Pt.cells, Pt.slots] at X11 l11 y11 z11 st11 hQ11
      subst l11 y11 z11
      obtain ⟨rfl, N11q, e11⟩ := hQ11
      have N11 := Fr.app N0 N11q
      refine Runs.via (T' := T11) (g' := (mkF m 223 #[.val (.int x0)] [(.int (f5 x0 (65536 : Int32) (983039 : Int32)))])) (fun t k => st11 _ k) ?_
      refine QP.cast (congrArg (fun z => some (Value.int z)) (show (g4_0 x0) = ((f5 x0 (65536 : Int32) (983039 : Int32)) &&& 1) from ((if_neg hc1).trans (if_pos hc10)))) ?_
      exact own_retN X11 hx hlk (t := .boolean) hret (by simp) (hb hby d4_223) hk hn ⟨rfl, N11, e11⟩
    · refine Runs.via (T' := T0) (g' := (mkF m 64 #[.val (.int x0)] [])) (fun t k => ?_) ?_
      · show Steps p.tables e below (T0.setTop (mkF m 61 #[.val (.int x0)] [(.int (65535 : Int32)), (.int x0)])) t
        exact XS.icmpNo X0.here hx rfl (hb hby d4_61) rfl (flt hc10).2.2.1 k
      refine Runs.via (T' := T0) (g' := (mkF m 68 #[.val (.int x0)] [(.int (183 : Int32)), (.int x0)])) (fun t k => ?_) ?_
      · show Steps p.tables e below (T0.setTop (mkF m 64 #[.val (.int x0)] [])) t
        refine XS.iloadN X0.here hx rfl (hb hby d4_64) rfl ?_
        show Steps p.tables e below (T0.setTop (mkF m 65 #[.val (.int x0)] [(.int x0)])) t
        refine XS.sipush X0.here hx rfl (hb hby d4_65) ?_
        exact k
      by_cases hc12 : x0 = (183 : Int32)
      · refine Runs.via (T' := T0) (g' := (mkF m 209 #[.val (.int x0)] [])) (fun t k => ?_) ?_
        · show Steps p.tables e below (T0.setTop (mkF m 68 #[.val (.int x0)] [(.int (183 : Int32)), (.int x0)])) t
          exact XS.icmpYes X0.here hx rfl (pc0 := 68) (pc' := 209) rfl (hb hby d4_68) rfl (teq hc12).1 (by decide) (by decide) k
        refine Runs.via (T' := T0) (g' := (mkF m 214 #[.val (.int x0)] [(.int (1 : Int32))])) (fun t k => ?_) ?_
        · show Steps p.tables e below (T0.setTop (mkF m 209 #[.val (.int x0)] [])) t
          refine XS.iconst X0.here hx rfl (hb hby d4_209) ?_
          show Steps p.tables e below (T0.setTop (mkF m 210 #[.val (.int x0)] [(.int (1 : Int32))])) t
          refine XS.goto X0.here hx rfl (pc0 := 210) (pc' := 214) rfl (hb hby d4_210) (by decide) (by decide) ?_
          exact k
        refine QP.cast (congrArg (fun z => some (Value.int z)) (show (g4_0 x0) = (1 : Int32) from ((if_neg hc1).trans ((if_neg hc10).trans (if_pos hc12))))) ?_
        exact own_retN X0 hx hlk (t := .boolean) hret (by simp) (hb hby d4_214) hk hn ⟨rfl, N0, e0⟩
      · refine Runs.via (T' := T0) (g' := (mkF m 71 #[.val (.int x0)] [])) (fun t k => ?_) ?_
        · show Steps p.tables e below (T0.setTop (mkF m 68 #[.val (.int x0)] [(.int (183 : Int32)), (.int x0)])) t
          exact XS.icmpNo X0.here hx rfl (hb hby d4_68) rfl (feq hc12).1 k
        refine Runs.via (T' := T0) (g' := (mkF m 78 #[.val (.int x0)] [(.int (214 : Int32)), (.int (192 : Int32)), (.int x0)])) (fun t k => ?_) ?_
        · show Steps p.tables e below (T0.setTop (mkF m 71 #[.val (.int x0)] [])) t
          refine XS.iloadN X0.here hx rfl (hb hby d4_71) rfl ?_
          show Steps p.tables e below (T0.setTop (mkF m 72 #[.val (.int x0)] [(.int x0)])) t
          refine XS.sipush X0.here hx rfl (hb hby d4_72) ?_
          show Steps p.tables e below (T0.setTop (mkF m 75 #[.val (.int x0)] [(.int (192 : Int32)), (.int x0)])) t
          refine XS.sipush X0.here hx rfl (hb hby d4_75) ?_
          exact k
        obtain ⟨_, _, ⟨T13, L13, k13, n13⟩, -, X13, ⟨Lc13, hQ13, l13, y13, z13⟩, st13⟩ := Jvm.LawKit.callS X0 hx (y := (⟨"com/example/onto3/onto3/rdf/TermScannerIsNameCharPinLaw", "in", "(III)Z"⟩ : MethodName)) hown (mvT hZ (hw _ (List.mem_of_getElem? (i := 17) rfl))) (mvT hZ (hw _ (List.mem_of_getElem? (i := 18) rfl))) (mvT hZ (hw _ (List.mem_of_getElem? (i := 15) rfl))) (mvT hZ (hw _ (List.mem_of_getElem? (i := 19) rfl))) (by decide) (backOf (W := 0) (rm5 l Z a0 hw [] x0 (192 : Int32) (214 : Int32) h0 n0) hZ (hw _ (List.mem_of_getElem? (i := 19) rfl)) (hw _ (List.mem_of_getElem? (i := 15) rfl)) (by decide) (by decide)) (g := (mkF m 78 #[.val (.int x0)] [(.int (214 : Int32)), (.int (192 : Int32)), (.int x0)])) rfl (by rw [hml]; rfl) (argsL := [(.int x0), (.int (192 : Int32)), (.int (214 : Int32))]) (rest := []) (lenOf pd_1 rfl) rfl (by show 2 * 0 + _ ≤ _; exact Nat.le_of_eq rfl) (hb hby d4_78) (fun _ _ => ⟨rfl, e0, (Nat.le_trans hk (by decide)), (Nat.le_trans hn (by decide))⟩)
        dsimp only [Pt.U, Pt.locs, Pt.cells, Pt.slots] at X13 l13 y13 z13 st13 hQ13
        subst l13 y13 z13
        obtain ⟨rfl, N13q, e13⟩ := hQ13
        have N13 := Fr.app N0 N13q
        refine Runs.via (T' := T13) (g' := (mkF m 81 #[.val (.int x0)] [(.int (f5 x0 (192 : Int32) (214 : Int32)))])) (fun t k => st13 _ k) ?_
        by_cases hc14 : (f5 x0 (192 : Int32) (214 : Int32)) = (0 : Int32)
        · refine Runs.via (T' := T13) (g' := (mkF m 84 #[.val (.int x0)] [])) (fun t k => ?_) ?_
          · show Steps p.tables e below (T13.setTop (mkF m 81 #[.val (.int x0)] [(.int (f5 x0 (192 : Int32) (214 : Int32)))])) t
            exact XS.ifNo X13.here hx rfl (hb hby d4_81) rfl ((if0 _ _).trans (teq hc14).2) k
          refine Runs.via (T' := T13) (g' := (mkF m 91 #[.val (.int x0)] [(.int (246 : Int32)), (.int (216 : Int32)), (.int x0)])) (fun t k => ?_) ?_
          · show Steps p.tables e below (T13.setTop (mkF m 84 #[.val (.int x0)] [])) t
            refine XS.iloadN X13.here hx rfl (hb hby d4_84) rfl ?_
            show Steps p.tables e below (T13.setTop (mkF m 85 #[.val (.int x0)] [(.int x0)])) t
            refine XS.sipush X13.here hx rfl (hb hby d4_85) ?_
            show Steps p.tables e below (T13.setTop (mkF m 88 #[.val (.int x0)] [(.int (216 : Int32)), (.int x0)])) t
            refine XS.sipush X13.here hx rfl (hb hby d4_88) ?_
            exact k
          obtain ⟨_, _, ⟨T15, L15, k15, n15⟩, -, X15, ⟨Lc15, hQ15, l15, y15, z15⟩, st15⟩ := Jvm.LawKit.callS X13 hx (y := (⟨"com/example/onto3/onto3/rdf/TermScannerIsNameCharPinLaw", "in", "(III)Z"⟩ : MethodName)) hown (mvT hZ (hw _ (List.mem_of_getElem? (i := 17) rfl))) (mvT hZ (hw _ (List.mem_of_getElem? (i := 18) rfl))) (mvT hZ (hw _ (List.mem_of_getElem? (i := 15) rfl))) (mvT hZ (hw _ (List.mem_of_getElem? (i := 19) rfl))) (by decide) (backOf (W := 0) (rm5 l Z a0 hw [] x0 (216 : Int32) (246 : Int32) h0 n0) hZ (hw _ (List.mem_of_getElem? (i := 19) rfl)) (hw _ (List.mem_of_getElem? (i := 15) rfl)) (by decide) (by decide)) (g := (mkF m 91 #[.val (.int x0)] [(.int (246 : Int32)), (.int (216 : Int32)), (.int x0)])) rfl (by rw [hml]; rfl) (argsL := [(.int x0), (.int (216 : Int32)), (.int (246 : Int32))]) (rest := []) (lenOf pd_1 rfl) rfl (by show 2 * 0 + _ ≤ _; exact Nat.le_of_eq rfl) (hb hby d4_91) (fun _ _ => ⟨rfl, e13, (Nat.le_trans hk (by decide)), (Nat.le_trans hn (by decide))⟩)
          dsimp only [Pt.U, Pt.locs, Pt.cells, Pt.slots] at X15 l15 y15 z15 st15 hQ15
          subst l15 y15 z15
          obtain ⟨rfl, N15q, e15⟩ := hQ15
          have N15 := Fr.app N13 N15q
          refine Runs.via (T' := T15) (g' := (mkF m 94 #[.val (.int x0)] [(.int (f5 x0 (216 : Int32) (246 : Int32)))])) (fun t k => st15 _ k) ?_
          by_cases hc16 : (f5 x0 (216 : Int32) (246 : Int32)) = (0 : Int32)
          · refine Runs.via (T' := T15) (g' := (mkF m 97 #[.val (.int x0)] [])) (fun t k => ?_) ?_
            · show Steps p.tables e below (T15.setTop (mkF m 94 #[.val (.int x0)] [(.int (f5 x0 (216 : Int32) (246 : Int32)))])) t
              exact XS.ifNo X15.here hx rfl (hb hby d4_94) rfl ((if0 _ _).trans (teq hc16).2) k
            refine Runs.via (T' := T15) (g' := (mkF m 104 #[.val (.int x0)] [(.int (893 : Int32)), (.int (248 : Int32)), (.int x0)])) (fun t k => ?_) ?_
            · show Steps p.tables e below (T15.setTop (mkF m 97 #[.val (.int x0)] [])) t
              refine XS.iloadN X15.here hx rfl (hb hby d4_97) rfl ?_
              show Steps p.tables e below (T15.setTop (mkF m 98 #[.val (.int x0)] [(.int x0)])) t
              refine XS.sipush X15.here hx rfl (hb hby d4_98) ?_
              show Steps p.tables e below (T15.setTop (mkF m 101 #[.val (.int x0)] [(.int (248 : Int32)), (.int x0)])) t
              refine XS.sipush X15.here hx rfl (hb hby d4_101) ?_
              exact k
            obtain ⟨_, _, ⟨T17, L17, k17, n17⟩, -, X17, ⟨Lc17, hQ17, l17, y17, z17⟩, st17⟩ := Jvm.LawKit.callS X15 hx (y := (⟨"com/example/onto3/onto3/rdf/TermScannerIsNameCharPinLaw", "in", "(III)Z"⟩ : MethodName)) hown (mvT hZ (hw _ (List.mem_of_getElem? (i := 17) rfl))) (mvT hZ (hw _ (List.mem_of_getElem? (i := 18) rfl))) (mvT hZ (hw _ (List.mem_of_getElem? (i := 15) rfl))) (mvT hZ (hw _ (List.mem_of_getElem? (i := 19) rfl))) (by decide) (backOf (W := 0) (rm5 l Z a0 hw [] x0 (248 : Int32) (893 : Int32) h0 n0) hZ (hw _ (List.mem_of_getElem? (i := 19) rfl)) (hw _ (List.mem_of_getElem? (i := 15) rfl)) (by decide) (by decide)) (g := (mkF m 104 #[.val (.int x0)] [(.int (893 : Int32)), (.int (248 : Int32)), (.int x0)])) rfl (by rw [hml]; rfl) (argsL := [(.int x0), (.int (248 : Int32)), (.int (893 : Int32))]) (rest := []) (lenOf pd_1 rfl) rfl (by show 2 * 0 + _ ≤ _; exact Nat.le_of_eq rfl) (hb hby d4_104) (fun _ _ => ⟨rfl, e15, (Nat.le_trans hk (by decide)), (Nat.le_trans hn (by decide))⟩)
            dsimp only [Pt.U, Pt.locs, Pt.cells, Pt.slots] at X17 l17 y17 z17 st17 hQ17
            subst l17 y17 z17
            obtain ⟨rfl, N17q, e17⟩ := hQ17
            have N17 := Fr.app N15 N17q
            refine Runs.via (T' := T17) (g' := (mkF m 107 #[.val (.int x0)] [(.int (f5 x0 (248 : Int32) (893 : Int32)))])) (fun t k => st17 _ k) ?_
            by_cases hc18 : (f5 x0 (248 : Int32) (893 : Int32)) = (0 : Int32)
            · refine Runs.via (T' := T17) (g' := (mkF m 110 #[.val (.int x0)] [])) (fun t k => ?_) ?_
              · show Steps p.tables e below (T17.setTop (mkF m 107 #[.val (.int x0)] [(.int (f5 x0 (248 : Int32) (893 : Int32)))])) t
                exact XS.ifNo X17.here hx rfl (hb hby d4_107) rfl ((if0 _ _).trans (teq hc18).2) k
              refine Runs.via (T' := T17) (g' := (mkF m 117 #[.val (.int x0)] [(.int (8191 : Int32)), (.int (895 : Int32)), (.int x0)])) (fun t k => ?_) ?_
              · show Steps p.tables e below (T17.setTop (mkF m 110 #[.val (.int x0)] [])) t
                refine XS.iloadN X17.here hx rfl (hb hby d4_110) rfl ?_
                show Steps p.tables e below (T17.setTop (mkF m 111 #[.val (.int x0)] [(.int x0)])) t
                refine XS.sipush X17.here hx rfl (hb hby d4_111) ?_
                show Steps p.tables e below (T17.setTop (mkF m 114 #[.val (.int x0)] [(.int (895 : Int32)), (.int x0)])) t
                refine XS.sipush X17.here hx rfl (hb hby d4_114) ?_
                exact k
              obtain ⟨_, _, ⟨T19, L19, k19, n19⟩, -, X19, ⟨Lc19, hQ19, l19, y19, z19⟩, st19⟩ := Jvm.LawKit.callS X17 hx (y := (⟨"com/example/onto3/onto3/rdf/TermScannerIsNameCharPinLaw", "in", "(III)Z"⟩ : MethodName)) hown (mvT hZ (hw _ (List.mem_of_getElem? (i := 17) rfl))) (mvT hZ (hw _ (List.mem_of_getElem? (i := 18) rfl))) (mvT hZ (hw _ (List.mem_of_getElem? (i := 15) rfl))) (mvT hZ (hw _ (List.mem_of_getElem? (i := 19) rfl))) (by decide) (backOf (W := 0) (rm5 l Z a0 hw [] x0 (895 : Int32) (8191 : Int32) h0 n0) hZ (hw _ (List.mem_of_getElem? (i := 19) rfl)) (hw _ (List.mem_of_getElem? (i := 15) rfl)) (by decide) (by decide)) (g := (mkF m 117 #[.val (.int x0)] [(.int (8191 : Int32)), (.int (895 : Int32)), (.int x0)])) rfl (by rw [hml]; rfl) (argsL := [(.int x0), (.int (895 : Int32)), (.int (8191 : Int32))]) (rest := []) (lenOf pd_1 rfl) rfl (by show 2 * 0 + _ ≤ _; exact Nat.le_of_eq rfl) (hb hby d4_117) (fun _ _ => ⟨rfl, e17, (Nat.le_trans hk (by decide)), (Nat.le_trans hn (by decide))⟩)
              dsimp only [Pt.U, Pt.locs, Pt.cells, Pt.slots] at X19 l19 y19 z19 st19 hQ19
              subst l19 y19 z19
              obtain ⟨rfl, N19q, e19⟩ := hQ19
              have N19 := Fr.app N17 N19q
              refine Runs.via (T' := T19) (g' := (mkF m 120 #[.val (.int x0)] [(.int (f5 x0 (895 : Int32) (8191 : Int32)))])) (fun t k => st19 _ k) ?_
              by_cases hc20 : (f5 x0 (895 : Int32) (8191 : Int32)) = (0 : Int32)
              · refine Runs.via (T' := T19) (g' := (mkF m 123 #[.val (.int x0)] [])) (fun t k => ?_) ?_
                · show Steps p.tables e below (T19.setTop (mkF m 120 #[.val (.int x0)] [(.int (f5 x0 (895 : Int32) (8191 : Int32)))])) t
                  exact XS.ifNo X19.here hx rfl (hb hby d4_120) rfl ((if0 _ _).trans (teq hc20).2) k
                refine Runs.via (T' := T19) (g' := (mkF m 130 #[.val (.int x0)] [(.int (8205 : Int32)), (.int (8204 : Int32)), (.int x0)])) (fun t k => ?_) ?_
                · show Steps p.tables e below (T19.setTop (mkF m 123 #[.val (.int x0)] [])) t
                  refine XS.iloadN X19.here hx rfl (hb hby d4_123) rfl ?_
                  show Steps p.tables e below (T19.setTop (mkF m 124 #[.val (.int x0)] [(.int x0)])) t
                  refine XS.sipush X19.here hx rfl (hb hby d4_124) ?_
                  show Steps p.tables e below (T19.setTop (mkF m 127 #[.val (.int x0)] [(.int (8204 : Int32)), (.int x0)])) t
                  refine XS.sipush X19.here hx rfl (hb hby d4_127) ?_
                  exact k
                obtain ⟨_, _, ⟨T21, L21, k21, n21⟩, -, X21, ⟨Lc21, hQ21, l21, y21, z21⟩, st21⟩ := Jvm.LawKit.callS X19 hx (y := (⟨"com/example/onto3/onto3/rdf/TermScannerIsNameCharPinLaw", "in", "(III)Z"⟩ : MethodName)) hown (mvT hZ (hw _ (List.mem_of_getElem? (i := 17) rfl))) (mvT hZ (hw _ (List.mem_of_getElem? (i := 18) rfl))) (mvT hZ (hw _ (List.mem_of_getElem? (i := 15) rfl))) (mvT hZ (hw _ (List.mem_of_getElem? (i := 19) rfl))) (by decide) (backOf (W := 0) (rm5 l Z a0 hw [] x0 (8204 : Int32) (8205 : Int32) h0 n0) hZ (hw _ (List.mem_of_getElem? (i := 19) rfl)) (hw _ (List.mem_of_getElem? (i := 15) rfl)) (by decide) (by decide)) (g := (mkF m 130 #[.val (.int x0)] [(.int (8205 : Int32)), (.int (8204 : Int32)), (.int x0)])) rfl (by rw [hml]; rfl) (argsL := [(.int x0), (.int (8204 : Int32)), (.int (8205 : Int32))]) (rest := []) (lenOf pd_1 rfl) rfl (by show 2 * 0 + _ ≤ _; exact Nat.le_of_eq rfl) (hb hby d4_130) (fun _ _ => ⟨rfl, e19, (Nat.le_trans hk (by decide)), (Nat.le_trans hn (by decide))⟩)
                dsimp only [Pt.U, Pt.locs, Pt.cells, Pt.slots] at X21 l21 y21 z21 st21 hQ21
                subst l21 y21 z21
                obtain ⟨rfl, N21q, e21⟩ := hQ21
                have N21 := Fr.app N19 N21q
                refine Runs.via (T' := T21) (g' := (mkF m 133 #[.val (.int x0)] [(.int (f5 x0 (8204 : Int32) (8205 : Int32)))])) (fun t k => st21 _ k) ?_
                by_cases hc22 : (f5 x0 (8204 : Int32) (8205 : Int32)) = (0 : Int32)
                · refine Runs.via (T' := T21) (g' := (mkF m 136 #[.val (.int x0)] [])) (fun t k => ?_) ?_
                  · show Steps p.tables e below (T21.setTop (mkF m 133 #[.val (.int x0)] [(.int (f5 x0 (8204 : Int32) (8205 : Int32)))])) t
                    exact XS.ifNo X21.here hx rfl (hb hby d4_133) rfl ((if0 _ _).trans (teq hc22).2) k
                  refine Runs.via (T' := T21) (g' := (mkF m 143 #[.val (.int x0)] [(.int (8256 : Int32)), (.int (8255 : Int32)), (.int x0)])) (fun t k => ?_) ?_
                  · show Steps p.tables e below (T21.setTop (mkF m 136 #[.val (.int x0)] [])) t
                    refine XS.iloadN X21.here hx rfl (hb hby d4_136) rfl ?_
                    show Steps p.tables e below (T21.setTop (mkF m 137 #[.val (.int x0)] [(.int x0)])) t
                    refine XS.sipush X21.here hx rfl (hb hby d4_137) ?_
                    show Steps p.tables e below (T21.setTop (mkF m 140 #[.val (.int x0)] [(.int (8255 : Int32)), (.int x0)])) t
                    refine XS.sipush X21.here hx rfl (hb hby d4_140) ?_
                    exact k
                  obtain ⟨_, _, ⟨T23, L23, k23, n23⟩, -, X23, ⟨Lc23, hQ23, l23, y23, z23⟩, st23⟩ := Jvm.LawKit.callS X21 hx (y := (⟨"com/example/onto3/onto3/rdf/TermScannerIsNameCharPinLaw", "in", "(III)Z"⟩ : MethodName)) hown (mvT hZ (hw _ (List.mem_of_getElem? (i := 17) rfl))) (mvT hZ (hw _ (List.mem_of_getElem? (i := 18) rfl))) (mvT hZ (hw _ (List.mem_of_getElem? (i := 15) rfl))) (mvT hZ (hw _ (List.mem_of_getElem? (i := 19) rfl))) (by decide) (backOf (W := 0) (rm5 l Z a0 hw [] x0 (8255 : Int32) (8256 : Int32) h0 n0) hZ (hw _ (List.mem_of_getElem? (i := 19) rfl)) (hw _ (List.mem_of_getElem? (i := 15) rfl)) (by decide) (by decide)) (g := (mkF m 143 #[.val (.int x0)] [(.int (8256 : Int32)), (.int (8255 : Int32)), (.int x0)])) rfl (by rw [hml]; rfl) (argsL := [(.int x0), (.int (8255 : Int32)), (.int (8256 : Int32))]) (rest := []) (lenOf pd_1 rfl) rfl (by show 2 * 0 + _ ≤ _; exact Nat.le_of_eq rfl) (hb hby d4_143) (fun _ _ => ⟨rfl, e21, (Nat.le_trans hk (by decide)), (Nat.le_trans hn (by decide))⟩)
                  dsimp only [Pt.U, Pt.locs, Pt.cells, Pt.slots] at X23 l23 y23 z23 st23 hQ23
                  subst l23 y23 z23
                  obtain ⟨rfl, N23q, e23⟩ := hQ23
                  have N23 := Fr.app N21 N23q
                  refine Runs.via (T' := T23) (g' := (mkF m 146 #[.val (.int x0)] [(.int (f5 x0 (8255 : Int32) (8256 : Int32)))])) (fun t k => st23 _ k) ?_
                  by_cases hc24 : (f5 x0 (8255 : Int32) (8256 : Int32)) = (0 : Int32)
                  · refine Runs.via (T' := T23) (g' := (mkF m 149 #[.val (.int x0)] [])) (fun t k => ?_) ?_
                    · show Steps p.tables e below (T23.setTop (mkF m 146 #[.val (.int x0)] [(.int (f5 x0 (8255 : Int32) (8256 : Int32)))])) t
                      exact XS.ifNo X23.here hx rfl (hb hby d4_146) rfl ((if0 _ _).trans (teq hc24).2) k
                    refine Runs.via (T' := T23) (g' := (mkF m 156 #[.val (.int x0)] [(.int (8591 : Int32)), (.int (8304 : Int32)), (.int x0)])) (fun t k => ?_) ?_
                    · show Steps p.tables e below (T23.setTop (mkF m 149 #[.val (.int x0)] [])) t
                      refine XS.iloadN X23.here hx rfl (hb hby d4_149) rfl ?_
                      show Steps p.tables e below (T23.setTop (mkF m 150 #[.val (.int x0)] [(.int x0)])) t
                      refine XS.sipush X23.here hx rfl (hb hby d4_150) ?_
                      show Steps p.tables e below (T23.setTop (mkF m 153 #[.val (.int x0)] [(.int (8304 : Int32)), (.int x0)])) t
                      refine XS.sipush X23.here hx rfl (hb hby d4_153) ?_
                      exact k
                    obtain ⟨_, _, ⟨T25, L25, k25, n25⟩, -, X25, ⟨Lc25, hQ25, l25, y25, z25⟩, st25⟩ := Jvm.LawKit.callS X23 hx (y := (⟨"com/example/onto3/onto3/rdf/TermScannerIsNameCharPinLaw", "in", "(III)Z"⟩ : MethodName)) hown (mvT hZ (hw _ (List.mem_of_getElem? (i := 17) rfl))) (mvT hZ (hw _ (List.mem_of_getElem? (i := 18) rfl))) (mvT hZ (hw _ (List.mem_of_getElem? (i := 15) rfl))) (mvT hZ (hw _ (List.mem_of_getElem? (i := 19) rfl))) (by decide) (backOf (W := 0) (rm5 l Z a0 hw [] x0 (8304 : Int32) (8591 : Int32) h0 n0) hZ (hw _ (List.mem_of_getElem? (i := 19) rfl)) (hw _ (List.mem_of_getElem? (i := 15) rfl)) (by decide) (by decide)) (g := (mkF m 156 #[.val (.int x0)] [(.int (8591 : Int32)), (.int (8304 : Int32)), (.int x0)])) rfl (by rw [hml]; rfl) (argsL := [(.int x0), (.int (8304 : Int32)), (.int (8591 : Int32))]) (rest := []) (lenOf pd_1 rfl) rfl (by show 2 * 0 + _ ≤ _; exact Nat.le_of_eq rfl) (hb hby d4_156) (fun _ _ => ⟨rfl, e23, (Nat.le_trans hk (by decide)), (Nat.le_trans hn (by decide))⟩)
                    dsimp only [Pt.U, Pt.locs, Pt.cells, Pt.slots] at X25 l25 y25 z25 st25 hQ25
                    subst l25 y25 z25
                    obtain ⟨rfl, N25q, e25⟩ := hQ25
                    have N25 := Fr.app N23 N25q
                    refine Runs.via (T' := T25) (g' := (mkF m 159 #[.val (.int x0)] [(.int (f5 x0 (8304 : Int32) (8591 : Int32)))])) (fun t k => st25 _ k) ?_
                    by_cases hc26 : (f5 x0 (8304 : Int32) (8591 : Int32)) = (0 : Int32)
                    · refine Runs.via (T' := T25) (g' := (mkF m 162 #[.val (.int x0)] [])) (fun t k => ?_) ?_
                      · show Steps p.tables e below (T25.setTop (mkF m 159 #[.val (.int x0)] [(.int (f5 x0 (8304 : Int32) (8591 : Int32)))])) t
                        exact XS.ifNo X25.here hx rfl (hb hby d4_159) rfl ((if0 _ _).trans (teq hc26).2) k
                      refine Runs.via (T' := T25) (g' := (mkF m 169 #[.val (.int x0)] [(.int (12271 : Int32)), (.int (11264 : Int32)), (.int x0)])) (fun t k => ?_) ?_
                      · show Steps p.tables e below (T25.setTop (mkF m 162 #[.val (.int x0)] [])) t
                        refine XS.iloadN X25.here hx rfl (hb hby d4_162) rfl ?_
                        show Steps p.tables e below (T25.setTop (mkF m 163 #[.val (.int x0)] [(.int x0)])) t
                        refine XS.sipush X25.here hx rfl (hb hby d4_163) ?_
                        show Steps p.tables e below (T25.setTop (mkF m 166 #[.val (.int x0)] [(.int (11264 : Int32)), (.int x0)])) t
                        refine XS.sipush X25.here hx rfl (hb hby d4_166) ?_
                        exact k
                      obtain ⟨_, _, ⟨T27, L27, k27, n27⟩, -, X27, ⟨Lc27, hQ27, l27, y27, z27⟩, st27⟩ := Jvm.LawKit.callS X25 hx (y := (⟨"com/example/onto3/onto3/rdf/TermScannerIsNameCharPinLaw", "in", "(III)Z"⟩ : MethodName)) hown (mvT hZ (hw _ (List.mem_of_getElem? (i := 17) rfl))) (mvT hZ (hw _ (List.mem_of_getElem? (i := 18) rfl))) (mvT hZ (hw _ (List.mem_of_getElem? (i := 15) rfl))) (mvT hZ (hw _ (List.mem_of_getElem? (i := 19) rfl))) (by decide) (backOf (W := 0) (rm5 l Z a0 hw [] x0 (11264 : Int32) (12271 : Int32) h0 n0) hZ (hw _ (List.mem_of_getElem? (i := 19) rfl)) (hw _ (List.mem_of_getElem? (i := 15) rfl)) (by decide) (by decide)) (g := (mkF m 169 #[.val (.int x0)] [(.int (12271 : Int32)), (.int (11264 : Int32)), (.int x0)])) rfl (by rw [hml]; rfl) (argsL := [(.int x0), (.int (11264 : Int32)), (.int (12271 : Int32))]) (rest := []) (lenOf pd_1 rfl) rfl (by show 2 * 0 + _ ≤ _; exact Nat.le_of_eq rfl) (hb hby d4_169) (fun _ _ => ⟨rfl, e25, (Nat.le_trans hk (by decide)), (Nat.le_trans hn (by decide))⟩)
                      dsimp only [Pt.U, Pt.locs, Pt.cells, Pt.slots] at X27 l27 y27 z27 st27 hQ27
                      subst l27 y27 z27
                      obtain ⟨rfl, N27q, e27⟩ := hQ27
                      have N27 := Fr.app N25 N27q
                      refine Runs.via (T' := T27) (g' := (mkF m 172 #[.val (.int x0)] [(.int (f5 x0 (11264 : Int32) (12271 : Int32)))])) (fun t k => st27 _ k) ?_
                      by_cases hc28 : (f5 x0 (11264 : Int32) (12271 : Int32)) = (0 : Int32)
                      · refine Runs.via (T' := T27) (g' := (mkF m 175 #[.val (.int x0)] [])) (fun t k => ?_) ?_
                        · show Steps p.tables e below (T27.setTop (mkF m 172 #[.val (.int x0)] [(.int (f5 x0 (11264 : Int32) (12271 : Int32)))])) t
                          exact XS.ifNo X27.here hx rfl (hb hby d4_172) rfl ((if0 _ _).trans (teq hc28).2) k
                        refine Runs.via (T' := T27) (g' := (mkF m 181 #[.val (.int x0)] [(.int (55295 : Int32)), (.int (12289 : Int32)), (.int x0)])) (fun t k => ?_) ?_
                        · show Steps p.tables e below (T27.setTop (mkF m 175 #[.val (.int x0)] [])) t
                          refine XS.iloadN X27.here hx rfl (hb hby d4_175) rfl ?_
                          show Steps p.tables e below (T27.setTop (mkF m 176 #[.val (.int x0)] [(.int x0)])) t
                          refine XS.sipush X27.here hx rfl (hb hby d4_176) ?_
                          show Steps p.tables e below (T27.setTop (mkF m 179 #[.val (.int x0)] [(.int (12289 : Int32)), (.int x0)])) t
                          refine X27.ldcInt hx hown (mvT hZ (hw _ (List.mem_of_getElem? (i := 27) rfl))) (g := (mkF m 179 #[.val (.int x0)] [(.int (12289 : Int32)), (.int x0)])) rfl (hb hby d4_179) _ ?_
                          exact k
                        obtain ⟨_, _, ⟨T29, L29, k29, n29⟩, -, X29, ⟨Lc29, hQ29, l29, y29, z29⟩, st29⟩ := Jvm.LawKit.callS X27 hx (y := (⟨"com/example/onto3/onto3/rdf/TermScannerIsNameCharPinLaw", "in", "(III)Z"⟩ : MethodName)) hown (mvT hZ (hw _ (List.mem_of_getElem? (i := 17) rfl))) (mvT hZ (hw _ (List.mem_of_getElem? (i := 18) rfl))) (mvT hZ (hw _ (List.mem_of_getElem? (i := 15) rfl))) (mvT hZ (hw _ (List.mem_of_getElem? (i := 19) rfl))) (by decide) (backOf (W := 0) (rm5 l Z a0 hw [] x0 (12289 : Int32) (55295 : Int32) h0 n0) hZ (hw _ (List.mem_of_getElem? (i := 19) rfl)) (hw _ (List.mem_of_getElem? (i := 15) rfl)) (by decide) (by decide)) (g := (mkF m 181 #[.val (.int x0)] [(.int (55295 : Int32)), (.int (12289 : Int32)), (.int x0)])) rfl (by rw [hml]; rfl) (argsL := [(.int x0), (.int (12289 : Int32)), (.int (55295 : Int32))]) (rest := []) (lenOf pd_1 rfl) rfl (by show 2 * 0 + _ ≤ _; exact Nat.le_of_eq rfl) (hb hby d4_181) (fun _ _ => ⟨rfl, e27, (Nat.le_trans hk (by decide)), (Nat.le_trans hn (by decide))⟩)
                        dsimp only [Pt.U, Pt.locs, Pt.cells, Pt.slots] at X29 l29 y29 z29 st29 hQ29
                        subst l29 y29 z29
                        obtain ⟨rfl, N29q, e29⟩ := hQ29
                        have N29 := Fr.app N27 N29q
                        refine Runs.via (T' := T29) (g' := (mkF m 184 #[.val (.int x0)] [(.int (f5 x0 (12289 : Int32) (55295 : Int32)))])) (fun t k => st29 _ k) ?_
                        by_cases hc30 : (f5 x0 (12289 : Int32) (55295 : Int32)) = (0 : Int32)
                        · refine Runs.via (T' := T29) (g' := (mkF m 187 #[.val (.int x0)] [])) (fun t k => ?_) ?_
                          · show Steps p.tables e below (T29.setTop (mkF m 184 #[.val (.int x0)] [(.int (f5 x0 (12289 : Int32) (55295 : Int32)))])) t
                            exact XS.ifNo X29.here hx rfl (hb hby d4_184) rfl ((if0 _ _).trans (teq hc30).2) k
                          refine Runs.via (T' := T29) (g' := (mkF m 192 #[.val (.int x0)] [(.int (64975 : Int32)), (.int (63744 : Int32)), (.int x0)])) (fun t k => ?_) ?_
                          · show Steps p.tables e below (T29.setTop (mkF m 187 #[.val (.int x0)] [])) t
                            refine XS.iloadN X29.here hx rfl (hb hby d4_187) rfl ?_
                            show Steps p.tables e below (T29.setTop (mkF m 188 #[.val (.int x0)] [(.int x0)])) t
                            refine X29.ldcInt hx hown (mvT hZ (hw _ (List.mem_of_getElem? (i := 28) rfl))) (g := (mkF m 188 #[.val (.int x0)] [(.int x0)])) rfl (hb hby d4_188) _ ?_
                            show Steps p.tables e below (T29.setTop (mkF m 190 #[.val (.int x0)] [(.int (63744 : Int32)), (.int x0)])) t
                            refine X29.ldcInt hx hown (mvT hZ (hw _ (List.mem_of_getElem? (i := 29) rfl))) (g := (mkF m 190 #[.val (.int x0)] [(.int (63744 : Int32)), (.int x0)])) rfl (hb hby d4_190) _ ?_
                            exact k
                          obtain ⟨_, _, ⟨T31, L31, k31, n31⟩, -, X31, ⟨Lc31, hQ31, l31, y31, z31⟩, st31⟩ := Jvm.LawKit.callS X29 hx (y := (⟨"com/example/onto3/onto3/rdf/TermScannerIsNameCharPinLaw", "in", "(III)Z"⟩ : MethodName)) hown (mvT hZ (hw _ (List.mem_of_getElem? (i := 17) rfl))) (mvT hZ (hw _ (List.mem_of_getElem? (i := 18) rfl))) (mvT hZ (hw _ (List.mem_of_getElem? (i := 15) rfl))) (mvT hZ (hw _ (List.mem_of_getElem? (i := 19) rfl))) (by decide) (backOf (W := 0) (rm5 l Z a0 hw [] x0 (63744 : Int32) (64975 : Int32) h0 n0) hZ (hw _ (List.mem_of_getElem? (i := 19) rfl)) (hw _ (List.mem_of_getElem? (i := 15) rfl)) (by decide) (by decide)) (g := (mkF m 192 #[.val (.int x0)] [(.int (64975 : Int32)), (.int (63744 : Int32)), (.int x0)])) rfl (by rw [hml]; rfl) (argsL := [(.int x0), (.int (63744 : Int32)), (.int (64975 : Int32))]) (rest := []) (lenOf pd_1 rfl) rfl (by show 2 * 0 + _ ≤ _; exact Nat.le_of_eq rfl) (hb hby d4_192) (fun _ _ => ⟨rfl, e29, (Nat.le_trans hk (by decide)), (Nat.le_trans hn (by decide))⟩)
                          dsimp only [Pt.U, Pt.locs, Pt.cells, Pt.slots] at X31 l31 y31 z31 st31 hQ31
                          subst l31 y31 z31
                          obtain ⟨rfl, N31q, e31⟩ := hQ31
                          have N31 := Fr.app N29 N31q
                          refine Runs.via (T' := T31) (g' := (mkF m 195 #[.val (.int x0)] [(.int (f5 x0 (63744 : Int32) (64975 : Int32)))])) (fun t k => st31 _ k) ?_
                          by_cases hc32 : (f5 x0 (63744 : Int32) (64975 : Int32)) = (0 : Int32)
                          · refine Runs.via (T' := T31) (g' := (mkF m 198 #[.val (.int x0)] [])) (fun t k => ?_) ?_
                            · show Steps p.tables e below (T31.setTop (mkF m 195 #[.val (.int x0)] [(.int (f5 x0 (63744 : Int32) (64975 : Int32)))])) t
                              exact XS.ifNo X31.here hx rfl (hb hby d4_195) rfl ((if0 _ _).trans (teq hc32).2) k
                            refine Runs.via (T' := T31) (g' := (mkF m 203 #[.val (.int x0)] [(.int (65533 : Int32)), (.int (65008 : Int32)), (.int x0)])) (fun t k => ?_) ?_
                            · show Steps p.tables e below (T31.setTop (mkF m 198 #[.val (.int x0)] [])) t
                              refine XS.iloadN X31.here hx rfl (hb hby d4_198) rfl ?_
                              show Steps p.tables e below (T31.setTop (mkF m 199 #[.val (.int x0)] [(.int x0)])) t
                              refine X31.ldcInt hx hown (mvT hZ (hw _ (List.mem_of_getElem? (i := 30) rfl))) (g := (mkF m 199 #[.val (.int x0)] [(.int x0)])) rfl (hb hby d4_199) _ ?_
                              show Steps p.tables e below (T31.setTop (mkF m 201 #[.val (.int x0)] [(.int (65008 : Int32)), (.int x0)])) t
                              refine X31.ldcInt hx hown (mvT hZ (hw _ (List.mem_of_getElem? (i := 31) rfl))) (g := (mkF m 201 #[.val (.int x0)] [(.int (65008 : Int32)), (.int x0)])) rfl (hb hby d4_201) _ ?_
                              exact k
                            obtain ⟨_, _, ⟨T33, L33, k33, n33⟩, -, X33, ⟨Lc33, hQ33, l33, y33, z33⟩, st33⟩ := Jvm.LawKit.callS X31 hx (y := (⟨"com/example/onto3/onto3/rdf/TermScannerIsNameCharPinLaw", "in", "(III)Z"⟩ : MethodName)) hown (mvT hZ (hw _ (List.mem_of_getElem? (i := 17) rfl))) (mvT hZ (hw _ (List.mem_of_getElem? (i := 18) rfl))) (mvT hZ (hw _ (List.mem_of_getElem? (i := 15) rfl))) (mvT hZ (hw _ (List.mem_of_getElem? (i := 19) rfl))) (by decide) (backOf (W := 0) (rm5 l Z a0 hw [] x0 (65008 : Int32) (65533 : Int32) h0 n0) hZ (hw _ (List.mem_of_getElem? (i := 19) rfl)) (hw _ (List.mem_of_getElem? (i := 15) rfl)) (by decide) (by decide)) (g := (mkF m 203 #[.val (.int x0)] [(.int (65533 : Int32)), (.int (65008 : Int32)), (.int x0)])) rfl (by rw [hml]; rfl) (argsL := [(.int x0), (.int (65008 : Int32)), (.int (65533 : Int32))]) (rest := []) (lenOf pd_1 rfl) rfl (by show 2 * 0 + _ ≤ _; exact Nat.le_of_eq rfl) (hb hby d4_203) (fun _ _ => ⟨rfl, e31, (Nat.le_trans hk (by decide)), (Nat.le_trans hn (by decide))⟩)
                            dsimp only [Pt.U, Pt.locs, Pt.cells, Pt.slots] at X33 l33 y33 z33 st33 hQ33
                            subst l33 y33 z33
                            obtain ⟨rfl, N33q, e33⟩ := hQ33
                            have N33 := Fr.app N31 N33q
                            refine Runs.via (T' := T33) (g' := (mkF m 206 #[.val (.int x0)] [(.int (f5 x0 (65008 : Int32) (65533 : Int32)))])) (fun t k => st33 _ k) ?_
                            by_cases hc34 : (f5 x0 (65008 : Int32) (65533 : Int32)) = (0 : Int32)
                            · refine Runs.via (T' := T33) (g' := (mkF m 213 #[.val (.int x0)] [])) (fun t k => ?_) ?_
                              · show Steps p.tables e below (T33.setTop (mkF m 206 #[.val (.int x0)] [(.int (f5 x0 (65008 : Int32) (65533 : Int32)))])) t
                                exact XS.ifYes X33.here hx rfl (pc0 := 206) (pc' := 213) rfl (hb hby d4_206) rfl ((if0 _ _).trans (teq hc34).1) (by decide) (by decide) k
                              refine Runs.via (T' := T33) (g' := (mkF m 214 #[.val (.int x0)] [(.int (0 : Int32))])) (fun t k => ?_) ?_
                              · show Steps p.tables e below (T33.setTop (mkF m 213 #[.val (.int x0)] [])) t
                                refine XS.iconst X33.here hx rfl (hb hby d4_213) ?_
                                exact k
                              refine QP.cast (congrArg (fun z => some (Value.int z)) (show (g4_0 x0) = (0 : Int32) from ((if_neg hc1).trans ((if_neg hc10).trans ((if_neg hc12).trans ((if_pos hc14).trans ((if_pos hc16).trans ((if_pos hc18).trans ((if_pos hc20).trans ((if_pos hc22).trans ((if_pos hc24).trans ((if_pos hc26).trans ((if_pos hc28).trans ((if_pos hc30).trans ((if_pos hc32).trans (if_pos hc34)))))))))))))))) ?_
                              exact own_retN X33 hx hlk (t := .boolean) hret (by simp) (hb hby d4_214) hk hn ⟨rfl, N33, e33⟩
                            · refine Runs.via (T' := T33) (g' := (mkF m 209 #[.val (.int x0)] [])) (fun t k => ?_) ?_
                              · show Steps p.tables e below (T33.setTop (mkF m 206 #[.val (.int x0)] [(.int (f5 x0 (65008 : Int32) (65533 : Int32)))])) t
                                exact XS.ifNo X33.here hx rfl (hb hby d4_206) rfl ((if0 _ _).trans (feq hc34).1) k
                              refine Runs.via (T' := T33) (g' := (mkF m 214 #[.val (.int x0)] [(.int (1 : Int32))])) (fun t k => ?_) ?_
                              · show Steps p.tables e below (T33.setTop (mkF m 209 #[.val (.int x0)] [])) t
                                refine XS.iconst X33.here hx rfl (hb hby d4_209) ?_
                                show Steps p.tables e below (T33.setTop (mkF m 210 #[.val (.int x0)] [(.int (1 : Int32))])) t
                                refine XS.goto X33.here hx rfl (pc0 := 210) (pc' := 214) rfl (hb hby d4_210) (by decide) (by decide) ?_
                                exact k
                              refine QP.cast (congrArg (fun z => some (Value.int z)) (show (g4_0 x0) = (1 : Int32) from ((if_neg hc1).trans ((if_neg hc10).trans ((if_neg hc12).trans ((if_pos hc14).trans ((if_pos hc16).trans ((if_pos hc18).trans ((if_pos hc20).trans ((if_pos hc22).trans ((if_pos hc24).trans ((if_pos hc26).trans ((if_pos hc28).trans ((if_pos hc30).trans ((if_pos hc32).trans (if_neg hc34)))))))))))))))) ?_
                              exact own_retN X33 hx hlk (t := .boolean) hret (by simp) (hb hby d4_214) hk hn ⟨rfl, N33, e33⟩
                          · refine Runs.via (T' := T31) (g' := (mkF m 209 #[.val (.int x0)] [])) (fun t k => ?_) ?_
                            · show Steps p.tables e below (T31.setTop (mkF m 195 #[.val (.int x0)] [(.int (f5 x0 (63744 : Int32) (64975 : Int32)))])) t
                              exact XS.ifYes X31.here hx rfl (pc0 := 195) (pc' := 209) rfl (hb hby d4_195) rfl ((if0 _ _).trans (feq hc32).2) (by decide) (by decide) k
                            refine Runs.via (T' := T31) (g' := (mkF m 214 #[.val (.int x0)] [(.int (1 : Int32))])) (fun t k => ?_) ?_
                            · show Steps p.tables e below (T31.setTop (mkF m 209 #[.val (.int x0)] [])) t
                              refine XS.iconst X31.here hx rfl (hb hby d4_209) ?_
                              show Steps p.tables e below (T31.setTop (mkF m 210 #[.val (.int x0)] [(.int (1 : Int32))])) t
                              refine XS.goto X31.here hx rfl (pc0 := 210) (pc' := 214) rfl (hb hby d4_210) (by decide) (by decide) ?_
                              exact k
                            refine QP.cast (congrArg (fun z => some (Value.int z)) (show (g4_0 x0) = (1 : Int32) from ((if_neg hc1).trans ((if_neg hc10).trans ((if_neg hc12).trans ((if_pos hc14).trans ((if_pos hc16).trans ((if_pos hc18).trans ((if_pos hc20).trans ((if_pos hc22).trans ((if_pos hc24).trans ((if_pos hc26).trans ((if_pos hc28).trans ((if_pos hc30).trans (if_neg hc32))))))))))))))) ?_
                            exact own_retN X31 hx hlk (t := .boolean) hret (by simp) (hb hby d4_214) hk hn ⟨rfl, N31, e31⟩
                        · refine Runs.via (T' := T29) (g' := (mkF m 209 #[.val (.int x0)] [])) (fun t k => ?_) ?_
                          · show Steps p.tables e below (T29.setTop (mkF m 184 #[.val (.int x0)] [(.int (f5 x0 (12289 : Int32) (55295 : Int32)))])) t
                            exact XS.ifYes X29.here hx rfl (pc0 := 184) (pc' := 209) rfl (hb hby d4_184) rfl ((if0 _ _).trans (feq hc30).2) (by decide) (by decide) k
                          refine Runs.via (T' := T29) (g' := (mkF m 214 #[.val (.int x0)] [(.int (1 : Int32))])) (fun t k => ?_) ?_
                          · show Steps p.tables e below (T29.setTop (mkF m 209 #[.val (.int x0)] [])) t
                            refine XS.iconst X29.here hx rfl (hb hby d4_209) ?_
                            show Steps p.tables e below (T29.setTop (mkF m 210 #[.val (.int x0)] [(.int (1 : Int32))])) t
                            refine XS.goto X29.here hx rfl (pc0 := 210) (pc' := 214) rfl (hb hby d4_210) (by decide) (by decide) ?_
                            exact k
                          refine QP.cast (congrArg (fun z => some (Value.int z)) (show (g4_0 x0) = (1 : Int32) from ((if_neg hc1).trans ((if_neg hc10).trans ((if_neg hc12).trans ((if_pos hc14).trans ((if_pos hc16).trans ((if_pos hc18).trans ((if_pos hc20).trans ((if_pos hc22).trans ((if_pos hc24).trans ((if_pos hc26).trans ((if_pos hc28).trans (if_neg hc30)))))))))))))) ?_
                          exact own_retN X29 hx hlk (t := .boolean) hret (by simp) (hb hby d4_214) hk hn ⟨rfl, N29, e29⟩
                      · refine Runs.via (T' := T27) (g' := (mkF m 209 #[.val (.int x0)] [])) (fun t k => ?_) ?_
                        · show Steps p.tables e below (T27.setTop (mkF m 172 #[.val (.int x0)] [(.int (f5 x0 (11264 : Int32) (12271 : Int32)))])) t
                          exact XS.ifYes X27.here hx rfl (pc0 := 172) (pc' := 209) rfl (hb hby d4_172) rfl ((if0 _ _).trans (feq hc28).2) (by decide) (by decide) k
                        refine Runs.via (T' := T27) (g' := (mkF m 214 #[.val (.int x0)] [(.int (1 : Int32))])) (fun t k => ?_) ?_
                        · show Steps p.tables e below (T27.setTop (mkF m 209 #[.val (.int x0)] [])) t
                          refine XS.iconst X27.here hx rfl (hb hby d4_209) ?_
                          show Steps p.tables e below (T27.setTop (mkF m 210 #[.val (.int x0)] [(.int (1 : Int32))])) t
                          refine XS.goto X27.here hx rfl (pc0 := 210) (pc' := 214) rfl (hb hby d4_210) (by decide) (by decide) ?_
                          exact k
                        refine QP.cast (congrArg (fun z => some (Value.int z)) (show (g4_0 x0) = (1 : Int32) from ((if_neg hc1).trans ((if_neg hc10).trans ((if_neg hc12).trans ((if_pos hc14).trans ((if_pos hc16).trans ((if_pos hc18).trans ((if_pos hc20).trans ((if_pos hc22).trans ((if_pos hc24).trans ((if_pos hc26).trans (if_neg hc28))))))))))))) ?_
                        exact own_retN X27 hx hlk (t := .boolean) hret (by simp) (hb hby d4_214) hk hn ⟨rfl, N27, e27⟩
                    · refine Runs.via (T' := T25) (g' := (mkF m 209 #[.val (.int x0)] [])) (fun t k => ?_) ?_
                      · show Steps p.tables e below (T25.setTop (mkF m 159 #[.val (.int x0)] [(.int (f5 x0 (8304 : Int32) (8591 : Int32)))])) t
                        exact XS.ifYes X25.here hx rfl (pc0 := 159) (pc' := 209) rfl (hb hby d4_159) rfl ((if0 _ _).trans (feq hc26).2) (by decide) (by decide) k
                      refine Runs.via (T' := T25) (g' := (mkF m 214 #[.val (.int x0)] [(.int (1 : Int32))])) (fun t k => ?_) ?_
                      · show Steps p.tables e below (T25.setTop (mkF m 209 #[.val (.int x0)] [])) t
                        refine XS.iconst X25.here hx rfl (hb hby d4_209) ?_
                        show Steps p.tables e below (T25.setTop (mkF m 210 #[.val (.int x0)] [(.int (1 : Int32))])) t
                        refine XS.goto X25.here hx rfl (pc0 := 210) (pc' := 214) rfl (hb hby d4_210) (by decide) (by decide) ?_
                        exact k
                      refine QP.cast (congrArg (fun z => some (Value.int z)) (show (g4_0 x0) = (1 : Int32) from ((if_neg hc1).trans ((if_neg hc10).trans ((if_neg hc12).trans ((if_pos hc14).trans ((if_pos hc16).trans ((if_pos hc18).trans ((if_pos hc20).trans ((if_pos hc22).trans ((if_pos hc24).trans (if_neg hc26)))))))))))) ?_
                      exact own_retN X25 hx hlk (t := .boolean) hret (by simp) (hb hby d4_214) hk hn ⟨rfl, N25, e25⟩
                  · refine Runs.via (T' := T23) (g' := (mkF m 209 #[.val (.int x0)] [])) (fun t k => ?_) ?_
                    · show Steps p.tables e below (T23.setTop (mkF m 146 #[.val (.int x0)] [(.int (f5 x0 (8255 : Int32) (8256 : Int32)))])) t
                      exact XS.ifYes X23.here hx rfl (pc0 := 146) (pc' := 209) rfl (hb hby d4_146) rfl ((if0 _ _).trans (feq hc24).2) (by decide) (by decide) k
                    refine Runs.via (T' := T23) (g' := (mkF m 214 #[.val (.int x0)] [(.int (1 : Int32))])) (fun t k => ?_) ?_
                    · show Steps p.tables e below (T23.setTop (mkF m 209 #[.val (.int x0)] [])) t
                      refine XS.iconst X23.here hx rfl (hb hby d4_209) ?_
                      show Steps p.tables e below (T23.setTop (mkF m 210 #[.val (.int x0)] [(.int (1 : Int32))])) t
                      refine XS.goto X23.here hx rfl (pc0 := 210) (pc' := 214) rfl (hb hby d4_210) (by decide) (by decide) ?_
                      exact k
                    refine QP.cast (congrArg (fun z => some (Value.int z)) (show (g4_0 x0) = (1 : Int32) from ((if_neg hc1).trans ((if_neg hc10).trans ((if_neg hc12).trans ((if_pos hc14).trans ((if_pos hc16).trans ((if_pos hc18).trans ((if_pos hc20).trans ((if_pos hc22).trans (if_neg hc24))))))))))) ?_
                    exact own_retN X23 hx hlk (t := .boolean) hret (by simp) (hb hby d4_214) hk hn ⟨rfl, N23, e23⟩
                · refine Runs.via (T' := T21) (g' := (mkF m 209 #[.val (.int x0)] [])) (fun t k => ?_) ?_
                  · show Steps p.tables e below (T21.setTop (mkF m 133 #[.val (.int x0)] [(.int (f5 x0 (8204 : Int32) (8205 : Int32)))])) t
                    exact XS.ifYes X21.here hx rfl (pc0 := 133) (pc' := 209) rfl (hb hby d4_133) rfl ((if0 _ _).trans (feq hc22).2) (by decide) (by decide) k
                  refine Runs.via (T' := T21) (g' := (mkF m 214 #[.val (.int x0)] [(.int (1 : Int32))])) (fun t k => ?_) ?_
                  · show Steps p.tables e below (T21.setTop (mkF m 209 #[.val (.int x0)] [])) t
                    refine XS.iconst X21.here hx rfl (hb hby d4_209) ?_
                    show Steps p.tables e below (T21.setTop (mkF m 210 #[.val (.int x0)] [(.int (1 : Int32))])) t
                    refine XS.goto X21.here hx rfl (pc0 := 210) (pc' := 214) rfl (hb hby d4_210) (by decide) (by decide) ?_
                    exact k
                  refine QP.cast (congrArg (fun z => some (Value.int z)) (show (g4_0 x0) = (1 : Int32) from ((if_neg hc1).trans ((if_neg hc10).trans ((if_neg hc12).trans ((if_pos hc14).trans ((if_pos hc16).trans ((if_pos hc18).trans ((if_pos hc20).trans (if_neg hc22)))))))))) ?_
                  exact own_retN X21 hx hlk (t := .boolean) hret (by simp) (hb hby d4_214) hk hn ⟨rfl, N21, e21⟩
              · refine Runs.via (T' := T19) (g' := (mkF m 209 #[.val (.int x0)] [])) (fun t k => ?_) ?_
                · show Steps p.tables e below (T19.setTop (mkF m 120 #[.val (.int x0)] [(.int (f5 x0 (895 : Int32) (8191 : Int32)))])) t
                  exact XS.ifYes X19.here hx rfl (pc0 := 120) (pc' := 209) rfl (hb hby d4_120) rfl ((if0 _ _).trans (feq hc20).2) (by decide) (by decide) k
                refine Runs.via (T' := T19) (g' := (mkF m 214 #[.val (.int x0)] [(.int (1 : Int32))])) (fun t k => ?_) ?_
                · show Steps p.tables e below (T19.setTop (mkF m 209 #[.val (.int x0)] [])) t
                  refine XS.iconst X19.here hx rfl (hb hby d4_209) ?_
                  show Steps p.tables e below (T19.setTop (mkF m 210 #[.val (.int x0)] [(.int (1 : Int32))])) t
                  refine XS.goto X19.here hx rfl (pc0 := 210) (pc' := 214) rfl (hb hby d4_210) (by decide) (by decide) ?_
                  exact k
                refine QP.cast (congrArg (fun z => some (Value.int z)) (show (g4_0 x0) = (1 : Int32) from ((if_neg hc1).trans ((if_neg hc10).trans ((if_neg hc12).trans ((if_pos hc14).trans ((if_pos hc16).trans ((if_pos hc18).trans (if_neg hc20))))))))) ?_
                exact own_retN X19 hx hlk (t := .boolean) hret (by simp) (hb hby d4_214) hk hn ⟨rfl, N19, e19⟩
            · refine Runs.via (T' := T17) (g' := (mkF m 209 #[.val (.int x0)] [])) (fun t k => ?_) ?_
              · show Steps p.tables e below (T17.setTop (mkF m 107 #[.val (.int x0)] [(.int (f5 x0 (248 : Int32) (893 : Int32)))])) t
                exact XS.ifYes X17.here hx rfl (pc0 := 107) (pc' := 209) rfl (hb hby d4_107) rfl ((if0 _ _).trans (feq hc18).2) (by decide) (by decide) k
              refine Runs.via (T' := T17) (g' := (mkF m 214 #[.val (.int x0)] [(.int (1 : Int32))])) (fun t k => ?_) ?_
              · show Steps p.tables e below (T17.setTop (mkF m 209 #[.val (.int x0)] [])) t
                refine XS.iconst X17.here hx rfl (hb hby d4_209) ?_
                show Steps p.tables e below (T17.setTop (mkF m 210 #[.val (.int x0)] [(.int (1 : Int32))])) t
                refine XS.goto X17.here hx rfl (pc0 := 210) (pc' := 214) rfl (hb hby d4_210) (by decide) (by decide) ?_
                exact k
              refine QP.cast (congrArg (fun z => some (Value.int z)) (show (g4_0 x0) = (1 : Int32) from ((if_neg hc1).trans ((if_neg hc10).trans ((if_neg hc12).trans ((if_pos hc14).trans ((if_pos hc16).trans (if_neg hc18)))))))) ?_
              exact own_retN X17 hx hlk (t := .boolean) hret (by simp) (hb hby d4_214) hk hn ⟨rfl, N17, e17⟩
          · refine Runs.via (T' := T15) (g' := (mkF m 209 #[.val (.int x0)] [])) (fun t k => ?_) ?_
            · show Steps p.tables e below (T15.setTop (mkF m 94 #[.val (.int x0)] [(.int (f5 x0 (216 : Int32) (246 : Int32)))])) t
              exact XS.ifYes X15.here hx rfl (pc0 := 94) (pc' := 209) rfl (hb hby d4_94) rfl ((if0 _ _).trans (feq hc16).2) (by decide) (by decide) k
            refine Runs.via (T' := T15) (g' := (mkF m 214 #[.val (.int x0)] [(.int (1 : Int32))])) (fun t k => ?_) ?_
            · show Steps p.tables e below (T15.setTop (mkF m 209 #[.val (.int x0)] [])) t
              refine XS.iconst X15.here hx rfl (hb hby d4_209) ?_
              show Steps p.tables e below (T15.setTop (mkF m 210 #[.val (.int x0)] [(.int (1 : Int32))])) t
              refine XS.goto X15.here hx rfl (pc0 := 210) (pc' := 214) rfl (hb hby d4_210) (by decide) (by decide) ?_
              exact k
            refine QP.cast (congrArg (fun z => some (Value.int z)) (show (g4_0 x0) = (1 : Int32) from ((if_neg hc1).trans ((if_neg hc10).trans ((if_neg hc12).trans ((if_pos hc14).trans (if_neg hc16))))))) ?_
            exact own_retN X15 hx hlk (t := .boolean) hret (by simp) (hb hby d4_214) hk hn ⟨rfl, N15, e15⟩
        · refine Runs.via (T' := T13) (g' := (mkF m 209 #[.val (.int x0)] [])) (fun t k => ?_) ?_
          · show Steps p.tables e below (T13.setTop (mkF m 81 #[.val (.int x0)] [(.int (f5 x0 (192 : Int32) (214 : Int32)))])) t
            exact XS.ifYes X13.here hx rfl (pc0 := 81) (pc' := 209) rfl (hb hby d4_81) rfl ((if0 _ _).trans (feq hc14).2) (by decide) (by decide) k
          refine Runs.via (T' := T13) (g' := (mkF m 214 #[.val (.int x0)] [(.int (1 : Int32))])) (fun t k => ?_) ?_
          · show Steps p.tables e below (T13.setTop (mkF m 209 #[.val (.int x0)] [])) t
            refine XS.iconst X13.here hx rfl (hb hby d4_209) ?_
            show Steps p.tables e below (T13.setTop (mkF m 210 #[.val (.int x0)] [(.int (1 : Int32))])) t
            refine XS.goto X13.here hx rfl (pc0 := 210) (pc' := 214) rfl (hb hby d4_210) (by decide) (by decide) ?_
            exact k
          refine QP.cast (congrArg (fun z => some (Value.int z)) (show (g4_0 x0) = (1 : Int32) from ((if_neg hc1).trans ((if_neg hc10).trans ((if_neg hc12).trans (if_neg hc14)))))) ?_
          exact own_retN X13 hx hlk (t := .boolean) hret (by simp) (hb hby d4_214) hk hn ⟨rfl, N13, e13⟩
def f4 (x0 : Int32) : Int32 := g4_0 x0
theorem pn_4 : plainName "com/example/onto3/onto3/rdf/TermScannerIsNameCharPinLaw" = true := by first | (simp [plainName, overriddenIn]; done) | decide +kernel
theorem ef_4 (m : MethodId) (x0 : Int32) : entryFrame m #[(.int x0)] 1 = mkF m 0 #[.val (.int x0)] [] := by first | (simp [entryFrame, mkF, argsToLocals, Value.category]; done) | rfl
set_option maxRecDepth 65536 in
set_option maxHeartbeats 4000000 in
theorem rm4 (l : Launch) (Z : State) (a0 : Array Value) (hw : ∀ d ∈ tables_1, d.before a0 Z = true) (ws : List Jvm.Cond) (x0 : Int32) (h0 : Heap) (n0 : Nat) :
    MetFree l (⟨"com/example/onto3/onto3/rdf/TermScannerIsNameCharPinLaw", "reference", "(I)Z"⟩ : MethodName) (head1 (Jvm.Cond.code (⟨"com/example/onto3/onto3/rdf/TermScannerIsNameCharPinLaw", "reference", "(I)Z"⟩ : MethodName) method_3_code 1 (some .boolean) :: ws) ({ frames := 1, cells := 0, slots := 0, locals := 14 } : Room)) (fun a U => a = #[(.int x0)] ∧ Z.Warmed39 U.vm ∧ U.heap = h0) (fun _ _ _ _ _ => True) (fun _ U o U' => ∃ v L, o = .returned v ∧ QP (some (.int (f4 x0))) h0 n0 v U'.heap L ∧ FrameEnd U o U' L ({ frames := 1, cells := 0, slots := 0, locals := 14 } : Room).cells ({ frames := 1, cells := 0, slots := 0, locals := 14 } : Room).slots) := by
  refine MetFree.of_bodySF (plainFor_of_name pn_4) hisR ?_
  intro p e s m args below meth c s₁ Bd hml0 hP hK
  obtain ⟨rfl, hZ, hh⟩ := hP
  have X0 : Stand p l e ({ frames := 1, cells := 0, slots := 0, locals := 14 } : Room) s m #[(.int x0)] below meth c s₁ [] 0 0 := Stand.of_body Bd
  have e0 : s₁.heap = h0 := by rw [← hh, Bd.state]; rfl
  have C : Ctx p s m meth c Z a0 "com/example/onto3/onto3/rdf/TermScannerIsNameCharPinLaw" method_3_code 1 (some .boolean) "reference" := ⟨Bd.exec, hZ, hw, Bd.bytes, hml0, findClass_of_methodNamed Bd.named, Bd.returns, BodyLoose.notSynchronized Bd, (name_of_methodNamed Bd.named Bd.method).1⟩
  refine Runs.via (fun t k => castTop (ef_4 m x0) k) (b4_0 C X0 e0 (Fr.nil n0) (Nat.le_refl 0) (Nat.le_refl 0) x0)
def g0_0 (x0 : Int32) : Int32 := (if (f1 x0) = (f4 x0) then (1 : Int32) else (0 : Int32))
set_option maxRecDepth 65536 in
set_option maxHeartbeats 4000000 in
theorem b0_0 (C : Ctx p s m meth c Z a0 "com/example/onto3/onto3/rdf/TermScannerIsNameCharPinLaw" code 1 (some .boolean) "law") (X0 : Stand p l e room_1 s m args below meth c T0 locs cells slots) (e0 : T0.heap = h0) (N0 : Fr n0 locs) (hk : cells ≤ 0) (hn : slots ≤ 0) (x0 : Int32) :
    Runs p e below s (QP (some (.int (g0_0 x0))) h0 n0) 0 0 T0 (mkF m 0 #[.val (.int x0)] []) := by
  have ⟨hx, hZ, hw, hby, hml, hown, hret, hlk, hnm⟩ := C
  refine Runs.via (T' := T0) (g' := (mkF m 1 #[.val (.int x0)] [(.int x0)])) (fun t k => ?_) ?_
  · show Steps p.tables e below (T0.setTop (mkF m 0 #[.val (.int x0)] [])) t
    refine XS.iloadN X0.here hx rfl (hb hby at_0) rfl ?_
    exact k
  obtain ⟨_, _, ⟨T1, L1, k1, n1⟩, -, X1, ⟨Lc1, hQ1, l1, y1, z1⟩, st1⟩ := Jvm.LawKit.callS X0 hx (y := (⟨"com/example/onto3/onto3/rdf/TermScanner", "isNameChar", "(I)Z"⟩ : MethodName)) hown (mvT hZ (hw _ (List.mem_of_getElem? (i := 0) rfl))) (mvT hZ (hw _ (List.mem_of_getElem? (i := 1) rfl))) (mvT hZ (hw _ (List.mem_of_getElem? (i := 2) rfl))) (mvT hZ (hw _ (List.mem_of_getElem? (i := 3) rfl))) (by decide) (backOf (W := 0) (rm1 l Z a0 hw [] x0 h0 n0) hZ (hw _ (List.mem_of_getElem? (i := 3) rfl)) (hw _ (List.mem_of_getElem? (i := 2) rfl)) (by decide) (by decide)) (g := (mkF m 1 #[.val (.int x0)] [(.int x0)])) rfl (by rw [hml]; rfl) (argsL := [(.int x0)]) (rest := []) (lenOf pd_0 rfl) rfl (by show 2 * 0 + _ ≤ _; exact Nat.le_of_eq rfl) (hb hby at_1) (fun _ _ => ⟨rfl, e0, (Nat.le_trans hk (by decide)), (Nat.le_trans hn (by decide))⟩)
  dsimp only [Pt.U, Pt.locs, Pt.cells, Pt.slots] at X1 l1 y1 z1 st1 hQ1
  subst l1 y1 z1
  obtain ⟨rfl, N1q, e1⟩ := hQ1
  have N1 := Fr.app N0 N1q
  refine Runs.via (T' := T1) (g' := (mkF m 4 #[.val (.int x0)] [(.int (f1 x0))])) (fun t k => st1 _ k) ?_
  refine Runs.via (T' := T1) (g' := (mkF m 5 #[.val (.int x0)] [(.int x0), (.int (f1 x0))])) (fun t k => ?_) ?_
  · show Steps p.tables e below (T1.setTop (mkF m 4 #[.val (.int x0)] [(.int (f1 x0))])) t
    refine XS.iloadN X1.here hx rfl (hb hby at_4) rfl ?_
    exact k
  obtain ⟨_, _, ⟨T2, L2, k2, n2⟩, -, X2, ⟨Lc2, hQ2, l2, y2, z2⟩, st2⟩ := Jvm.LawKit.callS X1 hx (y := (⟨"com/example/onto3/onto3/rdf/TermScannerIsNameCharPinLaw", "reference", "(I)Z"⟩ : MethodName)) hown (mvT hZ (hw _ (List.mem_of_getElem? (i := 13) rfl))) (mvT hZ (hw _ (List.mem_of_getElem? (i := 14) rfl))) (mvT hZ (hw _ (List.mem_of_getElem? (i := 15) rfl))) (mvT hZ (hw _ (List.mem_of_getElem? (i := 16) rfl))) (by decide) (backOf (W := 1) (rm4 l Z a0 hw [] x0 h0 n0) hZ (hw _ (List.mem_of_getElem? (i := 16) rfl)) (hw _ (List.mem_of_getElem? (i := 15) rfl)) (by decide) (by decide)) (g := (mkF m 5 #[.val (.int x0)] [(.int x0), (.int (f1 x0))])) rfl (by rw [hml]; rfl) (argsL := [(.int x0)]) (rest := [(.int (f1 x0))]) (lenOf pd_0 rfl) rfl (by show 2 * 0 + _ ≤ _; exact Nat.le_of_eq rfl) (hb hby at_5) (fun _ _ => ⟨rfl, e1, (Nat.le_trans hk (by decide)), (Nat.le_trans hn (by decide))⟩)
  dsimp only [Pt.U, Pt.locs, Pt.cells, Pt.slots] at X2 l2 y2 z2 st2 hQ2
  subst l2 y2 z2
  obtain ⟨rfl, N2q, e2⟩ := hQ2
  have N2 := Fr.app N1 N2q
  refine Runs.via (T' := T2) (g' := (mkF m 8 #[.val (.int x0)] [(.int (f4 x0)), (.int (f1 x0))])) (fun t k => st2 _ k) ?_
  by_cases hc3 : (f1 x0) = (f4 x0)
  · refine Runs.via (T' := T2) (g' := (mkF m 11 #[.val (.int x0)] [])) (fun t k => ?_) ?_
    · show Steps p.tables e below (T2.setTop (mkF m 8 #[.val (.int x0)] [(.int (f4 x0)), (.int (f1 x0))])) t
      exact XS.icmpNo X2.here hx rfl (hb hby at_8) rfl (teq hc3).2 k
    refine Runs.via (T' := T2) (g' := (mkF m 16 #[.val (.int x0)] [(.int (1 : Int32))])) (fun t k => ?_) ?_
    · show Steps p.tables e below (T2.setTop (mkF m 11 #[.val (.int x0)] [])) t
      refine XS.iconst X2.here hx rfl (hb hby at_11) ?_
      show Steps p.tables e below (T2.setTop (mkF m 12 #[.val (.int x0)] [(.int (1 : Int32))])) t
      refine XS.goto X2.here hx rfl (pc0 := 12) (pc' := 16) rfl (hb hby at_12) (by decide) (by decide) ?_
      exact k
    refine QP.cast (congrArg (fun z => some (Value.int z)) (show (g0_0 x0) = (1 : Int32) from (if_pos hc3))) ?_
    exact own_retN X2 hx hlk (t := .boolean) hret (by simp) (hb hby at_16) hk hn ⟨rfl, N2, e2⟩
  · refine Runs.via (T' := T2) (g' := (mkF m 15 #[.val (.int x0)] [])) (fun t k => ?_) ?_
    · show Steps p.tables e below (T2.setTop (mkF m 8 #[.val (.int x0)] [(.int (f4 x0)), (.int (f1 x0))])) t
      exact XS.icmpYes X2.here hx rfl (pc0 := 8) (pc' := 15) rfl (hb hby at_8) rfl (feq hc3).2 (by decide) (by decide) k
    refine Runs.via (T' := T2) (g' := (mkF m 16 #[.val (.int x0)] [(.int (0 : Int32))])) (fun t k => ?_) ?_
    · show Steps p.tables e below (T2.setTop (mkF m 15 #[.val (.int x0)] [])) t
      refine XS.iconst X2.here hx rfl (hb hby at_15) ?_
      exact k
    refine QP.cast (congrArg (fun z => some (Value.int z)) (show (g0_0 x0) = (0 : Int32) from (if_neg hc3))) ?_
    exact own_retN X2 hx hlk (t := .boolean) hret (by simp) (hb hby at_16) hk hn ⟨rfl, N2, e2⟩
def f0 (x0 : Int32) : Int32 := g0_0 x0
theorem pn_0 : plainName "com/example/onto3/onto3/rdf/TermScannerIsNameCharPinLaw" = true := by first | (simp [plainName, overriddenIn]; done) | decide +kernel
theorem ef_0 (m : MethodId) (x0 : Int32) : entryFrame m #[(.int x0)] maxLocals = mkF m 0 #[.val (.int x0)] [] := by first | (simp [entryFrame, mkF, argsToLocals, Value.category, maxLocals]; done) | rfl
set_option maxRecDepth 65536 in
set_option maxHeartbeats 4000000 in
theorem rm0 (l : Launch) (Z : State) (a0 : Array Value) (hw : ∀ d ∈ tables_1, d.before a0 Z = true) (ws : List Jvm.Cond) (x0 : Int32) (h0 : Heap) (n0 : Nat) :
    MetFree l x (head1 (Jvm.Cond.code x code maxLocals ret :: ws) room_1) (fun a U => a = #[(.int x0)] ∧ Z.Warmed39 U.vm ∧ U.heap = h0) (fun _ _ _ _ _ => True) (fun _ U o U' => ∃ v L, o = .returned v ∧ QP (some (.int (f0 x0))) h0 n0 v U'.heap L ∧ FrameEnd U o U' L 0 0) := by
  refine MetFree.of_bodySF (plainFor_of_name pn_0) hisR ?_
  intro p e s m args below meth c s₁ Bd hml0 hP hK
  obtain ⟨rfl, hZ, hh⟩ := hP
  have X0 : Stand p l e room_1 s m #[(.int x0)] below meth c s₁ [] 0 0 := Stand.of_body Bd
  have e0 : s₁.heap = h0 := by rw [← hh, Bd.state]; rfl
  have C : Ctx p s m meth c Z a0 "com/example/onto3/onto3/rdf/TermScannerIsNameCharPinLaw" code 1 (some .boolean) "law" := ⟨Bd.exec, hZ, hw, Bd.bytes, hml0, findClass_of_methodNamed Bd.named, Bd.returns, BodyLoose.notSynchronized Bd, (name_of_methodNamed Bd.named Bd.method).1⟩
  refine Runs.via (fun t k => castTop (ef_0 m x0) k) (b0_0 C X0 e0 (Fr.nil n0) (Nat.le_refl 0) (Nat.le_refl 0) x0)
end Own
theorem own_lt {x k : Int32} {hi : Int} (h : x.toInt < hi) (hk : hi ≤ k.toInt) : x < k := by rw [Int32.lt_iff_toInt_lt]; omega
theorem own_nlt {x k : Int32} {lo : Int} (h : lo ≤ x.toInt) (hk : k.toInt ≤ lo) : ¬ x < k := by rw [Int32.lt_iff_toInt_lt]; omega
theorem own_gt {x k : Int32} {lo : Int} (h : lo ≤ x.toInt) (hk : k.toInt < lo) : k < x := by rw [Int32.lt_iff_toInt_lt]; omega
theorem own_ngt {x k : Int32} {hi : Int} (h : x.toInt < hi) (hk : hi ≤ k.toInt + 1) : ¬ k < x := by rw [Int32.lt_iff_toInt_lt]; omega
theorem own_eq {x k : Int32} {lo hi : Int} (h1 : lo ≤ x.toInt) (h2 : x.toInt < hi) (hk : lo = k.toInt ∧ hi = k.toInt + 1) : x = k := Int32.toInt_inj.mp (by omega)
theorem own_ne1 {x k : Int32} {lo : Int} (h : lo ≤ x.toInt) (hk : k.toInt < lo) : ¬ x = k := fun q => by rw [q] at h; omega
theorem own_ne2 {x k : Int32} {hi : Int} (h : x.toInt < hi) (hk : hi ≤ k.toInt) : ¬ x = k := fun q => by rw [q] at h; omega
theorem own_iv_0 (x0 : Int32) (h1 : (-2147483648 : Int) ≤ x0.toInt) (h2 : x0.toInt < (0 : Int)) : f1 x0 = f4 x0 := by
  have q0 : x0 < (65 : Int32) := own_lt h2 (by decide)
  have q1 : x0 < (97 : Int32) := own_lt h2 (by decide)
  have q2 : x0 < (192 : Int32) := own_lt h2 (by decide)
  have q3 : x0 < (216 : Int32) := own_lt h2 (by decide)
  have q4 : x0 < (248 : Int32) := own_lt h2 (by decide)
  have q5 : x0 < (880 : Int32) := own_lt h2 (by decide)
  have q6 : x0 < (895 : Int32) := own_lt h2 (by decide)
  have q7 : x0 < (8204 : Int32) := own_lt h2 (by decide)
  have q8 : x0 < (8304 : Int32) := own_lt h2 (by decide)
  have q9 : x0 < (11264 : Int32) := own_lt h2 (by decide)
  have q10 : x0 < (12289 : Int32) := own_lt h2 (by decide)
  have q11 : x0 < (63744 : Int32) := own_lt h2 (by decide)
  have q12 : x0 < (65008 : Int32) := own_lt h2 (by decide)
  have q13 : x0 < (65536 : Int32) := own_lt h2 (by decide)
  have e_g3_178_x : g3_178 x0 = (0 : Int32) := (if_pos q13)
  have e_g3_164_x : g3_164 x0 = (0 : Int32) := ((if_pos q12).trans e_g3_178_x)
  have e_g3_150_x : g3_150 x0 = (0 : Int32) := ((if_pos q11).trans e_g3_164_x)
  have e_g3_136_x : g3_136 x0 = (0 : Int32) := ((if_pos q10).trans e_g3_150_x)
  have e_g3_122_x : g3_122 x0 = (0 : Int32) := ((if_pos q9).trans e_g3_136_x)
  have e_g3_108_x : g3_108 x0 = (0 : Int32) := ((if_pos q8).trans e_g3_122_x)
  have e_g3_94_x : g3_94 x0 = (0 : Int32) := ((if_pos q7).trans e_g3_108_x)
  have e_g3_80_x : g3_80 x0 = (0 : Int32) := ((if_pos q6).trans e_g3_94_x)
  have e_g3_66_x : g3_66 x0 = (0 : Int32) := ((if_pos q5).trans e_g3_80_x)
  have e_g3_52_x : g3_52 x0 = (0 : Int32) := ((if_pos q4).trans e_g3_66_x)
  have e_g3_38_x : g3_38 x0 = (0 : Int32) := ((if_pos q3).trans e_g3_52_x)
  have e_g3_24_x : g3_24 x0 = (0 : Int32) := ((if_pos q2).trans e_g3_38_x)
  have e_g3_12_x : g3_12 x0 = (0 : Int32) := ((if_pos q1).trans e_g3_24_x)
  have e_g3_0_x : g3_0 x0 = (0 : Int32) := ((if_pos q0).trans e_g3_12_x)
  have e_f3_x : f3 x0 = (0 : Int32) := e_g3_0_x
  have q14 : ¬ x0 = (95 : Int32) := own_ne2 h2 (by decide)
  have e_g2_0_x : g2_0 x0 = (0 : Int32) := ((if_pos (by rw [e_f3_x])).trans (if_neg q14))
  have e_f2_x : f2 x0 = (0 : Int32) := e_g2_0_x
  have q15 : ¬ x0 = (45 : Int32) := own_ne2 h2 (by decide)
  have q16 : x0 < (48 : Int32) := own_lt h2 (by decide)
  have q17 : ¬ x0 = (183 : Int32) := own_ne2 h2 (by decide)
  have q18 : x0 < (768 : Int32) := own_lt h2 (by decide)
  have q19 : ¬ x0 = (8255 : Int32) := own_ne2 h2 (by decide)
  have q20 : ¬ x0 = (8256 : Int32) := own_ne2 h2 (by decide)
  have e_g1_46_x : g1_46 x0 = (0 : Int32) := ((if_neg q19).trans (if_neg q20))
  have e_g1_25_x : g1_25 x0 = (0 : Int32) := ((if_neg q17).trans ((if_pos q18).trans e_g1_46_x))
  have e_g1_0_x : g1_0 x0 = (0 : Int32) := ((if_pos (by rw [e_f2_x])).trans ((if_neg q15).trans ((if_pos q16).trans e_g1_25_x)))
  have e_f1_x : f1 x0 = (0 : Int32) := e_g1_0_x
  have q21 : x0 < (128 : Int32) := own_lt h2 (by decide)
  have e_g5_0_x_48_57 : g5_0 x0 (48 : Int32) (57 : Int32) = (0 : Int32) := (if_pos q16)
  have e_f5_x_48_57 : f5 x0 (48 : Int32) (57 : Int32) = (0 : Int32) := e_g5_0_x_48_57
  have e_g5_0_x_65_90 : g5_0 x0 (65 : Int32) (90 : Int32) = (0 : Int32) := (if_pos q0)
  have e_f5_x_65_90 : f5 x0 (65 : Int32) (90 : Int32) = (0 : Int32) := e_g5_0_x_65_90
  have e_g5_0_x_97_122 : g5_0 x0 (97 : Int32) (122 : Int32) = (0 : Int32) := (if_pos q1)
  have e_f5_x_97_122 : f5 x0 (97 : Int32) (122 : Int32) = (0 : Int32) := e_g5_0_x_97_122
  have e_g4_0_x : g4_0 x0 = (0 : Int32) := ((if_pos q21).trans ((if_neg q15).trans ((if_pos (by rw [e_f5_x_48_57])).trans ((if_pos (by rw [e_f5_x_65_90])).trans ((if_neg q14).trans (if_pos (by rw [e_f5_x_97_122])))))))
  have e_f4_x : f4 x0 = (0 : Int32) := e_g4_0_x
  rw [e_f1_x, e_f4_x]
theorem own_iv_1 (x0 : Int32) (h1 : (0 : Int) ≤ x0.toInt) (h2 : x0.toInt < (1 : Int)) : f1 x0 = f4 x0 := by
  have q0 : x0 < (65 : Int32) := own_lt h2 (by decide)
  have q1 : x0 < (97 : Int32) := own_lt h2 (by decide)
  have q2 : x0 < (192 : Int32) := own_lt h2 (by decide)
  have q3 : x0 < (216 : Int32) := own_lt h2 (by decide)
  have q4 : x0 < (248 : Int32) := own_lt h2 (by decide)
  have q5 : x0 < (880 : Int32) := own_lt h2 (by decide)
  have q6 : x0 < (895 : Int32) := own_lt h2 (by decide)
  have q7 : x0 < (8204 : Int32) := own_lt h2 (by decide)
  have q8 : x0 < (8304 : Int32) := own_lt h2 (by decide)
  have q9 : x0 < (11264 : Int32) := own_lt h2 (by decide)
  have q10 : x0 < (12289 : Int32) := own_lt h2 (by decide)
  have q11 : x0 < (63744 : Int32) := own_lt h2 (by decide)
  have q12 : x0 < (65008 : Int32) := own_lt h2 (by decide)
  have q13 : x0 < (65536 : Int32) := own_lt h2 (by decide)
  have e_g3_178_x : g3_178 x0 = (0 : Int32) := (if_pos q13)
  have e_g3_164_x : g3_164 x0 = (0 : Int32) := ((if_pos q12).trans e_g3_178_x)
  have e_g3_150_x : g3_150 x0 = (0 : Int32) := ((if_pos q11).trans e_g3_164_x)
  have e_g3_136_x : g3_136 x0 = (0 : Int32) := ((if_pos q10).trans e_g3_150_x)
  have e_g3_122_x : g3_122 x0 = (0 : Int32) := ((if_pos q9).trans e_g3_136_x)
  have e_g3_108_x : g3_108 x0 = (0 : Int32) := ((if_pos q8).trans e_g3_122_x)
  have e_g3_94_x : g3_94 x0 = (0 : Int32) := ((if_pos q7).trans e_g3_108_x)
  have e_g3_80_x : g3_80 x0 = (0 : Int32) := ((if_pos q6).trans e_g3_94_x)
  have e_g3_66_x : g3_66 x0 = (0 : Int32) := ((if_pos q5).trans e_g3_80_x)
  have e_g3_52_x : g3_52 x0 = (0 : Int32) := ((if_pos q4).trans e_g3_66_x)
  have e_g3_38_x : g3_38 x0 = (0 : Int32) := ((if_pos q3).trans e_g3_52_x)
  have e_g3_24_x : g3_24 x0 = (0 : Int32) := ((if_pos q2).trans e_g3_38_x)
  have e_g3_12_x : g3_12 x0 = (0 : Int32) := ((if_pos q1).trans e_g3_24_x)
  have e_g3_0_x : g3_0 x0 = (0 : Int32) := ((if_pos q0).trans e_g3_12_x)
  have e_f3_x : f3 x0 = (0 : Int32) := e_g3_0_x
  have q14 : ¬ x0 = (95 : Int32) := own_ne2 h2 (by decide)
  have e_g2_0_x : g2_0 x0 = (0 : Int32) := ((if_pos (by rw [e_f3_x])).trans (if_neg q14))
  have e_f2_x : f2 x0 = (0 : Int32) := e_g2_0_x
  have q15 : ¬ x0 = (45 : Int32) := own_ne2 h2 (by decide)
  have q16 : x0 < (48 : Int32) := own_lt h2 (by decide)
  have q17 : ¬ x0 = (183 : Int32) := own_ne2 h2 (by decide)
  have q18 : x0 < (768 : Int32) := own_lt h2 (by decide)
  have q19 : ¬ x0 = (8255 : Int32) := own_ne2 h2 (by decide)
  have q20 : ¬ x0 = (8256 : Int32) := own_ne2 h2 (by decide)
  have e_g1_46_x : g1_46 x0 = (0 : Int32) := ((if_neg q19).trans (if_neg q20))
  have e_g1_25_x : g1_25 x0 = (0 : Int32) := ((if_neg q17).trans ((if_pos q18).trans e_g1_46_x))
  have e_g1_0_x : g1_0 x0 = (0 : Int32) := ((if_pos (by rw [e_f2_x])).trans ((if_neg q15).trans ((if_pos q16).trans e_g1_25_x)))
  have e_f1_x : f1 x0 = (0 : Int32) := e_g1_0_x
  have q21 : x0 < (128 : Int32) := own_lt h2 (by decide)
  have e_g5_0_x_48_57 : g5_0 x0 (48 : Int32) (57 : Int32) = (0 : Int32) := (if_pos q16)
  have e_f5_x_48_57 : f5 x0 (48 : Int32) (57 : Int32) = (0 : Int32) := e_g5_0_x_48_57
  have e_g5_0_x_65_90 : g5_0 x0 (65 : Int32) (90 : Int32) = (0 : Int32) := (if_pos q0)
  have e_f5_x_65_90 : f5 x0 (65 : Int32) (90 : Int32) = (0 : Int32) := e_g5_0_x_65_90
  have e_g5_0_x_97_122 : g5_0 x0 (97 : Int32) (122 : Int32) = (0 : Int32) := (if_pos q1)
  have e_f5_x_97_122 : f5 x0 (97 : Int32) (122 : Int32) = (0 : Int32) := e_g5_0_x_97_122
  have e_g4_0_x : g4_0 x0 = (0 : Int32) := ((if_pos q21).trans ((if_neg q15).trans ((if_pos (by rw [e_f5_x_48_57])).trans ((if_pos (by rw [e_f5_x_65_90])).trans ((if_neg q14).trans (if_pos (by rw [e_f5_x_97_122])))))))
  have e_f4_x : f4 x0 = (0 : Int32) := e_g4_0_x
  rw [e_f1_x, e_f4_x]
theorem own_iv_2 (x0 : Int32) (h1 : (1 : Int) ≤ x0.toInt) (h2 : x0.toInt < (2 : Int)) : f1 x0 = f4 x0 := by
  have q0 : x0 < (65 : Int32) := own_lt h2 (by decide)
  have q1 : x0 < (97 : Int32) := own_lt h2 (by decide)
  have q2 : x0 < (192 : Int32) := own_lt h2 (by decide)
  have q3 : x0 < (216 : Int32) := own_lt h2 (by decide)
  have q4 : x0 < (248 : Int32) := own_lt h2 (by decide)
  have q5 : x0 < (880 : Int32) := own_lt h2 (by decide)
  have q6 : x0 < (895 : Int32) := own_lt h2 (by decide)
  have q7 : x0 < (8204 : Int32) := own_lt h2 (by decide)
  have q8 : x0 < (8304 : Int32) := own_lt h2 (by decide)
  have q9 : x0 < (11264 : Int32) := own_lt h2 (by decide)
  have q10 : x0 < (12289 : Int32) := own_lt h2 (by decide)
  have q11 : x0 < (63744 : Int32) := own_lt h2 (by decide)
  have q12 : x0 < (65008 : Int32) := own_lt h2 (by decide)
  have q13 : x0 < (65536 : Int32) := own_lt h2 (by decide)
  have e_g3_178_x : g3_178 x0 = (0 : Int32) := (if_pos q13)
  have e_g3_164_x : g3_164 x0 = (0 : Int32) := ((if_pos q12).trans e_g3_178_x)
  have e_g3_150_x : g3_150 x0 = (0 : Int32) := ((if_pos q11).trans e_g3_164_x)
  have e_g3_136_x : g3_136 x0 = (0 : Int32) := ((if_pos q10).trans e_g3_150_x)
  have e_g3_122_x : g3_122 x0 = (0 : Int32) := ((if_pos q9).trans e_g3_136_x)
  have e_g3_108_x : g3_108 x0 = (0 : Int32) := ((if_pos q8).trans e_g3_122_x)
  have e_g3_94_x : g3_94 x0 = (0 : Int32) := ((if_pos q7).trans e_g3_108_x)
  have e_g3_80_x : g3_80 x0 = (0 : Int32) := ((if_pos q6).trans e_g3_94_x)
  have e_g3_66_x : g3_66 x0 = (0 : Int32) := ((if_pos q5).trans e_g3_80_x)
  have e_g3_52_x : g3_52 x0 = (0 : Int32) := ((if_pos q4).trans e_g3_66_x)
  have e_g3_38_x : g3_38 x0 = (0 : Int32) := ((if_pos q3).trans e_g3_52_x)
  have e_g3_24_x : g3_24 x0 = (0 : Int32) := ((if_pos q2).trans e_g3_38_x)
  have e_g3_12_x : g3_12 x0 = (0 : Int32) := ((if_pos q1).trans e_g3_24_x)
  have e_g3_0_x : g3_0 x0 = (0 : Int32) := ((if_pos q0).trans e_g3_12_x)
  have e_f3_x : f3 x0 = (0 : Int32) := e_g3_0_x
  have q14 : ¬ x0 = (95 : Int32) := own_ne2 h2 (by decide)
  have e_g2_0_x : g2_0 x0 = (0 : Int32) := ((if_pos (by rw [e_f3_x])).trans (if_neg q14))
  have e_f2_x : f2 x0 = (0 : Int32) := e_g2_0_x
  have q15 : ¬ x0 = (45 : Int32) := own_ne2 h2 (by decide)
  have q16 : x0 < (48 : Int32) := own_lt h2 (by decide)
  have q17 : ¬ x0 = (183 : Int32) := own_ne2 h2 (by decide)
  have q18 : x0 < (768 : Int32) := own_lt h2 (by decide)
  have q19 : ¬ x0 = (8255 : Int32) := own_ne2 h2 (by decide)
  have q20 : ¬ x0 = (8256 : Int32) := own_ne2 h2 (by decide)
  have e_g1_46_x : g1_46 x0 = (0 : Int32) := ((if_neg q19).trans (if_neg q20))
  have e_g1_25_x : g1_25 x0 = (0 : Int32) := ((if_neg q17).trans ((if_pos q18).trans e_g1_46_x))
  have e_g1_0_x : g1_0 x0 = (0 : Int32) := ((if_pos (by rw [e_f2_x])).trans ((if_neg q15).trans ((if_pos q16).trans e_g1_25_x)))
  have e_f1_x : f1 x0 = (0 : Int32) := e_g1_0_x
  have q21 : x0 < (128 : Int32) := own_lt h2 (by decide)
  have e_g5_0_x_48_57 : g5_0 x0 (48 : Int32) (57 : Int32) = (0 : Int32) := (if_pos q16)
  have e_f5_x_48_57 : f5 x0 (48 : Int32) (57 : Int32) = (0 : Int32) := e_g5_0_x_48_57
  have e_g5_0_x_65_90 : g5_0 x0 (65 : Int32) (90 : Int32) = (0 : Int32) := (if_pos q0)
  have e_f5_x_65_90 : f5 x0 (65 : Int32) (90 : Int32) = (0 : Int32) := e_g5_0_x_65_90
  have e_g5_0_x_97_122 : g5_0 x0 (97 : Int32) (122 : Int32) = (0 : Int32) := (if_pos q1)
  have e_f5_x_97_122 : f5 x0 (97 : Int32) (122 : Int32) = (0 : Int32) := e_g5_0_x_97_122
  have e_g4_0_x : g4_0 x0 = (0 : Int32) := ((if_pos q21).trans ((if_neg q15).trans ((if_pos (by rw [e_f5_x_48_57])).trans ((if_pos (by rw [e_f5_x_65_90])).trans ((if_neg q14).trans (if_pos (by rw [e_f5_x_97_122])))))))
  have e_f4_x : f4 x0 = (0 : Int32) := e_g4_0_x
  rw [e_f1_x, e_f4_x]
theorem own_iv_3 (x0 : Int32) (h1 : (2 : Int) ≤ x0.toInt) (h2 : x0.toInt < (45 : Int)) : f1 x0 = f4 x0 := by
  have q0 : x0 < (65 : Int32) := own_lt h2 (by decide)
  have q1 : x0 < (97 : Int32) := own_lt h2 (by decide)
  have q2 : x0 < (192 : Int32) := own_lt h2 (by decide)
  have q3 : x0 < (216 : Int32) := own_lt h2 (by decide)
  have q4 : x0 < (248 : Int32) := own_lt h2 (by decide)
  have q5 : x0 < (880 : Int32) := own_lt h2 (by decide)
  have q6 : x0 < (895 : Int32) := own_lt h2 (by decide)
  have q7 : x0 < (8204 : Int32) := own_lt h2 (by decide)
  have q8 : x0 < (8304 : Int32) := own_lt h2 (by decide)
  have q9 : x0 < (11264 : Int32) := own_lt h2 (by decide)
  have q10 : x0 < (12289 : Int32) := own_lt h2 (by decide)
  have q11 : x0 < (63744 : Int32) := own_lt h2 (by decide)
  have q12 : x0 < (65008 : Int32) := own_lt h2 (by decide)
  have q13 : x0 < (65536 : Int32) := own_lt h2 (by decide)
  have e_g3_178_x : g3_178 x0 = (0 : Int32) := (if_pos q13)
  have e_g3_164_x : g3_164 x0 = (0 : Int32) := ((if_pos q12).trans e_g3_178_x)
  have e_g3_150_x : g3_150 x0 = (0 : Int32) := ((if_pos q11).trans e_g3_164_x)
  have e_g3_136_x : g3_136 x0 = (0 : Int32) := ((if_pos q10).trans e_g3_150_x)
  have e_g3_122_x : g3_122 x0 = (0 : Int32) := ((if_pos q9).trans e_g3_136_x)
  have e_g3_108_x : g3_108 x0 = (0 : Int32) := ((if_pos q8).trans e_g3_122_x)
  have e_g3_94_x : g3_94 x0 = (0 : Int32) := ((if_pos q7).trans e_g3_108_x)
  have e_g3_80_x : g3_80 x0 = (0 : Int32) := ((if_pos q6).trans e_g3_94_x)
  have e_g3_66_x : g3_66 x0 = (0 : Int32) := ((if_pos q5).trans e_g3_80_x)
  have e_g3_52_x : g3_52 x0 = (0 : Int32) := ((if_pos q4).trans e_g3_66_x)
  have e_g3_38_x : g3_38 x0 = (0 : Int32) := ((if_pos q3).trans e_g3_52_x)
  have e_g3_24_x : g3_24 x0 = (0 : Int32) := ((if_pos q2).trans e_g3_38_x)
  have e_g3_12_x : g3_12 x0 = (0 : Int32) := ((if_pos q1).trans e_g3_24_x)
  have e_g3_0_x : g3_0 x0 = (0 : Int32) := ((if_pos q0).trans e_g3_12_x)
  have e_f3_x : f3 x0 = (0 : Int32) := e_g3_0_x
  have q14 : ¬ x0 = (95 : Int32) := own_ne2 h2 (by decide)
  have e_g2_0_x : g2_0 x0 = (0 : Int32) := ((if_pos (by rw [e_f3_x])).trans (if_neg q14))
  have e_f2_x : f2 x0 = (0 : Int32) := e_g2_0_x
  have q15 : ¬ x0 = (45 : Int32) := own_ne2 h2 (by decide)
  have q16 : x0 < (48 : Int32) := own_lt h2 (by decide)
  have q17 : ¬ x0 = (183 : Int32) := own_ne2 h2 (by decide)
  have q18 : x0 < (768 : Int32) := own_lt h2 (by decide)
  have q19 : ¬ x0 = (8255 : Int32) := own_ne2 h2 (by decide)
  have q20 : ¬ x0 = (8256 : Int32) := own_ne2 h2 (by decide)
  have e_g1_46_x : g1_46 x0 = (0 : Int32) := ((if_neg q19).trans (if_neg q20))
  have e_g1_25_x : g1_25 x0 = (0 : Int32) := ((if_neg q17).trans ((if_pos q18).trans e_g1_46_x))
  have e_g1_0_x : g1_0 x0 = (0 : Int32) := ((if_pos (by rw [e_f2_x])).trans ((if_neg q15).trans ((if_pos q16).trans e_g1_25_x)))
  have e_f1_x : f1 x0 = (0 : Int32) := e_g1_0_x
  have q21 : x0 < (128 : Int32) := own_lt h2 (by decide)
  have e_g5_0_x_48_57 : g5_0 x0 (48 : Int32) (57 : Int32) = (0 : Int32) := (if_pos q16)
  have e_f5_x_48_57 : f5 x0 (48 : Int32) (57 : Int32) = (0 : Int32) := e_g5_0_x_48_57
  have e_g5_0_x_65_90 : g5_0 x0 (65 : Int32) (90 : Int32) = (0 : Int32) := (if_pos q0)
  have e_f5_x_65_90 : f5 x0 (65 : Int32) (90 : Int32) = (0 : Int32) := e_g5_0_x_65_90
  have e_g5_0_x_97_122 : g5_0 x0 (97 : Int32) (122 : Int32) = (0 : Int32) := (if_pos q1)
  have e_f5_x_97_122 : f5 x0 (97 : Int32) (122 : Int32) = (0 : Int32) := e_g5_0_x_97_122
  have e_g4_0_x : g4_0 x0 = (0 : Int32) := ((if_pos q21).trans ((if_neg q15).trans ((if_pos (by rw [e_f5_x_48_57])).trans ((if_pos (by rw [e_f5_x_65_90])).trans ((if_neg q14).trans (if_pos (by rw [e_f5_x_97_122])))))))
  have e_f4_x : f4 x0 = (0 : Int32) := e_g4_0_x
  rw [e_f1_x, e_f4_x]
theorem own_iv_4 (x0 : Int32) (h1 : (45 : Int) ≤ x0.toInt) (h2 : x0.toInt < (46 : Int)) : f1 x0 = f4 x0 := by
  have q0 : x0 < (65 : Int32) := own_lt h2 (by decide)
  have q1 : x0 < (97 : Int32) := own_lt h2 (by decide)
  have q2 : x0 < (192 : Int32) := own_lt h2 (by decide)
  have q3 : x0 < (216 : Int32) := own_lt h2 (by decide)
  have q4 : x0 < (248 : Int32) := own_lt h2 (by decide)
  have q5 : x0 < (880 : Int32) := own_lt h2 (by decide)
  have q6 : x0 < (895 : Int32) := own_lt h2 (by decide)
  have q7 : x0 < (8204 : Int32) := own_lt h2 (by decide)
  have q8 : x0 < (8304 : Int32) := own_lt h2 (by decide)
  have q9 : x0 < (11264 : Int32) := own_lt h2 (by decide)
  have q10 : x0 < (12289 : Int32) := own_lt h2 (by decide)
  have q11 : x0 < (63744 : Int32) := own_lt h2 (by decide)
  have q12 : x0 < (65008 : Int32) := own_lt h2 (by decide)
  have q13 : x0 < (65536 : Int32) := own_lt h2 (by decide)
  have e_g3_178_x : g3_178 x0 = (0 : Int32) := (if_pos q13)
  have e_g3_164_x : g3_164 x0 = (0 : Int32) := ((if_pos q12).trans e_g3_178_x)
  have e_g3_150_x : g3_150 x0 = (0 : Int32) := ((if_pos q11).trans e_g3_164_x)
  have e_g3_136_x : g3_136 x0 = (0 : Int32) := ((if_pos q10).trans e_g3_150_x)
  have e_g3_122_x : g3_122 x0 = (0 : Int32) := ((if_pos q9).trans e_g3_136_x)
  have e_g3_108_x : g3_108 x0 = (0 : Int32) := ((if_pos q8).trans e_g3_122_x)
  have e_g3_94_x : g3_94 x0 = (0 : Int32) := ((if_pos q7).trans e_g3_108_x)
  have e_g3_80_x : g3_80 x0 = (0 : Int32) := ((if_pos q6).trans e_g3_94_x)
  have e_g3_66_x : g3_66 x0 = (0 : Int32) := ((if_pos q5).trans e_g3_80_x)
  have e_g3_52_x : g3_52 x0 = (0 : Int32) := ((if_pos q4).trans e_g3_66_x)
  have e_g3_38_x : g3_38 x0 = (0 : Int32) := ((if_pos q3).trans e_g3_52_x)
  have e_g3_24_x : g3_24 x0 = (0 : Int32) := ((if_pos q2).trans e_g3_38_x)
  have e_g3_12_x : g3_12 x0 = (0 : Int32) := ((if_pos q1).trans e_g3_24_x)
  have e_g3_0_x : g3_0 x0 = (0 : Int32) := ((if_pos q0).trans e_g3_12_x)
  have e_f3_x : f3 x0 = (0 : Int32) := e_g3_0_x
  have q14 : ¬ x0 = (95 : Int32) := own_ne2 h2 (by decide)
  have e_g2_0_x : g2_0 x0 = (0 : Int32) := ((if_pos (by rw [e_f3_x])).trans (if_neg q14))
  have e_f2_x : f2 x0 = (0 : Int32) := e_g2_0_x
  have q15 : x0 = (45 : Int32) := own_eq h1 h2 (by decide)
  have e_g1_0_x : g1_0 x0 = (1 : Int32) := ((if_pos (by rw [e_f2_x])).trans (if_pos q15))
  have e_f1_x : f1 x0 = (1 : Int32) := e_g1_0_x
  have q16 : x0 < (128 : Int32) := own_lt h2 (by decide)
  have e_g4_0_x : g4_0 x0 = (1 : Int32) := ((if_pos q16).trans (if_pos q15))
  have e_f4_x : f4 x0 = (1 : Int32) := e_g4_0_x
  rw [e_f1_x, e_f4_x]
theorem own_iv_5 (x0 : Int32) (h1 : (46 : Int) ≤ x0.toInt) (h2 : x0.toInt < (48 : Int)) : f1 x0 = f4 x0 := by
  have q0 : x0 < (65 : Int32) := own_lt h2 (by decide)
  have q1 : x0 < (97 : Int32) := own_lt h2 (by decide)
  have q2 : x0 < (192 : Int32) := own_lt h2 (by decide)
  have q3 : x0 < (216 : Int32) := own_lt h2 (by decide)
  have q4 : x0 < (248 : Int32) := own_lt h2 (by decide)
  have q5 : x0 < (880 : Int32) := own_lt h2 (by decide)
  have q6 : x0 < (895 : Int32) := own_lt h2 (by decide)
  have q7 : x0 < (8204 : Int32) := own_lt h2 (by decide)
  have q8 : x0 < (8304 : Int32) := own_lt h2 (by decide)
  have q9 : x0 < (11264 : Int32) := own_lt h2 (by decide)
  have q10 : x0 < (12289 : Int32) := own_lt h2 (by decide)
  have q11 : x0 < (63744 : Int32) := own_lt h2 (by decide)
  have q12 : x0 < (65008 : Int32) := own_lt h2 (by decide)
  have q13 : x0 < (65536 : Int32) := own_lt h2 (by decide)
  have e_g3_178_x : g3_178 x0 = (0 : Int32) := (if_pos q13)
  have e_g3_164_x : g3_164 x0 = (0 : Int32) := ((if_pos q12).trans e_g3_178_x)
  have e_g3_150_x : g3_150 x0 = (0 : Int32) := ((if_pos q11).trans e_g3_164_x)
  have e_g3_136_x : g3_136 x0 = (0 : Int32) := ((if_pos q10).trans e_g3_150_x)
  have e_g3_122_x : g3_122 x0 = (0 : Int32) := ((if_pos q9).trans e_g3_136_x)
  have e_g3_108_x : g3_108 x0 = (0 : Int32) := ((if_pos q8).trans e_g3_122_x)
  have e_g3_94_x : g3_94 x0 = (0 : Int32) := ((if_pos q7).trans e_g3_108_x)
  have e_g3_80_x : g3_80 x0 = (0 : Int32) := ((if_pos q6).trans e_g3_94_x)
  have e_g3_66_x : g3_66 x0 = (0 : Int32) := ((if_pos q5).trans e_g3_80_x)
  have e_g3_52_x : g3_52 x0 = (0 : Int32) := ((if_pos q4).trans e_g3_66_x)
  have e_g3_38_x : g3_38 x0 = (0 : Int32) := ((if_pos q3).trans e_g3_52_x)
  have e_g3_24_x : g3_24 x0 = (0 : Int32) := ((if_pos q2).trans e_g3_38_x)
  have e_g3_12_x : g3_12 x0 = (0 : Int32) := ((if_pos q1).trans e_g3_24_x)
  have e_g3_0_x : g3_0 x0 = (0 : Int32) := ((if_pos q0).trans e_g3_12_x)
  have e_f3_x : f3 x0 = (0 : Int32) := e_g3_0_x
  have q14 : ¬ x0 = (95 : Int32) := own_ne2 h2 (by decide)
  have e_g2_0_x : g2_0 x0 = (0 : Int32) := ((if_pos (by rw [e_f3_x])).trans (if_neg q14))
  have e_f2_x : f2 x0 = (0 : Int32) := e_g2_0_x
  have q15 : ¬ x0 = (45 : Int32) := own_ne1 h1 (by decide)
  have q16 : x0 < (48 : Int32) := own_lt h2 (by decide)
  have q17 : ¬ x0 = (183 : Int32) := own_ne2 h2 (by decide)
  have q18 : x0 < (768 : Int32) := own_lt h2 (by decide)
  have q19 : ¬ x0 = (8255 : Int32) := own_ne2 h2 (by decide)
  have q20 : ¬ x0 = (8256 : Int32) := own_ne2 h2 (by decide)
  have e_g1_46_x : g1_46 x0 = (0 : Int32) := ((if_neg q19).trans (if_neg q20))
  have e_g1_25_x : g1_25 x0 = (0 : Int32) := ((if_neg q17).trans ((if_pos q18).trans e_g1_46_x))
  have e_g1_0_x : g1_0 x0 = (0 : Int32) := ((if_pos (by rw [e_f2_x])).trans ((if_neg q15).trans ((if_pos q16).trans e_g1_25_x)))
  have e_f1_x : f1 x0 = (0 : Int32) := e_g1_0_x
  have q21 : x0 < (128 : Int32) := own_lt h2 (by decide)
  have e_g5_0_x_48_57 : g5_0 x0 (48 : Int32) (57 : Int32) = (0 : Int32) := (if_pos q16)
  have e_f5_x_48_57 : f5 x0 (48 : Int32) (57 : Int32) = (0 : Int32) := e_g5_0_x_48_57
  have e_g5_0_x_65_90 : g5_0 x0 (65 : Int32) (90 : Int32) = (0 : Int32) := (if_pos q0)
  have e_f5_x_65_90 : f5 x0 (65 : Int32) (90 : Int32) = (0 : Int32) := e_g5_0_x_65_90
  have e_g5_0_x_97_122 : g5_0 x0 (97 : Int32) (122 : Int32) = (0 : Int32) := (if_pos q1)
  have e_f5_x_97_122 : f5 x0 (97 : Int32) (122 : Int32) = (0 : Int32) := e_g5_0_x_97_122
  have e_g4_0_x : g4_0 x0 = (0 : Int32) := ((if_pos q21).trans ((if_neg q15).trans ((if_pos (by rw [e_f5_x_48_57])).trans ((if_pos (by rw [e_f5_x_65_90])).trans ((if_neg q14).trans (if_pos (by rw [e_f5_x_97_122])))))))
  have e_f4_x : f4 x0 = (0 : Int32) := e_g4_0_x
  rw [e_f1_x, e_f4_x]
theorem own_iv_6 (x0 : Int32) (h1 : (48 : Int) ≤ x0.toInt) (h2 : x0.toInt < (49 : Int)) : f1 x0 = f4 x0 := by
  have q0 : x0 < (65 : Int32) := own_lt h2 (by decide)
  have q1 : x0 < (97 : Int32) := own_lt h2 (by decide)
  have q2 : x0 < (192 : Int32) := own_lt h2 (by decide)
  have q3 : x0 < (216 : Int32) := own_lt h2 (by decide)
  have q4 : x0 < (248 : Int32) := own_lt h2 (by decide)
  have q5 : x0 < (880 : Int32) := own_lt h2 (by decide)
  have q6 : x0 < (895 : Int32) := own_lt h2 (by decide)
  have q7 : x0 < (8204 : Int32) := own_lt h2 (by decide)
  have q8 : x0 < (8304 : Int32) := own_lt h2 (by decide)
  have q9 : x0 < (11264 : Int32) := own_lt h2 (by decide)
  have q10 : x0 < (12289 : Int32) := own_lt h2 (by decide)
  have q11 : x0 < (63744 : Int32) := own_lt h2 (by decide)
  have q12 : x0 < (65008 : Int32) := own_lt h2 (by decide)
  have q13 : x0 < (65536 : Int32) := own_lt h2 (by decide)
  have e_g3_178_x : g3_178 x0 = (0 : Int32) := (if_pos q13)
  have e_g3_164_x : g3_164 x0 = (0 : Int32) := ((if_pos q12).trans e_g3_178_x)
  have e_g3_150_x : g3_150 x0 = (0 : Int32) := ((if_pos q11).trans e_g3_164_x)
  have e_g3_136_x : g3_136 x0 = (0 : Int32) := ((if_pos q10).trans e_g3_150_x)
  have e_g3_122_x : g3_122 x0 = (0 : Int32) := ((if_pos q9).trans e_g3_136_x)
  have e_g3_108_x : g3_108 x0 = (0 : Int32) := ((if_pos q8).trans e_g3_122_x)
  have e_g3_94_x : g3_94 x0 = (0 : Int32) := ((if_pos q7).trans e_g3_108_x)
  have e_g3_80_x : g3_80 x0 = (0 : Int32) := ((if_pos q6).trans e_g3_94_x)
  have e_g3_66_x : g3_66 x0 = (0 : Int32) := ((if_pos q5).trans e_g3_80_x)
  have e_g3_52_x : g3_52 x0 = (0 : Int32) := ((if_pos q4).trans e_g3_66_x)
  have e_g3_38_x : g3_38 x0 = (0 : Int32) := ((if_pos q3).trans e_g3_52_x)
  have e_g3_24_x : g3_24 x0 = (0 : Int32) := ((if_pos q2).trans e_g3_38_x)
  have e_g3_12_x : g3_12 x0 = (0 : Int32) := ((if_pos q1).trans e_g3_24_x)
  have e_g3_0_x : g3_0 x0 = (0 : Int32) := ((if_pos q0).trans e_g3_12_x)
  have e_f3_x : f3 x0 = (0 : Int32) := e_g3_0_x
  have q14 : ¬ x0 = (95 : Int32) := own_ne2 h2 (by decide)
  have e_g2_0_x : g2_0 x0 = (0 : Int32) := ((if_pos (by rw [e_f3_x])).trans (if_neg q14))
  have e_f2_x : f2 x0 = (0 : Int32) := e_g2_0_x
  have q15 : ¬ x0 = (45 : Int32) := own_ne1 h1 (by decide)
  have q16 : ¬ x0 < (48 : Int32) := own_nlt h1 (by decide)
  have q17 : ¬ (57 : Int32) < x0 := own_ngt h2 (by decide)
  have e_g1_0_x : g1_0 x0 = (1 : Int32) := ((if_pos (by rw [e_f2_x])).trans ((if_neg q15).trans ((if_neg q16).trans (if_neg q17))))
  have e_f1_x : f1 x0 = (1 : Int32) := e_g1_0_x
  have q18 : x0 < (128 : Int32) := own_lt h2 (by decide)
  have e_g5_0_x_48_57 : g5_0 x0 (48 : Int32) (57 : Int32) = (1 : Int32) := ((if_neg q16).trans (if_neg q17))
  have e_f5_x_48_57 : f5 x0 (48 : Int32) (57 : Int32) = (1 : Int32) := e_g5_0_x_48_57
  have e_g4_0_x : g4_0 x0 = (1 : Int32) := ((if_pos q18).trans ((if_neg q15).trans (if_neg (by rw [e_f5_x_48_57]; decide))))
  have e_f4_x : f4 x0 = (1 : Int32) := e_g4_0_x
  rw [e_f1_x, e_f4_x]
theorem own_iv_7 (x0 : Int32) (h1 : (49 : Int) ≤ x0.toInt) (h2 : x0.toInt < (57 : Int)) : f1 x0 = f4 x0 := by
  have q0 : x0 < (65 : Int32) := own_lt h2 (by decide)
  have q1 : x0 < (97 : Int32) := own_lt h2 (by decide)
  have q2 : x0 < (192 : Int32) := own_lt h2 (by decide)
  have q3 : x0 < (216 : Int32) := own_lt h2 (by decide)
  have q4 : x0 < (248 : Int32) := own_lt h2 (by decide)
  have q5 : x0 < (880 : Int32) := own_lt h2 (by decide)
  have q6 : x0 < (895 : Int32) := own_lt h2 (by decide)
  have q7 : x0 < (8204 : Int32) := own_lt h2 (by decide)
  have q8 : x0 < (8304 : Int32) := own_lt h2 (by decide)
  have q9 : x0 < (11264 : Int32) := own_lt h2 (by decide)
  have q10 : x0 < (12289 : Int32) := own_lt h2 (by decide)
  have q11 : x0 < (63744 : Int32) := own_lt h2 (by decide)
  have q12 : x0 < (65008 : Int32) := own_lt h2 (by decide)
  have q13 : x0 < (65536 : Int32) := own_lt h2 (by decide)
  have e_g3_178_x : g3_178 x0 = (0 : Int32) := (if_pos q13)
  have e_g3_164_x : g3_164 x0 = (0 : Int32) := ((if_pos q12).trans e_g3_178_x)
  have e_g3_150_x : g3_150 x0 = (0 : Int32) := ((if_pos q11).trans e_g3_164_x)
  have e_g3_136_x : g3_136 x0 = (0 : Int32) := ((if_pos q10).trans e_g3_150_x)
  have e_g3_122_x : g3_122 x0 = (0 : Int32) := ((if_pos q9).trans e_g3_136_x)
  have e_g3_108_x : g3_108 x0 = (0 : Int32) := ((if_pos q8).trans e_g3_122_x)
  have e_g3_94_x : g3_94 x0 = (0 : Int32) := ((if_pos q7).trans e_g3_108_x)
  have e_g3_80_x : g3_80 x0 = (0 : Int32) := ((if_pos q6).trans e_g3_94_x)
  have e_g3_66_x : g3_66 x0 = (0 : Int32) := ((if_pos q5).trans e_g3_80_x)
  have e_g3_52_x : g3_52 x0 = (0 : Int32) := ((if_pos q4).trans e_g3_66_x)
  have e_g3_38_x : g3_38 x0 = (0 : Int32) := ((if_pos q3).trans e_g3_52_x)
  have e_g3_24_x : g3_24 x0 = (0 : Int32) := ((if_pos q2).trans e_g3_38_x)
  have e_g3_12_x : g3_12 x0 = (0 : Int32) := ((if_pos q1).trans e_g3_24_x)
  have e_g3_0_x : g3_0 x0 = (0 : Int32) := ((if_pos q0).trans e_g3_12_x)
  have e_f3_x : f3 x0 = (0 : Int32) := e_g3_0_x
  have q14 : ¬ x0 = (95 : Int32) := own_ne2 h2 (by decide)
  have e_g2_0_x : g2_0 x0 = (0 : Int32) := ((if_pos (by rw [e_f3_x])).trans (if_neg q14))
  have e_f2_x : f2 x0 = (0 : Int32) := e_g2_0_x
  have q15 : ¬ x0 = (45 : Int32) := own_ne1 h1 (by decide)
  have q16 : ¬ x0 < (48 : Int32) := own_nlt h1 (by decide)
  have q17 : ¬ (57 : Int32) < x0 := own_ngt h2 (by decide)
  have e_g1_0_x : g1_0 x0 = (1 : Int32) := ((if_pos (by rw [e_f2_x])).trans ((if_neg q15).trans ((if_neg q16).trans (if_neg q17))))
  have e_f1_x : f1 x0 = (1 : Int32) := e_g1_0_x
  have q18 : x0 < (128 : Int32) := own_lt h2 (by decide)
  have e_g5_0_x_48_57 : g5_0 x0 (48 : Int32) (57 : Int32) = (1 : Int32) := ((if_neg q16).trans (if_neg q17))
  have e_f5_x_48_57 : f5 x0 (48 : Int32) (57 : Int32) = (1 : Int32) := e_g5_0_x_48_57
  have e_g4_0_x : g4_0 x0 = (1 : Int32) := ((if_pos q18).trans ((if_neg q15).trans (if_neg (by rw [e_f5_x_48_57]; decide))))
  have e_f4_x : f4 x0 = (1 : Int32) := e_g4_0_x
  rw [e_f1_x, e_f4_x]
theorem own_iv_8 (x0 : Int32) (h1 : (57 : Int) ≤ x0.toInt) (h2 : x0.toInt < (58 : Int)) : f1 x0 = f4 x0 := by
  have q0 : x0 < (65 : Int32) := own_lt h2 (by decide)
  have q1 : x0 < (97 : Int32) := own_lt h2 (by decide)
  have q2 : x0 < (192 : Int32) := own_lt h2 (by decide)
  have q3 : x0 < (216 : Int32) := own_lt h2 (by decide)
  have q4 : x0 < (248 : Int32) := own_lt h2 (by decide)
  have q5 : x0 < (880 : Int32) := own_lt h2 (by decide)
  have q6 : x0 < (895 : Int32) := own_lt h2 (by decide)
  have q7 : x0 < (8204 : Int32) := own_lt h2 (by decide)
  have q8 : x0 < (8304 : Int32) := own_lt h2 (by decide)
  have q9 : x0 < (11264 : Int32) := own_lt h2 (by decide)
  have q10 : x0 < (12289 : Int32) := own_lt h2 (by decide)
  have q11 : x0 < (63744 : Int32) := own_lt h2 (by decide)
  have q12 : x0 < (65008 : Int32) := own_lt h2 (by decide)
  have q13 : x0 < (65536 : Int32) := own_lt h2 (by decide)
  have e_g3_178_x : g3_178 x0 = (0 : Int32) := (if_pos q13)
  have e_g3_164_x : g3_164 x0 = (0 : Int32) := ((if_pos q12).trans e_g3_178_x)
  have e_g3_150_x : g3_150 x0 = (0 : Int32) := ((if_pos q11).trans e_g3_164_x)
  have e_g3_136_x : g3_136 x0 = (0 : Int32) := ((if_pos q10).trans e_g3_150_x)
  have e_g3_122_x : g3_122 x0 = (0 : Int32) := ((if_pos q9).trans e_g3_136_x)
  have e_g3_108_x : g3_108 x0 = (0 : Int32) := ((if_pos q8).trans e_g3_122_x)
  have e_g3_94_x : g3_94 x0 = (0 : Int32) := ((if_pos q7).trans e_g3_108_x)
  have e_g3_80_x : g3_80 x0 = (0 : Int32) := ((if_pos q6).trans e_g3_94_x)
  have e_g3_66_x : g3_66 x0 = (0 : Int32) := ((if_pos q5).trans e_g3_80_x)
  have e_g3_52_x : g3_52 x0 = (0 : Int32) := ((if_pos q4).trans e_g3_66_x)
  have e_g3_38_x : g3_38 x0 = (0 : Int32) := ((if_pos q3).trans e_g3_52_x)
  have e_g3_24_x : g3_24 x0 = (0 : Int32) := ((if_pos q2).trans e_g3_38_x)
  have e_g3_12_x : g3_12 x0 = (0 : Int32) := ((if_pos q1).trans e_g3_24_x)
  have e_g3_0_x : g3_0 x0 = (0 : Int32) := ((if_pos q0).trans e_g3_12_x)
  have e_f3_x : f3 x0 = (0 : Int32) := e_g3_0_x
  have q14 : ¬ x0 = (95 : Int32) := own_ne2 h2 (by decide)
  have e_g2_0_x : g2_0 x0 = (0 : Int32) := ((if_pos (by rw [e_f3_x])).trans (if_neg q14))
  have e_f2_x : f2 x0 = (0 : Int32) := e_g2_0_x
  have q15 : ¬ x0 = (45 : Int32) := own_ne1 h1 (by decide)
  have q16 : ¬ x0 < (48 : Int32) := own_nlt h1 (by decide)
  have q17 : ¬ (57 : Int32) < x0 := own_ngt h2 (by decide)
  have e_g1_0_x : g1_0 x0 = (1 : Int32) := ((if_pos (by rw [e_f2_x])).trans ((if_neg q15).trans ((if_neg q16).trans (if_neg q17))))
  have e_f1_x : f1 x0 = (1 : Int32) := e_g1_0_x
  have q18 : x0 < (128 : Int32) := own_lt h2 (by decide)
  have e_g5_0_x_48_57 : g5_0 x0 (48 : Int32) (57 : Int32) = (1 : Int32) := ((if_neg q16).trans (if_neg q17))
  have e_f5_x_48_57 : f5 x0 (48 : Int32) (57 : Int32) = (1 : Int32) := e_g5_0_x_48_57
  have e_g4_0_x : g4_0 x0 = (1 : Int32) := ((if_pos q18).trans ((if_neg q15).trans (if_neg (by rw [e_f5_x_48_57]; decide))))
  have e_f4_x : f4 x0 = (1 : Int32) := e_g4_0_x
  rw [e_f1_x, e_f4_x]
theorem own_iv_9 (x0 : Int32) (h1 : (58 : Int) ≤ x0.toInt) (h2 : x0.toInt < (65 : Int)) : f1 x0 = f4 x0 := by
  have q0 : x0 < (65 : Int32) := own_lt h2 (by decide)
  have q1 : x0 < (97 : Int32) := own_lt h2 (by decide)
  have q2 : x0 < (192 : Int32) := own_lt h2 (by decide)
  have q3 : x0 < (216 : Int32) := own_lt h2 (by decide)
  have q4 : x0 < (248 : Int32) := own_lt h2 (by decide)
  have q5 : x0 < (880 : Int32) := own_lt h2 (by decide)
  have q6 : x0 < (895 : Int32) := own_lt h2 (by decide)
  have q7 : x0 < (8204 : Int32) := own_lt h2 (by decide)
  have q8 : x0 < (8304 : Int32) := own_lt h2 (by decide)
  have q9 : x0 < (11264 : Int32) := own_lt h2 (by decide)
  have q10 : x0 < (12289 : Int32) := own_lt h2 (by decide)
  have q11 : x0 < (63744 : Int32) := own_lt h2 (by decide)
  have q12 : x0 < (65008 : Int32) := own_lt h2 (by decide)
  have q13 : x0 < (65536 : Int32) := own_lt h2 (by decide)
  have e_g3_178_x : g3_178 x0 = (0 : Int32) := (if_pos q13)
  have e_g3_164_x : g3_164 x0 = (0 : Int32) := ((if_pos q12).trans e_g3_178_x)
  have e_g3_150_x : g3_150 x0 = (0 : Int32) := ((if_pos q11).trans e_g3_164_x)
  have e_g3_136_x : g3_136 x0 = (0 : Int32) := ((if_pos q10).trans e_g3_150_x)
  have e_g3_122_x : g3_122 x0 = (0 : Int32) := ((if_pos q9).trans e_g3_136_x)
  have e_g3_108_x : g3_108 x0 = (0 : Int32) := ((if_pos q8).trans e_g3_122_x)
  have e_g3_94_x : g3_94 x0 = (0 : Int32) := ((if_pos q7).trans e_g3_108_x)
  have e_g3_80_x : g3_80 x0 = (0 : Int32) := ((if_pos q6).trans e_g3_94_x)
  have e_g3_66_x : g3_66 x0 = (0 : Int32) := ((if_pos q5).trans e_g3_80_x)
  have e_g3_52_x : g3_52 x0 = (0 : Int32) := ((if_pos q4).trans e_g3_66_x)
  have e_g3_38_x : g3_38 x0 = (0 : Int32) := ((if_pos q3).trans e_g3_52_x)
  have e_g3_24_x : g3_24 x0 = (0 : Int32) := ((if_pos q2).trans e_g3_38_x)
  have e_g3_12_x : g3_12 x0 = (0 : Int32) := ((if_pos q1).trans e_g3_24_x)
  have e_g3_0_x : g3_0 x0 = (0 : Int32) := ((if_pos q0).trans e_g3_12_x)
  have e_f3_x : f3 x0 = (0 : Int32) := e_g3_0_x
  have q14 : ¬ x0 = (95 : Int32) := own_ne2 h2 (by decide)
  have e_g2_0_x : g2_0 x0 = (0 : Int32) := ((if_pos (by rw [e_f3_x])).trans (if_neg q14))
  have e_f2_x : f2 x0 = (0 : Int32) := e_g2_0_x
  have q15 : ¬ x0 = (45 : Int32) := own_ne1 h1 (by decide)
  have q16 : ¬ x0 < (48 : Int32) := own_nlt h1 (by decide)
  have q17 : (57 : Int32) < x0 := own_gt h1 (by decide)
  have q18 : ¬ x0 = (183 : Int32) := own_ne2 h2 (by decide)
  have q19 : x0 < (768 : Int32) := own_lt h2 (by decide)
  have q20 : ¬ x0 = (8255 : Int32) := own_ne2 h2 (by decide)
  have q21 : ¬ x0 = (8256 : Int32) := own_ne2 h2 (by decide)
  have e_g1_46_x : g1_46 x0 = (0 : Int32) := ((if_neg q20).trans (if_neg q21))
  have e_g1_25_x : g1_25 x0 = (0 : Int32) := ((if_neg q18).trans ((if_pos q19).trans e_g1_46_x))
  have e_g1_0_x : g1_0 x0 = (0 : Int32) := ((if_pos (by rw [e_f2_x])).trans ((if_neg q15).trans ((if_neg q16).trans ((if_pos q17).trans e_g1_25_x))))
  have e_f1_x : f1 x0 = (0 : Int32) := e_g1_0_x
  have q22 : x0 < (128 : Int32) := own_lt h2 (by decide)
  have e_g5_0_x_48_57 : g5_0 x0 (48 : Int32) (57 : Int32) = (0 : Int32) := ((if_neg q16).trans (if_pos q17))
  have e_f5_x_48_57 : f5 x0 (48 : Int32) (57 : Int32) = (0 : Int32) := e_g5_0_x_48_57
  have e_g5_0_x_65_90 : g5_0 x0 (65 : Int32) (90 : Int32) = (0 : Int32) := (if_pos q0)
  have e_f5_x_65_90 : f5 x0 (65 : Int32) (90 : Int32) = (0 : Int32) := e_g5_0_x_65_90
  have e_g5_0_x_97_122 : g5_0 x0 (97 : Int32) (122 : Int32) = (0 : Int32) := (if_pos q1)
  have e_f5_x_97_122 : f5 x0 (97 : Int32) (122 : Int32) = (0 : Int32) := e_g5_0_x_97_122
  have e_g4_0_x : g4_0 x0 = (0 : Int32) := ((if_pos q22).trans ((if_neg q15).trans ((if_pos (by rw [e_f5_x_48_57])).trans ((if_pos (by rw [e_f5_x_65_90])).trans ((if_neg q14).trans (if_pos (by rw [e_f5_x_97_122])))))))
  have e_f4_x : f4 x0 = (0 : Int32) := e_g4_0_x
  rw [e_f1_x, e_f4_x]
theorem own_iv_10 (x0 : Int32) (h1 : (65 : Int) ≤ x0.toInt) (h2 : x0.toInt < (66 : Int)) : f1 x0 = f4 x0 := by
  have q0 : ¬ x0 < (65 : Int32) := own_nlt h1 (by decide)
  have q1 : ¬ (90 : Int32) < x0 := own_ngt h2 (by decide)
  have e_g3_0_x : g3_0 x0 = (1 : Int32) := ((if_neg q0).trans (if_neg q1))
  have e_f3_x : f3 x0 = (1 : Int32) := e_g3_0_x
  have e_g2_0_x : g2_0 x0 = (1 : Int32) := (if_neg (by rw [e_f3_x]; decide))
  have e_f2_x : f2 x0 = (1 : Int32) := e_g2_0_x
  have e_g1_0_x : g1_0 x0 = (1 : Int32) := (if_neg (by rw [e_f2_x]; decide))
  have e_f1_x : f1 x0 = (1 : Int32) := e_g1_0_x
  have q2 : x0 < (128 : Int32) := own_lt h2 (by decide)
  have q3 : ¬ x0 = (45 : Int32) := own_ne1 h1 (by decide)
  have q4 : ¬ x0 < (48 : Int32) := own_nlt h1 (by decide)
  have q5 : (57 : Int32) < x0 := own_gt h1 (by decide)
  have e_g5_0_x_48_57 : g5_0 x0 (48 : Int32) (57 : Int32) = (0 : Int32) := ((if_neg q4).trans (if_pos q5))
  have e_f5_x_48_57 : f5 x0 (48 : Int32) (57 : Int32) = (0 : Int32) := e_g5_0_x_48_57
  have e_g5_0_x_65_90 : g5_0 x0 (65 : Int32) (90 : Int32) = (1 : Int32) := ((if_neg q0).trans (if_neg q1))
  have e_f5_x_65_90 : f5 x0 (65 : Int32) (90 : Int32) = (1 : Int32) := e_g5_0_x_65_90
  have e_g4_0_x : g4_0 x0 = (1 : Int32) := ((if_pos q2).trans ((if_neg q3).trans ((if_pos (by rw [e_f5_x_48_57])).trans (if_neg (by rw [e_f5_x_65_90]; decide)))))
  have e_f4_x : f4 x0 = (1 : Int32) := e_g4_0_x
  rw [e_f1_x, e_f4_x]
theorem own_iv_11 (x0 : Int32) (h1 : (66 : Int) ≤ x0.toInt) (h2 : x0.toInt < (90 : Int)) : f1 x0 = f4 x0 := by
  have q0 : ¬ x0 < (65 : Int32) := own_nlt h1 (by decide)
  have q1 : ¬ (90 : Int32) < x0 := own_ngt h2 (by decide)
  have e_g3_0_x : g3_0 x0 = (1 : Int32) := ((if_neg q0).trans (if_neg q1))
  have e_f3_x : f3 x0 = (1 : Int32) := e_g3_0_x
  have e_g2_0_x : g2_0 x0 = (1 : Int32) := (if_neg (by rw [e_f3_x]; decide))
  have e_f2_x : f2 x0 = (1 : Int32) := e_g2_0_x
  have e_g1_0_x : g1_0 x0 = (1 : Int32) := (if_neg (by rw [e_f2_x]; decide))
  have e_f1_x : f1 x0 = (1 : Int32) := e_g1_0_x
  have q2 : x0 < (128 : Int32) := own_lt h2 (by decide)
  have q3 : ¬ x0 = (45 : Int32) := own_ne1 h1 (by decide)
  have q4 : ¬ x0 < (48 : Int32) := own_nlt h1 (by decide)
  have q5 : (57 : Int32) < x0 := own_gt h1 (by decide)
  have e_g5_0_x_48_57 : g5_0 x0 (48 : Int32) (57 : Int32) = (0 : Int32) := ((if_neg q4).trans (if_pos q5))
  have e_f5_x_48_57 : f5 x0 (48 : Int32) (57 : Int32) = (0 : Int32) := e_g5_0_x_48_57
  have e_g5_0_x_65_90 : g5_0 x0 (65 : Int32) (90 : Int32) = (1 : Int32) := ((if_neg q0).trans (if_neg q1))
  have e_f5_x_65_90 : f5 x0 (65 : Int32) (90 : Int32) = (1 : Int32) := e_g5_0_x_65_90
  have e_g4_0_x : g4_0 x0 = (1 : Int32) := ((if_pos q2).trans ((if_neg q3).trans ((if_pos (by rw [e_f5_x_48_57])).trans (if_neg (by rw [e_f5_x_65_90]; decide)))))
  have e_f4_x : f4 x0 = (1 : Int32) := e_g4_0_x
  rw [e_f1_x, e_f4_x]
theorem own_iv_12 (x0 : Int32) (h1 : (90 : Int) ≤ x0.toInt) (h2 : x0.toInt < (91 : Int)) : f1 x0 = f4 x0 := by
  have q0 : ¬ x0 < (65 : Int32) := own_nlt h1 (by decide)
  have q1 : ¬ (90 : Int32) < x0 := own_ngt h2 (by decide)
  have e_g3_0_x : g3_0 x0 = (1 : Int32) := ((if_neg q0).trans (if_neg q1))
  have e_f3_x : f3 x0 = (1 : Int32) := e_g3_0_x
  have e_g2_0_x : g2_0 x0 = (1 : Int32) := (if_neg (by rw [e_f3_x]; decide))
  have e_f2_x : f2 x0 = (1 : Int32) := e_g2_0_x
  have e_g1_0_x : g1_0 x0 = (1 : Int32) := (if_neg (by rw [e_f2_x]; decide))
  have e_f1_x : f1 x0 = (1 : Int32) := e_g1_0_x
  have q2 : x0 < (128 : Int32) := own_lt h2 (by decide)
  have q3 : ¬ x0 = (45 : Int32) := own_ne1 h1 (by decide)
  have q4 : ¬ x0 < (48 : Int32) := own_nlt h1 (by decide)
  have q5 : (57 : Int32) < x0 := own_gt h1 (by decide)
  have e_g5_0_x_48_57 : g5_0 x0 (48 : Int32) (57 : Int32) = (0 : Int32) := ((if_neg q4).trans (if_pos q5))
  have e_f5_x_48_57 : f5 x0 (48 : Int32) (57 : Int32) = (0 : Int32) := e_g5_0_x_48_57
  have e_g5_0_x_65_90 : g5_0 x0 (65 : Int32) (90 : Int32) = (1 : Int32) := ((if_neg q0).trans (if_neg q1))
  have e_f5_x_65_90 : f5 x0 (65 : Int32) (90 : Int32) = (1 : Int32) := e_g5_0_x_65_90
  have e_g4_0_x : g4_0 x0 = (1 : Int32) := ((if_pos q2).trans ((if_neg q3).trans ((if_pos (by rw [e_f5_x_48_57])).trans (if_neg (by rw [e_f5_x_65_90]; decide)))))
  have e_f4_x : f4 x0 = (1 : Int32) := e_g4_0_x
  rw [e_f1_x, e_f4_x]
theorem own_iv_13 (x0 : Int32) (h1 : (91 : Int) ≤ x0.toInt) (h2 : x0.toInt < (95 : Int)) : f1 x0 = f4 x0 := by
  have q0 : ¬ x0 < (65 : Int32) := own_nlt h1 (by decide)
  have q1 : (90 : Int32) < x0 := own_gt h1 (by decide)
  have q2 : x0 < (97 : Int32) := own_lt h2 (by decide)
  have q3 : x0 < (192 : Int32) := own_lt h2 (by decide)
  have q4 : x0 < (216 : Int32) := own_lt h2 (by decide)
  have q5 : x0 < (248 : Int32) := own_lt h2 (by decide)
  have q6 : x0 < (880 : Int32) := own_lt h2 (by decide)
  have q7 : x0 < (895 : Int32) := own_lt h2 (by decide)
  have q8 : x0 < (8204 : Int32) := own_lt h2 (by decide)
  have q9 : x0 < (8304 : Int32) := own_lt h2 (by decide)
  have q10 : x0 < (11264 : Int32) := own_lt h2 (by decide)
  have q11 : x0 < (12289 : Int32) := own_lt h2 (by decide)
  have q12 : x0 < (63744 : Int32) := own_lt h2 (by decide)
  have q13 : x0 < (65008 : Int32) := own_lt h2 (by decide)
  have q14 : x0 < (65536 : Int32) := own_lt h2 (by decide)
  have e_g3_178_x : g3_178 x0 = (0 : Int32) := (if_pos q14)
  have e_g3_164_x : g3_164 x0 = (0 : Int32) := ((if_pos q13).trans e_g3_178_x)
  have e_g3_150_x : g3_150 x0 = (0 : Int32) := ((if_pos q12).trans e_g3_164_x)
  have e_g3_136_x : g3_136 x0 = (0 : Int32) := ((if_pos q11).trans e_g3_150_x)
  have e_g3_122_x : g3_122 x0 = (0 : Int32) := ((if_pos q10).trans e_g3_136_x)
  have e_g3_108_x : g3_108 x0 = (0 : Int32) := ((if_pos q9).trans e_g3_122_x)
  have e_g3_94_x : g3_94 x0 = (0 : Int32) := ((if_pos q8).trans e_g3_108_x)
  have e_g3_80_x : g3_80 x0 = (0 : Int32) := ((if_pos q7).trans e_g3_94_x)
  have e_g3_66_x : g3_66 x0 = (0 : Int32) := ((if_pos q6).trans e_g3_80_x)
  have e_g3_52_x : g3_52 x0 = (0 : Int32) := ((if_pos q5).trans e_g3_66_x)
  have e_g3_38_x : g3_38 x0 = (0 : Int32) := ((if_pos q4).trans e_g3_52_x)
  have e_g3_24_x : g3_24 x0 = (0 : Int32) := ((if_pos q3).trans e_g3_38_x)
  have e_g3_12_x : g3_12 x0 = (0 : Int32) := ((if_pos q2).trans e_g3_24_x)
  have e_g3_0_x : g3_0 x0 = (0 : Int32) := ((if_neg q0).trans ((if_pos q1).trans e_g3_12_x))
  have e_f3_x : f3 x0 = (0 : Int32) := e_g3_0_x
  have q15 : ¬ x0 = (95 : Int32) := own_ne2 h2 (by decide)
  have e_g2_0_x : g2_0 x0 = (0 : Int32) := ((if_pos (by rw [e_f3_x])).trans (if_neg q15))
  have e_f2_x : f2 x0 = (0 : Int32) := e_g2_0_x
  have q16 : ¬ x0 = (45 : Int32) := own_ne1 h1 (by decide)
  have q17 : ¬ x0 < (48 : Int32) := own_nlt h1 (by decide)
  have q18 : (57 : Int32) < x0 := own_gt h1 (by decide)
  have q19 : ¬ x0 = (183 : Int32) := own_ne2 h2 (by decide)
  have q20 : x0 < (768 : Int32) := own_lt h2 (by decide)
  have q21 : ¬ x0 = (8255 : Int32) := own_ne2 h2 (by decide)
  have q22 : ¬ x0 = (8256 : Int32) := own_ne2 h2 (by decide)
  have e_g1_46_x : g1_46 x0 = (0 : Int32) := ((if_neg q21).trans (if_neg q22))
  have e_g1_25_x : g1_25 x0 = (0 : Int32) := ((if_neg q19).trans ((if_pos q20).trans e_g1_46_x))
  have e_g1_0_x : g1_0 x0 = (0 : Int32) := ((if_pos (by rw [e_f2_x])).trans ((if_neg q16).trans ((if_neg q17).trans ((if_pos q18).trans e_g1_25_x))))
  have e_f1_x : f1 x0 = (0 : Int32) := e_g1_0_x
  have q23 : x0 < (128 : Int32) := own_lt h2 (by decide)
  have e_g5_0_x_48_57 : g5_0 x0 (48 : Int32) (57 : Int32) = (0 : Int32) := ((if_neg q17).trans (if_pos q18))
  have e_f5_x_48_57 : f5 x0 (48 : Int32) (57 : Int32) = (0 : Int32) := e_g5_0_x_48_57
  have e_g5_0_x_65_90 : g5_0 x0 (65 : Int32) (90 : Int32) = (0 : Int32) := ((if_neg q0).trans (if_pos q1))
  have e_f5_x_65_90 : f5 x0 (65 : Int32) (90 : Int32) = (0 : Int32) := e_g5_0_x_65_90
  have e_g5_0_x_97_122 : g5_0 x0 (97 : Int32) (122 : Int32) = (0 : Int32) := (if_pos q2)
  have e_f5_x_97_122 : f5 x0 (97 : Int32) (122 : Int32) = (0 : Int32) := e_g5_0_x_97_122
  have e_g4_0_x : g4_0 x0 = (0 : Int32) := ((if_pos q23).trans ((if_neg q16).trans ((if_pos (by rw [e_f5_x_48_57])).trans ((if_pos (by rw [e_f5_x_65_90])).trans ((if_neg q15).trans (if_pos (by rw [e_f5_x_97_122])))))))
  have e_f4_x : f4 x0 = (0 : Int32) := e_g4_0_x
  rw [e_f1_x, e_f4_x]
theorem own_iv_14 (x0 : Int32) (h1 : (95 : Int) ≤ x0.toInt) (h2 : x0.toInt < (96 : Int)) : f1 x0 = f4 x0 := by
  have q0 : ¬ x0 < (65 : Int32) := own_nlt h1 (by decide)
  have q1 : (90 : Int32) < x0 := own_gt h1 (by decide)
  have q2 : x0 < (97 : Int32) := own_lt h2 (by decide)
  have q3 : x0 < (192 : Int32) := own_lt h2 (by decide)
  have q4 : x0 < (216 : Int32) := own_lt h2 (by decide)
  have q5 : x0 < (248 : Int32) := own_lt h2 (by decide)
  have q6 : x0 < (880 : Int32) := own_lt h2 (by decide)
  have q7 : x0 < (895 : Int32) := own_lt h2 (by decide)
  have q8 : x0 < (8204 : Int32) := own_lt h2 (by decide)
  have q9 : x0 < (8304 : Int32) := own_lt h2 (by decide)
  have q10 : x0 < (11264 : Int32) := own_lt h2 (by decide)
  have q11 : x0 < (12289 : Int32) := own_lt h2 (by decide)
  have q12 : x0 < (63744 : Int32) := own_lt h2 (by decide)
  have q13 : x0 < (65008 : Int32) := own_lt h2 (by decide)
  have q14 : x0 < (65536 : Int32) := own_lt h2 (by decide)
  have e_g3_178_x : g3_178 x0 = (0 : Int32) := (if_pos q14)
  have e_g3_164_x : g3_164 x0 = (0 : Int32) := ((if_pos q13).trans e_g3_178_x)
  have e_g3_150_x : g3_150 x0 = (0 : Int32) := ((if_pos q12).trans e_g3_164_x)
  have e_g3_136_x : g3_136 x0 = (0 : Int32) := ((if_pos q11).trans e_g3_150_x)
  have e_g3_122_x : g3_122 x0 = (0 : Int32) := ((if_pos q10).trans e_g3_136_x)
  have e_g3_108_x : g3_108 x0 = (0 : Int32) := ((if_pos q9).trans e_g3_122_x)
  have e_g3_94_x : g3_94 x0 = (0 : Int32) := ((if_pos q8).trans e_g3_108_x)
  have e_g3_80_x : g3_80 x0 = (0 : Int32) := ((if_pos q7).trans e_g3_94_x)
  have e_g3_66_x : g3_66 x0 = (0 : Int32) := ((if_pos q6).trans e_g3_80_x)
  have e_g3_52_x : g3_52 x0 = (0 : Int32) := ((if_pos q5).trans e_g3_66_x)
  have e_g3_38_x : g3_38 x0 = (0 : Int32) := ((if_pos q4).trans e_g3_52_x)
  have e_g3_24_x : g3_24 x0 = (0 : Int32) := ((if_pos q3).trans e_g3_38_x)
  have e_g3_12_x : g3_12 x0 = (0 : Int32) := ((if_pos q2).trans e_g3_24_x)
  have e_g3_0_x : g3_0 x0 = (0 : Int32) := ((if_neg q0).trans ((if_pos q1).trans e_g3_12_x))
  have e_f3_x : f3 x0 = (0 : Int32) := e_g3_0_x
  have q15 : x0 = (95 : Int32) := own_eq h1 h2 (by decide)
  have e_g2_0_x : g2_0 x0 = (1 : Int32) := ((if_pos (by rw [e_f3_x])).trans (if_pos q15))
  have e_f2_x : f2 x0 = (1 : Int32) := e_g2_0_x
  have e_g1_0_x : g1_0 x0 = (1 : Int32) := (if_neg (by rw [e_f2_x]; decide))
  have e_f1_x : f1 x0 = (1 : Int32) := e_g1_0_x
  have q16 : x0 < (128 : Int32) := own_lt h2 (by decide)
  have q17 : ¬ x0 = (45 : Int32) := own_ne1 h1 (by decide)
  have q18 : ¬ x0 < (48 : Int32) := own_nlt h1 (by decide)
  have q19 : (57 : Int32) < x0 := own_gt h1 (by decide)
  have e_g5_0_x_48_57 : g5_0 x0 (48 : Int32) (57 : Int32) = (0 : Int32) := ((if_neg q18).trans (if_pos q19))
  have e_f5_x_48_57 : f5 x0 (48 : Int32) (57 : Int32) = (0 : Int32) := e_g5_0_x_48_57
  have e_g5_0_x_65_90 : g5_0 x0 (65 : Int32) (90 : Int32) = (0 : Int32) := ((if_neg q0).trans (if_pos q1))
  have e_f5_x_65_90 : f5 x0 (65 : Int32) (90 : Int32) = (0 : Int32) := e_g5_0_x_65_90
  have e_g4_0_x : g4_0 x0 = (1 : Int32) := ((if_pos q16).trans ((if_neg q17).trans ((if_pos (by rw [e_f5_x_48_57])).trans ((if_pos (by rw [e_f5_x_65_90])).trans (if_pos q15)))))
  have e_f4_x : f4 x0 = (1 : Int32) := e_g4_0_x
  rw [e_f1_x, e_f4_x]
theorem own_iv_15 (x0 : Int32) (h1 : (96 : Int) ≤ x0.toInt) (h2 : x0.toInt < (97 : Int)) : f1 x0 = f4 x0 := by
  have q0 : ¬ x0 < (65 : Int32) := own_nlt h1 (by decide)
  have q1 : (90 : Int32) < x0 := own_gt h1 (by decide)
  have q2 : x0 < (97 : Int32) := own_lt h2 (by decide)
  have q3 : x0 < (192 : Int32) := own_lt h2 (by decide)
  have q4 : x0 < (216 : Int32) := own_lt h2 (by decide)
  have q5 : x0 < (248 : Int32) := own_lt h2 (by decide)
  have q6 : x0 < (880 : Int32) := own_lt h2 (by decide)
  have q7 : x0 < (895 : Int32) := own_lt h2 (by decide)
  have q8 : x0 < (8204 : Int32) := own_lt h2 (by decide)
  have q9 : x0 < (8304 : Int32) := own_lt h2 (by decide)
  have q10 : x0 < (11264 : Int32) := own_lt h2 (by decide)
  have q11 : x0 < (12289 : Int32) := own_lt h2 (by decide)
  have q12 : x0 < (63744 : Int32) := own_lt h2 (by decide)
  have q13 : x0 < (65008 : Int32) := own_lt h2 (by decide)
  have q14 : x0 < (65536 : Int32) := own_lt h2 (by decide)
  have e_g3_178_x : g3_178 x0 = (0 : Int32) := (if_pos q14)
  have e_g3_164_x : g3_164 x0 = (0 : Int32) := ((if_pos q13).trans e_g3_178_x)
  have e_g3_150_x : g3_150 x0 = (0 : Int32) := ((if_pos q12).trans e_g3_164_x)
  have e_g3_136_x : g3_136 x0 = (0 : Int32) := ((if_pos q11).trans e_g3_150_x)
  have e_g3_122_x : g3_122 x0 = (0 : Int32) := ((if_pos q10).trans e_g3_136_x)
  have e_g3_108_x : g3_108 x0 = (0 : Int32) := ((if_pos q9).trans e_g3_122_x)
  have e_g3_94_x : g3_94 x0 = (0 : Int32) := ((if_pos q8).trans e_g3_108_x)
  have e_g3_80_x : g3_80 x0 = (0 : Int32) := ((if_pos q7).trans e_g3_94_x)
  have e_g3_66_x : g3_66 x0 = (0 : Int32) := ((if_pos q6).trans e_g3_80_x)
  have e_g3_52_x : g3_52 x0 = (0 : Int32) := ((if_pos q5).trans e_g3_66_x)
  have e_g3_38_x : g3_38 x0 = (0 : Int32) := ((if_pos q4).trans e_g3_52_x)
  have e_g3_24_x : g3_24 x0 = (0 : Int32) := ((if_pos q3).trans e_g3_38_x)
  have e_g3_12_x : g3_12 x0 = (0 : Int32) := ((if_pos q2).trans e_g3_24_x)
  have e_g3_0_x : g3_0 x0 = (0 : Int32) := ((if_neg q0).trans ((if_pos q1).trans e_g3_12_x))
  have e_f3_x : f3 x0 = (0 : Int32) := e_g3_0_x
  have q15 : ¬ x0 = (95 : Int32) := own_ne1 h1 (by decide)
  have e_g2_0_x : g2_0 x0 = (0 : Int32) := ((if_pos (by rw [e_f3_x])).trans (if_neg q15))
  have e_f2_x : f2 x0 = (0 : Int32) := e_g2_0_x
  have q16 : ¬ x0 = (45 : Int32) := own_ne1 h1 (by decide)
  have q17 : ¬ x0 < (48 : Int32) := own_nlt h1 (by decide)
  have q18 : (57 : Int32) < x0 := own_gt h1 (by decide)
  have q19 : ¬ x0 = (183 : Int32) := own_ne2 h2 (by decide)
  have q20 : x0 < (768 : Int32) := own_lt h2 (by decide)
  have q21 : ¬ x0 = (8255 : Int32) := own_ne2 h2 (by decide)
  have q22 : ¬ x0 = (8256 : Int32) := own_ne2 h2 (by decide)
  have e_g1_46_x : g1_46 x0 = (0 : Int32) := ((if_neg q21).trans (if_neg q22))
  have e_g1_25_x : g1_25 x0 = (0 : Int32) := ((if_neg q19).trans ((if_pos q20).trans e_g1_46_x))
  have e_g1_0_x : g1_0 x0 = (0 : Int32) := ((if_pos (by rw [e_f2_x])).trans ((if_neg q16).trans ((if_neg q17).trans ((if_pos q18).trans e_g1_25_x))))
  have e_f1_x : f1 x0 = (0 : Int32) := e_g1_0_x
  have q23 : x0 < (128 : Int32) := own_lt h2 (by decide)
  have e_g5_0_x_48_57 : g5_0 x0 (48 : Int32) (57 : Int32) = (0 : Int32) := ((if_neg q17).trans (if_pos q18))
  have e_f5_x_48_57 : f5 x0 (48 : Int32) (57 : Int32) = (0 : Int32) := e_g5_0_x_48_57
  have e_g5_0_x_65_90 : g5_0 x0 (65 : Int32) (90 : Int32) = (0 : Int32) := ((if_neg q0).trans (if_pos q1))
  have e_f5_x_65_90 : f5 x0 (65 : Int32) (90 : Int32) = (0 : Int32) := e_g5_0_x_65_90
  have e_g5_0_x_97_122 : g5_0 x0 (97 : Int32) (122 : Int32) = (0 : Int32) := (if_pos q2)
  have e_f5_x_97_122 : f5 x0 (97 : Int32) (122 : Int32) = (0 : Int32) := e_g5_0_x_97_122
  have e_g4_0_x : g4_0 x0 = (0 : Int32) := ((if_pos q23).trans ((if_neg q16).trans ((if_pos (by rw [e_f5_x_48_57])).trans ((if_pos (by rw [e_f5_x_65_90])).trans ((if_neg q15).trans (if_pos (by rw [e_f5_x_97_122])))))))
  have e_f4_x : f4 x0 = (0 : Int32) := e_g4_0_x
  rw [e_f1_x, e_f4_x]
theorem own_iv_16 (x0 : Int32) (h1 : (97 : Int) ≤ x0.toInt) (h2 : x0.toInt < (98 : Int)) : f1 x0 = f4 x0 := by
  have q0 : ¬ x0 < (65 : Int32) := own_nlt h1 (by decide)
  have q1 : (90 : Int32) < x0 := own_gt h1 (by decide)
  have q2 : ¬ x0 < (97 : Int32) := own_nlt h1 (by decide)
  have q3 : ¬ (122 : Int32) < x0 := own_ngt h2 (by decide)
  have e_g3_12_x : g3_12 x0 = (1 : Int32) := ((if_neg q2).trans (if_neg q3))
  have e_g3_0_x : g3_0 x0 = (1 : Int32) := ((if_neg q0).trans ((if_pos q1).trans e_g3_12_x))
  have e_f3_x : f3 x0 = (1 : Int32) := e_g3_0_x
  have e_g2_0_x : g2_0 x0 = (1 : Int32) := (if_neg (by rw [e_f3_x]; decide))
  have e_f2_x : f2 x0 = (1 : Int32) := e_g2_0_x
  have e_g1_0_x : g1_0 x0 = (1 : Int32) := (if_neg (by rw [e_f2_x]; decide))
  have e_f1_x : f1 x0 = (1 : Int32) := e_g1_0_x
  have q4 : x0 < (128 : Int32) := own_lt h2 (by decide)
  have q5 : ¬ x0 = (45 : Int32) := own_ne1 h1 (by decide)
  have q6 : ¬ x0 < (48 : Int32) := own_nlt h1 (by decide)
  have q7 : (57 : Int32) < x0 := own_gt h1 (by decide)
  have e_g5_0_x_48_57 : g5_0 x0 (48 : Int32) (57 : Int32) = (0 : Int32) := ((if_neg q6).trans (if_pos q7))
  have e_f5_x_48_57 : f5 x0 (48 : Int32) (57 : Int32) = (0 : Int32) := e_g5_0_x_48_57
  have e_g5_0_x_65_90 : g5_0 x0 (65 : Int32) (90 : Int32) = (0 : Int32) := ((if_neg q0).trans (if_pos q1))
  have e_f5_x_65_90 : f5 x0 (65 : Int32) (90 : Int32) = (0 : Int32) := e_g5_0_x_65_90
  have q8 : ¬ x0 = (95 : Int32) := own_ne1 h1 (by decide)
  have e_g5_0_x_97_122 : g5_0 x0 (97 : Int32) (122 : Int32) = (1 : Int32) := ((if_neg q2).trans (if_neg q3))
  have e_f5_x_97_122 : f5 x0 (97 : Int32) (122 : Int32) = (1 : Int32) := e_g5_0_x_97_122
  have e_g4_0_x : g4_0 x0 = (1 : Int32) := ((if_pos q4).trans ((if_neg q5).trans ((if_pos (by rw [e_f5_x_48_57])).trans ((if_pos (by rw [e_f5_x_65_90])).trans ((if_neg q8).trans (if_neg (by rw [e_f5_x_97_122]; decide)))))))
  have e_f4_x : f4 x0 = (1 : Int32) := e_g4_0_x
  rw [e_f1_x, e_f4_x]
theorem own_iv_17 (x0 : Int32) (h1 : (98 : Int) ≤ x0.toInt) (h2 : x0.toInt < (122 : Int)) : f1 x0 = f4 x0 := by
  have q0 : ¬ x0 < (65 : Int32) := own_nlt h1 (by decide)
  have q1 : (90 : Int32) < x0 := own_gt h1 (by decide)
  have q2 : ¬ x0 < (97 : Int32) := own_nlt h1 (by decide)
  have q3 : ¬ (122 : Int32) < x0 := own_ngt h2 (by decide)
  have e_g3_12_x : g3_12 x0 = (1 : Int32) := ((if_neg q2).trans (if_neg q3))
  have e_g3_0_x : g3_0 x0 = (1 : Int32) := ((if_neg q0).trans ((if_pos q1).trans e_g3_12_x))
  have e_f3_x : f3 x0 = (1 : Int32) := e_g3_0_x
  have e_g2_0_x : g2_0 x0 = (1 : Int32) := (if_neg (by rw [e_f3_x]; decide))
  have e_f2_x : f2 x0 = (1 : Int32) := e_g2_0_x
  have e_g1_0_x : g1_0 x0 = (1 : Int32) := (if_neg (by rw [e_f2_x]; decide))
  have e_f1_x : f1 x0 = (1 : Int32) := e_g1_0_x
  have q4 : x0 < (128 : Int32) := own_lt h2 (by decide)
  have q5 : ¬ x0 = (45 : Int32) := own_ne1 h1 (by decide)
  have q6 : ¬ x0 < (48 : Int32) := own_nlt h1 (by decide)
  have q7 : (57 : Int32) < x0 := own_gt h1 (by decide)
  have e_g5_0_x_48_57 : g5_0 x0 (48 : Int32) (57 : Int32) = (0 : Int32) := ((if_neg q6).trans (if_pos q7))
  have e_f5_x_48_57 : f5 x0 (48 : Int32) (57 : Int32) = (0 : Int32) := e_g5_0_x_48_57
  have e_g5_0_x_65_90 : g5_0 x0 (65 : Int32) (90 : Int32) = (0 : Int32) := ((if_neg q0).trans (if_pos q1))
  have e_f5_x_65_90 : f5 x0 (65 : Int32) (90 : Int32) = (0 : Int32) := e_g5_0_x_65_90
  have q8 : ¬ x0 = (95 : Int32) := own_ne1 h1 (by decide)
  have e_g5_0_x_97_122 : g5_0 x0 (97 : Int32) (122 : Int32) = (1 : Int32) := ((if_neg q2).trans (if_neg q3))
  have e_f5_x_97_122 : f5 x0 (97 : Int32) (122 : Int32) = (1 : Int32) := e_g5_0_x_97_122
  have e_g4_0_x : g4_0 x0 = (1 : Int32) := ((if_pos q4).trans ((if_neg q5).trans ((if_pos (by rw [e_f5_x_48_57])).trans ((if_pos (by rw [e_f5_x_65_90])).trans ((if_neg q8).trans (if_neg (by rw [e_f5_x_97_122]; decide)))))))
  have e_f4_x : f4 x0 = (1 : Int32) := e_g4_0_x
  rw [e_f1_x, e_f4_x]
theorem own_iv_18 (x0 : Int32) (h1 : (122 : Int) ≤ x0.toInt) (h2 : x0.toInt < (123 : Int)) : f1 x0 = f4 x0 := by
  have q0 : ¬ x0 < (65 : Int32) := own_nlt h1 (by decide)
  have q1 : (90 : Int32) < x0 := own_gt h1 (by decide)
  have q2 : ¬ x0 < (97 : Int32) := own_nlt h1 (by decide)
  have q3 : ¬ (122 : Int32) < x0 := own_ngt h2 (by decide)
  have e_g3_12_x : g3_12 x0 = (1 : Int32) := ((if_neg q2).trans (if_neg q3))
  have e_g3_0_x : g3_0 x0 = (1 : Int32) := ((if_neg q0).trans ((if_pos q1).trans e_g3_12_x))
  have e_f3_x : f3 x0 = (1 : Int32) := e_g3_0_x
  have e_g2_0_x : g2_0 x0 = (1 : Int32) := (if_neg (by rw [e_f3_x]; decide))
  have e_f2_x : f2 x0 = (1 : Int32) := e_g2_0_x
  have e_g1_0_x : g1_0 x0 = (1 : Int32) := (if_neg (by rw [e_f2_x]; decide))
  have e_f1_x : f1 x0 = (1 : Int32) := e_g1_0_x
  have q4 : x0 < (128 : Int32) := own_lt h2 (by decide)
  have q5 : ¬ x0 = (45 : Int32) := own_ne1 h1 (by decide)
  have q6 : ¬ x0 < (48 : Int32) := own_nlt h1 (by decide)
  have q7 : (57 : Int32) < x0 := own_gt h1 (by decide)
  have e_g5_0_x_48_57 : g5_0 x0 (48 : Int32) (57 : Int32) = (0 : Int32) := ((if_neg q6).trans (if_pos q7))
  have e_f5_x_48_57 : f5 x0 (48 : Int32) (57 : Int32) = (0 : Int32) := e_g5_0_x_48_57
  have e_g5_0_x_65_90 : g5_0 x0 (65 : Int32) (90 : Int32) = (0 : Int32) := ((if_neg q0).trans (if_pos q1))
  have e_f5_x_65_90 : f5 x0 (65 : Int32) (90 : Int32) = (0 : Int32) := e_g5_0_x_65_90
  have q8 : ¬ x0 = (95 : Int32) := own_ne1 h1 (by decide)
  have e_g5_0_x_97_122 : g5_0 x0 (97 : Int32) (122 : Int32) = (1 : Int32) := ((if_neg q2).trans (if_neg q3))
  have e_f5_x_97_122 : f5 x0 (97 : Int32) (122 : Int32) = (1 : Int32) := e_g5_0_x_97_122
  have e_g4_0_x : g4_0 x0 = (1 : Int32) := ((if_pos q4).trans ((if_neg q5).trans ((if_pos (by rw [e_f5_x_48_57])).trans ((if_pos (by rw [e_f5_x_65_90])).trans ((if_neg q8).trans (if_neg (by rw [e_f5_x_97_122]; decide)))))))
  have e_f4_x : f4 x0 = (1 : Int32) := e_g4_0_x
  rw [e_f1_x, e_f4_x]
theorem own_iv_19 (x0 : Int32) (h1 : (123 : Int) ≤ x0.toInt) (h2 : x0.toInt < (128 : Int)) : f1 x0 = f4 x0 := by
  have q0 : ¬ x0 < (65 : Int32) := own_nlt h1 (by decide)
  have q1 : (90 : Int32) < x0 := own_gt h1 (by decide)
  have q2 : ¬ x0 < (97 : Int32) := own_nlt h1 (by decide)
  have q3 : (122 : Int32) < x0 := own_gt h1 (by decide)
  have q4 : x0 < (192 : Int32) := own_lt h2 (by decide)
  have q5 : x0 < (216 : Int32) := own_lt h2 (by decide)
  have q6 : x0 < (248 : Int32) := own_lt h2 (by decide)
  have q7 : x0 < (880 : Int32) := own_lt h2 (by decide)
  have q8 : x0 < (895 : Int32) := own_lt h2 (by decide)
  have q9 : x0 < (8204 : Int32) := own_lt h2 (by decide)
  have q10 : x0 < (8304 : Int32) := own_lt h2 (by decide)
  have q11 : x0 < (11264 : Int32) := own_lt h2 (by decide)
  have q12 : x0 < (12289 : Int32) := own_lt h2 (by decide)
  have q13 : x0 < (63744 : Int32) := own_lt h2 (by decide)
  have q14 : x0 < (65008 : Int32) := own_lt h2 (by decide)
  have q15 : x0 < (65536 : Int32) := own_lt h2 (by decide)
  have e_g3_178_x : g3_178 x0 = (0 : Int32) := (if_pos q15)
  have e_g3_164_x : g3_164 x0 = (0 : Int32) := ((if_pos q14).trans e_g3_178_x)
  have e_g3_150_x : g3_150 x0 = (0 : Int32) := ((if_pos q13).trans e_g3_164_x)
  have e_g3_136_x : g3_136 x0 = (0 : Int32) := ((if_pos q12).trans e_g3_150_x)
  have e_g3_122_x : g3_122 x0 = (0 : Int32) := ((if_pos q11).trans e_g3_136_x)
  have e_g3_108_x : g3_108 x0 = (0 : Int32) := ((if_pos q10).trans e_g3_122_x)
  have e_g3_94_x : g3_94 x0 = (0 : Int32) := ((if_pos q9).trans e_g3_108_x)
  have e_g3_80_x : g3_80 x0 = (0 : Int32) := ((if_pos q8).trans e_g3_94_x)
  have e_g3_66_x : g3_66 x0 = (0 : Int32) := ((if_pos q7).trans e_g3_80_x)
  have e_g3_52_x : g3_52 x0 = (0 : Int32) := ((if_pos q6).trans e_g3_66_x)
  have e_g3_38_x : g3_38 x0 = (0 : Int32) := ((if_pos q5).trans e_g3_52_x)
  have e_g3_24_x : g3_24 x0 = (0 : Int32) := ((if_pos q4).trans e_g3_38_x)
  have e_g3_12_x : g3_12 x0 = (0 : Int32) := ((if_neg q2).trans ((if_pos q3).trans e_g3_24_x))
  have e_g3_0_x : g3_0 x0 = (0 : Int32) := ((if_neg q0).trans ((if_pos q1).trans e_g3_12_x))
  have e_f3_x : f3 x0 = (0 : Int32) := e_g3_0_x
  have q16 : ¬ x0 = (95 : Int32) := own_ne1 h1 (by decide)
  have e_g2_0_x : g2_0 x0 = (0 : Int32) := ((if_pos (by rw [e_f3_x])).trans (if_neg q16))
  have e_f2_x : f2 x0 = (0 : Int32) := e_g2_0_x
  have q17 : ¬ x0 = (45 : Int32) := own_ne1 h1 (by decide)
  have q18 : ¬ x0 < (48 : Int32) := own_nlt h1 (by decide)
  have q19 : (57 : Int32) < x0 := own_gt h1 (by decide)
  have q20 : ¬ x0 = (183 : Int32) := own_ne2 h2 (by decide)
  have q21 : x0 < (768 : Int32) := own_lt h2 (by decide)
  have q22 : ¬ x0 = (8255 : Int32) := own_ne2 h2 (by decide)
  have q23 : ¬ x0 = (8256 : Int32) := own_ne2 h2 (by decide)
  have e_g1_46_x : g1_46 x0 = (0 : Int32) := ((if_neg q22).trans (if_neg q23))
  have e_g1_25_x : g1_25 x0 = (0 : Int32) := ((if_neg q20).trans ((if_pos q21).trans e_g1_46_x))
  have e_g1_0_x : g1_0 x0 = (0 : Int32) := ((if_pos (by rw [e_f2_x])).trans ((if_neg q17).trans ((if_neg q18).trans ((if_pos q19).trans e_g1_25_x))))
  have e_f1_x : f1 x0 = (0 : Int32) := e_g1_0_x
  have q24 : x0 < (128 : Int32) := own_lt h2 (by decide)
  have e_g5_0_x_48_57 : g5_0 x0 (48 : Int32) (57 : Int32) = (0 : Int32) := ((if_neg q18).trans (if_pos q19))
  have e_f5_x_48_57 : f5 x0 (48 : Int32) (57 : Int32) = (0 : Int32) := e_g5_0_x_48_57
  have e_g5_0_x_65_90 : g5_0 x0 (65 : Int32) (90 : Int32) = (0 : Int32) := ((if_neg q0).trans (if_pos q1))
  have e_f5_x_65_90 : f5 x0 (65 : Int32) (90 : Int32) = (0 : Int32) := e_g5_0_x_65_90
  have e_g5_0_x_97_122 : g5_0 x0 (97 : Int32) (122 : Int32) = (0 : Int32) := ((if_neg q2).trans (if_pos q3))
  have e_f5_x_97_122 : f5 x0 (97 : Int32) (122 : Int32) = (0 : Int32) := e_g5_0_x_97_122
  have e_g4_0_x : g4_0 x0 = (0 : Int32) := ((if_pos q24).trans ((if_neg q17).trans ((if_pos (by rw [e_f5_x_48_57])).trans ((if_pos (by rw [e_f5_x_65_90])).trans ((if_neg q16).trans (if_pos (by rw [e_f5_x_97_122])))))))
  have e_f4_x : f4 x0 = (0 : Int32) := e_g4_0_x
  rw [e_f1_x, e_f4_x]
theorem own_iv_20 (x0 : Int32) (h1 : (128 : Int) ≤ x0.toInt) (h2 : x0.toInt < (129 : Int)) : f1 x0 = f4 x0 := by
  have q0 : ¬ x0 < (65 : Int32) := own_nlt h1 (by decide)
  have q1 : (90 : Int32) < x0 := own_gt h1 (by decide)
  have q2 : ¬ x0 < (97 : Int32) := own_nlt h1 (by decide)
  have q3 : (122 : Int32) < x0 := own_gt h1 (by decide)
  have q4 : x0 < (192 : Int32) := own_lt h2 (by decide)
  have q5 : x0 < (216 : Int32) := own_lt h2 (by decide)
  have q6 : x0 < (248 : Int32) := own_lt h2 (by decide)
  have q7 : x0 < (880 : Int32) := own_lt h2 (by decide)
  have q8 : x0 < (895 : Int32) := own_lt h2 (by decide)
  have q9 : x0 < (8204 : Int32) := own_lt h2 (by decide)
  have q10 : x0 < (8304 : Int32) := own_lt h2 (by decide)
  have q11 : x0 < (11264 : Int32) := own_lt h2 (by decide)
  have q12 : x0 < (12289 : Int32) := own_lt h2 (by decide)
  have q13 : x0 < (63744 : Int32) := own_lt h2 (by decide)
  have q14 : x0 < (65008 : Int32) := own_lt h2 (by decide)
  have q15 : x0 < (65536 : Int32) := own_lt h2 (by decide)
  have e_g3_178_x : g3_178 x0 = (0 : Int32) := (if_pos q15)
  have e_g3_164_x : g3_164 x0 = (0 : Int32) := ((if_pos q14).trans e_g3_178_x)
  have e_g3_150_x : g3_150 x0 = (0 : Int32) := ((if_pos q13).trans e_g3_164_x)
  have e_g3_136_x : g3_136 x0 = (0 : Int32) := ((if_pos q12).trans e_g3_150_x)
  have e_g3_122_x : g3_122 x0 = (0 : Int32) := ((if_pos q11).trans e_g3_136_x)
  have e_g3_108_x : g3_108 x0 = (0 : Int32) := ((if_pos q10).trans e_g3_122_x)
  have e_g3_94_x : g3_94 x0 = (0 : Int32) := ((if_pos q9).trans e_g3_108_x)
  have e_g3_80_x : g3_80 x0 = (0 : Int32) := ((if_pos q8).trans e_g3_94_x)
  have e_g3_66_x : g3_66 x0 = (0 : Int32) := ((if_pos q7).trans e_g3_80_x)
  have e_g3_52_x : g3_52 x0 = (0 : Int32) := ((if_pos q6).trans e_g3_66_x)
  have e_g3_38_x : g3_38 x0 = (0 : Int32) := ((if_pos q5).trans e_g3_52_x)
  have e_g3_24_x : g3_24 x0 = (0 : Int32) := ((if_pos q4).trans e_g3_38_x)
  have e_g3_12_x : g3_12 x0 = (0 : Int32) := ((if_neg q2).trans ((if_pos q3).trans e_g3_24_x))
  have e_g3_0_x : g3_0 x0 = (0 : Int32) := ((if_neg q0).trans ((if_pos q1).trans e_g3_12_x))
  have e_f3_x : f3 x0 = (0 : Int32) := e_g3_0_x
  have q16 : ¬ x0 = (95 : Int32) := own_ne1 h1 (by decide)
  have e_g2_0_x : g2_0 x0 = (0 : Int32) := ((if_pos (by rw [e_f3_x])).trans (if_neg q16))
  have e_f2_x : f2 x0 = (0 : Int32) := e_g2_0_x
  have q17 : ¬ x0 = (45 : Int32) := own_ne1 h1 (by decide)
  have q18 : ¬ x0 < (48 : Int32) := own_nlt h1 (by decide)
  have q19 : (57 : Int32) < x0 := own_gt h1 (by decide)
  have q20 : ¬ x0 = (183 : Int32) := own_ne2 h2 (by decide)
  have q21 : x0 < (768 : Int32) := own_lt h2 (by decide)
  have q22 : ¬ x0 = (8255 : Int32) := own_ne2 h2 (by decide)
  have q23 : ¬ x0 = (8256 : Int32) := own_ne2 h2 (by decide)
  have e_g1_46_x : g1_46 x0 = (0 : Int32) := ((if_neg q22).trans (if_neg q23))
  have e_g1_25_x : g1_25 x0 = (0 : Int32) := ((if_neg q20).trans ((if_pos q21).trans e_g1_46_x))
  have e_g1_0_x : g1_0 x0 = (0 : Int32) := ((if_pos (by rw [e_f2_x])).trans ((if_neg q17).trans ((if_neg q18).trans ((if_pos q19).trans e_g1_25_x))))
  have e_f1_x : f1 x0 = (0 : Int32) := e_g1_0_x
  have q24 : ¬ x0 < (128 : Int32) := own_nlt h1 (by decide)
  have q25 : ¬ (65535 : Int32) < x0 := own_ngt h2 (by decide)
  have e_g5_0_x_192_214 : g5_0 x0 (192 : Int32) (214 : Int32) = (0 : Int32) := (if_pos q4)
  have e_f5_x_192_214 : f5 x0 (192 : Int32) (214 : Int32) = (0 : Int32) := e_g5_0_x_192_214
  have e_g5_0_x_216_246 : g5_0 x0 (216 : Int32) (246 : Int32) = (0 : Int32) := (if_pos q5)
  have e_f5_x_216_246 : f5 x0 (216 : Int32) (246 : Int32) = (0 : Int32) := e_g5_0_x_216_246
  have e_g5_0_x_248_893 : g5_0 x0 (248 : Int32) (893 : Int32) = (0 : Int32) := (if_pos q6)
  have e_f5_x_248_893 : f5 x0 (248 : Int32) (893 : Int32) = (0 : Int32) := e_g5_0_x_248_893
  have e_g5_0_x_895_8191 : g5_0 x0 (895 : Int32) (8191 : Int32) = (0 : Int32) := (if_pos q8)
  have e_f5_x_895_8191 : f5 x0 (895 : Int32) (8191 : Int32) = (0 : Int32) := e_g5_0_x_895_8191
  have e_g5_0_x_8204_8205 : g5_0 x0 (8204 : Int32) (8205 : Int32) = (0 : Int32) := (if_pos q9)
  have e_f5_x_8204_8205 : f5 x0 (8204 : Int32) (8205 : Int32) = (0 : Int32) := e_g5_0_x_8204_8205
  have q26 : x0 < (8255 : Int32) := own_lt h2 (by decide)
  have e_g5_0_x_8255_8256 : g5_0 x0 (8255 : Int32) (8256 : Int32) = (0 : Int32) := (if_pos q26)
  have e_f5_x_8255_8256 : f5 x0 (8255 : Int32) (8256 : Int32) = (0 : Int32) := e_g5_0_x_8255_8256
  have e_g5_0_x_8304_8591 : g5_0 x0 (8304 : Int32) (8591 : Int32) = (0 : Int32) := (if_pos q10)
  have e_f5_x_8304_8591 : f5 x0 (8304 : Int32) (8591 : Int32) = (0 : Int32) := e_g5_0_x_8304_8591
  have e_g5_0_x_11264_12271 : g5_0 x0 (11264 : Int32) (12271 : Int32) = (0 : Int32) := (if_pos q11)
  have e_f5_x_11264_12271 : f5 x0 (11264 : Int32) (12271 : Int32) = (0 : Int32) := e_g5_0_x_11264_12271
  have e_g5_0_x_12289_55295 : g5_0 x0 (12289 : Int32) (55295 : Int32) = (0 : Int32) := (if_pos q12)
  have e_f5_x_12289_55295 : f5 x0 (12289 : Int32) (55295 : Int32) = (0 : Int32) := e_g5_0_x_12289_55295
  have e_g5_0_x_63744_64975 : g5_0 x0 (63744 : Int32) (64975 : Int32) = (0 : Int32) := (if_pos q13)
  have e_f5_x_63744_64975 : f5 x0 (63744 : Int32) (64975 : Int32) = (0 : Int32) := e_g5_0_x_63744_64975
  have e_g5_0_x_65008_65533 : g5_0 x0 (65008 : Int32) (65533 : Int32) = (0 : Int32) := (if_pos q14)
  have e_f5_x_65008_65533 : f5 x0 (65008 : Int32) (65533 : Int32) = (0 : Int32) := e_g5_0_x_65008_65533
  have e_g4_0_x : g4_0 x0 = (0 : Int32) := ((if_neg q24).trans ((if_neg q25).trans ((if_neg q20).trans ((if_pos (by rw [e_f5_x_192_214])).trans ((if_pos (by rw [e_f5_x_216_246])).trans ((if_pos (by rw [e_f5_x_248_893])).trans ((if_pos (by rw [e_f5_x_895_8191])).trans ((if_pos (by rw [e_f5_x_8204_8205])).trans ((if_pos (by rw [e_f5_x_8255_8256])).trans ((if_pos (by rw [e_f5_x_8304_8591])).trans ((if_pos (by rw [e_f5_x_11264_12271])).trans ((if_pos (by rw [e_f5_x_12289_55295])).trans ((if_pos (by rw [e_f5_x_63744_64975])).trans (if_pos (by rw [e_f5_x_65008_65533])))))))))))))))
  have e_f4_x : f4 x0 = (0 : Int32) := e_g4_0_x
  rw [e_f1_x, e_f4_x]
theorem own_iv_21 (x0 : Int32) (h1 : (129 : Int) ≤ x0.toInt) (h2 : x0.toInt < (183 : Int)) : f1 x0 = f4 x0 := by
  have q0 : ¬ x0 < (65 : Int32) := own_nlt h1 (by decide)
  have q1 : (90 : Int32) < x0 := own_gt h1 (by decide)
  have q2 : ¬ x0 < (97 : Int32) := own_nlt h1 (by decide)
  have q3 : (122 : Int32) < x0 := own_gt h1 (by decide)
  have q4 : x0 < (192 : Int32) := own_lt h2 (by decide)
  have q5 : x0 < (216 : Int32) := own_lt h2 (by decide)
  have q6 : x0 < (248 : Int32) := own_lt h2 (by decide)
  have q7 : x0 < (880 : Int32) := own_lt h2 (by decide)
  have q8 : x0 < (895 : Int32) := own_lt h2 (by decide)
  have q9 : x0 < (8204 : Int32) := own_lt h2 (by decide)
  have q10 : x0 < (8304 : Int32) := own_lt h2 (by decide)
  have q11 : x0 < (11264 : Int32) := own_lt h2 (by decide)
  have q12 : x0 < (12289 : Int32) := own_lt h2 (by decide)
  have q13 : x0 < (63744 : Int32) := own_lt h2 (by decide)
  have q14 : x0 < (65008 : Int32) := own_lt h2 (by decide)
  have q15 : x0 < (65536 : Int32) := own_lt h2 (by decide)
  have e_g3_178_x : g3_178 x0 = (0 : Int32) := (if_pos q15)
  have e_g3_164_x : g3_164 x0 = (0 : Int32) := ((if_pos q14).trans e_g3_178_x)
  have e_g3_150_x : g3_150 x0 = (0 : Int32) := ((if_pos q13).trans e_g3_164_x)
  have e_g3_136_x : g3_136 x0 = (0 : Int32) := ((if_pos q12).trans e_g3_150_x)
  have e_g3_122_x : g3_122 x0 = (0 : Int32) := ((if_pos q11).trans e_g3_136_x)
  have e_g3_108_x : g3_108 x0 = (0 : Int32) := ((if_pos q10).trans e_g3_122_x)
  have e_g3_94_x : g3_94 x0 = (0 : Int32) := ((if_pos q9).trans e_g3_108_x)
  have e_g3_80_x : g3_80 x0 = (0 : Int32) := ((if_pos q8).trans e_g3_94_x)
  have e_g3_66_x : g3_66 x0 = (0 : Int32) := ((if_pos q7).trans e_g3_80_x)
  have e_g3_52_x : g3_52 x0 = (0 : Int32) := ((if_pos q6).trans e_g3_66_x)
  have e_g3_38_x : g3_38 x0 = (0 : Int32) := ((if_pos q5).trans e_g3_52_x)
  have e_g3_24_x : g3_24 x0 = (0 : Int32) := ((if_pos q4).trans e_g3_38_x)
  have e_g3_12_x : g3_12 x0 = (0 : Int32) := ((if_neg q2).trans ((if_pos q3).trans e_g3_24_x))
  have e_g3_0_x : g3_0 x0 = (0 : Int32) := ((if_neg q0).trans ((if_pos q1).trans e_g3_12_x))
  have e_f3_x : f3 x0 = (0 : Int32) := e_g3_0_x
  have q16 : ¬ x0 = (95 : Int32) := own_ne1 h1 (by decide)
  have e_g2_0_x : g2_0 x0 = (0 : Int32) := ((if_pos (by rw [e_f3_x])).trans (if_neg q16))
  have e_f2_x : f2 x0 = (0 : Int32) := e_g2_0_x
  have q17 : ¬ x0 = (45 : Int32) := own_ne1 h1 (by decide)
  have q18 : ¬ x0 < (48 : Int32) := own_nlt h1 (by decide)
  have q19 : (57 : Int32) < x0 := own_gt h1 (by decide)
  have q20 : ¬ x0 = (183 : Int32) := own_ne2 h2 (by decide)
  have q21 : x0 < (768 : Int32) := own_lt h2 (by decide)
  have q22 : ¬ x0 = (8255 : Int32) := own_ne2 h2 (by decide)
  have q23 : ¬ x0 = (8256 : Int32) := own_ne2 h2 (by decide)
  have e_g1_46_x : g1_46 x0 = (0 : Int32) := ((if_neg q22).trans (if_neg q23))
  have e_g1_25_x : g1_25 x0 = (0 : Int32) := ((if_neg q20).trans ((if_pos q21).trans e_g1_46_x))
  have e_g1_0_x : g1_0 x0 = (0 : Int32) := ((if_pos (by rw [e_f2_x])).trans ((if_neg q17).trans ((if_neg q18).trans ((if_pos q19).trans e_g1_25_x))))
  have e_f1_x : f1 x0 = (0 : Int32) := e_g1_0_x
  have q24 : ¬ x0 < (128 : Int32) := own_nlt h1 (by decide)
  have q25 : ¬ (65535 : Int32) < x0 := own_ngt h2 (by decide)
  have e_g5_0_x_192_214 : g5_0 x0 (192 : Int32) (214 : Int32) = (0 : Int32) := (if_pos q4)
  have e_f5_x_192_214 : f5 x0 (192 : Int32) (214 : Int32) = (0 : Int32) := e_g5_0_x_192_214
  have e_g5_0_x_216_246 : g5_0 x0 (216 : Int32) (246 : Int32) = (0 : Int32) := (if_pos q5)
  have e_f5_x_216_246 : f5 x0 (216 : Int32) (246 : Int32) = (0 : Int32) := e_g5_0_x_216_246
  have e_g5_0_x_248_893 : g5_0 x0 (248 : Int32) (893 : Int32) = (0 : Int32) := (if_pos q6)
  have e_f5_x_248_893 : f5 x0 (248 : Int32) (893 : Int32) = (0 : Int32) := e_g5_0_x_248_893
  have e_g5_0_x_895_8191 : g5_0 x0 (895 : Int32) (8191 : Int32) = (0 : Int32) := (if_pos q8)
  have e_f5_x_895_8191 : f5 x0 (895 : Int32) (8191 : Int32) = (0 : Int32) := e_g5_0_x_895_8191
  have e_g5_0_x_8204_8205 : g5_0 x0 (8204 : Int32) (8205 : Int32) = (0 : Int32) := (if_pos q9)
  have e_f5_x_8204_8205 : f5 x0 (8204 : Int32) (8205 : Int32) = (0 : Int32) := e_g5_0_x_8204_8205
  have q26 : x0 < (8255 : Int32) := own_lt h2 (by decide)
  have e_g5_0_x_8255_8256 : g5_0 x0 (8255 : Int32) (8256 : Int32) = (0 : Int32) := (if_pos q26)
  have e_f5_x_8255_8256 : f5 x0 (8255 : Int32) (8256 : Int32) = (0 : Int32) := e_g5_0_x_8255_8256
  have e_g5_0_x_8304_8591 : g5_0 x0 (8304 : Int32) (8591 : Int32) = (0 : Int32) := (if_pos q10)
  have e_f5_x_8304_8591 : f5 x0 (8304 : Int32) (8591 : Int32) = (0 : Int32) := e_g5_0_x_8304_8591
  have e_g5_0_x_11264_12271 : g5_0 x0 (11264 : Int32) (12271 : Int32) = (0 : Int32) := (if_pos q11)
  have e_f5_x_11264_12271 : f5 x0 (11264 : Int32) (12271 : Int32) = (0 : Int32) := e_g5_0_x_11264_12271
  have e_g5_0_x_12289_55295 : g5_0 x0 (12289 : Int32) (55295 : Int32) = (0 : Int32) := (if_pos q12)
  have e_f5_x_12289_55295 : f5 x0 (12289 : Int32) (55295 : Int32) = (0 : Int32) := e_g5_0_x_12289_55295
  have e_g5_0_x_63744_64975 : g5_0 x0 (63744 : Int32) (64975 : Int32) = (0 : Int32) := (if_pos q13)
  have e_f5_x_63744_64975 : f5 x0 (63744 : Int32) (64975 : Int32) = (0 : Int32) := e_g5_0_x_63744_64975
  have e_g5_0_x_65008_65533 : g5_0 x0 (65008 : Int32) (65533 : Int32) = (0 : Int32) := (if_pos q14)
  have e_f5_x_65008_65533 : f5 x0 (65008 : Int32) (65533 : Int32) = (0 : Int32) := e_g5_0_x_65008_65533
  have e_g4_0_x : g4_0 x0 = (0 : Int32) := ((if_neg q24).trans ((if_neg q25).trans ((if_neg q20).trans ((if_pos (by rw [e_f5_x_192_214])).trans ((if_pos (by rw [e_f5_x_216_246])).trans ((if_pos (by rw [e_f5_x_248_893])).trans ((if_pos (by rw [e_f5_x_895_8191])).trans ((if_pos (by rw [e_f5_x_8204_8205])).trans ((if_pos (by rw [e_f5_x_8255_8256])).trans ((if_pos (by rw [e_f5_x_8304_8591])).trans ((if_pos (by rw [e_f5_x_11264_12271])).trans ((if_pos (by rw [e_f5_x_12289_55295])).trans ((if_pos (by rw [e_f5_x_63744_64975])).trans (if_pos (by rw [e_f5_x_65008_65533])))))))))))))))
  have e_f4_x : f4 x0 = (0 : Int32) := e_g4_0_x
  rw [e_f1_x, e_f4_x]
theorem own_iv_22 (x0 : Int32) (h1 : (183 : Int) ≤ x0.toInt) (h2 : x0.toInt < (184 : Int)) : f1 x0 = f4 x0 := by
  have q0 : ¬ x0 < (65 : Int32) := own_nlt h1 (by decide)
  have q1 : (90 : Int32) < x0 := own_gt h1 (by decide)
  have q2 : ¬ x0 < (97 : Int32) := own_nlt h1 (by decide)
  have q3 : (122 : Int32) < x0 := own_gt h1 (by decide)
  have q4 : x0 < (192 : Int32) := own_lt h2 (by decide)
  have q5 : x0 < (216 : Int32) := own_lt h2 (by decide)
  have q6 : x0 < (248 : Int32) := own_lt h2 (by decide)
  have q7 : x0 < (880 : Int32) := own_lt h2 (by decide)
  have q8 : x0 < (895 : Int32) := own_lt h2 (by decide)
  have q9 : x0 < (8204 : Int32) := own_lt h2 (by decide)
  have q10 : x0 < (8304 : Int32) := own_lt h2 (by decide)
  have q11 : x0 < (11264 : Int32) := own_lt h2 (by decide)
  have q12 : x0 < (12289 : Int32) := own_lt h2 (by decide)
  have q13 : x0 < (63744 : Int32) := own_lt h2 (by decide)
  have q14 : x0 < (65008 : Int32) := own_lt h2 (by decide)
  have q15 : x0 < (65536 : Int32) := own_lt h2 (by decide)
  have e_g3_178_x : g3_178 x0 = (0 : Int32) := (if_pos q15)
  have e_g3_164_x : g3_164 x0 = (0 : Int32) := ((if_pos q14).trans e_g3_178_x)
  have e_g3_150_x : g3_150 x0 = (0 : Int32) := ((if_pos q13).trans e_g3_164_x)
  have e_g3_136_x : g3_136 x0 = (0 : Int32) := ((if_pos q12).trans e_g3_150_x)
  have e_g3_122_x : g3_122 x0 = (0 : Int32) := ((if_pos q11).trans e_g3_136_x)
  have e_g3_108_x : g3_108 x0 = (0 : Int32) := ((if_pos q10).trans e_g3_122_x)
  have e_g3_94_x : g3_94 x0 = (0 : Int32) := ((if_pos q9).trans e_g3_108_x)
  have e_g3_80_x : g3_80 x0 = (0 : Int32) := ((if_pos q8).trans e_g3_94_x)
  have e_g3_66_x : g3_66 x0 = (0 : Int32) := ((if_pos q7).trans e_g3_80_x)
  have e_g3_52_x : g3_52 x0 = (0 : Int32) := ((if_pos q6).trans e_g3_66_x)
  have e_g3_38_x : g3_38 x0 = (0 : Int32) := ((if_pos q5).trans e_g3_52_x)
  have e_g3_24_x : g3_24 x0 = (0 : Int32) := ((if_pos q4).trans e_g3_38_x)
  have e_g3_12_x : g3_12 x0 = (0 : Int32) := ((if_neg q2).trans ((if_pos q3).trans e_g3_24_x))
  have e_g3_0_x : g3_0 x0 = (0 : Int32) := ((if_neg q0).trans ((if_pos q1).trans e_g3_12_x))
  have e_f3_x : f3 x0 = (0 : Int32) := e_g3_0_x
  have q16 : ¬ x0 = (95 : Int32) := own_ne1 h1 (by decide)
  have e_g2_0_x : g2_0 x0 = (0 : Int32) := ((if_pos (by rw [e_f3_x])).trans (if_neg q16))
  have e_f2_x : f2 x0 = (0 : Int32) := e_g2_0_x
  have q17 : ¬ x0 = (45 : Int32) := own_ne1 h1 (by decide)
  have q18 : ¬ x0 < (48 : Int32) := own_nlt h1 (by decide)
  have q19 : (57 : Int32) < x0 := own_gt h1 (by decide)
  have q20 : x0 = (183 : Int32) := own_eq h1 h2 (by decide)
  have e_g1_25_x : g1_25 x0 = (1 : Int32) := (if_pos q20)
  have e_g1_0_x : g1_0 x0 = (1 : Int32) := ((if_pos (by rw [e_f2_x])).trans ((if_neg q17).trans ((if_neg q18).trans ((if_pos q19).trans e_g1_25_x))))
  have e_f1_x : f1 x0 = (1 : Int32) := e_g1_0_x
  have q21 : ¬ x0 < (128 : Int32) := own_nlt h1 (by decide)
  have q22 : ¬ (65535 : Int32) < x0 := own_ngt h2 (by decide)
  have e_g4_0_x : g4_0 x0 = (1 : Int32) := ((if_neg q21).trans ((if_neg q22).trans (if_pos q20)))
  have e_f4_x : f4 x0 = (1 : Int32) := e_g4_0_x
  rw [e_f1_x, e_f4_x]
theorem own_iv_23 (x0 : Int32) (h1 : (184 : Int) ≤ x0.toInt) (h2 : x0.toInt < (192 : Int)) : f1 x0 = f4 x0 := by
  have q0 : ¬ x0 < (65 : Int32) := own_nlt h1 (by decide)
  have q1 : (90 : Int32) < x0 := own_gt h1 (by decide)
  have q2 : ¬ x0 < (97 : Int32) := own_nlt h1 (by decide)
  have q3 : (122 : Int32) < x0 := own_gt h1 (by decide)
  have q4 : x0 < (192 : Int32) := own_lt h2 (by decide)
  have q5 : x0 < (216 : Int32) := own_lt h2 (by decide)
  have q6 : x0 < (248 : Int32) := own_lt h2 (by decide)
  have q7 : x0 < (880 : Int32) := own_lt h2 (by decide)
  have q8 : x0 < (895 : Int32) := own_lt h2 (by decide)
  have q9 : x0 < (8204 : Int32) := own_lt h2 (by decide)
  have q10 : x0 < (8304 : Int32) := own_lt h2 (by decide)
  have q11 : x0 < (11264 : Int32) := own_lt h2 (by decide)
  have q12 : x0 < (12289 : Int32) := own_lt h2 (by decide)
  have q13 : x0 < (63744 : Int32) := own_lt h2 (by decide)
  have q14 : x0 < (65008 : Int32) := own_lt h2 (by decide)
  have q15 : x0 < (65536 : Int32) := own_lt h2 (by decide)
  have e_g3_178_x : g3_178 x0 = (0 : Int32) := (if_pos q15)
  have e_g3_164_x : g3_164 x0 = (0 : Int32) := ((if_pos q14).trans e_g3_178_x)
  have e_g3_150_x : g3_150 x0 = (0 : Int32) := ((if_pos q13).trans e_g3_164_x)
  have e_g3_136_x : g3_136 x0 = (0 : Int32) := ((if_pos q12).trans e_g3_150_x)
  have e_g3_122_x : g3_122 x0 = (0 : Int32) := ((if_pos q11).trans e_g3_136_x)
  have e_g3_108_x : g3_108 x0 = (0 : Int32) := ((if_pos q10).trans e_g3_122_x)
  have e_g3_94_x : g3_94 x0 = (0 : Int32) := ((if_pos q9).trans e_g3_108_x)
  have e_g3_80_x : g3_80 x0 = (0 : Int32) := ((if_pos q8).trans e_g3_94_x)
  have e_g3_66_x : g3_66 x0 = (0 : Int32) := ((if_pos q7).trans e_g3_80_x)
  have e_g3_52_x : g3_52 x0 = (0 : Int32) := ((if_pos q6).trans e_g3_66_x)
  have e_g3_38_x : g3_38 x0 = (0 : Int32) := ((if_pos q5).trans e_g3_52_x)
  have e_g3_24_x : g3_24 x0 = (0 : Int32) := ((if_pos q4).trans e_g3_38_x)
  have e_g3_12_x : g3_12 x0 = (0 : Int32) := ((if_neg q2).trans ((if_pos q3).trans e_g3_24_x))
  have e_g3_0_x : g3_0 x0 = (0 : Int32) := ((if_neg q0).trans ((if_pos q1).trans e_g3_12_x))
  have e_f3_x : f3 x0 = (0 : Int32) := e_g3_0_x
  have q16 : ¬ x0 = (95 : Int32) := own_ne1 h1 (by decide)
  have e_g2_0_x : g2_0 x0 = (0 : Int32) := ((if_pos (by rw [e_f3_x])).trans (if_neg q16))
  have e_f2_x : f2 x0 = (0 : Int32) := e_g2_0_x
  have q17 : ¬ x0 = (45 : Int32) := own_ne1 h1 (by decide)
  have q18 : ¬ x0 < (48 : Int32) := own_nlt h1 (by decide)
  have q19 : (57 : Int32) < x0 := own_gt h1 (by decide)
  have q20 : ¬ x0 = (183 : Int32) := own_ne1 h1 (by decide)
  have q21 : x0 < (768 : Int32) := own_lt h2 (by decide)
  have q22 : ¬ x0 = (8255 : Int32) := own_ne2 h2 (by decide)
  have q23 : ¬ x0 = (8256 : Int32) := own_ne2 h2 (by decide)
  have e_g1_46_x : g1_46 x0 = (0 : Int32) := ((if_neg q22).trans (if_neg q23))
  have e_g1_25_x : g1_25 x0 = (0 : Int32) := ((if_neg q20).trans ((if_pos q21).trans e_g1_46_x))
  have e_g1_0_x : g1_0 x0 = (0 : Int32) := ((if_pos (by rw [e_f2_x])).trans ((if_neg q17).trans ((if_neg q18).trans ((if_pos q19).trans e_g1_25_x))))
  have e_f1_x : f1 x0 = (0 : Int32) := e_g1_0_x
  have q24 : ¬ x0 < (128 : Int32) := own_nlt h1 (by decide)
  have q25 : ¬ (65535 : Int32) < x0 := own_ngt h2 (by decide)
  have e_g5_0_x_192_214 : g5_0 x0 (192 : Int32) (214 : Int32) = (0 : Int32) := (if_pos q4)
  have e_f5_x_192_214 : f5 x0 (192 : Int32) (214 : Int32) = (0 : Int32) := e_g5_0_x_192_214
  have e_g5_0_x_216_246 : g5_0 x0 (216 : Int32) (246 : Int32) = (0 : Int32) := (if_pos q5)
  have e_f5_x_216_246 : f5 x0 (216 : Int32) (246 : Int32) = (0 : Int32) := e_g5_0_x_216_246
  have e_g5_0_x_248_893 : g5_0 x0 (248 : Int32) (893 : Int32) = (0 : Int32) := (if_pos q6)
  have e_f5_x_248_893 : f5 x0 (248 : Int32) (893 : Int32) = (0 : Int32) := e_g5_0_x_248_893
  have e_g5_0_x_895_8191 : g5_0 x0 (895 : Int32) (8191 : Int32) = (0 : Int32) := (if_pos q8)
  have e_f5_x_895_8191 : f5 x0 (895 : Int32) (8191 : Int32) = (0 : Int32) := e_g5_0_x_895_8191
  have e_g5_0_x_8204_8205 : g5_0 x0 (8204 : Int32) (8205 : Int32) = (0 : Int32) := (if_pos q9)
  have e_f5_x_8204_8205 : f5 x0 (8204 : Int32) (8205 : Int32) = (0 : Int32) := e_g5_0_x_8204_8205
  have q26 : x0 < (8255 : Int32) := own_lt h2 (by decide)
  have e_g5_0_x_8255_8256 : g5_0 x0 (8255 : Int32) (8256 : Int32) = (0 : Int32) := (if_pos q26)
  have e_f5_x_8255_8256 : f5 x0 (8255 : Int32) (8256 : Int32) = (0 : Int32) := e_g5_0_x_8255_8256
  have e_g5_0_x_8304_8591 : g5_0 x0 (8304 : Int32) (8591 : Int32) = (0 : Int32) := (if_pos q10)
  have e_f5_x_8304_8591 : f5 x0 (8304 : Int32) (8591 : Int32) = (0 : Int32) := e_g5_0_x_8304_8591
  have e_g5_0_x_11264_12271 : g5_0 x0 (11264 : Int32) (12271 : Int32) = (0 : Int32) := (if_pos q11)
  have e_f5_x_11264_12271 : f5 x0 (11264 : Int32) (12271 : Int32) = (0 : Int32) := e_g5_0_x_11264_12271
  have e_g5_0_x_12289_55295 : g5_0 x0 (12289 : Int32) (55295 : Int32) = (0 : Int32) := (if_pos q12)
  have e_f5_x_12289_55295 : f5 x0 (12289 : Int32) (55295 : Int32) = (0 : Int32) := e_g5_0_x_12289_55295
  have e_g5_0_x_63744_64975 : g5_0 x0 (63744 : Int32) (64975 : Int32) = (0 : Int32) := (if_pos q13)
  have e_f5_x_63744_64975 : f5 x0 (63744 : Int32) (64975 : Int32) = (0 : Int32) := e_g5_0_x_63744_64975
  have e_g5_0_x_65008_65533 : g5_0 x0 (65008 : Int32) (65533 : Int32) = (0 : Int32) := (if_pos q14)
  have e_f5_x_65008_65533 : f5 x0 (65008 : Int32) (65533 : Int32) = (0 : Int32) := e_g5_0_x_65008_65533
  have e_g4_0_x : g4_0 x0 = (0 : Int32) := ((if_neg q24).trans ((if_neg q25).trans ((if_neg q20).trans ((if_pos (by rw [e_f5_x_192_214])).trans ((if_pos (by rw [e_f5_x_216_246])).trans ((if_pos (by rw [e_f5_x_248_893])).trans ((if_pos (by rw [e_f5_x_895_8191])).trans ((if_pos (by rw [e_f5_x_8204_8205])).trans ((if_pos (by rw [e_f5_x_8255_8256])).trans ((if_pos (by rw [e_f5_x_8304_8591])).trans ((if_pos (by rw [e_f5_x_11264_12271])).trans ((if_pos (by rw [e_f5_x_12289_55295])).trans ((if_pos (by rw [e_f5_x_63744_64975])).trans (if_pos (by rw [e_f5_x_65008_65533])))))))))))))))
  have e_f4_x : f4 x0 = (0 : Int32) := e_g4_0_x
  rw [e_f1_x, e_f4_x]
theorem own_iv_24 (x0 : Int32) (h1 : (192 : Int) ≤ x0.toInt) (h2 : x0.toInt < (193 : Int)) : f1 x0 = f4 x0 := by
  have q0 : ¬ x0 < (65 : Int32) := own_nlt h1 (by decide)
  have q1 : (90 : Int32) < x0 := own_gt h1 (by decide)
  have q2 : ¬ x0 < (97 : Int32) := own_nlt h1 (by decide)
  have q3 : (122 : Int32) < x0 := own_gt h1 (by decide)
  have q4 : ¬ x0 < (192 : Int32) := own_nlt h1 (by decide)
  have q5 : ¬ (214 : Int32) < x0 := own_ngt h2 (by decide)
  have e_g3_24_x : g3_24 x0 = (1 : Int32) := ((if_neg q4).trans (if_neg q5))
  have e_g3_12_x : g3_12 x0 = (1 : Int32) := ((if_neg q2).trans ((if_pos q3).trans e_g3_24_x))
  have e_g3_0_x : g3_0 x0 = (1 : Int32) := ((if_neg q0).trans ((if_pos q1).trans e_g3_12_x))
  have e_f3_x : f3 x0 = (1 : Int32) := e_g3_0_x
  have e_g2_0_x : g2_0 x0 = (1 : Int32) := (if_neg (by rw [e_f3_x]; decide))
  have e_f2_x : f2 x0 = (1 : Int32) := e_g2_0_x
  have e_g1_0_x : g1_0 x0 = (1 : Int32) := (if_neg (by rw [e_f2_x]; decide))
  have e_f1_x : f1 x0 = (1 : Int32) := e_g1_0_x
  have q6 : ¬ x0 < (128 : Int32) := own_nlt h1 (by decide)
  have q7 : ¬ (65535 : Int32) < x0 := own_ngt h2 (by decide)
  have q8 : ¬ x0 = (183 : Int32) := own_ne1 h1 (by decide)
  have e_g5_0_x_192_214 : g5_0 x0 (192 : Int32) (214 : Int32) = (1 : Int32) := ((if_neg q4).trans (if_neg q5))
  have e_f5_x_192_214 : f5 x0 (192 : Int32) (214 : Int32) = (1 : Int32) := e_g5_0_x_192_214
  have e_g4_0_x : g4_0 x0 = (1 : Int32) := ((if_neg q6).trans ((if_neg q7).trans ((if_neg q8).trans (if_neg (by rw [e_f5_x_192_214]; decide)))))
  have e_f4_x : f4 x0 = (1 : Int32) := e_g4_0_x
  rw [e_f1_x, e_f4_x]
theorem own_iv_25 (x0 : Int32) (h1 : (193 : Int) ≤ x0.toInt) (h2 : x0.toInt < (214 : Int)) : f1 x0 = f4 x0 := by
  have q0 : ¬ x0 < (65 : Int32) := own_nlt h1 (by decide)
  have q1 : (90 : Int32) < x0 := own_gt h1 (by decide)
  have q2 : ¬ x0 < (97 : Int32) := own_nlt h1 (by decide)
  have q3 : (122 : Int32) < x0 := own_gt h1 (by decide)
  have q4 : ¬ x0 < (192 : Int32) := own_nlt h1 (by decide)
  have q5 : ¬ (214 : Int32) < x0 := own_ngt h2 (by decide)
  have e_g3_24_x : g3_24 x0 = (1 : Int32) := ((if_neg q4).trans (if_neg q5))
  have e_g3_12_x : g3_12 x0 = (1 : Int32) := ((if_neg q2).trans ((if_pos q3).trans e_g3_24_x))
  have e_g3_0_x : g3_0 x0 = (1 : Int32) := ((if_neg q0).trans ((if_pos q1).trans e_g3_12_x))
  have e_f3_x : f3 x0 = (1 : Int32) := e_g3_0_x
  have e_g2_0_x : g2_0 x0 = (1 : Int32) := (if_neg (by rw [e_f3_x]; decide))
  have e_f2_x : f2 x0 = (1 : Int32) := e_g2_0_x
  have e_g1_0_x : g1_0 x0 = (1 : Int32) := (if_neg (by rw [e_f2_x]; decide))
  have e_f1_x : f1 x0 = (1 : Int32) := e_g1_0_x
  have q6 : ¬ x0 < (128 : Int32) := own_nlt h1 (by decide)
  have q7 : ¬ (65535 : Int32) < x0 := own_ngt h2 (by decide)
  have q8 : ¬ x0 = (183 : Int32) := own_ne1 h1 (by decide)
  have e_g5_0_x_192_214 : g5_0 x0 (192 : Int32) (214 : Int32) = (1 : Int32) := ((if_neg q4).trans (if_neg q5))
  have e_f5_x_192_214 : f5 x0 (192 : Int32) (214 : Int32) = (1 : Int32) := e_g5_0_x_192_214
  have e_g4_0_x : g4_0 x0 = (1 : Int32) := ((if_neg q6).trans ((if_neg q7).trans ((if_neg q8).trans (if_neg (by rw [e_f5_x_192_214]; decide)))))
  have e_f4_x : f4 x0 = (1 : Int32) := e_g4_0_x
  rw [e_f1_x, e_f4_x]
theorem own_iv_26 (x0 : Int32) (h1 : (214 : Int) ≤ x0.toInt) (h2 : x0.toInt < (215 : Int)) : f1 x0 = f4 x0 := by
  have q0 : ¬ x0 < (65 : Int32) := own_nlt h1 (by decide)
  have q1 : (90 : Int32) < x0 := own_gt h1 (by decide)
  have q2 : ¬ x0 < (97 : Int32) := own_nlt h1 (by decide)
  have q3 : (122 : Int32) < x0 := own_gt h1 (by decide)
  have q4 : ¬ x0 < (192 : Int32) := own_nlt h1 (by decide)
  have q5 : ¬ (214 : Int32) < x0 := own_ngt h2 (by decide)
  have e_g3_24_x : g3_24 x0 = (1 : Int32) := ((if_neg q4).trans (if_neg q5))
  have e_g3_12_x : g3_12 x0 = (1 : Int32) := ((if_neg q2).trans ((if_pos q3).trans e_g3_24_x))
  have e_g3_0_x : g3_0 x0 = (1 : Int32) := ((if_neg q0).trans ((if_pos q1).trans e_g3_12_x))
  have e_f3_x : f3 x0 = (1 : Int32) := e_g3_0_x
  have e_g2_0_x : g2_0 x0 = (1 : Int32) := (if_neg (by rw [e_f3_x]; decide))
  have e_f2_x : f2 x0 = (1 : Int32) := e_g2_0_x
  have e_g1_0_x : g1_0 x0 = (1 : Int32) := (if_neg (by rw [e_f2_x]; decide))
  have e_f1_x : f1 x0 = (1 : Int32) := e_g1_0_x
  have q6 : ¬ x0 < (128 : Int32) := own_nlt h1 (by decide)
  have q7 : ¬ (65535 : Int32) < x0 := own_ngt h2 (by decide)
  have q8 : ¬ x0 = (183 : Int32) := own_ne1 h1 (by decide)
  have e_g5_0_x_192_214 : g5_0 x0 (192 : Int32) (214 : Int32) = (1 : Int32) := ((if_neg q4).trans (if_neg q5))
  have e_f5_x_192_214 : f5 x0 (192 : Int32) (214 : Int32) = (1 : Int32) := e_g5_0_x_192_214
  have e_g4_0_x : g4_0 x0 = (1 : Int32) := ((if_neg q6).trans ((if_neg q7).trans ((if_neg q8).trans (if_neg (by rw [e_f5_x_192_214]; decide)))))
  have e_f4_x : f4 x0 = (1 : Int32) := e_g4_0_x
  rw [e_f1_x, e_f4_x]
theorem own_iv_27 (x0 : Int32) (h1 : (215 : Int) ≤ x0.toInt) (h2 : x0.toInt < (216 : Int)) : f1 x0 = f4 x0 := by
  have q0 : ¬ x0 < (65 : Int32) := own_nlt h1 (by decide)
  have q1 : (90 : Int32) < x0 := own_gt h1 (by decide)
  have q2 : ¬ x0 < (97 : Int32) := own_nlt h1 (by decide)
  have q3 : (122 : Int32) < x0 := own_gt h1 (by decide)
  have q4 : ¬ x0 < (192 : Int32) := own_nlt h1 (by decide)
  have q5 : (214 : Int32) < x0 := own_gt h1 (by decide)
  have q6 : x0 < (216 : Int32) := own_lt h2 (by decide)
  have q7 : x0 < (248 : Int32) := own_lt h2 (by decide)
  have q8 : x0 < (880 : Int32) := own_lt h2 (by decide)
  have q9 : x0 < (895 : Int32) := own_lt h2 (by decide)
  have q10 : x0 < (8204 : Int32) := own_lt h2 (by decide)
  have q11 : x0 < (8304 : Int32) := own_lt h2 (by decide)
  have q12 : x0 < (11264 : Int32) := own_lt h2 (by decide)
  have q13 : x0 < (12289 : Int32) := own_lt h2 (by decide)
  have q14 : x0 < (63744 : Int32) := own_lt h2 (by decide)
  have q15 : x0 < (65008 : Int32) := own_lt h2 (by decide)
  have q16 : x0 < (65536 : Int32) := own_lt h2 (by decide)
  have e_g3_178_x : g3_178 x0 = (0 : Int32) := (if_pos q16)
  have e_g3_164_x : g3_164 x0 = (0 : Int32) := ((if_pos q15).trans e_g3_178_x)
  have e_g3_150_x : g3_150 x0 = (0 : Int32) := ((if_pos q14).trans e_g3_164_x)
  have e_g3_136_x : g3_136 x0 = (0 : Int32) := ((if_pos q13).trans e_g3_150_x)
  have e_g3_122_x : g3_122 x0 = (0 : Int32) := ((if_pos q12).trans e_g3_136_x)
  have e_g3_108_x : g3_108 x0 = (0 : Int32) := ((if_pos q11).trans e_g3_122_x)
  have e_g3_94_x : g3_94 x0 = (0 : Int32) := ((if_pos q10).trans e_g3_108_x)
  have e_g3_80_x : g3_80 x0 = (0 : Int32) := ((if_pos q9).trans e_g3_94_x)
  have e_g3_66_x : g3_66 x0 = (0 : Int32) := ((if_pos q8).trans e_g3_80_x)
  have e_g3_52_x : g3_52 x0 = (0 : Int32) := ((if_pos q7).trans e_g3_66_x)
  have e_g3_38_x : g3_38 x0 = (0 : Int32) := ((if_pos q6).trans e_g3_52_x)
  have e_g3_24_x : g3_24 x0 = (0 : Int32) := ((if_neg q4).trans ((if_pos q5).trans e_g3_38_x))
  have e_g3_12_x : g3_12 x0 = (0 : Int32) := ((if_neg q2).trans ((if_pos q3).trans e_g3_24_x))
  have e_g3_0_x : g3_0 x0 = (0 : Int32) := ((if_neg q0).trans ((if_pos q1).trans e_g3_12_x))
  have e_f3_x : f3 x0 = (0 : Int32) := e_g3_0_x
  have q17 : ¬ x0 = (95 : Int32) := own_ne1 h1 (by decide)
  have e_g2_0_x : g2_0 x0 = (0 : Int32) := ((if_pos (by rw [e_f3_x])).trans (if_neg q17))
  have e_f2_x : f2 x0 = (0 : Int32) := e_g2_0_x
  have q18 : ¬ x0 = (45 : Int32) := own_ne1 h1 (by decide)
  have q19 : ¬ x0 < (48 : Int32) := own_nlt h1 (by decide)
  have q20 : (57 : Int32) < x0 := own_gt h1 (by decide)
  have q21 : ¬ x0 = (183 : Int32) := own_ne1 h1 (by decide)
  have q22 : x0 < (768 : Int32) := own_lt h2 (by decide)
  have q23 : ¬ x0 = (8255 : Int32) := own_ne2 h2 (by decide)
  have q24 : ¬ x0 = (8256 : Int32) := own_ne2 h2 (by decide)
  have e_g1_46_x : g1_46 x0 = (0 : Int32) := ((if_neg q23).trans (if_neg q24))
  have e_g1_25_x : g1_25 x0 = (0 : Int32) := ((if_neg q21).trans ((if_pos q22).trans e_g1_46_x))
  have e_g1_0_x : g1_0 x0 = (0 : Int32) := ((if_pos (by rw [e_f2_x])).trans ((if_neg q18).trans ((if_neg q19).trans ((if_pos q20).trans e_g1_25_x))))
  have e_f1_x : f1 x0 = (0 : Int32) := e_g1_0_x
  have q25 : ¬ x0 < (128 : Int32) := own_nlt h1 (by decide)
  have q26 : ¬ (65535 : Int32) < x0 := own_ngt h2 (by decide)
  have e_g5_0_x_192_214 : g5_0 x0 (192 : Int32) (214 : Int32) = (0 : Int32) := ((if_neg q4).trans (if_pos q5))
  have e_f5_x_192_214 : f5 x0 (192 : Int32) (214 : Int32) = (0 : Int32) := e_g5_0_x_192_214
  have e_g5_0_x_216_246 : g5_0 x0 (216 : Int32) (246 : Int32) = (0 : Int32) := (if_pos q6)
  have e_f5_x_216_246 : f5 x0 (216 : Int32) (246 : Int32) = (0 : Int32) := e_g5_0_x_216_246
  have e_g5_0_x_248_893 : g5_0 x0 (248 : Int32) (893 : Int32) = (0 : Int32) := (if_pos q7)
  have e_f5_x_248_893 : f5 x0 (248 : Int32) (893 : Int32) = (0 : Int32) := e_g5_0_x_248_893
  have e_g5_0_x_895_8191 : g5_0 x0 (895 : Int32) (8191 : Int32) = (0 : Int32) := (if_pos q9)
  have e_f5_x_895_8191 : f5 x0 (895 : Int32) (8191 : Int32) = (0 : Int32) := e_g5_0_x_895_8191
  have e_g5_0_x_8204_8205 : g5_0 x0 (8204 : Int32) (8205 : Int32) = (0 : Int32) := (if_pos q10)
  have e_f5_x_8204_8205 : f5 x0 (8204 : Int32) (8205 : Int32) = (0 : Int32) := e_g5_0_x_8204_8205
  have q27 : x0 < (8255 : Int32) := own_lt h2 (by decide)
  have e_g5_0_x_8255_8256 : g5_0 x0 (8255 : Int32) (8256 : Int32) = (0 : Int32) := (if_pos q27)
  have e_f5_x_8255_8256 : f5 x0 (8255 : Int32) (8256 : Int32) = (0 : Int32) := e_g5_0_x_8255_8256
  have e_g5_0_x_8304_8591 : g5_0 x0 (8304 : Int32) (8591 : Int32) = (0 : Int32) := (if_pos q11)
  have e_f5_x_8304_8591 : f5 x0 (8304 : Int32) (8591 : Int32) = (0 : Int32) := e_g5_0_x_8304_8591
  have e_g5_0_x_11264_12271 : g5_0 x0 (11264 : Int32) (12271 : Int32) = (0 : Int32) := (if_pos q12)
  have e_f5_x_11264_12271 : f5 x0 (11264 : Int32) (12271 : Int32) = (0 : Int32) := e_g5_0_x_11264_12271
  have e_g5_0_x_12289_55295 : g5_0 x0 (12289 : Int32) (55295 : Int32) = (0 : Int32) := (if_pos q13)
  have e_f5_x_12289_55295 : f5 x0 (12289 : Int32) (55295 : Int32) = (0 : Int32) := e_g5_0_x_12289_55295
  have e_g5_0_x_63744_64975 : g5_0 x0 (63744 : Int32) (64975 : Int32) = (0 : Int32) := (if_pos q14)
  have e_f5_x_63744_64975 : f5 x0 (63744 : Int32) (64975 : Int32) = (0 : Int32) := e_g5_0_x_63744_64975
  have e_g5_0_x_65008_65533 : g5_0 x0 (65008 : Int32) (65533 : Int32) = (0 : Int32) := (if_pos q15)
  have e_f5_x_65008_65533 : f5 x0 (65008 : Int32) (65533 : Int32) = (0 : Int32) := e_g5_0_x_65008_65533
  have e_g4_0_x : g4_0 x0 = (0 : Int32) := ((if_neg q25).trans ((if_neg q26).trans ((if_neg q21).trans ((if_pos (by rw [e_f5_x_192_214])).trans ((if_pos (by rw [e_f5_x_216_246])).trans ((if_pos (by rw [e_f5_x_248_893])).trans ((if_pos (by rw [e_f5_x_895_8191])).trans ((if_pos (by rw [e_f5_x_8204_8205])).trans ((if_pos (by rw [e_f5_x_8255_8256])).trans ((if_pos (by rw [e_f5_x_8304_8591])).trans ((if_pos (by rw [e_f5_x_11264_12271])).trans ((if_pos (by rw [e_f5_x_12289_55295])).trans ((if_pos (by rw [e_f5_x_63744_64975])).trans (if_pos (by rw [e_f5_x_65008_65533])))))))))))))))
  have e_f4_x : f4 x0 = (0 : Int32) := e_g4_0_x
  rw [e_f1_x, e_f4_x]
theorem own_iv_28 (x0 : Int32) (h1 : (216 : Int) ≤ x0.toInt) (h2 : x0.toInt < (217 : Int)) : f1 x0 = f4 x0 := by
  have q0 : ¬ x0 < (65 : Int32) := own_nlt h1 (by decide)
  have q1 : (90 : Int32) < x0 := own_gt h1 (by decide)
  have q2 : ¬ x0 < (97 : Int32) := own_nlt h1 (by decide)
  have q3 : (122 : Int32) < x0 := own_gt h1 (by decide)
  have q4 : ¬ x0 < (192 : Int32) := own_nlt h1 (by decide)
  have q5 : (214 : Int32) < x0 := own_gt h1 (by decide)
  have q6 : ¬ x0 < (216 : Int32) := own_nlt h1 (by decide)
  have q7 : ¬ (246 : Int32) < x0 := own_ngt h2 (by decide)
  have e_g3_38_x : g3_38 x0 = (1 : Int32) := ((if_neg q6).trans (if_neg q7))
  have e_g3_24_x : g3_24 x0 = (1 : Int32) := ((if_neg q4).trans ((if_pos q5).trans e_g3_38_x))
  have e_g3_12_x : g3_12 x0 = (1 : Int32) := ((if_neg q2).trans ((if_pos q3).trans e_g3_24_x))
  have e_g3_0_x : g3_0 x0 = (1 : Int32) := ((if_neg q0).trans ((if_pos q1).trans e_g3_12_x))
  have e_f3_x : f3 x0 = (1 : Int32) := e_g3_0_x
  have e_g2_0_x : g2_0 x0 = (1 : Int32) := (if_neg (by rw [e_f3_x]; decide))
  have e_f2_x : f2 x0 = (1 : Int32) := e_g2_0_x
  have e_g1_0_x : g1_0 x0 = (1 : Int32) := (if_neg (by rw [e_f2_x]; decide))
  have e_f1_x : f1 x0 = (1 : Int32) := e_g1_0_x
  have q8 : ¬ x0 < (128 : Int32) := own_nlt h1 (by decide)
  have q9 : ¬ (65535 : Int32) < x0 := own_ngt h2 (by decide)
  have q10 : ¬ x0 = (183 : Int32) := own_ne1 h1 (by decide)
  have e_g5_0_x_192_214 : g5_0 x0 (192 : Int32) (214 : Int32) = (0 : Int32) := ((if_neg q4).trans (if_pos q5))
  have e_f5_x_192_214 : f5 x0 (192 : Int32) (214 : Int32) = (0 : Int32) := e_g5_0_x_192_214
  have e_g5_0_x_216_246 : g5_0 x0 (216 : Int32) (246 : Int32) = (1 : Int32) := ((if_neg q6).trans (if_neg q7))
  have e_f5_x_216_246 : f5 x0 (216 : Int32) (246 : Int32) = (1 : Int32) := e_g5_0_x_216_246
  have e_g4_0_x : g4_0 x0 = (1 : Int32) := ((if_neg q8).trans ((if_neg q9).trans ((if_neg q10).trans ((if_pos (by rw [e_f5_x_192_214])).trans (if_neg (by rw [e_f5_x_216_246]; decide))))))
  have e_f4_x : f4 x0 = (1 : Int32) := e_g4_0_x
  rw [e_f1_x, e_f4_x]
theorem own_iv_29 (x0 : Int32) (h1 : (217 : Int) ≤ x0.toInt) (h2 : x0.toInt < (246 : Int)) : f1 x0 = f4 x0 := by
  have q0 : ¬ x0 < (65 : Int32) := own_nlt h1 (by decide)
  have q1 : (90 : Int32) < x0 := own_gt h1 (by decide)
  have q2 : ¬ x0 < (97 : Int32) := own_nlt h1 (by decide)
  have q3 : (122 : Int32) < x0 := own_gt h1 (by decide)
  have q4 : ¬ x0 < (192 : Int32) := own_nlt h1 (by decide)
  have q5 : (214 : Int32) < x0 := own_gt h1 (by decide)
  have q6 : ¬ x0 < (216 : Int32) := own_nlt h1 (by decide)
  have q7 : ¬ (246 : Int32) < x0 := own_ngt h2 (by decide)
  have e_g3_38_x : g3_38 x0 = (1 : Int32) := ((if_neg q6).trans (if_neg q7))
  have e_g3_24_x : g3_24 x0 = (1 : Int32) := ((if_neg q4).trans ((if_pos q5).trans e_g3_38_x))
  have e_g3_12_x : g3_12 x0 = (1 : Int32) := ((if_neg q2).trans ((if_pos q3).trans e_g3_24_x))
  have e_g3_0_x : g3_0 x0 = (1 : Int32) := ((if_neg q0).trans ((if_pos q1).trans e_g3_12_x))
  have e_f3_x : f3 x0 = (1 : Int32) := e_g3_0_x
  have e_g2_0_x : g2_0 x0 = (1 : Int32) := (if_neg (by rw [e_f3_x]; decide))
  have e_f2_x : f2 x0 = (1 : Int32) := e_g2_0_x
  have e_g1_0_x : g1_0 x0 = (1 : Int32) := (if_neg (by rw [e_f2_x]; decide))
  have e_f1_x : f1 x0 = (1 : Int32) := e_g1_0_x
  have q8 : ¬ x0 < (128 : Int32) := own_nlt h1 (by decide)
  have q9 : ¬ (65535 : Int32) < x0 := own_ngt h2 (by decide)
  have q10 : ¬ x0 = (183 : Int32) := own_ne1 h1 (by decide)
  have e_g5_0_x_192_214 : g5_0 x0 (192 : Int32) (214 : Int32) = (0 : Int32) := ((if_neg q4).trans (if_pos q5))
  have e_f5_x_192_214 : f5 x0 (192 : Int32) (214 : Int32) = (0 : Int32) := e_g5_0_x_192_214
  have e_g5_0_x_216_246 : g5_0 x0 (216 : Int32) (246 : Int32) = (1 : Int32) := ((if_neg q6).trans (if_neg q7))
  have e_f5_x_216_246 : f5 x0 (216 : Int32) (246 : Int32) = (1 : Int32) := e_g5_0_x_216_246
  have e_g4_0_x : g4_0 x0 = (1 : Int32) := ((if_neg q8).trans ((if_neg q9).trans ((if_neg q10).trans ((if_pos (by rw [e_f5_x_192_214])).trans (if_neg (by rw [e_f5_x_216_246]; decide))))))
  have e_f4_x : f4 x0 = (1 : Int32) := e_g4_0_x
  rw [e_f1_x, e_f4_x]
theorem own_iv_30 (x0 : Int32) (h1 : (246 : Int) ≤ x0.toInt) (h2 : x0.toInt < (247 : Int)) : f1 x0 = f4 x0 := by
  have q0 : ¬ x0 < (65 : Int32) := own_nlt h1 (by decide)
  have q1 : (90 : Int32) < x0 := own_gt h1 (by decide)
  have q2 : ¬ x0 < (97 : Int32) := own_nlt h1 (by decide)
  have q3 : (122 : Int32) < x0 := own_gt h1 (by decide)
  have q4 : ¬ x0 < (192 : Int32) := own_nlt h1 (by decide)
  have q5 : (214 : Int32) < x0 := own_gt h1 (by decide)
  have q6 : ¬ x0 < (216 : Int32) := own_nlt h1 (by decide)
  have q7 : ¬ (246 : Int32) < x0 := own_ngt h2 (by decide)
  have e_g3_38_x : g3_38 x0 = (1 : Int32) := ((if_neg q6).trans (if_neg q7))
  have e_g3_24_x : g3_24 x0 = (1 : Int32) := ((if_neg q4).trans ((if_pos q5).trans e_g3_38_x))
  have e_g3_12_x : g3_12 x0 = (1 : Int32) := ((if_neg q2).trans ((if_pos q3).trans e_g3_24_x))
  have e_g3_0_x : g3_0 x0 = (1 : Int32) := ((if_neg q0).trans ((if_pos q1).trans e_g3_12_x))
  have e_f3_x : f3 x0 = (1 : Int32) := e_g3_0_x
  have e_g2_0_x : g2_0 x0 = (1 : Int32) := (if_neg (by rw [e_f3_x]; decide))
  have e_f2_x : f2 x0 = (1 : Int32) := e_g2_0_x
  have e_g1_0_x : g1_0 x0 = (1 : Int32) := (if_neg (by rw [e_f2_x]; decide))
  have e_f1_x : f1 x0 = (1 : Int32) := e_g1_0_x
  have q8 : ¬ x0 < (128 : Int32) := own_nlt h1 (by decide)
  have q9 : ¬ (65535 : Int32) < x0 := own_ngt h2 (by decide)
  have q10 : ¬ x0 = (183 : Int32) := own_ne1 h1 (by decide)
  have e_g5_0_x_192_214 : g5_0 x0 (192 : Int32) (214 : Int32) = (0 : Int32) := ((if_neg q4).trans (if_pos q5))
  have e_f5_x_192_214 : f5 x0 (192 : Int32) (214 : Int32) = (0 : Int32) := e_g5_0_x_192_214
  have e_g5_0_x_216_246 : g5_0 x0 (216 : Int32) (246 : Int32) = (1 : Int32) := ((if_neg q6).trans (if_neg q7))
  have e_f5_x_216_246 : f5 x0 (216 : Int32) (246 : Int32) = (1 : Int32) := e_g5_0_x_216_246
  have e_g4_0_x : g4_0 x0 = (1 : Int32) := ((if_neg q8).trans ((if_neg q9).trans ((if_neg q10).trans ((if_pos (by rw [e_f5_x_192_214])).trans (if_neg (by rw [e_f5_x_216_246]; decide))))))
  have e_f4_x : f4 x0 = (1 : Int32) := e_g4_0_x
  rw [e_f1_x, e_f4_x]
theorem own_iv_31 (x0 : Int32) (h1 : (247 : Int) ≤ x0.toInt) (h2 : x0.toInt < (248 : Int)) : f1 x0 = f4 x0 := by
  have q0 : ¬ x0 < (65 : Int32) := own_nlt h1 (by decide)
  have q1 : (90 : Int32) < x0 := own_gt h1 (by decide)
  have q2 : ¬ x0 < (97 : Int32) := own_nlt h1 (by decide)
  have q3 : (122 : Int32) < x0 := own_gt h1 (by decide)
  have q4 : ¬ x0 < (192 : Int32) := own_nlt h1 (by decide)
  have q5 : (214 : Int32) < x0 := own_gt h1 (by decide)
  have q6 : ¬ x0 < (216 : Int32) := own_nlt h1 (by decide)
  have q7 : (246 : Int32) < x0 := own_gt h1 (by decide)
  have q8 : x0 < (248 : Int32) := own_lt h2 (by decide)
  have q9 : x0 < (880 : Int32) := own_lt h2 (by decide)
  have q10 : x0 < (895 : Int32) := own_lt h2 (by decide)
  have q11 : x0 < (8204 : Int32) := own_lt h2 (by decide)
  have q12 : x0 < (8304 : Int32) := own_lt h2 (by decide)
  have q13 : x0 < (11264 : Int32) := own_lt h2 (by decide)
  have q14 : x0 < (12289 : Int32) := own_lt h2 (by decide)
  have q15 : x0 < (63744 : Int32) := own_lt h2 (by decide)
  have q16 : x0 < (65008 : Int32) := own_lt h2 (by decide)
  have q17 : x0 < (65536 : Int32) := own_lt h2 (by decide)
  have e_g3_178_x : g3_178 x0 = (0 : Int32) := (if_pos q17)
  have e_g3_164_x : g3_164 x0 = (0 : Int32) := ((if_pos q16).trans e_g3_178_x)
  have e_g3_150_x : g3_150 x0 = (0 : Int32) := ((if_pos q15).trans e_g3_164_x)
  have e_g3_136_x : g3_136 x0 = (0 : Int32) := ((if_pos q14).trans e_g3_150_x)
  have e_g3_122_x : g3_122 x0 = (0 : Int32) := ((if_pos q13).trans e_g3_136_x)
  have e_g3_108_x : g3_108 x0 = (0 : Int32) := ((if_pos q12).trans e_g3_122_x)
  have e_g3_94_x : g3_94 x0 = (0 : Int32) := ((if_pos q11).trans e_g3_108_x)
  have e_g3_80_x : g3_80 x0 = (0 : Int32) := ((if_pos q10).trans e_g3_94_x)
  have e_g3_66_x : g3_66 x0 = (0 : Int32) := ((if_pos q9).trans e_g3_80_x)
  have e_g3_52_x : g3_52 x0 = (0 : Int32) := ((if_pos q8).trans e_g3_66_x)
  have e_g3_38_x : g3_38 x0 = (0 : Int32) := ((if_neg q6).trans ((if_pos q7).trans e_g3_52_x))
  have e_g3_24_x : g3_24 x0 = (0 : Int32) := ((if_neg q4).trans ((if_pos q5).trans e_g3_38_x))
  have e_g3_12_x : g3_12 x0 = (0 : Int32) := ((if_neg q2).trans ((if_pos q3).trans e_g3_24_x))
  have e_g3_0_x : g3_0 x0 = (0 : Int32) := ((if_neg q0).trans ((if_pos q1).trans e_g3_12_x))
  have e_f3_x : f3 x0 = (0 : Int32) := e_g3_0_x
  have q18 : ¬ x0 = (95 : Int32) := own_ne1 h1 (by decide)
  have e_g2_0_x : g2_0 x0 = (0 : Int32) := ((if_pos (by rw [e_f3_x])).trans (if_neg q18))
  have e_f2_x : f2 x0 = (0 : Int32) := e_g2_0_x
  have q19 : ¬ x0 = (45 : Int32) := own_ne1 h1 (by decide)
  have q20 : ¬ x0 < (48 : Int32) := own_nlt h1 (by decide)
  have q21 : (57 : Int32) < x0 := own_gt h1 (by decide)
  have q22 : ¬ x0 = (183 : Int32) := own_ne1 h1 (by decide)
  have q23 : x0 < (768 : Int32) := own_lt h2 (by decide)
  have q24 : ¬ x0 = (8255 : Int32) := own_ne2 h2 (by decide)
  have q25 : ¬ x0 = (8256 : Int32) := own_ne2 h2 (by decide)
  have e_g1_46_x : g1_46 x0 = (0 : Int32) := ((if_neg q24).trans (if_neg q25))
  have e_g1_25_x : g1_25 x0 = (0 : Int32) := ((if_neg q22).trans ((if_pos q23).trans e_g1_46_x))
  have e_g1_0_x : g1_0 x0 = (0 : Int32) := ((if_pos (by rw [e_f2_x])).trans ((if_neg q19).trans ((if_neg q20).trans ((if_pos q21).trans e_g1_25_x))))
  have e_f1_x : f1 x0 = (0 : Int32) := e_g1_0_x
  have q26 : ¬ x0 < (128 : Int32) := own_nlt h1 (by decide)
  have q27 : ¬ (65535 : Int32) < x0 := own_ngt h2 (by decide)
  have e_g5_0_x_192_214 : g5_0 x0 (192 : Int32) (214 : Int32) = (0 : Int32) := ((if_neg q4).trans (if_pos q5))
  have e_f5_x_192_214 : f5 x0 (192 : Int32) (214 : Int32) = (0 : Int32) := e_g5_0_x_192_214
  have e_g5_0_x_216_246 : g5_0 x0 (216 : Int32) (246 : Int32) = (0 : Int32) := ((if_neg q6).trans (if_pos q7))
  have e_f5_x_216_246 : f5 x0 (216 : Int32) (246 : Int32) = (0 : Int32) := e_g5_0_x_216_246
  have e_g5_0_x_248_893 : g5_0 x0 (248 : Int32) (893 : Int32) = (0 : Int32) := (if_pos q8)
  have e_f5_x_248_893 : f5 x0 (248 : Int32) (893 : Int32) = (0 : Int32) := e_g5_0_x_248_893
  have e_g5_0_x_895_8191 : g5_0 x0 (895 : Int32) (8191 : Int32) = (0 : Int32) := (if_pos q10)
  have e_f5_x_895_8191 : f5 x0 (895 : Int32) (8191 : Int32) = (0 : Int32) := e_g5_0_x_895_8191
  have e_g5_0_x_8204_8205 : g5_0 x0 (8204 : Int32) (8205 : Int32) = (0 : Int32) := (if_pos q11)
  have e_f5_x_8204_8205 : f5 x0 (8204 : Int32) (8205 : Int32) = (0 : Int32) := e_g5_0_x_8204_8205
  have q28 : x0 < (8255 : Int32) := own_lt h2 (by decide)
  have e_g5_0_x_8255_8256 : g5_0 x0 (8255 : Int32) (8256 : Int32) = (0 : Int32) := (if_pos q28)
  have e_f5_x_8255_8256 : f5 x0 (8255 : Int32) (8256 : Int32) = (0 : Int32) := e_g5_0_x_8255_8256
  have e_g5_0_x_8304_8591 : g5_0 x0 (8304 : Int32) (8591 : Int32) = (0 : Int32) := (if_pos q12)
  have e_f5_x_8304_8591 : f5 x0 (8304 : Int32) (8591 : Int32) = (0 : Int32) := e_g5_0_x_8304_8591
  have e_g5_0_x_11264_12271 : g5_0 x0 (11264 : Int32) (12271 : Int32) = (0 : Int32) := (if_pos q13)
  have e_f5_x_11264_12271 : f5 x0 (11264 : Int32) (12271 : Int32) = (0 : Int32) := e_g5_0_x_11264_12271
  have e_g5_0_x_12289_55295 : g5_0 x0 (12289 : Int32) (55295 : Int32) = (0 : Int32) := (if_pos q14)
  have e_f5_x_12289_55295 : f5 x0 (12289 : Int32) (55295 : Int32) = (0 : Int32) := e_g5_0_x_12289_55295
  have e_g5_0_x_63744_64975 : g5_0 x0 (63744 : Int32) (64975 : Int32) = (0 : Int32) := (if_pos q15)
  have e_f5_x_63744_64975 : f5 x0 (63744 : Int32) (64975 : Int32) = (0 : Int32) := e_g5_0_x_63744_64975
  have e_g5_0_x_65008_65533 : g5_0 x0 (65008 : Int32) (65533 : Int32) = (0 : Int32) := (if_pos q16)
  have e_f5_x_65008_65533 : f5 x0 (65008 : Int32) (65533 : Int32) = (0 : Int32) := e_g5_0_x_65008_65533
  have e_g4_0_x : g4_0 x0 = (0 : Int32) := ((if_neg q26).trans ((if_neg q27).trans ((if_neg q22).trans ((if_pos (by rw [e_f5_x_192_214])).trans ((if_pos (by rw [e_f5_x_216_246])).trans ((if_pos (by rw [e_f5_x_248_893])).trans ((if_pos (by rw [e_f5_x_895_8191])).trans ((if_pos (by rw [e_f5_x_8204_8205])).trans ((if_pos (by rw [e_f5_x_8255_8256])).trans ((if_pos (by rw [e_f5_x_8304_8591])).trans ((if_pos (by rw [e_f5_x_11264_12271])).trans ((if_pos (by rw [e_f5_x_12289_55295])).trans ((if_pos (by rw [e_f5_x_63744_64975])).trans (if_pos (by rw [e_f5_x_65008_65533])))))))))))))))
  have e_f4_x : f4 x0 = (0 : Int32) := e_g4_0_x
  rw [e_f1_x, e_f4_x]
theorem own_iv_32 (x0 : Int32) (h1 : (248 : Int) ≤ x0.toInt) (h2 : x0.toInt < (249 : Int)) : f1 x0 = f4 x0 := by
  have q0 : ¬ x0 < (65 : Int32) := own_nlt h1 (by decide)
  have q1 : (90 : Int32) < x0 := own_gt h1 (by decide)
  have q2 : ¬ x0 < (97 : Int32) := own_nlt h1 (by decide)
  have q3 : (122 : Int32) < x0 := own_gt h1 (by decide)
  have q4 : ¬ x0 < (192 : Int32) := own_nlt h1 (by decide)
  have q5 : (214 : Int32) < x0 := own_gt h1 (by decide)
  have q6 : ¬ x0 < (216 : Int32) := own_nlt h1 (by decide)
  have q7 : (246 : Int32) < x0 := own_gt h1 (by decide)
  have q8 : ¬ x0 < (248 : Int32) := own_nlt h1 (by decide)
  have q9 : ¬ (767 : Int32) < x0 := own_ngt h2 (by decide)
  have e_g3_52_x : g3_52 x0 = (1 : Int32) := ((if_neg q8).trans (if_neg q9))
  have e_g3_38_x : g3_38 x0 = (1 : Int32) := ((if_neg q6).trans ((if_pos q7).trans e_g3_52_x))
  have e_g3_24_x : g3_24 x0 = (1 : Int32) := ((if_neg q4).trans ((if_pos q5).trans e_g3_38_x))
  have e_g3_12_x : g3_12 x0 = (1 : Int32) := ((if_neg q2).trans ((if_pos q3).trans e_g3_24_x))
  have e_g3_0_x : g3_0 x0 = (1 : Int32) := ((if_neg q0).trans ((if_pos q1).trans e_g3_12_x))
  have e_f3_x : f3 x0 = (1 : Int32) := e_g3_0_x
  have e_g2_0_x : g2_0 x0 = (1 : Int32) := (if_neg (by rw [e_f3_x]; decide))
  have e_f2_x : f2 x0 = (1 : Int32) := e_g2_0_x
  have e_g1_0_x : g1_0 x0 = (1 : Int32) := (if_neg (by rw [e_f2_x]; decide))
  have e_f1_x : f1 x0 = (1 : Int32) := e_g1_0_x
  have q10 : ¬ x0 < (128 : Int32) := own_nlt h1 (by decide)
  have q11 : ¬ (65535 : Int32) < x0 := own_ngt h2 (by decide)
  have q12 : ¬ x0 = (183 : Int32) := own_ne1 h1 (by decide)
  have e_g5_0_x_192_214 : g5_0 x0 (192 : Int32) (214 : Int32) = (0 : Int32) := ((if_neg q4).trans (if_pos q5))
  have e_f5_x_192_214 : f5 x0 (192 : Int32) (214 : Int32) = (0 : Int32) := e_g5_0_x_192_214
  have e_g5_0_x_216_246 : g5_0 x0 (216 : Int32) (246 : Int32) = (0 : Int32) := ((if_neg q6).trans (if_pos q7))
  have e_f5_x_216_246 : f5 x0 (216 : Int32) (246 : Int32) = (0 : Int32) := e_g5_0_x_216_246
  have q13 : ¬ (893 : Int32) < x0 := own_ngt h2 (by decide)
  have e_g5_0_x_248_893 : g5_0 x0 (248 : Int32) (893 : Int32) = (1 : Int32) := ((if_neg q8).trans (if_neg q13))
  have e_f5_x_248_893 : f5 x0 (248 : Int32) (893 : Int32) = (1 : Int32) := e_g5_0_x_248_893
  have e_g4_0_x : g4_0 x0 = (1 : Int32) := ((if_neg q10).trans ((if_neg q11).trans ((if_neg q12).trans ((if_pos (by rw [e_f5_x_192_214])).trans ((if_pos (by rw [e_f5_x_216_246])).trans (if_neg (by rw [e_f5_x_248_893]; decide)))))))
  have e_f4_x : f4 x0 = (1 : Int32) := e_g4_0_x
  rw [e_f1_x, e_f4_x]
theorem own_iv_33 (x0 : Int32) (h1 : (249 : Int) ≤ x0.toInt) (h2 : x0.toInt < (767 : Int)) : f1 x0 = f4 x0 := by
  have q0 : ¬ x0 < (65 : Int32) := own_nlt h1 (by decide)
  have q1 : (90 : Int32) < x0 := own_gt h1 (by decide)
  have q2 : ¬ x0 < (97 : Int32) := own_nlt h1 (by decide)
  have q3 : (122 : Int32) < x0 := own_gt h1 (by decide)
  have q4 : ¬ x0 < (192 : Int32) := own_nlt h1 (by decide)
  have q5 : (214 : Int32) < x0 := own_gt h1 (by decide)
  have q6 : ¬ x0 < (216 : Int32) := own_nlt h1 (by decide)
  have q7 : (246 : Int32) < x0 := own_gt h1 (by decide)
  have q8 : ¬ x0 < (248 : Int32) := own_nlt h1 (by decide)
  have q9 : ¬ (767 : Int32) < x0 := own_ngt h2 (by decide)
  have e_g3_52_x : g3_52 x0 = (1 : Int32) := ((if_neg q8).trans (if_neg q9))
  have e_g3_38_x : g3_38 x0 = (1 : Int32) := ((if_neg q6).trans ((if_pos q7).trans e_g3_52_x))
  have e_g3_24_x : g3_24 x0 = (1 : Int32) := ((if_neg q4).trans ((if_pos q5).trans e_g3_38_x))
  have e_g3_12_x : g3_12 x0 = (1 : Int32) := ((if_neg q2).trans ((if_pos q3).trans e_g3_24_x))
  have e_g3_0_x : g3_0 x0 = (1 : Int32) := ((if_neg q0).trans ((if_pos q1).trans e_g3_12_x))
  have e_f3_x : f3 x0 = (1 : Int32) := e_g3_0_x
  have e_g2_0_x : g2_0 x0 = (1 : Int32) := (if_neg (by rw [e_f3_x]; decide))
  have e_f2_x : f2 x0 = (1 : Int32) := e_g2_0_x
  have e_g1_0_x : g1_0 x0 = (1 : Int32) := (if_neg (by rw [e_f2_x]; decide))
  have e_f1_x : f1 x0 = (1 : Int32) := e_g1_0_x
  have q10 : ¬ x0 < (128 : Int32) := own_nlt h1 (by decide)
  have q11 : ¬ (65535 : Int32) < x0 := own_ngt h2 (by decide)
  have q12 : ¬ x0 = (183 : Int32) := own_ne1 h1 (by decide)
  have e_g5_0_x_192_214 : g5_0 x0 (192 : Int32) (214 : Int32) = (0 : Int32) := ((if_neg q4).trans (if_pos q5))
  have e_f5_x_192_214 : f5 x0 (192 : Int32) (214 : Int32) = (0 : Int32) := e_g5_0_x_192_214
  have e_g5_0_x_216_246 : g5_0 x0 (216 : Int32) (246 : Int32) = (0 : Int32) := ((if_neg q6).trans (if_pos q7))
  have e_f5_x_216_246 : f5 x0 (216 : Int32) (246 : Int32) = (0 : Int32) := e_g5_0_x_216_246
  have q13 : ¬ (893 : Int32) < x0 := own_ngt h2 (by decide)
  have e_g5_0_x_248_893 : g5_0 x0 (248 : Int32) (893 : Int32) = (1 : Int32) := ((if_neg q8).trans (if_neg q13))
  have e_f5_x_248_893 : f5 x0 (248 : Int32) (893 : Int32) = (1 : Int32) := e_g5_0_x_248_893
  have e_g4_0_x : g4_0 x0 = (1 : Int32) := ((if_neg q10).trans ((if_neg q11).trans ((if_neg q12).trans ((if_pos (by rw [e_f5_x_192_214])).trans ((if_pos (by rw [e_f5_x_216_246])).trans (if_neg (by rw [e_f5_x_248_893]; decide)))))))
  have e_f4_x : f4 x0 = (1 : Int32) := e_g4_0_x
  rw [e_f1_x, e_f4_x]
theorem own_iv_34 (x0 : Int32) (h1 : (767 : Int) ≤ x0.toInt) (h2 : x0.toInt < (768 : Int)) : f1 x0 = f4 x0 := by
  have q0 : ¬ x0 < (65 : Int32) := own_nlt h1 (by decide)
  have q1 : (90 : Int32) < x0 := own_gt h1 (by decide)
  have q2 : ¬ x0 < (97 : Int32) := own_nlt h1 (by decide)
  have q3 : (122 : Int32) < x0 := own_gt h1 (by decide)
  have q4 : ¬ x0 < (192 : Int32) := own_nlt h1 (by decide)
  have q5 : (214 : Int32) < x0 := own_gt h1 (by decide)
  have q6 : ¬ x0 < (216 : Int32) := own_nlt h1 (by decide)
  have q7 : (246 : Int32) < x0 := own_gt h1 (by decide)
  have q8 : ¬ x0 < (248 : Int32) := own_nlt h1 (by decide)
  have q9 : ¬ (767 : Int32) < x0 := own_ngt h2 (by decide)
  have e_g3_52_x : g3_52 x0 = (1 : Int32) := ((if_neg q8).trans (if_neg q9))
  have e_g3_38_x : g3_38 x0 = (1 : Int32) := ((if_neg q6).trans ((if_pos q7).trans e_g3_52_x))
  have e_g3_24_x : g3_24 x0 = (1 : Int32) := ((if_neg q4).trans ((if_pos q5).trans e_g3_38_x))
  have e_g3_12_x : g3_12 x0 = (1 : Int32) := ((if_neg q2).trans ((if_pos q3).trans e_g3_24_x))
  have e_g3_0_x : g3_0 x0 = (1 : Int32) := ((if_neg q0).trans ((if_pos q1).trans e_g3_12_x))
  have e_f3_x : f3 x0 = (1 : Int32) := e_g3_0_x
  have e_g2_0_x : g2_0 x0 = (1 : Int32) := (if_neg (by rw [e_f3_x]; decide))
  have e_f2_x : f2 x0 = (1 : Int32) := e_g2_0_x
  have e_g1_0_x : g1_0 x0 = (1 : Int32) := (if_neg (by rw [e_f2_x]; decide))
  have e_f1_x : f1 x0 = (1 : Int32) := e_g1_0_x
  have q10 : ¬ x0 < (128 : Int32) := own_nlt h1 (by decide)
  have q11 : ¬ (65535 : Int32) < x0 := own_ngt h2 (by decide)
  have q12 : ¬ x0 = (183 : Int32) := own_ne1 h1 (by decide)
  have e_g5_0_x_192_214 : g5_0 x0 (192 : Int32) (214 : Int32) = (0 : Int32) := ((if_neg q4).trans (if_pos q5))
  have e_f5_x_192_214 : f5 x0 (192 : Int32) (214 : Int32) = (0 : Int32) := e_g5_0_x_192_214
  have e_g5_0_x_216_246 : g5_0 x0 (216 : Int32) (246 : Int32) = (0 : Int32) := ((if_neg q6).trans (if_pos q7))
  have e_f5_x_216_246 : f5 x0 (216 : Int32) (246 : Int32) = (0 : Int32) := e_g5_0_x_216_246
  have q13 : ¬ (893 : Int32) < x0 := own_ngt h2 (by decide)
  have e_g5_0_x_248_893 : g5_0 x0 (248 : Int32) (893 : Int32) = (1 : Int32) := ((if_neg q8).trans (if_neg q13))
  have e_f5_x_248_893 : f5 x0 (248 : Int32) (893 : Int32) = (1 : Int32) := e_g5_0_x_248_893
  have e_g4_0_x : g4_0 x0 = (1 : Int32) := ((if_neg q10).trans ((if_neg q11).trans ((if_neg q12).trans ((if_pos (by rw [e_f5_x_192_214])).trans ((if_pos (by rw [e_f5_x_216_246])).trans (if_neg (by rw [e_f5_x_248_893]; decide)))))))
  have e_f4_x : f4 x0 = (1 : Int32) := e_g4_0_x
  rw [e_f1_x, e_f4_x]
theorem own_iv_35 (x0 : Int32) (h1 : (768 : Int) ≤ x0.toInt) (h2 : x0.toInt < (769 : Int)) : f1 x0 = f4 x0 := by
  have q0 : ¬ x0 < (65 : Int32) := own_nlt h1 (by decide)
  have q1 : (90 : Int32) < x0 := own_gt h1 (by decide)
  have q2 : ¬ x0 < (97 : Int32) := own_nlt h1 (by decide)
  have q3 : (122 : Int32) < x0 := own_gt h1 (by decide)
  have q4 : ¬ x0 < (192 : Int32) := own_nlt h1 (by decide)
  have q5 : (214 : Int32) < x0 := own_gt h1 (by decide)
  have q6 : ¬ x0 < (216 : Int32) := own_nlt h1 (by decide)
  have q7 : (246 : Int32) < x0 := own_gt h1 (by decide)
  have q8 : ¬ x0 < (248 : Int32) := own_nlt h1 (by decide)
  have q9 : (767 : Int32) < x0 := own_gt h1 (by decide)
  have q10 : x0 < (880 : Int32) := own_lt h2 (by decide)
  have q11 : x0 < (895 : Int32) := own_lt h2 (by decide)
  have q12 : x0 < (8204 : Int32) := own_lt h2 (by decide)
  have q13 : x0 < (8304 : Int32) := own_lt h2 (by decide)
  have q14 : x0 < (11264 : Int32) := own_lt h2 (by decide)
  have q15 : x0 < (12289 : Int32) := own_lt h2 (by decide)
  have q16 : x0 < (63744 : Int32) := own_lt h2 (by decide)
  have q17 : x0 < (65008 : Int32) := own_lt h2 (by decide)
  have q18 : x0 < (65536 : Int32) := own_lt h2 (by decide)
  have e_g3_178_x : g3_178 x0 = (0 : Int32) := (if_pos q18)
  have e_g3_164_x : g3_164 x0 = (0 : Int32) := ((if_pos q17).trans e_g3_178_x)
  have e_g3_150_x : g3_150 x0 = (0 : Int32) := ((if_pos q16).trans e_g3_164_x)
  have e_g3_136_x : g3_136 x0 = (0 : Int32) := ((if_pos q15).trans e_g3_150_x)
  have e_g3_122_x : g3_122 x0 = (0 : Int32) := ((if_pos q14).trans e_g3_136_x)
  have e_g3_108_x : g3_108 x0 = (0 : Int32) := ((if_pos q13).trans e_g3_122_x)
  have e_g3_94_x : g3_94 x0 = (0 : Int32) := ((if_pos q12).trans e_g3_108_x)
  have e_g3_80_x : g3_80 x0 = (0 : Int32) := ((if_pos q11).trans e_g3_94_x)
  have e_g3_66_x : g3_66 x0 = (0 : Int32) := ((if_pos q10).trans e_g3_80_x)
  have e_g3_52_x : g3_52 x0 = (0 : Int32) := ((if_neg q8).trans ((if_pos q9).trans e_g3_66_x))
  have e_g3_38_x : g3_38 x0 = (0 : Int32) := ((if_neg q6).trans ((if_pos q7).trans e_g3_52_x))
  have e_g3_24_x : g3_24 x0 = (0 : Int32) := ((if_neg q4).trans ((if_pos q5).trans e_g3_38_x))
  have e_g3_12_x : g3_12 x0 = (0 : Int32) := ((if_neg q2).trans ((if_pos q3).trans e_g3_24_x))
  have e_g3_0_x : g3_0 x0 = (0 : Int32) := ((if_neg q0).trans ((if_pos q1).trans e_g3_12_x))
  have e_f3_x : f3 x0 = (0 : Int32) := e_g3_0_x
  have q19 : ¬ x0 = (95 : Int32) := own_ne1 h1 (by decide)
  have e_g2_0_x : g2_0 x0 = (0 : Int32) := ((if_pos (by rw [e_f3_x])).trans (if_neg q19))
  have e_f2_x : f2 x0 = (0 : Int32) := e_g2_0_x
  have q20 : ¬ x0 = (45 : Int32) := own_ne1 h1 (by decide)
  have q21 : ¬ x0 < (48 : Int32) := own_nlt h1 (by decide)
  have q22 : (57 : Int32) < x0 := own_gt h1 (by decide)
  have q23 : ¬ x0 = (183 : Int32) := own_ne1 h1 (by decide)
  have q24 : ¬ x0 < (768 : Int32) := own_nlt h1 (by decide)
  have q25 : ¬ (879 : Int32) < x0 := own_ngt h2 (by decide)
  have e_g1_25_x : g1_25 x0 = (1 : Int32) := ((if_neg q23).trans ((if_neg q24).trans (if_neg q25)))
  have e_g1_0_x : g1_0 x0 = (1 : Int32) := ((if_pos (by rw [e_f2_x])).trans ((if_neg q20).trans ((if_neg q21).trans ((if_pos q22).trans e_g1_25_x))))
  have e_f1_x : f1 x0 = (1 : Int32) := e_g1_0_x
  have q26 : ¬ x0 < (128 : Int32) := own_nlt h1 (by decide)
  have q27 : ¬ (65535 : Int32) < x0 := own_ngt h2 (by decide)
  have e_g5_0_x_192_214 : g5_0 x0 (192 : Int32) (214 : Int32) = (0 : Int32) := ((if_neg q4).trans (if_pos q5))
  have e_f5_x_192_214 : f5 x0 (192 : Int32) (214 : Int32) = (0 : Int32) := e_g5_0_x_192_214
  have e_g5_0_x_216_246 : g5_0 x0 (216 : Int32) (246 : Int32) = (0 : Int32) := ((if_neg q6).trans (if_pos q7))
  have e_f5_x_216_246 : f5 x0 (216 : Int32) (246 : Int32) = (0 : Int32) := e_g5_0_x_216_246
  have q28 : ¬ (893 : Int32) < x0 := own_ngt h2 (by decide)
  have e_g5_0_x_248_893 : g5_0 x0 (248 : Int32) (893 : Int32) = (1 : Int32) := ((if_neg q8).trans (if_neg q28))
  have e_f5_x_248_893 : f5 x0 (248 : Int32) (893 : Int32) = (1 : Int32) := e_g5_0_x_248_893
  have e_g4_0_x : g4_0 x0 = (1 : Int32) := ((if_neg q26).trans ((if_neg q27).trans ((if_neg q23).trans ((if_pos (by rw [e_f5_x_192_214])).trans ((if_pos (by rw [e_f5_x_216_246])).trans (if_neg (by rw [e_f5_x_248_893]; decide)))))))
  have e_f4_x : f4 x0 = (1 : Int32) := e_g4_0_x
  rw [e_f1_x, e_f4_x]
theorem own_iv_36 (x0 : Int32) (h1 : (769 : Int) ≤ x0.toInt) (h2 : x0.toInt < (879 : Int)) : f1 x0 = f4 x0 := by
  have q0 : ¬ x0 < (65 : Int32) := own_nlt h1 (by decide)
  have q1 : (90 : Int32) < x0 := own_gt h1 (by decide)
  have q2 : ¬ x0 < (97 : Int32) := own_nlt h1 (by decide)
  have q3 : (122 : Int32) < x0 := own_gt h1 (by decide)
  have q4 : ¬ x0 < (192 : Int32) := own_nlt h1 (by decide)
  have q5 : (214 : Int32) < x0 := own_gt h1 (by decide)
  have q6 : ¬ x0 < (216 : Int32) := own_nlt h1 (by decide)
  have q7 : (246 : Int32) < x0 := own_gt h1 (by decide)
  have q8 : ¬ x0 < (248 : Int32) := own_nlt h1 (by decide)
  have q9 : (767 : Int32) < x0 := own_gt h1 (by decide)
  have q10 : x0 < (880 : Int32) := own_lt h2 (by decide)
  have q11 : x0 < (895 : Int32) := own_lt h2 (by decide)
  have q12 : x0 < (8204 : Int32) := own_lt h2 (by decide)
  have q13 : x0 < (8304 : Int32) := own_lt h2 (by decide)
  have q14 : x0 < (11264 : Int32) := own_lt h2 (by decide)
  have q15 : x0 < (12289 : Int32) := own_lt h2 (by decide)
  have q16 : x0 < (63744 : Int32) := own_lt h2 (by decide)
  have q17 : x0 < (65008 : Int32) := own_lt h2 (by decide)
  have q18 : x0 < (65536 : Int32) := own_lt h2 (by decide)
  have e_g3_178_x : g3_178 x0 = (0 : Int32) := (if_pos q18)
  have e_g3_164_x : g3_164 x0 = (0 : Int32) := ((if_pos q17).trans e_g3_178_x)
  have e_g3_150_x : g3_150 x0 = (0 : Int32) := ((if_pos q16).trans e_g3_164_x)
  have e_g3_136_x : g3_136 x0 = (0 : Int32) := ((if_pos q15).trans e_g3_150_x)
  have e_g3_122_x : g3_122 x0 = (0 : Int32) := ((if_pos q14).trans e_g3_136_x)
  have e_g3_108_x : g3_108 x0 = (0 : Int32) := ((if_pos q13).trans e_g3_122_x)
  have e_g3_94_x : g3_94 x0 = (0 : Int32) := ((if_pos q12).trans e_g3_108_x)
  have e_g3_80_x : g3_80 x0 = (0 : Int32) := ((if_pos q11).trans e_g3_94_x)
  have e_g3_66_x : g3_66 x0 = (0 : Int32) := ((if_pos q10).trans e_g3_80_x)
  have e_g3_52_x : g3_52 x0 = (0 : Int32) := ((if_neg q8).trans ((if_pos q9).trans e_g3_66_x))
  have e_g3_38_x : g3_38 x0 = (0 : Int32) := ((if_neg q6).trans ((if_pos q7).trans e_g3_52_x))
  have e_g3_24_x : g3_24 x0 = (0 : Int32) := ((if_neg q4).trans ((if_pos q5).trans e_g3_38_x))
  have e_g3_12_x : g3_12 x0 = (0 : Int32) := ((if_neg q2).trans ((if_pos q3).trans e_g3_24_x))
  have e_g3_0_x : g3_0 x0 = (0 : Int32) := ((if_neg q0).trans ((if_pos q1).trans e_g3_12_x))
  have e_f3_x : f3 x0 = (0 : Int32) := e_g3_0_x
  have q19 : ¬ x0 = (95 : Int32) := own_ne1 h1 (by decide)
  have e_g2_0_x : g2_0 x0 = (0 : Int32) := ((if_pos (by rw [e_f3_x])).trans (if_neg q19))
  have e_f2_x : f2 x0 = (0 : Int32) := e_g2_0_x
  have q20 : ¬ x0 = (45 : Int32) := own_ne1 h1 (by decide)
  have q21 : ¬ x0 < (48 : Int32) := own_nlt h1 (by decide)
  have q22 : (57 : Int32) < x0 := own_gt h1 (by decide)
  have q23 : ¬ x0 = (183 : Int32) := own_ne1 h1 (by decide)
  have q24 : ¬ x0 < (768 : Int32) := own_nlt h1 (by decide)
  have q25 : ¬ (879 : Int32) < x0 := own_ngt h2 (by decide)
  have e_g1_25_x : g1_25 x0 = (1 : Int32) := ((if_neg q23).trans ((if_neg q24).trans (if_neg q25)))
  have e_g1_0_x : g1_0 x0 = (1 : Int32) := ((if_pos (by rw [e_f2_x])).trans ((if_neg q20).trans ((if_neg q21).trans ((if_pos q22).trans e_g1_25_x))))
  have e_f1_x : f1 x0 = (1 : Int32) := e_g1_0_x
  have q26 : ¬ x0 < (128 : Int32) := own_nlt h1 (by decide)
  have q27 : ¬ (65535 : Int32) < x0 := own_ngt h2 (by decide)
  have e_g5_0_x_192_214 : g5_0 x0 (192 : Int32) (214 : Int32) = (0 : Int32) := ((if_neg q4).trans (if_pos q5))
  have e_f5_x_192_214 : f5 x0 (192 : Int32) (214 : Int32) = (0 : Int32) := e_g5_0_x_192_214
  have e_g5_0_x_216_246 : g5_0 x0 (216 : Int32) (246 : Int32) = (0 : Int32) := ((if_neg q6).trans (if_pos q7))
  have e_f5_x_216_246 : f5 x0 (216 : Int32) (246 : Int32) = (0 : Int32) := e_g5_0_x_216_246
  have q28 : ¬ (893 : Int32) < x0 := own_ngt h2 (by decide)
  have e_g5_0_x_248_893 : g5_0 x0 (248 : Int32) (893 : Int32) = (1 : Int32) := ((if_neg q8).trans (if_neg q28))
  have e_f5_x_248_893 : f5 x0 (248 : Int32) (893 : Int32) = (1 : Int32) := e_g5_0_x_248_893
  have e_g4_0_x : g4_0 x0 = (1 : Int32) := ((if_neg q26).trans ((if_neg q27).trans ((if_neg q23).trans ((if_pos (by rw [e_f5_x_192_214])).trans ((if_pos (by rw [e_f5_x_216_246])).trans (if_neg (by rw [e_f5_x_248_893]; decide)))))))
  have e_f4_x : f4 x0 = (1 : Int32) := e_g4_0_x
  rw [e_f1_x, e_f4_x]
theorem own_iv_37 (x0 : Int32) (h1 : (879 : Int) ≤ x0.toInt) (h2 : x0.toInt < (880 : Int)) : f1 x0 = f4 x0 := by
  have q0 : ¬ x0 < (65 : Int32) := own_nlt h1 (by decide)
  have q1 : (90 : Int32) < x0 := own_gt h1 (by decide)
  have q2 : ¬ x0 < (97 : Int32) := own_nlt h1 (by decide)
  have q3 : (122 : Int32) < x0 := own_gt h1 (by decide)
  have q4 : ¬ x0 < (192 : Int32) := own_nlt h1 (by decide)
  have q5 : (214 : Int32) < x0 := own_gt h1 (by decide)
  have q6 : ¬ x0 < (216 : Int32) := own_nlt h1 (by decide)
  have q7 : (246 : Int32) < x0 := own_gt h1 (by decide)
  have q8 : ¬ x0 < (248 : Int32) := own_nlt h1 (by decide)
  have q9 : (767 : Int32) < x0 := own_gt h1 (by decide)
  have q10 : x0 < (880 : Int32) := own_lt h2 (by decide)
  have q11 : x0 < (895 : Int32) := own_lt h2 (by decide)
  have q12 : x0 < (8204 : Int32) := own_lt h2 (by decide)
  have q13 : x0 < (8304 : Int32) := own_lt h2 (by decide)
  have q14 : x0 < (11264 : Int32) := own_lt h2 (by decide)
  have q15 : x0 < (12289 : Int32) := own_lt h2 (by decide)
  have q16 : x0 < (63744 : Int32) := own_lt h2 (by decide)
  have q17 : x0 < (65008 : Int32) := own_lt h2 (by decide)
  have q18 : x0 < (65536 : Int32) := own_lt h2 (by decide)
  have e_g3_178_x : g3_178 x0 = (0 : Int32) := (if_pos q18)
  have e_g3_164_x : g3_164 x0 = (0 : Int32) := ((if_pos q17).trans e_g3_178_x)
  have e_g3_150_x : g3_150 x0 = (0 : Int32) := ((if_pos q16).trans e_g3_164_x)
  have e_g3_136_x : g3_136 x0 = (0 : Int32) := ((if_pos q15).trans e_g3_150_x)
  have e_g3_122_x : g3_122 x0 = (0 : Int32) := ((if_pos q14).trans e_g3_136_x)
  have e_g3_108_x : g3_108 x0 = (0 : Int32) := ((if_pos q13).trans e_g3_122_x)
  have e_g3_94_x : g3_94 x0 = (0 : Int32) := ((if_pos q12).trans e_g3_108_x)
  have e_g3_80_x : g3_80 x0 = (0 : Int32) := ((if_pos q11).trans e_g3_94_x)
  have e_g3_66_x : g3_66 x0 = (0 : Int32) := ((if_pos q10).trans e_g3_80_x)
  have e_g3_52_x : g3_52 x0 = (0 : Int32) := ((if_neg q8).trans ((if_pos q9).trans e_g3_66_x))
  have e_g3_38_x : g3_38 x0 = (0 : Int32) := ((if_neg q6).trans ((if_pos q7).trans e_g3_52_x))
  have e_g3_24_x : g3_24 x0 = (0 : Int32) := ((if_neg q4).trans ((if_pos q5).trans e_g3_38_x))
  have e_g3_12_x : g3_12 x0 = (0 : Int32) := ((if_neg q2).trans ((if_pos q3).trans e_g3_24_x))
  have e_g3_0_x : g3_0 x0 = (0 : Int32) := ((if_neg q0).trans ((if_pos q1).trans e_g3_12_x))
  have e_f3_x : f3 x0 = (0 : Int32) := e_g3_0_x
  have q19 : ¬ x0 = (95 : Int32) := own_ne1 h1 (by decide)
  have e_g2_0_x : g2_0 x0 = (0 : Int32) := ((if_pos (by rw [e_f3_x])).trans (if_neg q19))
  have e_f2_x : f2 x0 = (0 : Int32) := e_g2_0_x
  have q20 : ¬ x0 = (45 : Int32) := own_ne1 h1 (by decide)
  have q21 : ¬ x0 < (48 : Int32) := own_nlt h1 (by decide)
  have q22 : (57 : Int32) < x0 := own_gt h1 (by decide)
  have q23 : ¬ x0 = (183 : Int32) := own_ne1 h1 (by decide)
  have q24 : ¬ x0 < (768 : Int32) := own_nlt h1 (by decide)
  have q25 : ¬ (879 : Int32) < x0 := own_ngt h2 (by decide)
  have e_g1_25_x : g1_25 x0 = (1 : Int32) := ((if_neg q23).trans ((if_neg q24).trans (if_neg q25)))
  have e_g1_0_x : g1_0 x0 = (1 : Int32) := ((if_pos (by rw [e_f2_x])).trans ((if_neg q20).trans ((if_neg q21).trans ((if_pos q22).trans e_g1_25_x))))
  have e_f1_x : f1 x0 = (1 : Int32) := e_g1_0_x
  have q26 : ¬ x0 < (128 : Int32) := own_nlt h1 (by decide)
  have q27 : ¬ (65535 : Int32) < x0 := own_ngt h2 (by decide)
  have e_g5_0_x_192_214 : g5_0 x0 (192 : Int32) (214 : Int32) = (0 : Int32) := ((if_neg q4).trans (if_pos q5))
  have e_f5_x_192_214 : f5 x0 (192 : Int32) (214 : Int32) = (0 : Int32) := e_g5_0_x_192_214
  have e_g5_0_x_216_246 : g5_0 x0 (216 : Int32) (246 : Int32) = (0 : Int32) := ((if_neg q6).trans (if_pos q7))
  have e_f5_x_216_246 : f5 x0 (216 : Int32) (246 : Int32) = (0 : Int32) := e_g5_0_x_216_246
  have q28 : ¬ (893 : Int32) < x0 := own_ngt h2 (by decide)
  have e_g5_0_x_248_893 : g5_0 x0 (248 : Int32) (893 : Int32) = (1 : Int32) := ((if_neg q8).trans (if_neg q28))
  have e_f5_x_248_893 : f5 x0 (248 : Int32) (893 : Int32) = (1 : Int32) := e_g5_0_x_248_893
  have e_g4_0_x : g4_0 x0 = (1 : Int32) := ((if_neg q26).trans ((if_neg q27).trans ((if_neg q23).trans ((if_pos (by rw [e_f5_x_192_214])).trans ((if_pos (by rw [e_f5_x_216_246])).trans (if_neg (by rw [e_f5_x_248_893]; decide)))))))
  have e_f4_x : f4 x0 = (1 : Int32) := e_g4_0_x
  rw [e_f1_x, e_f4_x]
theorem own_iv_38 (x0 : Int32) (h1 : (880 : Int) ≤ x0.toInt) (h2 : x0.toInt < (881 : Int)) : f1 x0 = f4 x0 := by
  have q0 : ¬ x0 < (65 : Int32) := own_nlt h1 (by decide)
  have q1 : (90 : Int32) < x0 := own_gt h1 (by decide)
  have q2 : ¬ x0 < (97 : Int32) := own_nlt h1 (by decide)
  have q3 : (122 : Int32) < x0 := own_gt h1 (by decide)
  have q4 : ¬ x0 < (192 : Int32) := own_nlt h1 (by decide)
  have q5 : (214 : Int32) < x0 := own_gt h1 (by decide)
  have q6 : ¬ x0 < (216 : Int32) := own_nlt h1 (by decide)
  have q7 : (246 : Int32) < x0 := own_gt h1 (by decide)
  have q8 : ¬ x0 < (248 : Int32) := own_nlt h1 (by decide)
  have q9 : (767 : Int32) < x0 := own_gt h1 (by decide)
  have q10 : ¬ x0 < (880 : Int32) := own_nlt h1 (by decide)
  have q11 : ¬ (893 : Int32) < x0 := own_ngt h2 (by decide)
  have e_g3_66_x : g3_66 x0 = (1 : Int32) := ((if_neg q10).trans (if_neg q11))
  have e_g3_52_x : g3_52 x0 = (1 : Int32) := ((if_neg q8).trans ((if_pos q9).trans e_g3_66_x))
  have e_g3_38_x : g3_38 x0 = (1 : Int32) := ((if_neg q6).trans ((if_pos q7).trans e_g3_52_x))
  have e_g3_24_x : g3_24 x0 = (1 : Int32) := ((if_neg q4).trans ((if_pos q5).trans e_g3_38_x))
  have e_g3_12_x : g3_12 x0 = (1 : Int32) := ((if_neg q2).trans ((if_pos q3).trans e_g3_24_x))
  have e_g3_0_x : g3_0 x0 = (1 : Int32) := ((if_neg q0).trans ((if_pos q1).trans e_g3_12_x))
  have e_f3_x : f3 x0 = (1 : Int32) := e_g3_0_x
  have e_g2_0_x : g2_0 x0 = (1 : Int32) := (if_neg (by rw [e_f3_x]; decide))
  have e_f2_x : f2 x0 = (1 : Int32) := e_g2_0_x
  have e_g1_0_x : g1_0 x0 = (1 : Int32) := (if_neg (by rw [e_f2_x]; decide))
  have e_f1_x : f1 x0 = (1 : Int32) := e_g1_0_x
  have q12 : ¬ x0 < (128 : Int32) := own_nlt h1 (by decide)
  have q13 : ¬ (65535 : Int32) < x0 := own_ngt h2 (by decide)
  have q14 : ¬ x0 = (183 : Int32) := own_ne1 h1 (by decide)
  have e_g5_0_x_192_214 : g5_0 x0 (192 : Int32) (214 : Int32) = (0 : Int32) := ((if_neg q4).trans (if_pos q5))
  have e_f5_x_192_214 : f5 x0 (192 : Int32) (214 : Int32) = (0 : Int32) := e_g5_0_x_192_214
  have e_g5_0_x_216_246 : g5_0 x0 (216 : Int32) (246 : Int32) = (0 : Int32) := ((if_neg q6).trans (if_pos q7))
  have e_f5_x_216_246 : f5 x0 (216 : Int32) (246 : Int32) = (0 : Int32) := e_g5_0_x_216_246
  have e_g5_0_x_248_893 : g5_0 x0 (248 : Int32) (893 : Int32) = (1 : Int32) := ((if_neg q8).trans (if_neg q11))
  have e_f5_x_248_893 : f5 x0 (248 : Int32) (893 : Int32) = (1 : Int32) := e_g5_0_x_248_893
  have e_g4_0_x : g4_0 x0 = (1 : Int32) := ((if_neg q12).trans ((if_neg q13).trans ((if_neg q14).trans ((if_pos (by rw [e_f5_x_192_214])).trans ((if_pos (by rw [e_f5_x_216_246])).trans (if_neg (by rw [e_f5_x_248_893]; decide)))))))
  have e_f4_x : f4 x0 = (1 : Int32) := e_g4_0_x
  rw [e_f1_x, e_f4_x]
theorem own_iv_39 (x0 : Int32) (h1 : (881 : Int) ≤ x0.toInt) (h2 : x0.toInt < (893 : Int)) : f1 x0 = f4 x0 := by
  have q0 : ¬ x0 < (65 : Int32) := own_nlt h1 (by decide)
  have q1 : (90 : Int32) < x0 := own_gt h1 (by decide)
  have q2 : ¬ x0 < (97 : Int32) := own_nlt h1 (by decide)
  have q3 : (122 : Int32) < x0 := own_gt h1 (by decide)
  have q4 : ¬ x0 < (192 : Int32) := own_nlt h1 (by decide)
  have q5 : (214 : Int32) < x0 := own_gt h1 (by decide)
  have q6 : ¬ x0 < (216 : Int32) := own_nlt h1 (by decide)
  have q7 : (246 : Int32) < x0 := own_gt h1 (by decide)
  have q8 : ¬ x0 < (248 : Int32) := own_nlt h1 (by decide)
  have q9 : (767 : Int32) < x0 := own_gt h1 (by decide)
  have q10 : ¬ x0 < (880 : Int32) := own_nlt h1 (by decide)
  have q11 : ¬ (893 : Int32) < x0 := own_ngt h2 (by decide)
  have e_g3_66_x : g3_66 x0 = (1 : Int32) := ((if_neg q10).trans (if_neg q11))
  have e_g3_52_x : g3_52 x0 = (1 : Int32) := ((if_neg q8).trans ((if_pos q9).trans e_g3_66_x))
  have e_g3_38_x : g3_38 x0 = (1 : Int32) := ((if_neg q6).trans ((if_pos q7).trans e_g3_52_x))
  have e_g3_24_x : g3_24 x0 = (1 : Int32) := ((if_neg q4).trans ((if_pos q5).trans e_g3_38_x))
  have e_g3_12_x : g3_12 x0 = (1 : Int32) := ((if_neg q2).trans ((if_pos q3).trans e_g3_24_x))
  have e_g3_0_x : g3_0 x0 = (1 : Int32) := ((if_neg q0).trans ((if_pos q1).trans e_g3_12_x))
  have e_f3_x : f3 x0 = (1 : Int32) := e_g3_0_x
  have e_g2_0_x : g2_0 x0 = (1 : Int32) := (if_neg (by rw [e_f3_x]; decide))
  have e_f2_x : f2 x0 = (1 : Int32) := e_g2_0_x
  have e_g1_0_x : g1_0 x0 = (1 : Int32) := (if_neg (by rw [e_f2_x]; decide))
  have e_f1_x : f1 x0 = (1 : Int32) := e_g1_0_x
  have q12 : ¬ x0 < (128 : Int32) := own_nlt h1 (by decide)
  have q13 : ¬ (65535 : Int32) < x0 := own_ngt h2 (by decide)
  have q14 : ¬ x0 = (183 : Int32) := own_ne1 h1 (by decide)
  have e_g5_0_x_192_214 : g5_0 x0 (192 : Int32) (214 : Int32) = (0 : Int32) := ((if_neg q4).trans (if_pos q5))
  have e_f5_x_192_214 : f5 x0 (192 : Int32) (214 : Int32) = (0 : Int32) := e_g5_0_x_192_214
  have e_g5_0_x_216_246 : g5_0 x0 (216 : Int32) (246 : Int32) = (0 : Int32) := ((if_neg q6).trans (if_pos q7))
  have e_f5_x_216_246 : f5 x0 (216 : Int32) (246 : Int32) = (0 : Int32) := e_g5_0_x_216_246
  have e_g5_0_x_248_893 : g5_0 x0 (248 : Int32) (893 : Int32) = (1 : Int32) := ((if_neg q8).trans (if_neg q11))
  have e_f5_x_248_893 : f5 x0 (248 : Int32) (893 : Int32) = (1 : Int32) := e_g5_0_x_248_893
  have e_g4_0_x : g4_0 x0 = (1 : Int32) := ((if_neg q12).trans ((if_neg q13).trans ((if_neg q14).trans ((if_pos (by rw [e_f5_x_192_214])).trans ((if_pos (by rw [e_f5_x_216_246])).trans (if_neg (by rw [e_f5_x_248_893]; decide)))))))
  have e_f4_x : f4 x0 = (1 : Int32) := e_g4_0_x
  rw [e_f1_x, e_f4_x]
theorem own_iv_40 (x0 : Int32) (h1 : (893 : Int) ≤ x0.toInt) (h2 : x0.toInt < (894 : Int)) : f1 x0 = f4 x0 := by
  have q0 : ¬ x0 < (65 : Int32) := own_nlt h1 (by decide)
  have q1 : (90 : Int32) < x0 := own_gt h1 (by decide)
  have q2 : ¬ x0 < (97 : Int32) := own_nlt h1 (by decide)
  have q3 : (122 : Int32) < x0 := own_gt h1 (by decide)
  have q4 : ¬ x0 < (192 : Int32) := own_nlt h1 (by decide)
  have q5 : (214 : Int32) < x0 := own_gt h1 (by decide)
  have q6 : ¬ x0 < (216 : Int32) := own_nlt h1 (by decide)
  have q7 : (246 : Int32) < x0 := own_gt h1 (by decide)
  have q8 : ¬ x0 < (248 : Int32) := own_nlt h1 (by decide)
  have q9 : (767 : Int32) < x0 := own_gt h1 (by decide)
  have q10 : ¬ x0 < (880 : Int32) := own_nlt h1 (by decide)
  have q11 : ¬ (893 : Int32) < x0 := own_ngt h2 (by decide)
  have e_g3_66_x : g3_66 x0 = (1 : Int32) := ((if_neg q10).trans (if_neg q11))
  have e_g3_52_x : g3_52 x0 = (1 : Int32) := ((if_neg q8).trans ((if_pos q9).trans e_g3_66_x))
  have e_g3_38_x : g3_38 x0 = (1 : Int32) := ((if_neg q6).trans ((if_pos q7).trans e_g3_52_x))
  have e_g3_24_x : g3_24 x0 = (1 : Int32) := ((if_neg q4).trans ((if_pos q5).trans e_g3_38_x))
  have e_g3_12_x : g3_12 x0 = (1 : Int32) := ((if_neg q2).trans ((if_pos q3).trans e_g3_24_x))
  have e_g3_0_x : g3_0 x0 = (1 : Int32) := ((if_neg q0).trans ((if_pos q1).trans e_g3_12_x))
  have e_f3_x : f3 x0 = (1 : Int32) := e_g3_0_x
  have e_g2_0_x : g2_0 x0 = (1 : Int32) := (if_neg (by rw [e_f3_x]; decide))
  have e_f2_x : f2 x0 = (1 : Int32) := e_g2_0_x
  have e_g1_0_x : g1_0 x0 = (1 : Int32) := (if_neg (by rw [e_f2_x]; decide))
  have e_f1_x : f1 x0 = (1 : Int32) := e_g1_0_x
  have q12 : ¬ x0 < (128 : Int32) := own_nlt h1 (by decide)
  have q13 : ¬ (65535 : Int32) < x0 := own_ngt h2 (by decide)
  have q14 : ¬ x0 = (183 : Int32) := own_ne1 h1 (by decide)
  have e_g5_0_x_192_214 : g5_0 x0 (192 : Int32) (214 : Int32) = (0 : Int32) := ((if_neg q4).trans (if_pos q5))
  have e_f5_x_192_214 : f5 x0 (192 : Int32) (214 : Int32) = (0 : Int32) := e_g5_0_x_192_214
  have e_g5_0_x_216_246 : g5_0 x0 (216 : Int32) (246 : Int32) = (0 : Int32) := ((if_neg q6).trans (if_pos q7))
  have e_f5_x_216_246 : f5 x0 (216 : Int32) (246 : Int32) = (0 : Int32) := e_g5_0_x_216_246
  have e_g5_0_x_248_893 : g5_0 x0 (248 : Int32) (893 : Int32) = (1 : Int32) := ((if_neg q8).trans (if_neg q11))
  have e_f5_x_248_893 : f5 x0 (248 : Int32) (893 : Int32) = (1 : Int32) := e_g5_0_x_248_893
  have e_g4_0_x : g4_0 x0 = (1 : Int32) := ((if_neg q12).trans ((if_neg q13).trans ((if_neg q14).trans ((if_pos (by rw [e_f5_x_192_214])).trans ((if_pos (by rw [e_f5_x_216_246])).trans (if_neg (by rw [e_f5_x_248_893]; decide)))))))
  have e_f4_x : f4 x0 = (1 : Int32) := e_g4_0_x
  rw [e_f1_x, e_f4_x]
theorem own_iv_41 (x0 : Int32) (h1 : (894 : Int) ≤ x0.toInt) (h2 : x0.toInt < (895 : Int)) : f1 x0 = f4 x0 := by
  have q0 : ¬ x0 < (65 : Int32) := own_nlt h1 (by decide)
  have q1 : (90 : Int32) < x0 := own_gt h1 (by decide)
  have q2 : ¬ x0 < (97 : Int32) := own_nlt h1 (by decide)
  have q3 : (122 : Int32) < x0 := own_gt h1 (by decide)
  have q4 : ¬ x0 < (192 : Int32) := own_nlt h1 (by decide)
  have q5 : (214 : Int32) < x0 := own_gt h1 (by decide)
  have q6 : ¬ x0 < (216 : Int32) := own_nlt h1 (by decide)
  have q7 : (246 : Int32) < x0 := own_gt h1 (by decide)
  have q8 : ¬ x0 < (248 : Int32) := own_nlt h1 (by decide)
  have q9 : (767 : Int32) < x0 := own_gt h1 (by decide)
  have q10 : ¬ x0 < (880 : Int32) := own_nlt h1 (by decide)
  have q11 : (893 : Int32) < x0 := own_gt h1 (by decide)
  have q12 : x0 < (895 : Int32) := own_lt h2 (by decide)
  have q13 : x0 < (8204 : Int32) := own_lt h2 (by decide)
  have q14 : x0 < (8304 : Int32) := own_lt h2 (by decide)
  have q15 : x0 < (11264 : Int32) := own_lt h2 (by decide)
  have q16 : x0 < (12289 : Int32) := own_lt h2 (by decide)
  have q17 : x0 < (63744 : Int32) := own_lt h2 (by decide)
  have q18 : x0 < (65008 : Int32) := own_lt h2 (by decide)
  have q19 : x0 < (65536 : Int32) := own_lt h2 (by decide)
  have e_g3_178_x : g3_178 x0 = (0 : Int32) := (if_pos q19)
  have e_g3_164_x : g3_164 x0 = (0 : Int32) := ((if_pos q18).trans e_g3_178_x)
  have e_g3_150_x : g3_150 x0 = (0 : Int32) := ((if_pos q17).trans e_g3_164_x)
  have e_g3_136_x : g3_136 x0 = (0 : Int32) := ((if_pos q16).trans e_g3_150_x)
  have e_g3_122_x : g3_122 x0 = (0 : Int32) := ((if_pos q15).trans e_g3_136_x)
  have e_g3_108_x : g3_108 x0 = (0 : Int32) := ((if_pos q14).trans e_g3_122_x)
  have e_g3_94_x : g3_94 x0 = (0 : Int32) := ((if_pos q13).trans e_g3_108_x)
  have e_g3_80_x : g3_80 x0 = (0 : Int32) := ((if_pos q12).trans e_g3_94_x)
  have e_g3_66_x : g3_66 x0 = (0 : Int32) := ((if_neg q10).trans ((if_pos q11).trans e_g3_80_x))
  have e_g3_52_x : g3_52 x0 = (0 : Int32) := ((if_neg q8).trans ((if_pos q9).trans e_g3_66_x))
  have e_g3_38_x : g3_38 x0 = (0 : Int32) := ((if_neg q6).trans ((if_pos q7).trans e_g3_52_x))
  have e_g3_24_x : g3_24 x0 = (0 : Int32) := ((if_neg q4).trans ((if_pos q5).trans e_g3_38_x))
  have e_g3_12_x : g3_12 x0 = (0 : Int32) := ((if_neg q2).trans ((if_pos q3).trans e_g3_24_x))
  have e_g3_0_x : g3_0 x0 = (0 : Int32) := ((if_neg q0).trans ((if_pos q1).trans e_g3_12_x))
  have e_f3_x : f3 x0 = (0 : Int32) := e_g3_0_x
  have q20 : ¬ x0 = (95 : Int32) := own_ne1 h1 (by decide)
  have e_g2_0_x : g2_0 x0 = (0 : Int32) := ((if_pos (by rw [e_f3_x])).trans (if_neg q20))
  have e_f2_x : f2 x0 = (0 : Int32) := e_g2_0_x
  have q21 : ¬ x0 = (45 : Int32) := own_ne1 h1 (by decide)
  have q22 : ¬ x0 < (48 : Int32) := own_nlt h1 (by decide)
  have q23 : (57 : Int32) < x0 := own_gt h1 (by decide)
  have q24 : ¬ x0 = (183 : Int32) := own_ne1 h1 (by decide)
  have q25 : ¬ x0 < (768 : Int32) := own_nlt h1 (by decide)
  have q26 : (879 : Int32) < x0 := own_gt h1 (by decide)
  have q27 : ¬ x0 = (8255 : Int32) := own_ne2 h2 (by decide)
  have q28 : ¬ x0 = (8256 : Int32) := own_ne2 h2 (by decide)
  have e_g1_46_x : g1_46 x0 = (0 : Int32) := ((if_neg q27).trans (if_neg q28))
  have e_g1_25_x : g1_25 x0 = (0 : Int32) := ((if_neg q24).trans ((if_neg q25).trans ((if_pos q26).trans e_g1_46_x)))
  have e_g1_0_x : g1_0 x0 = (0 : Int32) := ((if_pos (by rw [e_f2_x])).trans ((if_neg q21).trans ((if_neg q22).trans ((if_pos q23).trans e_g1_25_x))))
  have e_f1_x : f1 x0 = (0 : Int32) := e_g1_0_x
  have q29 : ¬ x0 < (128 : Int32) := own_nlt h1 (by decide)
  have q30 : ¬ (65535 : Int32) < x0 := own_ngt h2 (by decide)
  have e_g5_0_x_192_214 : g5_0 x0 (192 : Int32) (214 : Int32) = (0 : Int32) := ((if_neg q4).trans (if_pos q5))
  have e_f5_x_192_214 : f5 x0 (192 : Int32) (214 : Int32) = (0 : Int32) := e_g5_0_x_192_214
  have e_g5_0_x_216_246 : g5_0 x0 (216 : Int32) (246 : Int32) = (0 : Int32) := ((if_neg q6).trans (if_pos q7))
  have e_f5_x_216_246 : f5 x0 (216 : Int32) (246 : Int32) = (0 : Int32) := e_g5_0_x_216_246
  have e_g5_0_x_248_893 : g5_0 x0 (248 : Int32) (893 : Int32) = (0 : Int32) := ((if_neg q8).trans (if_pos q11))
  have e_f5_x_248_893 : f5 x0 (248 : Int32) (893 : Int32) = (0 : Int32) := e_g5_0_x_248_893
  have e_g5_0_x_895_8191 : g5_0 x0 (895 : Int32) (8191 : Int32) = (0 : Int32) := (if_pos q12)
  have e_f5_x_895_8191 : f5 x0 (895 : Int32) (8191 : Int32) = (0 : Int32) := e_g5_0_x_895_8191
  have e_g5_0_x_8204_8205 : g5_0 x0 (8204 : Int32) (8205 : Int32) = (0 : Int32) := (if_pos q13)
  have e_f5_x_8204_8205 : f5 x0 (8204 : Int32) (8205 : Int32) = (0 : Int32) := e_g5_0_x_8204_8205
  have q31 : x0 < (8255 : Int32) := own_lt h2 (by decide)
  have e_g5_0_x_8255_8256 : g5_0 x0 (8255 : Int32) (8256 : Int32) = (0 : Int32) := (if_pos q31)
  have e_f5_x_8255_8256 : f5 x0 (8255 : Int32) (8256 : Int32) = (0 : Int32) := e_g5_0_x_8255_8256
  have e_g5_0_x_8304_8591 : g5_0 x0 (8304 : Int32) (8591 : Int32) = (0 : Int32) := (if_pos q14)
  have e_f5_x_8304_8591 : f5 x0 (8304 : Int32) (8591 : Int32) = (0 : Int32) := e_g5_0_x_8304_8591
  have e_g5_0_x_11264_12271 : g5_0 x0 (11264 : Int32) (12271 : Int32) = (0 : Int32) := (if_pos q15)
  have e_f5_x_11264_12271 : f5 x0 (11264 : Int32) (12271 : Int32) = (0 : Int32) := e_g5_0_x_11264_12271
  have e_g5_0_x_12289_55295 : g5_0 x0 (12289 : Int32) (55295 : Int32) = (0 : Int32) := (if_pos q16)
  have e_f5_x_12289_55295 : f5 x0 (12289 : Int32) (55295 : Int32) = (0 : Int32) := e_g5_0_x_12289_55295
  have e_g5_0_x_63744_64975 : g5_0 x0 (63744 : Int32) (64975 : Int32) = (0 : Int32) := (if_pos q17)
  have e_f5_x_63744_64975 : f5 x0 (63744 : Int32) (64975 : Int32) = (0 : Int32) := e_g5_0_x_63744_64975
  have e_g5_0_x_65008_65533 : g5_0 x0 (65008 : Int32) (65533 : Int32) = (0 : Int32) := (if_pos q18)
  have e_f5_x_65008_65533 : f5 x0 (65008 : Int32) (65533 : Int32) = (0 : Int32) := e_g5_0_x_65008_65533
  have e_g4_0_x : g4_0 x0 = (0 : Int32) := ((if_neg q29).trans ((if_neg q30).trans ((if_neg q24).trans ((if_pos (by rw [e_f5_x_192_214])).trans ((if_pos (by rw [e_f5_x_216_246])).trans ((if_pos (by rw [e_f5_x_248_893])).trans ((if_pos (by rw [e_f5_x_895_8191])).trans ((if_pos (by rw [e_f5_x_8204_8205])).trans ((if_pos (by rw [e_f5_x_8255_8256])).trans ((if_pos (by rw [e_f5_x_8304_8591])).trans ((if_pos (by rw [e_f5_x_11264_12271])).trans ((if_pos (by rw [e_f5_x_12289_55295])).trans ((if_pos (by rw [e_f5_x_63744_64975])).trans (if_pos (by rw [e_f5_x_65008_65533])))))))))))))))
  have e_f4_x : f4 x0 = (0 : Int32) := e_g4_0_x
  rw [e_f1_x, e_f4_x]
theorem own_iv_42 (x0 : Int32) (h1 : (895 : Int) ≤ x0.toInt) (h2 : x0.toInt < (896 : Int)) : f1 x0 = f4 x0 := by
  have q0 : ¬ x0 < (65 : Int32) := own_nlt h1 (by decide)
  have q1 : (90 : Int32) < x0 := own_gt h1 (by decide)
  have q2 : ¬ x0 < (97 : Int32) := own_nlt h1 (by decide)
  have q3 : (122 : Int32) < x0 := own_gt h1 (by decide)
  have q4 : ¬ x0 < (192 : Int32) := own_nlt h1 (by decide)
  have q5 : (214 : Int32) < x0 := own_gt h1 (by decide)
  have q6 : ¬ x0 < (216 : Int32) := own_nlt h1 (by decide)
  have q7 : (246 : Int32) < x0 := own_gt h1 (by decide)
  have q8 : ¬ x0 < (248 : Int32) := own_nlt h1 (by decide)
  have q9 : (767 : Int32) < x0 := own_gt h1 (by decide)
  have q10 : ¬ x0 < (880 : Int32) := own_nlt h1 (by decide)
  have q11 : (893 : Int32) < x0 := own_gt h1 (by decide)
  have q12 : ¬ x0 < (895 : Int32) := own_nlt h1 (by decide)
  have q13 : ¬ (8191 : Int32) < x0 := own_ngt h2 (by decide)
  have e_g3_80_x : g3_80 x0 = (1 : Int32) := ((if_neg q12).trans (if_neg q13))
  have e_g3_66_x : g3_66 x0 = (1 : Int32) := ((if_neg q10).trans ((if_pos q11).trans e_g3_80_x))
  have e_g3_52_x : g3_52 x0 = (1 : Int32) := ((if_neg q8).trans ((if_pos q9).trans e_g3_66_x))
  have e_g3_38_x : g3_38 x0 = (1 : Int32) := ((if_neg q6).trans ((if_pos q7).trans e_g3_52_x))
  have e_g3_24_x : g3_24 x0 = (1 : Int32) := ((if_neg q4).trans ((if_pos q5).trans e_g3_38_x))
  have e_g3_12_x : g3_12 x0 = (1 : Int32) := ((if_neg q2).trans ((if_pos q3).trans e_g3_24_x))
  have e_g3_0_x : g3_0 x0 = (1 : Int32) := ((if_neg q0).trans ((if_pos q1).trans e_g3_12_x))
  have e_f3_x : f3 x0 = (1 : Int32) := e_g3_0_x
  have e_g2_0_x : g2_0 x0 = (1 : Int32) := (if_neg (by rw [e_f3_x]; decide))
  have e_f2_x : f2 x0 = (1 : Int32) := e_g2_0_x
  have e_g1_0_x : g1_0 x0 = (1 : Int32) := (if_neg (by rw [e_f2_x]; decide))
  have e_f1_x : f1 x0 = (1 : Int32) := e_g1_0_x
  have q14 : ¬ x0 < (128 : Int32) := own_nlt h1 (by decide)
  have q15 : ¬ (65535 : Int32) < x0 := own_ngt h2 (by decide)
  have q16 : ¬ x0 = (183 : Int32) := own_ne1 h1 (by decide)
  have e_g5_0_x_192_214 : g5_0 x0 (192 : Int32) (214 : Int32) = (0 : Int32) := ((if_neg q4).trans (if_pos q5))
  have e_f5_x_192_214 : f5 x0 (192 : Int32) (214 : Int32) = (0 : Int32) := e_g5_0_x_192_214
  have e_g5_0_x_216_246 : g5_0 x0 (216 : Int32) (246 : Int32) = (0 : Int32) := ((if_neg q6).trans (if_pos q7))
  have e_f5_x_216_246 : f5 x0 (216 : Int32) (246 : Int32) = (0 : Int32) := e_g5_0_x_216_246
  have e_g5_0_x_248_893 : g5_0 x0 (248 : Int32) (893 : Int32) = (0 : Int32) := ((if_neg q8).trans (if_pos q11))
  have e_f5_x_248_893 : f5 x0 (248 : Int32) (893 : Int32) = (0 : Int32) := e_g5_0_x_248_893
  have e_g5_0_x_895_8191 : g5_0 x0 (895 : Int32) (8191 : Int32) = (1 : Int32) := ((if_neg q12).trans (if_neg q13))
  have e_f5_x_895_8191 : f5 x0 (895 : Int32) (8191 : Int32) = (1 : Int32) := e_g5_0_x_895_8191
  have e_g4_0_x : g4_0 x0 = (1 : Int32) := ((if_neg q14).trans ((if_neg q15).trans ((if_neg q16).trans ((if_pos (by rw [e_f5_x_192_214])).trans ((if_pos (by rw [e_f5_x_216_246])).trans ((if_pos (by rw [e_f5_x_248_893])).trans (if_neg (by rw [e_f5_x_895_8191]; decide))))))))
  have e_f4_x : f4 x0 = (1 : Int32) := e_g4_0_x
  rw [e_f1_x, e_f4_x]
theorem own_iv_43 (x0 : Int32) (h1 : (896 : Int) ≤ x0.toInt) (h2 : x0.toInt < (8191 : Int)) : f1 x0 = f4 x0 := by
  have q0 : ¬ x0 < (65 : Int32) := own_nlt h1 (by decide)
  have q1 : (90 : Int32) < x0 := own_gt h1 (by decide)
  have q2 : ¬ x0 < (97 : Int32) := own_nlt h1 (by decide)
  have q3 : (122 : Int32) < x0 := own_gt h1 (by decide)
  have q4 : ¬ x0 < (192 : Int32) := own_nlt h1 (by decide)
  have q5 : (214 : Int32) < x0 := own_gt h1 (by decide)
  have q6 : ¬ x0 < (216 : Int32) := own_nlt h1 (by decide)
  have q7 : (246 : Int32) < x0 := own_gt h1 (by decide)
  have q8 : ¬ x0 < (248 : Int32) := own_nlt h1 (by decide)
  have q9 : (767 : Int32) < x0 := own_gt h1 (by decide)
  have q10 : ¬ x0 < (880 : Int32) := own_nlt h1 (by decide)
  have q11 : (893 : Int32) < x0 := own_gt h1 (by decide)
  have q12 : ¬ x0 < (895 : Int32) := own_nlt h1 (by decide)
  have q13 : ¬ (8191 : Int32) < x0 := own_ngt h2 (by decide)
  have e_g3_80_x : g3_80 x0 = (1 : Int32) := ((if_neg q12).trans (if_neg q13))
  have e_g3_66_x : g3_66 x0 = (1 : Int32) := ((if_neg q10).trans ((if_pos q11).trans e_g3_80_x))
  have e_g3_52_x : g3_52 x0 = (1 : Int32) := ((if_neg q8).trans ((if_pos q9).trans e_g3_66_x))
  have e_g3_38_x : g3_38 x0 = (1 : Int32) := ((if_neg q6).trans ((if_pos q7).trans e_g3_52_x))
  have e_g3_24_x : g3_24 x0 = (1 : Int32) := ((if_neg q4).trans ((if_pos q5).trans e_g3_38_x))
  have e_g3_12_x : g3_12 x0 = (1 : Int32) := ((if_neg q2).trans ((if_pos q3).trans e_g3_24_x))
  have e_g3_0_x : g3_0 x0 = (1 : Int32) := ((if_neg q0).trans ((if_pos q1).trans e_g3_12_x))
  have e_f3_x : f3 x0 = (1 : Int32) := e_g3_0_x
  have e_g2_0_x : g2_0 x0 = (1 : Int32) := (if_neg (by rw [e_f3_x]; decide))
  have e_f2_x : f2 x0 = (1 : Int32) := e_g2_0_x
  have e_g1_0_x : g1_0 x0 = (1 : Int32) := (if_neg (by rw [e_f2_x]; decide))
  have e_f1_x : f1 x0 = (1 : Int32) := e_g1_0_x
  have q14 : ¬ x0 < (128 : Int32) := own_nlt h1 (by decide)
  have q15 : ¬ (65535 : Int32) < x0 := own_ngt h2 (by decide)
  have q16 : ¬ x0 = (183 : Int32) := own_ne1 h1 (by decide)
  have e_g5_0_x_192_214 : g5_0 x0 (192 : Int32) (214 : Int32) = (0 : Int32) := ((if_neg q4).trans (if_pos q5))
  have e_f5_x_192_214 : f5 x0 (192 : Int32) (214 : Int32) = (0 : Int32) := e_g5_0_x_192_214
  have e_g5_0_x_216_246 : g5_0 x0 (216 : Int32) (246 : Int32) = (0 : Int32) := ((if_neg q6).trans (if_pos q7))
  have e_f5_x_216_246 : f5 x0 (216 : Int32) (246 : Int32) = (0 : Int32) := e_g5_0_x_216_246
  have e_g5_0_x_248_893 : g5_0 x0 (248 : Int32) (893 : Int32) = (0 : Int32) := ((if_neg q8).trans (if_pos q11))
  have e_f5_x_248_893 : f5 x0 (248 : Int32) (893 : Int32) = (0 : Int32) := e_g5_0_x_248_893
  have e_g5_0_x_895_8191 : g5_0 x0 (895 : Int32) (8191 : Int32) = (1 : Int32) := ((if_neg q12).trans (if_neg q13))
  have e_f5_x_895_8191 : f5 x0 (895 : Int32) (8191 : Int32) = (1 : Int32) := e_g5_0_x_895_8191
  have e_g4_0_x : g4_0 x0 = (1 : Int32) := ((if_neg q14).trans ((if_neg q15).trans ((if_neg q16).trans ((if_pos (by rw [e_f5_x_192_214])).trans ((if_pos (by rw [e_f5_x_216_246])).trans ((if_pos (by rw [e_f5_x_248_893])).trans (if_neg (by rw [e_f5_x_895_8191]; decide))))))))
  have e_f4_x : f4 x0 = (1 : Int32) := e_g4_0_x
  rw [e_f1_x, e_f4_x]
theorem own_iv_44 (x0 : Int32) (h1 : (8191 : Int) ≤ x0.toInt) (h2 : x0.toInt < (8192 : Int)) : f1 x0 = f4 x0 := by
  have q0 : ¬ x0 < (65 : Int32) := own_nlt h1 (by decide)
  have q1 : (90 : Int32) < x0 := own_gt h1 (by decide)
  have q2 : ¬ x0 < (97 : Int32) := own_nlt h1 (by decide)
  have q3 : (122 : Int32) < x0 := own_gt h1 (by decide)
  have q4 : ¬ x0 < (192 : Int32) := own_nlt h1 (by decide)
  have q5 : (214 : Int32) < x0 := own_gt h1 (by decide)
  have q6 : ¬ x0 < (216 : Int32) := own_nlt h1 (by decide)
  have q7 : (246 : Int32) < x0 := own_gt h1 (by decide)
  have q8 : ¬ x0 < (248 : Int32) := own_nlt h1 (by decide)
  have q9 : (767 : Int32) < x0 := own_gt h1 (by decide)
  have q10 : ¬ x0 < (880 : Int32) := own_nlt h1 (by decide)
  have q11 : (893 : Int32) < x0 := own_gt h1 (by decide)
  have q12 : ¬ x0 < (895 : Int32) := own_nlt h1 (by decide)
  have q13 : ¬ (8191 : Int32) < x0 := own_ngt h2 (by decide)
  have e_g3_80_x : g3_80 x0 = (1 : Int32) := ((if_neg q12).trans (if_neg q13))
  have e_g3_66_x : g3_66 x0 = (1 : Int32) := ((if_neg q10).trans ((if_pos q11).trans e_g3_80_x))
  have e_g3_52_x : g3_52 x0 = (1 : Int32) := ((if_neg q8).trans ((if_pos q9).trans e_g3_66_x))
  have e_g3_38_x : g3_38 x0 = (1 : Int32) := ((if_neg q6).trans ((if_pos q7).trans e_g3_52_x))
  have e_g3_24_x : g3_24 x0 = (1 : Int32) := ((if_neg q4).trans ((if_pos q5).trans e_g3_38_x))
  have e_g3_12_x : g3_12 x0 = (1 : Int32) := ((if_neg q2).trans ((if_pos q3).trans e_g3_24_x))
  have e_g3_0_x : g3_0 x0 = (1 : Int32) := ((if_neg q0).trans ((if_pos q1).trans e_g3_12_x))
  have e_f3_x : f3 x0 = (1 : Int32) := e_g3_0_x
  have e_g2_0_x : g2_0 x0 = (1 : Int32) := (if_neg (by rw [e_f3_x]; decide))
  have e_f2_x : f2 x0 = (1 : Int32) := e_g2_0_x
  have e_g1_0_x : g1_0 x0 = (1 : Int32) := (if_neg (by rw [e_f2_x]; decide))
  have e_f1_x : f1 x0 = (1 : Int32) := e_g1_0_x
  have q14 : ¬ x0 < (128 : Int32) := own_nlt h1 (by decide)
  have q15 : ¬ (65535 : Int32) < x0 := own_ngt h2 (by decide)
  have q16 : ¬ x0 = (183 : Int32) := own_ne1 h1 (by decide)
  have e_g5_0_x_192_214 : g5_0 x0 (192 : Int32) (214 : Int32) = (0 : Int32) := ((if_neg q4).trans (if_pos q5))
  have e_f5_x_192_214 : f5 x0 (192 : Int32) (214 : Int32) = (0 : Int32) := e_g5_0_x_192_214
  have e_g5_0_x_216_246 : g5_0 x0 (216 : Int32) (246 : Int32) = (0 : Int32) := ((if_neg q6).trans (if_pos q7))
  have e_f5_x_216_246 : f5 x0 (216 : Int32) (246 : Int32) = (0 : Int32) := e_g5_0_x_216_246
  have e_g5_0_x_248_893 : g5_0 x0 (248 : Int32) (893 : Int32) = (0 : Int32) := ((if_neg q8).trans (if_pos q11))
  have e_f5_x_248_893 : f5 x0 (248 : Int32) (893 : Int32) = (0 : Int32) := e_g5_0_x_248_893
  have e_g5_0_x_895_8191 : g5_0 x0 (895 : Int32) (8191 : Int32) = (1 : Int32) := ((if_neg q12).trans (if_neg q13))
  have e_f5_x_895_8191 : f5 x0 (895 : Int32) (8191 : Int32) = (1 : Int32) := e_g5_0_x_895_8191
  have e_g4_0_x : g4_0 x0 = (1 : Int32) := ((if_neg q14).trans ((if_neg q15).trans ((if_neg q16).trans ((if_pos (by rw [e_f5_x_192_214])).trans ((if_pos (by rw [e_f5_x_216_246])).trans ((if_pos (by rw [e_f5_x_248_893])).trans (if_neg (by rw [e_f5_x_895_8191]; decide))))))))
  have e_f4_x : f4 x0 = (1 : Int32) := e_g4_0_x
  rw [e_f1_x, e_f4_x]
theorem own_iv_45 (x0 : Int32) (h1 : (8192 : Int) ≤ x0.toInt) (h2 : x0.toInt < (8204 : Int)) : f1 x0 = f4 x0 := by
  have q0 : ¬ x0 < (65 : Int32) := own_nlt h1 (by decide)
  have q1 : (90 : Int32) < x0 := own_gt h1 (by decide)
  have q2 : ¬ x0 < (97 : Int32) := own_nlt h1 (by decide)
  have q3 : (122 : Int32) < x0 := own_gt h1 (by decide)
  have q4 : ¬ x0 < (192 : Int32) := own_nlt h1 (by decide)
  have q5 : (214 : Int32) < x0 := own_gt h1 (by decide)
  have q6 : ¬ x0 < (216 : Int32) := own_nlt h1 (by decide)
  have q7 : (246 : Int32) < x0 := own_gt h1 (by decide)
  have q8 : ¬ x0 < (248 : Int32) := own_nlt h1 (by decide)
  have q9 : (767 : Int32) < x0 := own_gt h1 (by decide)
  have q10 : ¬ x0 < (880 : Int32) := own_nlt h1 (by decide)
  have q11 : (893 : Int32) < x0 := own_gt h1 (by decide)
  have q12 : ¬ x0 < (895 : Int32) := own_nlt h1 (by decide)
  have q13 : (8191 : Int32) < x0 := own_gt h1 (by decide)
  have q14 : x0 < (8204 : Int32) := own_lt h2 (by decide)
  have q15 : x0 < (8304 : Int32) := own_lt h2 (by decide)
  have q16 : x0 < (11264 : Int32) := own_lt h2 (by decide)
  have q17 : x0 < (12289 : Int32) := own_lt h2 (by decide)
  have q18 : x0 < (63744 : Int32) := own_lt h2 (by decide)
  have q19 : x0 < (65008 : Int32) := own_lt h2 (by decide)
  have q20 : x0 < (65536 : Int32) := own_lt h2 (by decide)
  have e_g3_178_x : g3_178 x0 = (0 : Int32) := (if_pos q20)
  have e_g3_164_x : g3_164 x0 = (0 : Int32) := ((if_pos q19).trans e_g3_178_x)
  have e_g3_150_x : g3_150 x0 = (0 : Int32) := ((if_pos q18).trans e_g3_164_x)
  have e_g3_136_x : g3_136 x0 = (0 : Int32) := ((if_pos q17).trans e_g3_150_x)
  have e_g3_122_x : g3_122 x0 = (0 : Int32) := ((if_pos q16).trans e_g3_136_x)
  have e_g3_108_x : g3_108 x0 = (0 : Int32) := ((if_pos q15).trans e_g3_122_x)
  have e_g3_94_x : g3_94 x0 = (0 : Int32) := ((if_pos q14).trans e_g3_108_x)
  have e_g3_80_x : g3_80 x0 = (0 : Int32) := ((if_neg q12).trans ((if_pos q13).trans e_g3_94_x))
  have e_g3_66_x : g3_66 x0 = (0 : Int32) := ((if_neg q10).trans ((if_pos q11).trans e_g3_80_x))
  have e_g3_52_x : g3_52 x0 = (0 : Int32) := ((if_neg q8).trans ((if_pos q9).trans e_g3_66_x))
  have e_g3_38_x : g3_38 x0 = (0 : Int32) := ((if_neg q6).trans ((if_pos q7).trans e_g3_52_x))
  have e_g3_24_x : g3_24 x0 = (0 : Int32) := ((if_neg q4).trans ((if_pos q5).trans e_g3_38_x))
  have e_g3_12_x : g3_12 x0 = (0 : Int32) := ((if_neg q2).trans ((if_pos q3).trans e_g3_24_x))
  have e_g3_0_x : g3_0 x0 = (0 : Int32) := ((if_neg q0).trans ((if_pos q1).trans e_g3_12_x))
  have e_f3_x : f3 x0 = (0 : Int32) := e_g3_0_x
  have q21 : ¬ x0 = (95 : Int32) := own_ne1 h1 (by decide)
  have e_g2_0_x : g2_0 x0 = (0 : Int32) := ((if_pos (by rw [e_f3_x])).trans (if_neg q21))
  have e_f2_x : f2 x0 = (0 : Int32) := e_g2_0_x
  have q22 : ¬ x0 = (45 : Int32) := own_ne1 h1 (by decide)
  have q23 : ¬ x0 < (48 : Int32) := own_nlt h1 (by decide)
  have q24 : (57 : Int32) < x0 := own_gt h1 (by decide)
  have q25 : ¬ x0 = (183 : Int32) := own_ne1 h1 (by decide)
  have q26 : ¬ x0 < (768 : Int32) := own_nlt h1 (by decide)
  have q27 : (879 : Int32) < x0 := own_gt h1 (by decide)
  have q28 : ¬ x0 = (8255 : Int32) := own_ne2 h2 (by decide)
  have q29 : ¬ x0 = (8256 : Int32) := own_ne2 h2 (by decide)
  have e_g1_46_x : g1_46 x0 = (0 : Int32) := ((if_neg q28).trans (if_neg q29))
  have e_g1_25_x : g1_25 x0 = (0 : Int32) := ((if_neg q25).trans ((if_neg q26).trans ((if_pos q27).trans e_g1_46_x)))
  have e_g1_0_x : g1_0 x0 = (0 : Int32) := ((if_pos (by rw [e_f2_x])).trans ((if_neg q22).trans ((if_neg q23).trans ((if_pos q24).trans e_g1_25_x))))
  have e_f1_x : f1 x0 = (0 : Int32) := e_g1_0_x
  have q30 : ¬ x0 < (128 : Int32) := own_nlt h1 (by decide)
  have q31 : ¬ (65535 : Int32) < x0 := own_ngt h2 (by decide)
  have e_g5_0_x_192_214 : g5_0 x0 (192 : Int32) (214 : Int32) = (0 : Int32) := ((if_neg q4).trans (if_pos q5))
  have e_f5_x_192_214 : f5 x0 (192 : Int32) (214 : Int32) = (0 : Int32) := e_g5_0_x_192_214
  have e_g5_0_x_216_246 : g5_0 x0 (216 : Int32) (246 : Int32) = (0 : Int32) := ((if_neg q6).trans (if_pos q7))
  have e_f5_x_216_246 : f5 x0 (216 : Int32) (246 : Int32) = (0 : Int32) := e_g5_0_x_216_246
  have e_g5_0_x_248_893 : g5_0 x0 (248 : Int32) (893 : Int32) = (0 : Int32) := ((if_neg q8).trans (if_pos q11))
  have e_f5_x_248_893 : f5 x0 (248 : Int32) (893 : Int32) = (0 : Int32) := e_g5_0_x_248_893
  have e_g5_0_x_895_8191 : g5_0 x0 (895 : Int32) (8191 : Int32) = (0 : Int32) := ((if_neg q12).trans (if_pos q13))
  have e_f5_x_895_8191 : f5 x0 (895 : Int32) (8191 : Int32) = (0 : Int32) := e_g5_0_x_895_8191
  have e_g5_0_x_8204_8205 : g5_0 x0 (8204 : Int32) (8205 : Int32) = (0 : Int32) := (if_pos q14)
  have e_f5_x_8204_8205 : f5 x0 (8204 : Int32) (8205 : Int32) = (0 : Int32) := e_g5_0_x_8204_8205
  have q32 : x0 < (8255 : Int32) := own_lt h2 (by decide)
  have e_g5_0_x_8255_8256 : g5_0 x0 (8255 : Int32) (8256 : Int32) = (0 : Int32) := (if_pos q32)
  have e_f5_x_8255_8256 : f5 x0 (8255 : Int32) (8256 : Int32) = (0 : Int32) := e_g5_0_x_8255_8256
  have e_g5_0_x_8304_8591 : g5_0 x0 (8304 : Int32) (8591 : Int32) = (0 : Int32) := (if_pos q15)
  have e_f5_x_8304_8591 : f5 x0 (8304 : Int32) (8591 : Int32) = (0 : Int32) := e_g5_0_x_8304_8591
  have e_g5_0_x_11264_12271 : g5_0 x0 (11264 : Int32) (12271 : Int32) = (0 : Int32) := (if_pos q16)
  have e_f5_x_11264_12271 : f5 x0 (11264 : Int32) (12271 : Int32) = (0 : Int32) := e_g5_0_x_11264_12271
  have e_g5_0_x_12289_55295 : g5_0 x0 (12289 : Int32) (55295 : Int32) = (0 : Int32) := (if_pos q17)
  have e_f5_x_12289_55295 : f5 x0 (12289 : Int32) (55295 : Int32) = (0 : Int32) := e_g5_0_x_12289_55295
  have e_g5_0_x_63744_64975 : g5_0 x0 (63744 : Int32) (64975 : Int32) = (0 : Int32) := (if_pos q18)
  have e_f5_x_63744_64975 : f5 x0 (63744 : Int32) (64975 : Int32) = (0 : Int32) := e_g5_0_x_63744_64975
  have e_g5_0_x_65008_65533 : g5_0 x0 (65008 : Int32) (65533 : Int32) = (0 : Int32) := (if_pos q19)
  have e_f5_x_65008_65533 : f5 x0 (65008 : Int32) (65533 : Int32) = (0 : Int32) := e_g5_0_x_65008_65533
  have e_g4_0_x : g4_0 x0 = (0 : Int32) := ((if_neg q30).trans ((if_neg q31).trans ((if_neg q25).trans ((if_pos (by rw [e_f5_x_192_214])).trans ((if_pos (by rw [e_f5_x_216_246])).trans ((if_pos (by rw [e_f5_x_248_893])).trans ((if_pos (by rw [e_f5_x_895_8191])).trans ((if_pos (by rw [e_f5_x_8204_8205])).trans ((if_pos (by rw [e_f5_x_8255_8256])).trans ((if_pos (by rw [e_f5_x_8304_8591])).trans ((if_pos (by rw [e_f5_x_11264_12271])).trans ((if_pos (by rw [e_f5_x_12289_55295])).trans ((if_pos (by rw [e_f5_x_63744_64975])).trans (if_pos (by rw [e_f5_x_65008_65533])))))))))))))))
  have e_f4_x : f4 x0 = (0 : Int32) := e_g4_0_x
  rw [e_f1_x, e_f4_x]
theorem own_iv_46 (x0 : Int32) (h1 : (8204 : Int) ≤ x0.toInt) (h2 : x0.toInt < (8205 : Int)) : f1 x0 = f4 x0 := by
  have q0 : ¬ x0 < (65 : Int32) := own_nlt h1 (by decide)
  have q1 : (90 : Int32) < x0 := own_gt h1 (by decide)
  have q2 : ¬ x0 < (97 : Int32) := own_nlt h1 (by decide)
  have q3 : (122 : Int32) < x0 := own_gt h1 (by decide)
  have q4 : ¬ x0 < (192 : Int32) := own_nlt h1 (by decide)
  have q5 : (214 : Int32) < x0 := own_gt h1 (by decide)
  have q6 : ¬ x0 < (216 : Int32) := own_nlt h1 (by decide)
  have q7 : (246 : Int32) < x0 := own_gt h1 (by decide)
  have q8 : ¬ x0 < (248 : Int32) := own_nlt h1 (by decide)
  have q9 : (767 : Int32) < x0 := own_gt h1 (by decide)
  have q10 : ¬ x0 < (880 : Int32) := own_nlt h1 (by decide)
  have q11 : (893 : Int32) < x0 := own_gt h1 (by decide)
  have q12 : ¬ x0 < (895 : Int32) := own_nlt h1 (by decide)
  have q13 : (8191 : Int32) < x0 := own_gt h1 (by decide)
  have q14 : ¬ x0 < (8204 : Int32) := own_nlt h1 (by decide)
  have q15 : ¬ (8205 : Int32) < x0 := own_ngt h2 (by decide)
  have e_g3_94_x : g3_94 x0 = (1 : Int32) := ((if_neg q14).trans (if_neg q15))
  have e_g3_80_x : g3_80 x0 = (1 : Int32) := ((if_neg q12).trans ((if_pos q13).trans e_g3_94_x))
  have e_g3_66_x : g3_66 x0 = (1 : Int32) := ((if_neg q10).trans ((if_pos q11).trans e_g3_80_x))
  have e_g3_52_x : g3_52 x0 = (1 : Int32) := ((if_neg q8).trans ((if_pos q9).trans e_g3_66_x))
  have e_g3_38_x : g3_38 x0 = (1 : Int32) := ((if_neg q6).trans ((if_pos q7).trans e_g3_52_x))
  have e_g3_24_x : g3_24 x0 = (1 : Int32) := ((if_neg q4).trans ((if_pos q5).trans e_g3_38_x))
  have e_g3_12_x : g3_12 x0 = (1 : Int32) := ((if_neg q2).trans ((if_pos q3).trans e_g3_24_x))
  have e_g3_0_x : g3_0 x0 = (1 : Int32) := ((if_neg q0).trans ((if_pos q1).trans e_g3_12_x))
  have e_f3_x : f3 x0 = (1 : Int32) := e_g3_0_x
  have e_g2_0_x : g2_0 x0 = (1 : Int32) := (if_neg (by rw [e_f3_x]; decide))
  have e_f2_x : f2 x0 = (1 : Int32) := e_g2_0_x
  have e_g1_0_x : g1_0 x0 = (1 : Int32) := (if_neg (by rw [e_f2_x]; decide))
  have e_f1_x : f1 x0 = (1 : Int32) := e_g1_0_x
  have q16 : ¬ x0 < (128 : Int32) := own_nlt h1 (by decide)
  have q17 : ¬ (65535 : Int32) < x0 := own_ngt h2 (by decide)
  have q18 : ¬ x0 = (183 : Int32) := own_ne1 h1 (by decide)
  have e_g5_0_x_192_214 : g5_0 x0 (192 : Int32) (214 : Int32) = (0 : Int32) := ((if_neg q4).trans (if_pos q5))
  have e_f5_x_192_214 : f5 x0 (192 : Int32) (214 : Int32) = (0 : Int32) := e_g5_0_x_192_214
  have e_g5_0_x_216_246 : g5_0 x0 (216 : Int32) (246 : Int32) = (0 : Int32) := ((if_neg q6).trans (if_pos q7))
  have e_f5_x_216_246 : f5 x0 (216 : Int32) (246 : Int32) = (0 : Int32) := e_g5_0_x_216_246
  have e_g5_0_x_248_893 : g5_0 x0 (248 : Int32) (893 : Int32) = (0 : Int32) := ((if_neg q8).trans (if_pos q11))
  have e_f5_x_248_893 : f5 x0 (248 : Int32) (893 : Int32) = (0 : Int32) := e_g5_0_x_248_893
  have e_g5_0_x_895_8191 : g5_0 x0 (895 : Int32) (8191 : Int32) = (0 : Int32) := ((if_neg q12).trans (if_pos q13))
  have e_f5_x_895_8191 : f5 x0 (895 : Int32) (8191 : Int32) = (0 : Int32) := e_g5_0_x_895_8191
  have e_g5_0_x_8204_8205 : g5_0 x0 (8204 : Int32) (8205 : Int32) = (1 : Int32) := ((if_neg q14).trans (if_neg q15))
  have e_f5_x_8204_8205 : f5 x0 (8204 : Int32) (8205 : Int32) = (1 : Int32) := e_g5_0_x_8204_8205
  have e_g4_0_x : g4_0 x0 = (1 : Int32) := ((if_neg q16).trans ((if_neg q17).trans ((if_neg q18).trans ((if_pos (by rw [e_f5_x_192_214])).trans ((if_pos (by rw [e_f5_x_216_246])).trans ((if_pos (by rw [e_f5_x_248_893])).trans ((if_pos (by rw [e_f5_x_895_8191])).trans (if_neg (by rw [e_f5_x_8204_8205]; decide)))))))))
  have e_f4_x : f4 x0 = (1 : Int32) := e_g4_0_x
  rw [e_f1_x, e_f4_x]
theorem own_iv_47 (x0 : Int32) (h1 : (8205 : Int) ≤ x0.toInt) (h2 : x0.toInt < (8206 : Int)) : f1 x0 = f4 x0 := by
  have q0 : ¬ x0 < (65 : Int32) := own_nlt h1 (by decide)
  have q1 : (90 : Int32) < x0 := own_gt h1 (by decide)
  have q2 : ¬ x0 < (97 : Int32) := own_nlt h1 (by decide)
  have q3 : (122 : Int32) < x0 := own_gt h1 (by decide)
  have q4 : ¬ x0 < (192 : Int32) := own_nlt h1 (by decide)
  have q5 : (214 : Int32) < x0 := own_gt h1 (by decide)
  have q6 : ¬ x0 < (216 : Int32) := own_nlt h1 (by decide)
  have q7 : (246 : Int32) < x0 := own_gt h1 (by decide)
  have q8 : ¬ x0 < (248 : Int32) := own_nlt h1 (by decide)
  have q9 : (767 : Int32) < x0 := own_gt h1 (by decide)
  have q10 : ¬ x0 < (880 : Int32) := own_nlt h1 (by decide)
  have q11 : (893 : Int32) < x0 := own_gt h1 (by decide)
  have q12 : ¬ x0 < (895 : Int32) := own_nlt h1 (by decide)
  have q13 : (8191 : Int32) < x0 := own_gt h1 (by decide)
  have q14 : ¬ x0 < (8204 : Int32) := own_nlt h1 (by decide)
  have q15 : ¬ (8205 : Int32) < x0 := own_ngt h2 (by decide)
  have e_g3_94_x : g3_94 x0 = (1 : Int32) := ((if_neg q14).trans (if_neg q15))
  have e_g3_80_x : g3_80 x0 = (1 : Int32) := ((if_neg q12).trans ((if_pos q13).trans e_g3_94_x))
  have e_g3_66_x : g3_66 x0 = (1 : Int32) := ((if_neg q10).trans ((if_pos q11).trans e_g3_80_x))
  have e_g3_52_x : g3_52 x0 = (1 : Int32) := ((if_neg q8).trans ((if_pos q9).trans e_g3_66_x))
  have e_g3_38_x : g3_38 x0 = (1 : Int32) := ((if_neg q6).trans ((if_pos q7).trans e_g3_52_x))
  have e_g3_24_x : g3_24 x0 = (1 : Int32) := ((if_neg q4).trans ((if_pos q5).trans e_g3_38_x))
  have e_g3_12_x : g3_12 x0 = (1 : Int32) := ((if_neg q2).trans ((if_pos q3).trans e_g3_24_x))
  have e_g3_0_x : g3_0 x0 = (1 : Int32) := ((if_neg q0).trans ((if_pos q1).trans e_g3_12_x))
  have e_f3_x : f3 x0 = (1 : Int32) := e_g3_0_x
  have e_g2_0_x : g2_0 x0 = (1 : Int32) := (if_neg (by rw [e_f3_x]; decide))
  have e_f2_x : f2 x0 = (1 : Int32) := e_g2_0_x
  have e_g1_0_x : g1_0 x0 = (1 : Int32) := (if_neg (by rw [e_f2_x]; decide))
  have e_f1_x : f1 x0 = (1 : Int32) := e_g1_0_x
  have q16 : ¬ x0 < (128 : Int32) := own_nlt h1 (by decide)
  have q17 : ¬ (65535 : Int32) < x0 := own_ngt h2 (by decide)
  have q18 : ¬ x0 = (183 : Int32) := own_ne1 h1 (by decide)
  have e_g5_0_x_192_214 : g5_0 x0 (192 : Int32) (214 : Int32) = (0 : Int32) := ((if_neg q4).trans (if_pos q5))
  have e_f5_x_192_214 : f5 x0 (192 : Int32) (214 : Int32) = (0 : Int32) := e_g5_0_x_192_214
  have e_g5_0_x_216_246 : g5_0 x0 (216 : Int32) (246 : Int32) = (0 : Int32) := ((if_neg q6).trans (if_pos q7))
  have e_f5_x_216_246 : f5 x0 (216 : Int32) (246 : Int32) = (0 : Int32) := e_g5_0_x_216_246
  have e_g5_0_x_248_893 : g5_0 x0 (248 : Int32) (893 : Int32) = (0 : Int32) := ((if_neg q8).trans (if_pos q11))
  have e_f5_x_248_893 : f5 x0 (248 : Int32) (893 : Int32) = (0 : Int32) := e_g5_0_x_248_893
  have e_g5_0_x_895_8191 : g5_0 x0 (895 : Int32) (8191 : Int32) = (0 : Int32) := ((if_neg q12).trans (if_pos q13))
  have e_f5_x_895_8191 : f5 x0 (895 : Int32) (8191 : Int32) = (0 : Int32) := e_g5_0_x_895_8191
  have e_g5_0_x_8204_8205 : g5_0 x0 (8204 : Int32) (8205 : Int32) = (1 : Int32) := ((if_neg q14).trans (if_neg q15))
  have e_f5_x_8204_8205 : f5 x0 (8204 : Int32) (8205 : Int32) = (1 : Int32) := e_g5_0_x_8204_8205
  have e_g4_0_x : g4_0 x0 = (1 : Int32) := ((if_neg q16).trans ((if_neg q17).trans ((if_neg q18).trans ((if_pos (by rw [e_f5_x_192_214])).trans ((if_pos (by rw [e_f5_x_216_246])).trans ((if_pos (by rw [e_f5_x_248_893])).trans ((if_pos (by rw [e_f5_x_895_8191])).trans (if_neg (by rw [e_f5_x_8204_8205]; decide)))))))))
  have e_f4_x : f4 x0 = (1 : Int32) := e_g4_0_x
  rw [e_f1_x, e_f4_x]
theorem own_iv_48 (x0 : Int32) (h1 : (8206 : Int) ≤ x0.toInt) (h2 : x0.toInt < (8255 : Int)) : f1 x0 = f4 x0 := by
  have q0 : ¬ x0 < (65 : Int32) := own_nlt h1 (by decide)
  have q1 : (90 : Int32) < x0 := own_gt h1 (by decide)
  have q2 : ¬ x0 < (97 : Int32) := own_nlt h1 (by decide)
  have q3 : (122 : Int32) < x0 := own_gt h1 (by decide)
  have q4 : ¬ x0 < (192 : Int32) := own_nlt h1 (by decide)
  have q5 : (214 : Int32) < x0 := own_gt h1 (by decide)
  have q6 : ¬ x0 < (216 : Int32) := own_nlt h1 (by decide)
  have q7 : (246 : Int32) < x0 := own_gt h1 (by decide)
  have q8 : ¬ x0 < (248 : Int32) := own_nlt h1 (by decide)
  have q9 : (767 : Int32) < x0 := own_gt h1 (by decide)
  have q10 : ¬ x0 < (880 : Int32) := own_nlt h1 (by decide)
  have q11 : (893 : Int32) < x0 := own_gt h1 (by decide)
  have q12 : ¬ x0 < (895 : Int32) := own_nlt h1 (by decide)
  have q13 : (8191 : Int32) < x0 := own_gt h1 (by decide)
  have q14 : ¬ x0 < (8204 : Int32) := own_nlt h1 (by decide)
  have q15 : (8205 : Int32) < x0 := own_gt h1 (by decide)
  have q16 : x0 < (8304 : Int32) := own_lt h2 (by decide)
  have q17 : x0 < (11264 : Int32) := own_lt h2 (by decide)
  have q18 : x0 < (12289 : Int32) := own_lt h2 (by decide)
  have q19 : x0 < (63744 : Int32) := own_lt h2 (by decide)
  have q20 : x0 < (65008 : Int32) := own_lt h2 (by decide)
  have q21 : x0 < (65536 : Int32) := own_lt h2 (by decide)
  have e_g3_178_x : g3_178 x0 = (0 : Int32) := (if_pos q21)
  have e_g3_164_x : g3_164 x0 = (0 : Int32) := ((if_pos q20).trans e_g3_178_x)
  have e_g3_150_x : g3_150 x0 = (0 : Int32) := ((if_pos q19).trans e_g3_164_x)
  have e_g3_136_x : g3_136 x0 = (0 : Int32) := ((if_pos q18).trans e_g3_150_x)
  have e_g3_122_x : g3_122 x0 = (0 : Int32) := ((if_pos q17).trans e_g3_136_x)
  have e_g3_108_x : g3_108 x0 = (0 : Int32) := ((if_pos q16).trans e_g3_122_x)
  have e_g3_94_x : g3_94 x0 = (0 : Int32) := ((if_neg q14).trans ((if_pos q15).trans e_g3_108_x))
  have e_g3_80_x : g3_80 x0 = (0 : Int32) := ((if_neg q12).trans ((if_pos q13).trans e_g3_94_x))
  have e_g3_66_x : g3_66 x0 = (0 : Int32) := ((if_neg q10).trans ((if_pos q11).trans e_g3_80_x))
  have e_g3_52_x : g3_52 x0 = (0 : Int32) := ((if_neg q8).trans ((if_pos q9).trans e_g3_66_x))
  have e_g3_38_x : g3_38 x0 = (0 : Int32) := ((if_neg q6).trans ((if_pos q7).trans e_g3_52_x))
  have e_g3_24_x : g3_24 x0 = (0 : Int32) := ((if_neg q4).trans ((if_pos q5).trans e_g3_38_x))
  have e_g3_12_x : g3_12 x0 = (0 : Int32) := ((if_neg q2).trans ((if_pos q3).trans e_g3_24_x))
  have e_g3_0_x : g3_0 x0 = (0 : Int32) := ((if_neg q0).trans ((if_pos q1).trans e_g3_12_x))
  have e_f3_x : f3 x0 = (0 : Int32) := e_g3_0_x
  have q22 : ¬ x0 = (95 : Int32) := own_ne1 h1 (by decide)
  have e_g2_0_x : g2_0 x0 = (0 : Int32) := ((if_pos (by rw [e_f3_x])).trans (if_neg q22))
  have e_f2_x : f2 x0 = (0 : Int32) := e_g2_0_x
  have q23 : ¬ x0 = (45 : Int32) := own_ne1 h1 (by decide)
  have q24 : ¬ x0 < (48 : Int32) := own_nlt h1 (by decide)
  have q25 : (57 : Int32) < x0 := own_gt h1 (by decide)
  have q26 : ¬ x0 = (183 : Int32) := own_ne1 h1 (by decide)
  have q27 : ¬ x0 < (768 : Int32) := own_nlt h1 (by decide)
  have q28 : (879 : Int32) < x0 := own_gt h1 (by decide)
  have q29 : ¬ x0 = (8255 : Int32) := own_ne2 h2 (by decide)
  have q30 : ¬ x0 = (8256 : Int32) := own_ne2 h2 (by decide)
  have e_g1_46_x : g1_46 x0 = (0 : Int32) := ((if_neg q29).trans (if_neg q30))
  have e_g1_25_x : g1_25 x0 = (0 : Int32) := ((if_neg q26).trans ((if_neg q27).trans ((if_pos q28).trans e_g1_46_x)))
  have e_g1_0_x : g1_0 x0 = (0 : Int32) := ((if_pos (by rw [e_f2_x])).trans ((if_neg q23).trans ((if_neg q24).trans ((if_pos q25).trans e_g1_25_x))))
  have e_f1_x : f1 x0 = (0 : Int32) := e_g1_0_x
  have q31 : ¬ x0 < (128 : Int32) := own_nlt h1 (by decide)
  have q32 : ¬ (65535 : Int32) < x0 := own_ngt h2 (by decide)
  have e_g5_0_x_192_214 : g5_0 x0 (192 : Int32) (214 : Int32) = (0 : Int32) := ((if_neg q4).trans (if_pos q5))
  have e_f5_x_192_214 : f5 x0 (192 : Int32) (214 : Int32) = (0 : Int32) := e_g5_0_x_192_214
  have e_g5_0_x_216_246 : g5_0 x0 (216 : Int32) (246 : Int32) = (0 : Int32) := ((if_neg q6).trans (if_pos q7))
  have e_f5_x_216_246 : f5 x0 (216 : Int32) (246 : Int32) = (0 : Int32) := e_g5_0_x_216_246
  have e_g5_0_x_248_893 : g5_0 x0 (248 : Int32) (893 : Int32) = (0 : Int32) := ((if_neg q8).trans (if_pos q11))
  have e_f5_x_248_893 : f5 x0 (248 : Int32) (893 : Int32) = (0 : Int32) := e_g5_0_x_248_893
  have e_g5_0_x_895_8191 : g5_0 x0 (895 : Int32) (8191 : Int32) = (0 : Int32) := ((if_neg q12).trans (if_pos q13))
  have e_f5_x_895_8191 : f5 x0 (895 : Int32) (8191 : Int32) = (0 : Int32) := e_g5_0_x_895_8191
  have e_g5_0_x_8204_8205 : g5_0 x0 (8204 : Int32) (8205 : Int32) = (0 : Int32) := ((if_neg q14).trans (if_pos q15))
  have e_f5_x_8204_8205 : f5 x0 (8204 : Int32) (8205 : Int32) = (0 : Int32) := e_g5_0_x_8204_8205
  have q33 : x0 < (8255 : Int32) := own_lt h2 (by decide)
  have e_g5_0_x_8255_8256 : g5_0 x0 (8255 : Int32) (8256 : Int32) = (0 : Int32) := (if_pos q33)
  have e_f5_x_8255_8256 : f5 x0 (8255 : Int32) (8256 : Int32) = (0 : Int32) := e_g5_0_x_8255_8256
  have e_g5_0_x_8304_8591 : g5_0 x0 (8304 : Int32) (8591 : Int32) = (0 : Int32) := (if_pos q16)
  have e_f5_x_8304_8591 : f5 x0 (8304 : Int32) (8591 : Int32) = (0 : Int32) := e_g5_0_x_8304_8591
  have e_g5_0_x_11264_12271 : g5_0 x0 (11264 : Int32) (12271 : Int32) = (0 : Int32) := (if_pos q17)
  have e_f5_x_11264_12271 : f5 x0 (11264 : Int32) (12271 : Int32) = (0 : Int32) := e_g5_0_x_11264_12271
  have e_g5_0_x_12289_55295 : g5_0 x0 (12289 : Int32) (55295 : Int32) = (0 : Int32) := (if_pos q18)
  have e_f5_x_12289_55295 : f5 x0 (12289 : Int32) (55295 : Int32) = (0 : Int32) := e_g5_0_x_12289_55295
  have e_g5_0_x_63744_64975 : g5_0 x0 (63744 : Int32) (64975 : Int32) = (0 : Int32) := (if_pos q19)
  have e_f5_x_63744_64975 : f5 x0 (63744 : Int32) (64975 : Int32) = (0 : Int32) := e_g5_0_x_63744_64975
  have e_g5_0_x_65008_65533 : g5_0 x0 (65008 : Int32) (65533 : Int32) = (0 : Int32) := (if_pos q20)
  have e_f5_x_65008_65533 : f5 x0 (65008 : Int32) (65533 : Int32) = (0 : Int32) := e_g5_0_x_65008_65533
  have e_g4_0_x : g4_0 x0 = (0 : Int32) := ((if_neg q31).trans ((if_neg q32).trans ((if_neg q26).trans ((if_pos (by rw [e_f5_x_192_214])).trans ((if_pos (by rw [e_f5_x_216_246])).trans ((if_pos (by rw [e_f5_x_248_893])).trans ((if_pos (by rw [e_f5_x_895_8191])).trans ((if_pos (by rw [e_f5_x_8204_8205])).trans ((if_pos (by rw [e_f5_x_8255_8256])).trans ((if_pos (by rw [e_f5_x_8304_8591])).trans ((if_pos (by rw [e_f5_x_11264_12271])).trans ((if_pos (by rw [e_f5_x_12289_55295])).trans ((if_pos (by rw [e_f5_x_63744_64975])).trans (if_pos (by rw [e_f5_x_65008_65533])))))))))))))))
  have e_f4_x : f4 x0 = (0 : Int32) := e_g4_0_x
  rw [e_f1_x, e_f4_x]
theorem own_iv_49 (x0 : Int32) (h1 : (8255 : Int) ≤ x0.toInt) (h2 : x0.toInt < (8256 : Int)) : f1 x0 = f4 x0 := by
  have q0 : ¬ x0 < (65 : Int32) := own_nlt h1 (by decide)
  have q1 : (90 : Int32) < x0 := own_gt h1 (by decide)
  have q2 : ¬ x0 < (97 : Int32) := own_nlt h1 (by decide)
  have q3 : (122 : Int32) < x0 := own_gt h1 (by decide)
  have q4 : ¬ x0 < (192 : Int32) := own_nlt h1 (by decide)
  have q5 : (214 : Int32) < x0 := own_gt h1 (by decide)
  have q6 : ¬ x0 < (216 : Int32) := own_nlt h1 (by decide)
  have q7 : (246 : Int32) < x0 := own_gt h1 (by decide)
  have q8 : ¬ x0 < (248 : Int32) := own_nlt h1 (by decide)
  have q9 : (767 : Int32) < x0 := own_gt h1 (by decide)
  have q10 : ¬ x0 < (880 : Int32) := own_nlt h1 (by decide)
  have q11 : (893 : Int32) < x0 := own_gt h1 (by decide)
  have q12 : ¬ x0 < (895 : Int32) := own_nlt h1 (by decide)
  have q13 : (8191 : Int32) < x0 := own_gt h1 (by decide)
  have q14 : ¬ x0 < (8204 : Int32) := own_nlt h1 (by decide)
  have q15 : (8205 : Int32) < x0 := own_gt h1 (by decide)
  have q16 : x0 < (8304 : Int32) := own_lt h2 (by decide)
  have q17 : x0 < (11264 : Int32) := own_lt h2 (by decide)
  have q18 : x0 < (12289 : Int32) := own_lt h2 (by decide)
  have q19 : x0 < (63744 : Int32) := own_lt h2 (by decide)
  have q20 : x0 < (65008 : Int32) := own_lt h2 (by decide)
  have q21 : x0 < (65536 : Int32) := own_lt h2 (by decide)
  have e_g3_178_x : g3_178 x0 = (0 : Int32) := (if_pos q21)
  have e_g3_164_x : g3_164 x0 = (0 : Int32) := ((if_pos q20).trans e_g3_178_x)
  have e_g3_150_x : g3_150 x0 = (0 : Int32) := ((if_pos q19).trans e_g3_164_x)
  have e_g3_136_x : g3_136 x0 = (0 : Int32) := ((if_pos q18).trans e_g3_150_x)
  have e_g3_122_x : g3_122 x0 = (0 : Int32) := ((if_pos q17).trans e_g3_136_x)
  have e_g3_108_x : g3_108 x0 = (0 : Int32) := ((if_pos q16).trans e_g3_122_x)
  have e_g3_94_x : g3_94 x0 = (0 : Int32) := ((if_neg q14).trans ((if_pos q15).trans e_g3_108_x))
  have e_g3_80_x : g3_80 x0 = (0 : Int32) := ((if_neg q12).trans ((if_pos q13).trans e_g3_94_x))
  have e_g3_66_x : g3_66 x0 = (0 : Int32) := ((if_neg q10).trans ((if_pos q11).trans e_g3_80_x))
  have e_g3_52_x : g3_52 x0 = (0 : Int32) := ((if_neg q8).trans ((if_pos q9).trans e_g3_66_x))
  have e_g3_38_x : g3_38 x0 = (0 : Int32) := ((if_neg q6).trans ((if_pos q7).trans e_g3_52_x))
  have e_g3_24_x : g3_24 x0 = (0 : Int32) := ((if_neg q4).trans ((if_pos q5).trans e_g3_38_x))
  have e_g3_12_x : g3_12 x0 = (0 : Int32) := ((if_neg q2).trans ((if_pos q3).trans e_g3_24_x))
  have e_g3_0_x : g3_0 x0 = (0 : Int32) := ((if_neg q0).trans ((if_pos q1).trans e_g3_12_x))
  have e_f3_x : f3 x0 = (0 : Int32) := e_g3_0_x
  have q22 : ¬ x0 = (95 : Int32) := own_ne1 h1 (by decide)
  have e_g2_0_x : g2_0 x0 = (0 : Int32) := ((if_pos (by rw [e_f3_x])).trans (if_neg q22))
  have e_f2_x : f2 x0 = (0 : Int32) := e_g2_0_x
  have q23 : ¬ x0 = (45 : Int32) := own_ne1 h1 (by decide)
  have q24 : ¬ x0 < (48 : Int32) := own_nlt h1 (by decide)
  have q25 : (57 : Int32) < x0 := own_gt h1 (by decide)
  have q26 : ¬ x0 = (183 : Int32) := own_ne1 h1 (by decide)
  have q27 : ¬ x0 < (768 : Int32) := own_nlt h1 (by decide)
  have q28 : (879 : Int32) < x0 := own_gt h1 (by decide)
  have q29 : x0 = (8255 : Int32) := own_eq h1 h2 (by decide)
  have e_g1_46_x : g1_46 x0 = (1 : Int32) := (if_pos q29)
  have e_g1_25_x : g1_25 x0 = (1 : Int32) := ((if_neg q26).trans ((if_neg q27).trans ((if_pos q28).trans e_g1_46_x)))
  have e_g1_0_x : g1_0 x0 = (1 : Int32) := ((if_pos (by rw [e_f2_x])).trans ((if_neg q23).trans ((if_neg q24).trans ((if_pos q25).trans e_g1_25_x))))
  have e_f1_x : f1 x0 = (1 : Int32) := e_g1_0_x
  have q30 : ¬ x0 < (128 : Int32) := own_nlt h1 (by decide)
  have q31 : ¬ (65535 : Int32) < x0 := own_ngt h2 (by decide)
  have e_g5_0_x_192_214 : g5_0 x0 (192 : Int32) (214 : Int32) = (0 : Int32) := ((if_neg q4).trans (if_pos q5))
  have e_f5_x_192_214 : f5 x0 (192 : Int32) (214 : Int32) = (0 : Int32) := e_g5_0_x_192_214
  have e_g5_0_x_216_246 : g5_0 x0 (216 : Int32) (246 : Int32) = (0 : Int32) := ((if_neg q6).trans (if_pos q7))
  have e_f5_x_216_246 : f5 x0 (216 : Int32) (246 : Int32) = (0 : Int32) := e_g5_0_x_216_246
  have e_g5_0_x_248_893 : g5_0 x0 (248 : Int32) (893 : Int32) = (0 : Int32) := ((if_neg q8).trans (if_pos q11))
  have e_f5_x_248_893 : f5 x0 (248 : Int32) (893 : Int32) = (0 : Int32) := e_g5_0_x_248_893
  have e_g5_0_x_895_8191 : g5_0 x0 (895 : Int32) (8191 : Int32) = (0 : Int32) := ((if_neg q12).trans (if_pos q13))
  have e_f5_x_895_8191 : f5 x0 (895 : Int32) (8191 : Int32) = (0 : Int32) := e_g5_0_x_895_8191
  have e_g5_0_x_8204_8205 : g5_0 x0 (8204 : Int32) (8205 : Int32) = (0 : Int32) := ((if_neg q14).trans (if_pos q15))
  have e_f5_x_8204_8205 : f5 x0 (8204 : Int32) (8205 : Int32) = (0 : Int32) := e_g5_0_x_8204_8205
  have q32 : ¬ x0 < (8255 : Int32) := own_nlt h1 (by decide)
  have q33 : ¬ (8256 : Int32) < x0 := own_ngt h2 (by decide)
  have e_g5_0_x_8255_8256 : g5_0 x0 (8255 : Int32) (8256 : Int32) = (1 : Int32) := ((if_neg q32).trans (if_neg q33))
  have e_f5_x_8255_8256 : f5 x0 (8255 : Int32) (8256 : Int32) = (1 : Int32) := e_g5_0_x_8255_8256
  have e_g4_0_x : g4_0 x0 = (1 : Int32) := ((if_neg q30).trans ((if_neg q31).trans ((if_neg q26).trans ((if_pos (by rw [e_f5_x_192_214])).trans ((if_pos (by rw [e_f5_x_216_246])).trans ((if_pos (by rw [e_f5_x_248_893])).trans ((if_pos (by rw [e_f5_x_895_8191])).trans ((if_pos (by rw [e_f5_x_8204_8205])).trans (if_neg (by rw [e_f5_x_8255_8256]; decide))))))))))
  have e_f4_x : f4 x0 = (1 : Int32) := e_g4_0_x
  rw [e_f1_x, e_f4_x]
theorem own_iv_50 (x0 : Int32) (h1 : (8256 : Int) ≤ x0.toInt) (h2 : x0.toInt < (8257 : Int)) : f1 x0 = f4 x0 := by
  have q0 : ¬ x0 < (65 : Int32) := own_nlt h1 (by decide)
  have q1 : (90 : Int32) < x0 := own_gt h1 (by decide)
  have q2 : ¬ x0 < (97 : Int32) := own_nlt h1 (by decide)
  have q3 : (122 : Int32) < x0 := own_gt h1 (by decide)
  have q4 : ¬ x0 < (192 : Int32) := own_nlt h1 (by decide)
  have q5 : (214 : Int32) < x0 := own_gt h1 (by decide)
  have q6 : ¬ x0 < (216 : Int32) := own_nlt h1 (by decide)
  have q7 : (246 : Int32) < x0 := own_gt h1 (by decide)
  have q8 : ¬ x0 < (248 : Int32) := own_nlt h1 (by decide)
  have q9 : (767 : Int32) < x0 := own_gt h1 (by decide)
  have q10 : ¬ x0 < (880 : Int32) := own_nlt h1 (by decide)
  have q11 : (893 : Int32) < x0 := own_gt h1 (by decide)
  have q12 : ¬ x0 < (895 : Int32) := own_nlt h1 (by decide)
  have q13 : (8191 : Int32) < x0 := own_gt h1 (by decide)
  have q14 : ¬ x0 < (8204 : Int32) := own_nlt h1 (by decide)
  have q15 : (8205 : Int32) < x0 := own_gt h1 (by decide)
  have q16 : x0 < (8304 : Int32) := own_lt h2 (by decide)
  have q17 : x0 < (11264 : Int32) := own_lt h2 (by decide)
  have q18 : x0 < (12289 : Int32) := own_lt h2 (by decide)
  have q19 : x0 < (63744 : Int32) := own_lt h2 (by decide)
  have q20 : x0 < (65008 : Int32) := own_lt h2 (by decide)
  have q21 : x0 < (65536 : Int32) := own_lt h2 (by decide)
  have e_g3_178_x : g3_178 x0 = (0 : Int32) := (if_pos q21)
  have e_g3_164_x : g3_164 x0 = (0 : Int32) := ((if_pos q20).trans e_g3_178_x)
  have e_g3_150_x : g3_150 x0 = (0 : Int32) := ((if_pos q19).trans e_g3_164_x)
  have e_g3_136_x : g3_136 x0 = (0 : Int32) := ((if_pos q18).trans e_g3_150_x)
  have e_g3_122_x : g3_122 x0 = (0 : Int32) := ((if_pos q17).trans e_g3_136_x)
  have e_g3_108_x : g3_108 x0 = (0 : Int32) := ((if_pos q16).trans e_g3_122_x)
  have e_g3_94_x : g3_94 x0 = (0 : Int32) := ((if_neg q14).trans ((if_pos q15).trans e_g3_108_x))
  have e_g3_80_x : g3_80 x0 = (0 : Int32) := ((if_neg q12).trans ((if_pos q13).trans e_g3_94_x))
  have e_g3_66_x : g3_66 x0 = (0 : Int32) := ((if_neg q10).trans ((if_pos q11).trans e_g3_80_x))
  have e_g3_52_x : g3_52 x0 = (0 : Int32) := ((if_neg q8).trans ((if_pos q9).trans e_g3_66_x))
  have e_g3_38_x : g3_38 x0 = (0 : Int32) := ((if_neg q6).trans ((if_pos q7).trans e_g3_52_x))
  have e_g3_24_x : g3_24 x0 = (0 : Int32) := ((if_neg q4).trans ((if_pos q5).trans e_g3_38_x))
  have e_g3_12_x : g3_12 x0 = (0 : Int32) := ((if_neg q2).trans ((if_pos q3).trans e_g3_24_x))
  have e_g3_0_x : g3_0 x0 = (0 : Int32) := ((if_neg q0).trans ((if_pos q1).trans e_g3_12_x))
  have e_f3_x : f3 x0 = (0 : Int32) := e_g3_0_x
  have q22 : ¬ x0 = (95 : Int32) := own_ne1 h1 (by decide)
  have e_g2_0_x : g2_0 x0 = (0 : Int32) := ((if_pos (by rw [e_f3_x])).trans (if_neg q22))
  have e_f2_x : f2 x0 = (0 : Int32) := e_g2_0_x
  have q23 : ¬ x0 = (45 : Int32) := own_ne1 h1 (by decide)
  have q24 : ¬ x0 < (48 : Int32) := own_nlt h1 (by decide)
  have q25 : (57 : Int32) < x0 := own_gt h1 (by decide)
  have q26 : ¬ x0 = (183 : Int32) := own_ne1 h1 (by decide)
  have q27 : ¬ x0 < (768 : Int32) := own_nlt h1 (by decide)
  have q28 : (879 : Int32) < x0 := own_gt h1 (by decide)
  have q29 : ¬ x0 = (8255 : Int32) := own_ne1 h1 (by decide)
  have q30 : x0 = (8256 : Int32) := own_eq h1 h2 (by decide)
  have e_g1_46_x : g1_46 x0 = (1 : Int32) := ((if_neg q29).trans (if_pos q30))
  have e_g1_25_x : g1_25 x0 = (1 : Int32) := ((if_neg q26).trans ((if_neg q27).trans ((if_pos q28).trans e_g1_46_x)))
  have e_g1_0_x : g1_0 x0 = (1 : Int32) := ((if_pos (by rw [e_f2_x])).trans ((if_neg q23).trans ((if_neg q24).trans ((if_pos q25).trans e_g1_25_x))))
  have e_f1_x : f1 x0 = (1 : Int32) := e_g1_0_x
  have q31 : ¬ x0 < (128 : Int32) := own_nlt h1 (by decide)
  have q32 : ¬ (65535 : Int32) < x0 := own_ngt h2 (by decide)
  have e_g5_0_x_192_214 : g5_0 x0 (192 : Int32) (214 : Int32) = (0 : Int32) := ((if_neg q4).trans (if_pos q5))
  have e_f5_x_192_214 : f5 x0 (192 : Int32) (214 : Int32) = (0 : Int32) := e_g5_0_x_192_214
  have e_g5_0_x_216_246 : g5_0 x0 (216 : Int32) (246 : Int32) = (0 : Int32) := ((if_neg q6).trans (if_pos q7))
  have e_f5_x_216_246 : f5 x0 (216 : Int32) (246 : Int32) = (0 : Int32) := e_g5_0_x_216_246
  have e_g5_0_x_248_893 : g5_0 x0 (248 : Int32) (893 : Int32) = (0 : Int32) := ((if_neg q8).trans (if_pos q11))
  have e_f5_x_248_893 : f5 x0 (248 : Int32) (893 : Int32) = (0 : Int32) := e_g5_0_x_248_893
  have e_g5_0_x_895_8191 : g5_0 x0 (895 : Int32) (8191 : Int32) = (0 : Int32) := ((if_neg q12).trans (if_pos q13))
  have e_f5_x_895_8191 : f5 x0 (895 : Int32) (8191 : Int32) = (0 : Int32) := e_g5_0_x_895_8191
  have e_g5_0_x_8204_8205 : g5_0 x0 (8204 : Int32) (8205 : Int32) = (0 : Int32) := ((if_neg q14).trans (if_pos q15))
  have e_f5_x_8204_8205 : f5 x0 (8204 : Int32) (8205 : Int32) = (0 : Int32) := e_g5_0_x_8204_8205
  have q33 : ¬ x0 < (8255 : Int32) := own_nlt h1 (by decide)
  have q34 : ¬ (8256 : Int32) < x0 := own_ngt h2 (by decide)
  have e_g5_0_x_8255_8256 : g5_0 x0 (8255 : Int32) (8256 : Int32) = (1 : Int32) := ((if_neg q33).trans (if_neg q34))
  have e_f5_x_8255_8256 : f5 x0 (8255 : Int32) (8256 : Int32) = (1 : Int32) := e_g5_0_x_8255_8256
  have e_g4_0_x : g4_0 x0 = (1 : Int32) := ((if_neg q31).trans ((if_neg q32).trans ((if_neg q26).trans ((if_pos (by rw [e_f5_x_192_214])).trans ((if_pos (by rw [e_f5_x_216_246])).trans ((if_pos (by rw [e_f5_x_248_893])).trans ((if_pos (by rw [e_f5_x_895_8191])).trans ((if_pos (by rw [e_f5_x_8204_8205])).trans (if_neg (by rw [e_f5_x_8255_8256]; decide))))))))))
  have e_f4_x : f4 x0 = (1 : Int32) := e_g4_0_x
  rw [e_f1_x, e_f4_x]
theorem own_iv_51 (x0 : Int32) (h1 : (8257 : Int) ≤ x0.toInt) (h2 : x0.toInt < (8304 : Int)) : f1 x0 = f4 x0 := by
  have q0 : ¬ x0 < (65 : Int32) := own_nlt h1 (by decide)
  have q1 : (90 : Int32) < x0 := own_gt h1 (by decide)
  have q2 : ¬ x0 < (97 : Int32) := own_nlt h1 (by decide)
  have q3 : (122 : Int32) < x0 := own_gt h1 (by decide)
  have q4 : ¬ x0 < (192 : Int32) := own_nlt h1 (by decide)
  have q5 : (214 : Int32) < x0 := own_gt h1 (by decide)
  have q6 : ¬ x0 < (216 : Int32) := own_nlt h1 (by decide)
  have q7 : (246 : Int32) < x0 := own_gt h1 (by decide)
  have q8 : ¬ x0 < (248 : Int32) := own_nlt h1 (by decide)
  have q9 : (767 : Int32) < x0 := own_gt h1 (by decide)
  have q10 : ¬ x0 < (880 : Int32) := own_nlt h1 (by decide)
  have q11 : (893 : Int32) < x0 := own_gt h1 (by decide)
  have q12 : ¬ x0 < (895 : Int32) := own_nlt h1 (by decide)
  have q13 : (8191 : Int32) < x0 := own_gt h1 (by decide)
  have q14 : ¬ x0 < (8204 : Int32) := own_nlt h1 (by decide)
  have q15 : (8205 : Int32) < x0 := own_gt h1 (by decide)
  have q16 : x0 < (8304 : Int32) := own_lt h2 (by decide)
  have q17 : x0 < (11264 : Int32) := own_lt h2 (by decide)
  have q18 : x0 < (12289 : Int32) := own_lt h2 (by decide)
  have q19 : x0 < (63744 : Int32) := own_lt h2 (by decide)
  have q20 : x0 < (65008 : Int32) := own_lt h2 (by decide)
  have q21 : x0 < (65536 : Int32) := own_lt h2 (by decide)
  have e_g3_178_x : g3_178 x0 = (0 : Int32) := (if_pos q21)
  have e_g3_164_x : g3_164 x0 = (0 : Int32) := ((if_pos q20).trans e_g3_178_x)
  have e_g3_150_x : g3_150 x0 = (0 : Int32) := ((if_pos q19).trans e_g3_164_x)
  have e_g3_136_x : g3_136 x0 = (0 : Int32) := ((if_pos q18).trans e_g3_150_x)
  have e_g3_122_x : g3_122 x0 = (0 : Int32) := ((if_pos q17).trans e_g3_136_x)
  have e_g3_108_x : g3_108 x0 = (0 : Int32) := ((if_pos q16).trans e_g3_122_x)
  have e_g3_94_x : g3_94 x0 = (0 : Int32) := ((if_neg q14).trans ((if_pos q15).trans e_g3_108_x))
  have e_g3_80_x : g3_80 x0 = (0 : Int32) := ((if_neg q12).trans ((if_pos q13).trans e_g3_94_x))
  have e_g3_66_x : g3_66 x0 = (0 : Int32) := ((if_neg q10).trans ((if_pos q11).trans e_g3_80_x))
  have e_g3_52_x : g3_52 x0 = (0 : Int32) := ((if_neg q8).trans ((if_pos q9).trans e_g3_66_x))
  have e_g3_38_x : g3_38 x0 = (0 : Int32) := ((if_neg q6).trans ((if_pos q7).trans e_g3_52_x))
  have e_g3_24_x : g3_24 x0 = (0 : Int32) := ((if_neg q4).trans ((if_pos q5).trans e_g3_38_x))
  have e_g3_12_x : g3_12 x0 = (0 : Int32) := ((if_neg q2).trans ((if_pos q3).trans e_g3_24_x))
  have e_g3_0_x : g3_0 x0 = (0 : Int32) := ((if_neg q0).trans ((if_pos q1).trans e_g3_12_x))
  have e_f3_x : f3 x0 = (0 : Int32) := e_g3_0_x
  have q22 : ¬ x0 = (95 : Int32) := own_ne1 h1 (by decide)
  have e_g2_0_x : g2_0 x0 = (0 : Int32) := ((if_pos (by rw [e_f3_x])).trans (if_neg q22))
  have e_f2_x : f2 x0 = (0 : Int32) := e_g2_0_x
  have q23 : ¬ x0 = (45 : Int32) := own_ne1 h1 (by decide)
  have q24 : ¬ x0 < (48 : Int32) := own_nlt h1 (by decide)
  have q25 : (57 : Int32) < x0 := own_gt h1 (by decide)
  have q26 : ¬ x0 = (183 : Int32) := own_ne1 h1 (by decide)
  have q27 : ¬ x0 < (768 : Int32) := own_nlt h1 (by decide)
  have q28 : (879 : Int32) < x0 := own_gt h1 (by decide)
  have q29 : ¬ x0 = (8255 : Int32) := own_ne1 h1 (by decide)
  have q30 : ¬ x0 = (8256 : Int32) := own_ne1 h1 (by decide)
  have e_g1_46_x : g1_46 x0 = (0 : Int32) := ((if_neg q29).trans (if_neg q30))
  have e_g1_25_x : g1_25 x0 = (0 : Int32) := ((if_neg q26).trans ((if_neg q27).trans ((if_pos q28).trans e_g1_46_x)))
  have e_g1_0_x : g1_0 x0 = (0 : Int32) := ((if_pos (by rw [e_f2_x])).trans ((if_neg q23).trans ((if_neg q24).trans ((if_pos q25).trans e_g1_25_x))))
  have e_f1_x : f1 x0 = (0 : Int32) := e_g1_0_x
  have q31 : ¬ x0 < (128 : Int32) := own_nlt h1 (by decide)
  have q32 : ¬ (65535 : Int32) < x0 := own_ngt h2 (by decide)
  have e_g5_0_x_192_214 : g5_0 x0 (192 : Int32) (214 : Int32) = (0 : Int32) := ((if_neg q4).trans (if_pos q5))
  have e_f5_x_192_214 : f5 x0 (192 : Int32) (214 : Int32) = (0 : Int32) := e_g5_0_x_192_214
  have e_g5_0_x_216_246 : g5_0 x0 (216 : Int32) (246 : Int32) = (0 : Int32) := ((if_neg q6).trans (if_pos q7))
  have e_f5_x_216_246 : f5 x0 (216 : Int32) (246 : Int32) = (0 : Int32) := e_g5_0_x_216_246
  have e_g5_0_x_248_893 : g5_0 x0 (248 : Int32) (893 : Int32) = (0 : Int32) := ((if_neg q8).trans (if_pos q11))
  have e_f5_x_248_893 : f5 x0 (248 : Int32) (893 : Int32) = (0 : Int32) := e_g5_0_x_248_893
  have e_g5_0_x_895_8191 : g5_0 x0 (895 : Int32) (8191 : Int32) = (0 : Int32) := ((if_neg q12).trans (if_pos q13))
  have e_f5_x_895_8191 : f5 x0 (895 : Int32) (8191 : Int32) = (0 : Int32) := e_g5_0_x_895_8191
  have e_g5_0_x_8204_8205 : g5_0 x0 (8204 : Int32) (8205 : Int32) = (0 : Int32) := ((if_neg q14).trans (if_pos q15))
  have e_f5_x_8204_8205 : f5 x0 (8204 : Int32) (8205 : Int32) = (0 : Int32) := e_g5_0_x_8204_8205
  have q33 : ¬ x0 < (8255 : Int32) := own_nlt h1 (by decide)
  have q34 : (8256 : Int32) < x0 := own_gt h1 (by decide)
  have e_g5_0_x_8255_8256 : g5_0 x0 (8255 : Int32) (8256 : Int32) = (0 : Int32) := ((if_neg q33).trans (if_pos q34))
  have e_f5_x_8255_8256 : f5 x0 (8255 : Int32) (8256 : Int32) = (0 : Int32) := e_g5_0_x_8255_8256
  have e_g5_0_x_8304_8591 : g5_0 x0 (8304 : Int32) (8591 : Int32) = (0 : Int32) := (if_pos q16)
  have e_f5_x_8304_8591 : f5 x0 (8304 : Int32) (8591 : Int32) = (0 : Int32) := e_g5_0_x_8304_8591
  have e_g5_0_x_11264_12271 : g5_0 x0 (11264 : Int32) (12271 : Int32) = (0 : Int32) := (if_pos q17)
  have e_f5_x_11264_12271 : f5 x0 (11264 : Int32) (12271 : Int32) = (0 : Int32) := e_g5_0_x_11264_12271
  have e_g5_0_x_12289_55295 : g5_0 x0 (12289 : Int32) (55295 : Int32) = (0 : Int32) := (if_pos q18)
  have e_f5_x_12289_55295 : f5 x0 (12289 : Int32) (55295 : Int32) = (0 : Int32) := e_g5_0_x_12289_55295
  have e_g5_0_x_63744_64975 : g5_0 x0 (63744 : Int32) (64975 : Int32) = (0 : Int32) := (if_pos q19)
  have e_f5_x_63744_64975 : f5 x0 (63744 : Int32) (64975 : Int32) = (0 : Int32) := e_g5_0_x_63744_64975
  have e_g5_0_x_65008_65533 : g5_0 x0 (65008 : Int32) (65533 : Int32) = (0 : Int32) := (if_pos q20)
  have e_f5_x_65008_65533 : f5 x0 (65008 : Int32) (65533 : Int32) = (0 : Int32) := e_g5_0_x_65008_65533
  have e_g4_0_x : g4_0 x0 = (0 : Int32) := ((if_neg q31).trans ((if_neg q32).trans ((if_neg q26).trans ((if_pos (by rw [e_f5_x_192_214])).trans ((if_pos (by rw [e_f5_x_216_246])).trans ((if_pos (by rw [e_f5_x_248_893])).trans ((if_pos (by rw [e_f5_x_895_8191])).trans ((if_pos (by rw [e_f5_x_8204_8205])).trans ((if_pos (by rw [e_f5_x_8255_8256])).trans ((if_pos (by rw [e_f5_x_8304_8591])).trans ((if_pos (by rw [e_f5_x_11264_12271])).trans ((if_pos (by rw [e_f5_x_12289_55295])).trans ((if_pos (by rw [e_f5_x_63744_64975])).trans (if_pos (by rw [e_f5_x_65008_65533])))))))))))))))
  have e_f4_x : f4 x0 = (0 : Int32) := e_g4_0_x
  rw [e_f1_x, e_f4_x]
theorem own_iv_52 (x0 : Int32) (h1 : (8304 : Int) ≤ x0.toInt) (h2 : x0.toInt < (8305 : Int)) : f1 x0 = f4 x0 := by
  have q0 : ¬ x0 < (65 : Int32) := own_nlt h1 (by decide)
  have q1 : (90 : Int32) < x0 := own_gt h1 (by decide)
  have q2 : ¬ x0 < (97 : Int32) := own_nlt h1 (by decide)
  have q3 : (122 : Int32) < x0 := own_gt h1 (by decide)
  have q4 : ¬ x0 < (192 : Int32) := own_nlt h1 (by decide)
  have q5 : (214 : Int32) < x0 := own_gt h1 (by decide)
  have q6 : ¬ x0 < (216 : Int32) := own_nlt h1 (by decide)
  have q7 : (246 : Int32) < x0 := own_gt h1 (by decide)
  have q8 : ¬ x0 < (248 : Int32) := own_nlt h1 (by decide)
  have q9 : (767 : Int32) < x0 := own_gt h1 (by decide)
  have q10 : ¬ x0 < (880 : Int32) := own_nlt h1 (by decide)
  have q11 : (893 : Int32) < x0 := own_gt h1 (by decide)
  have q12 : ¬ x0 < (895 : Int32) := own_nlt h1 (by decide)
  have q13 : (8191 : Int32) < x0 := own_gt h1 (by decide)
  have q14 : ¬ x0 < (8204 : Int32) := own_nlt h1 (by decide)
  have q15 : (8205 : Int32) < x0 := own_gt h1 (by decide)
  have q16 : ¬ x0 < (8304 : Int32) := own_nlt h1 (by decide)
  have q17 : ¬ (8591 : Int32) < x0 := own_ngt h2 (by decide)
  have e_g3_108_x : g3_108 x0 = (1 : Int32) := ((if_neg q16).trans (if_neg q17))
  have e_g3_94_x : g3_94 x0 = (1 : Int32) := ((if_neg q14).trans ((if_pos q15).trans e_g3_108_x))
  have e_g3_80_x : g3_80 x0 = (1 : Int32) := ((if_neg q12).trans ((if_pos q13).trans e_g3_94_x))
  have e_g3_66_x : g3_66 x0 = (1 : Int32) := ((if_neg q10).trans ((if_pos q11).trans e_g3_80_x))
  have e_g3_52_x : g3_52 x0 = (1 : Int32) := ((if_neg q8).trans ((if_pos q9).trans e_g3_66_x))
  have e_g3_38_x : g3_38 x0 = (1 : Int32) := ((if_neg q6).trans ((if_pos q7).trans e_g3_52_x))
  have e_g3_24_x : g3_24 x0 = (1 : Int32) := ((if_neg q4).trans ((if_pos q5).trans e_g3_38_x))
  have e_g3_12_x : g3_12 x0 = (1 : Int32) := ((if_neg q2).trans ((if_pos q3).trans e_g3_24_x))
  have e_g3_0_x : g3_0 x0 = (1 : Int32) := ((if_neg q0).trans ((if_pos q1).trans e_g3_12_x))
  have e_f3_x : f3 x0 = (1 : Int32) := e_g3_0_x
  have e_g2_0_x : g2_0 x0 = (1 : Int32) := (if_neg (by rw [e_f3_x]; decide))
  have e_f2_x : f2 x0 = (1 : Int32) := e_g2_0_x
  have e_g1_0_x : g1_0 x0 = (1 : Int32) := (if_neg (by rw [e_f2_x]; decide))
  have e_f1_x : f1 x0 = (1 : Int32) := e_g1_0_x
  have q18 : ¬ x0 < (128 : Int32) := own_nlt h1 (by decide)
  have q19 : ¬ (65535 : Int32) < x0 := own_ngt h2 (by decide)
  have q20 : ¬ x0 = (183 : Int32) := own_ne1 h1 (by decide)
  have e_g5_0_x_192_214 : g5_0 x0 (192 : Int32) (214 : Int32) = (0 : Int32) := ((if_neg q4).trans (if_pos q5))
  have e_f5_x_192_214 : f5 x0 (192 : Int32) (214 : Int32) = (0 : Int32) := e_g5_0_x_192_214
  have e_g5_0_x_216_246 : g5_0 x0 (216 : Int32) (246 : Int32) = (0 : Int32) := ((if_neg q6).trans (if_pos q7))
  have e_f5_x_216_246 : f5 x0 (216 : Int32) (246 : Int32) = (0 : Int32) := e_g5_0_x_216_246
  have e_g5_0_x_248_893 : g5_0 x0 (248 : Int32) (893 : Int32) = (0 : Int32) := ((if_neg q8).trans (if_pos q11))
  have e_f5_x_248_893 : f5 x0 (248 : Int32) (893 : Int32) = (0 : Int32) := e_g5_0_x_248_893
  have e_g5_0_x_895_8191 : g5_0 x0 (895 : Int32) (8191 : Int32) = (0 : Int32) := ((if_neg q12).trans (if_pos q13))
  have e_f5_x_895_8191 : f5 x0 (895 : Int32) (8191 : Int32) = (0 : Int32) := e_g5_0_x_895_8191
  have e_g5_0_x_8204_8205 : g5_0 x0 (8204 : Int32) (8205 : Int32) = (0 : Int32) := ((if_neg q14).trans (if_pos q15))
  have e_f5_x_8204_8205 : f5 x0 (8204 : Int32) (8205 : Int32) = (0 : Int32) := e_g5_0_x_8204_8205
  have q21 : ¬ x0 < (8255 : Int32) := own_nlt h1 (by decide)
  have q22 : (8256 : Int32) < x0 := own_gt h1 (by decide)
  have e_g5_0_x_8255_8256 : g5_0 x0 (8255 : Int32) (8256 : Int32) = (0 : Int32) := ((if_neg q21).trans (if_pos q22))
  have e_f5_x_8255_8256 : f5 x0 (8255 : Int32) (8256 : Int32) = (0 : Int32) := e_g5_0_x_8255_8256
  have e_g5_0_x_8304_8591 : g5_0 x0 (8304 : Int32) (8591 : Int32) = (1 : Int32) := ((if_neg q16).trans (if_neg q17))
  have e_f5_x_8304_8591 : f5 x0 (8304 : Int32) (8591 : Int32) = (1 : Int32) := e_g5_0_x_8304_8591
  have e_g4_0_x : g4_0 x0 = (1 : Int32) := ((if_neg q18).trans ((if_neg q19).trans ((if_neg q20).trans ((if_pos (by rw [e_f5_x_192_214])).trans ((if_pos (by rw [e_f5_x_216_246])).trans ((if_pos (by rw [e_f5_x_248_893])).trans ((if_pos (by rw [e_f5_x_895_8191])).trans ((if_pos (by rw [e_f5_x_8204_8205])).trans ((if_pos (by rw [e_f5_x_8255_8256])).trans (if_neg (by rw [e_f5_x_8304_8591]; decide)))))))))))
  have e_f4_x : f4 x0 = (1 : Int32) := e_g4_0_x
  rw [e_f1_x, e_f4_x]
theorem own_iv_53 (x0 : Int32) (h1 : (8305 : Int) ≤ x0.toInt) (h2 : x0.toInt < (8591 : Int)) : f1 x0 = f4 x0 := by
  have q0 : ¬ x0 < (65 : Int32) := own_nlt h1 (by decide)
  have q1 : (90 : Int32) < x0 := own_gt h1 (by decide)
  have q2 : ¬ x0 < (97 : Int32) := own_nlt h1 (by decide)
  have q3 : (122 : Int32) < x0 := own_gt h1 (by decide)
  have q4 : ¬ x0 < (192 : Int32) := own_nlt h1 (by decide)
  have q5 : (214 : Int32) < x0 := own_gt h1 (by decide)
  have q6 : ¬ x0 < (216 : Int32) := own_nlt h1 (by decide)
  have q7 : (246 : Int32) < x0 := own_gt h1 (by decide)
  have q8 : ¬ x0 < (248 : Int32) := own_nlt h1 (by decide)
  have q9 : (767 : Int32) < x0 := own_gt h1 (by decide)
  have q10 : ¬ x0 < (880 : Int32) := own_nlt h1 (by decide)
  have q11 : (893 : Int32) < x0 := own_gt h1 (by decide)
  have q12 : ¬ x0 < (895 : Int32) := own_nlt h1 (by decide)
  have q13 : (8191 : Int32) < x0 := own_gt h1 (by decide)
  have q14 : ¬ x0 < (8204 : Int32) := own_nlt h1 (by decide)
  have q15 : (8205 : Int32) < x0 := own_gt h1 (by decide)
  have q16 : ¬ x0 < (8304 : Int32) := own_nlt h1 (by decide)
  have q17 : ¬ (8591 : Int32) < x0 := own_ngt h2 (by decide)
  have e_g3_108_x : g3_108 x0 = (1 : Int32) := ((if_neg q16).trans (if_neg q17))
  have e_g3_94_x : g3_94 x0 = (1 : Int32) := ((if_neg q14).trans ((if_pos q15).trans e_g3_108_x))
  have e_g3_80_x : g3_80 x0 = (1 : Int32) := ((if_neg q12).trans ((if_pos q13).trans e_g3_94_x))
  have e_g3_66_x : g3_66 x0 = (1 : Int32) := ((if_neg q10).trans ((if_pos q11).trans e_g3_80_x))
  have e_g3_52_x : g3_52 x0 = (1 : Int32) := ((if_neg q8).trans ((if_pos q9).trans e_g3_66_x))
  have e_g3_38_x : g3_38 x0 = (1 : Int32) := ((if_neg q6).trans ((if_pos q7).trans e_g3_52_x))
  have e_g3_24_x : g3_24 x0 = (1 : Int32) := ((if_neg q4).trans ((if_pos q5).trans e_g3_38_x))
  have e_g3_12_x : g3_12 x0 = (1 : Int32) := ((if_neg q2).trans ((if_pos q3).trans e_g3_24_x))
  have e_g3_0_x : g3_0 x0 = (1 : Int32) := ((if_neg q0).trans ((if_pos q1).trans e_g3_12_x))
  have e_f3_x : f3 x0 = (1 : Int32) := e_g3_0_x
  have e_g2_0_x : g2_0 x0 = (1 : Int32) := (if_neg (by rw [e_f3_x]; decide))
  have e_f2_x : f2 x0 = (1 : Int32) := e_g2_0_x
  have e_g1_0_x : g1_0 x0 = (1 : Int32) := (if_neg (by rw [e_f2_x]; decide))
  have e_f1_x : f1 x0 = (1 : Int32) := e_g1_0_x
  have q18 : ¬ x0 < (128 : Int32) := own_nlt h1 (by decide)
  have q19 : ¬ (65535 : Int32) < x0 := own_ngt h2 (by decide)
  have q20 : ¬ x0 = (183 : Int32) := own_ne1 h1 (by decide)
  have e_g5_0_x_192_214 : g5_0 x0 (192 : Int32) (214 : Int32) = (0 : Int32) := ((if_neg q4).trans (if_pos q5))
  have e_f5_x_192_214 : f5 x0 (192 : Int32) (214 : Int32) = (0 : Int32) := e_g5_0_x_192_214
  have e_g5_0_x_216_246 : g5_0 x0 (216 : Int32) (246 : Int32) = (0 : Int32) := ((if_neg q6).trans (if_pos q7))
  have e_f5_x_216_246 : f5 x0 (216 : Int32) (246 : Int32) = (0 : Int32) := e_g5_0_x_216_246
  have e_g5_0_x_248_893 : g5_0 x0 (248 : Int32) (893 : Int32) = (0 : Int32) := ((if_neg q8).trans (if_pos q11))
  have e_f5_x_248_893 : f5 x0 (248 : Int32) (893 : Int32) = (0 : Int32) := e_g5_0_x_248_893
  have e_g5_0_x_895_8191 : g5_0 x0 (895 : Int32) (8191 : Int32) = (0 : Int32) := ((if_neg q12).trans (if_pos q13))
  have e_f5_x_895_8191 : f5 x0 (895 : Int32) (8191 : Int32) = (0 : Int32) := e_g5_0_x_895_8191
  have e_g5_0_x_8204_8205 : g5_0 x0 (8204 : Int32) (8205 : Int32) = (0 : Int32) := ((if_neg q14).trans (if_pos q15))
  have e_f5_x_8204_8205 : f5 x0 (8204 : Int32) (8205 : Int32) = (0 : Int32) := e_g5_0_x_8204_8205
  have q21 : ¬ x0 < (8255 : Int32) := own_nlt h1 (by decide)
  have q22 : (8256 : Int32) < x0 := own_gt h1 (by decide)
  have e_g5_0_x_8255_8256 : g5_0 x0 (8255 : Int32) (8256 : Int32) = (0 : Int32) := ((if_neg q21).trans (if_pos q22))
  have e_f5_x_8255_8256 : f5 x0 (8255 : Int32) (8256 : Int32) = (0 : Int32) := e_g5_0_x_8255_8256
  have e_g5_0_x_8304_8591 : g5_0 x0 (8304 : Int32) (8591 : Int32) = (1 : Int32) := ((if_neg q16).trans (if_neg q17))
  have e_f5_x_8304_8591 : f5 x0 (8304 : Int32) (8591 : Int32) = (1 : Int32) := e_g5_0_x_8304_8591
  have e_g4_0_x : g4_0 x0 = (1 : Int32) := ((if_neg q18).trans ((if_neg q19).trans ((if_neg q20).trans ((if_pos (by rw [e_f5_x_192_214])).trans ((if_pos (by rw [e_f5_x_216_246])).trans ((if_pos (by rw [e_f5_x_248_893])).trans ((if_pos (by rw [e_f5_x_895_8191])).trans ((if_pos (by rw [e_f5_x_8204_8205])).trans ((if_pos (by rw [e_f5_x_8255_8256])).trans (if_neg (by rw [e_f5_x_8304_8591]; decide)))))))))))
  have e_f4_x : f4 x0 = (1 : Int32) := e_g4_0_x
  rw [e_f1_x, e_f4_x]
theorem own_iv_54 (x0 : Int32) (h1 : (8591 : Int) ≤ x0.toInt) (h2 : x0.toInt < (8592 : Int)) : f1 x0 = f4 x0 := by
  have q0 : ¬ x0 < (65 : Int32) := own_nlt h1 (by decide)
  have q1 : (90 : Int32) < x0 := own_gt h1 (by decide)
  have q2 : ¬ x0 < (97 : Int32) := own_nlt h1 (by decide)
  have q3 : (122 : Int32) < x0 := own_gt h1 (by decide)
  have q4 : ¬ x0 < (192 : Int32) := own_nlt h1 (by decide)
  have q5 : (214 : Int32) < x0 := own_gt h1 (by decide)
  have q6 : ¬ x0 < (216 : Int32) := own_nlt h1 (by decide)
  have q7 : (246 : Int32) < x0 := own_gt h1 (by decide)
  have q8 : ¬ x0 < (248 : Int32) := own_nlt h1 (by decide)
  have q9 : (767 : Int32) < x0 := own_gt h1 (by decide)
  have q10 : ¬ x0 < (880 : Int32) := own_nlt h1 (by decide)
  have q11 : (893 : Int32) < x0 := own_gt h1 (by decide)
  have q12 : ¬ x0 < (895 : Int32) := own_nlt h1 (by decide)
  have q13 : (8191 : Int32) < x0 := own_gt h1 (by decide)
  have q14 : ¬ x0 < (8204 : Int32) := own_nlt h1 (by decide)
  have q15 : (8205 : Int32) < x0 := own_gt h1 (by decide)
  have q16 : ¬ x0 < (8304 : Int32) := own_nlt h1 (by decide)
  have q17 : ¬ (8591 : Int32) < x0 := own_ngt h2 (by decide)
  have e_g3_108_x : g3_108 x0 = (1 : Int32) := ((if_neg q16).trans (if_neg q17))
  have e_g3_94_x : g3_94 x0 = (1 : Int32) := ((if_neg q14).trans ((if_pos q15).trans e_g3_108_x))
  have e_g3_80_x : g3_80 x0 = (1 : Int32) := ((if_neg q12).trans ((if_pos q13).trans e_g3_94_x))
  have e_g3_66_x : g3_66 x0 = (1 : Int32) := ((if_neg q10).trans ((if_pos q11).trans e_g3_80_x))
  have e_g3_52_x : g3_52 x0 = (1 : Int32) := ((if_neg q8).trans ((if_pos q9).trans e_g3_66_x))
  have e_g3_38_x : g3_38 x0 = (1 : Int32) := ((if_neg q6).trans ((if_pos q7).trans e_g3_52_x))
  have e_g3_24_x : g3_24 x0 = (1 : Int32) := ((if_neg q4).trans ((if_pos q5).trans e_g3_38_x))
  have e_g3_12_x : g3_12 x0 = (1 : Int32) := ((if_neg q2).trans ((if_pos q3).trans e_g3_24_x))
  have e_g3_0_x : g3_0 x0 = (1 : Int32) := ((if_neg q0).trans ((if_pos q1).trans e_g3_12_x))
  have e_f3_x : f3 x0 = (1 : Int32) := e_g3_0_x
  have e_g2_0_x : g2_0 x0 = (1 : Int32) := (if_neg (by rw [e_f3_x]; decide))
  have e_f2_x : f2 x0 = (1 : Int32) := e_g2_0_x
  have e_g1_0_x : g1_0 x0 = (1 : Int32) := (if_neg (by rw [e_f2_x]; decide))
  have e_f1_x : f1 x0 = (1 : Int32) := e_g1_0_x
  have q18 : ¬ x0 < (128 : Int32) := own_nlt h1 (by decide)
  have q19 : ¬ (65535 : Int32) < x0 := own_ngt h2 (by decide)
  have q20 : ¬ x0 = (183 : Int32) := own_ne1 h1 (by decide)
  have e_g5_0_x_192_214 : g5_0 x0 (192 : Int32) (214 : Int32) = (0 : Int32) := ((if_neg q4).trans (if_pos q5))
  have e_f5_x_192_214 : f5 x0 (192 : Int32) (214 : Int32) = (0 : Int32) := e_g5_0_x_192_214
  have e_g5_0_x_216_246 : g5_0 x0 (216 : Int32) (246 : Int32) = (0 : Int32) := ((if_neg q6).trans (if_pos q7))
  have e_f5_x_216_246 : f5 x0 (216 : Int32) (246 : Int32) = (0 : Int32) := e_g5_0_x_216_246
  have e_g5_0_x_248_893 : g5_0 x0 (248 : Int32) (893 : Int32) = (0 : Int32) := ((if_neg q8).trans (if_pos q11))
  have e_f5_x_248_893 : f5 x0 (248 : Int32) (893 : Int32) = (0 : Int32) := e_g5_0_x_248_893
  have e_g5_0_x_895_8191 : g5_0 x0 (895 : Int32) (8191 : Int32) = (0 : Int32) := ((if_neg q12).trans (if_pos q13))
  have e_f5_x_895_8191 : f5 x0 (895 : Int32) (8191 : Int32) = (0 : Int32) := e_g5_0_x_895_8191
  have e_g5_0_x_8204_8205 : g5_0 x0 (8204 : Int32) (8205 : Int32) = (0 : Int32) := ((if_neg q14).trans (if_pos q15))
  have e_f5_x_8204_8205 : f5 x0 (8204 : Int32) (8205 : Int32) = (0 : Int32) := e_g5_0_x_8204_8205
  have q21 : ¬ x0 < (8255 : Int32) := own_nlt h1 (by decide)
  have q22 : (8256 : Int32) < x0 := own_gt h1 (by decide)
  have e_g5_0_x_8255_8256 : g5_0 x0 (8255 : Int32) (8256 : Int32) = (0 : Int32) := ((if_neg q21).trans (if_pos q22))
  have e_f5_x_8255_8256 : f5 x0 (8255 : Int32) (8256 : Int32) = (0 : Int32) := e_g5_0_x_8255_8256
  have e_g5_0_x_8304_8591 : g5_0 x0 (8304 : Int32) (8591 : Int32) = (1 : Int32) := ((if_neg q16).trans (if_neg q17))
  have e_f5_x_8304_8591 : f5 x0 (8304 : Int32) (8591 : Int32) = (1 : Int32) := e_g5_0_x_8304_8591
  have e_g4_0_x : g4_0 x0 = (1 : Int32) := ((if_neg q18).trans ((if_neg q19).trans ((if_neg q20).trans ((if_pos (by rw [e_f5_x_192_214])).trans ((if_pos (by rw [e_f5_x_216_246])).trans ((if_pos (by rw [e_f5_x_248_893])).trans ((if_pos (by rw [e_f5_x_895_8191])).trans ((if_pos (by rw [e_f5_x_8204_8205])).trans ((if_pos (by rw [e_f5_x_8255_8256])).trans (if_neg (by rw [e_f5_x_8304_8591]; decide)))))))))))
  have e_f4_x : f4 x0 = (1 : Int32) := e_g4_0_x
  rw [e_f1_x, e_f4_x]
theorem own_iv_55 (x0 : Int32) (h1 : (8592 : Int) ≤ x0.toInt) (h2 : x0.toInt < (11264 : Int)) : f1 x0 = f4 x0 := by
  have q0 : ¬ x0 < (65 : Int32) := own_nlt h1 (by decide)
  have q1 : (90 : Int32) < x0 := own_gt h1 (by decide)
  have q2 : ¬ x0 < (97 : Int32) := own_nlt h1 (by decide)
  have q3 : (122 : Int32) < x0 := own_gt h1 (by decide)
  have q4 : ¬ x0 < (192 : Int32) := own_nlt h1 (by decide)
  have q5 : (214 : Int32) < x0 := own_gt h1 (by decide)
  have q6 : ¬ x0 < (216 : Int32) := own_nlt h1 (by decide)
  have q7 : (246 : Int32) < x0 := own_gt h1 (by decide)
  have q8 : ¬ x0 < (248 : Int32) := own_nlt h1 (by decide)
  have q9 : (767 : Int32) < x0 := own_gt h1 (by decide)
  have q10 : ¬ x0 < (880 : Int32) := own_nlt h1 (by decide)
  have q11 : (893 : Int32) < x0 := own_gt h1 (by decide)
  have q12 : ¬ x0 < (895 : Int32) := own_nlt h1 (by decide)
  have q13 : (8191 : Int32) < x0 := own_gt h1 (by decide)
  have q14 : ¬ x0 < (8204 : Int32) := own_nlt h1 (by decide)
  have q15 : (8205 : Int32) < x0 := own_gt h1 (by decide)
  have q16 : ¬ x0 < (8304 : Int32) := own_nlt h1 (by decide)
  have q17 : (8591 : Int32) < x0 := own_gt h1 (by decide)
  have q18 : x0 < (11264 : Int32) := own_lt h2 (by decide)
  have q19 : x0 < (12289 : Int32) := own_lt h2 (by decide)
  have q20 : x0 < (63744 : Int32) := own_lt h2 (by decide)
  have q21 : x0 < (65008 : Int32) := own_lt h2 (by decide)
  have q22 : x0 < (65536 : Int32) := own_lt h2 (by decide)
  have e_g3_178_x : g3_178 x0 = (0 : Int32) := (if_pos q22)
  have e_g3_164_x : g3_164 x0 = (0 : Int32) := ((if_pos q21).trans e_g3_178_x)
  have e_g3_150_x : g3_150 x0 = (0 : Int32) := ((if_pos q20).trans e_g3_164_x)
  have e_g3_136_x : g3_136 x0 = (0 : Int32) := ((if_pos q19).trans e_g3_150_x)
  have e_g3_122_x : g3_122 x0 = (0 : Int32) := ((if_pos q18).trans e_g3_136_x)
  have e_g3_108_x : g3_108 x0 = (0 : Int32) := ((if_neg q16).trans ((if_pos q17).trans e_g3_122_x))
  have e_g3_94_x : g3_94 x0 = (0 : Int32) := ((if_neg q14).trans ((if_pos q15).trans e_g3_108_x))
  have e_g3_80_x : g3_80 x0 = (0 : Int32) := ((if_neg q12).trans ((if_pos q13).trans e_g3_94_x))
  have e_g3_66_x : g3_66 x0 = (0 : Int32) := ((if_neg q10).trans ((if_pos q11).trans e_g3_80_x))
  have e_g3_52_x : g3_52 x0 = (0 : Int32) := ((if_neg q8).trans ((if_pos q9).trans e_g3_66_x))
  have e_g3_38_x : g3_38 x0 = (0 : Int32) := ((if_neg q6).trans ((if_pos q7).trans e_g3_52_x))
  have e_g3_24_x : g3_24 x0 = (0 : Int32) := ((if_neg q4).trans ((if_pos q5).trans e_g3_38_x))
  have e_g3_12_x : g3_12 x0 = (0 : Int32) := ((if_neg q2).trans ((if_pos q3).trans e_g3_24_x))
  have e_g3_0_x : g3_0 x0 = (0 : Int32) := ((if_neg q0).trans ((if_pos q1).trans e_g3_12_x))
  have e_f3_x : f3 x0 = (0 : Int32) := e_g3_0_x
  have q23 : ¬ x0 = (95 : Int32) := own_ne1 h1 (by decide)
  have e_g2_0_x : g2_0 x0 = (0 : Int32) := ((if_pos (by rw [e_f3_x])).trans (if_neg q23))
  have e_f2_x : f2 x0 = (0 : Int32) := e_g2_0_x
  have q24 : ¬ x0 = (45 : Int32) := own_ne1 h1 (by decide)
  have q25 : ¬ x0 < (48 : Int32) := own_nlt h1 (by decide)
  have q26 : (57 : Int32) < x0 := own_gt h1 (by decide)
  have q27 : ¬ x0 = (183 : Int32) := own_ne1 h1 (by decide)
  have q28 : ¬ x0 < (768 : Int32) := own_nlt h1 (by decide)
  have q29 : (879 : Int32) < x0 := own_gt h1 (by decide)
  have q30 : ¬ x0 = (8255 : Int32) := own_ne1 h1 (by decide)
  have q31 : ¬ x0 = (8256 : Int32) := own_ne1 h1 (by decide)
  have e_g1_46_x : g1_46 x0 = (0 : Int32) := ((if_neg q30).trans (if_neg q31))
  have e_g1_25_x : g1_25 x0 = (0 : Int32) := ((if_neg q27).trans ((if_neg q28).trans ((if_pos q29).trans e_g1_46_x)))
  have e_g1_0_x : g1_0 x0 = (0 : Int32) := ((if_pos (by rw [e_f2_x])).trans ((if_neg q24).trans ((if_neg q25).trans ((if_pos q26).trans e_g1_25_x))))
  have e_f1_x : f1 x0 = (0 : Int32) := e_g1_0_x
  have q32 : ¬ x0 < (128 : Int32) := own_nlt h1 (by decide)
  have q33 : ¬ (65535 : Int32) < x0 := own_ngt h2 (by decide)
  have e_g5_0_x_192_214 : g5_0 x0 (192 : Int32) (214 : Int32) = (0 : Int32) := ((if_neg q4).trans (if_pos q5))
  have e_f5_x_192_214 : f5 x0 (192 : Int32) (214 : Int32) = (0 : Int32) := e_g5_0_x_192_214
  have e_g5_0_x_216_246 : g5_0 x0 (216 : Int32) (246 : Int32) = (0 : Int32) := ((if_neg q6).trans (if_pos q7))
  have e_f5_x_216_246 : f5 x0 (216 : Int32) (246 : Int32) = (0 : Int32) := e_g5_0_x_216_246
  have e_g5_0_x_248_893 : g5_0 x0 (248 : Int32) (893 : Int32) = (0 : Int32) := ((if_neg q8).trans (if_pos q11))
  have e_f5_x_248_893 : f5 x0 (248 : Int32) (893 : Int32) = (0 : Int32) := e_g5_0_x_248_893
  have e_g5_0_x_895_8191 : g5_0 x0 (895 : Int32) (8191 : Int32) = (0 : Int32) := ((if_neg q12).trans (if_pos q13))
  have e_f5_x_895_8191 : f5 x0 (895 : Int32) (8191 : Int32) = (0 : Int32) := e_g5_0_x_895_8191
  have e_g5_0_x_8204_8205 : g5_0 x0 (8204 : Int32) (8205 : Int32) = (0 : Int32) := ((if_neg q14).trans (if_pos q15))
  have e_f5_x_8204_8205 : f5 x0 (8204 : Int32) (8205 : Int32) = (0 : Int32) := e_g5_0_x_8204_8205
  have q34 : ¬ x0 < (8255 : Int32) := own_nlt h1 (by decide)
  have q35 : (8256 : Int32) < x0 := own_gt h1 (by decide)
  have e_g5_0_x_8255_8256 : g5_0 x0 (8255 : Int32) (8256 : Int32) = (0 : Int32) := ((if_neg q34).trans (if_pos q35))
  have e_f5_x_8255_8256 : f5 x0 (8255 : Int32) (8256 : Int32) = (0 : Int32) := e_g5_0_x_8255_8256
  have e_g5_0_x_8304_8591 : g5_0 x0 (8304 : Int32) (8591 : Int32) = (0 : Int32) := ((if_neg q16).trans (if_pos q17))
  have e_f5_x_8304_8591 : f5 x0 (8304 : Int32) (8591 : Int32) = (0 : Int32) := e_g5_0_x_8304_8591
  have e_g5_0_x_11264_12271 : g5_0 x0 (11264 : Int32) (12271 : Int32) = (0 : Int32) := (if_pos q18)
  have e_f5_x_11264_12271 : f5 x0 (11264 : Int32) (12271 : Int32) = (0 : Int32) := e_g5_0_x_11264_12271
  have e_g5_0_x_12289_55295 : g5_0 x0 (12289 : Int32) (55295 : Int32) = (0 : Int32) := (if_pos q19)
  have e_f5_x_12289_55295 : f5 x0 (12289 : Int32) (55295 : Int32) = (0 : Int32) := e_g5_0_x_12289_55295
  have e_g5_0_x_63744_64975 : g5_0 x0 (63744 : Int32) (64975 : Int32) = (0 : Int32) := (if_pos q20)
  have e_f5_x_63744_64975 : f5 x0 (63744 : Int32) (64975 : Int32) = (0 : Int32) := e_g5_0_x_63744_64975
  have e_g5_0_x_65008_65533 : g5_0 x0 (65008 : Int32) (65533 : Int32) = (0 : Int32) := (if_pos q21)
  have e_f5_x_65008_65533 : f5 x0 (65008 : Int32) (65533 : Int32) = (0 : Int32) := e_g5_0_x_65008_65533
  have e_g4_0_x : g4_0 x0 = (0 : Int32) := ((if_neg q32).trans ((if_neg q33).trans ((if_neg q27).trans ((if_pos (by rw [e_f5_x_192_214])).trans ((if_pos (by rw [e_f5_x_216_246])).trans ((if_pos (by rw [e_f5_x_248_893])).trans ((if_pos (by rw [e_f5_x_895_8191])).trans ((if_pos (by rw [e_f5_x_8204_8205])).trans ((if_pos (by rw [e_f5_x_8255_8256])).trans ((if_pos (by rw [e_f5_x_8304_8591])).trans ((if_pos (by rw [e_f5_x_11264_12271])).trans ((if_pos (by rw [e_f5_x_12289_55295])).trans ((if_pos (by rw [e_f5_x_63744_64975])).trans (if_pos (by rw [e_f5_x_65008_65533])))))))))))))))
  have e_f4_x : f4 x0 = (0 : Int32) := e_g4_0_x
  rw [e_f1_x, e_f4_x]
theorem own_iv_56 (x0 : Int32) (h1 : (11264 : Int) ≤ x0.toInt) (h2 : x0.toInt < (11265 : Int)) : f1 x0 = f4 x0 := by
  have q0 : ¬ x0 < (65 : Int32) := own_nlt h1 (by decide)
  have q1 : (90 : Int32) < x0 := own_gt h1 (by decide)
  have q2 : ¬ x0 < (97 : Int32) := own_nlt h1 (by decide)
  have q3 : (122 : Int32) < x0 := own_gt h1 (by decide)
  have q4 : ¬ x0 < (192 : Int32) := own_nlt h1 (by decide)
  have q5 : (214 : Int32) < x0 := own_gt h1 (by decide)
  have q6 : ¬ x0 < (216 : Int32) := own_nlt h1 (by decide)
  have q7 : (246 : Int32) < x0 := own_gt h1 (by decide)
  have q8 : ¬ x0 < (248 : Int32) := own_nlt h1 (by decide)
  have q9 : (767 : Int32) < x0 := own_gt h1 (by decide)
  have q10 : ¬ x0 < (880 : Int32) := own_nlt h1 (by decide)
  have q11 : (893 : Int32) < x0 := own_gt h1 (by decide)
  have q12 : ¬ x0 < (895 : Int32) := own_nlt h1 (by decide)
  have q13 : (8191 : Int32) < x0 := own_gt h1 (by decide)
  have q14 : ¬ x0 < (8204 : Int32) := own_nlt h1 (by decide)
  have q15 : (8205 : Int32) < x0 := own_gt h1 (by decide)
  have q16 : ¬ x0 < (8304 : Int32) := own_nlt h1 (by decide)
  have q17 : (8591 : Int32) < x0 := own_gt h1 (by decide)
  have q18 : ¬ x0 < (11264 : Int32) := own_nlt h1 (by decide)
  have q19 : ¬ (12271 : Int32) < x0 := own_ngt h2 (by decide)
  have e_g3_122_x : g3_122 x0 = (1 : Int32) := ((if_neg q18).trans (if_neg q19))
  have e_g3_108_x : g3_108 x0 = (1 : Int32) := ((if_neg q16).trans ((if_pos q17).trans e_g3_122_x))
  have e_g3_94_x : g3_94 x0 = (1 : Int32) := ((if_neg q14).trans ((if_pos q15).trans e_g3_108_x))
  have e_g3_80_x : g3_80 x0 = (1 : Int32) := ((if_neg q12).trans ((if_pos q13).trans e_g3_94_x))
  have e_g3_66_x : g3_66 x0 = (1 : Int32) := ((if_neg q10).trans ((if_pos q11).trans e_g3_80_x))
  have e_g3_52_x : g3_52 x0 = (1 : Int32) := ((if_neg q8).trans ((if_pos q9).trans e_g3_66_x))
  have e_g3_38_x : g3_38 x0 = (1 : Int32) := ((if_neg q6).trans ((if_pos q7).trans e_g3_52_x))
  have e_g3_24_x : g3_24 x0 = (1 : Int32) := ((if_neg q4).trans ((if_pos q5).trans e_g3_38_x))
  have e_g3_12_x : g3_12 x0 = (1 : Int32) := ((if_neg q2).trans ((if_pos q3).trans e_g3_24_x))
  have e_g3_0_x : g3_0 x0 = (1 : Int32) := ((if_neg q0).trans ((if_pos q1).trans e_g3_12_x))
  have e_f3_x : f3 x0 = (1 : Int32) := e_g3_0_x
  have e_g2_0_x : g2_0 x0 = (1 : Int32) := (if_neg (by rw [e_f3_x]; decide))
  have e_f2_x : f2 x0 = (1 : Int32) := e_g2_0_x
  have e_g1_0_x : g1_0 x0 = (1 : Int32) := (if_neg (by rw [e_f2_x]; decide))
  have e_f1_x : f1 x0 = (1 : Int32) := e_g1_0_x
  have q20 : ¬ x0 < (128 : Int32) := own_nlt h1 (by decide)
  have q21 : ¬ (65535 : Int32) < x0 := own_ngt h2 (by decide)
  have q22 : ¬ x0 = (183 : Int32) := own_ne1 h1 (by decide)
  have e_g5_0_x_192_214 : g5_0 x0 (192 : Int32) (214 : Int32) = (0 : Int32) := ((if_neg q4).trans (if_pos q5))
  have e_f5_x_192_214 : f5 x0 (192 : Int32) (214 : Int32) = (0 : Int32) := e_g5_0_x_192_214
  have e_g5_0_x_216_246 : g5_0 x0 (216 : Int32) (246 : Int32) = (0 : Int32) := ((if_neg q6).trans (if_pos q7))
  have e_f5_x_216_246 : f5 x0 (216 : Int32) (246 : Int32) = (0 : Int32) := e_g5_0_x_216_246
  have e_g5_0_x_248_893 : g5_0 x0 (248 : Int32) (893 : Int32) = (0 : Int32) := ((if_neg q8).trans (if_pos q11))
  have e_f5_x_248_893 : f5 x0 (248 : Int32) (893 : Int32) = (0 : Int32) := e_g5_0_x_248_893
  have e_g5_0_x_895_8191 : g5_0 x0 (895 : Int32) (8191 : Int32) = (0 : Int32) := ((if_neg q12).trans (if_pos q13))
  have e_f5_x_895_8191 : f5 x0 (895 : Int32) (8191 : Int32) = (0 : Int32) := e_g5_0_x_895_8191
  have e_g5_0_x_8204_8205 : g5_0 x0 (8204 : Int32) (8205 : Int32) = (0 : Int32) := ((if_neg q14).trans (if_pos q15))
  have e_f5_x_8204_8205 : f5 x0 (8204 : Int32) (8205 : Int32) = (0 : Int32) := e_g5_0_x_8204_8205
  have q23 : ¬ x0 < (8255 : Int32) := own_nlt h1 (by decide)
  have q24 : (8256 : Int32) < x0 := own_gt h1 (by decide)
  have e_g5_0_x_8255_8256 : g5_0 x0 (8255 : Int32) (8256 : Int32) = (0 : Int32) := ((if_neg q23).trans (if_pos q24))
  have e_f5_x_8255_8256 : f5 x0 (8255 : Int32) (8256 : Int32) = (0 : Int32) := e_g5_0_x_8255_8256
  have e_g5_0_x_8304_8591 : g5_0 x0 (8304 : Int32) (8591 : Int32) = (0 : Int32) := ((if_neg q16).trans (if_pos q17))
  have e_f5_x_8304_8591 : f5 x0 (8304 : Int32) (8591 : Int32) = (0 : Int32) := e_g5_0_x_8304_8591
  have e_g5_0_x_11264_12271 : g5_0 x0 (11264 : Int32) (12271 : Int32) = (1 : Int32) := ((if_neg q18).trans (if_neg q19))
  have e_f5_x_11264_12271 : f5 x0 (11264 : Int32) (12271 : Int32) = (1 : Int32) := e_g5_0_x_11264_12271
  have e_g4_0_x : g4_0 x0 = (1 : Int32) := ((if_neg q20).trans ((if_neg q21).trans ((if_neg q22).trans ((if_pos (by rw [e_f5_x_192_214])).trans ((if_pos (by rw [e_f5_x_216_246])).trans ((if_pos (by rw [e_f5_x_248_893])).trans ((if_pos (by rw [e_f5_x_895_8191])).trans ((if_pos (by rw [e_f5_x_8204_8205])).trans ((if_pos (by rw [e_f5_x_8255_8256])).trans ((if_pos (by rw [e_f5_x_8304_8591])).trans (if_neg (by rw [e_f5_x_11264_12271]; decide))))))))))))
  have e_f4_x : f4 x0 = (1 : Int32) := e_g4_0_x
  rw [e_f1_x, e_f4_x]
theorem own_iv_57 (x0 : Int32) (h1 : (11265 : Int) ≤ x0.toInt) (h2 : x0.toInt < (12271 : Int)) : f1 x0 = f4 x0 := by
  have q0 : ¬ x0 < (65 : Int32) := own_nlt h1 (by decide)
  have q1 : (90 : Int32) < x0 := own_gt h1 (by decide)
  have q2 : ¬ x0 < (97 : Int32) := own_nlt h1 (by decide)
  have q3 : (122 : Int32) < x0 := own_gt h1 (by decide)
  have q4 : ¬ x0 < (192 : Int32) := own_nlt h1 (by decide)
  have q5 : (214 : Int32) < x0 := own_gt h1 (by decide)
  have q6 : ¬ x0 < (216 : Int32) := own_nlt h1 (by decide)
  have q7 : (246 : Int32) < x0 := own_gt h1 (by decide)
  have q8 : ¬ x0 < (248 : Int32) := own_nlt h1 (by decide)
  have q9 : (767 : Int32) < x0 := own_gt h1 (by decide)
  have q10 : ¬ x0 < (880 : Int32) := own_nlt h1 (by decide)
  have q11 : (893 : Int32) < x0 := own_gt h1 (by decide)
  have q12 : ¬ x0 < (895 : Int32) := own_nlt h1 (by decide)
  have q13 : (8191 : Int32) < x0 := own_gt h1 (by decide)
  have q14 : ¬ x0 < (8204 : Int32) := own_nlt h1 (by decide)
  have q15 : (8205 : Int32) < x0 := own_gt h1 (by decide)
  have q16 : ¬ x0 < (8304 : Int32) := own_nlt h1 (by decide)
  have q17 : (8591 : Int32) < x0 := own_gt h1 (by decide)
  have q18 : ¬ x0 < (11264 : Int32) := own_nlt h1 (by decide)
  have q19 : ¬ (12271 : Int32) < x0 := own_ngt h2 (by decide)
  have e_g3_122_x : g3_122 x0 = (1 : Int32) := ((if_neg q18).trans (if_neg q19))
  have e_g3_108_x : g3_108 x0 = (1 : Int32) := ((if_neg q16).trans ((if_pos q17).trans e_g3_122_x))
  have e_g3_94_x : g3_94 x0 = (1 : Int32) := ((if_neg q14).trans ((if_pos q15).trans e_g3_108_x))
  have e_g3_80_x : g3_80 x0 = (1 : Int32) := ((if_neg q12).trans ((if_pos q13).trans e_g3_94_x))
  have e_g3_66_x : g3_66 x0 = (1 : Int32) := ((if_neg q10).trans ((if_pos q11).trans e_g3_80_x))
  have e_g3_52_x : g3_52 x0 = (1 : Int32) := ((if_neg q8).trans ((if_pos q9).trans e_g3_66_x))
  have e_g3_38_x : g3_38 x0 = (1 : Int32) := ((if_neg q6).trans ((if_pos q7).trans e_g3_52_x))
  have e_g3_24_x : g3_24 x0 = (1 : Int32) := ((if_neg q4).trans ((if_pos q5).trans e_g3_38_x))
  have e_g3_12_x : g3_12 x0 = (1 : Int32) := ((if_neg q2).trans ((if_pos q3).trans e_g3_24_x))
  have e_g3_0_x : g3_0 x0 = (1 : Int32) := ((if_neg q0).trans ((if_pos q1).trans e_g3_12_x))
  have e_f3_x : f3 x0 = (1 : Int32) := e_g3_0_x
  have e_g2_0_x : g2_0 x0 = (1 : Int32) := (if_neg (by rw [e_f3_x]; decide))
  have e_f2_x : f2 x0 = (1 : Int32) := e_g2_0_x
  have e_g1_0_x : g1_0 x0 = (1 : Int32) := (if_neg (by rw [e_f2_x]; decide))
  have e_f1_x : f1 x0 = (1 : Int32) := e_g1_0_x
  have q20 : ¬ x0 < (128 : Int32) := own_nlt h1 (by decide)
  have q21 : ¬ (65535 : Int32) < x0 := own_ngt h2 (by decide)
  have q22 : ¬ x0 = (183 : Int32) := own_ne1 h1 (by decide)
  have e_g5_0_x_192_214 : g5_0 x0 (192 : Int32) (214 : Int32) = (0 : Int32) := ((if_neg q4).trans (if_pos q5))
  have e_f5_x_192_214 : f5 x0 (192 : Int32) (214 : Int32) = (0 : Int32) := e_g5_0_x_192_214
  have e_g5_0_x_216_246 : g5_0 x0 (216 : Int32) (246 : Int32) = (0 : Int32) := ((if_neg q6).trans (if_pos q7))
  have e_f5_x_216_246 : f5 x0 (216 : Int32) (246 : Int32) = (0 : Int32) := e_g5_0_x_216_246
  have e_g5_0_x_248_893 : g5_0 x0 (248 : Int32) (893 : Int32) = (0 : Int32) := ((if_neg q8).trans (if_pos q11))
  have e_f5_x_248_893 : f5 x0 (248 : Int32) (893 : Int32) = (0 : Int32) := e_g5_0_x_248_893
  have e_g5_0_x_895_8191 : g5_0 x0 (895 : Int32) (8191 : Int32) = (0 : Int32) := ((if_neg q12).trans (if_pos q13))
  have e_f5_x_895_8191 : f5 x0 (895 : Int32) (8191 : Int32) = (0 : Int32) := e_g5_0_x_895_8191
  have e_g5_0_x_8204_8205 : g5_0 x0 (8204 : Int32) (8205 : Int32) = (0 : Int32) := ((if_neg q14).trans (if_pos q15))
  have e_f5_x_8204_8205 : f5 x0 (8204 : Int32) (8205 : Int32) = (0 : Int32) := e_g5_0_x_8204_8205
  have q23 : ¬ x0 < (8255 : Int32) := own_nlt h1 (by decide)
  have q24 : (8256 : Int32) < x0 := own_gt h1 (by decide)
  have e_g5_0_x_8255_8256 : g5_0 x0 (8255 : Int32) (8256 : Int32) = (0 : Int32) := ((if_neg q23).trans (if_pos q24))
  have e_f5_x_8255_8256 : f5 x0 (8255 : Int32) (8256 : Int32) = (0 : Int32) := e_g5_0_x_8255_8256
  have e_g5_0_x_8304_8591 : g5_0 x0 (8304 : Int32) (8591 : Int32) = (0 : Int32) := ((if_neg q16).trans (if_pos q17))
  have e_f5_x_8304_8591 : f5 x0 (8304 : Int32) (8591 : Int32) = (0 : Int32) := e_g5_0_x_8304_8591
  have e_g5_0_x_11264_12271 : g5_0 x0 (11264 : Int32) (12271 : Int32) = (1 : Int32) := ((if_neg q18).trans (if_neg q19))
  have e_f5_x_11264_12271 : f5 x0 (11264 : Int32) (12271 : Int32) = (1 : Int32) := e_g5_0_x_11264_12271
  have e_g4_0_x : g4_0 x0 = (1 : Int32) := ((if_neg q20).trans ((if_neg q21).trans ((if_neg q22).trans ((if_pos (by rw [e_f5_x_192_214])).trans ((if_pos (by rw [e_f5_x_216_246])).trans ((if_pos (by rw [e_f5_x_248_893])).trans ((if_pos (by rw [e_f5_x_895_8191])).trans ((if_pos (by rw [e_f5_x_8204_8205])).trans ((if_pos (by rw [e_f5_x_8255_8256])).trans ((if_pos (by rw [e_f5_x_8304_8591])).trans (if_neg (by rw [e_f5_x_11264_12271]; decide))))))))))))
  have e_f4_x : f4 x0 = (1 : Int32) := e_g4_0_x
  rw [e_f1_x, e_f4_x]
theorem own_iv_58 (x0 : Int32) (h1 : (12271 : Int) ≤ x0.toInt) (h2 : x0.toInt < (12272 : Int)) : f1 x0 = f4 x0 := by
  have q0 : ¬ x0 < (65 : Int32) := own_nlt h1 (by decide)
  have q1 : (90 : Int32) < x0 := own_gt h1 (by decide)
  have q2 : ¬ x0 < (97 : Int32) := own_nlt h1 (by decide)
  have q3 : (122 : Int32) < x0 := own_gt h1 (by decide)
  have q4 : ¬ x0 < (192 : Int32) := own_nlt h1 (by decide)
  have q5 : (214 : Int32) < x0 := own_gt h1 (by decide)
  have q6 : ¬ x0 < (216 : Int32) := own_nlt h1 (by decide)
  have q7 : (246 : Int32) < x0 := own_gt h1 (by decide)
  have q8 : ¬ x0 < (248 : Int32) := own_nlt h1 (by decide)
  have q9 : (767 : Int32) < x0 := own_gt h1 (by decide)
  have q10 : ¬ x0 < (880 : Int32) := own_nlt h1 (by decide)
  have q11 : (893 : Int32) < x0 := own_gt h1 (by decide)
  have q12 : ¬ x0 < (895 : Int32) := own_nlt h1 (by decide)
  have q13 : (8191 : Int32) < x0 := own_gt h1 (by decide)
  have q14 : ¬ x0 < (8204 : Int32) := own_nlt h1 (by decide)
  have q15 : (8205 : Int32) < x0 := own_gt h1 (by decide)
  have q16 : ¬ x0 < (8304 : Int32) := own_nlt h1 (by decide)
  have q17 : (8591 : Int32) < x0 := own_gt h1 (by decide)
  have q18 : ¬ x0 < (11264 : Int32) := own_nlt h1 (by decide)
  have q19 : ¬ (12271 : Int32) < x0 := own_ngt h2 (by decide)
  have e_g3_122_x : g3_122 x0 = (1 : Int32) := ((if_neg q18).trans (if_neg q19))
  have e_g3_108_x : g3_108 x0 = (1 : Int32) := ((if_neg q16).trans ((if_pos q17).trans e_g3_122_x))
  have e_g3_94_x : g3_94 x0 = (1 : Int32) := ((if_neg q14).trans ((if_pos q15).trans e_g3_108_x))
  have e_g3_80_x : g3_80 x0 = (1 : Int32) := ((if_neg q12).trans ((if_pos q13).trans e_g3_94_x))
  have e_g3_66_x : g3_66 x0 = (1 : Int32) := ((if_neg q10).trans ((if_pos q11).trans e_g3_80_x))
  have e_g3_52_x : g3_52 x0 = (1 : Int32) := ((if_neg q8).trans ((if_pos q9).trans e_g3_66_x))
  have e_g3_38_x : g3_38 x0 = (1 : Int32) := ((if_neg q6).trans ((if_pos q7).trans e_g3_52_x))
  have e_g3_24_x : g3_24 x0 = (1 : Int32) := ((if_neg q4).trans ((if_pos q5).trans e_g3_38_x))
  have e_g3_12_x : g3_12 x0 = (1 : Int32) := ((if_neg q2).trans ((if_pos q3).trans e_g3_24_x))
  have e_g3_0_x : g3_0 x0 = (1 : Int32) := ((if_neg q0).trans ((if_pos q1).trans e_g3_12_x))
  have e_f3_x : f3 x0 = (1 : Int32) := e_g3_0_x
  have e_g2_0_x : g2_0 x0 = (1 : Int32) := (if_neg (by rw [e_f3_x]; decide))
  have e_f2_x : f2 x0 = (1 : Int32) := e_g2_0_x
  have e_g1_0_x : g1_0 x0 = (1 : Int32) := (if_neg (by rw [e_f2_x]; decide))
  have e_f1_x : f1 x0 = (1 : Int32) := e_g1_0_x
  have q20 : ¬ x0 < (128 : Int32) := own_nlt h1 (by decide)
  have q21 : ¬ (65535 : Int32) < x0 := own_ngt h2 (by decide)
  have q22 : ¬ x0 = (183 : Int32) := own_ne1 h1 (by decide)
  have e_g5_0_x_192_214 : g5_0 x0 (192 : Int32) (214 : Int32) = (0 : Int32) := ((if_neg q4).trans (if_pos q5))
  have e_f5_x_192_214 : f5 x0 (192 : Int32) (214 : Int32) = (0 : Int32) := e_g5_0_x_192_214
  have e_g5_0_x_216_246 : g5_0 x0 (216 : Int32) (246 : Int32) = (0 : Int32) := ((if_neg q6).trans (if_pos q7))
  have e_f5_x_216_246 : f5 x0 (216 : Int32) (246 : Int32) = (0 : Int32) := e_g5_0_x_216_246
  have e_g5_0_x_248_893 : g5_0 x0 (248 : Int32) (893 : Int32) = (0 : Int32) := ((if_neg q8).trans (if_pos q11))
  have e_f5_x_248_893 : f5 x0 (248 : Int32) (893 : Int32) = (0 : Int32) := e_g5_0_x_248_893
  have e_g5_0_x_895_8191 : g5_0 x0 (895 : Int32) (8191 : Int32) = (0 : Int32) := ((if_neg q12).trans (if_pos q13))
  have e_f5_x_895_8191 : f5 x0 (895 : Int32) (8191 : Int32) = (0 : Int32) := e_g5_0_x_895_8191
  have e_g5_0_x_8204_8205 : g5_0 x0 (8204 : Int32) (8205 : Int32) = (0 : Int32) := ((if_neg q14).trans (if_pos q15))
  have e_f5_x_8204_8205 : f5 x0 (8204 : Int32) (8205 : Int32) = (0 : Int32) := e_g5_0_x_8204_8205
  have q23 : ¬ x0 < (8255 : Int32) := own_nlt h1 (by decide)
  have q24 : (8256 : Int32) < x0 := own_gt h1 (by decide)
  have e_g5_0_x_8255_8256 : g5_0 x0 (8255 : Int32) (8256 : Int32) = (0 : Int32) := ((if_neg q23).trans (if_pos q24))
  have e_f5_x_8255_8256 : f5 x0 (8255 : Int32) (8256 : Int32) = (0 : Int32) := e_g5_0_x_8255_8256
  have e_g5_0_x_8304_8591 : g5_0 x0 (8304 : Int32) (8591 : Int32) = (0 : Int32) := ((if_neg q16).trans (if_pos q17))
  have e_f5_x_8304_8591 : f5 x0 (8304 : Int32) (8591 : Int32) = (0 : Int32) := e_g5_0_x_8304_8591
  have e_g5_0_x_11264_12271 : g5_0 x0 (11264 : Int32) (12271 : Int32) = (1 : Int32) := ((if_neg q18).trans (if_neg q19))
  have e_f5_x_11264_12271 : f5 x0 (11264 : Int32) (12271 : Int32) = (1 : Int32) := e_g5_0_x_11264_12271
  have e_g4_0_x : g4_0 x0 = (1 : Int32) := ((if_neg q20).trans ((if_neg q21).trans ((if_neg q22).trans ((if_pos (by rw [e_f5_x_192_214])).trans ((if_pos (by rw [e_f5_x_216_246])).trans ((if_pos (by rw [e_f5_x_248_893])).trans ((if_pos (by rw [e_f5_x_895_8191])).trans ((if_pos (by rw [e_f5_x_8204_8205])).trans ((if_pos (by rw [e_f5_x_8255_8256])).trans ((if_pos (by rw [e_f5_x_8304_8591])).trans (if_neg (by rw [e_f5_x_11264_12271]; decide))))))))))))
  have e_f4_x : f4 x0 = (1 : Int32) := e_g4_0_x
  rw [e_f1_x, e_f4_x]
theorem own_iv_59 (x0 : Int32) (h1 : (12272 : Int) ≤ x0.toInt) (h2 : x0.toInt < (12289 : Int)) : f1 x0 = f4 x0 := by
  have q0 : ¬ x0 < (65 : Int32) := own_nlt h1 (by decide)
  have q1 : (90 : Int32) < x0 := own_gt h1 (by decide)
  have q2 : ¬ x0 < (97 : Int32) := own_nlt h1 (by decide)
  have q3 : (122 : Int32) < x0 := own_gt h1 (by decide)
  have q4 : ¬ x0 < (192 : Int32) := own_nlt h1 (by decide)
  have q5 : (214 : Int32) < x0 := own_gt h1 (by decide)
  have q6 : ¬ x0 < (216 : Int32) := own_nlt h1 (by decide)
  have q7 : (246 : Int32) < x0 := own_gt h1 (by decide)
  have q8 : ¬ x0 < (248 : Int32) := own_nlt h1 (by decide)
  have q9 : (767 : Int32) < x0 := own_gt h1 (by decide)
  have q10 : ¬ x0 < (880 : Int32) := own_nlt h1 (by decide)
  have q11 : (893 : Int32) < x0 := own_gt h1 (by decide)
  have q12 : ¬ x0 < (895 : Int32) := own_nlt h1 (by decide)
  have q13 : (8191 : Int32) < x0 := own_gt h1 (by decide)
  have q14 : ¬ x0 < (8204 : Int32) := own_nlt h1 (by decide)
  have q15 : (8205 : Int32) < x0 := own_gt h1 (by decide)
  have q16 : ¬ x0 < (8304 : Int32) := own_nlt h1 (by decide)
  have q17 : (8591 : Int32) < x0 := own_gt h1 (by decide)
  have q18 : ¬ x0 < (11264 : Int32) := own_nlt h1 (by decide)
  have q19 : (12271 : Int32) < x0 := own_gt h1 (by decide)
  have q20 : x0 < (12289 : Int32) := own_lt h2 (by decide)
  have q21 : x0 < (63744 : Int32) := own_lt h2 (by decide)
  have q22 : x0 < (65008 : Int32) := own_lt h2 (by decide)
  have q23 : x0 < (65536 : Int32) := own_lt h2 (by decide)
  have e_g3_178_x : g3_178 x0 = (0 : Int32) := (if_pos q23)
  have e_g3_164_x : g3_164 x0 = (0 : Int32) := ((if_pos q22).trans e_g3_178_x)
  have e_g3_150_x : g3_150 x0 = (0 : Int32) := ((if_pos q21).trans e_g3_164_x)
  have e_g3_136_x : g3_136 x0 = (0 : Int32) := ((if_pos q20).trans e_g3_150_x)
  have e_g3_122_x : g3_122 x0 = (0 : Int32) := ((if_neg q18).trans ((if_pos q19).trans e_g3_136_x))
  have e_g3_108_x : g3_108 x0 = (0 : Int32) := ((if_neg q16).trans ((if_pos q17).trans e_g3_122_x))
  have e_g3_94_x : g3_94 x0 = (0 : Int32) := ((if_neg q14).trans ((if_pos q15).trans e_g3_108_x))
  have e_g3_80_x : g3_80 x0 = (0 : Int32) := ((if_neg q12).trans ((if_pos q13).trans e_g3_94_x))
  have e_g3_66_x : g3_66 x0 = (0 : Int32) := ((if_neg q10).trans ((if_pos q11).trans e_g3_80_x))
  have e_g3_52_x : g3_52 x0 = (0 : Int32) := ((if_neg q8).trans ((if_pos q9).trans e_g3_66_x))
  have e_g3_38_x : g3_38 x0 = (0 : Int32) := ((if_neg q6).trans ((if_pos q7).trans e_g3_52_x))
  have e_g3_24_x : g3_24 x0 = (0 : Int32) := ((if_neg q4).trans ((if_pos q5).trans e_g3_38_x))
  have e_g3_12_x : g3_12 x0 = (0 : Int32) := ((if_neg q2).trans ((if_pos q3).trans e_g3_24_x))
  have e_g3_0_x : g3_0 x0 = (0 : Int32) := ((if_neg q0).trans ((if_pos q1).trans e_g3_12_x))
  have e_f3_x : f3 x0 = (0 : Int32) := e_g3_0_x
  have q24 : ¬ x0 = (95 : Int32) := own_ne1 h1 (by decide)
  have e_g2_0_x : g2_0 x0 = (0 : Int32) := ((if_pos (by rw [e_f3_x])).trans (if_neg q24))
  have e_f2_x : f2 x0 = (0 : Int32) := e_g2_0_x
  have q25 : ¬ x0 = (45 : Int32) := own_ne1 h1 (by decide)
  have q26 : ¬ x0 < (48 : Int32) := own_nlt h1 (by decide)
  have q27 : (57 : Int32) < x0 := own_gt h1 (by decide)
  have q28 : ¬ x0 = (183 : Int32) := own_ne1 h1 (by decide)
  have q29 : ¬ x0 < (768 : Int32) := own_nlt h1 (by decide)
  have q30 : (879 : Int32) < x0 := own_gt h1 (by decide)
  have q31 : ¬ x0 = (8255 : Int32) := own_ne1 h1 (by decide)
  have q32 : ¬ x0 = (8256 : Int32) := own_ne1 h1 (by decide)
  have e_g1_46_x : g1_46 x0 = (0 : Int32) := ((if_neg q31).trans (if_neg q32))
  have e_g1_25_x : g1_25 x0 = (0 : Int32) := ((if_neg q28).trans ((if_neg q29).trans ((if_pos q30).trans e_g1_46_x)))
  have e_g1_0_x : g1_0 x0 = (0 : Int32) := ((if_pos (by rw [e_f2_x])).trans ((if_neg q25).trans ((if_neg q26).trans ((if_pos q27).trans e_g1_25_x))))
  have e_f1_x : f1 x0 = (0 : Int32) := e_g1_0_x
  have q33 : ¬ x0 < (128 : Int32) := own_nlt h1 (by decide)
  have q34 : ¬ (65535 : Int32) < x0 := own_ngt h2 (by decide)
  have e_g5_0_x_192_214 : g5_0 x0 (192 : Int32) (214 : Int32) = (0 : Int32) := ((if_neg q4).trans (if_pos q5))
  have e_f5_x_192_214 : f5 x0 (192 : Int32) (214 : Int32) = (0 : Int32) := e_g5_0_x_192_214
  have e_g5_0_x_216_246 : g5_0 x0 (216 : Int32) (246 : Int32) = (0 : Int32) := ((if_neg q6).trans (if_pos q7))
  have e_f5_x_216_246 : f5 x0 (216 : Int32) (246 : Int32) = (0 : Int32) := e_g5_0_x_216_246
  have e_g5_0_x_248_893 : g5_0 x0 (248 : Int32) (893 : Int32) = (0 : Int32) := ((if_neg q8).trans (if_pos q11))
  have e_f5_x_248_893 : f5 x0 (248 : Int32) (893 : Int32) = (0 : Int32) := e_g5_0_x_248_893
  have e_g5_0_x_895_8191 : g5_0 x0 (895 : Int32) (8191 : Int32) = (0 : Int32) := ((if_neg q12).trans (if_pos q13))
  have e_f5_x_895_8191 : f5 x0 (895 : Int32) (8191 : Int32) = (0 : Int32) := e_g5_0_x_895_8191
  have e_g5_0_x_8204_8205 : g5_0 x0 (8204 : Int32) (8205 : Int32) = (0 : Int32) := ((if_neg q14).trans (if_pos q15))
  have e_f5_x_8204_8205 : f5 x0 (8204 : Int32) (8205 : Int32) = (0 : Int32) := e_g5_0_x_8204_8205
  have q35 : ¬ x0 < (8255 : Int32) := own_nlt h1 (by decide)
  have q36 : (8256 : Int32) < x0 := own_gt h1 (by decide)
  have e_g5_0_x_8255_8256 : g5_0 x0 (8255 : Int32) (8256 : Int32) = (0 : Int32) := ((if_neg q35).trans (if_pos q36))
  have e_f5_x_8255_8256 : f5 x0 (8255 : Int32) (8256 : Int32) = (0 : Int32) := e_g5_0_x_8255_8256
  have e_g5_0_x_8304_8591 : g5_0 x0 (8304 : Int32) (8591 : Int32) = (0 : Int32) := ((if_neg q16).trans (if_pos q17))
  have e_f5_x_8304_8591 : f5 x0 (8304 : Int32) (8591 : Int32) = (0 : Int32) := e_g5_0_x_8304_8591
  have e_g5_0_x_11264_12271 : g5_0 x0 (11264 : Int32) (12271 : Int32) = (0 : Int32) := ((if_neg q18).trans (if_pos q19))
  have e_f5_x_11264_12271 : f5 x0 (11264 : Int32) (12271 : Int32) = (0 : Int32) := e_g5_0_x_11264_12271
  have e_g5_0_x_12289_55295 : g5_0 x0 (12289 : Int32) (55295 : Int32) = (0 : Int32) := (if_pos q20)
  have e_f5_x_12289_55295 : f5 x0 (12289 : Int32) (55295 : Int32) = (0 : Int32) := e_g5_0_x_12289_55295
  have e_g5_0_x_63744_64975 : g5_0 x0 (63744 : Int32) (64975 : Int32) = (0 : Int32) := (if_pos q21)
  have e_f5_x_63744_64975 : f5 x0 (63744 : Int32) (64975 : Int32) = (0 : Int32) := e_g5_0_x_63744_64975
  have e_g5_0_x_65008_65533 : g5_0 x0 (65008 : Int32) (65533 : Int32) = (0 : Int32) := (if_pos q22)
  have e_f5_x_65008_65533 : f5 x0 (65008 : Int32) (65533 : Int32) = (0 : Int32) := e_g5_0_x_65008_65533
  have e_g4_0_x : g4_0 x0 = (0 : Int32) := ((if_neg q33).trans ((if_neg q34).trans ((if_neg q28).trans ((if_pos (by rw [e_f5_x_192_214])).trans ((if_pos (by rw [e_f5_x_216_246])).trans ((if_pos (by rw [e_f5_x_248_893])).trans ((if_pos (by rw [e_f5_x_895_8191])).trans ((if_pos (by rw [e_f5_x_8204_8205])).trans ((if_pos (by rw [e_f5_x_8255_8256])).trans ((if_pos (by rw [e_f5_x_8304_8591])).trans ((if_pos (by rw [e_f5_x_11264_12271])).trans ((if_pos (by rw [e_f5_x_12289_55295])).trans ((if_pos (by rw [e_f5_x_63744_64975])).trans (if_pos (by rw [e_f5_x_65008_65533])))))))))))))))
  have e_f4_x : f4 x0 = (0 : Int32) := e_g4_0_x
  rw [e_f1_x, e_f4_x]
theorem own_iv_60 (x0 : Int32) (h1 : (12289 : Int) ≤ x0.toInt) (h2 : x0.toInt < (12290 : Int)) : f1 x0 = f4 x0 := by
  have q0 : ¬ x0 < (65 : Int32) := own_nlt h1 (by decide)
  have q1 : (90 : Int32) < x0 := own_gt h1 (by decide)
  have q2 : ¬ x0 < (97 : Int32) := own_nlt h1 (by decide)
  have q3 : (122 : Int32) < x0 := own_gt h1 (by decide)
  have q4 : ¬ x0 < (192 : Int32) := own_nlt h1 (by decide)
  have q5 : (214 : Int32) < x0 := own_gt h1 (by decide)
  have q6 : ¬ x0 < (216 : Int32) := own_nlt h1 (by decide)
  have q7 : (246 : Int32) < x0 := own_gt h1 (by decide)
  have q8 : ¬ x0 < (248 : Int32) := own_nlt h1 (by decide)
  have q9 : (767 : Int32) < x0 := own_gt h1 (by decide)
  have q10 : ¬ x0 < (880 : Int32) := own_nlt h1 (by decide)
  have q11 : (893 : Int32) < x0 := own_gt h1 (by decide)
  have q12 : ¬ x0 < (895 : Int32) := own_nlt h1 (by decide)
  have q13 : (8191 : Int32) < x0 := own_gt h1 (by decide)
  have q14 : ¬ x0 < (8204 : Int32) := own_nlt h1 (by decide)
  have q15 : (8205 : Int32) < x0 := own_gt h1 (by decide)
  have q16 : ¬ x0 < (8304 : Int32) := own_nlt h1 (by decide)
  have q17 : (8591 : Int32) < x0 := own_gt h1 (by decide)
  have q18 : ¬ x0 < (11264 : Int32) := own_nlt h1 (by decide)
  have q19 : (12271 : Int32) < x0 := own_gt h1 (by decide)
  have q20 : ¬ x0 < (12289 : Int32) := own_nlt h1 (by decide)
  have q21 : ¬ (55295 : Int32) < x0 := own_ngt h2 (by decide)
  have e_g3_136_x : g3_136 x0 = (1 : Int32) := ((if_neg q20).trans (if_neg q21))
  have e_g3_122_x : g3_122 x0 = (1 : Int32) := ((if_neg q18).trans ((if_pos q19).trans e_g3_136_x))
  have e_g3_108_x : g3_108 x0 = (1 : Int32) := ((if_neg q16).trans ((if_pos q17).trans e_g3_122_x))
  have e_g3_94_x : g3_94 x0 = (1 : Int32) := ((if_neg q14).trans ((if_pos q15).trans e_g3_108_x))
  have e_g3_80_x : g3_80 x0 = (1 : Int32) := ((if_neg q12).trans ((if_pos q13).trans e_g3_94_x))
  have e_g3_66_x : g3_66 x0 = (1 : Int32) := ((if_neg q10).trans ((if_pos q11).trans e_g3_80_x))
  have e_g3_52_x : g3_52 x0 = (1 : Int32) := ((if_neg q8).trans ((if_pos q9).trans e_g3_66_x))
  have e_g3_38_x : g3_38 x0 = (1 : Int32) := ((if_neg q6).trans ((if_pos q7).trans e_g3_52_x))
  have e_g3_24_x : g3_24 x0 = (1 : Int32) := ((if_neg q4).trans ((if_pos q5).trans e_g3_38_x))
  have e_g3_12_x : g3_12 x0 = (1 : Int32) := ((if_neg q2).trans ((if_pos q3).trans e_g3_24_x))
  have e_g3_0_x : g3_0 x0 = (1 : Int32) := ((if_neg q0).trans ((if_pos q1).trans e_g3_12_x))
  have e_f3_x : f3 x0 = (1 : Int32) := e_g3_0_x
  have e_g2_0_x : g2_0 x0 = (1 : Int32) := (if_neg (by rw [e_f3_x]; decide))
  have e_f2_x : f2 x0 = (1 : Int32) := e_g2_0_x
  have e_g1_0_x : g1_0 x0 = (1 : Int32) := (if_neg (by rw [e_f2_x]; decide))
  have e_f1_x : f1 x0 = (1 : Int32) := e_g1_0_x
  have q22 : ¬ x0 < (128 : Int32) := own_nlt h1 (by decide)
  have q23 : ¬ (65535 : Int32) < x0 := own_ngt h2 (by decide)
  have q24 : ¬ x0 = (183 : Int32) := own_ne1 h1 (by decide)
  have e_g5_0_x_192_214 : g5_0 x0 (192 : Int32) (214 : Int32) = (0 : Int32) := ((if_neg q4).trans (if_pos q5))
  have e_f5_x_192_214 : f5 x0 (192 : Int32) (214 : Int32) = (0 : Int32) := e_g5_0_x_192_214
  have e_g5_0_x_216_246 : g5_0 x0 (216 : Int32) (246 : Int32) = (0 : Int32) := ((if_neg q6).trans (if_pos q7))
  have e_f5_x_216_246 : f5 x0 (216 : Int32) (246 : Int32) = (0 : Int32) := e_g5_0_x_216_246
  have e_g5_0_x_248_893 : g5_0 x0 (248 : Int32) (893 : Int32) = (0 : Int32) := ((if_neg q8).trans (if_pos q11))
  have e_f5_x_248_893 : f5 x0 (248 : Int32) (893 : Int32) = (0 : Int32) := e_g5_0_x_248_893
  have e_g5_0_x_895_8191 : g5_0 x0 (895 : Int32) (8191 : Int32) = (0 : Int32) := ((if_neg q12).trans (if_pos q13))
  have e_f5_x_895_8191 : f5 x0 (895 : Int32) (8191 : Int32) = (0 : Int32) := e_g5_0_x_895_8191
  have e_g5_0_x_8204_8205 : g5_0 x0 (8204 : Int32) (8205 : Int32) = (0 : Int32) := ((if_neg q14).trans (if_pos q15))
  have e_f5_x_8204_8205 : f5 x0 (8204 : Int32) (8205 : Int32) = (0 : Int32) := e_g5_0_x_8204_8205
  have q25 : ¬ x0 < (8255 : Int32) := own_nlt h1 (by decide)
  have q26 : (8256 : Int32) < x0 := own_gt h1 (by decide)
  have e_g5_0_x_8255_8256 : g5_0 x0 (8255 : Int32) (8256 : Int32) = (0 : Int32) := ((if_neg q25).trans (if_pos q26))
  have e_f5_x_8255_8256 : f5 x0 (8255 : Int32) (8256 : Int32) = (0 : Int32) := e_g5_0_x_8255_8256
  have e_g5_0_x_8304_8591 : g5_0 x0 (8304 : Int32) (8591 : Int32) = (0 : Int32) := ((if_neg q16).trans (if_pos q17))
  have e_f5_x_8304_8591 : f5 x0 (8304 : Int32) (8591 : Int32) = (0 : Int32) := e_g5_0_x_8304_8591
  have e_g5_0_x_11264_12271 : g5_0 x0 (11264 : Int32) (12271 : Int32) = (0 : Int32) := ((if_neg q18).trans (if_pos q19))
  have e_f5_x_11264_12271 : f5 x0 (11264 : Int32) (12271 : Int32) = (0 : Int32) := e_g5_0_x_11264_12271
  have e_g5_0_x_12289_55295 : g5_0 x0 (12289 : Int32) (55295 : Int32) = (1 : Int32) := ((if_neg q20).trans (if_neg q21))
  have e_f5_x_12289_55295 : f5 x0 (12289 : Int32) (55295 : Int32) = (1 : Int32) := e_g5_0_x_12289_55295
  have e_g4_0_x : g4_0 x0 = (1 : Int32) := ((if_neg q22).trans ((if_neg q23).trans ((if_neg q24).trans ((if_pos (by rw [e_f5_x_192_214])).trans ((if_pos (by rw [e_f5_x_216_246])).trans ((if_pos (by rw [e_f5_x_248_893])).trans ((if_pos (by rw [e_f5_x_895_8191])).trans ((if_pos (by rw [e_f5_x_8204_8205])).trans ((if_pos (by rw [e_f5_x_8255_8256])).trans ((if_pos (by rw [e_f5_x_8304_8591])).trans ((if_pos (by rw [e_f5_x_11264_12271])).trans (if_neg (by rw [e_f5_x_12289_55295]; decide)))))))))))))
  have e_f4_x : f4 x0 = (1 : Int32) := e_g4_0_x
  rw [e_f1_x, e_f4_x]
theorem own_iv_61 (x0 : Int32) (h1 : (12290 : Int) ≤ x0.toInt) (h2 : x0.toInt < (55295 : Int)) : f1 x0 = f4 x0 := by
  have q0 : ¬ x0 < (65 : Int32) := own_nlt h1 (by decide)
  have q1 : (90 : Int32) < x0 := own_gt h1 (by decide)
  have q2 : ¬ x0 < (97 : Int32) := own_nlt h1 (by decide)
  have q3 : (122 : Int32) < x0 := own_gt h1 (by decide)
  have q4 : ¬ x0 < (192 : Int32) := own_nlt h1 (by decide)
  have q5 : (214 : Int32) < x0 := own_gt h1 (by decide)
  have q6 : ¬ x0 < (216 : Int32) := own_nlt h1 (by decide)
  have q7 : (246 : Int32) < x0 := own_gt h1 (by decide)
  have q8 : ¬ x0 < (248 : Int32) := own_nlt h1 (by decide)
  have q9 : (767 : Int32) < x0 := own_gt h1 (by decide)
  have q10 : ¬ x0 < (880 : Int32) := own_nlt h1 (by decide)
  have q11 : (893 : Int32) < x0 := own_gt h1 (by decide)
  have q12 : ¬ x0 < (895 : Int32) := own_nlt h1 (by decide)
  have q13 : (8191 : Int32) < x0 := own_gt h1 (by decide)
  have q14 : ¬ x0 < (8204 : Int32) := own_nlt h1 (by decide)
  have q15 : (8205 : Int32) < x0 := own_gt h1 (by decide)
  have q16 : ¬ x0 < (8304 : Int32) := own_nlt h1 (by decide)
  have q17 : (8591 : Int32) < x0 := own_gt h1 (by decide)
  have q18 : ¬ x0 < (11264 : Int32) := own_nlt h1 (by decide)
  have q19 : (12271 : Int32) < x0 := own_gt h1 (by decide)
  have q20 : ¬ x0 < (12289 : Int32) := own_nlt h1 (by decide)
  have q21 : ¬ (55295 : Int32) < x0 := own_ngt h2 (by decide)
  have e_g3_136_x : g3_136 x0 = (1 : Int32) := ((if_neg q20).trans (if_neg q21))
  have e_g3_122_x : g3_122 x0 = (1 : Int32) := ((if_neg q18).trans ((if_pos q19).trans e_g3_136_x))
  have e_g3_108_x : g3_108 x0 = (1 : Int32) := ((if_neg q16).trans ((if_pos q17).trans e_g3_122_x))
  have e_g3_94_x : g3_94 x0 = (1 : Int32) := ((if_neg q14).trans ((if_pos q15).trans e_g3_108_x))
  have e_g3_80_x : g3_80 x0 = (1 : Int32) := ((if_neg q12).trans ((if_pos q13).trans e_g3_94_x))
  have e_g3_66_x : g3_66 x0 = (1 : Int32) := ((if_neg q10).trans ((if_pos q11).trans e_g3_80_x))
  have e_g3_52_x : g3_52 x0 = (1 : Int32) := ((if_neg q8).trans ((if_pos q9).trans e_g3_66_x))
  have e_g3_38_x : g3_38 x0 = (1 : Int32) := ((if_neg q6).trans ((if_pos q7).trans e_g3_52_x))
  have e_g3_24_x : g3_24 x0 = (1 : Int32) := ((if_neg q4).trans ((if_pos q5).trans e_g3_38_x))
  have e_g3_12_x : g3_12 x0 = (1 : Int32) := ((if_neg q2).trans ((if_pos q3).trans e_g3_24_x))
  have e_g3_0_x : g3_0 x0 = (1 : Int32) := ((if_neg q0).trans ((if_pos q1).trans e_g3_12_x))
  have e_f3_x : f3 x0 = (1 : Int32) := e_g3_0_x
  have e_g2_0_x : g2_0 x0 = (1 : Int32) := (if_neg (by rw [e_f3_x]; decide))
  have e_f2_x : f2 x0 = (1 : Int32) := e_g2_0_x
  have e_g1_0_x : g1_0 x0 = (1 : Int32) := (if_neg (by rw [e_f2_x]; decide))
  have e_f1_x : f1 x0 = (1 : Int32) := e_g1_0_x
  have q22 : ¬ x0 < (128 : Int32) := own_nlt h1 (by decide)
  have q23 : ¬ (65535 : Int32) < x0 := own_ngt h2 (by decide)
  have q24 : ¬ x0 = (183 : Int32) := own_ne1 h1 (by decide)
  have e_g5_0_x_192_214 : g5_0 x0 (192 : Int32) (214 : Int32) = (0 : Int32) := ((if_neg q4).trans (if_pos q5))
  have e_f5_x_192_214 : f5 x0 (192 : Int32) (214 : Int32) = (0 : Int32) := e_g5_0_x_192_214
  have e_g5_0_x_216_246 : g5_0 x0 (216 : Int32) (246 : Int32) = (0 : Int32) := ((if_neg q6).trans (if_pos q7))
  have e_f5_x_216_246 : f5 x0 (216 : Int32) (246 : Int32) = (0 : Int32) := e_g5_0_x_216_246
  have e_g5_0_x_248_893 : g5_0 x0 (248 : Int32) (893 : Int32) = (0 : Int32) := ((if_neg q8).trans (if_pos q11))
  have e_f5_x_248_893 : f5 x0 (248 : Int32) (893 : Int32) = (0 : Int32) := e_g5_0_x_248_893
  have e_g5_0_x_895_8191 : g5_0 x0 (895 : Int32) (8191 : Int32) = (0 : Int32) := ((if_neg q12).trans (if_pos q13))
  have e_f5_x_895_8191 : f5 x0 (895 : Int32) (8191 : Int32) = (0 : Int32) := e_g5_0_x_895_8191
  have e_g5_0_x_8204_8205 : g5_0 x0 (8204 : Int32) (8205 : Int32) = (0 : Int32) := ((if_neg q14).trans (if_pos q15))
  have e_f5_x_8204_8205 : f5 x0 (8204 : Int32) (8205 : Int32) = (0 : Int32) := e_g5_0_x_8204_8205
  have q25 : ¬ x0 < (8255 : Int32) := own_nlt h1 (by decide)
  have q26 : (8256 : Int32) < x0 := own_gt h1 (by decide)
  have e_g5_0_x_8255_8256 : g5_0 x0 (8255 : Int32) (8256 : Int32) = (0 : Int32) := ((if_neg q25).trans (if_pos q26))
  have e_f5_x_8255_8256 : f5 x0 (8255 : Int32) (8256 : Int32) = (0 : Int32) := e_g5_0_x_8255_8256
  have e_g5_0_x_8304_8591 : g5_0 x0 (8304 : Int32) (8591 : Int32) = (0 : Int32) := ((if_neg q16).trans (if_pos q17))
  have e_f5_x_8304_8591 : f5 x0 (8304 : Int32) (8591 : Int32) = (0 : Int32) := e_g5_0_x_8304_8591
  have e_g5_0_x_11264_12271 : g5_0 x0 (11264 : Int32) (12271 : Int32) = (0 : Int32) := ((if_neg q18).trans (if_pos q19))
  have e_f5_x_11264_12271 : f5 x0 (11264 : Int32) (12271 : Int32) = (0 : Int32) := e_g5_0_x_11264_12271
  have e_g5_0_x_12289_55295 : g5_0 x0 (12289 : Int32) (55295 : Int32) = (1 : Int32) := ((if_neg q20).trans (if_neg q21))
  have e_f5_x_12289_55295 : f5 x0 (12289 : Int32) (55295 : Int32) = (1 : Int32) := e_g5_0_x_12289_55295
  have e_g4_0_x : g4_0 x0 = (1 : Int32) := ((if_neg q22).trans ((if_neg q23).trans ((if_neg q24).trans ((if_pos (by rw [e_f5_x_192_214])).trans ((if_pos (by rw [e_f5_x_216_246])).trans ((if_pos (by rw [e_f5_x_248_893])).trans ((if_pos (by rw [e_f5_x_895_8191])).trans ((if_pos (by rw [e_f5_x_8204_8205])).trans ((if_pos (by rw [e_f5_x_8255_8256])).trans ((if_pos (by rw [e_f5_x_8304_8591])).trans ((if_pos (by rw [e_f5_x_11264_12271])).trans (if_neg (by rw [e_f5_x_12289_55295]; decide)))))))))))))
  have e_f4_x : f4 x0 = (1 : Int32) := e_g4_0_x
  rw [e_f1_x, e_f4_x]
theorem own_iv_62 (x0 : Int32) (h1 : (55295 : Int) ≤ x0.toInt) (h2 : x0.toInt < (55296 : Int)) : f1 x0 = f4 x0 := by
  have q0 : ¬ x0 < (65 : Int32) := own_nlt h1 (by decide)
  have q1 : (90 : Int32) < x0 := own_gt h1 (by decide)
  have q2 : ¬ x0 < (97 : Int32) := own_nlt h1 (by decide)
  have q3 : (122 : Int32) < x0 := own_gt h1 (by decide)
  have q4 : ¬ x0 < (192 : Int32) := own_nlt h1 (by decide)
  have q5 : (214 : Int32) < x0 := own_gt h1 (by decide)
  have q6 : ¬ x0 < (216 : Int32) := own_nlt h1 (by decide)
  have q7 : (246 : Int32) < x0 := own_gt h1 (by decide)
  have q8 : ¬ x0 < (248 : Int32) := own_nlt h1 (by decide)
  have q9 : (767 : Int32) < x0 := own_gt h1 (by decide)
  have q10 : ¬ x0 < (880 : Int32) := own_nlt h1 (by decide)
  have q11 : (893 : Int32) < x0 := own_gt h1 (by decide)
  have q12 : ¬ x0 < (895 : Int32) := own_nlt h1 (by decide)
  have q13 : (8191 : Int32) < x0 := own_gt h1 (by decide)
  have q14 : ¬ x0 < (8204 : Int32) := own_nlt h1 (by decide)
  have q15 : (8205 : Int32) < x0 := own_gt h1 (by decide)
  have q16 : ¬ x0 < (8304 : Int32) := own_nlt h1 (by decide)
  have q17 : (8591 : Int32) < x0 := own_gt h1 (by decide)
  have q18 : ¬ x0 < (11264 : Int32) := own_nlt h1 (by decide)
  have q19 : (12271 : Int32) < x0 := own_gt h1 (by decide)
  have q20 : ¬ x0 < (12289 : Int32) := own_nlt h1 (by decide)
  have q21 : ¬ (55295 : Int32) < x0 := own_ngt h2 (by decide)
  have e_g3_136_x : g3_136 x0 = (1 : Int32) := ((if_neg q20).trans (if_neg q21))
  have e_g3_122_x : g3_122 x0 = (1 : Int32) := ((if_neg q18).trans ((if_pos q19).trans e_g3_136_x))
  have e_g3_108_x : g3_108 x0 = (1 : Int32) := ((if_neg q16).trans ((if_pos q17).trans e_g3_122_x))
  have e_g3_94_x : g3_94 x0 = (1 : Int32) := ((if_neg q14).trans ((if_pos q15).trans e_g3_108_x))
  have e_g3_80_x : g3_80 x0 = (1 : Int32) := ((if_neg q12).trans ((if_pos q13).trans e_g3_94_x))
  have e_g3_66_x : g3_66 x0 = (1 : Int32) := ((if_neg q10).trans ((if_pos q11).trans e_g3_80_x))
  have e_g3_52_x : g3_52 x0 = (1 : Int32) := ((if_neg q8).trans ((if_pos q9).trans e_g3_66_x))
  have e_g3_38_x : g3_38 x0 = (1 : Int32) := ((if_neg q6).trans ((if_pos q7).trans e_g3_52_x))
  have e_g3_24_x : g3_24 x0 = (1 : Int32) := ((if_neg q4).trans ((if_pos q5).trans e_g3_38_x))
  have e_g3_12_x : g3_12 x0 = (1 : Int32) := ((if_neg q2).trans ((if_pos q3).trans e_g3_24_x))
  have e_g3_0_x : g3_0 x0 = (1 : Int32) := ((if_neg q0).trans ((if_pos q1).trans e_g3_12_x))
  have e_f3_x : f3 x0 = (1 : Int32) := e_g3_0_x
  have e_g2_0_x : g2_0 x0 = (1 : Int32) := (if_neg (by rw [e_f3_x]; decide))
  have e_f2_x : f2 x0 = (1 : Int32) := e_g2_0_x
  have e_g1_0_x : g1_0 x0 = (1 : Int32) := (if_neg (by rw [e_f2_x]; decide))
  have e_f1_x : f1 x0 = (1 : Int32) := e_g1_0_x
  have q22 : ¬ x0 < (128 : Int32) := own_nlt h1 (by decide)
  have q23 : ¬ (65535 : Int32) < x0 := own_ngt h2 (by decide)
  have q24 : ¬ x0 = (183 : Int32) := own_ne1 h1 (by decide)
  have e_g5_0_x_192_214 : g5_0 x0 (192 : Int32) (214 : Int32) = (0 : Int32) := ((if_neg q4).trans (if_pos q5))
  have e_f5_x_192_214 : f5 x0 (192 : Int32) (214 : Int32) = (0 : Int32) := e_g5_0_x_192_214
  have e_g5_0_x_216_246 : g5_0 x0 (216 : Int32) (246 : Int32) = (0 : Int32) := ((if_neg q6).trans (if_pos q7))
  have e_f5_x_216_246 : f5 x0 (216 : Int32) (246 : Int32) = (0 : Int32) := e_g5_0_x_216_246
  have e_g5_0_x_248_893 : g5_0 x0 (248 : Int32) (893 : Int32) = (0 : Int32) := ((if_neg q8).trans (if_pos q11))
  have e_f5_x_248_893 : f5 x0 (248 : Int32) (893 : Int32) = (0 : Int32) := e_g5_0_x_248_893
  have e_g5_0_x_895_8191 : g5_0 x0 (895 : Int32) (8191 : Int32) = (0 : Int32) := ((if_neg q12).trans (if_pos q13))
  have e_f5_x_895_8191 : f5 x0 (895 : Int32) (8191 : Int32) = (0 : Int32) := e_g5_0_x_895_8191
  have e_g5_0_x_8204_8205 : g5_0 x0 (8204 : Int32) (8205 : Int32) = (0 : Int32) := ((if_neg q14).trans (if_pos q15))
  have e_f5_x_8204_8205 : f5 x0 (8204 : Int32) (8205 : Int32) = (0 : Int32) := e_g5_0_x_8204_8205
  have q25 : ¬ x0 < (8255 : Int32) := own_nlt h1 (by decide)
  have q26 : (8256 : Int32) < x0 := own_gt h1 (by decide)
  have e_g5_0_x_8255_8256 : g5_0 x0 (8255 : Int32) (8256 : Int32) = (0 : Int32) := ((if_neg q25).trans (if_pos q26))
  have e_f5_x_8255_8256 : f5 x0 (8255 : Int32) (8256 : Int32) = (0 : Int32) := e_g5_0_x_8255_8256
  have e_g5_0_x_8304_8591 : g5_0 x0 (8304 : Int32) (8591 : Int32) = (0 : Int32) := ((if_neg q16).trans (if_pos q17))
  have e_f5_x_8304_8591 : f5 x0 (8304 : Int32) (8591 : Int32) = (0 : Int32) := e_g5_0_x_8304_8591
  have e_g5_0_x_11264_12271 : g5_0 x0 (11264 : Int32) (12271 : Int32) = (0 : Int32) := ((if_neg q18).trans (if_pos q19))
  have e_f5_x_11264_12271 : f5 x0 (11264 : Int32) (12271 : Int32) = (0 : Int32) := e_g5_0_x_11264_12271
  have e_g5_0_x_12289_55295 : g5_0 x0 (12289 : Int32) (55295 : Int32) = (1 : Int32) := ((if_neg q20).trans (if_neg q21))
  have e_f5_x_12289_55295 : f5 x0 (12289 : Int32) (55295 : Int32) = (1 : Int32) := e_g5_0_x_12289_55295
  have e_g4_0_x : g4_0 x0 = (1 : Int32) := ((if_neg q22).trans ((if_neg q23).trans ((if_neg q24).trans ((if_pos (by rw [e_f5_x_192_214])).trans ((if_pos (by rw [e_f5_x_216_246])).trans ((if_pos (by rw [e_f5_x_248_893])).trans ((if_pos (by rw [e_f5_x_895_8191])).trans ((if_pos (by rw [e_f5_x_8204_8205])).trans ((if_pos (by rw [e_f5_x_8255_8256])).trans ((if_pos (by rw [e_f5_x_8304_8591])).trans ((if_pos (by rw [e_f5_x_11264_12271])).trans (if_neg (by rw [e_f5_x_12289_55295]; decide)))))))))))))
  have e_f4_x : f4 x0 = (1 : Int32) := e_g4_0_x
  rw [e_f1_x, e_f4_x]
theorem own_iv_63 (x0 : Int32) (h1 : (55296 : Int) ≤ x0.toInt) (h2 : x0.toInt < (63744 : Int)) : f1 x0 = f4 x0 := by
  have q0 : ¬ x0 < (65 : Int32) := own_nlt h1 (by decide)
  have q1 : (90 : Int32) < x0 := own_gt h1 (by decide)
  have q2 : ¬ x0 < (97 : Int32) := own_nlt h1 (by decide)
  have q3 : (122 : Int32) < x0 := own_gt h1 (by decide)
  have q4 : ¬ x0 < (192 : Int32) := own_nlt h1 (by decide)
  have q5 : (214 : Int32) < x0 := own_gt h1 (by decide)
  have q6 : ¬ x0 < (216 : Int32) := own_nlt h1 (by decide)
  have q7 : (246 : Int32) < x0 := own_gt h1 (by decide)
  have q8 : ¬ x0 < (248 : Int32) := own_nlt h1 (by decide)
  have q9 : (767 : Int32) < x0 := own_gt h1 (by decide)
  have q10 : ¬ x0 < (880 : Int32) := own_nlt h1 (by decide)
  have q11 : (893 : Int32) < x0 := own_gt h1 (by decide)
  have q12 : ¬ x0 < (895 : Int32) := own_nlt h1 (by decide)
  have q13 : (8191 : Int32) < x0 := own_gt h1 (by decide)
  have q14 : ¬ x0 < (8204 : Int32) := own_nlt h1 (by decide)
  have q15 : (8205 : Int32) < x0 := own_gt h1 (by decide)
  have q16 : ¬ x0 < (8304 : Int32) := own_nlt h1 (by decide)
  have q17 : (8591 : Int32) < x0 := own_gt h1 (by decide)
  have q18 : ¬ x0 < (11264 : Int32) := own_nlt h1 (by decide)
  have q19 : (12271 : Int32) < x0 := own_gt h1 (by decide)
  have q20 : ¬ x0 < (12289 : Int32) := own_nlt h1 (by decide)
  have q21 : (55295 : Int32) < x0 := own_gt h1 (by decide)
  have q22 : x0 < (63744 : Int32) := own_lt h2 (by decide)
  have q23 : x0 < (65008 : Int32) := own_lt h2 (by decide)
  have q24 : x0 < (65536 : Int32) := own_lt h2 (by decide)
  have e_g3_178_x : g3_178 x0 = (0 : Int32) := (if_pos q24)
  have e_g3_164_x : g3_164 x0 = (0 : Int32) := ((if_pos q23).trans e_g3_178_x)
  have e_g3_150_x : g3_150 x0 = (0 : Int32) := ((if_pos q22).trans e_g3_164_x)
  have e_g3_136_x : g3_136 x0 = (0 : Int32) := ((if_neg q20).trans ((if_pos q21).trans e_g3_150_x))
  have e_g3_122_x : g3_122 x0 = (0 : Int32) := ((if_neg q18).trans ((if_pos q19).trans e_g3_136_x))
  have e_g3_108_x : g3_108 x0 = (0 : Int32) := ((if_neg q16).trans ((if_pos q17).trans e_g3_122_x))
  have e_g3_94_x : g3_94 x0 = (0 : Int32) := ((if_neg q14).trans ((if_pos q15).trans e_g3_108_x))
  have e_g3_80_x : g3_80 x0 = (0 : Int32) := ((if_neg q12).trans ((if_pos q13).trans e_g3_94_x))
  have e_g3_66_x : g3_66 x0 = (0 : Int32) := ((if_neg q10).trans ((if_pos q11).trans e_g3_80_x))
  have e_g3_52_x : g3_52 x0 = (0 : Int32) := ((if_neg q8).trans ((if_pos q9).trans e_g3_66_x))
  have e_g3_38_x : g3_38 x0 = (0 : Int32) := ((if_neg q6).trans ((if_pos q7).trans e_g3_52_x))
  have e_g3_24_x : g3_24 x0 = (0 : Int32) := ((if_neg q4).trans ((if_pos q5).trans e_g3_38_x))
  have e_g3_12_x : g3_12 x0 = (0 : Int32) := ((if_neg q2).trans ((if_pos q3).trans e_g3_24_x))
  have e_g3_0_x : g3_0 x0 = (0 : Int32) := ((if_neg q0).trans ((if_pos q1).trans e_g3_12_x))
  have e_f3_x : f3 x0 = (0 : Int32) := e_g3_0_x
  have q25 : ¬ x0 = (95 : Int32) := own_ne1 h1 (by decide)
  have e_g2_0_x : g2_0 x0 = (0 : Int32) := ((if_pos (by rw [e_f3_x])).trans (if_neg q25))
  have e_f2_x : f2 x0 = (0 : Int32) := e_g2_0_x
  have q26 : ¬ x0 = (45 : Int32) := own_ne1 h1 (by decide)
  have q27 : ¬ x0 < (48 : Int32) := own_nlt h1 (by decide)
  have q28 : (57 : Int32) < x0 := own_gt h1 (by decide)
  have q29 : ¬ x0 = (183 : Int32) := own_ne1 h1 (by decide)
  have q30 : ¬ x0 < (768 : Int32) := own_nlt h1 (by decide)
  have q31 : (879 : Int32) < x0 := own_gt h1 (by decide)
  have q32 : ¬ x0 = (8255 : Int32) := own_ne1 h1 (by decide)
  have q33 : ¬ x0 = (8256 : Int32) := own_ne1 h1 (by decide)
  have e_g1_46_x : g1_46 x0 = (0 : Int32) := ((if_neg q32).trans (if_neg q33))
  have e_g1_25_x : g1_25 x0 = (0 : Int32) := ((if_neg q29).trans ((if_neg q30).trans ((if_pos q31).trans e_g1_46_x)))
  have e_g1_0_x : g1_0 x0 = (0 : Int32) := ((if_pos (by rw [e_f2_x])).trans ((if_neg q26).trans ((if_neg q27).trans ((if_pos q28).trans e_g1_25_x))))
  have e_f1_x : f1 x0 = (0 : Int32) := e_g1_0_x
  have q34 : ¬ x0 < (128 : Int32) := own_nlt h1 (by decide)
  have q35 : ¬ (65535 : Int32) < x0 := own_ngt h2 (by decide)
  have e_g5_0_x_192_214 : g5_0 x0 (192 : Int32) (214 : Int32) = (0 : Int32) := ((if_neg q4).trans (if_pos q5))
  have e_f5_x_192_214 : f5 x0 (192 : Int32) (214 : Int32) = (0 : Int32) := e_g5_0_x_192_214
  have e_g5_0_x_216_246 : g5_0 x0 (216 : Int32) (246 : Int32) = (0 : Int32) := ((if_neg q6).trans (if_pos q7))
  have e_f5_x_216_246 : f5 x0 (216 : Int32) (246 : Int32) = (0 : Int32) := e_g5_0_x_216_246
  have e_g5_0_x_248_893 : g5_0 x0 (248 : Int32) (893 : Int32) = (0 : Int32) := ((if_neg q8).trans (if_pos q11))
  have e_f5_x_248_893 : f5 x0 (248 : Int32) (893 : Int32) = (0 : Int32) := e_g5_0_x_248_893
  have e_g5_0_x_895_8191 : g5_0 x0 (895 : Int32) (8191 : Int32) = (0 : Int32) := ((if_neg q12).trans (if_pos q13))
  have e_f5_x_895_8191 : f5 x0 (895 : Int32) (8191 : Int32) = (0 : Int32) := e_g5_0_x_895_8191
  have e_g5_0_x_8204_8205 : g5_0 x0 (8204 : Int32) (8205 : Int32) = (0 : Int32) := ((if_neg q14).trans (if_pos q15))
  have e_f5_x_8204_8205 : f5 x0 (8204 : Int32) (8205 : Int32) = (0 : Int32) := e_g5_0_x_8204_8205
  have q36 : ¬ x0 < (8255 : Int32) := own_nlt h1 (by decide)
  have q37 : (8256 : Int32) < x0 := own_gt h1 (by decide)
  have e_g5_0_x_8255_8256 : g5_0 x0 (8255 : Int32) (8256 : Int32) = (0 : Int32) := ((if_neg q36).trans (if_pos q37))
  have e_f5_x_8255_8256 : f5 x0 (8255 : Int32) (8256 : Int32) = (0 : Int32) := e_g5_0_x_8255_8256
  have e_g5_0_x_8304_8591 : g5_0 x0 (8304 : Int32) (8591 : Int32) = (0 : Int32) := ((if_neg q16).trans (if_pos q17))
  have e_f5_x_8304_8591 : f5 x0 (8304 : Int32) (8591 : Int32) = (0 : Int32) := e_g5_0_x_8304_8591
  have e_g5_0_x_11264_12271 : g5_0 x0 (11264 : Int32) (12271 : Int32) = (0 : Int32) := ((if_neg q18).trans (if_pos q19))
  have e_f5_x_11264_12271 : f5 x0 (11264 : Int32) (12271 : Int32) = (0 : Int32) := e_g5_0_x_11264_12271
  have e_g5_0_x_12289_55295 : g5_0 x0 (12289 : Int32) (55295 : Int32) = (0 : Int32) := ((if_neg q20).trans (if_pos q21))
  have e_f5_x_12289_55295 : f5 x0 (12289 : Int32) (55295 : Int32) = (0 : Int32) := e_g5_0_x_12289_55295
  have e_g5_0_x_63744_64975 : g5_0 x0 (63744 : Int32) (64975 : Int32) = (0 : Int32) := (if_pos q22)
  have e_f5_x_63744_64975 : f5 x0 (63744 : Int32) (64975 : Int32) = (0 : Int32) := e_g5_0_x_63744_64975
  have e_g5_0_x_65008_65533 : g5_0 x0 (65008 : Int32) (65533 : Int32) = (0 : Int32) := (if_pos q23)
  have e_f5_x_65008_65533 : f5 x0 (65008 : Int32) (65533 : Int32) = (0 : Int32) := e_g5_0_x_65008_65533
  have e_g4_0_x : g4_0 x0 = (0 : Int32) := ((if_neg q34).trans ((if_neg q35).trans ((if_neg q29).trans ((if_pos (by rw [e_f5_x_192_214])).trans ((if_pos (by rw [e_f5_x_216_246])).trans ((if_pos (by rw [e_f5_x_248_893])).trans ((if_pos (by rw [e_f5_x_895_8191])).trans ((if_pos (by rw [e_f5_x_8204_8205])).trans ((if_pos (by rw [e_f5_x_8255_8256])).trans ((if_pos (by rw [e_f5_x_8304_8591])).trans ((if_pos (by rw [e_f5_x_11264_12271])).trans ((if_pos (by rw [e_f5_x_12289_55295])).trans ((if_pos (by rw [e_f5_x_63744_64975])).trans (if_pos (by rw [e_f5_x_65008_65533])))))))))))))))
  have e_f4_x : f4 x0 = (0 : Int32) := e_g4_0_x
  rw [e_f1_x, e_f4_x]
theorem own_iv_64 (x0 : Int32) (h1 : (63744 : Int) ≤ x0.toInt) (h2 : x0.toInt < (63745 : Int)) : f1 x0 = f4 x0 := by
  have q0 : ¬ x0 < (65 : Int32) := own_nlt h1 (by decide)
  have q1 : (90 : Int32) < x0 := own_gt h1 (by decide)
  have q2 : ¬ x0 < (97 : Int32) := own_nlt h1 (by decide)
  have q3 : (122 : Int32) < x0 := own_gt h1 (by decide)
  have q4 : ¬ x0 < (192 : Int32) := own_nlt h1 (by decide)
  have q5 : (214 : Int32) < x0 := own_gt h1 (by decide)
  have q6 : ¬ x0 < (216 : Int32) := own_nlt h1 (by decide)
  have q7 : (246 : Int32) < x0 := own_gt h1 (by decide)
  have q8 : ¬ x0 < (248 : Int32) := own_nlt h1 (by decide)
  have q9 : (767 : Int32) < x0 := own_gt h1 (by decide)
  have q10 : ¬ x0 < (880 : Int32) := own_nlt h1 (by decide)
  have q11 : (893 : Int32) < x0 := own_gt h1 (by decide)
  have q12 : ¬ x0 < (895 : Int32) := own_nlt h1 (by decide)
  have q13 : (8191 : Int32) < x0 := own_gt h1 (by decide)
  have q14 : ¬ x0 < (8204 : Int32) := own_nlt h1 (by decide)
  have q15 : (8205 : Int32) < x0 := own_gt h1 (by decide)
  have q16 : ¬ x0 < (8304 : Int32) := own_nlt h1 (by decide)
  have q17 : (8591 : Int32) < x0 := own_gt h1 (by decide)
  have q18 : ¬ x0 < (11264 : Int32) := own_nlt h1 (by decide)
  have q19 : (12271 : Int32) < x0 := own_gt h1 (by decide)
  have q20 : ¬ x0 < (12289 : Int32) := own_nlt h1 (by decide)
  have q21 : (55295 : Int32) < x0 := own_gt h1 (by decide)
  have q22 : ¬ x0 < (63744 : Int32) := own_nlt h1 (by decide)
  have q23 : ¬ (64975 : Int32) < x0 := own_ngt h2 (by decide)
  have e_g3_150_x : g3_150 x0 = (1 : Int32) := ((if_neg q22).trans (if_neg q23))
  have e_g3_136_x : g3_136 x0 = (1 : Int32) := ((if_neg q20).trans ((if_pos q21).trans e_g3_150_x))
  have e_g3_122_x : g3_122 x0 = (1 : Int32) := ((if_neg q18).trans ((if_pos q19).trans e_g3_136_x))
  have e_g3_108_x : g3_108 x0 = (1 : Int32) := ((if_neg q16).trans ((if_pos q17).trans e_g3_122_x))
  have e_g3_94_x : g3_94 x0 = (1 : Int32) := ((if_neg q14).trans ((if_pos q15).trans e_g3_108_x))
  have e_g3_80_x : g3_80 x0 = (1 : Int32) := ((if_neg q12).trans ((if_pos q13).trans e_g3_94_x))
  have e_g3_66_x : g3_66 x0 = (1 : Int32) := ((if_neg q10).trans ((if_pos q11).trans e_g3_80_x))
  have e_g3_52_x : g3_52 x0 = (1 : Int32) := ((if_neg q8).trans ((if_pos q9).trans e_g3_66_x))
  have e_g3_38_x : g3_38 x0 = (1 : Int32) := ((if_neg q6).trans ((if_pos q7).trans e_g3_52_x))
  have e_g3_24_x : g3_24 x0 = (1 : Int32) := ((if_neg q4).trans ((if_pos q5).trans e_g3_38_x))
  have e_g3_12_x : g3_12 x0 = (1 : Int32) := ((if_neg q2).trans ((if_pos q3).trans e_g3_24_x))
  have e_g3_0_x : g3_0 x0 = (1 : Int32) := ((if_neg q0).trans ((if_pos q1).trans e_g3_12_x))
  have e_f3_x : f3 x0 = (1 : Int32) := e_g3_0_x
  have e_g2_0_x : g2_0 x0 = (1 : Int32) := (if_neg (by rw [e_f3_x]; decide))
  have e_f2_x : f2 x0 = (1 : Int32) := e_g2_0_x
  have e_g1_0_x : g1_0 x0 = (1 : Int32) := (if_neg (by rw [e_f2_x]; decide))
  have e_f1_x : f1 x0 = (1 : Int32) := e_g1_0_x
  have q24 : ¬ x0 < (128 : Int32) := own_nlt h1 (by decide)
  have q25 : ¬ (65535 : Int32) < x0 := own_ngt h2 (by decide)
  have q26 : ¬ x0 = (183 : Int32) := own_ne1 h1 (by decide)
  have e_g5_0_x_192_214 : g5_0 x0 (192 : Int32) (214 : Int32) = (0 : Int32) := ((if_neg q4).trans (if_pos q5))
  have e_f5_x_192_214 : f5 x0 (192 : Int32) (214 : Int32) = (0 : Int32) := e_g5_0_x_192_214
  have e_g5_0_x_216_246 : g5_0 x0 (216 : Int32) (246 : Int32) = (0 : Int32) := ((if_neg q6).trans (if_pos q7))
  have e_f5_x_216_246 : f5 x0 (216 : Int32) (246 : Int32) = (0 : Int32) := e_g5_0_x_216_246
  have e_g5_0_x_248_893 : g5_0 x0 (248 : Int32) (893 : Int32) = (0 : Int32) := ((if_neg q8).trans (if_pos q11))
  have e_f5_x_248_893 : f5 x0 (248 : Int32) (893 : Int32) = (0 : Int32) := e_g5_0_x_248_893
  have e_g5_0_x_895_8191 : g5_0 x0 (895 : Int32) (8191 : Int32) = (0 : Int32) := ((if_neg q12).trans (if_pos q13))
  have e_f5_x_895_8191 : f5 x0 (895 : Int32) (8191 : Int32) = (0 : Int32) := e_g5_0_x_895_8191
  have e_g5_0_x_8204_8205 : g5_0 x0 (8204 : Int32) (8205 : Int32) = (0 : Int32) := ((if_neg q14).trans (if_pos q15))
  have e_f5_x_8204_8205 : f5 x0 (8204 : Int32) (8205 : Int32) = (0 : Int32) := e_g5_0_x_8204_8205
  have q27 : ¬ x0 < (8255 : Int32) := own_nlt h1 (by decide)
  have q28 : (8256 : Int32) < x0 := own_gt h1 (by decide)
  have e_g5_0_x_8255_8256 : g5_0 x0 (8255 : Int32) (8256 : Int32) = (0 : Int32) := ((if_neg q27).trans (if_pos q28))
  have e_f5_x_8255_8256 : f5 x0 (8255 : Int32) (8256 : Int32) = (0 : Int32) := e_g5_0_x_8255_8256
  have e_g5_0_x_8304_8591 : g5_0 x0 (8304 : Int32) (8591 : Int32) = (0 : Int32) := ((if_neg q16).trans (if_pos q17))
  have e_f5_x_8304_8591 : f5 x0 (8304 : Int32) (8591 : Int32) = (0 : Int32) := e_g5_0_x_8304_8591
  have e_g5_0_x_11264_12271 : g5_0 x0 (11264 : Int32) (12271 : Int32) = (0 : Int32) := ((if_neg q18).trans (if_pos q19))
  have e_f5_x_11264_12271 : f5 x0 (11264 : Int32) (12271 : Int32) = (0 : Int32) := e_g5_0_x_11264_12271
  have e_g5_0_x_12289_55295 : g5_0 x0 (12289 : Int32) (55295 : Int32) = (0 : Int32) := ((if_neg q20).trans (if_pos q21))
  have e_f5_x_12289_55295 : f5 x0 (12289 : Int32) (55295 : Int32) = (0 : Int32) := e_g5_0_x_12289_55295
  have e_g5_0_x_63744_64975 : g5_0 x0 (63744 : Int32) (64975 : Int32) = (1 : Int32) := ((if_neg q22).trans (if_neg q23))
  have e_f5_x_63744_64975 : f5 x0 (63744 : Int32) (64975 : Int32) = (1 : Int32) := e_g5_0_x_63744_64975
  have e_g4_0_x : g4_0 x0 = (1 : Int32) := ((if_neg q24).trans ((if_neg q25).trans ((if_neg q26).trans ((if_pos (by rw [e_f5_x_192_214])).trans ((if_pos (by rw [e_f5_x_216_246])).trans ((if_pos (by rw [e_f5_x_248_893])).trans ((if_pos (by rw [e_f5_x_895_8191])).trans ((if_pos (by rw [e_f5_x_8204_8205])).trans ((if_pos (by rw [e_f5_x_8255_8256])).trans ((if_pos (by rw [e_f5_x_8304_8591])).trans ((if_pos (by rw [e_f5_x_11264_12271])).trans ((if_pos (by rw [e_f5_x_12289_55295])).trans (if_neg (by rw [e_f5_x_63744_64975]; decide))))))))))))))
  have e_f4_x : f4 x0 = (1 : Int32) := e_g4_0_x
  rw [e_f1_x, e_f4_x]
theorem own_iv_65 (x0 : Int32) (h1 : (63745 : Int) ≤ x0.toInt) (h2 : x0.toInt < (64975 : Int)) : f1 x0 = f4 x0 := by
  have q0 : ¬ x0 < (65 : Int32) := own_nlt h1 (by decide)
  have q1 : (90 : Int32) < x0 := own_gt h1 (by decide)
  have q2 : ¬ x0 < (97 : Int32) := own_nlt h1 (by decide)
  have q3 : (122 : Int32) < x0 := own_gt h1 (by decide)
  have q4 : ¬ x0 < (192 : Int32) := own_nlt h1 (by decide)
  have q5 : (214 : Int32) < x0 := own_gt h1 (by decide)
  have q6 : ¬ x0 < (216 : Int32) := own_nlt h1 (by decide)
  have q7 : (246 : Int32) < x0 := own_gt h1 (by decide)
  have q8 : ¬ x0 < (248 : Int32) := own_nlt h1 (by decide)
  have q9 : (767 : Int32) < x0 := own_gt h1 (by decide)
  have q10 : ¬ x0 < (880 : Int32) := own_nlt h1 (by decide)
  have q11 : (893 : Int32) < x0 := own_gt h1 (by decide)
  have q12 : ¬ x0 < (895 : Int32) := own_nlt h1 (by decide)
  have q13 : (8191 : Int32) < x0 := own_gt h1 (by decide)
  have q14 : ¬ x0 < (8204 : Int32) := own_nlt h1 (by decide)
  have q15 : (8205 : Int32) < x0 := own_gt h1 (by decide)
  have q16 : ¬ x0 < (8304 : Int32) := own_nlt h1 (by decide)
  have q17 : (8591 : Int32) < x0 := own_gt h1 (by decide)
  have q18 : ¬ x0 < (11264 : Int32) := own_nlt h1 (by decide)
  have q19 : (12271 : Int32) < x0 := own_gt h1 (by decide)
  have q20 : ¬ x0 < (12289 : Int32) := own_nlt h1 (by decide)
  have q21 : (55295 : Int32) < x0 := own_gt h1 (by decide)
  have q22 : ¬ x0 < (63744 : Int32) := own_nlt h1 (by decide)
  have q23 : ¬ (64975 : Int32) < x0 := own_ngt h2 (by decide)
  have e_g3_150_x : g3_150 x0 = (1 : Int32) := ((if_neg q22).trans (if_neg q23))
  have e_g3_136_x : g3_136 x0 = (1 : Int32) := ((if_neg q20).trans ((if_pos q21).trans e_g3_150_x))
  have e_g3_122_x : g3_122 x0 = (1 : Int32) := ((if_neg q18).trans ((if_pos q19).trans e_g3_136_x))
  have e_g3_108_x : g3_108 x0 = (1 : Int32) := ((if_neg q16).trans ((if_pos q17).trans e_g3_122_x))
  have e_g3_94_x : g3_94 x0 = (1 : Int32) := ((if_neg q14).trans ((if_pos q15).trans e_g3_108_x))
  have e_g3_80_x : g3_80 x0 = (1 : Int32) := ((if_neg q12).trans ((if_pos q13).trans e_g3_94_x))
  have e_g3_66_x : g3_66 x0 = (1 : Int32) := ((if_neg q10).trans ((if_pos q11).trans e_g3_80_x))
  have e_g3_52_x : g3_52 x0 = (1 : Int32) := ((if_neg q8).trans ((if_pos q9).trans e_g3_66_x))
  have e_g3_38_x : g3_38 x0 = (1 : Int32) := ((if_neg q6).trans ((if_pos q7).trans e_g3_52_x))
  have e_g3_24_x : g3_24 x0 = (1 : Int32) := ((if_neg q4).trans ((if_pos q5).trans e_g3_38_x))
  have e_g3_12_x : g3_12 x0 = (1 : Int32) := ((if_neg q2).trans ((if_pos q3).trans e_g3_24_x))
  have e_g3_0_x : g3_0 x0 = (1 : Int32) := ((if_neg q0).trans ((if_pos q1).trans e_g3_12_x))
  have e_f3_x : f3 x0 = (1 : Int32) := e_g3_0_x
  have e_g2_0_x : g2_0 x0 = (1 : Int32) := (if_neg (by rw [e_f3_x]; decide))
  have e_f2_x : f2 x0 = (1 : Int32) := e_g2_0_x
  have e_g1_0_x : g1_0 x0 = (1 : Int32) := (if_neg (by rw [e_f2_x]; decide))
  have e_f1_x : f1 x0 = (1 : Int32) := e_g1_0_x
  have q24 : ¬ x0 < (128 : Int32) := own_nlt h1 (by decide)
  have q25 : ¬ (65535 : Int32) < x0 := own_ngt h2 (by decide)
  have q26 : ¬ x0 = (183 : Int32) := own_ne1 h1 (by decide)
  have e_g5_0_x_192_214 : g5_0 x0 (192 : Int32) (214 : Int32) = (0 : Int32) := ((if_neg q4).trans (if_pos q5))
  have e_f5_x_192_214 : f5 x0 (192 : Int32) (214 : Int32) = (0 : Int32) := e_g5_0_x_192_214
  have e_g5_0_x_216_246 : g5_0 x0 (216 : Int32) (246 : Int32) = (0 : Int32) := ((if_neg q6).trans (if_pos q7))
  have e_f5_x_216_246 : f5 x0 (216 : Int32) (246 : Int32) = (0 : Int32) := e_g5_0_x_216_246
  have e_g5_0_x_248_893 : g5_0 x0 (248 : Int32) (893 : Int32) = (0 : Int32) := ((if_neg q8).trans (if_pos q11))
  have e_f5_x_248_893 : f5 x0 (248 : Int32) (893 : Int32) = (0 : Int32) := e_g5_0_x_248_893
  have e_g5_0_x_895_8191 : g5_0 x0 (895 : Int32) (8191 : Int32) = (0 : Int32) := ((if_neg q12).trans (if_pos q13))
  have e_f5_x_895_8191 : f5 x0 (895 : Int32) (8191 : Int32) = (0 : Int32) := e_g5_0_x_895_8191
  have e_g5_0_x_8204_8205 : g5_0 x0 (8204 : Int32) (8205 : Int32) = (0 : Int32) := ((if_neg q14).trans (if_pos q15))
  have e_f5_x_8204_8205 : f5 x0 (8204 : Int32) (8205 : Int32) = (0 : Int32) := e_g5_0_x_8204_8205
  have q27 : ¬ x0 < (8255 : Int32) := own_nlt h1 (by decide)
  have q28 : (8256 : Int32) < x0 := own_gt h1 (by decide)
  have e_g5_0_x_8255_8256 : g5_0 x0 (8255 : Int32) (8256 : Int32) = (0 : Int32) := ((if_neg q27).trans (if_pos q28))
  have e_f5_x_8255_8256 : f5 x0 (8255 : Int32) (8256 : Int32) = (0 : Int32) := e_g5_0_x_8255_8256
  have e_g5_0_x_8304_8591 : g5_0 x0 (8304 : Int32) (8591 : Int32) = (0 : Int32) := ((if_neg q16).trans (if_pos q17))
  have e_f5_x_8304_8591 : f5 x0 (8304 : Int32) (8591 : Int32) = (0 : Int32) := e_g5_0_x_8304_8591
  have e_g5_0_x_11264_12271 : g5_0 x0 (11264 : Int32) (12271 : Int32) = (0 : Int32) := ((if_neg q18).trans (if_pos q19))
  have e_f5_x_11264_12271 : f5 x0 (11264 : Int32) (12271 : Int32) = (0 : Int32) := e_g5_0_x_11264_12271
  have e_g5_0_x_12289_55295 : g5_0 x0 (12289 : Int32) (55295 : Int32) = (0 : Int32) := ((if_neg q20).trans (if_pos q21))
  have e_f5_x_12289_55295 : f5 x0 (12289 : Int32) (55295 : Int32) = (0 : Int32) := e_g5_0_x_12289_55295
  have e_g5_0_x_63744_64975 : g5_0 x0 (63744 : Int32) (64975 : Int32) = (1 : Int32) := ((if_neg q22).trans (if_neg q23))
  have e_f5_x_63744_64975 : f5 x0 (63744 : Int32) (64975 : Int32) = (1 : Int32) := e_g5_0_x_63744_64975
  have e_g4_0_x : g4_0 x0 = (1 : Int32) := ((if_neg q24).trans ((if_neg q25).trans ((if_neg q26).trans ((if_pos (by rw [e_f5_x_192_214])).trans ((if_pos (by rw [e_f5_x_216_246])).trans ((if_pos (by rw [e_f5_x_248_893])).trans ((if_pos (by rw [e_f5_x_895_8191])).trans ((if_pos (by rw [e_f5_x_8204_8205])).trans ((if_pos (by rw [e_f5_x_8255_8256])).trans ((if_pos (by rw [e_f5_x_8304_8591])).trans ((if_pos (by rw [e_f5_x_11264_12271])).trans ((if_pos (by rw [e_f5_x_12289_55295])).trans (if_neg (by rw [e_f5_x_63744_64975]; decide))))))))))))))
  have e_f4_x : f4 x0 = (1 : Int32) := e_g4_0_x
  rw [e_f1_x, e_f4_x]
theorem own_iv_66 (x0 : Int32) (h1 : (64975 : Int) ≤ x0.toInt) (h2 : x0.toInt < (64976 : Int)) : f1 x0 = f4 x0 := by
  have q0 : ¬ x0 < (65 : Int32) := own_nlt h1 (by decide)
  have q1 : (90 : Int32) < x0 := own_gt h1 (by decide)
  have q2 : ¬ x0 < (97 : Int32) := own_nlt h1 (by decide)
  have q3 : (122 : Int32) < x0 := own_gt h1 (by decide)
  have q4 : ¬ x0 < (192 : Int32) := own_nlt h1 (by decide)
  have q5 : (214 : Int32) < x0 := own_gt h1 (by decide)
  have q6 : ¬ x0 < (216 : Int32) := own_nlt h1 (by decide)
  have q7 : (246 : Int32) < x0 := own_gt h1 (by decide)
  have q8 : ¬ x0 < (248 : Int32) := own_nlt h1 (by decide)
  have q9 : (767 : Int32) < x0 := own_gt h1 (by decide)
  have q10 : ¬ x0 < (880 : Int32) := own_nlt h1 (by decide)
  have q11 : (893 : Int32) < x0 := own_gt h1 (by decide)
  have q12 : ¬ x0 < (895 : Int32) := own_nlt h1 (by decide)
  have q13 : (8191 : Int32) < x0 := own_gt h1 (by decide)
  have q14 : ¬ x0 < (8204 : Int32) := own_nlt h1 (by decide)
  have q15 : (8205 : Int32) < x0 := own_gt h1 (by decide)
  have q16 : ¬ x0 < (8304 : Int32) := own_nlt h1 (by decide)
  have q17 : (8591 : Int32) < x0 := own_gt h1 (by decide)
  have q18 : ¬ x0 < (11264 : Int32) := own_nlt h1 (by decide)
  have q19 : (12271 : Int32) < x0 := own_gt h1 (by decide)
  have q20 : ¬ x0 < (12289 : Int32) := own_nlt h1 (by decide)
  have q21 : (55295 : Int32) < x0 := own_gt h1 (by decide)
  have q22 : ¬ x0 < (63744 : Int32) := own_nlt h1 (by decide)
  have q23 : ¬ (64975 : Int32) < x0 := own_ngt h2 (by decide)
  have e_g3_150_x : g3_150 x0 = (1 : Int32) := ((if_neg q22).trans (if_neg q23))
  have e_g3_136_x : g3_136 x0 = (1 : Int32) := ((if_neg q20).trans ((if_pos q21).trans e_g3_150_x))
  have e_g3_122_x : g3_122 x0 = (1 : Int32) := ((if_neg q18).trans ((if_pos q19).trans e_g3_136_x))
  have e_g3_108_x : g3_108 x0 = (1 : Int32) := ((if_neg q16).trans ((if_pos q17).trans e_g3_122_x))
  have e_g3_94_x : g3_94 x0 = (1 : Int32) := ((if_neg q14).trans ((if_pos q15).trans e_g3_108_x))
  have e_g3_80_x : g3_80 x0 = (1 : Int32) := ((if_neg q12).trans ((if_pos q13).trans e_g3_94_x))
  have e_g3_66_x : g3_66 x0 = (1 : Int32) := ((if_neg q10).trans ((if_pos q11).trans e_g3_80_x))
  have e_g3_52_x : g3_52 x0 = (1 : Int32) := ((if_neg q8).trans ((if_pos q9).trans e_g3_66_x))
  have e_g3_38_x : g3_38 x0 = (1 : Int32) := ((if_neg q6).trans ((if_pos q7).trans e_g3_52_x))
  have e_g3_24_x : g3_24 x0 = (1 : Int32) := ((if_neg q4).trans ((if_pos q5).trans e_g3_38_x))
  have e_g3_12_x : g3_12 x0 = (1 : Int32) := ((if_neg q2).trans ((if_pos q3).trans e_g3_24_x))
  have e_g3_0_x : g3_0 x0 = (1 : Int32) := ((if_neg q0).trans ((if_pos q1).trans e_g3_12_x))
  have e_f3_x : f3 x0 = (1 : Int32) := e_g3_0_x
  have e_g2_0_x : g2_0 x0 = (1 : Int32) := (if_neg (by rw [e_f3_x]; decide))
  have e_f2_x : f2 x0 = (1 : Int32) := e_g2_0_x
  have e_g1_0_x : g1_0 x0 = (1 : Int32) := (if_neg (by rw [e_f2_x]; decide))
  have e_f1_x : f1 x0 = (1 : Int32) := e_g1_0_x
  have q24 : ¬ x0 < (128 : Int32) := own_nlt h1 (by decide)
  have q25 : ¬ (65535 : Int32) < x0 := own_ngt h2 (by decide)
  have q26 : ¬ x0 = (183 : Int32) := own_ne1 h1 (by decide)
  have e_g5_0_x_192_214 : g5_0 x0 (192 : Int32) (214 : Int32) = (0 : Int32) := ((if_neg q4).trans (if_pos q5))
  have e_f5_x_192_214 : f5 x0 (192 : Int32) (214 : Int32) = (0 : Int32) := e_g5_0_x_192_214
  have e_g5_0_x_216_246 : g5_0 x0 (216 : Int32) (246 : Int32) = (0 : Int32) := ((if_neg q6).trans (if_pos q7))
  have e_f5_x_216_246 : f5 x0 (216 : Int32) (246 : Int32) = (0 : Int32) := e_g5_0_x_216_246
  have e_g5_0_x_248_893 : g5_0 x0 (248 : Int32) (893 : Int32) = (0 : Int32) := ((if_neg q8).trans (if_pos q11))
  have e_f5_x_248_893 : f5 x0 (248 : Int32) (893 : Int32) = (0 : Int32) := e_g5_0_x_248_893
  have e_g5_0_x_895_8191 : g5_0 x0 (895 : Int32) (8191 : Int32) = (0 : Int32) := ((if_neg q12).trans (if_pos q13))
  have e_f5_x_895_8191 : f5 x0 (895 : Int32) (8191 : Int32) = (0 : Int32) := e_g5_0_x_895_8191
  have e_g5_0_x_8204_8205 : g5_0 x0 (8204 : Int32) (8205 : Int32) = (0 : Int32) := ((if_neg q14).trans (if_pos q15))
  have e_f5_x_8204_8205 : f5 x0 (8204 : Int32) (8205 : Int32) = (0 : Int32) := e_g5_0_x_8204_8205
  have q27 : ¬ x0 < (8255 : Int32) := own_nlt h1 (by decide)
  have q28 : (8256 : Int32) < x0 := own_gt h1 (by decide)
  have e_g5_0_x_8255_8256 : g5_0 x0 (8255 : Int32) (8256 : Int32) = (0 : Int32) := ((if_neg q27).trans (if_pos q28))
  have e_f5_x_8255_8256 : f5 x0 (8255 : Int32) (8256 : Int32) = (0 : Int32) := e_g5_0_x_8255_8256
  have e_g5_0_x_8304_8591 : g5_0 x0 (8304 : Int32) (8591 : Int32) = (0 : Int32) := ((if_neg q16).trans (if_pos q17))
  have e_f5_x_8304_8591 : f5 x0 (8304 : Int32) (8591 : Int32) = (0 : Int32) := e_g5_0_x_8304_8591
  have e_g5_0_x_11264_12271 : g5_0 x0 (11264 : Int32) (12271 : Int32) = (0 : Int32) := ((if_neg q18).trans (if_pos q19))
  have e_f5_x_11264_12271 : f5 x0 (11264 : Int32) (12271 : Int32) = (0 : Int32) := e_g5_0_x_11264_12271
  have e_g5_0_x_12289_55295 : g5_0 x0 (12289 : Int32) (55295 : Int32) = (0 : Int32) := ((if_neg q20).trans (if_pos q21))
  have e_f5_x_12289_55295 : f5 x0 (12289 : Int32) (55295 : Int32) = (0 : Int32) := e_g5_0_x_12289_55295
  have e_g5_0_x_63744_64975 : g5_0 x0 (63744 : Int32) (64975 : Int32) = (1 : Int32) := ((if_neg q22).trans (if_neg q23))
  have e_f5_x_63744_64975 : f5 x0 (63744 : Int32) (64975 : Int32) = (1 : Int32) := e_g5_0_x_63744_64975
  have e_g4_0_x : g4_0 x0 = (1 : Int32) := ((if_neg q24).trans ((if_neg q25).trans ((if_neg q26).trans ((if_pos (by rw [e_f5_x_192_214])).trans ((if_pos (by rw [e_f5_x_216_246])).trans ((if_pos (by rw [e_f5_x_248_893])).trans ((if_pos (by rw [e_f5_x_895_8191])).trans ((if_pos (by rw [e_f5_x_8204_8205])).trans ((if_pos (by rw [e_f5_x_8255_8256])).trans ((if_pos (by rw [e_f5_x_8304_8591])).trans ((if_pos (by rw [e_f5_x_11264_12271])).trans ((if_pos (by rw [e_f5_x_12289_55295])).trans (if_neg (by rw [e_f5_x_63744_64975]; decide))))))))))))))
  have e_f4_x : f4 x0 = (1 : Int32) := e_g4_0_x
  rw [e_f1_x, e_f4_x]
theorem own_iv_67 (x0 : Int32) (h1 : (64976 : Int) ≤ x0.toInt) (h2 : x0.toInt < (65008 : Int)) : f1 x0 = f4 x0 := by
  have q0 : ¬ x0 < (65 : Int32) := own_nlt h1 (by decide)
  have q1 : (90 : Int32) < x0 := own_gt h1 (by decide)
  have q2 : ¬ x0 < (97 : Int32) := own_nlt h1 (by decide)
  have q3 : (122 : Int32) < x0 := own_gt h1 (by decide)
  have q4 : ¬ x0 < (192 : Int32) := own_nlt h1 (by decide)
  have q5 : (214 : Int32) < x0 := own_gt h1 (by decide)
  have q6 : ¬ x0 < (216 : Int32) := own_nlt h1 (by decide)
  have q7 : (246 : Int32) < x0 := own_gt h1 (by decide)
  have q8 : ¬ x0 < (248 : Int32) := own_nlt h1 (by decide)
  have q9 : (767 : Int32) < x0 := own_gt h1 (by decide)
  have q10 : ¬ x0 < (880 : Int32) := own_nlt h1 (by decide)
  have q11 : (893 : Int32) < x0 := own_gt h1 (by decide)
  have q12 : ¬ x0 < (895 : Int32) := own_nlt h1 (by decide)
  have q13 : (8191 : Int32) < x0 := own_gt h1 (by decide)
  have q14 : ¬ x0 < (8204 : Int32) := own_nlt h1 (by decide)
  have q15 : (8205 : Int32) < x0 := own_gt h1 (by decide)
  have q16 : ¬ x0 < (8304 : Int32) := own_nlt h1 (by decide)
  have q17 : (8591 : Int32) < x0 := own_gt h1 (by decide)
  have q18 : ¬ x0 < (11264 : Int32) := own_nlt h1 (by decide)
  have q19 : (12271 : Int32) < x0 := own_gt h1 (by decide)
  have q20 : ¬ x0 < (12289 : Int32) := own_nlt h1 (by decide)
  have q21 : (55295 : Int32) < x0 := own_gt h1 (by decide)
  have q22 : ¬ x0 < (63744 : Int32) := own_nlt h1 (by decide)
  have q23 : (64975 : Int32) < x0 := own_gt h1 (by decide)
  have q24 : x0 < (65008 : Int32) := own_lt h2 (by decide)
  have q25 : x0 < (65536 : Int32) := own_lt h2 (by decide)
  have e_g3_178_x : g3_178 x0 = (0 : Int32) := (if_pos q25)
  have e_g3_164_x : g3_164 x0 = (0 : Int32) := ((if_pos q24).trans e_g3_178_x)
  have e_g3_150_x : g3_150 x0 = (0 : Int32) := ((if_neg q22).trans ((if_pos q23).trans e_g3_164_x))
  have e_g3_136_x : g3_136 x0 = (0 : Int32) := ((if_neg q20).trans ((if_pos q21).trans e_g3_150_x))
  have e_g3_122_x : g3_122 x0 = (0 : Int32) := ((if_neg q18).trans ((if_pos q19).trans e_g3_136_x))
  have e_g3_108_x : g3_108 x0 = (0 : Int32) := ((if_neg q16).trans ((if_pos q17).trans e_g3_122_x))
  have e_g3_94_x : g3_94 x0 = (0 : Int32) := ((if_neg q14).trans ((if_pos q15).trans e_g3_108_x))
  have e_g3_80_x : g3_80 x0 = (0 : Int32) := ((if_neg q12).trans ((if_pos q13).trans e_g3_94_x))
  have e_g3_66_x : g3_66 x0 = (0 : Int32) := ((if_neg q10).trans ((if_pos q11).trans e_g3_80_x))
  have e_g3_52_x : g3_52 x0 = (0 : Int32) := ((if_neg q8).trans ((if_pos q9).trans e_g3_66_x))
  have e_g3_38_x : g3_38 x0 = (0 : Int32) := ((if_neg q6).trans ((if_pos q7).trans e_g3_52_x))
  have e_g3_24_x : g3_24 x0 = (0 : Int32) := ((if_neg q4).trans ((if_pos q5).trans e_g3_38_x))
  have e_g3_12_x : g3_12 x0 = (0 : Int32) := ((if_neg q2).trans ((if_pos q3).trans e_g3_24_x))
  have e_g3_0_x : g3_0 x0 = (0 : Int32) := ((if_neg q0).trans ((if_pos q1).trans e_g3_12_x))
  have e_f3_x : f3 x0 = (0 : Int32) := e_g3_0_x
  have q26 : ¬ x0 = (95 : Int32) := own_ne1 h1 (by decide)
  have e_g2_0_x : g2_0 x0 = (0 : Int32) := ((if_pos (by rw [e_f3_x])).trans (if_neg q26))
  have e_f2_x : f2 x0 = (0 : Int32) := e_g2_0_x
  have q27 : ¬ x0 = (45 : Int32) := own_ne1 h1 (by decide)
  have q28 : ¬ x0 < (48 : Int32) := own_nlt h1 (by decide)
  have q29 : (57 : Int32) < x0 := own_gt h1 (by decide)
  have q30 : ¬ x0 = (183 : Int32) := own_ne1 h1 (by decide)
  have q31 : ¬ x0 < (768 : Int32) := own_nlt h1 (by decide)
  have q32 : (879 : Int32) < x0 := own_gt h1 (by decide)
  have q33 : ¬ x0 = (8255 : Int32) := own_ne1 h1 (by decide)
  have q34 : ¬ x0 = (8256 : Int32) := own_ne1 h1 (by decide)
  have e_g1_46_x : g1_46 x0 = (0 : Int32) := ((if_neg q33).trans (if_neg q34))
  have e_g1_25_x : g1_25 x0 = (0 : Int32) := ((if_neg q30).trans ((if_neg q31).trans ((if_pos q32).trans e_g1_46_x)))
  have e_g1_0_x : g1_0 x0 = (0 : Int32) := ((if_pos (by rw [e_f2_x])).trans ((if_neg q27).trans ((if_neg q28).trans ((if_pos q29).trans e_g1_25_x))))
  have e_f1_x : f1 x0 = (0 : Int32) := e_g1_0_x
  have q35 : ¬ x0 < (128 : Int32) := own_nlt h1 (by decide)
  have q36 : ¬ (65535 : Int32) < x0 := own_ngt h2 (by decide)
  have e_g5_0_x_192_214 : g5_0 x0 (192 : Int32) (214 : Int32) = (0 : Int32) := ((if_neg q4).trans (if_pos q5))
  have e_f5_x_192_214 : f5 x0 (192 : Int32) (214 : Int32) = (0 : Int32) := e_g5_0_x_192_214
  have e_g5_0_x_216_246 : g5_0 x0 (216 : Int32) (246 : Int32) = (0 : Int32) := ((if_neg q6).trans (if_pos q7))
  have e_f5_x_216_246 : f5 x0 (216 : Int32) (246 : Int32) = (0 : Int32) := e_g5_0_x_216_246
  have e_g5_0_x_248_893 : g5_0 x0 (248 : Int32) (893 : Int32) = (0 : Int32) := ((if_neg q8).trans (if_pos q11))
  have e_f5_x_248_893 : f5 x0 (248 : Int32) (893 : Int32) = (0 : Int32) := e_g5_0_x_248_893
  have e_g5_0_x_895_8191 : g5_0 x0 (895 : Int32) (8191 : Int32) = (0 : Int32) := ((if_neg q12).trans (if_pos q13))
  have e_f5_x_895_8191 : f5 x0 (895 : Int32) (8191 : Int32) = (0 : Int32) := e_g5_0_x_895_8191
  have e_g5_0_x_8204_8205 : g5_0 x0 (8204 : Int32) (8205 : Int32) = (0 : Int32) := ((if_neg q14).trans (if_pos q15))
  have e_f5_x_8204_8205 : f5 x0 (8204 : Int32) (8205 : Int32) = (0 : Int32) := e_g5_0_x_8204_8205
  have q37 : ¬ x0 < (8255 : Int32) := own_nlt h1 (by decide)
  have q38 : (8256 : Int32) < x0 := own_gt h1 (by decide)
  have e_g5_0_x_8255_8256 : g5_0 x0 (8255 : Int32) (8256 : Int32) = (0 : Int32) := ((if_neg q37).trans (if_pos q38))
  have e_f5_x_8255_8256 : f5 x0 (8255 : Int32) (8256 : Int32) = (0 : Int32) := e_g5_0_x_8255_8256
  have e_g5_0_x_8304_8591 : g5_0 x0 (8304 : Int32) (8591 : Int32) = (0 : Int32) := ((if_neg q16).trans (if_pos q17))
  have e_f5_x_8304_8591 : f5 x0 (8304 : Int32) (8591 : Int32) = (0 : Int32) := e_g5_0_x_8304_8591
  have e_g5_0_x_11264_12271 : g5_0 x0 (11264 : Int32) (12271 : Int32) = (0 : Int32) := ((if_neg q18).trans (if_pos q19))
  have e_f5_x_11264_12271 : f5 x0 (11264 : Int32) (12271 : Int32) = (0 : Int32) := e_g5_0_x_11264_12271
  have e_g5_0_x_12289_55295 : g5_0 x0 (12289 : Int32) (55295 : Int32) = (0 : Int32) := ((if_neg q20).trans (if_pos q21))
  have e_f5_x_12289_55295 : f5 x0 (12289 : Int32) (55295 : Int32) = (0 : Int32) := e_g5_0_x_12289_55295
  have e_g5_0_x_63744_64975 : g5_0 x0 (63744 : Int32) (64975 : Int32) = (0 : Int32) := ((if_neg q22).trans (if_pos q23))
  have e_f5_x_63744_64975 : f5 x0 (63744 : Int32) (64975 : Int32) = (0 : Int32) := e_g5_0_x_63744_64975
  have e_g5_0_x_65008_65533 : g5_0 x0 (65008 : Int32) (65533 : Int32) = (0 : Int32) := (if_pos q24)
  have e_f5_x_65008_65533 : f5 x0 (65008 : Int32) (65533 : Int32) = (0 : Int32) := e_g5_0_x_65008_65533
  have e_g4_0_x : g4_0 x0 = (0 : Int32) := ((if_neg q35).trans ((if_neg q36).trans ((if_neg q30).trans ((if_pos (by rw [e_f5_x_192_214])).trans ((if_pos (by rw [e_f5_x_216_246])).trans ((if_pos (by rw [e_f5_x_248_893])).trans ((if_pos (by rw [e_f5_x_895_8191])).trans ((if_pos (by rw [e_f5_x_8204_8205])).trans ((if_pos (by rw [e_f5_x_8255_8256])).trans ((if_pos (by rw [e_f5_x_8304_8591])).trans ((if_pos (by rw [e_f5_x_11264_12271])).trans ((if_pos (by rw [e_f5_x_12289_55295])).trans ((if_pos (by rw [e_f5_x_63744_64975])).trans (if_pos (by rw [e_f5_x_65008_65533])))))))))))))))
  have e_f4_x : f4 x0 = (0 : Int32) := e_g4_0_x
  rw [e_f1_x, e_f4_x]
theorem own_iv_68 (x0 : Int32) (h1 : (65008 : Int) ≤ x0.toInt) (h2 : x0.toInt < (65009 : Int)) : f1 x0 = f4 x0 := by
  have q0 : ¬ x0 < (65 : Int32) := own_nlt h1 (by decide)
  have q1 : (90 : Int32) < x0 := own_gt h1 (by decide)
  have q2 : ¬ x0 < (97 : Int32) := own_nlt h1 (by decide)
  have q3 : (122 : Int32) < x0 := own_gt h1 (by decide)
  have q4 : ¬ x0 < (192 : Int32) := own_nlt h1 (by decide)
  have q5 : (214 : Int32) < x0 := own_gt h1 (by decide)
  have q6 : ¬ x0 < (216 : Int32) := own_nlt h1 (by decide)
  have q7 : (246 : Int32) < x0 := own_gt h1 (by decide)
  have q8 : ¬ x0 < (248 : Int32) := own_nlt h1 (by decide)
  have q9 : (767 : Int32) < x0 := own_gt h1 (by decide)
  have q10 : ¬ x0 < (880 : Int32) := own_nlt h1 (by decide)
  have q11 : (893 : Int32) < x0 := own_gt h1 (by decide)
  have q12 : ¬ x0 < (895 : Int32) := own_nlt h1 (by decide)
  have q13 : (8191 : Int32) < x0 := own_gt h1 (by decide)
  have q14 : ¬ x0 < (8204 : Int32) := own_nlt h1 (by decide)
  have q15 : (8205 : Int32) < x0 := own_gt h1 (by decide)
  have q16 : ¬ x0 < (8304 : Int32) := own_nlt h1 (by decide)
  have q17 : (8591 : Int32) < x0 := own_gt h1 (by decide)
  have q18 : ¬ x0 < (11264 : Int32) := own_nlt h1 (by decide)
  have q19 : (12271 : Int32) < x0 := own_gt h1 (by decide)
  have q20 : ¬ x0 < (12289 : Int32) := own_nlt h1 (by decide)
  have q21 : (55295 : Int32) < x0 := own_gt h1 (by decide)
  have q22 : ¬ x0 < (63744 : Int32) := own_nlt h1 (by decide)
  have q23 : (64975 : Int32) < x0 := own_gt h1 (by decide)
  have q24 : ¬ x0 < (65008 : Int32) := own_nlt h1 (by decide)
  have q25 : ¬ (65533 : Int32) < x0 := own_ngt h2 (by decide)
  have e_g3_164_x : g3_164 x0 = (1 : Int32) := ((if_neg q24).trans (if_neg q25))
  have e_g3_150_x : g3_150 x0 = (1 : Int32) := ((if_neg q22).trans ((if_pos q23).trans e_g3_164_x))
  have e_g3_136_x : g3_136 x0 = (1 : Int32) := ((if_neg q20).trans ((if_pos q21).trans e_g3_150_x))
  have e_g3_122_x : g3_122 x0 = (1 : Int32) := ((if_neg q18).trans ((if_pos q19).trans e_g3_136_x))
  have e_g3_108_x : g3_108 x0 = (1 : Int32) := ((if_neg q16).trans ((if_pos q17).trans e_g3_122_x))
  have e_g3_94_x : g3_94 x0 = (1 : Int32) := ((if_neg q14).trans ((if_pos q15).trans e_g3_108_x))
  have e_g3_80_x : g3_80 x0 = (1 : Int32) := ((if_neg q12).trans ((if_pos q13).trans e_g3_94_x))
  have e_g3_66_x : g3_66 x0 = (1 : Int32) := ((if_neg q10).trans ((if_pos q11).trans e_g3_80_x))
  have e_g3_52_x : g3_52 x0 = (1 : Int32) := ((if_neg q8).trans ((if_pos q9).trans e_g3_66_x))
  have e_g3_38_x : g3_38 x0 = (1 : Int32) := ((if_neg q6).trans ((if_pos q7).trans e_g3_52_x))
  have e_g3_24_x : g3_24 x0 = (1 : Int32) := ((if_neg q4).trans ((if_pos q5).trans e_g3_38_x))
  have e_g3_12_x : g3_12 x0 = (1 : Int32) := ((if_neg q2).trans ((if_pos q3).trans e_g3_24_x))
  have e_g3_0_x : g3_0 x0 = (1 : Int32) := ((if_neg q0).trans ((if_pos q1).trans e_g3_12_x))
  have e_f3_x : f3 x0 = (1 : Int32) := e_g3_0_x
  have e_g2_0_x : g2_0 x0 = (1 : Int32) := (if_neg (by rw [e_f3_x]; decide))
  have e_f2_x : f2 x0 = (1 : Int32) := e_g2_0_x
  have e_g1_0_x : g1_0 x0 = (1 : Int32) := (if_neg (by rw [e_f2_x]; decide))
  have e_f1_x : f1 x0 = (1 : Int32) := e_g1_0_x
  have q26 : ¬ x0 < (128 : Int32) := own_nlt h1 (by decide)
  have q27 : ¬ (65535 : Int32) < x0 := own_ngt h2 (by decide)
  have q28 : ¬ x0 = (183 : Int32) := own_ne1 h1 (by decide)
  have e_g5_0_x_192_214 : g5_0 x0 (192 : Int32) (214 : Int32) = (0 : Int32) := ((if_neg q4).trans (if_pos q5))
  have e_f5_x_192_214 : f5 x0 (192 : Int32) (214 : Int32) = (0 : Int32) := e_g5_0_x_192_214
  have e_g5_0_x_216_246 : g5_0 x0 (216 : Int32) (246 : Int32) = (0 : Int32) := ((if_neg q6).trans (if_pos q7))
  have e_f5_x_216_246 : f5 x0 (216 : Int32) (246 : Int32) = (0 : Int32) := e_g5_0_x_216_246
  have e_g5_0_x_248_893 : g5_0 x0 (248 : Int32) (893 : Int32) = (0 : Int32) := ((if_neg q8).trans (if_pos q11))
  have e_f5_x_248_893 : f5 x0 (248 : Int32) (893 : Int32) = (0 : Int32) := e_g5_0_x_248_893
  have e_g5_0_x_895_8191 : g5_0 x0 (895 : Int32) (8191 : Int32) = (0 : Int32) := ((if_neg q12).trans (if_pos q13))
  have e_f5_x_895_8191 : f5 x0 (895 : Int32) (8191 : Int32) = (0 : Int32) := e_g5_0_x_895_8191
  have e_g5_0_x_8204_8205 : g5_0 x0 (8204 : Int32) (8205 : Int32) = (0 : Int32) := ((if_neg q14).trans (if_pos q15))
  have e_f5_x_8204_8205 : f5 x0 (8204 : Int32) (8205 : Int32) = (0 : Int32) := e_g5_0_x_8204_8205
  have q29 : ¬ x0 < (8255 : Int32) := own_nlt h1 (by decide)
  have q30 : (8256 : Int32) < x0 := own_gt h1 (by decide)
  have e_g5_0_x_8255_8256 : g5_0 x0 (8255 : Int32) (8256 : Int32) = (0 : Int32) := ((if_neg q29).trans (if_pos q30))
  have e_f5_x_8255_8256 : f5 x0 (8255 : Int32) (8256 : Int32) = (0 : Int32) := e_g5_0_x_8255_8256
  have e_g5_0_x_8304_8591 : g5_0 x0 (8304 : Int32) (8591 : Int32) = (0 : Int32) := ((if_neg q16).trans (if_pos q17))
  have e_f5_x_8304_8591 : f5 x0 (8304 : Int32) (8591 : Int32) = (0 : Int32) := e_g5_0_x_8304_8591
  have e_g5_0_x_11264_12271 : g5_0 x0 (11264 : Int32) (12271 : Int32) = (0 : Int32) := ((if_neg q18).trans (if_pos q19))
  have e_f5_x_11264_12271 : f5 x0 (11264 : Int32) (12271 : Int32) = (0 : Int32) := e_g5_0_x_11264_12271
  have e_g5_0_x_12289_55295 : g5_0 x0 (12289 : Int32) (55295 : Int32) = (0 : Int32) := ((if_neg q20).trans (if_pos q21))
  have e_f5_x_12289_55295 : f5 x0 (12289 : Int32) (55295 : Int32) = (0 : Int32) := e_g5_0_x_12289_55295
  have e_g5_0_x_63744_64975 : g5_0 x0 (63744 : Int32) (64975 : Int32) = (0 : Int32) := ((if_neg q22).trans (if_pos q23))
  have e_f5_x_63744_64975 : f5 x0 (63744 : Int32) (64975 : Int32) = (0 : Int32) := e_g5_0_x_63744_64975
  have e_g5_0_x_65008_65533 : g5_0 x0 (65008 : Int32) (65533 : Int32) = (1 : Int32) := ((if_neg q24).trans (if_neg q25))
  have e_f5_x_65008_65533 : f5 x0 (65008 : Int32) (65533 : Int32) = (1 : Int32) := e_g5_0_x_65008_65533
  have e_g4_0_x : g4_0 x0 = (1 : Int32) := ((if_neg q26).trans ((if_neg q27).trans ((if_neg q28).trans ((if_pos (by rw [e_f5_x_192_214])).trans ((if_pos (by rw [e_f5_x_216_246])).trans ((if_pos (by rw [e_f5_x_248_893])).trans ((if_pos (by rw [e_f5_x_895_8191])).trans ((if_pos (by rw [e_f5_x_8204_8205])).trans ((if_pos (by rw [e_f5_x_8255_8256])).trans ((if_pos (by rw [e_f5_x_8304_8591])).trans ((if_pos (by rw [e_f5_x_11264_12271])).trans ((if_pos (by rw [e_f5_x_12289_55295])).trans ((if_pos (by rw [e_f5_x_63744_64975])).trans (if_neg (by rw [e_f5_x_65008_65533]; decide)))))))))))))))
  have e_f4_x : f4 x0 = (1 : Int32) := e_g4_0_x
  rw [e_f1_x, e_f4_x]
theorem own_iv_69 (x0 : Int32) (h1 : (65009 : Int) ≤ x0.toInt) (h2 : x0.toInt < (65533 : Int)) : f1 x0 = f4 x0 := by
  have q0 : ¬ x0 < (65 : Int32) := own_nlt h1 (by decide)
  have q1 : (90 : Int32) < x0 := own_gt h1 (by decide)
  have q2 : ¬ x0 < (97 : Int32) := own_nlt h1 (by decide)
  have q3 : (122 : Int32) < x0 := own_gt h1 (by decide)
  have q4 : ¬ x0 < (192 : Int32) := own_nlt h1 (by decide)
  have q5 : (214 : Int32) < x0 := own_gt h1 (by decide)
  have q6 : ¬ x0 < (216 : Int32) := own_nlt h1 (by decide)
  have q7 : (246 : Int32) < x0 := own_gt h1 (by decide)
  have q8 : ¬ x0 < (248 : Int32) := own_nlt h1 (by decide)
  have q9 : (767 : Int32) < x0 := own_gt h1 (by decide)
  have q10 : ¬ x0 < (880 : Int32) := own_nlt h1 (by decide)
  have q11 : (893 : Int32) < x0 := own_gt h1 (by decide)
  have q12 : ¬ x0 < (895 : Int32) := own_nlt h1 (by decide)
  have q13 : (8191 : Int32) < x0 := own_gt h1 (by decide)
  have q14 : ¬ x0 < (8204 : Int32) := own_nlt h1 (by decide)
  have q15 : (8205 : Int32) < x0 := own_gt h1 (by decide)
  have q16 : ¬ x0 < (8304 : Int32) := own_nlt h1 (by decide)
  have q17 : (8591 : Int32) < x0 := own_gt h1 (by decide)
  have q18 : ¬ x0 < (11264 : Int32) := own_nlt h1 (by decide)
  have q19 : (12271 : Int32) < x0 := own_gt h1 (by decide)
  have q20 : ¬ x0 < (12289 : Int32) := own_nlt h1 (by decide)
  have q21 : (55295 : Int32) < x0 := own_gt h1 (by decide)
  have q22 : ¬ x0 < (63744 : Int32) := own_nlt h1 (by decide)
  have q23 : (64975 : Int32) < x0 := own_gt h1 (by decide)
  have q24 : ¬ x0 < (65008 : Int32) := own_nlt h1 (by decide)
  have q25 : ¬ (65533 : Int32) < x0 := own_ngt h2 (by decide)
  have e_g3_164_x : g3_164 x0 = (1 : Int32) := ((if_neg q24).trans (if_neg q25))
  have e_g3_150_x : g3_150 x0 = (1 : Int32) := ((if_neg q22).trans ((if_pos q23).trans e_g3_164_x))
  have e_g3_136_x : g3_136 x0 = (1 : Int32) := ((if_neg q20).trans ((if_pos q21).trans e_g3_150_x))
  have e_g3_122_x : g3_122 x0 = (1 : Int32) := ((if_neg q18).trans ((if_pos q19).trans e_g3_136_x))
  have e_g3_108_x : g3_108 x0 = (1 : Int32) := ((if_neg q16).trans ((if_pos q17).trans e_g3_122_x))
  have e_g3_94_x : g3_94 x0 = (1 : Int32) := ((if_neg q14).trans ((if_pos q15).trans e_g3_108_x))
  have e_g3_80_x : g3_80 x0 = (1 : Int32) := ((if_neg q12).trans ((if_pos q13).trans e_g3_94_x))
  have e_g3_66_x : g3_66 x0 = (1 : Int32) := ((if_neg q10).trans ((if_pos q11).trans e_g3_80_x))
  have e_g3_52_x : g3_52 x0 = (1 : Int32) := ((if_neg q8).trans ((if_pos q9).trans e_g3_66_x))
  have e_g3_38_x : g3_38 x0 = (1 : Int32) := ((if_neg q6).trans ((if_pos q7).trans e_g3_52_x))
  have e_g3_24_x : g3_24 x0 = (1 : Int32) := ((if_neg q4).trans ((if_pos q5).trans e_g3_38_x))
  have e_g3_12_x : g3_12 x0 = (1 : Int32) := ((if_neg q2).trans ((if_pos q3).trans e_g3_24_x))
  have e_g3_0_x : g3_0 x0 = (1 : Int32) := ((if_neg q0).trans ((if_pos q1).trans e_g3_12_x))
  have e_f3_x : f3 x0 = (1 : Int32) := e_g3_0_x
  have e_g2_0_x : g2_0 x0 = (1 : Int32) := (if_neg (by rw [e_f3_x]; decide))
  have e_f2_x : f2 x0 = (1 : Int32) := e_g2_0_x
  have e_g1_0_x : g1_0 x0 = (1 : Int32) := (if_neg (by rw [e_f2_x]; decide))
  have e_f1_x : f1 x0 = (1 : Int32) := e_g1_0_x
  have q26 : ¬ x0 < (128 : Int32) := own_nlt h1 (by decide)
  have q27 : ¬ (65535 : Int32) < x0 := own_ngt h2 (by decide)
  have q28 : ¬ x0 = (183 : Int32) := own_ne1 h1 (by decide)
  have e_g5_0_x_192_214 : g5_0 x0 (192 : Int32) (214 : Int32) = (0 : Int32) := ((if_neg q4).trans (if_pos q5))
  have e_f5_x_192_214 : f5 x0 (192 : Int32) (214 : Int32) = (0 : Int32) := e_g5_0_x_192_214
  have e_g5_0_x_216_246 : g5_0 x0 (216 : Int32) (246 : Int32) = (0 : Int32) := ((if_neg q6).trans (if_pos q7))
  have e_f5_x_216_246 : f5 x0 (216 : Int32) (246 : Int32) = (0 : Int32) := e_g5_0_x_216_246
  have e_g5_0_x_248_893 : g5_0 x0 (248 : Int32) (893 : Int32) = (0 : Int32) := ((if_neg q8).trans (if_pos q11))
  have e_f5_x_248_893 : f5 x0 (248 : Int32) (893 : Int32) = (0 : Int32) := e_g5_0_x_248_893
  have e_g5_0_x_895_8191 : g5_0 x0 (895 : Int32) (8191 : Int32) = (0 : Int32) := ((if_neg q12).trans (if_pos q13))
  have e_f5_x_895_8191 : f5 x0 (895 : Int32) (8191 : Int32) = (0 : Int32) := e_g5_0_x_895_8191
  have e_g5_0_x_8204_8205 : g5_0 x0 (8204 : Int32) (8205 : Int32) = (0 : Int32) := ((if_neg q14).trans (if_pos q15))
  have e_f5_x_8204_8205 : f5 x0 (8204 : Int32) (8205 : Int32) = (0 : Int32) := e_g5_0_x_8204_8205
  have q29 : ¬ x0 < (8255 : Int32) := own_nlt h1 (by decide)
  have q30 : (8256 : Int32) < x0 := own_gt h1 (by decide)
  have e_g5_0_x_8255_8256 : g5_0 x0 (8255 : Int32) (8256 : Int32) = (0 : Int32) := ((if_neg q29).trans (if_pos q30))
  have e_f5_x_8255_8256 : f5 x0 (8255 : Int32) (8256 : Int32) = (0 : Int32) := e_g5_0_x_8255_8256
  have e_g5_0_x_8304_8591 : g5_0 x0 (8304 : Int32) (8591 : Int32) = (0 : Int32) := ((if_neg q16).trans (if_pos q17))
  have e_f5_x_8304_8591 : f5 x0 (8304 : Int32) (8591 : Int32) = (0 : Int32) := e_g5_0_x_8304_8591
  have e_g5_0_x_11264_12271 : g5_0 x0 (11264 : Int32) (12271 : Int32) = (0 : Int32) := ((if_neg q18).trans (if_pos q19))
  have e_f5_x_11264_12271 : f5 x0 (11264 : Int32) (12271 : Int32) = (0 : Int32) := e_g5_0_x_11264_12271
  have e_g5_0_x_12289_55295 : g5_0 x0 (12289 : Int32) (55295 : Int32) = (0 : Int32) := ((if_neg q20).trans (if_pos q21))
  have e_f5_x_12289_55295 : f5 x0 (12289 : Int32) (55295 : Int32) = (0 : Int32) := e_g5_0_x_12289_55295
  have e_g5_0_x_63744_64975 : g5_0 x0 (63744 : Int32) (64975 : Int32) = (0 : Int32) := ((if_neg q22).trans (if_pos q23))
  have e_f5_x_63744_64975 : f5 x0 (63744 : Int32) (64975 : Int32) = (0 : Int32) := e_g5_0_x_63744_64975
  have e_g5_0_x_65008_65533 : g5_0 x0 (65008 : Int32) (65533 : Int32) = (1 : Int32) := ((if_neg q24).trans (if_neg q25))
  have e_f5_x_65008_65533 : f5 x0 (65008 : Int32) (65533 : Int32) = (1 : Int32) := e_g5_0_x_65008_65533
  have e_g4_0_x : g4_0 x0 = (1 : Int32) := ((if_neg q26).trans ((if_neg q27).trans ((if_neg q28).trans ((if_pos (by rw [e_f5_x_192_214])).trans ((if_pos (by rw [e_f5_x_216_246])).trans ((if_pos (by rw [e_f5_x_248_893])).trans ((if_pos (by rw [e_f5_x_895_8191])).trans ((if_pos (by rw [e_f5_x_8204_8205])).trans ((if_pos (by rw [e_f5_x_8255_8256])).trans ((if_pos (by rw [e_f5_x_8304_8591])).trans ((if_pos (by rw [e_f5_x_11264_12271])).trans ((if_pos (by rw [e_f5_x_12289_55295])).trans ((if_pos (by rw [e_f5_x_63744_64975])).trans (if_neg (by rw [e_f5_x_65008_65533]; decide)))))))))))))))
  have e_f4_x : f4 x0 = (1 : Int32) := e_g4_0_x
  rw [e_f1_x, e_f4_x]
theorem own_iv_70 (x0 : Int32) (h1 : (65533 : Int) ≤ x0.toInt) (h2 : x0.toInt < (65534 : Int)) : f1 x0 = f4 x0 := by
  have q0 : ¬ x0 < (65 : Int32) := own_nlt h1 (by decide)
  have q1 : (90 : Int32) < x0 := own_gt h1 (by decide)
  have q2 : ¬ x0 < (97 : Int32) := own_nlt h1 (by decide)
  have q3 : (122 : Int32) < x0 := own_gt h1 (by decide)
  have q4 : ¬ x0 < (192 : Int32) := own_nlt h1 (by decide)
  have q5 : (214 : Int32) < x0 := own_gt h1 (by decide)
  have q6 : ¬ x0 < (216 : Int32) := own_nlt h1 (by decide)
  have q7 : (246 : Int32) < x0 := own_gt h1 (by decide)
  have q8 : ¬ x0 < (248 : Int32) := own_nlt h1 (by decide)
  have q9 : (767 : Int32) < x0 := own_gt h1 (by decide)
  have q10 : ¬ x0 < (880 : Int32) := own_nlt h1 (by decide)
  have q11 : (893 : Int32) < x0 := own_gt h1 (by decide)
  have q12 : ¬ x0 < (895 : Int32) := own_nlt h1 (by decide)
  have q13 : (8191 : Int32) < x0 := own_gt h1 (by decide)
  have q14 : ¬ x0 < (8204 : Int32) := own_nlt h1 (by decide)
  have q15 : (8205 : Int32) < x0 := own_gt h1 (by decide)
  have q16 : ¬ x0 < (8304 : Int32) := own_nlt h1 (by decide)
  have q17 : (8591 : Int32) < x0 := own_gt h1 (by decide)
  have q18 : ¬ x0 < (11264 : Int32) := own_nlt h1 (by decide)
  have q19 : (12271 : Int32) < x0 := own_gt h1 (by decide)
  have q20 : ¬ x0 < (12289 : Int32) := own_nlt h1 (by decide)
  have q21 : (55295 : Int32) < x0 := own_gt h1 (by decide)
  have q22 : ¬ x0 < (63744 : Int32) := own_nlt h1 (by decide)
  have q23 : (64975 : Int32) < x0 := own_gt h1 (by decide)
  have q24 : ¬ x0 < (65008 : Int32) := own_nlt h1 (by decide)
  have q25 : ¬ (65533 : Int32) < x0 := own_ngt h2 (by decide)
  have e_g3_164_x : g3_164 x0 = (1 : Int32) := ((if_neg q24).trans (if_neg q25))
  have e_g3_150_x : g3_150 x0 = (1 : Int32) := ((if_neg q22).trans ((if_pos q23).trans e_g3_164_x))
  have e_g3_136_x : g3_136 x0 = (1 : Int32) := ((if_neg q20).trans ((if_pos q21).trans e_g3_150_x))
  have e_g3_122_x : g3_122 x0 = (1 : Int32) := ((if_neg q18).trans ((if_pos q19).trans e_g3_136_x))
  have e_g3_108_x : g3_108 x0 = (1 : Int32) := ((if_neg q16).trans ((if_pos q17).trans e_g3_122_x))
  have e_g3_94_x : g3_94 x0 = (1 : Int32) := ((if_neg q14).trans ((if_pos q15).trans e_g3_108_x))
  have e_g3_80_x : g3_80 x0 = (1 : Int32) := ((if_neg q12).trans ((if_pos q13).trans e_g3_94_x))
  have e_g3_66_x : g3_66 x0 = (1 : Int32) := ((if_neg q10).trans ((if_pos q11).trans e_g3_80_x))
  have e_g3_52_x : g3_52 x0 = (1 : Int32) := ((if_neg q8).trans ((if_pos q9).trans e_g3_66_x))
  have e_g3_38_x : g3_38 x0 = (1 : Int32) := ((if_neg q6).trans ((if_pos q7).trans e_g3_52_x))
  have e_g3_24_x : g3_24 x0 = (1 : Int32) := ((if_neg q4).trans ((if_pos q5).trans e_g3_38_x))
  have e_g3_12_x : g3_12 x0 = (1 : Int32) := ((if_neg q2).trans ((if_pos q3).trans e_g3_24_x))
  have e_g3_0_x : g3_0 x0 = (1 : Int32) := ((if_neg q0).trans ((if_pos q1).trans e_g3_12_x))
  have e_f3_x : f3 x0 = (1 : Int32) := e_g3_0_x
  have e_g2_0_x : g2_0 x0 = (1 : Int32) := (if_neg (by rw [e_f3_x]; decide))
  have e_f2_x : f2 x0 = (1 : Int32) := e_g2_0_x
  have e_g1_0_x : g1_0 x0 = (1 : Int32) := (if_neg (by rw [e_f2_x]; decide))
  have e_f1_x : f1 x0 = (1 : Int32) := e_g1_0_x
  have q26 : ¬ x0 < (128 : Int32) := own_nlt h1 (by decide)
  have q27 : ¬ (65535 : Int32) < x0 := own_ngt h2 (by decide)
  have q28 : ¬ x0 = (183 : Int32) := own_ne1 h1 (by decide)
  have e_g5_0_x_192_214 : g5_0 x0 (192 : Int32) (214 : Int32) = (0 : Int32) := ((if_neg q4).trans (if_pos q5))
  have e_f5_x_192_214 : f5 x0 (192 : Int32) (214 : Int32) = (0 : Int32) := e_g5_0_x_192_214
  have e_g5_0_x_216_246 : g5_0 x0 (216 : Int32) (246 : Int32) = (0 : Int32) := ((if_neg q6).trans (if_pos q7))
  have e_f5_x_216_246 : f5 x0 (216 : Int32) (246 : Int32) = (0 : Int32) := e_g5_0_x_216_246
  have e_g5_0_x_248_893 : g5_0 x0 (248 : Int32) (893 : Int32) = (0 : Int32) := ((if_neg q8).trans (if_pos q11))
  have e_f5_x_248_893 : f5 x0 (248 : Int32) (893 : Int32) = (0 : Int32) := e_g5_0_x_248_893
  have e_g5_0_x_895_8191 : g5_0 x0 (895 : Int32) (8191 : Int32) = (0 : Int32) := ((if_neg q12).trans (if_pos q13))
  have e_f5_x_895_8191 : f5 x0 (895 : Int32) (8191 : Int32) = (0 : Int32) := e_g5_0_x_895_8191
  have e_g5_0_x_8204_8205 : g5_0 x0 (8204 : Int32) (8205 : Int32) = (0 : Int32) := ((if_neg q14).trans (if_pos q15))
  have e_f5_x_8204_8205 : f5 x0 (8204 : Int32) (8205 : Int32) = (0 : Int32) := e_g5_0_x_8204_8205
  have q29 : ¬ x0 < (8255 : Int32) := own_nlt h1 (by decide)
  have q30 : (8256 : Int32) < x0 := own_gt h1 (by decide)
  have e_g5_0_x_8255_8256 : g5_0 x0 (8255 : Int32) (8256 : Int32) = (0 : Int32) := ((if_neg q29).trans (if_pos q30))
  have e_f5_x_8255_8256 : f5 x0 (8255 : Int32) (8256 : Int32) = (0 : Int32) := e_g5_0_x_8255_8256
  have e_g5_0_x_8304_8591 : g5_0 x0 (8304 : Int32) (8591 : Int32) = (0 : Int32) := ((if_neg q16).trans (if_pos q17))
  have e_f5_x_8304_8591 : f5 x0 (8304 : Int32) (8591 : Int32) = (0 : Int32) := e_g5_0_x_8304_8591
  have e_g5_0_x_11264_12271 : g5_0 x0 (11264 : Int32) (12271 : Int32) = (0 : Int32) := ((if_neg q18).trans (if_pos q19))
  have e_f5_x_11264_12271 : f5 x0 (11264 : Int32) (12271 : Int32) = (0 : Int32) := e_g5_0_x_11264_12271
  have e_g5_0_x_12289_55295 : g5_0 x0 (12289 : Int32) (55295 : Int32) = (0 : Int32) := ((if_neg q20).trans (if_pos q21))
  have e_f5_x_12289_55295 : f5 x0 (12289 : Int32) (55295 : Int32) = (0 : Int32) := e_g5_0_x_12289_55295
  have e_g5_0_x_63744_64975 : g5_0 x0 (63744 : Int32) (64975 : Int32) = (0 : Int32) := ((if_neg q22).trans (if_pos q23))
  have e_f5_x_63744_64975 : f5 x0 (63744 : Int32) (64975 : Int32) = (0 : Int32) := e_g5_0_x_63744_64975
  have e_g5_0_x_65008_65533 : g5_0 x0 (65008 : Int32) (65533 : Int32) = (1 : Int32) := ((if_neg q24).trans (if_neg q25))
  have e_f5_x_65008_65533 : f5 x0 (65008 : Int32) (65533 : Int32) = (1 : Int32) := e_g5_0_x_65008_65533
  have e_g4_0_x : g4_0 x0 = (1 : Int32) := ((if_neg q26).trans ((if_neg q27).trans ((if_neg q28).trans ((if_pos (by rw [e_f5_x_192_214])).trans ((if_pos (by rw [e_f5_x_216_246])).trans ((if_pos (by rw [e_f5_x_248_893])).trans ((if_pos (by rw [e_f5_x_895_8191])).trans ((if_pos (by rw [e_f5_x_8204_8205])).trans ((if_pos (by rw [e_f5_x_8255_8256])).trans ((if_pos (by rw [e_f5_x_8304_8591])).trans ((if_pos (by rw [e_f5_x_11264_12271])).trans ((if_pos (by rw [e_f5_x_12289_55295])).trans ((if_pos (by rw [e_f5_x_63744_64975])).trans (if_neg (by rw [e_f5_x_65008_65533]; decide)))))))))))))))
  have e_f4_x : f4 x0 = (1 : Int32) := e_g4_0_x
  rw [e_f1_x, e_f4_x]
theorem own_iv_71 (x0 : Int32) (h1 : (65534 : Int) ≤ x0.toInt) (h2 : x0.toInt < (65535 : Int)) : f1 x0 = f4 x0 := by
  have q0 : ¬ x0 < (65 : Int32) := own_nlt h1 (by decide)
  have q1 : (90 : Int32) < x0 := own_gt h1 (by decide)
  have q2 : ¬ x0 < (97 : Int32) := own_nlt h1 (by decide)
  have q3 : (122 : Int32) < x0 := own_gt h1 (by decide)
  have q4 : ¬ x0 < (192 : Int32) := own_nlt h1 (by decide)
  have q5 : (214 : Int32) < x0 := own_gt h1 (by decide)
  have q6 : ¬ x0 < (216 : Int32) := own_nlt h1 (by decide)
  have q7 : (246 : Int32) < x0 := own_gt h1 (by decide)
  have q8 : ¬ x0 < (248 : Int32) := own_nlt h1 (by decide)
  have q9 : (767 : Int32) < x0 := own_gt h1 (by decide)
  have q10 : ¬ x0 < (880 : Int32) := own_nlt h1 (by decide)
  have q11 : (893 : Int32) < x0 := own_gt h1 (by decide)
  have q12 : ¬ x0 < (895 : Int32) := own_nlt h1 (by decide)
  have q13 : (8191 : Int32) < x0 := own_gt h1 (by decide)
  have q14 : ¬ x0 < (8204 : Int32) := own_nlt h1 (by decide)
  have q15 : (8205 : Int32) < x0 := own_gt h1 (by decide)
  have q16 : ¬ x0 < (8304 : Int32) := own_nlt h1 (by decide)
  have q17 : (8591 : Int32) < x0 := own_gt h1 (by decide)
  have q18 : ¬ x0 < (11264 : Int32) := own_nlt h1 (by decide)
  have q19 : (12271 : Int32) < x0 := own_gt h1 (by decide)
  have q20 : ¬ x0 < (12289 : Int32) := own_nlt h1 (by decide)
  have q21 : (55295 : Int32) < x0 := own_gt h1 (by decide)
  have q22 : ¬ x0 < (63744 : Int32) := own_nlt h1 (by decide)
  have q23 : (64975 : Int32) < x0 := own_gt h1 (by decide)
  have q24 : ¬ x0 < (65008 : Int32) := own_nlt h1 (by decide)
  have q25 : (65533 : Int32) < x0 := own_gt h1 (by decide)
  have q26 : x0 < (65536 : Int32) := own_lt h2 (by decide)
  have e_g3_178_x : g3_178 x0 = (0 : Int32) := (if_pos q26)
  have e_g3_164_x : g3_164 x0 = (0 : Int32) := ((if_neg q24).trans ((if_pos q25).trans e_g3_178_x))
  have e_g3_150_x : g3_150 x0 = (0 : Int32) := ((if_neg q22).trans ((if_pos q23).trans e_g3_164_x))
  have e_g3_136_x : g3_136 x0 = (0 : Int32) := ((if_neg q20).trans ((if_pos q21).trans e_g3_150_x))
  have e_g3_122_x : g3_122 x0 = (0 : Int32) := ((if_neg q18).trans ((if_pos q19).trans e_g3_136_x))
  have e_g3_108_x : g3_108 x0 = (0 : Int32) := ((if_neg q16).trans ((if_pos q17).trans e_g3_122_x))
  have e_g3_94_x : g3_94 x0 = (0 : Int32) := ((if_neg q14).trans ((if_pos q15).trans e_g3_108_x))
  have e_g3_80_x : g3_80 x0 = (0 : Int32) := ((if_neg q12).trans ((if_pos q13).trans e_g3_94_x))
  have e_g3_66_x : g3_66 x0 = (0 : Int32) := ((if_neg q10).trans ((if_pos q11).trans e_g3_80_x))
  have e_g3_52_x : g3_52 x0 = (0 : Int32) := ((if_neg q8).trans ((if_pos q9).trans e_g3_66_x))
  have e_g3_38_x : g3_38 x0 = (0 : Int32) := ((if_neg q6).trans ((if_pos q7).trans e_g3_52_x))
  have e_g3_24_x : g3_24 x0 = (0 : Int32) := ((if_neg q4).trans ((if_pos q5).trans e_g3_38_x))
  have e_g3_12_x : g3_12 x0 = (0 : Int32) := ((if_neg q2).trans ((if_pos q3).trans e_g3_24_x))
  have e_g3_0_x : g3_0 x0 = (0 : Int32) := ((if_neg q0).trans ((if_pos q1).trans e_g3_12_x))
  have e_f3_x : f3 x0 = (0 : Int32) := e_g3_0_x
  have q27 : ¬ x0 = (95 : Int32) := own_ne1 h1 (by decide)
  have e_g2_0_x : g2_0 x0 = (0 : Int32) := ((if_pos (by rw [e_f3_x])).trans (if_neg q27))
  have e_f2_x : f2 x0 = (0 : Int32) := e_g2_0_x
  have q28 : ¬ x0 = (45 : Int32) := own_ne1 h1 (by decide)
  have q29 : ¬ x0 < (48 : Int32) := own_nlt h1 (by decide)
  have q30 : (57 : Int32) < x0 := own_gt h1 (by decide)
  have q31 : ¬ x0 = (183 : Int32) := own_ne1 h1 (by decide)
  have q32 : ¬ x0 < (768 : Int32) := own_nlt h1 (by decide)
  have q33 : (879 : Int32) < x0 := own_gt h1 (by decide)
  have q34 : ¬ x0 = (8255 : Int32) := own_ne1 h1 (by decide)
  have q35 : ¬ x0 = (8256 : Int32) := own_ne1 h1 (by decide)
  have e_g1_46_x : g1_46 x0 = (0 : Int32) := ((if_neg q34).trans (if_neg q35))
  have e_g1_25_x : g1_25 x0 = (0 : Int32) := ((if_neg q31).trans ((if_neg q32).trans ((if_pos q33).trans e_g1_46_x)))
  have e_g1_0_x : g1_0 x0 = (0 : Int32) := ((if_pos (by rw [e_f2_x])).trans ((if_neg q28).trans ((if_neg q29).trans ((if_pos q30).trans e_g1_25_x))))
  have e_f1_x : f1 x0 = (0 : Int32) := e_g1_0_x
  have q36 : ¬ x0 < (128 : Int32) := own_nlt h1 (by decide)
  have q37 : ¬ (65535 : Int32) < x0 := own_ngt h2 (by decide)
  have e_g5_0_x_192_214 : g5_0 x0 (192 : Int32) (214 : Int32) = (0 : Int32) := ((if_neg q4).trans (if_pos q5))
  have e_f5_x_192_214 : f5 x0 (192 : Int32) (214 : Int32) = (0 : Int32) := e_g5_0_x_192_214
  have e_g5_0_x_216_246 : g5_0 x0 (216 : Int32) (246 : Int32) = (0 : Int32) := ((if_neg q6).trans (if_pos q7))
  have e_f5_x_216_246 : f5 x0 (216 : Int32) (246 : Int32) = (0 : Int32) := e_g5_0_x_216_246
  have e_g5_0_x_248_893 : g5_0 x0 (248 : Int32) (893 : Int32) = (0 : Int32) := ((if_neg q8).trans (if_pos q11))
  have e_f5_x_248_893 : f5 x0 (248 : Int32) (893 : Int32) = (0 : Int32) := e_g5_0_x_248_893
  have e_g5_0_x_895_8191 : g5_0 x0 (895 : Int32) (8191 : Int32) = (0 : Int32) := ((if_neg q12).trans (if_pos q13))
  have e_f5_x_895_8191 : f5 x0 (895 : Int32) (8191 : Int32) = (0 : Int32) := e_g5_0_x_895_8191
  have e_g5_0_x_8204_8205 : g5_0 x0 (8204 : Int32) (8205 : Int32) = (0 : Int32) := ((if_neg q14).trans (if_pos q15))
  have e_f5_x_8204_8205 : f5 x0 (8204 : Int32) (8205 : Int32) = (0 : Int32) := e_g5_0_x_8204_8205
  have q38 : ¬ x0 < (8255 : Int32) := own_nlt h1 (by decide)
  have q39 : (8256 : Int32) < x0 := own_gt h1 (by decide)
  have e_g5_0_x_8255_8256 : g5_0 x0 (8255 : Int32) (8256 : Int32) = (0 : Int32) := ((if_neg q38).trans (if_pos q39))
  have e_f5_x_8255_8256 : f5 x0 (8255 : Int32) (8256 : Int32) = (0 : Int32) := e_g5_0_x_8255_8256
  have e_g5_0_x_8304_8591 : g5_0 x0 (8304 : Int32) (8591 : Int32) = (0 : Int32) := ((if_neg q16).trans (if_pos q17))
  have e_f5_x_8304_8591 : f5 x0 (8304 : Int32) (8591 : Int32) = (0 : Int32) := e_g5_0_x_8304_8591
  have e_g5_0_x_11264_12271 : g5_0 x0 (11264 : Int32) (12271 : Int32) = (0 : Int32) := ((if_neg q18).trans (if_pos q19))
  have e_f5_x_11264_12271 : f5 x0 (11264 : Int32) (12271 : Int32) = (0 : Int32) := e_g5_0_x_11264_12271
  have e_g5_0_x_12289_55295 : g5_0 x0 (12289 : Int32) (55295 : Int32) = (0 : Int32) := ((if_neg q20).trans (if_pos q21))
  have e_f5_x_12289_55295 : f5 x0 (12289 : Int32) (55295 : Int32) = (0 : Int32) := e_g5_0_x_12289_55295
  have e_g5_0_x_63744_64975 : g5_0 x0 (63744 : Int32) (64975 : Int32) = (0 : Int32) := ((if_neg q22).trans (if_pos q23))
  have e_f5_x_63744_64975 : f5 x0 (63744 : Int32) (64975 : Int32) = (0 : Int32) := e_g5_0_x_63744_64975
  have e_g5_0_x_65008_65533 : g5_0 x0 (65008 : Int32) (65533 : Int32) = (0 : Int32) := ((if_neg q24).trans (if_pos q25))
  have e_f5_x_65008_65533 : f5 x0 (65008 : Int32) (65533 : Int32) = (0 : Int32) := e_g5_0_x_65008_65533
  have e_g4_0_x : g4_0 x0 = (0 : Int32) := ((if_neg q36).trans ((if_neg q37).trans ((if_neg q31).trans ((if_pos (by rw [e_f5_x_192_214])).trans ((if_pos (by rw [e_f5_x_216_246])).trans ((if_pos (by rw [e_f5_x_248_893])).trans ((if_pos (by rw [e_f5_x_895_8191])).trans ((if_pos (by rw [e_f5_x_8204_8205])).trans ((if_pos (by rw [e_f5_x_8255_8256])).trans ((if_pos (by rw [e_f5_x_8304_8591])).trans ((if_pos (by rw [e_f5_x_11264_12271])).trans ((if_pos (by rw [e_f5_x_12289_55295])).trans ((if_pos (by rw [e_f5_x_63744_64975])).trans (if_pos (by rw [e_f5_x_65008_65533])))))))))))))))
  have e_f4_x : f4 x0 = (0 : Int32) := e_g4_0_x
  rw [e_f1_x, e_f4_x]
theorem own_iv_72 (x0 : Int32) (h1 : (65535 : Int) ≤ x0.toInt) (h2 : x0.toInt < (65536 : Int)) : f1 x0 = f4 x0 := by
  have q0 : ¬ x0 < (65 : Int32) := own_nlt h1 (by decide)
  have q1 : (90 : Int32) < x0 := own_gt h1 (by decide)
  have q2 : ¬ x0 < (97 : Int32) := own_nlt h1 (by decide)
  have q3 : (122 : Int32) < x0 := own_gt h1 (by decide)
  have q4 : ¬ x0 < (192 : Int32) := own_nlt h1 (by decide)
  have q5 : (214 : Int32) < x0 := own_gt h1 (by decide)
  have q6 : ¬ x0 < (216 : Int32) := own_nlt h1 (by decide)
  have q7 : (246 : Int32) < x0 := own_gt h1 (by decide)
  have q8 : ¬ x0 < (248 : Int32) := own_nlt h1 (by decide)
  have q9 : (767 : Int32) < x0 := own_gt h1 (by decide)
  have q10 : ¬ x0 < (880 : Int32) := own_nlt h1 (by decide)
  have q11 : (893 : Int32) < x0 := own_gt h1 (by decide)
  have q12 : ¬ x0 < (895 : Int32) := own_nlt h1 (by decide)
  have q13 : (8191 : Int32) < x0 := own_gt h1 (by decide)
  have q14 : ¬ x0 < (8204 : Int32) := own_nlt h1 (by decide)
  have q15 : (8205 : Int32) < x0 := own_gt h1 (by decide)
  have q16 : ¬ x0 < (8304 : Int32) := own_nlt h1 (by decide)
  have q17 : (8591 : Int32) < x0 := own_gt h1 (by decide)
  have q18 : ¬ x0 < (11264 : Int32) := own_nlt h1 (by decide)
  have q19 : (12271 : Int32) < x0 := own_gt h1 (by decide)
  have q20 : ¬ x0 < (12289 : Int32) := own_nlt h1 (by decide)
  have q21 : (55295 : Int32) < x0 := own_gt h1 (by decide)
  have q22 : ¬ x0 < (63744 : Int32) := own_nlt h1 (by decide)
  have q23 : (64975 : Int32) < x0 := own_gt h1 (by decide)
  have q24 : ¬ x0 < (65008 : Int32) := own_nlt h1 (by decide)
  have q25 : (65533 : Int32) < x0 := own_gt h1 (by decide)
  have q26 : x0 < (65536 : Int32) := own_lt h2 (by decide)
  have e_g3_178_x : g3_178 x0 = (0 : Int32) := (if_pos q26)
  have e_g3_164_x : g3_164 x0 = (0 : Int32) := ((if_neg q24).trans ((if_pos q25).trans e_g3_178_x))
  have e_g3_150_x : g3_150 x0 = (0 : Int32) := ((if_neg q22).trans ((if_pos q23).trans e_g3_164_x))
  have e_g3_136_x : g3_136 x0 = (0 : Int32) := ((if_neg q20).trans ((if_pos q21).trans e_g3_150_x))
  have e_g3_122_x : g3_122 x0 = (0 : Int32) := ((if_neg q18).trans ((if_pos q19).trans e_g3_136_x))
  have e_g3_108_x : g3_108 x0 = (0 : Int32) := ((if_neg q16).trans ((if_pos q17).trans e_g3_122_x))
  have e_g3_94_x : g3_94 x0 = (0 : Int32) := ((if_neg q14).trans ((if_pos q15).trans e_g3_108_x))
  have e_g3_80_x : g3_80 x0 = (0 : Int32) := ((if_neg q12).trans ((if_pos q13).trans e_g3_94_x))
  have e_g3_66_x : g3_66 x0 = (0 : Int32) := ((if_neg q10).trans ((if_pos q11).trans e_g3_80_x))
  have e_g3_52_x : g3_52 x0 = (0 : Int32) := ((if_neg q8).trans ((if_pos q9).trans e_g3_66_x))
  have e_g3_38_x : g3_38 x0 = (0 : Int32) := ((if_neg q6).trans ((if_pos q7).trans e_g3_52_x))
  have e_g3_24_x : g3_24 x0 = (0 : Int32) := ((if_neg q4).trans ((if_pos q5).trans e_g3_38_x))
  have e_g3_12_x : g3_12 x0 = (0 : Int32) := ((if_neg q2).trans ((if_pos q3).trans e_g3_24_x))
  have e_g3_0_x : g3_0 x0 = (0 : Int32) := ((if_neg q0).trans ((if_pos q1).trans e_g3_12_x))
  have e_f3_x : f3 x0 = (0 : Int32) := e_g3_0_x
  have q27 : ¬ x0 = (95 : Int32) := own_ne1 h1 (by decide)
  have e_g2_0_x : g2_0 x0 = (0 : Int32) := ((if_pos (by rw [e_f3_x])).trans (if_neg q27))
  have e_f2_x : f2 x0 = (0 : Int32) := e_g2_0_x
  have q28 : ¬ x0 = (45 : Int32) := own_ne1 h1 (by decide)
  have q29 : ¬ x0 < (48 : Int32) := own_nlt h1 (by decide)
  have q30 : (57 : Int32) < x0 := own_gt h1 (by decide)
  have q31 : ¬ x0 = (183 : Int32) := own_ne1 h1 (by decide)
  have q32 : ¬ x0 < (768 : Int32) := own_nlt h1 (by decide)
  have q33 : (879 : Int32) < x0 := own_gt h1 (by decide)
  have q34 : ¬ x0 = (8255 : Int32) := own_ne1 h1 (by decide)
  have q35 : ¬ x0 = (8256 : Int32) := own_ne1 h1 (by decide)
  have e_g1_46_x : g1_46 x0 = (0 : Int32) := ((if_neg q34).trans (if_neg q35))
  have e_g1_25_x : g1_25 x0 = (0 : Int32) := ((if_neg q31).trans ((if_neg q32).trans ((if_pos q33).trans e_g1_46_x)))
  have e_g1_0_x : g1_0 x0 = (0 : Int32) := ((if_pos (by rw [e_f2_x])).trans ((if_neg q28).trans ((if_neg q29).trans ((if_pos q30).trans e_g1_25_x))))
  have e_f1_x : f1 x0 = (0 : Int32) := e_g1_0_x
  have q36 : ¬ x0 < (128 : Int32) := own_nlt h1 (by decide)
  have q37 : ¬ (65535 : Int32) < x0 := own_ngt h2 (by decide)
  have e_g5_0_x_192_214 : g5_0 x0 (192 : Int32) (214 : Int32) = (0 : Int32) := ((if_neg q4).trans (if_pos q5))
  have e_f5_x_192_214 : f5 x0 (192 : Int32) (214 : Int32) = (0 : Int32) := e_g5_0_x_192_214
  have e_g5_0_x_216_246 : g5_0 x0 (216 : Int32) (246 : Int32) = (0 : Int32) := ((if_neg q6).trans (if_pos q7))
  have e_f5_x_216_246 : f5 x0 (216 : Int32) (246 : Int32) = (0 : Int32) := e_g5_0_x_216_246
  have e_g5_0_x_248_893 : g5_0 x0 (248 : Int32) (893 : Int32) = (0 : Int32) := ((if_neg q8).trans (if_pos q11))
  have e_f5_x_248_893 : f5 x0 (248 : Int32) (893 : Int32) = (0 : Int32) := e_g5_0_x_248_893
  have e_g5_0_x_895_8191 : g5_0 x0 (895 : Int32) (8191 : Int32) = (0 : Int32) := ((if_neg q12).trans (if_pos q13))
  have e_f5_x_895_8191 : f5 x0 (895 : Int32) (8191 : Int32) = (0 : Int32) := e_g5_0_x_895_8191
  have e_g5_0_x_8204_8205 : g5_0 x0 (8204 : Int32) (8205 : Int32) = (0 : Int32) := ((if_neg q14).trans (if_pos q15))
  have e_f5_x_8204_8205 : f5 x0 (8204 : Int32) (8205 : Int32) = (0 : Int32) := e_g5_0_x_8204_8205
  have q38 : ¬ x0 < (8255 : Int32) := own_nlt h1 (by decide)
  have q39 : (8256 : Int32) < x0 := own_gt h1 (by decide)
  have e_g5_0_x_8255_8256 : g5_0 x0 (8255 : Int32) (8256 : Int32) = (0 : Int32) := ((if_neg q38).trans (if_pos q39))
  have e_f5_x_8255_8256 : f5 x0 (8255 : Int32) (8256 : Int32) = (0 : Int32) := e_g5_0_x_8255_8256
  have e_g5_0_x_8304_8591 : g5_0 x0 (8304 : Int32) (8591 : Int32) = (0 : Int32) := ((if_neg q16).trans (if_pos q17))
  have e_f5_x_8304_8591 : f5 x0 (8304 : Int32) (8591 : Int32) = (0 : Int32) := e_g5_0_x_8304_8591
  have e_g5_0_x_11264_12271 : g5_0 x0 (11264 : Int32) (12271 : Int32) = (0 : Int32) := ((if_neg q18).trans (if_pos q19))
  have e_f5_x_11264_12271 : f5 x0 (11264 : Int32) (12271 : Int32) = (0 : Int32) := e_g5_0_x_11264_12271
  have e_g5_0_x_12289_55295 : g5_0 x0 (12289 : Int32) (55295 : Int32) = (0 : Int32) := ((if_neg q20).trans (if_pos q21))
  have e_f5_x_12289_55295 : f5 x0 (12289 : Int32) (55295 : Int32) = (0 : Int32) := e_g5_0_x_12289_55295
  have e_g5_0_x_63744_64975 : g5_0 x0 (63744 : Int32) (64975 : Int32) = (0 : Int32) := ((if_neg q22).trans (if_pos q23))
  have e_f5_x_63744_64975 : f5 x0 (63744 : Int32) (64975 : Int32) = (0 : Int32) := e_g5_0_x_63744_64975
  have e_g5_0_x_65008_65533 : g5_0 x0 (65008 : Int32) (65533 : Int32) = (0 : Int32) := ((if_neg q24).trans (if_pos q25))
  have e_f5_x_65008_65533 : f5 x0 (65008 : Int32) (65533 : Int32) = (0 : Int32) := e_g5_0_x_65008_65533
  have e_g4_0_x : g4_0 x0 = (0 : Int32) := ((if_neg q36).trans ((if_neg q37).trans ((if_neg q31).trans ((if_pos (by rw [e_f5_x_192_214])).trans ((if_pos (by rw [e_f5_x_216_246])).trans ((if_pos (by rw [e_f5_x_248_893])).trans ((if_pos (by rw [e_f5_x_895_8191])).trans ((if_pos (by rw [e_f5_x_8204_8205])).trans ((if_pos (by rw [e_f5_x_8255_8256])).trans ((if_pos (by rw [e_f5_x_8304_8591])).trans ((if_pos (by rw [e_f5_x_11264_12271])).trans ((if_pos (by rw [e_f5_x_12289_55295])).trans ((if_pos (by rw [e_f5_x_63744_64975])).trans (if_pos (by rw [e_f5_x_65008_65533])))))))))))))))
  have e_f4_x : f4 x0 = (0 : Int32) := e_g4_0_x
  rw [e_f1_x, e_f4_x]
theorem own_iv_73 (x0 : Int32) (h1 : (65536 : Int) ≤ x0.toInt) (h2 : x0.toInt < (65537 : Int)) : f1 x0 = f4 x0 := by
  have q0 : ¬ x0 < (65 : Int32) := own_nlt h1 (by decide)
  have q1 : (90 : Int32) < x0 := own_gt h1 (by decide)
  have q2 : ¬ x0 < (97 : Int32) := own_nlt h1 (by decide)
  have q3 : (122 : Int32) < x0 := own_gt h1 (by decide)
  have q4 : ¬ x0 < (192 : Int32) := own_nlt h1 (by decide)
  have q5 : (214 : Int32) < x0 := own_gt h1 (by decide)
  have q6 : ¬ x0 < (216 : Int32) := own_nlt h1 (by decide)
  have q7 : (246 : Int32) < x0 := own_gt h1 (by decide)
  have q8 : ¬ x0 < (248 : Int32) := own_nlt h1 (by decide)
  have q9 : (767 : Int32) < x0 := own_gt h1 (by decide)
  have q10 : ¬ x0 < (880 : Int32) := own_nlt h1 (by decide)
  have q11 : (893 : Int32) < x0 := own_gt h1 (by decide)
  have q12 : ¬ x0 < (895 : Int32) := own_nlt h1 (by decide)
  have q13 : (8191 : Int32) < x0 := own_gt h1 (by decide)
  have q14 : ¬ x0 < (8204 : Int32) := own_nlt h1 (by decide)
  have q15 : (8205 : Int32) < x0 := own_gt h1 (by decide)
  have q16 : ¬ x0 < (8304 : Int32) := own_nlt h1 (by decide)
  have q17 : (8591 : Int32) < x0 := own_gt h1 (by decide)
  have q18 : ¬ x0 < (11264 : Int32) := own_nlt h1 (by decide)
  have q19 : (12271 : Int32) < x0 := own_gt h1 (by decide)
  have q20 : ¬ x0 < (12289 : Int32) := own_nlt h1 (by decide)
  have q21 : (55295 : Int32) < x0 := own_gt h1 (by decide)
  have q22 : ¬ x0 < (63744 : Int32) := own_nlt h1 (by decide)
  have q23 : (64975 : Int32) < x0 := own_gt h1 (by decide)
  have q24 : ¬ x0 < (65008 : Int32) := own_nlt h1 (by decide)
  have q25 : (65533 : Int32) < x0 := own_gt h1 (by decide)
  have q26 : ¬ x0 < (65536 : Int32) := own_nlt h1 (by decide)
  have q27 : ¬ (983039 : Int32) < x0 := own_ngt h2 (by decide)
  have e_g3_178_x : g3_178 x0 = (1 : Int32) := ((if_neg q26).trans (if_neg q27))
  have e_g3_164_x : g3_164 x0 = (1 : Int32) := ((if_neg q24).trans ((if_pos q25).trans e_g3_178_x))
  have e_g3_150_x : g3_150 x0 = (1 : Int32) := ((if_neg q22).trans ((if_pos q23).trans e_g3_164_x))
  have e_g3_136_x : g3_136 x0 = (1 : Int32) := ((if_neg q20).trans ((if_pos q21).trans e_g3_150_x))
  have e_g3_122_x : g3_122 x0 = (1 : Int32) := ((if_neg q18).trans ((if_pos q19).trans e_g3_136_x))
  have e_g3_108_x : g3_108 x0 = (1 : Int32) := ((if_neg q16).trans ((if_pos q17).trans e_g3_122_x))
  have e_g3_94_x : g3_94 x0 = (1 : Int32) := ((if_neg q14).trans ((if_pos q15).trans e_g3_108_x))
  have e_g3_80_x : g3_80 x0 = (1 : Int32) := ((if_neg q12).trans ((if_pos q13).trans e_g3_94_x))
  have e_g3_66_x : g3_66 x0 = (1 : Int32) := ((if_neg q10).trans ((if_pos q11).trans e_g3_80_x))
  have e_g3_52_x : g3_52 x0 = (1 : Int32) := ((if_neg q8).trans ((if_pos q9).trans e_g3_66_x))
  have e_g3_38_x : g3_38 x0 = (1 : Int32) := ((if_neg q6).trans ((if_pos q7).trans e_g3_52_x))
  have e_g3_24_x : g3_24 x0 = (1 : Int32) := ((if_neg q4).trans ((if_pos q5).trans e_g3_38_x))
  have e_g3_12_x : g3_12 x0 = (1 : Int32) := ((if_neg q2).trans ((if_pos q3).trans e_g3_24_x))
  have e_g3_0_x : g3_0 x0 = (1 : Int32) := ((if_neg q0).trans ((if_pos q1).trans e_g3_12_x))
  have e_f3_x : f3 x0 = (1 : Int32) := e_g3_0_x
  have e_g2_0_x : g2_0 x0 = (1 : Int32) := (if_neg (by rw [e_f3_x]; decide))
  have e_f2_x : f2 x0 = (1 : Int32) := e_g2_0_x
  have e_g1_0_x : g1_0 x0 = (1 : Int32) := (if_neg (by rw [e_f2_x]; decide))
  have e_f1_x : f1 x0 = (1 : Int32) := e_g1_0_x
  have q28 : ¬ x0 < (128 : Int32) := own_nlt h1 (by decide)
  have q29 : (65535 : Int32) < x0 := own_gt h1 (by decide)
  have e_g5_0_x_65536_983039 : g5_0 x0 (65536 : Int32) (983039 : Int32) = (1 : Int32) := ((if_neg q26).trans (if_neg q27))
  have e_f5_x_65536_983039 : f5 x0 (65536 : Int32) (983039 : Int32) = (1 : Int32) := e_g5_0_x_65536_983039
  have e_g4_0_x : g4_0 x0 = (1 : Int32) := ((if_neg q28).trans ((if_pos q29).trans ((congrArg (fun z : Int32 => z &&& 1) e_f5_x_65536_983039).trans (by decide))))
  have e_f4_x : f4 x0 = (1 : Int32) := e_g4_0_x
  rw [e_f1_x, e_f4_x]
theorem own_iv_74 (x0 : Int32) (h1 : (65537 : Int) ≤ x0.toInt) (h2 : x0.toInt < (983039 : Int)) : f1 x0 = f4 x0 := by
  have q0 : ¬ x0 < (65 : Int32) := own_nlt h1 (by decide)
  have q1 : (90 : Int32) < x0 := own_gt h1 (by decide)
  have q2 : ¬ x0 < (97 : Int32) := own_nlt h1 (by decide)
  have q3 : (122 : Int32) < x0 := own_gt h1 (by decide)
  have q4 : ¬ x0 < (192 : Int32) := own_nlt h1 (by decide)
  have q5 : (214 : Int32) < x0 := own_gt h1 (by decide)
  have q6 : ¬ x0 < (216 : Int32) := own_nlt h1 (by decide)
  have q7 : (246 : Int32) < x0 := own_gt h1 (by decide)
  have q8 : ¬ x0 < (248 : Int32) := own_nlt h1 (by decide)
  have q9 : (767 : Int32) < x0 := own_gt h1 (by decide)
  have q10 : ¬ x0 < (880 : Int32) := own_nlt h1 (by decide)
  have q11 : (893 : Int32) < x0 := own_gt h1 (by decide)
  have q12 : ¬ x0 < (895 : Int32) := own_nlt h1 (by decide)
  have q13 : (8191 : Int32) < x0 := own_gt h1 (by decide)
  have q14 : ¬ x0 < (8204 : Int32) := own_nlt h1 (by decide)
  have q15 : (8205 : Int32) < x0 := own_gt h1 (by decide)
  have q16 : ¬ x0 < (8304 : Int32) := own_nlt h1 (by decide)
  have q17 : (8591 : Int32) < x0 := own_gt h1 (by decide)
  have q18 : ¬ x0 < (11264 : Int32) := own_nlt h1 (by decide)
  have q19 : (12271 : Int32) < x0 := own_gt h1 (by decide)
  have q20 : ¬ x0 < (12289 : Int32) := own_nlt h1 (by decide)
  have q21 : (55295 : Int32) < x0 := own_gt h1 (by decide)
  have q22 : ¬ x0 < (63744 : Int32) := own_nlt h1 (by decide)
  have q23 : (64975 : Int32) < x0 := own_gt h1 (by decide)
  have q24 : ¬ x0 < (65008 : Int32) := own_nlt h1 (by decide)
  have q25 : (65533 : Int32) < x0 := own_gt h1 (by decide)
  have q26 : ¬ x0 < (65536 : Int32) := own_nlt h1 (by decide)
  have q27 : ¬ (983039 : Int32) < x0 := own_ngt h2 (by decide)
  have e_g3_178_x : g3_178 x0 = (1 : Int32) := ((if_neg q26).trans (if_neg q27))
  have e_g3_164_x : g3_164 x0 = (1 : Int32) := ((if_neg q24).trans ((if_pos q25).trans e_g3_178_x))
  have e_g3_150_x : g3_150 x0 = (1 : Int32) := ((if_neg q22).trans ((if_pos q23).trans e_g3_164_x))
  have e_g3_136_x : g3_136 x0 = (1 : Int32) := ((if_neg q20).trans ((if_pos q21).trans e_g3_150_x))
  have e_g3_122_x : g3_122 x0 = (1 : Int32) := ((if_neg q18).trans ((if_pos q19).trans e_g3_136_x))
  have e_g3_108_x : g3_108 x0 = (1 : Int32) := ((if_neg q16).trans ((if_pos q17).trans e_g3_122_x))
  have e_g3_94_x : g3_94 x0 = (1 : Int32) := ((if_neg q14).trans ((if_pos q15).trans e_g3_108_x))
  have e_g3_80_x : g3_80 x0 = (1 : Int32) := ((if_neg q12).trans ((if_pos q13).trans e_g3_94_x))
  have e_g3_66_x : g3_66 x0 = (1 : Int32) := ((if_neg q10).trans ((if_pos q11).trans e_g3_80_x))
  have e_g3_52_x : g3_52 x0 = (1 : Int32) := ((if_neg q8).trans ((if_pos q9).trans e_g3_66_x))
  have e_g3_38_x : g3_38 x0 = (1 : Int32) := ((if_neg q6).trans ((if_pos q7).trans e_g3_52_x))
  have e_g3_24_x : g3_24 x0 = (1 : Int32) := ((if_neg q4).trans ((if_pos q5).trans e_g3_38_x))
  have e_g3_12_x : g3_12 x0 = (1 : Int32) := ((if_neg q2).trans ((if_pos q3).trans e_g3_24_x))
  have e_g3_0_x : g3_0 x0 = (1 : Int32) := ((if_neg q0).trans ((if_pos q1).trans e_g3_12_x))
  have e_f3_x : f3 x0 = (1 : Int32) := e_g3_0_x
  have e_g2_0_x : g2_0 x0 = (1 : Int32) := (if_neg (by rw [e_f3_x]; decide))
  have e_f2_x : f2 x0 = (1 : Int32) := e_g2_0_x
  have e_g1_0_x : g1_0 x0 = (1 : Int32) := (if_neg (by rw [e_f2_x]; decide))
  have e_f1_x : f1 x0 = (1 : Int32) := e_g1_0_x
  have q28 : ¬ x0 < (128 : Int32) := own_nlt h1 (by decide)
  have q29 : (65535 : Int32) < x0 := own_gt h1 (by decide)
  have e_g5_0_x_65536_983039 : g5_0 x0 (65536 : Int32) (983039 : Int32) = (1 : Int32) := ((if_neg q26).trans (if_neg q27))
  have e_f5_x_65536_983039 : f5 x0 (65536 : Int32) (983039 : Int32) = (1 : Int32) := e_g5_0_x_65536_983039
  have e_g4_0_x : g4_0 x0 = (1 : Int32) := ((if_neg q28).trans ((if_pos q29).trans ((congrArg (fun z : Int32 => z &&& 1) e_f5_x_65536_983039).trans (by decide))))
  have e_f4_x : f4 x0 = (1 : Int32) := e_g4_0_x
  rw [e_f1_x, e_f4_x]
theorem own_iv_75 (x0 : Int32) (h1 : (983039 : Int) ≤ x0.toInt) (h2 : x0.toInt < (983040 : Int)) : f1 x0 = f4 x0 := by
  have q0 : ¬ x0 < (65 : Int32) := own_nlt h1 (by decide)
  have q1 : (90 : Int32) < x0 := own_gt h1 (by decide)
  have q2 : ¬ x0 < (97 : Int32) := own_nlt h1 (by decide)
  have q3 : (122 : Int32) < x0 := own_gt h1 (by decide)
  have q4 : ¬ x0 < (192 : Int32) := own_nlt h1 (by decide)
  have q5 : (214 : Int32) < x0 := own_gt h1 (by decide)
  have q6 : ¬ x0 < (216 : Int32) := own_nlt h1 (by decide)
  have q7 : (246 : Int32) < x0 := own_gt h1 (by decide)
  have q8 : ¬ x0 < (248 : Int32) := own_nlt h1 (by decide)
  have q9 : (767 : Int32) < x0 := own_gt h1 (by decide)
  have q10 : ¬ x0 < (880 : Int32) := own_nlt h1 (by decide)
  have q11 : (893 : Int32) < x0 := own_gt h1 (by decide)
  have q12 : ¬ x0 < (895 : Int32) := own_nlt h1 (by decide)
  have q13 : (8191 : Int32) < x0 := own_gt h1 (by decide)
  have q14 : ¬ x0 < (8204 : Int32) := own_nlt h1 (by decide)
  have q15 : (8205 : Int32) < x0 := own_gt h1 (by decide)
  have q16 : ¬ x0 < (8304 : Int32) := own_nlt h1 (by decide)
  have q17 : (8591 : Int32) < x0 := own_gt h1 (by decide)
  have q18 : ¬ x0 < (11264 : Int32) := own_nlt h1 (by decide)
  have q19 : (12271 : Int32) < x0 := own_gt h1 (by decide)
  have q20 : ¬ x0 < (12289 : Int32) := own_nlt h1 (by decide)
  have q21 : (55295 : Int32) < x0 := own_gt h1 (by decide)
  have q22 : ¬ x0 < (63744 : Int32) := own_nlt h1 (by decide)
  have q23 : (64975 : Int32) < x0 := own_gt h1 (by decide)
  have q24 : ¬ x0 < (65008 : Int32) := own_nlt h1 (by decide)
  have q25 : (65533 : Int32) < x0 := own_gt h1 (by decide)
  have q26 : ¬ x0 < (65536 : Int32) := own_nlt h1 (by decide)
  have q27 : ¬ (983039 : Int32) < x0 := own_ngt h2 (by decide)
  have e_g3_178_x : g3_178 x0 = (1 : Int32) := ((if_neg q26).trans (if_neg q27))
  have e_g3_164_x : g3_164 x0 = (1 : Int32) := ((if_neg q24).trans ((if_pos q25).trans e_g3_178_x))
  have e_g3_150_x : g3_150 x0 = (1 : Int32) := ((if_neg q22).trans ((if_pos q23).trans e_g3_164_x))
  have e_g3_136_x : g3_136 x0 = (1 : Int32) := ((if_neg q20).trans ((if_pos q21).trans e_g3_150_x))
  have e_g3_122_x : g3_122 x0 = (1 : Int32) := ((if_neg q18).trans ((if_pos q19).trans e_g3_136_x))
  have e_g3_108_x : g3_108 x0 = (1 : Int32) := ((if_neg q16).trans ((if_pos q17).trans e_g3_122_x))
  have e_g3_94_x : g3_94 x0 = (1 : Int32) := ((if_neg q14).trans ((if_pos q15).trans e_g3_108_x))
  have e_g3_80_x : g3_80 x0 = (1 : Int32) := ((if_neg q12).trans ((if_pos q13).trans e_g3_94_x))
  have e_g3_66_x : g3_66 x0 = (1 : Int32) := ((if_neg q10).trans ((if_pos q11).trans e_g3_80_x))
  have e_g3_52_x : g3_52 x0 = (1 : Int32) := ((if_neg q8).trans ((if_pos q9).trans e_g3_66_x))
  have e_g3_38_x : g3_38 x0 = (1 : Int32) := ((if_neg q6).trans ((if_pos q7).trans e_g3_52_x))
  have e_g3_24_x : g3_24 x0 = (1 : Int32) := ((if_neg q4).trans ((if_pos q5).trans e_g3_38_x))
  have e_g3_12_x : g3_12 x0 = (1 : Int32) := ((if_neg q2).trans ((if_pos q3).trans e_g3_24_x))
  have e_g3_0_x : g3_0 x0 = (1 : Int32) := ((if_neg q0).trans ((if_pos q1).trans e_g3_12_x))
  have e_f3_x : f3 x0 = (1 : Int32) := e_g3_0_x
  have e_g2_0_x : g2_0 x0 = (1 : Int32) := (if_neg (by rw [e_f3_x]; decide))
  have e_f2_x : f2 x0 = (1 : Int32) := e_g2_0_x
  have e_g1_0_x : g1_0 x0 = (1 : Int32) := (if_neg (by rw [e_f2_x]; decide))
  have e_f1_x : f1 x0 = (1 : Int32) := e_g1_0_x
  have q28 : ¬ x0 < (128 : Int32) := own_nlt h1 (by decide)
  have q29 : (65535 : Int32) < x0 := own_gt h1 (by decide)
  have e_g5_0_x_65536_983039 : g5_0 x0 (65536 : Int32) (983039 : Int32) = (1 : Int32) := ((if_neg q26).trans (if_neg q27))
  have e_f5_x_65536_983039 : f5 x0 (65536 : Int32) (983039 : Int32) = (1 : Int32) := e_g5_0_x_65536_983039
  have e_g4_0_x : g4_0 x0 = (1 : Int32) := ((if_neg q28).trans ((if_pos q29).trans ((congrArg (fun z : Int32 => z &&& 1) e_f5_x_65536_983039).trans (by decide))))
  have e_f4_x : f4 x0 = (1 : Int32) := e_g4_0_x
  rw [e_f1_x, e_f4_x]
theorem own_iv_76 (x0 : Int32) (h1 : (983040 : Int) ≤ x0.toInt) (h2 : x0.toInt < (2147483648 : Int)) : f1 x0 = f4 x0 := by
  have q0 : ¬ x0 < (65 : Int32) := own_nlt h1 (by decide)
  have q1 : (90 : Int32) < x0 := own_gt h1 (by decide)
  have q2 : ¬ x0 < (97 : Int32) := own_nlt h1 (by decide)
  have q3 : (122 : Int32) < x0 := own_gt h1 (by decide)
  have q4 : ¬ x0 < (192 : Int32) := own_nlt h1 (by decide)
  have q5 : (214 : Int32) < x0 := own_gt h1 (by decide)
  have q6 : ¬ x0 < (216 : Int32) := own_nlt h1 (by decide)
  have q7 : (246 : Int32) < x0 := own_gt h1 (by decide)
  have q8 : ¬ x0 < (248 : Int32) := own_nlt h1 (by decide)
  have q9 : (767 : Int32) < x0 := own_gt h1 (by decide)
  have q10 : ¬ x0 < (880 : Int32) := own_nlt h1 (by decide)
  have q11 : (893 : Int32) < x0 := own_gt h1 (by decide)
  have q12 : ¬ x0 < (895 : Int32) := own_nlt h1 (by decide)
  have q13 : (8191 : Int32) < x0 := own_gt h1 (by decide)
  have q14 : ¬ x0 < (8204 : Int32) := own_nlt h1 (by decide)
  have q15 : (8205 : Int32) < x0 := own_gt h1 (by decide)
  have q16 : ¬ x0 < (8304 : Int32) := own_nlt h1 (by decide)
  have q17 : (8591 : Int32) < x0 := own_gt h1 (by decide)
  have q18 : ¬ x0 < (11264 : Int32) := own_nlt h1 (by decide)
  have q19 : (12271 : Int32) < x0 := own_gt h1 (by decide)
  have q20 : ¬ x0 < (12289 : Int32) := own_nlt h1 (by decide)
  have q21 : (55295 : Int32) < x0 := own_gt h1 (by decide)
  have q22 : ¬ x0 < (63744 : Int32) := own_nlt h1 (by decide)
  have q23 : (64975 : Int32) < x0 := own_gt h1 (by decide)
  have q24 : ¬ x0 < (65008 : Int32) := own_nlt h1 (by decide)
  have q25 : (65533 : Int32) < x0 := own_gt h1 (by decide)
  have q26 : ¬ x0 < (65536 : Int32) := own_nlt h1 (by decide)
  have q27 : (983039 : Int32) < x0 := own_gt h1 (by decide)
  have e_g3_178_x : g3_178 x0 = (0 : Int32) := ((if_neg q26).trans (if_pos q27))
  have e_g3_164_x : g3_164 x0 = (0 : Int32) := ((if_neg q24).trans ((if_pos q25).trans e_g3_178_x))
  have e_g3_150_x : g3_150 x0 = (0 : Int32) := ((if_neg q22).trans ((if_pos q23).trans e_g3_164_x))
  have e_g3_136_x : g3_136 x0 = (0 : Int32) := ((if_neg q20).trans ((if_pos q21).trans e_g3_150_x))
  have e_g3_122_x : g3_122 x0 = (0 : Int32) := ((if_neg q18).trans ((if_pos q19).trans e_g3_136_x))
  have e_g3_108_x : g3_108 x0 = (0 : Int32) := ((if_neg q16).trans ((if_pos q17).trans e_g3_122_x))
  have e_g3_94_x : g3_94 x0 = (0 : Int32) := ((if_neg q14).trans ((if_pos q15).trans e_g3_108_x))
  have e_g3_80_x : g3_80 x0 = (0 : Int32) := ((if_neg q12).trans ((if_pos q13).trans e_g3_94_x))
  have e_g3_66_x : g3_66 x0 = (0 : Int32) := ((if_neg q10).trans ((if_pos q11).trans e_g3_80_x))
  have e_g3_52_x : g3_52 x0 = (0 : Int32) := ((if_neg q8).trans ((if_pos q9).trans e_g3_66_x))
  have e_g3_38_x : g3_38 x0 = (0 : Int32) := ((if_neg q6).trans ((if_pos q7).trans e_g3_52_x))
  have e_g3_24_x : g3_24 x0 = (0 : Int32) := ((if_neg q4).trans ((if_pos q5).trans e_g3_38_x))
  have e_g3_12_x : g3_12 x0 = (0 : Int32) := ((if_neg q2).trans ((if_pos q3).trans e_g3_24_x))
  have e_g3_0_x : g3_0 x0 = (0 : Int32) := ((if_neg q0).trans ((if_pos q1).trans e_g3_12_x))
  have e_f3_x : f3 x0 = (0 : Int32) := e_g3_0_x
  have q28 : ¬ x0 = (95 : Int32) := own_ne1 h1 (by decide)
  have e_g2_0_x : g2_0 x0 = (0 : Int32) := ((if_pos (by rw [e_f3_x])).trans (if_neg q28))
  have e_f2_x : f2 x0 = (0 : Int32) := e_g2_0_x
  have q29 : ¬ x0 = (45 : Int32) := own_ne1 h1 (by decide)
  have q30 : ¬ x0 < (48 : Int32) := own_nlt h1 (by decide)
  have q31 : (57 : Int32) < x0 := own_gt h1 (by decide)
  have q32 : ¬ x0 = (183 : Int32) := own_ne1 h1 (by decide)
  have q33 : ¬ x0 < (768 : Int32) := own_nlt h1 (by decide)
  have q34 : (879 : Int32) < x0 := own_gt h1 (by decide)
  have q35 : ¬ x0 = (8255 : Int32) := own_ne1 h1 (by decide)
  have q36 : ¬ x0 = (8256 : Int32) := own_ne1 h1 (by decide)
  have e_g1_46_x : g1_46 x0 = (0 : Int32) := ((if_neg q35).trans (if_neg q36))
  have e_g1_25_x : g1_25 x0 = (0 : Int32) := ((if_neg q32).trans ((if_neg q33).trans ((if_pos q34).trans e_g1_46_x)))
  have e_g1_0_x : g1_0 x0 = (0 : Int32) := ((if_pos (by rw [e_f2_x])).trans ((if_neg q29).trans ((if_neg q30).trans ((if_pos q31).trans e_g1_25_x))))
  have e_f1_x : f1 x0 = (0 : Int32) := e_g1_0_x
  have q37 : ¬ x0 < (128 : Int32) := own_nlt h1 (by decide)
  have q38 : (65535 : Int32) < x0 := own_gt h1 (by decide)
  have e_g5_0_x_65536_983039 : g5_0 x0 (65536 : Int32) (983039 : Int32) = (0 : Int32) := ((if_neg q26).trans (if_pos q27))
  have e_f5_x_65536_983039 : f5 x0 (65536 : Int32) (983039 : Int32) = (0 : Int32) := e_g5_0_x_65536_983039
  have e_g4_0_x : g4_0 x0 = (0 : Int32) := ((if_neg q37).trans ((if_pos q38).trans ((congrArg (fun z : Int32 => z &&& 1) e_f5_x_65536_983039).trans (by decide))))
  have e_f4_x : f4 x0 = (0 : Int32) := e_g4_0_x
  rw [e_f1_x, e_f4_x]
theorem own_same (x0 : Int32) : f1 x0 = f4 x0 := by
  have r := rng32 x0
  by_cases c0 : x0.toInt < (0 : Int)
  · exact own_iv_0 x0 (by omega) c0
  by_cases c1 : x0.toInt < (1 : Int)
  · exact own_iv_1 x0 (by omega) c1
  by_cases c2 : x0.toInt < (2 : Int)
  · exact own_iv_2 x0 (by omega) c2
  by_cases c3 : x0.toInt < (45 : Int)
  · exact own_iv_3 x0 (by omega) c3
  by_cases c4 : x0.toInt < (46 : Int)
  · exact own_iv_4 x0 (by omega) c4
  by_cases c5 : x0.toInt < (48 : Int)
  · exact own_iv_5 x0 (by omega) c5
  by_cases c6 : x0.toInt < (49 : Int)
  · exact own_iv_6 x0 (by omega) c6
  by_cases c7 : x0.toInt < (57 : Int)
  · exact own_iv_7 x0 (by omega) c7
  by_cases c8 : x0.toInt < (58 : Int)
  · exact own_iv_8 x0 (by omega) c8
  by_cases c9 : x0.toInt < (65 : Int)
  · exact own_iv_9 x0 (by omega) c9
  by_cases c10 : x0.toInt < (66 : Int)
  · exact own_iv_10 x0 (by omega) c10
  by_cases c11 : x0.toInt < (90 : Int)
  · exact own_iv_11 x0 (by omega) c11
  by_cases c12 : x0.toInt < (91 : Int)
  · exact own_iv_12 x0 (by omega) c12
  by_cases c13 : x0.toInt < (95 : Int)
  · exact own_iv_13 x0 (by omega) c13
  by_cases c14 : x0.toInt < (96 : Int)
  · exact own_iv_14 x0 (by omega) c14
  by_cases c15 : x0.toInt < (97 : Int)
  · exact own_iv_15 x0 (by omega) c15
  by_cases c16 : x0.toInt < (98 : Int)
  · exact own_iv_16 x0 (by omega) c16
  by_cases c17 : x0.toInt < (122 : Int)
  · exact own_iv_17 x0 (by omega) c17
  by_cases c18 : x0.toInt < (123 : Int)
  · exact own_iv_18 x0 (by omega) c18
  by_cases c19 : x0.toInt < (128 : Int)
  · exact own_iv_19 x0 (by omega) c19
  by_cases c20 : x0.toInt < (129 : Int)
  · exact own_iv_20 x0 (by omega) c20
  by_cases c21 : x0.toInt < (183 : Int)
  · exact own_iv_21 x0 (by omega) c21
  by_cases c22 : x0.toInt < (184 : Int)
  · exact own_iv_22 x0 (by omega) c22
  by_cases c23 : x0.toInt < (192 : Int)
  · exact own_iv_23 x0 (by omega) c23
  by_cases c24 : x0.toInt < (193 : Int)
  · exact own_iv_24 x0 (by omega) c24
  by_cases c25 : x0.toInt < (214 : Int)
  · exact own_iv_25 x0 (by omega) c25
  by_cases c26 : x0.toInt < (215 : Int)
  · exact own_iv_26 x0 (by omega) c26
  by_cases c27 : x0.toInt < (216 : Int)
  · exact own_iv_27 x0 (by omega) c27
  by_cases c28 : x0.toInt < (217 : Int)
  · exact own_iv_28 x0 (by omega) c28
  by_cases c29 : x0.toInt < (246 : Int)
  · exact own_iv_29 x0 (by omega) c29
  by_cases c30 : x0.toInt < (247 : Int)
  · exact own_iv_30 x0 (by omega) c30
  by_cases c31 : x0.toInt < (248 : Int)
  · exact own_iv_31 x0 (by omega) c31
  by_cases c32 : x0.toInt < (249 : Int)
  · exact own_iv_32 x0 (by omega) c32
  by_cases c33 : x0.toInt < (767 : Int)
  · exact own_iv_33 x0 (by omega) c33
  by_cases c34 : x0.toInt < (768 : Int)
  · exact own_iv_34 x0 (by omega) c34
  by_cases c35 : x0.toInt < (769 : Int)
  · exact own_iv_35 x0 (by omega) c35
  by_cases c36 : x0.toInt < (879 : Int)
  · exact own_iv_36 x0 (by omega) c36
  by_cases c37 : x0.toInt < (880 : Int)
  · exact own_iv_37 x0 (by omega) c37
  by_cases c38 : x0.toInt < (881 : Int)
  · exact own_iv_38 x0 (by omega) c38
  by_cases c39 : x0.toInt < (893 : Int)
  · exact own_iv_39 x0 (by omega) c39
  by_cases c40 : x0.toInt < (894 : Int)
  · exact own_iv_40 x0 (by omega) c40
  by_cases c41 : x0.toInt < (895 : Int)
  · exact own_iv_41 x0 (by omega) c41
  by_cases c42 : x0.toInt < (896 : Int)
  · exact own_iv_42 x0 (by omega) c42
  by_cases c43 : x0.toInt < (8191 : Int)
  · exact own_iv_43 x0 (by omega) c43
  by_cases c44 : x0.toInt < (8192 : Int)
  · exact own_iv_44 x0 (by omega) c44
  by_cases c45 : x0.toInt < (8204 : Int)
  · exact own_iv_45 x0 (by omega) c45
  by_cases c46 : x0.toInt < (8205 : Int)
  · exact own_iv_46 x0 (by omega) c46
  by_cases c47 : x0.toInt < (8206 : Int)
  · exact own_iv_47 x0 (by omega) c47
  by_cases c48 : x0.toInt < (8255 : Int)
  · exact own_iv_48 x0 (by omega) c48
  by_cases c49 : x0.toInt < (8256 : Int)
  · exact own_iv_49 x0 (by omega) c49
  by_cases c50 : x0.toInt < (8257 : Int)
  · exact own_iv_50 x0 (by omega) c50
  by_cases c51 : x0.toInt < (8304 : Int)
  · exact own_iv_51 x0 (by omega) c51
  by_cases c52 : x0.toInt < (8305 : Int)
  · exact own_iv_52 x0 (by omega) c52
  by_cases c53 : x0.toInt < (8591 : Int)
  · exact own_iv_53 x0 (by omega) c53
  by_cases c54 : x0.toInt < (8592 : Int)
  · exact own_iv_54 x0 (by omega) c54
  by_cases c55 : x0.toInt < (11264 : Int)
  · exact own_iv_55 x0 (by omega) c55
  by_cases c56 : x0.toInt < (11265 : Int)
  · exact own_iv_56 x0 (by omega) c56
  by_cases c57 : x0.toInt < (12271 : Int)
  · exact own_iv_57 x0 (by omega) c57
  by_cases c58 : x0.toInt < (12272 : Int)
  · exact own_iv_58 x0 (by omega) c58
  by_cases c59 : x0.toInt < (12289 : Int)
  · exact own_iv_59 x0 (by omega) c59
  by_cases c60 : x0.toInt < (12290 : Int)
  · exact own_iv_60 x0 (by omega) c60
  by_cases c61 : x0.toInt < (55295 : Int)
  · exact own_iv_61 x0 (by omega) c61
  by_cases c62 : x0.toInt < (55296 : Int)
  · exact own_iv_62 x0 (by omega) c62
  by_cases c63 : x0.toInt < (63744 : Int)
  · exact own_iv_63 x0 (by omega) c63
  by_cases c64 : x0.toInt < (63745 : Int)
  · exact own_iv_64 x0 (by omega) c64
  by_cases c65 : x0.toInt < (64975 : Int)
  · exact own_iv_65 x0 (by omega) c65
  by_cases c66 : x0.toInt < (64976 : Int)
  · exact own_iv_66 x0 (by omega) c66
  by_cases c67 : x0.toInt < (65008 : Int)
  · exact own_iv_67 x0 (by omega) c67
  by_cases c68 : x0.toInt < (65009 : Int)
  · exact own_iv_68 x0 (by omega) c68
  by_cases c69 : x0.toInt < (65533 : Int)
  · exact own_iv_69 x0 (by omega) c69
  by_cases c70 : x0.toInt < (65534 : Int)
  · exact own_iv_70 x0 (by omega) c70
  by_cases c71 : x0.toInt < (65535 : Int)
  · exact own_iv_71 x0 (by omega) c71
  by_cases c72 : x0.toInt < (65536 : Int)
  · exact own_iv_72 x0 (by omega) c72
  by_cases c73 : x0.toInt < (65537 : Int)
  · exact own_iv_73 x0 (by omega) c73
  by_cases c74 : x0.toInt < (983039 : Int)
  · exact own_iv_74 x0 (by omega) c74
  by_cases c75 : x0.toInt < (983040 : Int)
  · exact own_iv_75 x0 (by omega) c75
  exact own_iv_76 x0 (by omega) (by omega)
theorem own_law (x0 : Int32) : f0 x0 = 1 := by
  unfold f0 g0_0
  exact if_pos (own_same x0)
set_option maxRecDepth 65536 in
set_option maxHeartbeats 40000000 in
theorem comes_1 {Post : Tables → Env → Array Value → State → Outcome → State → Prop} (hpost : ∀ tb e args s v u, (limb_1_1.after args s (.returned v) u = true ∧ limb_1_2.after args s (.returned v) u = true ∧ True) → FrameEnd s (.returned v) u (Jvm.fieldLocs frame_1_writes args s ++ Jvm.arrayLocs frame_1_arrays args s ++ Jvm.staticLocs frame_1_statics s) 0 0 → Post tb e args s (.returned v) u) :
    ArmFor flags0 classFile x code maxLocals ret World_1 tables_1 room_1 Calls_1 rest_1 Pre_1 Post := by
  intro l hfl _ _ p e ha hc hk s m args below hf hA hF happ hP
  obtain ⟨hcalls, hrest, hpre⟩ := hP
  obtain ⟨-, -, -, hnamed, -, -, -, hat⟩ := (Spec.applies_iff hf).mp happ
  obtain ⟨hg, hn⟩ := and_e (Cond.before_iff.mp (show (Jvm.Cond.and given_1 narrow_1).before args s = true from hpre))
  obtain ⟨g1, g2⟩ := and_e hg
  obtain ⟨w0, rfl⟩ : ∃ w0 : Value, args = #[w0] := by
    have hs : args.size = 1 := by simpa [Cond.value, given_1] using g1
    obtain ⟨L⟩ := args
    match L, hs with
    | [w0], _ => exact ⟨w0, rfl⟩
  have hw := fun d (hd : d ∈ tables_1) => atoms_spec (ws := Jvm.Cond.code x code maxLocals ret :: tables_1) hat d (List.mem_cons_of_mem _ hd)
  obtain ⟨i0, ei0⟩ := is_v g2
  obtain rfl : w0 = (.int i0) := Option.some.inj ei0
  obtain ⟨n, o, h1, h2, h3, _, L, rfl, ⟨rfl, N, -⟩, hq⟩ := rm0 l s _ hw tables_1 i0 s.heap s.heap.size p e ha hc hk s m _ below hf ((Spec.applies_iff_loose hf).mp happ).1 ⟨rfl, State.Warmed39.refl s, rfl⟩ trivial
  have hone := own_law i0
  rw [hone] at h3 hq
  refine ⟨n, _, h1, h2, h3, hpost _ _ _ _ _ _ ⟨Cond.after_iff.mpr rfl, Cond.after_iff.mpr (eq_i res_at (Term.int_eval (1)) rfl), trivial⟩ ⟨hq.1, hq.2.1, (hq.2.2.sift fun y hy => Or.inr (N y hy)).mono (by decide) (by decide)⟩⟩
theorem main_1_1 : Claimed_1_1 := comes_1 fun _ _ _ _ _ _ h hF => ⟨h.1, hF⟩
theorem main_1_2 : Claimed_1_2 := comes_1 fun _ _ _ _ _ _ h hF => ⟨h.2.1, hF⟩
end Jvm.Pilot.@@N@@
namespace Jvm.Pilot.@@N@@
open Jvm Jvm.ClassFile Sem Op Lib Jvm.Free Jvm.Stand Jvm.Pilot.@@N@@.Jvm.D
/-! MADE BY PROGRAM (witnessworld.py) out of the Statement's table words and the real class files: 9 classes; the members and pool entries that the words name. The judged class is class 1, her method 3. -/
namespace start1
open Jvm.ClassFile
def u (s : String) : CpInfo := .utf8 (stringToUtf16 s)
/-- a pool by its gaps: so many unusable entries, then the entry; so many at the end -/
def gap : Nat → List CpInfo → List CpInfo
  | 0, r => r
  | n + 1, r => .unusable :: gap n r
def poolList (es : List (Nat × CpInfo)) (last : Nat) : List CpInfo := es.foldr (fun e r => gap e.1 (e.2 :: r)) (gap last [])
def pool (es : List (Nat × CpInfo)) (last : Nat) : Array CpInfo := ⟨poolList es last⟩
def fileOf (pool : Array CpInfo) (this : Nat) (attrs : Array Attribute := #[]) (ms : Array MethodInfo := #[]) (fl : Nat := 33) (sup : Nat := 0) (ifs : Array Nat := #[]) (fds : Array FieldInfo := #[]) : ClassFile where
  minorVersion := 0
  majorVersion := 65
  constantPool := pool
  accessFlags := fl
  thisClass := this
  superClass := sup
  interfaces := ifs
  fields := fds
  methods := ms
  attributes := attrs
def plain (name : String) (sup : Option ClassId) : Class where
  name := name
  kind := .ordinary
  loader := none
  accessFlags := 33
  super := sup
  interfaces := #[]
  cf := none
  fields := #[]
  methods := #[]
  instanceTypes := #[]
  staticTypes := #[]
  resolved := #[]
  callSites := []
  init := .initialized
  statics := none
  mirror := none

def pool0 : Array CpInfo := pool [(5, u "<init>"), (0, u "()V"), (1, .class_ 10), (1, u "java/lang/Object")] 113

def k0m0 : Method := { name := "<init>", desc := "()V", sig := { parameters := [], returnType := none }, accessFlags := 1, code := none }
/-- java/lang/Object -/
def k0 : Class := { plain "java/lang/Object" none with
  accessFlags := 33
  interfaces := #[]
  cf := some (fileOf pool0 8 #[] #[{ accessFlags := 1, nameIndex := 5, descriptorIndex := 6, attributes := #[] }] 33 0 #[] #[])
  fields := #[]
  methods := #[k0m0]
  instanceTypes := #[]
  staticTypes := #[]
  resolved := Array.replicate 124 none
  statics := none }

def pool1 : Array CpInfo := pool [(2, .class_ 4), (1, u "java/lang/Object"), (0, u "<init>"), (0, u "()V"), (0, .methodref 8 9), (0, .class_ 10), (0, .nameAndType 11 12), (0, u "com/example/onto3/onto3/rdf/TermScannerIsNameCharPinLaw"), (0, u "in"), (0, u "(III)Z"), (0, .integer 65535), (0, .integer 55295), (0, .integer 63744), (0, .integer 64975), (0, .integer 65008), (0, .integer 65533), (0, .integer 65536), (0, .integer 983039), (0, .methodref 22 23), (0, .class_ 24), (0, .nameAndType 25 26), (0, u "com/example/onto3/onto3/rdf/TermScanner"), (0, u "isNameChar"), (0, u "(I)Z"), (0, .methodref 8 28), (0, .nameAndType 29 26), (0, u "reference"), (3, u "law")] 2

def k1m0 : Method := { name := "<init>", desc := "()V", sig := { parameters := [], returnType := none }, accessFlags := 2, code := none }
def k1c1 : Code := { maxStack := 2, maxLocals := 3, code := method_2_code, exceptionTable := #[], attributes := #[] }
def k1m1 : Method := { name := "in", desc := "(III)Z", sig := { parameters := [.int, .int, .int], returnType := some .boolean }, accessFlags := 10, code := some k1c1 }
def k1c2 : Code := { maxStack := 3, maxLocals := 1, code := method_3_code, exceptionTable := #[], attributes := #[] }
def k1m2 : Method := { name := "reference", desc := "(I)Z", sig := { parameters := [.int], returnType := some .boolean }, accessFlags := 10, code := some k1c2 }
def k1c3 : Code := { maxStack := 2, maxLocals := 1, code := code, exceptionTable := #[], attributes := #[] }
def k1m3 : Method := { name := "law", desc := "(I)Z", sig := { parameters := [.int], returnType := some .boolean }, accessFlags := 9, code := some k1c3 }
/-- com/example/onto3/onto3/rdf/TermScannerIsNameCharPinLaw -/
def k1 : Class := { plain "com/example/onto3/onto3/rdf/TermScannerIsNameCharPinLaw" (some 0) with
  accessFlags := 49
  interfaces := #[]
  cf := some (fileOf pool1 8 #[] #[{ accessFlags := 2, nameIndex := 5, descriptorIndex := 6, attributes := #[] }, { accessFlags := 10, nameIndex := 11, descriptorIndex := 12, attributes := #[] }, { accessFlags := 10, nameIndex := 29, descriptorIndex := 26, attributes := #[] }, { accessFlags := 9, nameIndex := 33, descriptorIndex := 26, attributes := #[] }] 49 2 #[] #[])
  fields := #[]
  methods := #[k1m0, k1m1, k1m2, k1m3]
  instanceTypes := #[]
  staticTypes := #[]
  resolved := Array.replicate 36 none
  statics := none }

def pool2 : Array CpInfo := pool [(2, .class_ 4), (1, u "com/example/onto3/onto3/rdf/TermScanner"), (3, .class_ 10), (1, u "java/lang/Object"), (3, u "text"), (0, u "Ljava/lang/String;"), (2, u "linesInErrors"), (0, u "Z"), (2, u "pos"), (0, u "I"), (44, u "(I)Z"), (93, u "NUMBERS"), (0, u "Ljava/util/List;"), (45, .methodref 2 210), (0, .nameAndType 211 68), (0, u "isBaseChar"), (9, u "isNameChar"), (15, .methodref 2 238), (0, .nameAndType 239 68), (0, u "isNameStartChar"), (133, .integer 55295), (0, .integer 63744), (0, .integer 64975), (0, .integer 65008), (0, .integer 65533), (0, .integer 65536), (0, .integer 983039), (26, u "HEX_DIGITS"), (1, u "CUT_SHORT"), (2, u "LOCAL_ESCAPES")] 63

def k2c0 : Code := { maxStack := 2, maxLocals := 1, code := prog_39_method_41_code, exceptionTable := #[], attributes := #[] }
def k2m0 : Method := { name := "isBaseChar", desc := "(I)Z", sig := { parameters := [.int], returnType := some .boolean }, accessFlags := 9, code := some k2c0 }
def k2c1 : Code := { maxStack := 2, maxLocals := 1, code := prog_39_method_42_code, exceptionTable := #[], attributes := #[] }
def k2m1 : Method := { name := "isNameStartChar", desc := "(I)Z", sig := { parameters := [.int], returnType := some .boolean }, accessFlags := 9, code := some k2c1 }
def k2c2 : Code := { maxStack := 2, maxLocals := 1, code := prog_39_method_43_code, exceptionTable := #[], attributes := #[] }
def k2m2 : Method := { name := "isNameChar", desc := "(I)Z", sig := { parameters := [.int], returnType := some .boolean }, accessFlags := 9, code := some k2c2 }
/-- com/example/onto3/onto3/rdf/TermScanner -/
def k2 : Class := { plain "com/example/onto3/onto3/rdf/TermScanner" (some 0) with
  accessFlags := 49
  interfaces := #[]
  cf := some (fileOf pool2 2 #[] #[{ accessFlags := 9, nameIndex := 211, descriptorIndex := 68, attributes := #[] }, { accessFlags := 9, nameIndex := 239, descriptorIndex := 68, attributes := #[] }, { accessFlags := 9, nameIndex := 221, descriptorIndex := 68, attributes := #[] }] 49 8 #[] #[{ accessFlags := 26, nameIndex := 406, descriptorIndex := 15, attributes := #[] }, { accessFlags := 26, nameIndex := 408, descriptorIndex := 15, attributes := #[] }, { accessFlags := 26, nameIndex := 162, descriptorIndex := 163, attributes := #[] }, { accessFlags := 26, nameIndex := 411, descriptorIndex := 15, attributes := #[] }, { accessFlags := 18, nameIndex := 14, descriptorIndex := 15, attributes := #[] }, { accessFlags := 18, nameIndex := 18, descriptorIndex := 19, attributes := #[] }, { accessFlags := 2, nameIndex := 22, descriptorIndex := 23, attributes := #[] }])
  fields := #[{ name := "HEX_DIGITS", type := (.object "java/lang/String"), accessFlags := 26, slot := 0, constantValue := 0 }, { name := "CUT_SHORT", type := (.object "java/lang/String"), accessFlags := 26, slot := 1, constantValue := 0 }, { name := "NUMBERS", type := (.object "java/util/List"), accessFlags := 26, slot := 2, constantValue := 0 }, { name := "LOCAL_ESCAPES", type := (.object "java/lang/String"), accessFlags := 26, slot := 3, constantValue := 0 }, { name := "text", type := (.object "java/lang/String"), accessFlags := 18, slot := 0, constantValue := 0 }, { name := "linesInErrors", type := .boolean, accessFlags := 18, slot := 1, constantValue := 0 }, { name := "pos", type := .int, accessFlags := 2, slot := 2, constantValue := 0 }]
  methods := #[k2m0, k2m1, k2m2]
  instanceTypes := #[(.object "java/lang/String"), .boolean, .int]
  staticTypes := #[(.object "java/lang/String"), (.object "java/lang/String"), (.object "java/util/List"), (.object "java/lang/String")]
  resolved := Array.replicate 475 none
  statics := none }

def pool3 : Array CpInfo := pool [(1, u "java/lang/Cloneable"), (0, .class_ 1), (0, u "java/lang/Object"), (0, .class_ 3)] 3

/-- java/lang/Cloneable -/
def k3 : Class := { plain "java/lang/Cloneable" (some 0) with
  accessFlags := 1537
  interfaces := #[]
  cf := some (fileOf pool3 2 #[] #[] 1537 4 #[] #[])
  fields := #[]
  methods := #[]
  instanceTypes := #[]
  staticTypes := #[]
  resolved := Array.replicate 8 none
  statics := none }

def pool4 : Array CpInfo := pool [(1, u "java/io/Serializable"), (0, .class_ 1), (0, u "java/lang/Object"), (0, .class_ 3)] 3

/-- java/io/Serializable -/
def k4 : Class := { plain "java/io/Serializable" (some 0) with
  accessFlags := 1537
  interfaces := #[]
  cf := some (fileOf pool4 2 #[] #[] 1537 4 #[] #[])
  fields := #[]
  methods := #[]
  instanceTypes := #[]
  staticTypes := #[]
  resolved := Array.replicate 8 none
  statics := none }

/-- the primitive byte -/
def k5 : Class := { plain "byte" none with kind := .primitive 'B', accessFlags := 0x411 }
/-- [B -/
def k6 : Class := { plain "[B" (some 0) with kind := .array 5 .byte, interfaces := #[3, 4], accessFlags := 1041 }

/-- the primitive int -/
def k7 : Class := { plain "int" none with kind := .primitive 'I', accessFlags := 0x411 }
/-- [I -/
def k8 : Class := { plain "[I" (some 0) with kind := .array 7 .int, interfaces := #[3, 4], accessFlags := 1041 }

def heap : Heap := #[]
def classes : Array Class := #[k0, k1, k2, k3, k4, k5, k6, k7, k8]
def interned : List (Array UInt16 × Addr) := []
def slotsUsed : Nat := 0
def theMethod : MethodId := ⟨1, 3⟩
def args0 : Array Value := #[.int 65]
def aboutOver (below : List Frame) : State where
  vm := { classes := classes, interned := interned.toArray }
  heap := heap
  slotsUsed := slotsUsed
  threads := #[{ frames := .invoking theMethod args0 :: below }]
def below0 : List Frame := [.native { method := ⟨0, 0⟩, args := #[] }]
def about1 : State := aboutOver below0
def p0 : Program := .bare "" "" ""
def e0 : Env := launch0.env 0 0 0
theorem w_frames : about1.frames = Frame.invoking theMethod args0 :: below0 := rfl
set_option maxRecDepth 65536 in
theorem w_args : argsFit about1.vm theMethod args0 = true := by decide +kernel
set_option maxRecDepth 65536 in
theorem w_heap : heapFits about1 = true := by decide +kernel
set_option maxRecDepth 65536 in
theorem w_runnable : about1.curStatus? = some .runnable := by decide +kernel
set_option maxRecDepth 65536 in
theorem w_alone : about1.alone = true := by decide +kernel
set_option maxRecDepth 65536 in
theorem w_named : about1.methodNamed? x = some theMethod := by decide +kernel
set_option maxRecDepth 65536 in
theorem w_hears : about1.hears theMethod below0 = true := by decide +kernel
set_option maxRecDepth 65536 in
theorem w_ripe : about1.ripe theMethod args0 below0 = true := by decide +kernel
theorem w_running : about1.status = .running := rfl
set_option maxRecDepth 65536 in
theorem w_room : about1.hasRoom e0.platform room_1 = true :=
  launch0.hasRoom_least _ room_1 (by decide +kernel) (by decide +kernel) (by decide +kernel) (by decide +kernel) (by decide +kernel) (by decide +kernel)
theorem allAtoms_all (ts : List Jvm.Cond) (a : Array Jvm.Value) (st : Jvm.State) : (allAtoms ts).before a st = ts.all (fun c => c.before a st) := by
  induction ts with
  | nil => rfl
  | cons c t ih =>
    show (Jvm.Cond.and c (allAtoms t)).before a st = _
    rw [Jvm.Cond.before_and, ih, List.all_cons]
def words1 : List Jvm.Cond := Jvm.Cond.code x code maxLocals ret :: tables_1
/-- a 'code' word, met by the world's own term for the bytes: nothing is compared byte by byte -/
theorem code_word {y : MethodName} {bytes : ByteArray} {mx : Nat} {rt : Option FieldType} {a : Array Value} {s : State} {m : MethodId} {meth : Method} {c : Code} (h1 : s.methodNamed? y = some m) (h2 : s.vm.method? m = some meth) (h3 : meth.code = some c) (h4 : c.code = bytes)
    (h5 : (c.maxLocals == mx && c.exceptionTable.isEmpty && decide (c.maxStack ≤ mostOperands) && decide (meth.sig.returnType = rt) && !meth.locks && decide (parseMethodDescriptor y.desc = some meth.sig)) = true) : (Jvm.Cond.code y bytes mx rt).before a s = true := by
  simp only [Bool.and_eq_true, beq_iff_eq, Bool.not_eq_true', decide_eq_true_eq] at h5
  obtain ⟨⟨⟨⟨⟨g1, g2⟩, g3⟩, g4⟩, g5⟩, g6⟩ := h5
  simp [Cond.before, Cond.holds, Cond.value, h1, h2, h3, h4, g1, g2, g3, g4, g5, g6]
def isCode : Jvm.Cond → Bool
  | .code _ _ _ _ => true
  | _ => false
theorem all_split {L : List Jvm.Cond} {P : Jvm.Cond → Bool} (h1 : L.all (fun c => isCode c || P c) = true) (h2 : ∀ c ∈ L.filter isCode, P c = true) : L.all P = true := by
  refine List.all_eq_true.mpr fun c hc => ?_
  have h := List.all_eq_true.mp h1 c hc
  rcases Bool.eq_false_or_eq_true (isCode c) with hi | hi
  · exact h2 c (List.mem_filter.mpr ⟨hc, hi⟩)
  · simpa [hi] using h
set_option maxRecDepth 65536 in
theorem w_c0 : (Jvm.Cond.code x code maxLocals ret).before args0 about1 = true := code_word (m := ⟨1, 3⟩) (meth := k1m3) (c := k1c3) (by decide +kernel) rfl rfl rfl (by decide +kernel)
set_option maxRecDepth 65536 in
theorem w_c1 : (Jvm.Cond.code ({ cls := "com/example/onto3/onto3/rdf/TermScanner", name := "isNameChar", desc := "(I)Z" } : Jvm.MethodName) prog_39_method_43_code (1 : Nat) (Option.some Jvm.ClassFile.FieldType.boolean)).before args0 about1 = true := code_word (m := ⟨2, 2⟩) (meth := k2m2) (c := k2c2) (by decide +kernel) rfl rfl rfl (by decide +kernel)
set_option maxRecDepth 65536 in
theorem w_c2 : (Jvm.Cond.code ({ cls := "com/example/onto3/onto3/rdf/TermScanner", name := "isNameStartChar", desc := "(I)Z" } : Jvm.MethodName) prog_39_method_42_code (1 : Nat) (Option.some Jvm.ClassFile.FieldType.boolean)).before args0 about1 = true := code_word (m := ⟨2, 1⟩) (meth := k2m1) (c := k2c1) (by decide +kernel) rfl rfl rfl (by decide +kernel)
set_option maxRecDepth 65536 in
theorem w_c3 : (Jvm.Cond.code ({ cls := "com/example/onto3/onto3/rdf/TermScanner", name := "isBaseChar", desc := "(I)Z" } : Jvm.MethodName) prog_39_method_41_code (1 : Nat) (Option.some Jvm.ClassFile.FieldType.boolean)).before args0 about1 = true := code_word (m := ⟨2, 0⟩) (meth := k2m0) (c := k2c0) (by decide +kernel) rfl rfl rfl (by decide +kernel)
set_option maxRecDepth 65536 in
theorem w_c4 : (Jvm.Cond.code ({ cls := "com/example/onto3/onto3/rdf/TermScannerIsNameCharPinLaw", name := "reference", desc := "(I)Z" } : Jvm.MethodName) method_3_code (1 : Nat) (Option.some Jvm.ClassFile.FieldType.boolean)).before args0 about1 = true := code_word (m := ⟨1, 2⟩) (meth := k1m2) (c := k1c2) (by decide +kernel) rfl rfl rfl (by decide +kernel)
set_option maxRecDepth 65536 in
theorem w_c5 : (Jvm.Cond.code ({ cls := "com/example/onto3/onto3/rdf/TermScannerIsNameCharPinLaw", name := "in", desc := "(III)Z" } : Jvm.MethodName) method_2_code (3 : Nat) (Option.some Jvm.ClassFile.FieldType.boolean)).before args0 about1 = true := code_word (m := ⟨1, 1⟩) (meth := k1m1) (c := k1c1) (by decide +kernel) rfl rfl rfl (by decide +kernel)
def codes1 : List Jvm.Cond := [Jvm.Cond.code x code maxLocals ret, Jvm.Cond.code ({ cls := "com/example/onto3/onto3/rdf/TermScanner", name := "isNameChar", desc := "(I)Z" } : Jvm.MethodName) prog_39_method_43_code (1 : Nat) (Option.some Jvm.ClassFile.FieldType.boolean), Jvm.Cond.code ({ cls := "com/example/onto3/onto3/rdf/TermScanner", name := "isNameStartChar", desc := "(I)Z" } : Jvm.MethodName) prog_39_method_42_code (1 : Nat) (Option.some Jvm.ClassFile.FieldType.boolean), Jvm.Cond.code ({ cls := "com/example/onto3/onto3/rdf/TermScanner", name := "isBaseChar", desc := "(I)Z" } : Jvm.MethodName) prog_39_method_41_code (1 : Nat) (Option.some Jvm.ClassFile.FieldType.boolean), Jvm.Cond.code ({ cls := "com/example/onto3/onto3/rdf/TermScannerIsNameCharPinLaw", name := "reference", desc := "(I)Z" } : Jvm.MethodName) method_3_code (1 : Nat) (Option.some Jvm.ClassFile.FieldType.boolean), Jvm.Cond.code ({ cls := "com/example/onto3/onto3/rdf/TermScannerIsNameCharPinLaw", name := "in", desc := "(III)Z" } : Jvm.MethodName) method_2_code (3 : Nat) (Option.some Jvm.ClassFile.FieldType.boolean)]
set_option maxRecDepth 65536 in
theorem codes_eq : words1.filter isCode = codes1 := rfl
theorem w_codes : ∀ c ∈ words1.filter isCode, c.before args0 about1 = true := by
  rw [codes_eq]
  intro c hc
  simp only [codes1, List.mem_cons, List.not_mem_nil, or_false] at hc
  rcases hc with rfl | rfl | rfl | rfl | rfl | rfl
  · exact w_c0
  · exact w_c1
  · exact w_c2
  · exact w_c3
  · exact w_c4
  · exact w_c5
set_option maxRecDepth 65536 in
theorem w_t1 : (words1.take 24).all (fun c => isCode c || c.before args0 about1) = true := by decide +kernel
set_option maxRecDepth 65536 in
theorem w_t2 : (words1.drop 24).all (fun c => isCode c || c.before args0 about1) = true := by decide +kernel
theorem w_tables : (allAtoms (Jvm.Cond.code x code maxLocals ret :: tables_1)).before args0 about1 = true := by
  rw [allAtoms_all]
  show words1.all (fun c => c.before args0 about1) = true
  refine all_split ?_ w_codes
  rw [← List.take_append_drop 24 words1, List.all_append, w_t1, w_t2]
  rfl
set_option maxRecDepth 65536 in
theorem w_case : (Jvm.Cond.and given_1 narrow_1).before args0 about1 = true := by decide +kernel
theorem w_applies : (headSpec (Jvm.Cond.code x code maxLocals ret :: tables_1) room_1).applies x e0.platform about1 = true :=
  (Spec.applies_iff w_frames).mpr ⟨w_running, w_runnable, w_alone, w_named, w_hears, w_ripe, w_room, w_tables⟩
theorem atStart : AtStart classFile x code maxLocals ret World_1 tables_1 room_1 Calls_1 rest_1 Pre_1 launch0 p0 e0 about1 theMethod args0 below0 :=
  ⟨lists_1, trivial, launch0.admits_env _ _ _, launch0.least_env, fairChoices_fair.cas, fairChoices_fair.clock, w_frames, w_args, w_heap, w_applies, trivial, trivial, w_case⟩
end start1
theorem witness_1 : WitnessClaimed_1 := ⟨start1.p0, start1.e0, start1.about1, start1.theMethod, start1.args0, start1.below0, start1.atStart⟩
end Jvm.Pilot.@@N@@
